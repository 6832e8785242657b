import JvmDerived
import JvmDerived.Pilot.@@N@@Statement
import JvmDerived.Pilot.@@N@@Code
set_option linter.unusedVariables false
set_option linter.unusedSimpArgs false
namespace Jvm.Wk
abbrev F4 := Fin 4
abbrev F2 := Fin 2
open Sem ClassFile Op Lib Jvm.Stand Jvm.Free Jvm.LawKit Jvm.RoadKit
/-- the array at a holds just these values -/
def Ary (Z : State) (h : Heap) (a : Addr) (ty : FieldType) (vs : List Value) : Prop :=
  ∃ c : Cell, Arr Z h a c ty ∧ c.slots.toList = vs ∧ (∀ v ∈ vs, fits ty v = true) ∧ vs.length < 2 ^ 31
def Endz (p : Program) (e : Env) (below : List Frame) (s : State) (R : Room) (n0 : Nat) (P : Option Value → Heap → Prop) (T : State) (g : JFrame) : Prop :=
  ∃ s₂ o, Steps p.tables e below (T.setTop g) s₂ ∧ s₂.status = .running ∧ Ended s₂ below o ∧ ∃ v L, o = .returned v ∧ (P v s₂.heap ∧ Fr n0 L) ∧ FrameEnd s o s₂ L R.cells R.slots
/-- from pc, with these locals, this stack and this heap, the body comes to its end, and P holds there -/
def W (l : Launch) (R : Room) (Z : State) (own nm : String) (bytes : ByteArray) (maxL : Nat) (ret : Option FieldType) (n0 : Nat) (P : Option Value → Heap → Prop) (h : Heap) (cells slots pc : Nat) (Ls : Array Slot) (st : List Value) : Prop :=
  ∀ (p : Program) (e : Env) (s : State) (m : MethodId) (args : Array Value) (below : List Frame) (meth : Method) (c : Code) (T : State) (locs : List Loc),
    p.tables.exec = Jvm.exec → Z.Warmed39 s.vm → c.code = bytes → c.maxLocals = maxL → s.vm.findClass own = some m.cls → meth.sig.returnType = ret → meth.locks = false → meth.name = nm → n0 ≤ s.heap.size →
    Stand p l e R s m args below meth c T locs cells slots → T.heap = h → Fr n0 locs → Endz p e below s R n0 P T (mkF m pc Ls st)
/-- a method's contract where it is called with these arguments over this heap -/
def ConW (ws : List Jvm.Cond) (l : Launch) (Z : State) (y : MethodName) (bytes : ByteArray) (maxL : Nat) (ret : Option FieldType) (rm : Room) (as : Array Value) (h : Heap) (n0 : Nat) (P : Option Value → Heap → Prop) : Prop :=
  MetFree l y (head1 (Jvm.Cond.code y bytes maxL ret :: ws) rm) (fun a U => a = as ∧ Z.Warmed39 U.vm ∧ U.heap = h) (fun _ _ _ _ _ => True) (fun _ U o U' => ∃ v L, o = .returned v ∧ (P v U'.heap ∧ Fr n0 L) ∧ FrameEnd U o U' L rm.cells rm.slots)
abbrev Con := ConW []
section Rules
variable {l : Launch} {R : Room} {Z : State} {own nm : String} {bytes : ByteArray} {maxL : Nat} {ret : Option FieldType} {n0 : Nat} {P : Option Value → Heap → Prop} {h : Heap} {cells slots pc : Nat} {Ls : Array Slot} {st : List Value} {a0 : Array Value}
theorem Endz.step {p : Program} {e : Env} {below : List Frame} {s : State} {T T' : State} {g g' : JFrame} (k : Endz p e below s R n0 P T' g') (f : ∀ t, Steps p.tables e below (T'.setTop g') t → Steps p.tables e below (T.setTop g) t) : Endz p e below s R n0 P T g := by
  obtain ⟨s₂, o, h1, h2⟩ := k
  exact ⟨s₂, o, f _ h1, h2⟩
theorem W.step {pc' : Nat} {Ls' : Array Slot} {st' : List Value} (k : W l R Z own nm bytes maxL ret n0 P h cells slots pc' Ls' st')
    (f : ∀ (p : Program) (e : Env) (s : State) (m : MethodId) (args : Array Value) (below : List Frame) (meth : Method) (c : Code) (T : State) (locs : List Loc), p.tables.exec = Jvm.exec → Z.Warmed39 s.vm → c.code = bytes → s.vm.findClass own = some m.cls → Stand p l e R s m args below meth c T locs cells slots → T.heap = h →
      ∀ t, Steps p.tables e below (T.setTop (mkF m pc' Ls' st')) t → Steps p.tables e below (T.setTop (mkF m pc Ls st)) t) : W l R Z own nm bytes maxL ret n0 P h cells slots pc Ls st := by
  intro p e s m args below meth c T locs hx hZ hby hml hown hret hlk hnm hn0 X eT N
  exact (k p e s m args below meth c T locs hx hZ hby hml hown hret hlk hnm hn0 X eT N).step (f p e s m args below meth c T locs hx hZ hby hown X eT)
theorem W.post {P' : Option Value → Heap → Prop} (k : W l R Z own nm bytes maxL ret n0 P' h cells slots pc Ls st) (f : ∀ v h', P' v h' → P v h') : W l R Z own nm bytes maxL ret n0 P h cells slots pc Ls st := by
  intro p e s m args below meth c T locs hx hZ hby hml hown hret hlk hnm hn0 X eT N
  obtain ⟨s₂, o, h1, h2, h3, v, L, h4, h5, h6⟩ := k p e s m args below meth c T locs hx hZ hby hml hown hret hlk hnm hn0 X eT N
  exact ⟨s₂, o, h1, h2, h3, v, L, h4, ⟨f _ _ h5.1, h5.2⟩, h6⟩
theorem W.mono {cells' slots' : Nat} (k : W l R Z own nm bytes maxL ret n0 P h cells' slots' pc Ls st) (hc : cells ≤ cells') (hs : slots ≤ slots') : W l R Z own nm bytes maxL ret n0 P h cells slots pc Ls st := by
  intro p e s m args below meth c T locs hx hZ hby hml hown hret hlk hnm hn0 X eT N
  exact k p e s m args below meth c T locs hx hZ hby hml hown hret hlk hnm hn0 { X with same := X.same.mono hc hs } eT N
theorem ConW.post {ws : List Jvm.Cond} {y : MethodName} {rm : Room} {as : Array Value} {P' : Option Value → Heap → Prop} (k : ConW ws l Z y bytes maxL ret rm as h n0 P') (f : ∀ v h', P' v h' → P v h') : ConW ws l Z y bytes maxL ret rm as h n0 P := by
  intro p e ha hc hk s m args below hf happ hP hK
  obtain ⟨n, o, h1, h2, h3, v, L, h4, h5, h6⟩ := k p e ha hc hk s m args below hf happ hP hK
  exact ⟨n, o, h1, h2, h3, v, L, h4, ⟨f _ _ h5.1, h5.2⟩, h6⟩
theorem ConW.of_W {ws : List Jvm.Cond} {y : MethodName} {rm : Room} {as : Array Value} (hy : plainFor y = true) (hn : n0 ≤ h.size) (hef : ∀ m, entryFrame m as maxL = mkF m 0 Ls []) (k : W l rm Z y.cls y.name bytes maxL ret n0 P h 0 0 0 Ls []) : ConW ws l Z y bytes maxL ret rm as h n0 P := by
  refine MetFree.of_bodySF hy hisR ?_
  intro p e s m args below meth c s₁ Bd hml0 hP hK
  obtain ⟨rfl, hZ, hh⟩ := hP
  have hown : s.vm.findClass y.cls = some m.cls := findClass_of_methodNamed Bd.named
  have hnm := (name_of_methodNamed Bd.named Bd.method).1
  have X0 : Stand p l e rm s m _ below meth c s₁ [] 0 0 := Stand.of_body Bd
  have e0 : s₁.heap = h := by rw [← hh, Bd.state]; rfl
  obtain ⟨s₂, o, h1, h2⟩ := k p e s m _ below meth c s₁ [] Bd.exec hZ Bd.bytes hml0 hown Bd.returns (BodyLoose.notSynchronized Bd) hnm (by rw [hh]; exact hn) X0 e0 (Fr.nil n0)
  exact ⟨s₂, o, castTop (hef m) h1, h2⟩
/-! pure steps -/
theorem W.iadd {x y : Int32} (n : Nat) (hd : decode bytes pc = .ok (.iadd, 1)) (hn : pc + 1 = n) (v : Int32) (hv : x + y = v) (k : W l R Z own nm bytes maxL ret n0 P h cells slots n Ls (.int v :: st)) : W l R Z own nm bytes maxL ret n0 P h cells slots pc Ls (.int y :: .int x :: st) := by
  subst hn
  exact k.step fun p e s m args below meth c T locs hx hZ hby hown X eT t q => XS.iadd X.here hx rfl (hb hby hd) rfl (hv ▸ q)
theorem W.ladd {x y : Int64} (n : Nat) (hd : decode bytes pc = .ok (.ladd, 1)) (hn : pc + 1 = n) (v : Int64) (hv : x + y = v) (k : W l R Z own nm bytes maxL ret n0 P h cells slots n Ls (.long v :: st)) : W l R Z own nm bytes maxL ret n0 P h cells slots pc Ls (.long y :: .long x :: st) := by
  subst hn
  exact k.step fun p e s m args below meth c T locs hx hZ hby hown X eT t q => XS.ladd X.here hx rfl (hb hby hd) rfl (hv ▸ q)
theorem W.isub {x y : Int32} (n : Nat) (hd : decode bytes pc = .ok (.isub, 1)) (hn : pc + 1 = n) (v : Int32) (hv : x - y = v) (k : W l R Z own nm bytes maxL ret n0 P h cells slots n Ls (.int v :: st)) : W l R Z own nm bytes maxL ret n0 P h cells slots pc Ls (.int y :: .int x :: st) := by
  subst hn
  exact k.step fun p e s m args below meth c T locs hx hZ hby hown X eT t q => XS.isub X.here hx rfl (hb hby hd) rfl (hv ▸ q)
theorem W.lsub {x y : Int64} (n : Nat) (hd : decode bytes pc = .ok (.lsub, 1)) (hn : pc + 1 = n) (v : Int64) (hv : x - y = v) (k : W l R Z own nm bytes maxL ret n0 P h cells slots n Ls (.long v :: st)) : W l R Z own nm bytes maxL ret n0 P h cells slots pc Ls (.long y :: .long x :: st) := by
  subst hn
  exact k.step fun p e s m args below meth c T locs hx hZ hby hown X eT t q => XS.lsub X.here hx rfl (hb hby hd) rfl (hv ▸ q)
theorem W.imul {x y : Int32} (n : Nat) (hd : decode bytes pc = .ok (.imul, 1)) (hn : pc + 1 = n) (v : Int32) (hv : x * y = v) (k : W l R Z own nm bytes maxL ret n0 P h cells slots n Ls (.int v :: st)) : W l R Z own nm bytes maxL ret n0 P h cells slots pc Ls (.int y :: .int x :: st) := by
  subst hn
  exact k.step fun p e s m args below meth c T locs hx hZ hby hown X eT t q => XS.imul X.here hx rfl (hb hby hd) rfl (hv ▸ q)
theorem W.lmul {x y : Int64} (n : Nat) (hd : decode bytes pc = .ok (.lmul, 1)) (hn : pc + 1 = n) (v : Int64) (hv : x * y = v) (k : W l R Z own nm bytes maxL ret n0 P h cells slots n Ls (.long v :: st)) : W l R Z own nm bytes maxL ret n0 P h cells slots pc Ls (.long y :: .long x :: st) := by
  subst hn
  exact k.step fun p e s m args below meth c T locs hx hZ hby hown X eT t q => XS.lmul X.here hx rfl (hb hby hd) rfl (hv ▸ q)
theorem W.iand {x y : Int32} (n : Nat) (hd : decode bytes pc = .ok (.iand, 1)) (hn : pc + 1 = n) (v : Int32) (hv : x &&& y = v) (k : W l R Z own nm bytes maxL ret n0 P h cells slots n Ls (.int v :: st)) : W l R Z own nm bytes maxL ret n0 P h cells slots pc Ls (.int y :: .int x :: st) := by
  subst hn
  exact k.step fun p e s m args below meth c T locs hx hZ hby hown X eT t q => XS.iand X.here hx rfl (hb hby hd) rfl (hv ▸ q)
theorem W.land {x y : Int64} (n : Nat) (hd : decode bytes pc = .ok (.land, 1)) (hn : pc + 1 = n) (v : Int64) (hv : x &&& y = v) (k : W l R Z own nm bytes maxL ret n0 P h cells slots n Ls (.long v :: st)) : W l R Z own nm bytes maxL ret n0 P h cells slots pc Ls (.long y :: .long x :: st) := by
  subst hn
  exact k.step fun p e s m args below meth c T locs hx hZ hby hown X eT t q => XS.land X.here hx rfl (hb hby hd) rfl (hv ▸ q)
theorem W.ior {x y : Int32} (n : Nat) (hd : decode bytes pc = .ok (.ior, 1)) (hn : pc + 1 = n) (v : Int32) (hv : x ||| y = v) (k : W l R Z own nm bytes maxL ret n0 P h cells slots n Ls (.int v :: st)) : W l R Z own nm bytes maxL ret n0 P h cells slots pc Ls (.int y :: .int x :: st) := by
  subst hn
  exact k.step fun p e s m args below meth c T locs hx hZ hby hown X eT t q => XS.ior X.here hx rfl (hb hby hd) rfl (hv ▸ q)
theorem W.lor {x y : Int64} (n : Nat) (hd : decode bytes pc = .ok (.lor, 1)) (hn : pc + 1 = n) (v : Int64) (hv : x ||| y = v) (k : W l R Z own nm bytes maxL ret n0 P h cells slots n Ls (.long v :: st)) : W l R Z own nm bytes maxL ret n0 P h cells slots pc Ls (.long y :: .long x :: st) := by
  subst hn
  exact k.step fun p e s m args below meth c T locs hx hZ hby hown X eT t q => XS.lor X.here hx rfl (hb hby hd) rfl (hv ▸ q)
theorem W.ixor {x y : Int32} (n : Nat) (hd : decode bytes pc = .ok (.ixor, 1)) (hn : pc + 1 = n) (v : Int32) (hv : x ^^^ y = v) (k : W l R Z own nm bytes maxL ret n0 P h cells slots n Ls (.int v :: st)) : W l R Z own nm bytes maxL ret n0 P h cells slots pc Ls (.int y :: .int x :: st) := by
  subst hn
  exact k.step fun p e s m args below meth c T locs hx hZ hby hown X eT t q => XS.ixor X.here hx rfl (hb hby hd) rfl (hv ▸ q)
theorem W.lxor {x y : Int64} (n : Nat) (hd : decode bytes pc = .ok (.lxor, 1)) (hn : pc + 1 = n) (v : Int64) (hv : x ^^^ y = v) (k : W l R Z own nm bytes maxL ret n0 P h cells slots n Ls (.long v :: st)) : W l R Z own nm bytes maxL ret n0 P h cells slots pc Ls (.long y :: .long x :: st) := by
  subst hn
  exact k.step fun p e s m args below meth c T locs hx hZ hby hown X eT t q => XS.lxor X.here hx rfl (hb hby hd) rfl (hv ▸ q)
theorem W.idiv {x y : Int32} (n : Nat) (hd : decode bytes pc = .ok (.idiv, 1)) (hn : pc + 1 = n) (hy : y ≠ 0) (v : Int32) (hv : x / y = v) (k : W l R Z own nm bytes maxL ret n0 P h cells slots n Ls (.int v :: st)) : W l R Z own nm bytes maxL ret n0 P h cells slots pc Ls (.int y :: .int x :: st) := by
  subst hn
  exact k.step fun p e s m args below meth c T locs hx hZ hby hown X eT t q => XS.idiv X.here hx rfl (hb hby hd) rfl hy (hv ▸ q)
theorem W.irem {x y : Int32} (n : Nat) (hd : decode bytes pc = .ok (.irem, 1)) (hn : pc + 1 = n) (hy : y ≠ 0) (v : Int32) (hv : x % y = v) (k : W l R Z own nm bytes maxL ret n0 P h cells slots n Ls (.int v :: st)) : W l R Z own nm bytes maxL ret n0 P h cells slots pc Ls (.int y :: .int x :: st) := by
  subst hn
  exact k.step fun p e s m args below meth c T locs hx hZ hby hown X eT t q => iremM X hx rfl (hb hby hd) rfl hy (hv ▸ q)
theorem W.ldiv {x y : Int64} (n : Nat) (hd : decode bytes pc = .ok (.ldiv, 1)) (hn : pc + 1 = n) (hy : y ≠ 0) (v : Int64) (hv : x / y = v) (k : W l R Z own nm bytes maxL ret n0 P h cells slots n Ls (.long v :: st)) : W l R Z own nm bytes maxL ret n0 P h cells slots pc Ls (.long y :: .long x :: st) := by
  subst hn
  exact k.step fun p e s m args below meth c T locs hx hZ hby hown X eT t q => XS.ldiv X.here hx rfl (hb hby hd) rfl hy (hv ▸ q)
theorem W.lrem {x y : Int64} (n : Nat) (hd : decode bytes pc = .ok (.lrem, 1)) (hn : pc + 1 = n) (hy : y ≠ 0) (v : Int64) (hv : x % y = v) (k : W l R Z own nm bytes maxL ret n0 P h cells slots n Ls (.long v :: st)) : W l R Z own nm bytes maxL ret n0 P h cells slots pc Ls (.long y :: .long x :: st) := by
  subst hn
  exact k.step fun p e s m args below meth c T locs hx hZ hby hown X eT t q => XS.lrem X.here hx rfl (hb hby hd) rfl hy ((lrem_mod x y).trans hv ▸ q)
theorem W.ishl {x y : Int32} (n : Nat) (hd : decode bytes pc = .ok (.ishl, 1)) (hn : pc + 1 = n) (v : Int32) (hv : x <<< (y &&& 31) = v) (k : W l R Z own nm bytes maxL ret n0 P h cells slots n Ls (.int v :: st)) : W l R Z own nm bytes maxL ret n0 P h cells slots pc Ls (.int y :: .int x :: st) := by
  subst hn
  exact k.step fun p e s m args below meth c T locs hx hZ hby hown X eT t q => XS.ishl X.here hx rfl (hb hby hd) rfl (hv ▸ q)
theorem W.ishr {x y : Int32} (n : Nat) (hd : decode bytes pc = .ok (.ishr, 1)) (hn : pc + 1 = n) (v : Int32) (hv : x >>> (y &&& 31) = v) (k : W l R Z own nm bytes maxL ret n0 P h cells slots n Ls (.int v :: st)) : W l R Z own nm bytes maxL ret n0 P h cells slots pc Ls (.int y :: .int x :: st) := by
  subst hn
  exact k.step fun p e s m args below meth c T locs hx hZ hby hown X eT t q => XS.ishr X.here hx rfl (hb hby hd) rfl (hv ▸ q)
theorem W.iushr {x y : Int32} (n : Nat) (hd : decode bytes pc = .ok (.iushr, 1)) (hn : pc + 1 = n) (v : Int32) (hv : (x.toUInt32 >>> (y &&& 31).toUInt32).toInt32 = v) (k : W l R Z own nm bytes maxL ret n0 P h cells slots n Ls (.int v :: st)) : W l R Z own nm bytes maxL ret n0 P h cells slots pc Ls (.int y :: .int x :: st) := by
  subst hn
  exact k.step fun p e s m args below meth c T locs hx hZ hby hown X eT t q => XS.iushr X.here hx rfl (hb hby hd) rfl (hv ▸ q)
theorem W.lshl {x : Int64} {y : Int32} (n : Nat) (hd : decode bytes pc = .ok (.lshl, 1)) (hn : pc + 1 = n) (v : Int64) (hv : x <<< (y &&& 0x3f).toInt64 = v) (k : W l R Z own nm bytes maxL ret n0 P h cells slots n Ls (.long v :: st)) : W l R Z own nm bytes maxL ret n0 P h cells slots pc Ls (.int y :: .long x :: st) := by
  subst hn
  exact k.step fun p e s m args below meth c T locs hx hZ hby hown X eT t q => XS.lshl X.here hx rfl (hb hby hd) rfl (hv ▸ q)
theorem W.lshr {x : Int64} {y : Int32} (n : Nat) (hd : decode bytes pc = .ok (.lshr, 1)) (hn : pc + 1 = n) (v : Int64) (hv : x >>> (y &&& 0x3f).toInt64 = v) (k : W l R Z own nm bytes maxL ret n0 P h cells slots n Ls (.long v :: st)) : W l R Z own nm bytes maxL ret n0 P h cells slots pc Ls (.int y :: .long x :: st) := by
  subst hn
  exact k.step fun p e s m args below meth c T locs hx hZ hby hown X eT t q => XS.lshr X.here hx rfl (hb hby hd) rfl (hv ▸ q)
theorem W.lushr {x : Int64} {y : Int32} (n : Nat) (hd : decode bytes pc = .ok (.lushr, 1)) (hn : pc + 1 = n) (v : Int64) (hv : (x.toUInt64 >>> (y &&& 0x3f).toInt64.toUInt64).toInt64 = v) (k : W l R Z own nm bytes maxL ret n0 P h cells slots n Ls (.long v :: st)) : W l R Z own nm bytes maxL ret n0 P h cells slots pc Ls (.int y :: .long x :: st) := by
  subst hn
  exact k.step fun p e s m args below meth c T locs hx hZ hby hown X eT t q => XS.lushr X.here hx rfl (hb hby hd) rfl (hv ▸ q)
theorem W.ineg {x : Int32} (n : Nat) (hd : decode bytes pc = .ok (.ineg, 1)) (hn : pc + 1 = n) (v : Int32) (hv : -x = v) (k : W l R Z own nm bytes maxL ret n0 P h cells slots n Ls (.int v :: st)) : W l R Z own nm bytes maxL ret n0 P h cells slots pc Ls (.int x :: st) := by
  subst hn
  exact k.step fun p e s m args below meth c T locs hx hZ hby hown X eT t q => XS.ineg X.here hx rfl (hb hby hd) rfl (hv ▸ q)
theorem W.lneg {x : Int64} (n : Nat) (hd : decode bytes pc = .ok (.lneg, 1)) (hn : pc + 1 = n) (v : Int64) (hv : -x = v) (k : W l R Z own nm bytes maxL ret n0 P h cells slots n Ls (.long v :: st)) : W l R Z own nm bytes maxL ret n0 P h cells slots pc Ls (.long x :: st) := by
  subst hn
  exact k.step fun p e s m args below meth c T locs hx hZ hby hown X eT t q => XS.lneg X.here hx rfl (hb hby hd) rfl (hv ▸ q)
theorem W.i2l {x : Int32} (n : Nat) (hd : decode bytes pc = .ok (.i2l, 1)) (hn : pc + 1 = n) (v : Int64) (hv : x.toInt64 = v) (k : W l R Z own nm bytes maxL ret n0 P h cells slots n Ls (.long v :: st)) : W l R Z own nm bytes maxL ret n0 P h cells slots pc Ls (.int x :: st) := by
  subst hn
  exact k.step fun p e s m args below meth c T locs hx hZ hby hown X eT t q => XS.i2l X.here hx rfl (hb hby hd) rfl (hv ▸ q)
theorem W.l2i {x : Int64} (n : Nat) (hd : decode bytes pc = .ok (.l2i, 1)) (hn : pc + 1 = n) (v : Int32) (hv : x.toInt32 = v) (k : W l R Z own nm bytes maxL ret n0 P h cells slots n Ls (.int v :: st)) : W l R Z own nm bytes maxL ret n0 P h cells slots pc Ls (.long x :: st) := by
  subst hn
  exact k.step fun p e s m args below meth c T locs hx hZ hby hown X eT t q => XS.l2i X.here hx rfl (hb hby hd) rfl (hv ▸ q)
theorem W.i2b {x : Int32} (n : Nat) (hd : decode bytes pc = .ok (.i2b, 1)) (hn : pc + 1 = n) (v : Int32) (hv : x.toInt8.toInt32 = v) (k : W l R Z own nm bytes maxL ret n0 P h cells slots n Ls (.int v :: st)) : W l R Z own nm bytes maxL ret n0 P h cells slots pc Ls (.int x :: st) := by
  subst hn
  exact k.step fun p e s m args below meth c T locs hx hZ hby hown X eT t q => XS.i2b X.here hx rfl (hb hby hd) rfl (hv ▸ q)
theorem W.i2s {x : Int32} (n : Nat) (hd : decode bytes pc = .ok (.i2s, 1)) (hn : pc + 1 = n) (v : Int32) (hv : x.toInt16.toInt32 = v) (k : W l R Z own nm bytes maxL ret n0 P h cells slots n Ls (.int v :: st)) : W l R Z own nm bytes maxL ret n0 P h cells slots pc Ls (.int x :: st) := by
  subst hn
  exact k.step fun p e s m args below meth c T locs hx hZ hby hown X eT t q => XS.i2s X.here hx rfl (hb hby hd) rfl (hv ▸ q)
theorem W.i2c {x : Int32} (n : Nat) (hd : decode bytes pc = .ok (.i2c, 1)) (hn : pc + 1 = n) (v : Int32) (hv : x.toUInt32.toUInt16.toUInt32.toInt32 = v) (k : W l R Z own nm bytes maxL ret n0 P h cells slots n Ls (.int v :: st)) : W l R Z own nm bytes maxL ret n0 P h cells slots pc Ls (.int x :: st) := by
  subst hn
  exact k.step fun p e s m args below meth c T locs hx hZ hby hown X eT t q => XS.i2c X.here hx rfl (hb hby hd) rfl (hv ▸ q)
theorem W.lcmp {x y : Int64} (n : Nat) (hd : decode bytes pc = .ok (.lcmp, 1)) (hn : pc + 1 = n) (v : Int32) (hv : lcmpW x y = v) (k : W l R Z own nm bytes maxL ret n0 P h cells slots n Ls (.int v :: st)) : W l R Z own nm bytes maxL ret n0 P h cells slots pc Ls (.long y :: .long x :: st) := by
  subst hn
  exact k.step fun p e s m args below meth c T locs hx hZ hby hown X eT t q => XS.lcmp X.here hx rfl (hb hby hd) rfl ((show (if x > y then 1 else if x = y then 0 else -1) = v from hv) ▸ q)
theorem W.iconst {i : Int} (n : Nat) (hd : decode bytes pc = .ok (.iconst i, 1)) (hn : pc + 1 = n) (v : Int32) (hv : Int32.ofInt i = v) (k : W l R Z own nm bytes maxL ret n0 P h cells slots n Ls (.int v :: st)) : W l R Z own nm bytes maxL ret n0 P h cells slots pc Ls st := by
  subst hn
  exact k.step fun p e s m args below meth c T locs hx hZ hby hown X eT t q => XS.iconst X.here hx rfl (hb hby hd) (hv ▸ q)
theorem W.bipush {i : Int} (n : Nat) (hd : decode bytes pc = .ok (.bipush i, 2)) (hn : pc + 2 = n) (v : Int32) (hv : (Int8.ofInt i).toInt32 = v) (k : W l R Z own nm bytes maxL ret n0 P h cells slots n Ls (.int v :: st)) : W l R Z own nm bytes maxL ret n0 P h cells slots pc Ls st := by
  subst hn
  exact k.step fun p e s m args below meth c T locs hx hZ hby hown X eT t q => XS.bipush X.here hx rfl (hb hby hd) (hv ▸ q)
theorem W.sipush {i : Int} (n : Nat) (hd : decode bytes pc = .ok (.sipush i, 3)) (hn : pc + 3 = n) (v : Int32) (hv : (Int16.ofInt i).toInt32 = v) (k : W l R Z own nm bytes maxL ret n0 P h cells slots n Ls (.int v :: st)) : W l R Z own nm bytes maxL ret n0 P h cells slots pc Ls st := by
  subst hn
  exact k.step fun p e s m args below meth c T locs hx hZ hby hown X eT t q => XS.sipush X.here hx rfl (hb hby hd) (hv ▸ q)
theorem W.lconst {i : F2} (n : Nat) (hd : decode bytes pc = .ok (.lconst i, 1)) (hn : pc + 1 = n) (v : Int64) (hv : Int64.ofNat i = v) (k : W l R Z own nm bytes maxL ret n0 P h cells slots n Ls (.long v :: st)) : W l R Z own nm bytes maxL ret n0 P h cells slots pc Ls st := by
  subst hn
  exact k.step fun p e s m args below meth c T locs hx hZ hby hown X eT t q => XS.lconst X.here hx rfl (hb hby hd) (hv ▸ q)
theorem W.aconst_null (n : Nat) (hd : decode bytes pc = .ok (.aconst_null, 1)) (hn : pc + 1 = n) (k : W l R Z own nm bytes maxL ret n0 P h cells slots n Ls (.null :: st)) : W l R Z own nm bytes maxL ret n0 P h cells slots pc Ls st := by
  subst hn
  exact k.step fun p e s m args below meth c T locs hx hZ hby hown X eT t q => XS.aconstNull X.here hx rfl (hb hby hd) q
theorem W.ldcI {i : Nat} {v : Int32} (n : Nat) (hd : decode bytes pc = .ok (.ldc i, 2)) (hn : pc + 2 = n) (w : (Jvm.Cond.constant own i v).before a0 Z = true) (k : W l R Z own nm bytes maxL ret n0 P h cells slots n Ls (.int v :: st)) : W l R Z own nm bytes maxL ret n0 P h cells slots pc Ls st := by
  subst hn
  exact k.step fun p e s m args below meth c T locs hx hZ hby hown X eT t q => X.ldcI hx hown (mvT hZ w) rfl (hb hby hd) q
theorem W.ldcWI {i : Nat} {v : Int32} (n : Nat) (hd : decode bytes pc = .ok (.ldc_w i, 3)) (hn : pc + 3 = n) (w : (Jvm.Cond.constant own i v).before a0 Z = true) (k : W l R Z own nm bytes maxL ret n0 P h cells slots n Ls (.int v :: st)) : W l R Z own nm bytes maxL ret n0 P h cells slots pc Ls st := by
  subst hn
  exact k.step fun p e s m args below meth c T locs hx hZ hby hown X eT t q => X.ldcWI hx hown (mvT hZ w) rfl (hb hby hd) q
theorem W.ldc2J {i : Nat} {v : Int64} (n : Nat) (hd : decode bytes pc = .ok (.ldc2_w i, 3)) (hn : pc + 3 = n) (w : (Jvm.Cond.constantLong own i v).before a0 Z = true) (k : W l R Z own nm bytes maxL ret n0 P h cells slots n Ls (.long v :: st)) : W l R Z own nm bytes maxL ret n0 P h cells slots pc Ls st := by
  subst hn
  exact k.step fun p e s m args below meth c T locs hx hZ hby hown X eT t q => X.ldc2J hx hown (mvT hZ w) rfl (hb hby hd) q
theorem W.ldcR {i : Nat} {text : String} {a : Addr} (n : Nat) (hd : decode bytes pc = .ok (.ldc i, 2)) (hn : pc + 2 = n) (w : (Jvm.Cond.stringRef own i text).before a0 Z = true) (L : RoadKit.Lit Z own i a) (k : W l R Z own nm bytes maxL ret n0 P h cells slots n Ls (.ref a :: st)) : W l R Z own nm bytes maxL ret n0 P h cells slots pc Ls st := by
  subst hn
  exact k.step fun p e s m args below meth c T locs hx hZ hby hown X eT t q => RoadKit.ldcR X hx hZ hown w L (g := mkF m pc Ls st) rfl (hb hby hd) t q
theorem W.iload {i : Nat} {v : Int32} (n : Nat) (hd : decode bytes pc = .ok (.iload i, 2)) (hn : pc + 2 = n) (hl : Ls[i]? = some (.val (.int v))) (k : W l R Z own nm bytes maxL ret n0 P h cells slots n Ls (.int v :: st)) : W l R Z own nm bytes maxL ret n0 P h cells slots pc Ls st := by
  subst hn
  exact k.step fun p e s m args below meth c T locs hx hZ hby hown X eT t q => XS.iload X.here hx rfl (hb hby hd) hl q
theorem W.iloadN {i : F4} {v : Int32} (n : Nat) (hd : decode bytes pc = .ok (.iload_n i, 1)) (hn : pc + 1 = n) (hl : Ls[i.val]? = some (.val (.int v))) (k : W l R Z own nm bytes maxL ret n0 P h cells slots n Ls (.int v :: st)) : W l R Z own nm bytes maxL ret n0 P h cells slots pc Ls st := by
  subst hn
  exact k.step fun p e s m args below meth c T locs hx hZ hby hown X eT t q => XS.iloadN X.here hx rfl (hb hby hd) hl q
theorem W.lload {i : Nat} {v : Int64} (n : Nat) (hd : decode bytes pc = .ok (.lload i, 2)) (hn : pc + 2 = n) (hl : Ls[i]? = some (.val (.long v))) (k : W l R Z own nm bytes maxL ret n0 P h cells slots n Ls (.long v :: st)) : W l R Z own nm bytes maxL ret n0 P h cells slots pc Ls st := by
  subst hn
  exact k.step fun p e s m args below meth c T locs hx hZ hby hown X eT t q => XS.lload X.here hx rfl (hb hby hd) hl q
theorem W.lloadN {i : F4} {v : Int64} (n : Nat) (hd : decode bytes pc = .ok (.lload_n i, 1)) (hn : pc + 1 = n) (hl : Ls[i.val]? = some (.val (.long v))) (k : W l R Z own nm bytes maxL ret n0 P h cells slots n Ls (.long v :: st)) : W l R Z own nm bytes maxL ret n0 P h cells slots pc Ls st := by
  subst hn
  exact k.step fun p e s m args below meth c T locs hx hZ hby hown X eT t q => XS.lloadN X.here hx rfl (hb hby hd) hl q
theorem W.aload {i : Nat} {v : Value} (n : Nat) (hd : decode bytes pc = .ok (.aload i, 2)) (hn : pc + 2 = n) (hl : Ls[i]? = some (.val v)) (hv : v.isRef = true) (k : W l R Z own nm bytes maxL ret n0 P h cells slots n Ls (v :: st)) : W l R Z own nm bytes maxL ret n0 P h cells slots pc Ls st := by
  subst hn
  exact k.step fun p e s m args below meth c T locs hx hZ hby hown X eT t q => XS.aload X.here hx rfl (hb hby hd) hl hv q
theorem W.aloadN {i : F4} {v : Value} (n : Nat) (hd : decode bytes pc = .ok (.aload_n i, 1)) (hn : pc + 1 = n) (hl : Ls[i.val]? = some (.val v)) (hv : v.isRef = true) (k : W l R Z own nm bytes maxL ret n0 P h cells slots n Ls (v :: st)) : W l R Z own nm bytes maxL ret n0 P h cells slots pc Ls st := by
  subst hn
  exact k.step fun p e s m args below meth c T locs hx hZ hby hown X eT t q => XS.aloadN X.here hx rfl (hb hby hd) hl hv q
theorem W.istore {i : Nat} {v : Int32} (n : Nat) (hd : decode bytes pc = .ok (.istore i, 2)) (hn : pc + 2 = n) (Ls' : Array Slot) (hl : storeLocals Ls i (.int v) = some Ls') (k : W l R Z own nm bytes maxL ret n0 P h cells slots n Ls' st) : W l R Z own nm bytes maxL ret n0 P h cells slots pc Ls (.int v :: st) := by
  subst hn
  exact k.step fun p e s m args below meth c T locs hx hZ hby hown X eT t q => XS.istore X.here hx rfl (hb hby hd) rfl hl q
theorem W.istoreN {i : F4} {v : Int32} (n : Nat) (hd : decode bytes pc = .ok (.istore_n i, 1)) (hn : pc + 1 = n) (Ls' : Array Slot) (hl : storeLocals Ls i.val (.int v) = some Ls') (k : W l R Z own nm bytes maxL ret n0 P h cells slots n Ls' st) : W l R Z own nm bytes maxL ret n0 P h cells slots pc Ls (.int v :: st) := by
  subst hn
  exact k.step fun p e s m args below meth c T locs hx hZ hby hown X eT t q => XS.istoreN X.here hx rfl (hb hby hd) rfl hl q
theorem W.lstore {i : Nat} {v : Int64} (n : Nat) (hd : decode bytes pc = .ok (.lstore i, 2)) (hn : pc + 2 = n) (Ls' : Array Slot) (hl : storeLocals Ls i (.long v) = some Ls') (k : W l R Z own nm bytes maxL ret n0 P h cells slots n Ls' st) : W l R Z own nm bytes maxL ret n0 P h cells slots pc Ls (.long v :: st) := by
  subst hn
  exact k.step fun p e s m args below meth c T locs hx hZ hby hown X eT t q => XS.lstore X.here hx rfl (hb hby hd) rfl hl q
theorem W.lstoreN {i : F4} {v : Int64} (n : Nat) (hd : decode bytes pc = .ok (.lstore_n i, 1)) (hn : pc + 1 = n) (Ls' : Array Slot) (hl : storeLocals Ls i.val (.long v) = some Ls') (k : W l R Z own nm bytes maxL ret n0 P h cells slots n Ls' st) : W l R Z own nm bytes maxL ret n0 P h cells slots pc Ls (.long v :: st) := by
  subst hn
  exact k.step fun p e s m args below meth c T locs hx hZ hby hown X eT t q => XS.lstoreN X.here hx rfl (hb hby hd) rfl hl q
theorem W.astore {i : Nat} {v : Value} (n : Nat) (hd : decode bytes pc = .ok (.astore i, 2)) (hn : pc + 2 = n) (hv : v.isRef = true) (Ls' : Array Slot) (hl : storeLocals Ls i v = some Ls') (k : W l R Z own nm bytes maxL ret n0 P h cells slots n Ls' st) : W l R Z own nm bytes maxL ret n0 P h cells slots pc Ls (v :: st) := by
  subst hn
  exact k.step fun p e s m args below meth c T locs hx hZ hby hown X eT t q => XS.astore X.here hx rfl (hb hby hd) rfl hv hl q
theorem W.astoreN {i : F4} {v : Value} (n : Nat) (hd : decode bytes pc = .ok (.astore_n i, 1)) (hn : pc + 1 = n) (hv : v.isRef = true) (Ls' : Array Slot) (hl : storeLocals Ls i.val v = some Ls') (k : W l R Z own nm bytes maxL ret n0 P h cells slots n Ls' st) : W l R Z own nm bytes maxL ret n0 P h cells slots pc Ls (v :: st) := by
  subst hn
  exact k.step fun p e s m args below meth c T locs hx hZ hby hown X eT t q => XS.astoreN X.here hx rfl (hb hby hd) rfl hv hl q
theorem W.iinc {i : Nat} {cst : Int} {x : Int32} (n : Nat) (hd : decode bytes pc = .ok (.iinc i cst, 3)) (hn : pc + 3 = n) (hx0 : Ls[i]? = some (.val (.int x))) (v : Int32) (hv : x + Int32.ofInt cst = v) (Ls' : Array Slot) (hl : storeLocals Ls i (.int v) = some Ls') (k : W l R Z own nm bytes maxL ret n0 P h cells slots n Ls' st) : W l R Z own nm bytes maxL ret n0 P h cells slots pc Ls st := by
  subst hn
  exact k.step fun p e s m args below meth c T locs hx hZ hby hown X eT t q => XS.iinc X.here hx rfl (hb hby hd) hx0 (hv ▸ hl) q
theorem W.dup {v : Value} (n : Nat) (hd : decode bytes pc = .ok (.dup, 1)) (hn : pc + 1 = n) (hc : v.category = 1) (k : W l R Z own nm bytes maxL ret n0 P h cells slots n Ls (v :: v :: st)) : W l R Z own nm bytes maxL ret n0 P h cells slots pc Ls (v :: st) := by
  subst hn
  exact k.step fun p e s m args below meth c T locs hx hZ hby hown X eT t q => XS.dup X.here hx rfl (hb hby hd) rfl hc q
theorem W.pop {v : Value} (n : Nat) (hd : decode bytes pc = .ok (.pop, 1)) (hn : pc + 1 = n) (hc : v.category = 1) (k : W l R Z own nm bytes maxL ret n0 P h cells slots n Ls st) : W l R Z own nm bytes maxL ret n0 P h cells slots pc Ls (v :: st) := by
  subst hn
  exact k.step fun p e s m args below meth c T locs hx hZ hby hown X eT t q => XS.pop X.here hx rfl (hb hby hd) rfl hc q
theorem W.dup_x1 {v w : Value} (n : Nat) (hd : decode bytes pc = .ok (.dup_x1, 1)) (hn : pc + 1 = n) (hc : v.category = 1) (hc' : w.category = 1) (k : W l R Z own nm bytes maxL ret n0 P h cells slots n Ls (v :: w :: v :: st)) : W l R Z own nm bytes maxL ret n0 P h cells slots pc Ls (v :: w :: st) := by
  subst hn
  exact k.step fun p e s m args below meth c T locs hx hZ hby hown X eT t q => XS.dupX1 X.here hx rfl (hb hby hd) rfl hc hc' q
theorem W.dup2 {v w : Value} (n : Nat) (hd : decode bytes pc = .ok (.dup2, 1)) (hn : pc + 1 = n) (hc : v.category = 1) (hc' : w.category = 1) (k : W l R Z own nm bytes maxL ret n0 P h cells slots n Ls (v :: w :: v :: w :: st)) : W l R Z own nm bytes maxL ret n0 P h cells slots pc Ls (v :: w :: st) := by
  subst hn
  exact k.step fun p e s m args below meth c T locs hx hZ hby hown X eT t q => XT.dup2 X.here hx rfl (hb hby hd) rfl hc hc' q
theorem W.goto {o : Int} (n : Nat) (hd : decode bytes pc = .ok (.goto o, 3)) (hn : (pc : Int) + o = (n : Int)) (k : W l R Z own nm bytes maxL ret n0 P h cells slots n Ls st) : W l R Z own nm bytes maxL ret n0 P h cells slots pc Ls st :=
  k.step fun p e s m args below meth c T locs hx hZ hby hown X eT t q => XS.goto X.here hx rfl (pc0 := pc) (pc' := n) rfl (hb hby hd) (by omega) (by omega) q
theorem W.icmp_lt {x y : Int32} {o : Int} (n n' : Nat) (hd : decode bytes pc = .ok (.if_icmp .lt o, 3)) (hn : (pc : Int) + o = (n : Int)) (hn' : pc + 3 = n') (k : x < y → W l R Z own nm bytes maxL ret n0 P h cells slots n Ls st) (k' : ¬ x < y → W l R Z own nm bytes maxL ret n0 P h cells slots n' Ls st) : W l R Z own nm bytes maxL ret n0 P h cells slots pc Ls (.int y :: .int x :: st) := by
  subst hn'
  by_cases hc : x < y
  · exact (k hc).step fun p e s m args below meth c T locs hx hZ hby hown X eT t q => XS.icmpYes X.here hx rfl (pc0 := pc) (pc' := n) rfl (hb hby hd) rfl (tlt hc).1 (by omega) (by omega) q
  · exact (k' hc).step fun p e s m args below meth c T locs hx hZ hby hown X eT t q => XS.icmpNo X.here hx rfl (hb hby hd) rfl (flt hc).1 q
theorem W.if_lt {x : Int32} {o : Int} (n n' : Nat) (hd : decode bytes pc = .ok (.ifCond .lt o, 3)) (hn : (pc : Int) + o = (n : Int)) (hn' : pc + 3 = n') (k : x < (0 : Int32) → W l R Z own nm bytes maxL ret n0 P h cells slots n Ls st) (k' : ¬ x < (0 : Int32) → W l R Z own nm bytes maxL ret n0 P h cells slots n' Ls st) : W l R Z own nm bytes maxL ret n0 P h cells slots pc Ls (.int x :: st) := by
  subst hn'
  by_cases hc : x < (0 : Int32)
  · exact (k hc).step fun p e s m args below meth c T locs hx hZ hby hown X eT t q => XS.ifYes X.here hx rfl (pc0 := pc) (pc' := n) rfl (hb hby hd) rfl ((if0 _ _).trans (tlt hc).1) (by omega) (by omega) q
  · exact (k' hc).step fun p e s m args below meth c T locs hx hZ hby hown X eT t q => XS.ifNo X.here hx rfl (hb hby hd) rfl ((if0 _ _).trans (flt hc).1) q
theorem W.icmp_ge {x y : Int32} {o : Int} (n n' : Nat) (hd : decode bytes pc = .ok (.if_icmp .ge o, 3)) (hn : (pc : Int) + o = (n : Int)) (hn' : pc + 3 = n') (k : ¬ x < y → W l R Z own nm bytes maxL ret n0 P h cells slots n Ls st) (k' : x < y → W l R Z own nm bytes maxL ret n0 P h cells slots n' Ls st) : W l R Z own nm bytes maxL ret n0 P h cells slots pc Ls (.int y :: .int x :: st) := by
  subst hn'
  by_cases hc : x < y
  · exact (k' hc).step fun p e s m args below meth c T locs hx hZ hby hown X eT t q => XS.icmpNo X.here hx rfl (hb hby hd) rfl (tlt hc).2.1 q
  · exact (k hc).step fun p e s m args below meth c T locs hx hZ hby hown X eT t q => XS.icmpYes X.here hx rfl (pc0 := pc) (pc' := n) rfl (hb hby hd) rfl (flt hc).2.1 (by omega) (by omega) q
theorem W.if_ge {x : Int32} {o : Int} (n n' : Nat) (hd : decode bytes pc = .ok (.ifCond .ge o, 3)) (hn : (pc : Int) + o = (n : Int)) (hn' : pc + 3 = n') (k : ¬ x < (0 : Int32) → W l R Z own nm bytes maxL ret n0 P h cells slots n Ls st) (k' : x < (0 : Int32) → W l R Z own nm bytes maxL ret n0 P h cells slots n' Ls st) : W l R Z own nm bytes maxL ret n0 P h cells slots pc Ls (.int x :: st) := by
  subst hn'
  by_cases hc : x < (0 : Int32)
  · exact (k' hc).step fun p e s m args below meth c T locs hx hZ hby hown X eT t q => XS.ifNo X.here hx rfl (hb hby hd) rfl ((if0 _ _).trans (tlt hc).2.1) q
  · exact (k hc).step fun p e s m args below meth c T locs hx hZ hby hown X eT t q => XS.ifYes X.here hx rfl (pc0 := pc) (pc' := n) rfl (hb hby hd) rfl ((if0 _ _).trans (flt hc).2.1) (by omega) (by omega) q
theorem W.icmp_gt {x y : Int32} {o : Int} (n n' : Nat) (hd : decode bytes pc = .ok (.if_icmp .gt o, 3)) (hn : (pc : Int) + o = (n : Int)) (hn' : pc + 3 = n') (k : y < x → W l R Z own nm bytes maxL ret n0 P h cells slots n Ls st) (k' : ¬ y < x → W l R Z own nm bytes maxL ret n0 P h cells slots n' Ls st) : W l R Z own nm bytes maxL ret n0 P h cells slots pc Ls (.int y :: .int x :: st) := by
  subst hn'
  by_cases hc : y < x
  · exact (k hc).step fun p e s m args below meth c T locs hx hZ hby hown X eT t q => XS.icmpYes X.here hx rfl (pc0 := pc) (pc' := n) rfl (hb hby hd) rfl (tlt hc).2.2.1 (by omega) (by omega) q
  · exact (k' hc).step fun p e s m args below meth c T locs hx hZ hby hown X eT t q => XS.icmpNo X.here hx rfl (hb hby hd) rfl (flt hc).2.2.1 q
theorem W.if_gt {x : Int32} {o : Int} (n n' : Nat) (hd : decode bytes pc = .ok (.ifCond .gt o, 3)) (hn : (pc : Int) + o = (n : Int)) (hn' : pc + 3 = n') (k : (0 : Int32) < x → W l R Z own nm bytes maxL ret n0 P h cells slots n Ls st) (k' : ¬ (0 : Int32) < x → W l R Z own nm bytes maxL ret n0 P h cells slots n' Ls st) : W l R Z own nm bytes maxL ret n0 P h cells slots pc Ls (.int x :: st) := by
  subst hn'
  by_cases hc : (0 : Int32) < x
  · exact (k hc).step fun p e s m args below meth c T locs hx hZ hby hown X eT t q => XS.ifYes X.here hx rfl (pc0 := pc) (pc' := n) rfl (hb hby hd) rfl ((if0 _ _).trans (tlt hc).2.2.1) (by omega) (by omega) q
  · exact (k' hc).step fun p e s m args below meth c T locs hx hZ hby hown X eT t q => XS.ifNo X.here hx rfl (hb hby hd) rfl ((if0 _ _).trans (flt hc).2.2.1) q
theorem W.icmp_le {x y : Int32} {o : Int} (n n' : Nat) (hd : decode bytes pc = .ok (.if_icmp .le o, 3)) (hn : (pc : Int) + o = (n : Int)) (hn' : pc + 3 = n') (k : ¬ y < x → W l R Z own nm bytes maxL ret n0 P h cells slots n Ls st) (k' : y < x → W l R Z own nm bytes maxL ret n0 P h cells slots n' Ls st) : W l R Z own nm bytes maxL ret n0 P h cells slots pc Ls (.int y :: .int x :: st) := by
  subst hn'
  by_cases hc : y < x
  · exact (k' hc).step fun p e s m args below meth c T locs hx hZ hby hown X eT t q => XS.icmpNo X.here hx rfl (hb hby hd) rfl (tlt hc).2.2.2 q
  · exact (k hc).step fun p e s m args below meth c T locs hx hZ hby hown X eT t q => XS.icmpYes X.here hx rfl (pc0 := pc) (pc' := n) rfl (hb hby hd) rfl (flt hc).2.2.2 (by omega) (by omega) q
theorem W.if_le {x : Int32} {o : Int} (n n' : Nat) (hd : decode bytes pc = .ok (.ifCond .le o, 3)) (hn : (pc : Int) + o = (n : Int)) (hn' : pc + 3 = n') (k : ¬ (0 : Int32) < x → W l R Z own nm bytes maxL ret n0 P h cells slots n Ls st) (k' : (0 : Int32) < x → W l R Z own nm bytes maxL ret n0 P h cells slots n' Ls st) : W l R Z own nm bytes maxL ret n0 P h cells slots pc Ls (.int x :: st) := by
  subst hn'
  by_cases hc : (0 : Int32) < x
  · exact (k' hc).step fun p e s m args below meth c T locs hx hZ hby hown X eT t q => XS.ifNo X.here hx rfl (hb hby hd) rfl ((if0 _ _).trans (tlt hc).2.2.2) q
  · exact (k hc).step fun p e s m args below meth c T locs hx hZ hby hown X eT t q => XS.ifYes X.here hx rfl (pc0 := pc) (pc' := n) rfl (hb hby hd) rfl ((if0 _ _).trans (flt hc).2.2.2) (by omega) (by omega) q
theorem W.icmp_eq {x y : Int32} {o : Int} (n n' : Nat) (hd : decode bytes pc = .ok (.if_icmp .eq o, 3)) (hn : (pc : Int) + o = (n : Int)) (hn' : pc + 3 = n') (k : x = y → W l R Z own nm bytes maxL ret n0 P h cells slots n Ls st) (k' : ¬ x = y → W l R Z own nm bytes maxL ret n0 P h cells slots n' Ls st) : W l R Z own nm bytes maxL ret n0 P h cells slots pc Ls (.int y :: .int x :: st) := by
  subst hn'
  by_cases hc : x = y
  · exact (k hc).step fun p e s m args below meth c T locs hx hZ hby hown X eT t q => XS.icmpYes X.here hx rfl (pc0 := pc) (pc' := n) rfl (hb hby hd) rfl (teq hc).1 (by omega) (by omega) q
  · exact (k' hc).step fun p e s m args below meth c T locs hx hZ hby hown X eT t q => XS.icmpNo X.here hx rfl (hb hby hd) rfl (feq hc).1 q
theorem W.if_eq {x : Int32} {o : Int} (n n' : Nat) (hd : decode bytes pc = .ok (.ifCond .eq o, 3)) (hn : (pc : Int) + o = (n : Int)) (hn' : pc + 3 = n') (k : x = (0 : Int32) → W l R Z own nm bytes maxL ret n0 P h cells slots n Ls st) (k' : ¬ x = (0 : Int32) → W l R Z own nm bytes maxL ret n0 P h cells slots n' Ls st) : W l R Z own nm bytes maxL ret n0 P h cells slots pc Ls (.int x :: st) := by
  subst hn'
  by_cases hc : x = (0 : Int32)
  · exact (k hc).step fun p e s m args below meth c T locs hx hZ hby hown X eT t q => XS.ifYes X.here hx rfl (pc0 := pc) (pc' := n) rfl (hb hby hd) rfl ((if0 _ _).trans (teq hc).1) (by omega) (by omega) q
  · exact (k' hc).step fun p e s m args below meth c T locs hx hZ hby hown X eT t q => XS.ifNo X.here hx rfl (hb hby hd) rfl ((if0 _ _).trans (feq hc).1) q
theorem W.icmp_ne {x y : Int32} {o : Int} (n n' : Nat) (hd : decode bytes pc = .ok (.if_icmp .ne o, 3)) (hn : (pc : Int) + o = (n : Int)) (hn' : pc + 3 = n') (k : ¬ x = y → W l R Z own nm bytes maxL ret n0 P h cells slots n Ls st) (k' : x = y → W l R Z own nm bytes maxL ret n0 P h cells slots n' Ls st) : W l R Z own nm bytes maxL ret n0 P h cells slots pc Ls (.int y :: .int x :: st) := by
  subst hn'
  by_cases hc : x = y
  · exact (k' hc).step fun p e s m args below meth c T locs hx hZ hby hown X eT t q => XS.icmpNo X.here hx rfl (hb hby hd) rfl (teq hc).2 q
  · exact (k hc).step fun p e s m args below meth c T locs hx hZ hby hown X eT t q => XS.icmpYes X.here hx rfl (pc0 := pc) (pc' := n) rfl (hb hby hd) rfl (feq hc).2 (by omega) (by omega) q
theorem W.if_ne {x : Int32} {o : Int} (n n' : Nat) (hd : decode bytes pc = .ok (.ifCond .ne o, 3)) (hn : (pc : Int) + o = (n : Int)) (hn' : pc + 3 = n') (k : ¬ x = (0 : Int32) → W l R Z own nm bytes maxL ret n0 P h cells slots n Ls st) (k' : x = (0 : Int32) → W l R Z own nm bytes maxL ret n0 P h cells slots n' Ls st) : W l R Z own nm bytes maxL ret n0 P h cells slots pc Ls (.int x :: st) := by
  subst hn'
  by_cases hc : x = (0 : Int32)
  · exact (k' hc).step fun p e s m args below meth c T locs hx hZ hby hown X eT t q => XS.ifNo X.here hx rfl (hb hby hd) rfl ((if0 _ _).trans (teq hc).2) q
  · exact (k hc).step fun p e s m args below meth c T locs hx hZ hby hown X eT t q => XS.ifYes X.here hx rfl (pc0 := pc) (pc' := n) rfl (hb hby hd) rfl ((if0 _ _).trans (feq hc).2) (by omega) (by omega) q
theorem W.ifnull_null {o : Int} (n : Nat) (hd : decode bytes pc = .ok (.ifnull o, 3)) (hn : (pc : Int) + o = (n : Int)) (k : W l R Z own nm bytes maxL ret n0 P h cells slots n Ls st) : W l R Z own nm bytes maxL ret n0 P h cells slots pc Ls (.null :: st) := by
  exact k.step fun p e s m args below meth c T locs hx hZ hby hown X eT t q => XS.ifnullYes X.here hx rfl (pc0 := pc) (pc' := n) rfl (hb hby hd) rfl (by omega) (by omega) q
theorem W.ifnull_ref {o : Int} {a : Addr} (n : Nat) (hd : decode bytes pc = .ok (.ifnull o, 3)) (hn : pc + 3 = n) (k : W l R Z own nm bytes maxL ret n0 P h cells slots n Ls st) : W l R Z own nm bytes maxL ret n0 P h cells slots pc Ls (.ref a :: st) := by
  subst hn
  exact k.step fun p e s m args below meth c T locs hx hZ hby hown X eT t q => XS.ifnullNo X.here hx rfl (hb hby hd) rfl q
theorem W.ifnonnull_null {o : Int} (n : Nat) (hd : decode bytes pc = .ok (.ifnonnull o, 3)) (hn : pc + 3 = n) (k : W l R Z own nm bytes maxL ret n0 P h cells slots n Ls st) : W l R Z own nm bytes maxL ret n0 P h cells slots pc Ls (.null :: st) := by
  subst hn
  exact k.step fun p e s m args below meth c T locs hx hZ hby hown X eT t q => XS.ifnonnullNo X.here hx rfl (hb hby hd) rfl q
theorem W.ifnonnull_ref {o : Int} {a : Addr} (n : Nat) (hd : decode bytes pc = .ok (.ifnonnull o, 3)) (hn : (pc : Int) + o = (n : Int)) (k : W l R Z own nm bytes maxL ret n0 P h cells slots n Ls st) : W l R Z own nm bytes maxL ret n0 P h cells slots pc Ls (.ref a :: st) := by
  exact k.step fun p e s m args below meth c T locs hx hZ hby hown X eT t q => XS.ifnonnullYes X.here hx rfl (pc0 := pc) (pc' := n) rfl (hb hby hd) rfl (by omega) (by omega) q
theorem W.acmp_eq {x y : Value} {o : Int} (n n' : Nat) (hd : decode bytes pc = .ok (.if_acmp .eq o, 3)) (hn : (pc : Int) + o = (n : Int)) (hn' : pc + 3 = n') (h1 : x.isRef = true) (h2 : y.isRef = true) (k : x = y → W l R Z own nm bytes maxL ret n0 P h cells slots n Ls st) (k' : ¬ x = y → W l R Z own nm bytes maxL ret n0 P h cells slots n' Ls st) : W l R Z own nm bytes maxL ret n0 P h cells slots pc Ls (y :: x :: st) := by
  subst hn'
  by_cases hc : x = y
  · exact (k hc).step fun p e s m args below meth c T locs hx hZ hby hown X eT t q => RoadKit.acmp X hx rfl h1 h2 (pc0 := pc) (pc' := n) (same := true) rfl (hb hby hd) rfl (decide_eq_true hc) (by omega) (by simp [acV]; try omega) q
  · exact (k' hc).step fun p e s m args below meth c T locs hx hZ hby hown X eT t q => RoadKit.acmp X hx rfl h1 h2 (pc0 := pc) (pc' := pc + 3) (same := false) rfl (hb hby hd) rfl (decide_eq_false hc) (by omega) (by simp [acV]; try omega) q
theorem W.acmp_ne {x y : Value} {o : Int} (n n' : Nat) (hd : decode bytes pc = .ok (.if_acmp .ne o, 3)) (hn : (pc : Int) + o = (n : Int)) (hn' : pc + 3 = n') (h1 : x.isRef = true) (h2 : y.isRef = true) (k : ¬ x = y → W l R Z own nm bytes maxL ret n0 P h cells slots n Ls st) (k' : x = y → W l R Z own nm bytes maxL ret n0 P h cells slots n' Ls st) : W l R Z own nm bytes maxL ret n0 P h cells slots pc Ls (y :: x :: st) := by
  subst hn'
  by_cases hc : x = y
  · exact (k' hc).step fun p e s m args below meth c T locs hx hZ hby hown X eT t q => RoadKit.acmp X hx rfl h1 h2 (pc0 := pc) (pc' := pc + 3) (same := true) rfl (hb hby hd) rfl (decide_eq_true hc) (by omega) (by simp [acV]; try omega) q
  · exact (k hc).step fun p e s m args below meth c T locs hx hZ hby hown X eT t q => RoadKit.acmp X hx rfl h1 h2 (pc0 := pc) (pc' := n) (same := false) rfl (hb hby hd) rfl (decide_eq_false hc) (by omega) (by simp [acV]; try omega) q
theorem W.lookup {d : Int} {ps : Array (Int × Int)} {len : Nat} {x : Int32} (o : Int) (n : Nat) (hd : decode bytes pc = .ok (.lookupswitch d ps, len)) (hsort : (ps.toList.zip (ps.toList.drop 1)).all (fun (a, next) => a.1 < next.1) = true) (ho : Op.lookupswitch.offset ps.toList d x.toInt = o) (hn : (pc : Int) + o = (n : Int)) (k : W l R Z own nm bytes maxL ret n0 P h cells slots n Ls st) : W l R Z own nm bytes maxL ret n0 P h cells slots pc Ls (.int x :: st) := by
  refine k.step fun p e s m args below meth c T locs hx hZ hby hown X eT t q => ?_
  have hd' := hb hby hd
  have ho' : 0 ≤ (pc : Int) + o := by omega
  have hp : ((pc : Int) + o).toNat = n := by omega
  jvm_step X.here [X.here.top, hx, hd', Op.lookupswitch.wp_chain, hsort, ho, ho', hp]
  exact ⟨by simpa using hsort, q⟩
/-! the heap -/
theorem Fr.one {k : Nat} {L : List Loc} {a : Addr} {sl : Nat} (N : Fr k L) (q : k ≤ a) : Fr k (L ++ [⟨a, sl⟩]) := N.app fun y hy => by cases List.mem_singleton.mp hy; exact q
theorem Keep.of_ext {h h' : Heap} (E : Ext h h') : Keep h h' [] := (Keep.refl h []).ext E
theorem size_le {p : Program} {e : Env} {s : State} {m : MethodId} {args : Array Value} {below : List Frame} {meth : Method} {c : Code} {T : State} {locs : List Loc} (X : Stand p l e R s m args below meth c T locs cells slots) : s.heap.size ≤ T.heap.size := X.same.2.1
theorem W.getfield {i : Nat} {R0 O f d host : String} {a : Addr} {v : Value} (n : Nat) (hd : decode bytes pc = .ok (.getfield i, 3)) (hn : pc + 3 = n) (w : (Jvm.Cond.fieldLink own i R0 f d).before a0 Z = true ∨ (Jvm.Cond.fieldLinkNest own i R0 f d host).before a0 Z = true) (via : Via Z R0 O f d) (F : Fld Z h a O f d v) (k : W l R Z own nm bytes maxL ret n0 P h cells slots n Ls (v :: st)) : W l R Z own nm bytes maxL ret n0 P h cells slots pc Ls (.ref a :: st) := by
  subst hn
  intro p e s m args below meth c T locs hx hZ hby hml hown hret hlk hnm hn0 X eT N
  obtain ⟨T', X', e', st'⟩ := getF X hx hZ hown w via eT F (g := mkF m pc Ls (.ref a :: st)) rfl rfl (hb hby hd)
  exact (k p e s m args below meth c T' locs hx hZ hby hml hown hret hlk hnm hn0 X' e' N).step st'
theorem W.getstatic {i : Nat} {R0 O f d host : String} {v : Value} (n : Nat) (hd : decode bytes pc = .ok (.getstatic i, 3)) (hn : pc + 3 = n) (w : (Jvm.Cond.fieldLink own i R0 f d).before a0 Z = true ∨ (Jvm.Cond.fieldLinkNest own i R0 f d host).before a0 Z = true) (via : Via Z R0 O f d) (F : Sta Z h O f d v) (k : W l R Z own nm bytes maxL ret n0 P h cells slots n Ls (v :: st)) : W l R Z own nm bytes maxL ret n0 P h cells slots pc Ls st := by
  subst hn
  intro p e s m args below meth c T locs hx hZ hby hml hown hret hlk hnm hn0 X eT N
  obtain ⟨T', X', e', st'⟩ := getS2 X hx hZ hown w via eT F (g := mkF m pc Ls st) rfl (hb hby hd)
  exact (k p e s m args below meth c T' locs hx hZ hby hml hown hret hlk hnm hn0 X' e' N).step st'
theorem W.putfield {i kk : Nat} {R0 O f d host C : String} {ty : FieldType} {a : Addr} {v old : Value} (n : Nat) (hd : decode bytes pc = .ok (.putfield i, 3)) (hn : pc + 3 = n) (w : (Jvm.Cond.fieldLink own i R0 f d).before a0 Z = true ∨ (Jvm.Cond.fieldLinkNest own i R0 f d host).before a0 Z = true) (via : Via Z R0 O f d) (F : Fld Z h a O f d old) (E : Exa Z h a C)
    (L : (Jvm.Cond.lays C O f d).before a0 Z = true ∨ ((Jvm.Cond.laysFinal C O f d).before a0 Z = true ∧ own = O ∧ nm = "<init>")) (wi : (Jvm.Cond.instantiable C kk).before a0 Z = true) (hty : parseFieldDescriptor d = some ty) (hv : narrow ty v = v) (hf : fits ty v = true) (ge : n0 ≤ a)
    (k : ∀ h', Wr h h' a (RoadKit.slotOf Z O f d) v → Fld Z h' a O f d v → Exa Z h' a C → Keep h h' [a] → W l R Z own nm bytes maxL ret n0 P h' cells slots n Ls st) : W l R Z own nm bytes maxL ret n0 P h cells slots pc Ls (v :: .ref a :: st) := by
  subst hn
  intro p e s m args below meth c T locs hx hZ hby hml hown hret hlk hnm hn0 X eT N
  obtain ⟨T', h', X', e', W', st'⟩ := putF X hx hZ hown w via eT F E (L.imp id fun q => ⟨q.1, q.2.1, hnm.trans q.2.2⟩) wi hty hv hf (g := mkF m pc Ls (v :: .ref a :: st)) rfl rfl (hb hby hd)
  exact (k h' W' (F.same W') (E.wr W') (Keep.of_wr W') p e s m args below meth c T' _ hx hZ hby hml hown hret hlk hnm hn0 X' e' (Fr.one N ge)).step st'
theorem W.putfieldN {i kk : Nat} {R0 O f d C : String} {ty : FieldType} {a : Addr} {v old : Value} (n : Nat) (hd : decode bytes pc = .ok (.putfield i, 3)) (hn : pc + 3 = n) (w : (Jvm.Cond.fieldLink own i R0 f d).before a0 Z = true) (via : Via Z R0 O f d) (F : Fld Z h a O f d old) (E : Exa Z h a C)
    (L : (Jvm.Cond.lays C O f d).before a0 Z = true ∨ ((Jvm.Cond.laysFinal C O f d).before a0 Z = true ∧ own = O ∧ nm = "<init>")) (wi : (Jvm.Cond.instantiable C kk).before a0 Z = true) (hty : parseFieldDescriptor d = some ty) (v' : Value) (hv : narrow ty v = v') (hf : fits ty v' = true) (ge : n0 ≤ a)
    (k : ∀ h', Wr h h' a (RoadKit.slotOf Z O f d) v' → Fld Z h' a O f d v' → Exa Z h' a C → Keep h h' [a] → W l R Z own nm bytes maxL ret n0 P h' cells slots n Ls st) : W l R Z own nm bytes maxL ret n0 P h cells slots pc Ls (v :: .ref a :: st) := by
  subst hn
  intro p e s m args below meth c T locs hx hZ hby hml hown hret hlk hnm hn0 X eT N
  obtain ⟨T', h', X', e', W', st'⟩ := putFN X hx hZ hown w via eT F E (L.imp id fun q => ⟨q.1, q.2.1, hnm.trans q.2.2⟩) wi hty hv hf (g := mkF m pc Ls (v :: .ref a :: st)) rfl rfl (hb hby hd)
  exact (k h' W' (F.same W') (E.wr W') (Keep.of_wr W') p e s m args below meth c T' _ hx hZ hby hml hown hret hlk hnm hn0 X' e' (Fr.one N ge)).step st'
theorem W.new {i ns : Nat} {C : String} (n : Nat) (hd : decode bytes pc = .ok (.new i, 3)) (hn : pc + 3 = n) (w : (Jvm.Cond.classLink own i C).before a0 Z = true) (wi : (Jvm.Cond.instantiable C ns).before a0 Z = true) (wz : (Jvm.Cond.initialized C).before a0 Z = true) (hc : cells + 1 ≤ R.cells) (hs : slots + ns ≤ R.slots)
    (k : ∀ h' b, b = h.size → n0 ≤ b → Ext h h' → Keep h h' [] → Exa Z h' b C → (∀ {O f d : String} {ty : FieldType}, Laid Z a0 C O f d → parseFieldDescriptor d = some ty → Fld Z h' b O f d (defaultValue ty)) → W l R Z own nm bytes maxL ret n0 P h' (cells + 1) (slots + ns) n Ls (.ref b :: st)) : W l R Z own nm bytes maxL ret n0 P h cells slots pc Ls st := by
  subst hn
  intro p e s m args below meth c T locs hx hZ hby hml hown hret hlk hnm hn0 X eT N
  obtain ⟨T', h', X', e', E', A', D', -, st'⟩ := newO X hx hZ hown w wi wz eT (g := mkF m pc Ls st) rfl (hb hby hd) hc hs
  have hb0 : n0 ≤ h.size := Nat.le_trans hn0 (eT ▸ size_le X)
  exact (k h' h.size rfl hb0 E' (Keep.of_ext E') A' D' p e s m args below meth c T' _ hx hZ hby hml hown hret hlk hnm hn0 X' e' N).step st'
theorem Ary.lt {a : Addr} {ty : FieldType} {vs : List Value} (A : Ary Z h a ty vs) : a < h.size := by obtain ⟨c, A, -⟩ := A; exact A.lt
theorem Ary.keep {h' : Heap} {ws : List Addr} {a : Addr} {ty : FieldType} {vs : List Value} (A : Ary Z h a ty vs) (K : Keep h h' ws) (q : a ∉ ws) : Ary Z h' a ty vs := by obtain ⟨c, A, r⟩ := A; exact ⟨c, ⟨K.2.1 a c A.1 q, A.2⟩, r⟩
theorem Ary.new {k : ClassId} {a : Addr} {ty : FieldType} {z : Int32} (A : Arr Z h a (newA k ty z) ty) (hf : fits ty (defaultValue ty) = true) : Ary Z h a ty (List.replicate z.toNatClampNeg (defaultValue ty)) :=
  ⟨_, A, by simp [newA], fun v hv => by rw [(List.mem_replicate.mp hv).2]; exact hf, by rw [List.length_replicate]; have := Int32.toInt_lt z; simp only [Int32.toNatClampNeg]; omega⟩
theorem Ary.set {h' : Heap} {a : Addr} {ty : FieldType} {vs : List Value} {i : Nat} {v : Value} (A : Ary Z h a ty vs) (W' : Wr h h' a i v) (hf : fits ty v = true) : Ary Z h' a ty (vs.set i v) := by
  obtain ⟨c, A, rfl, F, S⟩ := A
  exact ⟨_, A.same W', by simp [Cell.setSlot], fun w hw => (List.mem_or_eq_of_mem_set hw).elim (fun q => F w q) (fun q => q ▸ hf), by simpa using S⟩
theorem Ary.arv {a : Addr} {ty : FieldType} {vs : List Value} (A : Ary Z h a ty vs) (d : Value) : ∃ k, Arv Z h a k ty vs.length.toInt32 vs d := by
  obtain ⟨c, A, rfl, F, S⟩ := A
  have hz : (c.slots.toList.length.toInt32).toInt = c.slots.toList.length := Int32.toInt_ofNat_small S
  have hn : (c.slots.toList.length.toInt32).toNatClampNeg = c.slots.size := by simp only [Int32.toNatClampNeg]; rw [hz]; simp
  refine ⟨c.cls, c, A, rfl, hn.symm, fun q => ?_, fun i hi => ?_, fun i hi => ?_⟩
  · have := Int32.lt_iff_toInt_lt.mp q; rw [hz] at this; have e0 : (0 : Int32).toInt = 0 := rfl; omega
  · rw [List.getD_eq_getElem?_getD]; simp [hi]
  · rw [List.getD_eq_getElem?_getD]; exact F _ (by simp [hi])
theorem Ary.of_arv {a : Addr} {k : ClassId} {ty : FieldType} {vs : List Value} {z : Int32} {d : Value} (A : Arv Z h a k ty z vs d) (hz : z.toNatClampNeg = vs.length) : Ary Z h a ty vs := by
  obtain ⟨c, A, q1, q2, q3, H, G⟩ := A
  have hl : c.slots.toList = vs := by
    apply List.ext_getElem?
    intro i
    by_cases hi : i < c.slots.size
    · have := H i hi
      rw [List.getD_eq_getElem?_getD, List.getElem?_eq_getElem (by omega)] at this
      rw [List.getElem?_eq_getElem (l := vs) (by omega)]
      simpa using this
    · rw [List.getElem?_eq_none (by simpa using hi), List.getElem?_eq_none (by omega)]
  refine ⟨c, A, hl, fun v hv => ?_, ?_⟩
  · obtain ⟨i, hi, rfl⟩ := List.getElem_of_mem hv
    have := G i (by omega)
    rwa [List.getD_eq_getElem?_getD, List.getElem?_eq_getElem hi] at this
  · have := Int32.toInt_lt z; simp only [Int32.toNatClampNeg] at hz; omega
theorem W.newarray {aty : ArrayType} {ty : FieldType} {x : Int32} (n : Nat) (hd : decode bytes pc = .ok (.newarray aty, 2)) (hn : pc + 2 = n) (w : (Jvm.Cond.arrayClass ty).before a0 Z = true) (hty : newarray.typeOf aty = ty) (hx0 : ¬ x < 0) (len cap : Nat) (hlen : x.toNatClampNeg = len) (hcap : len ≤ cap) (hb8 : cap * 8 ≤ 536870912) (hc : cells + 1 ≤ R.cells) (hs : slots + cap ≤ R.slots) (hfd : fits ty (defaultValue ty) = true)
    (k : ∀ h' b, b = h.size → n0 ≤ b → Ext h h' → Keep h h' [] → Ary Z h' b ty (List.replicate len (defaultValue ty)) → W l R Z own nm bytes maxL ret n0 P h' (cells + 1) (slots + cap) n Ls (.ref b :: st)) : W l R Z own nm bytes maxL ret n0 P h cells slots pc Ls (.int x :: st) := by
  subst hn hty hlen
  intro p e s m args below meth c T locs hx hZ hby hml hown hret hlk hnm hn0 X eT N
  obtain ⟨T', h', cA, X', e', E', A', st'⟩ := newP X hx hZ w eT (g := mkF m pc Ls (.int x :: st)) rfl (hb hby hd) rfl hx0 hcap hb8 hc hs
  have hb0 : n0 ≤ h.size := Nat.le_trans hn0 (eT ▸ size_le X)
  exact (k h' h.size rfl hb0 E' (Keep.of_ext E') (Ary.new A' hfd) p e s m args below meth c T' _ hx hZ hby hml hown hret hlk hnm hn0 X' e' N).step st'
theorem W.newarrayE {aty : ArrayType} {ty : FieldType} {x : Int32} {ad : String} (n : Nat) (hd : decode bytes pc = .ok (.newarray aty, 2)) (hn : pc + 2 = n) (w : (Jvm.Cond.arrayClass ty).before a0 Z = true) (hty : newarray.typeOf aty = ty) (had : "[" ++ ty.toString = ad) (hx0 : ¬ x < 0) (len cap : Nat) (hlen : x.toNatClampNeg = len) (hcap : len ≤ cap) (hb8 : cap * 8 ≤ 536870912) (hc : cells + 1 ≤ R.cells) (hs : slots + cap ≤ R.slots) (hfd : fits ty (defaultValue ty) = true)
    (k : ∀ h' b, b = h.size → n0 ≤ b → Ext h h' → Keep h h' [] → Ary Z h' b ty (List.replicate len (defaultValue ty)) → Exa Z h' b ad → W l R Z own nm bytes maxL ret n0 P h' (cells + 1) (slots + cap) n Ls (.ref b :: st)) : W l R Z own nm bytes maxL ret n0 P h cells slots pc Ls (.int x :: st) := by
  subst hn hty hlen
  intro p e s m args below meth c T locs hx hZ hby hml hown hret hlk hnm hn0 X eT N
  obtain ⟨T', h', cA, X', e', E', A', B', st'⟩ := newPE X hx hZ w eT (g := mkF m pc Ls (.int x :: st)) rfl (hb hby hd) rfl hx0 hcap hb8 hc hs had
  have hb0 : n0 ≤ h.size := Nat.le_trans hn0 (eT ▸ size_le X)
  exact (k h' h.size rfl hb0 E' (Keep.of_ext E') (Ary.new A' hfd) B' p e s m args below meth c T' _ hx hZ hby hml hown hret hlk hnm hn0 X' e' N).step st'
theorem ary_in {c : Cell} {vs : List Value} {j : Int32} {i : Nat} (hc : c.slots.toList = vs) (hj : j.toNatClampNeg = i) (h0 : ¬ j < 0) (hi : i < vs.length) : ¬ (j < 0 ∨ c.slots.size ≤ j.toNatClampNeg) := by
  subst hc hj; rintro (q | q)
  · exact h0 q
  · exact absurd hi (by simpa using q)
theorem W.arraylength {a : Addr} {ty : FieldType} {vs : List Value} (n : Nat) (hd : decode bytes pc = .ok (.arraylength, 1)) (hn : pc + 1 = n) (A : Ary Z h a ty vs) (v : Int32) (hv : vs.length.toInt32 = v) (k : W l R Z own nm bytes maxL ret n0 P h cells slots n Ls (.int v :: st)) : W l R Z own nm bytes maxL ret n0 P h cells slots pc Ls (.ref a :: st) := by
  subst hn
  obtain ⟨c, A, rfl, F, S⟩ := A
  have e : c.slots.size.toInt32 = v := by rw [← hv]; simp
  exact k.step fun p e' s m args below meth c' T locs hx hZ hby hown X eT t q => X.arraylength hx (by rw [eT]; exact A.1) (State.isArrayOf_alike hZ.alike A.2.1) (g := mkF m pc Ls (.ref a :: st)) rfl rfl (hb hby hd) t (e ▸ q)

theorem W.iaload {a : Addr} {vs : List Value} {j : Int32} (n : Nat) (hd : decode bytes pc = .ok (.iaload, 1)) (hn : pc + 1 = n) (A : Ary Z h a .int vs) (i : Nat) (hj : j.toNatClampNeg = i) (h0 : ¬ j < 0) (v : Value) (hv : vs[i]? = some v) (k : W l R Z own nm bytes maxL ret n0 P h cells slots n Ls (v :: st)) : W l R Z own nm bytes maxL ret n0 P h cells slots pc Ls (.int j :: .ref a :: st) := by
  subst hn
  obtain ⟨c, A, hc, F, S⟩ := A
  have hi : i < vs.length := (List.getElem?_eq_some_iff.mp hv).1
  have hin := ary_in hc hj h0 hi
  have hat : c.slots[j.toNatClampNeg]? = some v := by rw [hj, ← hv, ← hc]; simp
  exact k.step fun p e' s m args below meth c' T locs hx hZ hby hown X eT t q => X.iaload hx (j := j) (v := v) (by rw [eT]; exact A.1) (State.isArrayOf_alike hZ.alike A.2.1) A.2.2 hin hat (g := mkF m pc Ls (.int j :: .ref a :: st)) rfl rfl (hb hby hd) t q
theorem W.laload {a : Addr} {vs : List Value} {j : Int32} (n : Nat) (hd : decode bytes pc = .ok (.laload, 1)) (hn : pc + 1 = n) (A : Ary Z h a .long vs) (i : Nat) (hj : j.toNatClampNeg = i) (h0 : ¬ j < 0) (v : Value) (hv : vs[i]? = some v) (k : W l R Z own nm bytes maxL ret n0 P h cells slots n Ls (v :: st)) : W l R Z own nm bytes maxL ret n0 P h cells slots pc Ls (.int j :: .ref a :: st) := by
  subst hn
  obtain ⟨c, A, hc, F, S⟩ := A
  have hi : i < vs.length := (List.getElem?_eq_some_iff.mp hv).1
  have hin := ary_in hc hj h0 hi
  have hat : c.slots[j.toNatClampNeg]? = some v := by rw [hj, ← hv, ← hc]; simp
  exact k.step fun p e' s m args below meth c' T locs hx hZ hby hown X eT t q => X.laload hx (j := j) (v := v) (by rw [eT]; exact A.1) (State.isArrayOf_alike hZ.alike A.2.1) A.2.2 hin hat (g := mkF m pc Ls (.int j :: .ref a :: st)) rfl rfl (hb hby hd) t q
theorem W.caload {a : Addr} {vs : List Value} {j : Int32} (n : Nat) (hd : decode bytes pc = .ok (.caload, 1)) (hn : pc + 1 = n) (A : Ary Z h a .char vs) (i : Nat) (hj : j.toNatClampNeg = i) (h0 : ¬ j < 0) (v : Value) (hv : vs[i]? = some v) (k : W l R Z own nm bytes maxL ret n0 P h cells slots n Ls (v :: st)) : W l R Z own nm bytes maxL ret n0 P h cells slots pc Ls (.int j :: .ref a :: st) := by
  subst hn
  obtain ⟨c, A, hc, F, S⟩ := A
  have hi : i < vs.length := (List.getElem?_eq_some_iff.mp hv).1
  have hin := ary_in hc hj h0 hi
  have hat : c.slots[j.toNatClampNeg]? = some v := by rw [hj, ← hv, ← hc]; simp
  exact k.step fun p e' s m args below meth c' T locs hx hZ hby hown X eT t q => X.caload hx (j := j) (v := v) (by rw [eT]; exact A.1) (State.isArrayOf_alike hZ.alike A.2.1) A.2.2 hin hat (g := mkF m pc Ls (.int j :: .ref a :: st)) rfl rfl (hb hby hd) t q
theorem W.baload {a : Addr} {vs : List Value} {j : Int32} (n : Nat) (hd : decode bytes pc = .ok (.baload, 1)) (hn : pc + 1 = n) (A : Ary Z h a .byte vs) (i : Nat) (hj : j.toNatClampNeg = i) (h0 : ¬ j < 0) (v : Value) (hv : vs[i]? = some v) (k : W l R Z own nm bytes maxL ret n0 P h cells slots n Ls (v :: st)) : W l R Z own nm bytes maxL ret n0 P h cells slots pc Ls (.int j :: .ref a :: st) := by
  subst hn
  obtain ⟨c, A, hc, F, S⟩ := A
  have hi : i < vs.length := (List.getElem?_eq_some_iff.mp hv).1
  have hin := ary_in hc hj h0 hi
  have hat : c.slots[j.toNatClampNeg]? = some v := by rw [hj, ← hv, ← hc]; simp
  exact k.step fun p e' s m args below meth c' T locs hx hZ hby hown X eT t q => X.baloadBytes hx (j := j) (v := v) (by rw [eT]; exact A.1) (State.isArrayOf_alike hZ.alike A.2.1) A.2.2 hin hat (g := mkF m pc Ls (.int j :: .ref a :: st)) rfl rfl (hb hby hd) t q
theorem W.aaload {a : Addr} {vs : List Value} {j : Int32} {ty : FieldType} (n : Nat) (hd : decode bytes pc = .ok (.aaload, 1)) (hn : pc + 1 = n) (A : Ary Z h a ty vs) (hty : ty.isReference = true) (i : Nat) (hj : j.toNatClampNeg = i) (h0 : ¬ j < 0) (v : Value) (hv : vs[i]? = some v) (k : W l R Z own nm bytes maxL ret n0 P h cells slots n Ls (v :: st)) : W l R Z own nm bytes maxL ret n0 P h cells slots pc Ls (.int j :: .ref a :: st) := by
  subst hn
  obtain ⟨c, A, hc, F, S⟩ := A
  have hi : i < vs.length := (List.getElem?_eq_some_iff.mp hv).1
  have hin := ary_in hc hj h0 hi
  have hat : c.slots[j.toNatClampNeg]? = some v := by rw [hj, ← hv, ← hc]; simp
  exact k.step fun p e' s m args below meth c' T locs hx hZ hby hown X eT t q => X.aaload hx (j := j) (v := v) (by rw [eT]; exact A.1) (State.isArrayOf_alike hZ.alike A.2.1) hty A.2.2 hin hat (g := mkF m pc Ls (.int j :: .ref a :: st)) rfl rfl (hb hby hd) t q
theorem W.iastore {a : Addr} {vs : List Value} {j : Int32} {x : Int32} (n : Nat) (hd : decode bytes pc = .ok (.iastore, 1)) (hn : pc + 1 = n) (A : Ary Z h a .int vs) (i : Nat) (hj : j.toNatClampNeg = i) (h0 : ¬ j < 0) (hi : i < vs.length) (ge : n0 ≤ a)
    (k : ∀ h', Wr h h' a i (.int x) → Keep h h' [a] → Ary Z h' a .int (vs.set i (.int x)) → W l R Z own nm bytes maxL ret n0 P h' cells slots n Ls st) : W l R Z own nm bytes maxL ret n0 P h cells slots pc Ls (.int x :: .int j :: .ref a :: st) := by
  subst hn
  intro p e s m args below meth c T locs hx hZ hby hml hown hret hlk hnm hn0 X eT N
  have A0 := A
  obtain ⟨cl, A, hc, F, S⟩ := A
  obtain ⟨T', h', X', e', W', st'⟩ := stI X hx hZ eT A (ary_in hc hj h0 hi) (g := mkF m pc Ls (.int x :: .int j :: .ref a :: st)) rfl rfl (hb hby hd)
  subst hj
  exact (k h' W' (Keep.of_wr W') (A0.set W' rfl) p e s m args below meth c T' _ hx hZ hby hml hown hret hlk hnm hn0 X' e' (Fr.one N ge)).step st'

theorem W.lastore {a : Addr} {vs : List Value} {j : Int32} {x : Int64} (n : Nat) (hd : decode bytes pc = .ok (.lastore, 1)) (hn : pc + 1 = n) (A : Ary Z h a .long vs) (i : Nat) (hj : j.toNatClampNeg = i) (h0 : ¬ j < 0) (hi : i < vs.length) (ge : n0 ≤ a)
    (k : ∀ h', Wr h h' a i (.long x) → Keep h h' [a] → Ary Z h' a .long (vs.set i (.long x)) → W l R Z own nm bytes maxL ret n0 P h' cells slots n Ls st) : W l R Z own nm bytes maxL ret n0 P h cells slots pc Ls (.long x :: .int j :: .ref a :: st) := by
  subst hn
  intro p e s m args below meth c T locs hx hZ hby hml hown hret hlk hnm hn0 X eT N
  have A0 := A
  obtain ⟨cl, A, hc, F, S⟩ := A
  obtain ⟨T', h', X', e', W', st'⟩ := stJ X hx hZ eT A (ary_in hc hj h0 hi) (g := mkF m pc Ls (.long x :: .int j :: .ref a :: st)) rfl rfl (hb hby hd)
  subst hj
  exact (k h' W' (Keep.of_wr W') (A0.set W' rfl) p e s m args below meth c T' _ hx hZ hby hml hown hret hlk hnm hn0 X' e' (Fr.one N ge)).step st'

theorem W.castore {a : Addr} {vs : List Value} {j : Int32} {x : Int32} (n : Nat) (hd : decode bytes pc = .ok (.castore, 1)) (hn : pc + 1 = n) (A : Ary Z h a .char vs) (i : Nat) (hj : j.toNatClampNeg = i) (h0 : ¬ j < 0) (hi : i < vs.length) (x' : Int32) (hx' : nar .char x = x') (ge : n0 ≤ a)
    (k : ∀ h', Wr h h' a i (.int x') → Keep h h' [a] → Ary Z h' a .char (vs.set i (.int x')) → W l R Z own nm bytes maxL ret n0 P h' cells slots n Ls st) : W l R Z own nm bytes maxL ret n0 P h cells slots pc Ls (.int x :: .int j :: .ref a :: st) := by
  subst hn hx'
  intro p e s m args below meth c T locs hx hZ hby hml hown hret hlk hnm hn0 X eT N
  have A0 := A
  obtain ⟨cl, A, hc, F, S⟩ := A
  obtain ⟨T', h', X', e', W', st'⟩ := stC X hx hZ eT A (ary_in hc hj h0 hi) (g := mkF m pc Ls (.int x :: .int j :: .ref a :: st)) rfl rfl (hb hby hd)
  subst hj
  exact (k h' W' (Keep.of_wr W') (A0.set W' (fits_nar_char _)) p e s m args below meth c T' _ hx hZ hby hml hown hret hlk hnm hn0 X' e' (Fr.one N ge)).step st'

theorem W.bastore {a : Addr} {vs : List Value} {j : Int32} {x : Int32} (n : Nat) (hd : decode bytes pc = .ok (.bastore, 1)) (hn : pc + 1 = n) (A : Ary Z h a .byte vs) (i : Nat) (hj : j.toNatClampNeg = i) (h0 : ¬ j < 0) (hi : i < vs.length) (x' : Int32) (hx' : nar .byte x = x') (ge : n0 ≤ a)
    (k : ∀ h', Wr h h' a i (.int x') → Keep h h' [a] → Ary Z h' a .byte (vs.set i (.int x')) → W l R Z own nm bytes maxL ret n0 P h' cells slots n Ls st) : W l R Z own nm bytes maxL ret n0 P h cells slots pc Ls (.int x :: .int j :: .ref a :: st) := by
  subst hn hx'
  intro p e s m args below meth c T locs hx hZ hby hml hown hret hlk hnm hn0 X eT N
  have A0 := A
  obtain ⟨cl, A, hc, F, S⟩ := A
  obtain ⟨T', h', X', e', W', st'⟩ := stB X hx hZ eT A (ary_in hc hj h0 hi) (g := mkF m pc Ls (.int x :: .int j :: .ref a :: st)) rfl rfl (hb hby hd)
  subst hj
  exact (k h' W' (Keep.of_wr W') (A0.set W' (fits_nar_byte _)) p e s m args below meth c T' _ hx hZ hby hml hown hret hlk hnm hn0 X' e' (Fr.one N ge)).step st'

theorem W.bastoreZ {a : Addr} {vs : List Value} {j : Int32} {x : Int32} (n : Nat) (hd : decode bytes pc = .ok (.bastore, 1)) (hn : pc + 1 = n) (A : Ary Z h a .boolean vs) (i : Nat) (hj : j.toNatClampNeg = i) (h0 : ¬ j < 0) (hi : i < vs.length) (x' : Int32) (hx' : nar .boolean x = x') (ge : n0 ≤ a)
    (k : ∀ h', Wr h h' a i (.int x') → Keep h h' [a] → Ary Z h' a .boolean (vs.set i (.int x')) → W l R Z own nm bytes maxL ret n0 P h' cells slots n Ls st) : W l R Z own nm bytes maxL ret n0 P h cells slots pc Ls (.int x :: .int j :: .ref a :: st) := by
  subst hn hx'
  intro p e s m args below meth c T locs hx hZ hby hml hown hret hlk hnm hn0 X eT N
  have A0 := A
  obtain ⟨cl, A, hc, F, S⟩ := A
  obtain ⟨T', h', X', e', W', st'⟩ := stZ X hx hZ eT A (ary_in hc hj h0 hi) (g := mkF m pc Ls (.int x :: .int j :: .ref a :: st)) rfl rfl (hb hby hd)
  subst hj
  exact (k h' W' (Keep.of_wr W') (A0.set W' (fits_nar_bool _)) p e s m args below meth c T' _ hx hZ hby hml hown hret hlk hnm hn0 X' e' (Fr.one N ge)).step st'

theorem Sta.keep0 {h' : Heap} {C f d : String} {v : Value} (K : Keep h h' []) (F : Sta Z h C f d v) : Sta Z h' C f d v := by
  obtain ⟨cf, i, k, fd, st, cell, h1, h2, h3, h4, h5, r⟩ := F; exact ⟨cf, i, k, fd, st, cell, h1, h2, h3, h4, K.2.1 _ _ h5 nin0, r⟩
/-- an array of references, and what may lie in it -/
def AryO (Z : State) (h : Heap) (a : Addr) (C : String) (vs : List Value) : Prop :=
  ∃ c : Cell, Arr Z h a c (.object C) ∧ Ovr Z c.cls C ∧ c.slots.toList = vs ∧ (∀ v ∈ vs, fits (.object C) v = true) ∧ vs.length < 2 ^ 31
theorem AryO.ary {a : Addr} {C : String} {vs : List Value} (A : AryO Z h a C vs) : Ary Z h a (.object C) vs := by obtain ⟨c, A, -, r⟩ := A; exact ⟨c, A, r⟩
theorem AryO.lt {a : Addr} {C : String} {vs : List Value} (A : AryO Z h a C vs) : a < h.size := A.ary.lt
theorem AryO.keep {h' : Heap} {ws : List Addr} {a : Addr} {C : String} {vs : List Value} (A : AryO Z h a C vs) (K : Keep h h' ws) (q : a ∉ ws) : AryO Z h' a C vs := by obtain ⟨c, A, r⟩ := A; exact ⟨c, ⟨K.2.1 a c A.1 q, A.2⟩, r⟩
theorem W.anewarray {i : Nat} {C : String} {x : Int32} (n : Nat) (hd : decode bytes pc = .ok (.anewarray i, 3)) (hn : pc + 3 = n) (w1 : (Jvm.Cond.classLink own i C).before a0 Z = true) (w2 : (Jvm.Cond.arrayOver (.object C)).before a0 Z = true) (hx0 : ¬ x < 0) (len cap : Nat) (hlen : x.toNatClampNeg = len) (hcap : len ≤ cap) (hb8 : cap * 8 ≤ 536870912) (hc : cells + 1 ≤ R.cells) (hs : slots + cap ≤ R.slots)
    (k : ∀ h' b, b = h.size → n0 ≤ b → Ext h h' → Keep h h' [] → AryO Z h' b C (List.replicate len .null) → W l R Z own nm bytes maxL ret n0 P h' (cells + 1) (slots + cap) n Ls (.ref b :: st)) : W l R Z own nm bytes maxL ret n0 P h cells slots pc Ls (.int x :: st) := by
  subst hn hlen
  intro p e s m args below meth c T locs hx hZ hby hml hown hret hlk hnm hn0 X eT N
  obtain ⟨T', h', cA, X', e', E', A', O', st'⟩ := newR X hx hZ hown w1 w2 eT (g := mkF m pc Ls (.int x :: st)) rfl (hb hby hd) rfl hx0 hcap hb8 hc hs
  have hb0 : n0 ≤ h.size := Nat.le_trans hn0 (eT ▸ size_le X)
  obtain ⟨cc, B1, B2⟩ := Ary.new A' rfl
  refine (k h' h.size rfl hb0 E' (Keep.of_ext E') ⟨_, A', O', ?_, ?_, ?_⟩ p e s m args below meth c T' _ hx hZ hby hml hown hret hlk hnm hn0 X' e' N).step st'
  · simp [newA, defaultValue]
  · intro v hv; rw [(List.mem_replicate.mp hv).2]; rfl
  · rw [List.length_replicate]; have := Int32.toInt_lt x; simp only [Int32.toNatClampNeg]; omega
theorem W.aastore {a y : Addr} {C : String} {vs : List Value} {j : Int32} (n : Nat) (hd : decode bytes pc = .ok (.aastore, 1)) (hn : pc + 1 = n) (A : AryO Z h a C vs) (I : Ins Z h y C true) (i : Nat) (hj : j.toNatClampNeg = i) (h0 : ¬ j < 0) (hi : i < vs.length) (ge : n0 ≤ a)
    (k : ∀ h', Wr h h' a i (.ref y) → Keep h h' [a] → AryO Z h' a C (vs.set i (.ref y)) → W l R Z own nm bytes maxL ret n0 P h' cells slots n Ls st) : W l R Z own nm bytes maxL ret n0 P h cells slots pc Ls (.ref y :: .int j :: .ref a :: st) := by
  subst hn
  intro p e s m args below meth c T locs hx hZ hby hml hown hret hlk hnm hn0 X eT N
  obtain ⟨cl, A, O, hc, F, S⟩ := A
  obtain ⟨T', h', X', e', W', st'⟩ := stR X hx hZ eT A (ary_in hc hj h0 hi) rfl (Sto.of A O I) (g := mkF m pc Ls (.ref y :: .int j :: .ref a :: st)) rfl rfl (hb hby hd)
  subst hj
  refine (k h' W' (Keep.of_wr W') ⟨_, A.same W', O, ?_, ?_, ?_⟩ p e s m args below meth c T' _ hx hZ hby hml hown hret hlk hnm hn0 X' e' (Fr.one N ge)).step st'
  · simp [Cell.setSlot, hc]
  · exact fun w hw => (List.mem_or_eq_of_mem_set hw).elim (fun q => F w q) (fun q => q ▸ rfl)
  · simpa using S
/-! calls and returns -/
theorem W.initObj {i : Nat} {a : Addr} (n : Nat) (hd : decode bytes pc = .ok (.invokespecial i, 3)) (hn : pc + 3 = n) (w1 : (Jvm.Cond.methodLink own i Lib.objectInit).before a0 Z = true) (w2 : (Jvm.Cond.instanceMethod Lib.objectInit).before a0 Z = true) (w3 : (Jvm.Cond.code Lib.objectInit ⟨#[0xb1]⟩ 1 none).before a0 Z = true) (hsz : Ls.size = maxL) (hf : 1 ≤ R.frames) (W0 : Nat) (hW : (st.map fun v => v.category).sum ≤ W0) (hl : W0 + 12 ≤ R.locals)
    (k : W l R Z own nm bytes maxL ret n0 P h cells slots n Ls st) : W l R Z own nm bytes maxL ret n0 P h cells slots pc Ls (.ref a :: st) := by
  subst hn
  intro p e s m args below meth c T locs hx hZ hby hml hown hret hlk hnm hn0 X eT N
  obtain ⟨T', X', e', st'⟩ := initO X hx hZ hown w1 w2 w3 eT (g := mkF m pc Ls (.ref a :: st)) rfl (by rw [hml]; exact hsz) rfl (hb hby hd) hf (W := W0) (by show 2 * 0 + _ ≤ _; omega) hl
  exact (k p e s m args below meth c T' locs hx hZ hby hml hown hret hlk hnm hn0 X' e' N).step st'
section Calls
variable {y : MethodName} {bytes' : ByteArray} {maxL' : Nat} {ret' : Option FieldType} {rm : Room} {P' : Option Value → Heap → Prop} {rest argsL : List Value} {i : Nat}
theorem W.callS (n : Nat) (hd : decode bytes pc = .ok (.invokestatic i, 3)) (hn : pc + 3 = n) (C : n0 ≤ h.size → Con l Z y bytes' maxL' ret' rm argsL.toArray h n0 P') (w1 : (Jvm.Cond.methodLink own i y).before a0 Z = true) (w2 : (Jvm.Cond.static y).before a0 Z = true) (w3 : (Jvm.Cond.initialized y.cls).before a0 Z = true) (w4 : (Jvm.Cond.code y bytes' maxL' ret').before a0 Z = true)
    (hy : y.cls ≠ "java/lang/invoke/MethodHandle" ∧ y.cls ≠ "java/lang/invoke/VarHandle") {ps : List FieldType} {r : Option FieldType} (hpd : parseMethodDescriptor y.desc = some ⟨ps, r⟩) (hlen : argsL.length = ps.length) (hst : st = argsL.reverse ++ rest) (hsz : Ls.size = maxL) (hf : rm.frames + 1 ≤ R.frames) (W0 : Nat) (hW : (rest.map fun v => v.category).sum ≤ W0) (hl : W0 + (maxL' + 11) + rm.locals ≤ R.locals) (hc : cells + rm.cells ≤ R.cells) (hs : slots + rm.slots ≤ R.slots)
    (k : ∀ v h', P' v h' → W l R Z own nm bytes maxL ret n0 P h' (cells + rm.cells) (slots + rm.slots) n Ls (v.toList ++ rest)) : W l R Z own nm bytes maxL ret n0 P h cells slots pc Ls st := by
  subst hn hst
  intro p e s m args below meth c T locs hx hZ hby hml hown hret hlk hnm hn0 X eT N
  obtain ⟨v, _, ⟨T', L', c', n'⟩, -, X', ⟨Lc, hQ, l', y', z'⟩, st'⟩ := Jvm.LawKit.callS X hx (y := y) hown (mvT hZ w1) (mvT hZ w2) (mvT hZ w3) (mvT hZ w4) hy (backOf (W := W0) (Z := Z) (h := h) (bytes := bytes') (maxL := maxL') (rm := rm) (Q := fun v h' L => P' v h' ∧ Fr n0 L) (C (Nat.le_trans hn0 (eT ▸ size_le X))) hZ w4 w3 hf hl) (g := mkF m pc Ls (argsL.reverse ++ rest)) rfl (by rw [hml]; exact hsz) (argsL := argsL) (rest := rest) (lenOf hpd hlen) rfl (by show 2 * 0 + _ ≤ _; omega) (hb hby hd) (fun _ _ => ⟨rfl, eT, hc, hs⟩)
  dsimp only [Pt.U, Pt.locs, Pt.cells, Pt.slots] at X' l' y' z' st' hQ
  subst l' y' z'
  exact (k v T'.heap hQ.1 p e s m args below meth c T' _ hx hZ hby hml hown hret hlk hnm hn0 X' rfl (Fr.app N hQ.2)).step st'
theorem W.callInit {a : Addr} (n : Nat) (hd : decode bytes pc = .ok (.invokespecial i, 3)) (hn : pc + 3 = n) (C : n0 ≤ h.size → Con l Z y bytes' maxL' none rm (.ref a :: argsL).toArray h n0 P') (hi : y.name = "<init>") (w1 : (Jvm.Cond.methodLink own i y).before a0 Z = true) (w2 : (Jvm.Cond.instanceMethod y).before a0 Z = true) (w3 : (Jvm.Cond.initialized y.cls).before a0 Z = true) (w4 : (Jvm.Cond.code y bytes' maxL' none).before a0 Z = true)
    (hy : y.cls ≠ "java/lang/invoke/MethodHandle" ∧ y.cls ≠ "java/lang/invoke/VarHandle") {ps : List FieldType} {r : Option FieldType} (hpd : parseMethodDescriptor y.desc = some ⟨ps, r⟩) (hlen : argsL.length = ps.length) (hst : st = argsL.reverse ++ .ref a :: rest) (hsz : Ls.size = maxL) (hf : rm.frames + 1 ≤ R.frames) (W0 : Nat) (hW : (rest.map fun v => v.category).sum ≤ W0) (hl : W0 + (maxL' + 11) + rm.locals ≤ R.locals) (hc : cells + rm.cells ≤ R.cells) (hs : slots + rm.slots ≤ R.slots)
    (k : ∀ v h', P' v h' → W l R Z own nm bytes maxL ret n0 P h' (cells + rm.cells) (slots + rm.slots) n Ls (v.toList ++ rest)) : W l R Z own nm bytes maxL ret n0 P h cells slots pc Ls st := by
  subst hn hst
  intro p e s m args below meth c T locs hx hZ hby hml hown hret hlk hnm hn0 X eT N
  obtain ⟨v, _, ⟨T', L', c', n'⟩, -, X', ⟨Lc, hQ, l', y', z'⟩, st'⟩ := X.specialBack hx (y := y) hi hown (mvT hZ w1) (mvT hZ w2) (mvT hZ w4) hy (backOf (W := W0) (Z := Z) (h := h) (bytes := bytes') (maxL := maxL') (rm := rm) (Q := fun v h' L => P' v h' ∧ Fr n0 L) (C (Nat.le_trans hn0 (eT ▸ size_le X))) hZ w4 w3 hf hl) (g := mkF m pc Ls (argsL.reverse ++ .ref a :: rest)) rfl (by rw [hml]; exact hsz) (Steps.refl _) (a := a) (argsL := argsL) (rest := rest) (lenOf hpd hlen) rfl (by show 2 * 0 + _ ≤ _; omega) (hb hby hd) (fun _ _ => ⟨rfl, eT, hc, hs⟩)
  dsimp only [Pt.U, Pt.locs, Pt.cells, Pt.slots] at X' l' y' z' st' hQ
  subst l' y' z'
  exact (k v T'.heap hQ.1 p e s m args below meth c T' _ hx hZ hby hml hown hret hlk hnm hn0 X' rfl (Fr.app N hQ.2)).step fun t q => st'.trans q
theorem W.callV {C0 : String} {a : Addr} (n : Nat) (hd : decode bytes pc = .ok (.invokevirtual i, 3)) (hn : pc + 3 = n) (C : n0 ≤ h.size → Con l Z y bytes' maxL' ret' rm (.ref a :: argsL).toArray h n0 P') (E : Exa Z h a C0) (w1 : (Jvm.Cond.methodLink own i y).before a0 Z = true) (w2 : (Jvm.Cond.declares y).before a0 Z = true) (w5 : (Jvm.Cond.selects C0 y y).before a0 Z = true) (hcy : C0 = y.cls) (w6 : (Jvm.Cond.instanceMethod y).before a0 Z = true) (w3 : (Jvm.Cond.initialized y.cls).before a0 Z = true) (w4 : (Jvm.Cond.code y bytes' maxL' ret').before a0 Z = true)
    (hy : y.cls ≠ "java/lang/invoke/MethodHandle" ∧ y.cls ≠ "java/lang/invoke/VarHandle") {ps : List FieldType} {r : Option FieldType} (hpd : parseMethodDescriptor y.desc = some ⟨ps, r⟩) (hlen : argsL.length = ps.length) (hst : st = argsL.reverse ++ .ref a :: rest) (hsz : Ls.size = maxL) (hf : rm.frames + 1 ≤ R.frames) (W0 : Nat) (hW : (rest.map fun v => v.category).sum ≤ W0) (hl : W0 + (maxL' + 11) + rm.locals ≤ R.locals) (hc : cells + rm.cells ≤ R.cells) (hs : slots + rm.slots ≤ R.slots)
    (k : ∀ v h', P' v h' → W l R Z own nm bytes maxL ret n0 P h' (cells + rm.cells) (slots + rm.slots) n Ls (v.toList ++ rest)) : W l R Z own nm bytes maxL ret n0 P h cells slots pc Ls st := by
  subst hn hst hcy
  intro p e s m args below meth c T locs hx hZ hby hml hown hret hlk hnm hn0 X eT N
  obtain ⟨cq, kq, qa, qb, qc⟩ := isOf hZ eT E
  obtain ⟨v, _, ⟨T', L', c', n'⟩, -, X', ⟨Lc, hQ, l', y', z'⟩, st'⟩ := X.virtualBack hx (y := y) (z := y) hown (mvT hZ w1) (mvT hZ w2) (notFace_of_selects (args := #[]) (mvT hZ w5)) (mvT hZ w5) (mvT hZ w6) hy (backOf (W := W0) (Z := Z) (h := h) (bytes := bytes') (maxL := maxL') (rm := rm) (Q := fun v h' L => P' v h' ∧ Fr n0 L) (C (Nat.le_trans hn0 (eT ▸ size_le X))) hZ w4 w3 hf hl) qa qc (g := mkF m pc Ls (argsL.reverse ++ .ref a :: rest)) rfl (by rw [hml]; exact hsz) (Steps.refl _) (argsL := argsL) (rest := rest) (lenOf hpd hlen) rfl (by show 2 * 0 + _ ≤ _; omega) (hb hby hd) (fun _ _ => ⟨rfl, eT, hc, hs⟩)
  dsimp only [Pt.U, Pt.locs, Pt.cells, Pt.slots] at X' l' y' z' st' hQ
  subst l' y' z'
  exact (k v T'.heap hQ.1 p e s m args below meth c T' _ hx hZ hby hml hown hret hlk hnm hn0 X' rfl (Fr.app N hQ.2)).step fun t q => st'.trans q
end Calls
theorem W.checkcast {i : Nat} {K : String} {a : Addr} (n : Nat) (hd : decode bytes pc = .ok (.checkcast i, 3)) (hn : pc + 3 = n) (w : (Jvm.Cond.classLink own i K).before a0 Z = true) (F : Ins Z h a K true) (k : W l R Z own nm bytes maxL ret n0 P h cells slots n Ls (.ref a :: st)) : W l R Z own nm bytes maxL ret n0 P h cells slots pc Ls (.ref a :: st) := by
  subst hn
  intro p e s m args below meth c T locs hx hZ hby hml hown hret hlk hnm hn0 X eT N
  obtain ⟨T', X', e', st'⟩ := castY X hx hZ hown w eT F (g := mkF m pc Ls (.ref a :: st)) rfl rfl (hb hby hd)
  exact (k p e s m args below meth c T' locs hx hZ hby hml hown hret hlk hnm hn0 X' e' N).step st'
theorem W.instYes {i : Nat} {K : String} {a : Addr} (n : Nat) (hd : decode bytes pc = .ok (.instanceof i, 3)) (hn : pc + 3 = n) (w : (Jvm.Cond.classLink own i K).before a0 Z = true) (F : Ins Z h a K true) (k : W l R Z own nm bytes maxL ret n0 P h cells slots n Ls (.int 1 :: st)) : W l R Z own nm bytes maxL ret n0 P h cells slots pc Ls (.ref a :: st) := by
  subst hn
  intro p e s m args below meth c T locs hx hZ hby hml hown hret hlk hnm hn0 X eT N
  obtain ⟨T', X', e', st'⟩ := instY X hx hZ hown w eT F (g := mkF m pc Ls (.ref a :: st)) rfl rfl (hb hby hd)
  exact (k p e s m args below meth c T' locs hx hZ hby hml hown hret hlk hnm hn0 X' e' N).step st'
theorem W.instNo {i : Nat} {K C : String} {a : Addr} (n : Nat) (hd : decode bytes pc = .ok (.instanceof i, 3)) (hn : pc + 3 = n) (w : (Jvm.Cond.classLink own i K).before a0 Z = true) (E : Exa Z h a C) (F : ∃ c t, Z.vm.findClass C = some c ∧ Z.vm.findClass K = some t ∧ Z.vm.assignable c t = false) (k : W l R Z own nm bytes maxL ret n0 P h cells slots n Ls (.int 0 :: st)) : W l R Z own nm bytes maxL ret n0 P h cells slots pc Ls (.ref a :: st) := by
  subst hn
  intro p e s m args below meth c T locs hx hZ hby hml hown hret hlk hnm hn0 X eT N
  obtain ⟨T', X', e', st'⟩ := RoadKit.instNo X hx hZ hown w eT E F (g := mkF m pc Ls (.ref a :: st)) rfl rfl (hb hby hd)
  exact (k p e s m args below meth c T' locs hx hZ hby hml hown hret hlk hnm hn0 X' e' N).step st'
theorem W.instNull {i : Nat} (n : Nat) (hd : decode bytes pc = .ok (.instanceof i, 3)) (hn : pc + 3 = n) (k : W l R Z own nm bytes maxL ret n0 P h cells slots n Ls (.int 0 :: st)) : W l R Z own nm bytes maxL ret n0 P h cells slots pc Ls (.null :: st) := by
  subst hn
  exact k.step fun p e s m args below meth c T locs hx hZ hby hown X eT t q => X.instanceofNull hx (g := mkF m pc Ls (.null :: st)) rfl rfl (hb hby hd) t q
theorem ary_us {vs : List Value} {d : Value} (i k : Nat) (hs : i + k ≤ vs.length) : (List.range k).map (fun j => vs.getD (i + j) d) = (vs.drop i).take k := by
  apply List.ext_getElem?
  intro j
  by_cases hj : j < k
  · simp [hj, List.getD_eq_getElem?_getD, List.getElem?_eq_getElem (show i + j < vs.length by omega)]
  · simp [hj]; omega
theorem W.arraycopy {i : Nat} {a b : Addr} {ty : FieldType} {vs vd : List Value} {sp dp nn : Int32} (n : Nat) (hd : decode bytes pc = .ok (.invokestatic i, 3)) (hn : pc + 3 = n) (w1 : (Jvm.Cond.methodLink own i Jvm.Stand.acN).before a0 Z = true) (w2 : (Jvm.Cond.native Jvm.Stand.acN).before a0 Z = true) (w3 : (Jvm.Cond.static Jvm.Stand.acN).before a0 Z = true) (w4 : (Jvm.Cond.initialized "java/lang/System").before a0 Z = true)
    (A : Ary Z h a ty vs) (B : Ary Z h b ty vd) (hk : refKind ty = false) (si di ni : Nat) (h1 : sp.toNatClampNeg = si) (h1' : ¬ sp < 0) (h2 : dp.toNatClampNeg = di) (h2' : ¬ dp < 0) (h3 : nn.toNatClampNeg = ni) (h3' : ¬ nn < 0) (hs : si + ni ≤ vs.length) (hdl : di + ni ≤ vd.length) (ge : n0 ≤ b) (hsz : Ls.size = maxL) (hf : 1 ≤ R.frames) (W0 : Nat) (hW : (st.map fun v => v.category).sum ≤ W0) (hl : W0 + (nativeFrameWords "java/lang/System" "arraycopy" 5 + 11) ≤ R.locals)
    (k : ∀ h', Keep h h' [b] → Ary Z h' b ty (vd.take di ++ (vs.drop si).take ni ++ vd.drop (di + ni)) → W l R Z own nm bytes maxL ret n0 P h' cells slots n Ls st) : W l R Z own nm bytes maxL ret n0 P h cells slots pc Ls (.int nn :: .int dp :: .ref b :: .int sp :: .ref a :: st) := by
  subst hn h1 h2 h3
  intro p e s m args below meth c T locs hx hZ hby hml hown hret hlk hnm hn0 X eT N
  have za : vs.length.toInt32.toNatClampNeg = vs.length := by
    have S : vs.length < 2 ^ 31 := by obtain ⟨_, _, _, _, S⟩ := A; exact S
    have hz : (vs.length.toInt32).toInt = vs.length := Int32.toInt_ofNat_small S
    simp only [Int32.toNatClampNeg]; rw [hz]; simp
  have zb : vd.length.toInt32.toNatClampNeg = vd.length := by
    have S : vd.length < 2 ^ 31 := by obtain ⟨_, _, _, _, S⟩ := B; exact S
    have hz : (vd.length.toInt32).toInt = vd.length := Int32.toInt_ofNat_small S
    simp only [Int32.toNatClampNeg]; rw [hz]; simp
  obtain ⟨ka, A'⟩ := A.arv .null
  obtain ⟨kb, B'⟩ := B.arv .null
  obtain ⟨T', h', L', X', e', N', K', C', st'⟩ := cpA X hx hZ hown w1 w2 w3 w4 eT A' B' (Or.inl ⟨rfl, hk⟩) h1' h2' h3' (by rw [za]; exact hs) (by rw [zb]; exact hdl) rfl hdl N ge (g := mkF m pc Ls (.int nn :: .int dp :: .ref b :: .int sp :: .ref a :: st)) rfl (by rw [hml]; exact hsz) rfl (hb hby hd) hf (W := W0) (by show 2 * 0 + _ ≤ _; omega) hl
  rw [ary_us _ _ hs] at C'
  have hlen : vd.length.toInt32.toNatClampNeg = (vd.take dp.toNatClampNeg ++ (vs.drop sp.toNatClampNeg).take nn.toNatClampNeg ++ vd.drop (dp.toNatClampNeg + nn.toNatClampNeg)).length := by
    rw [zb]; simp only [List.length_append, List.length_take, List.length_drop]; omega
  exact (k h' K' (Ary.of_arv C' hlen) p e s m args below meth c T' L' hx hZ hby hml hown hret hlk hnm hn0 X' e' N').step st'
theorem W.cloneArr {i : Nat} {a : Addr} {ty : FieldType} {vs : List Value} {ad : String} (n : Nat) (hd : decode bytes pc = .ok (.invokevirtual i, 3)) (hn : pc + 3 = n) (w1 : (Jvm.Cond.methodLink own i ⟨ad, "clone", "()Ljava/lang/Object;"⟩).before a0 Z = true) (w2 : (Jvm.Cond.sameMethod ad "java/lang/Object" "clone" "()Ljava/lang/Object;").before a0 Z = true) (w3 : (Jvm.Cond.native ⟨"java/lang/Object", "clone", "()Ljava/lang/Object;"⟩).before a0 Z = true)
    (w4 : (Jvm.Cond.instanceMethod ⟨"java/lang/Object", "clone", "()Ljava/lang/Object;"⟩).before a0 Z = true) (w5 : (Jvm.Cond.selects ad ⟨ad, "clone", "()Ljava/lang/Object;"⟩ ⟨"java/lang/Object", "clone", "()Ljava/lang/Object;"⟩).before a0 Z = true) (w6 : (Jvm.Cond.castable ad "java/lang/Cloneable").before a0 Z = true)
    (A : Ary Z h a ty vs) (E : Exa Z h a ad) (hsz : Ls.size = maxL) (hf : 1 ≤ R.frames) (W0 cap : Nat) (hW : (st.map fun v => v.category).sum ≤ W0) (hl : W0 + 14 ≤ R.locals) (hcap : vs.length ≤ cap) (hc : cells + 1 ≤ R.cells) (hs : slots + cap ≤ R.slots)
    (k : ∀ h' b, b = h.size → n0 ≤ b → Ext h h' → Keep h h' [] → Ary Z h' b ty vs → Exa Z h' b ad → W l R Z own nm bytes maxL ret n0 P h' (cells + 1) (slots + cap) n Ls (.ref b :: st)) : W l R Z own nm bytes maxL ret n0 P h cells slots pc Ls (.ref a :: st) := by
  subst hn
  intro p e s m args below meth c T locs hx hZ hby hml hown hret hlk hnm hn0 X eT N
  have za : vs.length.toInt32.toNatClampNeg = vs.length := by
    have S : vs.length < 2 ^ 31 := by obtain ⟨_, _, _, _, S⟩ := A; exact S
    have hz : (vs.length.toInt32).toInt = vs.length := Int32.toInt_ofNat_small S
    simp only [Int32.toNatClampNeg]; rw [hz]; simp
  obtain ⟨ka, A'⟩ := A.arv .null
  obtain ⟨T', h', X', e', E', B', C', st'⟩ := cloneH X hx hZ hown w1 w2 w3 w4 w5 w6 eT A'.arh E (g := mkF m pc Ls (.ref a :: st)) rfl (by rw [hml]; exact hsz) rfl (hb hby hd) hf (W := W0) (cap := cap) (by show 2 * 0 + _ ≤ _; omega) hl (by rw [za]; exact hcap) hc hs
  have hb0 : n0 ≤ h.size := Nat.le_trans hn0 (eT ▸ size_le X)
  exact (k h' h.size rfl hb0 E' (Keep.of_ext E') (Ary.of_arv (show Arv Z h' h.size ka ty vs.length.toInt32 vs .null from B') za) C' p e s m args below meth c T' _ hx hZ hby hml hown hret hlk hnm hn0 X' e' N).step st'
theorem W.ireturn {x : Int32} (hd : decode bytes pc = .ok (.ireturn, 1)) (hr : ret = some .int) (hp : P (some (.int x)) h) (hc : cells ≤ R.cells) (hs : slots ≤ R.slots) : W l R Z own nm bytes maxL ret n0 P h cells slots pc Ls (.int x :: st) := by
  intro p e s m args below meth c T locs hx hZ hby hml hown hret hlk hnm hn0 X eT N
  obtain ⟨fs, hr', hrun, hended, hW, hsame⟩ := X.leave (v := some (.int x)) (fun q => by rw [hret, hr] at q; cases q) hlk
  exact ⟨_, _, retOut X hx (t := .int) (i := .ireturn) (hret.trans hr) rfl (Or.inl ⟨rfl, Or.inl rfl, _, rfl⟩) (hb hby hd) hr', hrun, hended, _, _, rfl, ⟨by show P _ T.heap; rw [eT]; exact hp, N⟩, ⟨_, rfl⟩, hW, hsame.mono hc hs⟩
theorem W.ireturnN {x : Int32} {t : FieldType} (hd : decode bytes pc = .ok (.ireturn, 1)) (hr : ret = some t) (ht : t = .boolean ∨ t = .byte ∨ t = .char ∨ t = .short) (x' : Int32) (hx' : nar t x = x') (hp : P (some (.int x')) h) (hc : cells ≤ R.cells) (hs : slots ≤ R.slots) : W l R Z own nm bytes maxL ret n0 P h cells slots pc Ls (.int x :: st) := by
  subst hx'
  intro p e s m args below meth c T locs hx hZ hby hml hown hret hlk hnm hn0 X eT N
  obtain ⟨fs, hr', hrun, hended, hW, hsame⟩ := X.leave (v := some (.int (nar t x))) (fun q => by rw [hret, hr] at q; cases q) hlk
  exact ⟨_, _, retN X hx (hret.trans hr) ht (hb hby hd) hr', hrun, hended, _, _, rfl, ⟨by show P _ T.heap; rw [eT]; exact hp, N⟩, ⟨_, rfl⟩, hW, hsame.mono hc hs⟩
theorem W.lreturn {x : Int64} (hd : decode bytes pc = .ok (.lreturn, 1)) (hr : ret = some .long) (hp : P (some (.long x)) h) (hc : cells ≤ R.cells) (hs : slots ≤ R.slots) : W l R Z own nm bytes maxL ret n0 P h cells slots pc Ls (.long x :: st) := by
  intro p e s m args below meth c T locs hx hZ hby hml hown hret hlk hnm hn0 X eT N
  obtain ⟨fs, hr', hrun, hended, hW, hsame⟩ := X.leave (v := some (.long x)) (fun q => by rw [hret, hr] at q; cases q) hlk
  exact ⟨_, _, retOut X hx (t := .long) (i := .lreturn) (hret.trans hr) rfl (Or.inr (Or.inl ⟨rfl, rfl, _, rfl⟩)) (hb hby hd) hr', hrun, hended, _, _, rfl, ⟨by show P _ T.heap; rw [eT]; exact hp, N⟩, ⟨_, rfl⟩, hW, hsame.mono hc hs⟩
theorem W.areturn {v : Value} {t : FieldType} (hd : decode bytes pc = .ok (.areturn, 1)) (hr : ret = some t) (ht : t.isReference = true) (hv : v.isRef = true) (hn : narrow t v = v) (hp : P (some v) h) (hc : cells ≤ R.cells) (hs : slots ≤ R.slots) : W l R Z own nm bytes maxL ret n0 P h cells slots pc Ls (v :: st) := by
  intro p e s m args below meth c T locs hx hZ hby hml hown hret hlk hnm hn0 X eT N
  obtain ⟨fs, hr', hrun, hended, hW, hsame⟩ := X.leave (v := some v) (fun q => by rw [hret, hr] at q; cases q) hlk
  exact ⟨_, _, retOut X hx (t := t) (i := .areturn) (hret.trans hr) hn (Or.inr (Or.inr (Or.inr (Or.inr ⟨rfl, ht, hv⟩)))) (hb hby hd) hr', hrun, hended, _, _, rfl, ⟨by show P _ T.heap; rw [eT]; exact hp, N⟩, ⟨_, rfl⟩, hW, hsame.mono hc hs⟩
theorem W.return_ (hd : decode bytes pc = .ok (.return_, 1)) (hr : ret = none) (hp : P none h) (hc : cells ≤ R.cells) (hs : slots ≤ R.slots) : W l R Z own nm bytes maxL ret n0 P h cells slots pc Ls [] := by
  intro p e s m args below meth c T locs hx hZ hby hml hown hret hlk hnm hn0 X eT N
  obtain ⟨fs, hr', hrun, hended, hW, hsame⟩ := X.leave (v := none) (fun q => rfl) hlk
  exact ⟨_, _, X.returnOut hx (hret.trans hr) (hb hby hd) hr', hrun, hended, _, _, rfl, ⟨by show P _ T.heap; rw [eT]; exact hp, N⟩, ⟨_, rfl⟩, hW, hsame.mono hc hs⟩
end Rules
end Jvm.Wk

namespace Jvm.Pilot.@@N@@
open Jvm Jvm.ClassFile Sem Op Lib Jvm.Free Jvm.Stand Jvm.LawKit Jvm.RoadKit Jvm.Wk Bundle Jvm.Pilot.@@N@@.Jvm.D
theorem d_prog_65_method_8_11 : decode prog_65_method_8_code 11 = .ok (.aload_n 2, 1) := by decide +kernel
theorem d_prog_65_method_8_12 : decode prog_65_method_8_code 12 = .ok (.ifnull 18, 3) := by decide +kernel
theorem d_prog_65_method_8_15 : decode prog_65_method_8_code 15 = .ok (.aload_n 2, 1) := by decide +kernel
theorem d_prog_65_method_8_16 : decode prog_65_method_8_code 16 = .ok (.aload_n 1, 1) := by decide +kernel
theorem d_prog_65_method_8_17 : decode prog_65_method_8_code 17 = .ok (.if_acmp .ne 5, 3) := by decide +kernel
theorem d_prog_65_method_8_22 : decode prog_65_method_8_code 22 = .ok (.aload_n 2, 1) := by decide +kernel
theorem d_prog_65_method_8_23 : decode prog_65_method_8_code 23 = .ok (.getfield 87, 3) := by decide +kernel
theorem wd_54 {Z : State} {a0 : Array Value} (hw : ∀ d ∈ tables_1, d.before a0 Z = true) : (Jvm.Cond.fieldLink "com/example/pathweave/pathweave/model/Datatype" (87 : Nat) "com/example/pathweave/pathweave/model/Datatype" "enclosing" "Lcom/example/pathweave/pathweave/model/Datatype;").before a0 Z = true := hw _ (List.mem_of_getElem? (i := 54) rfl)
theorem d_prog_65_method_8_26 : decode prog_65_method_8_code 26 = .ok (.astore_n 2, 1) := by decide +kernel
theorem d_prog_65_method_8_27 : decode prog_65_method_8_code 27 = .ok (.goto (-16), 3) := by decide +kernel
theorem d_prog_65_method_8_30 : decode prog_65_method_8_code 30 = .ok (.iconst 0, 1) := by decide +kernel
theorem d_prog_65_method_8_31 : decode prog_65_method_8_code 31 = .ok (.ireturn, 1) := by decide +kernel
theorem d_prog_65_method_8_20 : decode prog_65_method_8_code 20 = .ok (.iconst 1, 1) := by decide +kernel
theorem d_prog_65_method_8_21 : decode prog_65_method_8_code 21 = .ok (.ireturn, 1) := by decide +kernel
theorem d_prog_65_method_8_0 : decode prog_65_method_8_code 0 = .ok (.aload_n 1, 1) := by decide +kernel
theorem d_prog_65_method_8_1 : decode prog_65_method_8_code 1 = .ok (.getstatic 3, 3) := by decide +kernel
theorem wd_53 {Z : State} {a0 : Array Value} (hw : ∀ d ∈ tables_1, d.before a0 Z = true) : (Jvm.Cond.fieldLink "com/example/pathweave/pathweave/model/Datatype" (3 : Nat) "com/example/pathweave/pathweave/model/Datatype" "LITERAL" "Lcom/example/pathweave/pathweave/model/Datatype;").before a0 Z = true := hw _ (List.mem_of_getElem? (i := 53) rfl)
theorem d_prog_65_method_8_4 : decode prog_65_method_8_code 4 = .ok (.if_acmp .ne 5, 3) := by decide +kernel
theorem d_prog_65_method_8_9 : decode prog_65_method_8_code 9 = .ok (.aload_n 0, 1) := by decide +kernel
theorem d_prog_65_method_8_10 : decode prog_65_method_8_code 10 = .ok (.astore_n 2, 1) := by decide +kernel
theorem d_prog_65_method_8_7 : decode prog_65_method_8_code 7 = .ok (.iconst 1, 1) := by decide +kernel
theorem d_prog_65_method_8_8 : decode prog_65_method_8_code 8 = .ok (.ireturn, 1) := by decide +kernel
theorem pn_0 : plainName "com/example/pathweave/pathweave/model/Datatype" = true := by first | (simp [plainName, overriddenIn]; done) | decide +kernel
theorem wd_48 {Z : State} {a0 : Array Value} (hw : ∀ d ∈ tables_1, d.before a0 Z = true) : (Jvm.Cond.methodLink "com/example/pathweave/pathweave/model/DatatypeWithinPinLaw" (72 : Nat) ({ cls := "com/example/pathweave/pathweave/model/Datatype", name := "within", desc := "(Lcom/example/pathweave/pathweave/model/Datatype;)Z" } : Jvm.MethodName)).before a0 Z = true := hw _ (List.mem_of_getElem? (i := 48) rfl)
theorem wd_51 {Z : State} {a0 : Array Value} (hw : ∀ d ∈ tables_1, d.before a0 Z = true) : (Jvm.Cond.selects "com/example/pathweave/pathweave/model/Datatype" ({ cls := "com/example/pathweave/pathweave/model/Datatype", name := "within", desc := "(Lcom/example/pathweave/pathweave/model/Datatype;)Z" } : Jvm.MethodName) ({ cls := "com/example/pathweave/pathweave/model/Datatype", name := "within", desc := "(Lcom/example/pathweave/pathweave/model/Datatype;)Z" } : Jvm.MethodName)).before a0 Z = true := hw _ (List.mem_of_getElem? (i := 51) rfl)
theorem wd_52 {Z : State} {a0 : Array Value} (hw : ∀ d ∈ tables_1, d.before a0 Z = true) : (Jvm.Cond.code ({ cls := "com/example/pathweave/pathweave/model/Datatype", name := "within", desc := "(Lcom/example/pathweave/pathweave/model/Datatype;)Z" } : Jvm.MethodName) prog_65_method_8_code (3 : Nat) (Option.some Jvm.ClassFile.FieldType.boolean)).before a0 Z = true := hw _ (List.mem_of_getElem? (i := 52) rfl)
theorem pd_0 : parseMethodDescriptor "(Lcom/example/pathweave/pathweave/model/Datatype;)Z" = some ⟨[(.object "com/example/pathweave/pathweave/model/Datatype")], some .boolean⟩ := by decide +kernel
theorem wd_49 {Z : State} {a0 : Array Value} (hw : ∀ d ∈ tables_1, d.before a0 Z = true) : (Jvm.Cond.declares ({ cls := "com/example/pathweave/pathweave/model/Datatype", name := "within", desc := "(Lcom/example/pathweave/pathweave/model/Datatype;)Z" } : Jvm.MethodName)).before a0 Z = true := hw _ (List.mem_of_getElem? (i := 49) rfl)
theorem wd_50 {Z : State} {a0 : Array Value} (hw : ∀ d ∈ tables_1, d.before a0 Z = true) : (Jvm.Cond.instanceMethod ({ cls := "com/example/pathweave/pathweave/model/Datatype", name := "within", desc := "(Lcom/example/pathweave/pathweave/model/Datatype;)Z" } : Jvm.MethodName)).before a0 Z = true := hw _ (List.mem_of_getElem? (i := 50) rfl)
theorem wd_3 {Z : State} {a0 : Array Value} (hw : ∀ d ∈ tables_1, d.before a0 Z = true) : (Jvm.Cond.initialized "com/example/pathweave/pathweave/model/Datatype").before a0 Z = true := hw _ (List.mem_of_getElem? (i := 3) rfl)
theorem wd_0 {Z : State} {a0 : Array Value} (hw : ∀ d ∈ tables_1, d.before a0 Z = true) : (Jvm.Cond.classLink "com/example/pathweave/pathweave/model/DatatypeWithinPinLaw" (7 : Nat) "com/example/pathweave/pathweave/model/Datatype").before a0 Z = true := hw _ (List.mem_of_getElem? (i := 0) rfl)
theorem wd_1 {Z : State} {a0 : Array Value} (hw : ∀ d ∈ tables_1, d.before a0 Z = true) : (Jvm.Cond.arrayOver (Jvm.ClassFile.FieldType.object "com/example/pathweave/pathweave/model/Datatype")).before a0 Z = true := hw _ (List.mem_of_getElem? (i := 1) rfl)
theorem wd_2 {Z : State} {a0 : Array Value} (hw : ∀ d ∈ tables_1, d.before a0 Z = true) : (Jvm.Cond.fieldLink "com/example/pathweave/pathweave/model/DatatypeWithinPinLaw" (9 : Nat) "com/example/pathweave/pathweave/model/Datatype" "LITERAL" "Lcom/example/pathweave/pathweave/model/Datatype;").before a0 Z = true := hw _ (List.mem_of_getElem? (i := 2) rfl)
theorem wd_6 {Z : State} {a0 : Array Value} (hw : ∀ d ∈ tables_1, d.before a0 Z = true) : (Jvm.Cond.fieldLink "com/example/pathweave/pathweave/model/DatatypeWithinPinLaw" (13 : Nat) "com/example/pathweave/pathweave/model/Datatype" "PLAIN_LITERAL" "Lcom/example/pathweave/pathweave/model/Datatype;").before a0 Z = true := hw _ (List.mem_of_getElem? (i := 6) rfl)
theorem wd_8 {Z : State} {a0 : Array Value} (hw : ∀ d ∈ tables_1, d.before a0 Z = true) : (Jvm.Cond.fieldLink "com/example/pathweave/pathweave/model/DatatypeWithinPinLaw" (16 : Nat) "com/example/pathweave/pathweave/model/Datatype" "XML_LITERAL" "Lcom/example/pathweave/pathweave/model/Datatype;").before a0 Z = true := hw _ (List.mem_of_getElem? (i := 8) rfl)
theorem wd_10 {Z : State} {a0 : Array Value} (hw : ∀ d ∈ tables_1, d.before a0 Z = true) : (Jvm.Cond.fieldLink "com/example/pathweave/pathweave/model/DatatypeWithinPinLaw" (19 : Nat) "com/example/pathweave/pathweave/model/Datatype" "REAL" "Lcom/example/pathweave/pathweave/model/Datatype;").before a0 Z = true := hw _ (List.mem_of_getElem? (i := 10) rfl)
theorem wd_12 {Z : State} {a0 : Array Value} (hw : ∀ d ∈ tables_1, d.before a0 Z = true) : (Jvm.Cond.fieldLink "com/example/pathweave/pathweave/model/DatatypeWithinPinLaw" (22 : Nat) "com/example/pathweave/pathweave/model/Datatype" "RATIONAL" "Lcom/example/pathweave/pathweave/model/Datatype;").before a0 Z = true := hw _ (List.mem_of_getElem? (i := 12) rfl)
theorem wd_14 {Z : State} {a0 : Array Value} (hw : ∀ d ∈ tables_1, d.before a0 Z = true) : (Jvm.Cond.fieldLink "com/example/pathweave/pathweave/model/DatatypeWithinPinLaw" (25 : Nat) "com/example/pathweave/pathweave/model/Datatype" "DECIMAL" "Lcom/example/pathweave/pathweave/model/Datatype;").before a0 Z = true := hw _ (List.mem_of_getElem? (i := 14) rfl)
theorem wd_16 {Z : State} {a0 : Array Value} (hw : ∀ d ∈ tables_1, d.before a0 Z = true) : (Jvm.Cond.fieldLink "com/example/pathweave/pathweave/model/DatatypeWithinPinLaw" (28 : Nat) "com/example/pathweave/pathweave/model/Datatype" "INTEGER" "Lcom/example/pathweave/pathweave/model/Datatype;").before a0 Z = true := hw _ (List.mem_of_getElem? (i := 16) rfl)
theorem wd_18 {Z : State} {a0 : Array Value} (hw : ∀ d ∈ tables_1, d.before a0 Z = true) : (Jvm.Cond.fieldLink "com/example/pathweave/pathweave/model/DatatypeWithinPinLaw" (31 : Nat) "com/example/pathweave/pathweave/model/Datatype" "NON_NEGATIVE_INTEGER" "Lcom/example/pathweave/pathweave/model/Datatype;").before a0 Z = true := hw _ (List.mem_of_getElem? (i := 18) rfl)
theorem wd_20 {Z : State} {a0 : Array Value} (hw : ∀ d ∈ tables_1, d.before a0 Z = true) : (Jvm.Cond.fieldLink "com/example/pathweave/pathweave/model/DatatypeWithinPinLaw" (34 : Nat) "com/example/pathweave/pathweave/model/Datatype" "STRING" "Lcom/example/pathweave/pathweave/model/Datatype;").before a0 Z = true := hw _ (List.mem_of_getElem? (i := 20) rfl)
theorem wd_22 {Z : State} {a0 : Array Value} (hw : ∀ d ∈ tables_1, d.before a0 Z = true) : (Jvm.Cond.fieldLink "com/example/pathweave/pathweave/model/DatatypeWithinPinLaw" (37 : Nat) "com/example/pathweave/pathweave/model/Datatype" "NORMALIZED_STRING" "Lcom/example/pathweave/pathweave/model/Datatype;").before a0 Z = true := hw _ (List.mem_of_getElem? (i := 22) rfl)
theorem wd_24 {Z : State} {a0 : Array Value} (hw : ∀ d ∈ tables_1, d.before a0 Z = true) : (Jvm.Cond.fieldLink "com/example/pathweave/pathweave/model/DatatypeWithinPinLaw" (40 : Nat) "com/example/pathweave/pathweave/model/Datatype" "TOKEN" "Lcom/example/pathweave/pathweave/model/Datatype;").before a0 Z = true := hw _ (List.mem_of_getElem? (i := 24) rfl)
theorem wd_26 {Z : State} {a0 : Array Value} (hw : ∀ d ∈ tables_1, d.before a0 Z = true) : (Jvm.Cond.fieldLink "com/example/pathweave/pathweave/model/DatatypeWithinPinLaw" (43 : Nat) "com/example/pathweave/pathweave/model/Datatype" "NMTOKEN" "Lcom/example/pathweave/pathweave/model/Datatype;").before a0 Z = true := hw _ (List.mem_of_getElem? (i := 26) rfl)
theorem wd_28 {Z : State} {a0 : Array Value} (hw : ∀ d ∈ tables_1, d.before a0 Z = true) : (Jvm.Cond.fieldLink "com/example/pathweave/pathweave/model/DatatypeWithinPinLaw" (46 : Nat) "com/example/pathweave/pathweave/model/Datatype" "NAME" "Lcom/example/pathweave/pathweave/model/Datatype;").before a0 Z = true := hw _ (List.mem_of_getElem? (i := 28) rfl)
theorem wd_30 {Z : State} {a0 : Array Value} (hw : ∀ d ∈ tables_1, d.before a0 Z = true) : (Jvm.Cond.fieldLink "com/example/pathweave/pathweave/model/DatatypeWithinPinLaw" (49 : Nat) "com/example/pathweave/pathweave/model/Datatype" "NCNAME" "Lcom/example/pathweave/pathweave/model/Datatype;").before a0 Z = true := hw _ (List.mem_of_getElem? (i := 30) rfl)
theorem wd_32 {Z : State} {a0 : Array Value} (hw : ∀ d ∈ tables_1, d.before a0 Z = true) : (Jvm.Cond.fieldLink "com/example/pathweave/pathweave/model/DatatypeWithinPinLaw" (52 : Nat) "com/example/pathweave/pathweave/model/Datatype" "HEX_BINARY" "Lcom/example/pathweave/pathweave/model/Datatype;").before a0 Z = true := hw _ (List.mem_of_getElem? (i := 32) rfl)
theorem wd_34 {Z : State} {a0 : Array Value} (hw : ∀ d ∈ tables_1, d.before a0 Z = true) : (Jvm.Cond.fieldLink "com/example/pathweave/pathweave/model/DatatypeWithinPinLaw" (55 : Nat) "com/example/pathweave/pathweave/model/Datatype" "BASE64_BINARY" "Lcom/example/pathweave/pathweave/model/Datatype;").before a0 Z = true := hw _ (List.mem_of_getElem? (i := 34) rfl)
theorem wd_36 {Z : State} {a0 : Array Value} (hw : ∀ d ∈ tables_1, d.before a0 Z = true) : (Jvm.Cond.fieldLink "com/example/pathweave/pathweave/model/DatatypeWithinPinLaw" (58 : Nat) "com/example/pathweave/pathweave/model/Datatype" "ANY_URI" "Lcom/example/pathweave/pathweave/model/Datatype;").before a0 Z = true := hw _ (List.mem_of_getElem? (i := 36) rfl)
theorem wd_38 {Z : State} {a0 : Array Value} (hw : ∀ d ∈ tables_1, d.before a0 Z = true) : (Jvm.Cond.fieldLink "com/example/pathweave/pathweave/model/DatatypeWithinPinLaw" (61 : Nat) "com/example/pathweave/pathweave/model/Datatype" "DATE_TIME" "Lcom/example/pathweave/pathweave/model/Datatype;").before a0 Z = true := hw _ (List.mem_of_getElem? (i := 38) rfl)
theorem wd_40 {Z : State} {a0 : Array Value} (hw : ∀ d ∈ tables_1, d.before a0 Z = true) : (Jvm.Cond.fieldLink "com/example/pathweave/pathweave/model/DatatypeWithinPinLaw" (64 : Nat) "com/example/pathweave/pathweave/model/Datatype" "DATE_TIME_STAMP" "Lcom/example/pathweave/pathweave/model/Datatype;").before a0 Z = true := hw _ (List.mem_of_getElem? (i := 40) rfl)
theorem wd_42 {Z : State} {a0 : Array Value} (hw : ∀ d ∈ tables_1, d.before a0 Z = true) : (Jvm.Cond.arrayClass Jvm.ClassFile.FieldType.int).before a0 Z = true := hw _ (List.mem_of_getElem? (i := 42) rfl)
theorem wd_43 {Z : State} {a0 : Array Value} (hw : ∀ d ∈ tables_1, d.before a0 Z = true) : (Jvm.Cond.constant "com/example/pathweave/pathweave/model/DatatypeWithinPinLaw" (67 : Nat) (32768 : Int32)).before a0 Z = true := hw _ (List.mem_of_getElem? (i := 43) rfl)
theorem wd_44 {Z : State} {a0 : Array Value} (hw : ∀ d ∈ tables_1, d.before a0 Z = true) : (Jvm.Cond.constant "com/example/pathweave/pathweave/model/DatatypeWithinPinLaw" (68 : Nat) (65536 : Int32)).before a0 Z = true := hw _ (List.mem_of_getElem? (i := 44) rfl)
theorem wd_45 {Z : State} {a0 : Array Value} (hw : ∀ d ∈ tables_1, d.before a0 Z = true) : (Jvm.Cond.constant "com/example/pathweave/pathweave/model/DatatypeWithinPinLaw" (69 : Nat) (131072 : Int32)).before a0 Z = true := hw _ (List.mem_of_getElem? (i := 45) rfl)
theorem wd_46 {Z : State} {a0 : Array Value} (hw : ∀ d ∈ tables_1, d.before a0 Z = true) : (Jvm.Cond.constant "com/example/pathweave/pathweave/model/DatatypeWithinPinLaw" (70 : Nat) (262144 : Int32)).before a0 Z = true := hw _ (List.mem_of_getElem? (i := 46) rfl)
theorem wd_47 {Z : State} {a0 : Array Value} (hw : ∀ d ∈ tables_1, d.before a0 Z = true) : (Jvm.Cond.constant "com/example/pathweave/pathweave/model/DatatypeWithinPinLaw" (71 : Nat) (2147483647 : Int32)).before a0 Z = true := hw _ (List.mem_of_getElem? (i := 47) rfl)
theorem pn_1 : plainName "com/example/pathweave/pathweave/model/DatatypeWithinPinLaw" = true := by first | (simp [plainName, overriddenIn]; done) | decide +kernel
theorem wd_4 {Z : State} {a0 : Array Value} (hw : ∀ d ∈ tables_1, d.before a0 Z = true) : (Jvm.Cond.laysStatic "com/example/pathweave/pathweave/model/Datatype" "LITERAL" "Lcom/example/pathweave/pathweave/model/Datatype;").before a0 Z = true := hw _ (List.mem_of_getElem? (i := 4) rfl)
theorem wd_7 {Z : State} {a0 : Array Value} (hw : ∀ d ∈ tables_1, d.before a0 Z = true) : (Jvm.Cond.laysStatic "com/example/pathweave/pathweave/model/Datatype" "PLAIN_LITERAL" "Lcom/example/pathweave/pathweave/model/Datatype;").before a0 Z = true := hw _ (List.mem_of_getElem? (i := 7) rfl)
theorem wd_9 {Z : State} {a0 : Array Value} (hw : ∀ d ∈ tables_1, d.before a0 Z = true) : (Jvm.Cond.laysStatic "com/example/pathweave/pathweave/model/Datatype" "XML_LITERAL" "Lcom/example/pathweave/pathweave/model/Datatype;").before a0 Z = true := hw _ (List.mem_of_getElem? (i := 9) rfl)
theorem wd_11 {Z : State} {a0 : Array Value} (hw : ∀ d ∈ tables_1, d.before a0 Z = true) : (Jvm.Cond.laysStatic "com/example/pathweave/pathweave/model/Datatype" "REAL" "Lcom/example/pathweave/pathweave/model/Datatype;").before a0 Z = true := hw _ (List.mem_of_getElem? (i := 11) rfl)
theorem wd_13 {Z : State} {a0 : Array Value} (hw : ∀ d ∈ tables_1, d.before a0 Z = true) : (Jvm.Cond.laysStatic "com/example/pathweave/pathweave/model/Datatype" "RATIONAL" "Lcom/example/pathweave/pathweave/model/Datatype;").before a0 Z = true := hw _ (List.mem_of_getElem? (i := 13) rfl)
theorem wd_15 {Z : State} {a0 : Array Value} (hw : ∀ d ∈ tables_1, d.before a0 Z = true) : (Jvm.Cond.laysStatic "com/example/pathweave/pathweave/model/Datatype" "DECIMAL" "Lcom/example/pathweave/pathweave/model/Datatype;").before a0 Z = true := hw _ (List.mem_of_getElem? (i := 15) rfl)
theorem wd_17 {Z : State} {a0 : Array Value} (hw : ∀ d ∈ tables_1, d.before a0 Z = true) : (Jvm.Cond.laysStatic "com/example/pathweave/pathweave/model/Datatype" "INTEGER" "Lcom/example/pathweave/pathweave/model/Datatype;").before a0 Z = true := hw _ (List.mem_of_getElem? (i := 17) rfl)
theorem wd_19 {Z : State} {a0 : Array Value} (hw : ∀ d ∈ tables_1, d.before a0 Z = true) : (Jvm.Cond.laysStatic "com/example/pathweave/pathweave/model/Datatype" "NON_NEGATIVE_INTEGER" "Lcom/example/pathweave/pathweave/model/Datatype;").before a0 Z = true := hw _ (List.mem_of_getElem? (i := 19) rfl)
theorem wd_21 {Z : State} {a0 : Array Value} (hw : ∀ d ∈ tables_1, d.before a0 Z = true) : (Jvm.Cond.laysStatic "com/example/pathweave/pathweave/model/Datatype" "STRING" "Lcom/example/pathweave/pathweave/model/Datatype;").before a0 Z = true := hw _ (List.mem_of_getElem? (i := 21) rfl)
theorem wd_23 {Z : State} {a0 : Array Value} (hw : ∀ d ∈ tables_1, d.before a0 Z = true) : (Jvm.Cond.laysStatic "com/example/pathweave/pathweave/model/Datatype" "NORMALIZED_STRING" "Lcom/example/pathweave/pathweave/model/Datatype;").before a0 Z = true := hw _ (List.mem_of_getElem? (i := 23) rfl)
theorem wd_25 {Z : State} {a0 : Array Value} (hw : ∀ d ∈ tables_1, d.before a0 Z = true) : (Jvm.Cond.laysStatic "com/example/pathweave/pathweave/model/Datatype" "TOKEN" "Lcom/example/pathweave/pathweave/model/Datatype;").before a0 Z = true := hw _ (List.mem_of_getElem? (i := 25) rfl)
theorem wd_27 {Z : State} {a0 : Array Value} (hw : ∀ d ∈ tables_1, d.before a0 Z = true) : (Jvm.Cond.laysStatic "com/example/pathweave/pathweave/model/Datatype" "NMTOKEN" "Lcom/example/pathweave/pathweave/model/Datatype;").before a0 Z = true := hw _ (List.mem_of_getElem? (i := 27) rfl)
theorem wd_29 {Z : State} {a0 : Array Value} (hw : ∀ d ∈ tables_1, d.before a0 Z = true) : (Jvm.Cond.laysStatic "com/example/pathweave/pathweave/model/Datatype" "NAME" "Lcom/example/pathweave/pathweave/model/Datatype;").before a0 Z = true := hw _ (List.mem_of_getElem? (i := 29) rfl)
theorem wd_31 {Z : State} {a0 : Array Value} (hw : ∀ d ∈ tables_1, d.before a0 Z = true) : (Jvm.Cond.laysStatic "com/example/pathweave/pathweave/model/Datatype" "NCNAME" "Lcom/example/pathweave/pathweave/model/Datatype;").before a0 Z = true := hw _ (List.mem_of_getElem? (i := 31) rfl)
theorem wd_33 {Z : State} {a0 : Array Value} (hw : ∀ d ∈ tables_1, d.before a0 Z = true) : (Jvm.Cond.laysStatic "com/example/pathweave/pathweave/model/Datatype" "HEX_BINARY" "Lcom/example/pathweave/pathweave/model/Datatype;").before a0 Z = true := hw _ (List.mem_of_getElem? (i := 33) rfl)
theorem wd_35 {Z : State} {a0 : Array Value} (hw : ∀ d ∈ tables_1, d.before a0 Z = true) : (Jvm.Cond.laysStatic "com/example/pathweave/pathweave/model/Datatype" "BASE64_BINARY" "Lcom/example/pathweave/pathweave/model/Datatype;").before a0 Z = true := hw _ (List.mem_of_getElem? (i := 35) rfl)
theorem wd_37 {Z : State} {a0 : Array Value} (hw : ∀ d ∈ tables_1, d.before a0 Z = true) : (Jvm.Cond.laysStatic "com/example/pathweave/pathweave/model/Datatype" "ANY_URI" "Lcom/example/pathweave/pathweave/model/Datatype;").before a0 Z = true := hw _ (List.mem_of_getElem? (i := 37) rfl)
theorem wd_39 {Z : State} {a0 : Array Value} (hw : ∀ d ∈ tables_1, d.before a0 Z = true) : (Jvm.Cond.laysStatic "com/example/pathweave/pathweave/model/Datatype" "DATE_TIME" "Lcom/example/pathweave/pathweave/model/Datatype;").before a0 Z = true := hw _ (List.mem_of_getElem? (i := 39) rfl)
theorem wd_41 {Z : State} {a0 : Array Value} (hw : ∀ d ∈ tables_1, d.before a0 Z = true) : (Jvm.Cond.laysStatic "com/example/pathweave/pathweave/model/Datatype" "DATE_TIME_STAMP" "Lcom/example/pathweave/pathweave/model/Datatype;").before a0 Z = true := hw _ (List.mem_of_getElem? (i := 41) rfl)
/-- the constant that encloses the i-th -/
def own_enc (e : Nat → Addr) (i : Nat) : Value := match ([none, none, none, none, some 3, some 4, some 5, some 6, some 1, some 8, some 9, some 10, some 11, some 12, none, none, none, none, some 17] : List (Option Nat)).getD i none with
  | none => .null
  | some k => .ref (e k)
def own_DT (Z : State) (h : Heap) (e : Nat → Addr) : Prop := (Sta Z h "com/example/pathweave/pathweave/model/Datatype" "LITERAL" "Lcom/example/pathweave/pathweave/model/Datatype;" (.ref (e 0)) ∧ Sta Z h "com/example/pathweave/pathweave/model/Datatype" "PLAIN_LITERAL" "Lcom/example/pathweave/pathweave/model/Datatype;" (.ref (e 1)) ∧ Sta Z h "com/example/pathweave/pathweave/model/Datatype" "XML_LITERAL" "Lcom/example/pathweave/pathweave/model/Datatype;" (.ref (e 2)) ∧ Sta Z h "com/example/pathweave/pathweave/model/Datatype" "REAL" "Lcom/example/pathweave/pathweave/model/Datatype;" (.ref (e 3)) ∧ Sta Z h "com/example/pathweave/pathweave/model/Datatype" "RATIONAL" "Lcom/example/pathweave/pathweave/model/Datatype;" (.ref (e 4)) ∧ Sta Z h "com/example/pathweave/pathweave/model/Datatype" "DECIMAL" "Lcom/example/pathweave/pathweave/model/Datatype;" (.ref (e 5)) ∧ Sta Z h "com/example/pathweave/pathweave/model/Datatype" "INTEGER" "Lcom/example/pathweave/pathweave/model/Datatype;" (.ref (e 6)) ∧ Sta Z h "com/example/pathweave/pathweave/model/Datatype" "NON_NEGATIVE_INTEGER" "Lcom/example/pathweave/pathweave/model/Datatype;" (.ref (e 7)) ∧ Sta Z h "com/example/pathweave/pathweave/model/Datatype" "STRING" "Lcom/example/pathweave/pathweave/model/Datatype;" (.ref (e 8)) ∧ Sta Z h "com/example/pathweave/pathweave/model/Datatype" "NORMALIZED_STRING" "Lcom/example/pathweave/pathweave/model/Datatype;" (.ref (e 9)) ∧ Sta Z h "com/example/pathweave/pathweave/model/Datatype" "TOKEN" "Lcom/example/pathweave/pathweave/model/Datatype;" (.ref (e 10)) ∧ Sta Z h "com/example/pathweave/pathweave/model/Datatype" "NMTOKEN" "Lcom/example/pathweave/pathweave/model/Datatype;" (.ref (e 11)) ∧ Sta Z h "com/example/pathweave/pathweave/model/Datatype" "NAME" "Lcom/example/pathweave/pathweave/model/Datatype;" (.ref (e 12)) ∧ Sta Z h "com/example/pathweave/pathweave/model/Datatype" "NCNAME" "Lcom/example/pathweave/pathweave/model/Datatype;" (.ref (e 13)) ∧ Sta Z h "com/example/pathweave/pathweave/model/Datatype" "HEX_BINARY" "Lcom/example/pathweave/pathweave/model/Datatype;" (.ref (e 14)) ∧ Sta Z h "com/example/pathweave/pathweave/model/Datatype" "BASE64_BINARY" "Lcom/example/pathweave/pathweave/model/Datatype;" (.ref (e 15)) ∧ Sta Z h "com/example/pathweave/pathweave/model/Datatype" "ANY_URI" "Lcom/example/pathweave/pathweave/model/Datatype;" (.ref (e 16)) ∧ Sta Z h "com/example/pathweave/pathweave/model/Datatype" "DATE_TIME" "Lcom/example/pathweave/pathweave/model/Datatype;" (.ref (e 17)) ∧ Sta Z h "com/example/pathweave/pathweave/model/Datatype" "DATE_TIME_STAMP" "Lcom/example/pathweave/pathweave/model/Datatype;" (.ref (e 18))) ∧ (∀ i, i < 19 → Exa Z h (e i) "com/example/pathweave/pathweave/model/Datatype") ∧ (∀ i, i < 19 → Fld Z h (e i) "com/example/pathweave/pathweave/model/Datatype" "enclosing" "Lcom/example/pathweave/pathweave/model/Datatype;" (own_enc e i)) ∧ (∀ i j, i < 19 → j < 19 → e i = e j → i = j)
theorem own_DT.keep {Z : State} {h h' : Heap} {e : Nat → Addr} (F : own_DT Z h e) (K : Keep h h' []) : own_DT Z h' e := by
  obtain ⟨⟨s0, s1, s2, s3, s4, s5, s6, s7, s8, s9, s10, s11, s12, s13, s14, s15, s16, s17, s18⟩, h2, h3, h4⟩ := F
  exact ⟨⟨Sta.keep0 K s0, Sta.keep0 K s1, Sta.keep0 K s2, Sta.keep0 K s3, Sta.keep0 K s4, Sta.keep0 K s5, Sta.keep0 K s6, Sta.keep0 K s7, Sta.keep0 K s8, Sta.keep0 K s9, Sta.keep0 K s10, Sta.keep0 K s11, Sta.keep0 K s12, Sta.keep0 K s13, Sta.keep0 K s14, Sta.keep0 K s15, Sta.keep0 K s16, Sta.keep0 K s17, Sta.keep0 K s18⟩, fun i hi => (h2 i hi).keep K, fun i hi => (h3 i hi).keep K nin0, h4⟩
set_option maxRecDepth 65536 in
set_option maxHeartbeats 40000000 in
theorem w11_0 (l : Launch) (Z : State) (a0 : Array Value) (hw : ∀ d ∈ tables_1, d.before a0 Z = true) (e : Nat → Addr) (a : Addr) (j : Nat) (h : Heap) (n0 : Nat) (hj : j < 19) (hF : ∀ i, i < 19 → Fld Z h (e i) "com/example/pathweave/pathweave/model/Datatype" "enclosing" "Lcom/example/pathweave/pathweave/model/Datatype;" (own_enc e i)) (hI : ∀ i j, i < 19 → j < 19 → e i = e j → i = j) : W l ({ frames := 0, cells := 0, slots := 0, locals := 0 } : Room) Z "com/example/pathweave/pathweave/model/Datatype" "within" prog_65_method_8_code 3 (some .boolean) n0 (fun r h' => r = some (.int (if j ∈ ([0] : List Nat) then 1 else 0)) ∧ h' = h) h 0 0 11 #[.val (.ref a), .val (.ref (e j)), .val (.ref (e 0))] [] := by
  refine W.aloadN 12 d_prog_65_method_8_11 rfl rfl rfl ?_
  refine W.ifnull_ref 15 d_prog_65_method_8_12 rfl ?_
  refine W.aloadN 16 d_prog_65_method_8_15 rfl rfl rfl ?_
  refine W.aloadN 17 d_prog_65_method_8_16 rfl rfl rfl ?_
  refine W.acmp_ne 22 20 d_prog_65_method_8_17 rfl rfl rfl rfl ?_ ?_
  · intro hc1001
    refine W.aloadN 23 d_prog_65_method_8_22 rfl rfl rfl ?_
    refine W.getfield 26 d_prog_65_method_8_23 rfl (host := "") (Or.inl (wd_54 hw)) Via.refl (show Fld Z h (e 0) _ _ _ .null from hF 0 (by decide)) ?_
    refine W.astoreN 27 d_prog_65_method_8_26 rfl rfl #[.val (.ref a), .val (.ref (e j)), .val .null] rfl ?_
    refine W.goto 11 d_prog_65_method_8_27 rfl ?_
    refine W.aloadN 12 d_prog_65_method_8_11 rfl rfl rfl ?_
    refine W.ifnull_null 30 d_prog_65_method_8_12 rfl ?_
    refine W.iconst 31 d_prog_65_method_8_30 rfl (0 : Int32) rfl ?_
    exact W.ireturnN (t := .boolean) d_prog_65_method_8_31 rfl (by simp) (0 : Int32) rfl ⟨by rw [if_neg]; intro q; exact hc1001 (by rw [List.mem_singleton.mp q]), rfl⟩ (by decide) (by decide)
  · intro hc1001
    refine W.iconst 21 d_prog_65_method_8_20 rfl (1 : Int32) rfl ?_
    exact W.ireturnN (t := .boolean) d_prog_65_method_8_21 rfl (by simp) (1 : Int32) rfl ⟨by rw [if_pos]; rw [hI 0 j (by decide) hj (Value.ref.inj hc1001)]; exact List.mem_cons_self, rfl⟩ (by decide) (by decide)
set_option maxRecDepth 65536 in
set_option maxHeartbeats 40000000 in
theorem w11_1 (l : Launch) (Z : State) (a0 : Array Value) (hw : ∀ d ∈ tables_1, d.before a0 Z = true) (e : Nat → Addr) (a : Addr) (j : Nat) (h : Heap) (n0 : Nat) (hj : j < 19) (hF : ∀ i, i < 19 → Fld Z h (e i) "com/example/pathweave/pathweave/model/Datatype" "enclosing" "Lcom/example/pathweave/pathweave/model/Datatype;" (own_enc e i)) (hI : ∀ i j, i < 19 → j < 19 → e i = e j → i = j) : W l ({ frames := 0, cells := 0, slots := 0, locals := 0 } : Room) Z "com/example/pathweave/pathweave/model/Datatype" "within" prog_65_method_8_code 3 (some .boolean) n0 (fun r h' => r = some (.int (if j ∈ ([1] : List Nat) then 1 else 0)) ∧ h' = h) h 0 0 11 #[.val (.ref a), .val (.ref (e j)), .val (.ref (e 1))] [] := by
  refine W.aloadN 12 d_prog_65_method_8_11 rfl rfl rfl ?_
  refine W.ifnull_ref 15 d_prog_65_method_8_12 rfl ?_
  refine W.aloadN 16 d_prog_65_method_8_15 rfl rfl rfl ?_
  refine W.aloadN 17 d_prog_65_method_8_16 rfl rfl rfl ?_
  refine W.acmp_ne 22 20 d_prog_65_method_8_17 rfl rfl rfl rfl ?_ ?_
  · intro hc1002
    refine W.aloadN 23 d_prog_65_method_8_22 rfl rfl rfl ?_
    refine W.getfield 26 d_prog_65_method_8_23 rfl (host := "") (Or.inl (wd_54 hw)) Via.refl (show Fld Z h (e 1) _ _ _ .null from hF 1 (by decide)) ?_
    refine W.astoreN 27 d_prog_65_method_8_26 rfl rfl #[.val (.ref a), .val (.ref (e j)), .val .null] rfl ?_
    refine W.goto 11 d_prog_65_method_8_27 rfl ?_
    refine W.aloadN 12 d_prog_65_method_8_11 rfl rfl rfl ?_
    refine W.ifnull_null 30 d_prog_65_method_8_12 rfl ?_
    refine W.iconst 31 d_prog_65_method_8_30 rfl (0 : Int32) rfl ?_
    exact W.ireturnN (t := .boolean) d_prog_65_method_8_31 rfl (by simp) (0 : Int32) rfl ⟨by rw [if_neg]; intro q; exact hc1002 (by rw [List.mem_singleton.mp q]), rfl⟩ (by decide) (by decide)
  · intro hc1002
    refine W.iconst 21 d_prog_65_method_8_20 rfl (1 : Int32) rfl ?_
    exact W.ireturnN (t := .boolean) d_prog_65_method_8_21 rfl (by simp) (1 : Int32) rfl ⟨by rw [if_pos]; rw [hI 1 j (by decide) hj (Value.ref.inj hc1002)]; exact List.mem_cons_self, rfl⟩ (by decide) (by decide)
set_option maxRecDepth 65536 in
set_option maxHeartbeats 40000000 in
theorem w11_2 (l : Launch) (Z : State) (a0 : Array Value) (hw : ∀ d ∈ tables_1, d.before a0 Z = true) (e : Nat → Addr) (a : Addr) (j : Nat) (h : Heap) (n0 : Nat) (hj : j < 19) (hF : ∀ i, i < 19 → Fld Z h (e i) "com/example/pathweave/pathweave/model/Datatype" "enclosing" "Lcom/example/pathweave/pathweave/model/Datatype;" (own_enc e i)) (hI : ∀ i j, i < 19 → j < 19 → e i = e j → i = j) : W l ({ frames := 0, cells := 0, slots := 0, locals := 0 } : Room) Z "com/example/pathweave/pathweave/model/Datatype" "within" prog_65_method_8_code 3 (some .boolean) n0 (fun r h' => r = some (.int (if j ∈ ([2] : List Nat) then 1 else 0)) ∧ h' = h) h 0 0 11 #[.val (.ref a), .val (.ref (e j)), .val (.ref (e 2))] [] := by
  refine W.aloadN 12 d_prog_65_method_8_11 rfl rfl rfl ?_
  refine W.ifnull_ref 15 d_prog_65_method_8_12 rfl ?_
  refine W.aloadN 16 d_prog_65_method_8_15 rfl rfl rfl ?_
  refine W.aloadN 17 d_prog_65_method_8_16 rfl rfl rfl ?_
  refine W.acmp_ne 22 20 d_prog_65_method_8_17 rfl rfl rfl rfl ?_ ?_
  · intro hc1003
    refine W.aloadN 23 d_prog_65_method_8_22 rfl rfl rfl ?_
    refine W.getfield 26 d_prog_65_method_8_23 rfl (host := "") (Or.inl (wd_54 hw)) Via.refl (show Fld Z h (e 2) _ _ _ .null from hF 2 (by decide)) ?_
    refine W.astoreN 27 d_prog_65_method_8_26 rfl rfl #[.val (.ref a), .val (.ref (e j)), .val .null] rfl ?_
    refine W.goto 11 d_prog_65_method_8_27 rfl ?_
    refine W.aloadN 12 d_prog_65_method_8_11 rfl rfl rfl ?_
    refine W.ifnull_null 30 d_prog_65_method_8_12 rfl ?_
    refine W.iconst 31 d_prog_65_method_8_30 rfl (0 : Int32) rfl ?_
    exact W.ireturnN (t := .boolean) d_prog_65_method_8_31 rfl (by simp) (0 : Int32) rfl ⟨by rw [if_neg]; intro q; exact hc1003 (by rw [List.mem_singleton.mp q]), rfl⟩ (by decide) (by decide)
  · intro hc1003
    refine W.iconst 21 d_prog_65_method_8_20 rfl (1 : Int32) rfl ?_
    exact W.ireturnN (t := .boolean) d_prog_65_method_8_21 rfl (by simp) (1 : Int32) rfl ⟨by rw [if_pos]; rw [hI 2 j (by decide) hj (Value.ref.inj hc1003)]; exact List.mem_cons_self, rfl⟩ (by decide) (by decide)
set_option maxRecDepth 65536 in
set_option maxHeartbeats 40000000 in
theorem w11_3 (l : Launch) (Z : State) (a0 : Array Value) (hw : ∀ d ∈ tables_1, d.before a0 Z = true) (e : Nat → Addr) (a : Addr) (j : Nat) (h : Heap) (n0 : Nat) (hj : j < 19) (hF : ∀ i, i < 19 → Fld Z h (e i) "com/example/pathweave/pathweave/model/Datatype" "enclosing" "Lcom/example/pathweave/pathweave/model/Datatype;" (own_enc e i)) (hI : ∀ i j, i < 19 → j < 19 → e i = e j → i = j) : W l ({ frames := 0, cells := 0, slots := 0, locals := 0 } : Room) Z "com/example/pathweave/pathweave/model/Datatype" "within" prog_65_method_8_code 3 (some .boolean) n0 (fun r h' => r = some (.int (if j ∈ ([3] : List Nat) then 1 else 0)) ∧ h' = h) h 0 0 11 #[.val (.ref a), .val (.ref (e j)), .val (.ref (e 3))] [] := by
  refine W.aloadN 12 d_prog_65_method_8_11 rfl rfl rfl ?_
  refine W.ifnull_ref 15 d_prog_65_method_8_12 rfl ?_
  refine W.aloadN 16 d_prog_65_method_8_15 rfl rfl rfl ?_
  refine W.aloadN 17 d_prog_65_method_8_16 rfl rfl rfl ?_
  refine W.acmp_ne 22 20 d_prog_65_method_8_17 rfl rfl rfl rfl ?_ ?_
  · intro hc1004
    refine W.aloadN 23 d_prog_65_method_8_22 rfl rfl rfl ?_
    refine W.getfield 26 d_prog_65_method_8_23 rfl (host := "") (Or.inl (wd_54 hw)) Via.refl (show Fld Z h (e 3) _ _ _ .null from hF 3 (by decide)) ?_
    refine W.astoreN 27 d_prog_65_method_8_26 rfl rfl #[.val (.ref a), .val (.ref (e j)), .val .null] rfl ?_
    refine W.goto 11 d_prog_65_method_8_27 rfl ?_
    refine W.aloadN 12 d_prog_65_method_8_11 rfl rfl rfl ?_
    refine W.ifnull_null 30 d_prog_65_method_8_12 rfl ?_
    refine W.iconst 31 d_prog_65_method_8_30 rfl (0 : Int32) rfl ?_
    exact W.ireturnN (t := .boolean) d_prog_65_method_8_31 rfl (by simp) (0 : Int32) rfl ⟨by rw [if_neg]; intro q; exact hc1004 (by rw [List.mem_singleton.mp q]), rfl⟩ (by decide) (by decide)
  · intro hc1004
    refine W.iconst 21 d_prog_65_method_8_20 rfl (1 : Int32) rfl ?_
    exact W.ireturnN (t := .boolean) d_prog_65_method_8_21 rfl (by simp) (1 : Int32) rfl ⟨by rw [if_pos]; rw [hI 3 j (by decide) hj (Value.ref.inj hc1004)]; exact List.mem_cons_self, rfl⟩ (by decide) (by decide)
set_option maxRecDepth 65536 in
set_option maxHeartbeats 40000000 in
theorem w11_4 (l : Launch) (Z : State) (a0 : Array Value) (hw : ∀ d ∈ tables_1, d.before a0 Z = true) (e : Nat → Addr) (a : Addr) (j : Nat) (h : Heap) (n0 : Nat) (hj : j < 19) (hF : ∀ i, i < 19 → Fld Z h (e i) "com/example/pathweave/pathweave/model/Datatype" "enclosing" "Lcom/example/pathweave/pathweave/model/Datatype;" (own_enc e i)) (hI : ∀ i j, i < 19 → j < 19 → e i = e j → i = j) : W l ({ frames := 0, cells := 0, slots := 0, locals := 0 } : Room) Z "com/example/pathweave/pathweave/model/Datatype" "within" prog_65_method_8_code 3 (some .boolean) n0 (fun r h' => r = some (.int (if j ∈ ([4, 3] : List Nat) then 1 else 0)) ∧ h' = h) h 0 0 11 #[.val (.ref a), .val (.ref (e j)), .val (.ref (e 4))] [] := by
  refine W.aloadN 12 d_prog_65_method_8_11 rfl rfl rfl ?_
  refine W.ifnull_ref 15 d_prog_65_method_8_12 rfl ?_
  refine W.aloadN 16 d_prog_65_method_8_15 rfl rfl rfl ?_
  refine W.aloadN 17 d_prog_65_method_8_16 rfl rfl rfl ?_
  refine W.acmp_ne 22 20 d_prog_65_method_8_17 rfl rfl rfl rfl ?_ ?_
  · intro hc1005
    refine W.aloadN 23 d_prog_65_method_8_22 rfl rfl rfl ?_
    refine W.getfield 26 d_prog_65_method_8_23 rfl (host := "") (Or.inl (wd_54 hw)) Via.refl (show Fld Z h (e 4) _ _ _ (.ref (e 3)) from hF 4 (by decide)) ?_
    refine W.astoreN 27 d_prog_65_method_8_26 rfl rfl #[.val (.ref a), .val (.ref (e j)), .val (.ref (e 3))] rfl ?_
    refine W.goto 11 d_prog_65_method_8_27 rfl ?_
    exact (w11_3 l Z a0 hw e a j h n0 hj hF hI).post (fun r h' q => ⟨q.1.trans (by congr 3; apply propext; constructor; exact fun z => List.mem_cons_of_mem _ z; exact fun z => (List.mem_cons.mp z).resolve_left (fun y => hc1005 (by rw [y]))), q.2⟩)
  · intro hc1005
    refine W.iconst 21 d_prog_65_method_8_20 rfl (1 : Int32) rfl ?_
    exact W.ireturnN (t := .boolean) d_prog_65_method_8_21 rfl (by simp) (1 : Int32) rfl ⟨by rw [if_pos]; rw [hI 4 j (by decide) hj (Value.ref.inj hc1005)]; exact List.mem_cons_self, rfl⟩ (by decide) (by decide)
set_option maxRecDepth 65536 in
set_option maxHeartbeats 40000000 in
theorem w11_5 (l : Launch) (Z : State) (a0 : Array Value) (hw : ∀ d ∈ tables_1, d.before a0 Z = true) (e : Nat → Addr) (a : Addr) (j : Nat) (h : Heap) (n0 : Nat) (hj : j < 19) (hF : ∀ i, i < 19 → Fld Z h (e i) "com/example/pathweave/pathweave/model/Datatype" "enclosing" "Lcom/example/pathweave/pathweave/model/Datatype;" (own_enc e i)) (hI : ∀ i j, i < 19 → j < 19 → e i = e j → i = j) : W l ({ frames := 0, cells := 0, slots := 0, locals := 0 } : Room) Z "com/example/pathweave/pathweave/model/Datatype" "within" prog_65_method_8_code 3 (some .boolean) n0 (fun r h' => r = some (.int (if j ∈ ([5, 4, 3] : List Nat) then 1 else 0)) ∧ h' = h) h 0 0 11 #[.val (.ref a), .val (.ref (e j)), .val (.ref (e 5))] [] := by
  refine W.aloadN 12 d_prog_65_method_8_11 rfl rfl rfl ?_
  refine W.ifnull_ref 15 d_prog_65_method_8_12 rfl ?_
  refine W.aloadN 16 d_prog_65_method_8_15 rfl rfl rfl ?_
  refine W.aloadN 17 d_prog_65_method_8_16 rfl rfl rfl ?_
  refine W.acmp_ne 22 20 d_prog_65_method_8_17 rfl rfl rfl rfl ?_ ?_
  · intro hc1006
    refine W.aloadN 23 d_prog_65_method_8_22 rfl rfl rfl ?_
    refine W.getfield 26 d_prog_65_method_8_23 rfl (host := "") (Or.inl (wd_54 hw)) Via.refl (show Fld Z h (e 5) _ _ _ (.ref (e 4)) from hF 5 (by decide)) ?_
    refine W.astoreN 27 d_prog_65_method_8_26 rfl rfl #[.val (.ref a), .val (.ref (e j)), .val (.ref (e 4))] rfl ?_
    refine W.goto 11 d_prog_65_method_8_27 rfl ?_
    exact (w11_4 l Z a0 hw e a j h n0 hj hF hI).post (fun r h' q => ⟨q.1.trans (by congr 3; apply propext; constructor; exact fun z => List.mem_cons_of_mem _ z; exact fun z => (List.mem_cons.mp z).resolve_left (fun y => hc1006 (by rw [y]))), q.2⟩)
  · intro hc1006
    refine W.iconst 21 d_prog_65_method_8_20 rfl (1 : Int32) rfl ?_
    exact W.ireturnN (t := .boolean) d_prog_65_method_8_21 rfl (by simp) (1 : Int32) rfl ⟨by rw [if_pos]; rw [hI 5 j (by decide) hj (Value.ref.inj hc1006)]; exact List.mem_cons_self, rfl⟩ (by decide) (by decide)
set_option maxRecDepth 65536 in
set_option maxHeartbeats 40000000 in
theorem w11_6 (l : Launch) (Z : State) (a0 : Array Value) (hw : ∀ d ∈ tables_1, d.before a0 Z = true) (e : Nat → Addr) (a : Addr) (j : Nat) (h : Heap) (n0 : Nat) (hj : j < 19) (hF : ∀ i, i < 19 → Fld Z h (e i) "com/example/pathweave/pathweave/model/Datatype" "enclosing" "Lcom/example/pathweave/pathweave/model/Datatype;" (own_enc e i)) (hI : ∀ i j, i < 19 → j < 19 → e i = e j → i = j) : W l ({ frames := 0, cells := 0, slots := 0, locals := 0 } : Room) Z "com/example/pathweave/pathweave/model/Datatype" "within" prog_65_method_8_code 3 (some .boolean) n0 (fun r h' => r = some (.int (if j ∈ ([6, 5, 4, 3] : List Nat) then 1 else 0)) ∧ h' = h) h 0 0 11 #[.val (.ref a), .val (.ref (e j)), .val (.ref (e 6))] [] := by
  refine W.aloadN 12 d_prog_65_method_8_11 rfl rfl rfl ?_
  refine W.ifnull_ref 15 d_prog_65_method_8_12 rfl ?_
  refine W.aloadN 16 d_prog_65_method_8_15 rfl rfl rfl ?_
  refine W.aloadN 17 d_prog_65_method_8_16 rfl rfl rfl ?_
  refine W.acmp_ne 22 20 d_prog_65_method_8_17 rfl rfl rfl rfl ?_ ?_
  · intro hc1007
    refine W.aloadN 23 d_prog_65_method_8_22 rfl rfl rfl ?_
    refine W.getfield 26 d_prog_65_method_8_23 rfl (host := "") (Or.inl (wd_54 hw)) Via.refl (show Fld Z h (e 6) _ _ _ (.ref (e 5)) from hF 6 (by decide)) ?_
    refine W.astoreN 27 d_prog_65_method_8_26 rfl rfl #[.val (.ref a), .val (.ref (e j)), .val (.ref (e 5))] rfl ?_
    refine W.goto 11 d_prog_65_method_8_27 rfl ?_
    exact (w11_5 l Z a0 hw e a j h n0 hj hF hI).post (fun r h' q => ⟨q.1.trans (by congr 3; apply propext; constructor; exact fun z => List.mem_cons_of_mem _ z; exact fun z => (List.mem_cons.mp z).resolve_left (fun y => hc1007 (by rw [y]))), q.2⟩)
  · intro hc1007
    refine W.iconst 21 d_prog_65_method_8_20 rfl (1 : Int32) rfl ?_
    exact W.ireturnN (t := .boolean) d_prog_65_method_8_21 rfl (by simp) (1 : Int32) rfl ⟨by rw [if_pos]; rw [hI 6 j (by decide) hj (Value.ref.inj hc1007)]; exact List.mem_cons_self, rfl⟩ (by decide) (by decide)
set_option maxRecDepth 65536 in
set_option maxHeartbeats 40000000 in
theorem w11_7 (l : Launch) (Z : State) (a0 : Array Value) (hw : ∀ d ∈ tables_1, d.before a0 Z = true) (e : Nat → Addr) (a : Addr) (j : Nat) (h : Heap) (n0 : Nat) (hj : j < 19) (hF : ∀ i, i < 19 → Fld Z h (e i) "com/example/pathweave/pathweave/model/Datatype" "enclosing" "Lcom/example/pathweave/pathweave/model/Datatype;" (own_enc e i)) (hI : ∀ i j, i < 19 → j < 19 → e i = e j → i = j) : W l ({ frames := 0, cells := 0, slots := 0, locals := 0 } : Room) Z "com/example/pathweave/pathweave/model/Datatype" "within" prog_65_method_8_code 3 (some .boolean) n0 (fun r h' => r = some (.int (if j ∈ ([7, 6, 5, 4, 3] : List Nat) then 1 else 0)) ∧ h' = h) h 0 0 11 #[.val (.ref a), .val (.ref (e j)), .val (.ref (e 7))] [] := by
  refine W.aloadN 12 d_prog_65_method_8_11 rfl rfl rfl ?_
  refine W.ifnull_ref 15 d_prog_65_method_8_12 rfl ?_
  refine W.aloadN 16 d_prog_65_method_8_15 rfl rfl rfl ?_
  refine W.aloadN 17 d_prog_65_method_8_16 rfl rfl rfl ?_
  refine W.acmp_ne 22 20 d_prog_65_method_8_17 rfl rfl rfl rfl ?_ ?_
  · intro hc1008
    refine W.aloadN 23 d_prog_65_method_8_22 rfl rfl rfl ?_
    refine W.getfield 26 d_prog_65_method_8_23 rfl (host := "") (Or.inl (wd_54 hw)) Via.refl (show Fld Z h (e 7) _ _ _ (.ref (e 6)) from hF 7 (by decide)) ?_
    refine W.astoreN 27 d_prog_65_method_8_26 rfl rfl #[.val (.ref a), .val (.ref (e j)), .val (.ref (e 6))] rfl ?_
    refine W.goto 11 d_prog_65_method_8_27 rfl ?_
    exact (w11_6 l Z a0 hw e a j h n0 hj hF hI).post (fun r h' q => ⟨q.1.trans (by congr 3; apply propext; constructor; exact fun z => List.mem_cons_of_mem _ z; exact fun z => (List.mem_cons.mp z).resolve_left (fun y => hc1008 (by rw [y]))), q.2⟩)
  · intro hc1008
    refine W.iconst 21 d_prog_65_method_8_20 rfl (1 : Int32) rfl ?_
    exact W.ireturnN (t := .boolean) d_prog_65_method_8_21 rfl (by simp) (1 : Int32) rfl ⟨by rw [if_pos]; rw [hI 7 j (by decide) hj (Value.ref.inj hc1008)]; exact List.mem_cons_self, rfl⟩ (by decide) (by decide)
set_option maxRecDepth 65536 in
set_option maxHeartbeats 40000000 in
theorem w11_8 (l : Launch) (Z : State) (a0 : Array Value) (hw : ∀ d ∈ tables_1, d.before a0 Z = true) (e : Nat → Addr) (a : Addr) (j : Nat) (h : Heap) (n0 : Nat) (hj : j < 19) (hF : ∀ i, i < 19 → Fld Z h (e i) "com/example/pathweave/pathweave/model/Datatype" "enclosing" "Lcom/example/pathweave/pathweave/model/Datatype;" (own_enc e i)) (hI : ∀ i j, i < 19 → j < 19 → e i = e j → i = j) : W l ({ frames := 0, cells := 0, slots := 0, locals := 0 } : Room) Z "com/example/pathweave/pathweave/model/Datatype" "within" prog_65_method_8_code 3 (some .boolean) n0 (fun r h' => r = some (.int (if j ∈ ([8, 1] : List Nat) then 1 else 0)) ∧ h' = h) h 0 0 11 #[.val (.ref a), .val (.ref (e j)), .val (.ref (e 8))] [] := by
  refine W.aloadN 12 d_prog_65_method_8_11 rfl rfl rfl ?_
  refine W.ifnull_ref 15 d_prog_65_method_8_12 rfl ?_
  refine W.aloadN 16 d_prog_65_method_8_15 rfl rfl rfl ?_
  refine W.aloadN 17 d_prog_65_method_8_16 rfl rfl rfl ?_
  refine W.acmp_ne 22 20 d_prog_65_method_8_17 rfl rfl rfl rfl ?_ ?_
  · intro hc1009
    refine W.aloadN 23 d_prog_65_method_8_22 rfl rfl rfl ?_
    refine W.getfield 26 d_prog_65_method_8_23 rfl (host := "") (Or.inl (wd_54 hw)) Via.refl (show Fld Z h (e 8) _ _ _ (.ref (e 1)) from hF 8 (by decide)) ?_
    refine W.astoreN 27 d_prog_65_method_8_26 rfl rfl #[.val (.ref a), .val (.ref (e j)), .val (.ref (e 1))] rfl ?_
    refine W.goto 11 d_prog_65_method_8_27 rfl ?_
    exact (w11_1 l Z a0 hw e a j h n0 hj hF hI).post (fun r h' q => ⟨q.1.trans (by congr 3; apply propext; constructor; exact fun z => List.mem_cons_of_mem _ z; exact fun z => (List.mem_cons.mp z).resolve_left (fun y => hc1009 (by rw [y]))), q.2⟩)
  · intro hc1009
    refine W.iconst 21 d_prog_65_method_8_20 rfl (1 : Int32) rfl ?_
    exact W.ireturnN (t := .boolean) d_prog_65_method_8_21 rfl (by simp) (1 : Int32) rfl ⟨by rw [if_pos]; rw [hI 8 j (by decide) hj (Value.ref.inj hc1009)]; exact List.mem_cons_self, rfl⟩ (by decide) (by decide)
set_option maxRecDepth 65536 in
set_option maxHeartbeats 40000000 in
theorem w11_9 (l : Launch) (Z : State) (a0 : Array Value) (hw : ∀ d ∈ tables_1, d.before a0 Z = true) (e : Nat → Addr) (a : Addr) (j : Nat) (h : Heap) (n0 : Nat) (hj : j < 19) (hF : ∀ i, i < 19 → Fld Z h (e i) "com/example/pathweave/pathweave/model/Datatype" "enclosing" "Lcom/example/pathweave/pathweave/model/Datatype;" (own_enc e i)) (hI : ∀ i j, i < 19 → j < 19 → e i = e j → i = j) : W l ({ frames := 0, cells := 0, slots := 0, locals := 0 } : Room) Z "com/example/pathweave/pathweave/model/Datatype" "within" prog_65_method_8_code 3 (some .boolean) n0 (fun r h' => r = some (.int (if j ∈ ([9, 8, 1] : List Nat) then 1 else 0)) ∧ h' = h) h 0 0 11 #[.val (.ref a), .val (.ref (e j)), .val (.ref (e 9))] [] := by
  refine W.aloadN 12 d_prog_65_method_8_11 rfl rfl rfl ?_
  refine W.ifnull_ref 15 d_prog_65_method_8_12 rfl ?_
  refine W.aloadN 16 d_prog_65_method_8_15 rfl rfl rfl ?_
  refine W.aloadN 17 d_prog_65_method_8_16 rfl rfl rfl ?_
  refine W.acmp_ne 22 20 d_prog_65_method_8_17 rfl rfl rfl rfl ?_ ?_
  · intro hc1010
    refine W.aloadN 23 d_prog_65_method_8_22 rfl rfl rfl ?_
    refine W.getfield 26 d_prog_65_method_8_23 rfl (host := "") (Or.inl (wd_54 hw)) Via.refl (show Fld Z h (e 9) _ _ _ (.ref (e 8)) from hF 9 (by decide)) ?_
    refine W.astoreN 27 d_prog_65_method_8_26 rfl rfl #[.val (.ref a), .val (.ref (e j)), .val (.ref (e 8))] rfl ?_
    refine W.goto 11 d_prog_65_method_8_27 rfl ?_
    exact (w11_8 l Z a0 hw e a j h n0 hj hF hI).post (fun r h' q => ⟨q.1.trans (by congr 3; apply propext; constructor; exact fun z => List.mem_cons_of_mem _ z; exact fun z => (List.mem_cons.mp z).resolve_left (fun y => hc1010 (by rw [y]))), q.2⟩)
  · intro hc1010
    refine W.iconst 21 d_prog_65_method_8_20 rfl (1 : Int32) rfl ?_
    exact W.ireturnN (t := .boolean) d_prog_65_method_8_21 rfl (by simp) (1 : Int32) rfl ⟨by rw [if_pos]; rw [hI 9 j (by decide) hj (Value.ref.inj hc1010)]; exact List.mem_cons_self, rfl⟩ (by decide) (by decide)
set_option maxRecDepth 65536 in
set_option maxHeartbeats 40000000 in
theorem w11_10 (l : Launch) (Z : State) (a0 : Array Value) (hw : ∀ d ∈ tables_1, d.before a0 Z = true) (e : Nat → Addr) (a : Addr) (j : Nat) (h : Heap) (n0 : Nat) (hj : j < 19) (hF : ∀ i, i < 19 → Fld Z h (e i) "com/example/pathweave/pathweave/model/Datatype" "enclosing" "Lcom/example/pathweave/pathweave/model/Datatype;" (own_enc e i)) (hI : ∀ i j, i < 19 → j < 19 → e i = e j → i = j) : W l ({ frames := 0, cells := 0, slots := 0, locals := 0 } : Room) Z "com/example/pathweave/pathweave/model/Datatype" "within" prog_65_method_8_code 3 (some .boolean) n0 (fun r h' => r = some (.int (if j ∈ ([10, 9, 8, 1] : List Nat) then 1 else 0)) ∧ h' = h) h 0 0 11 #[.val (.ref a), .val (.ref (e j)), .val (.ref (e 10))] [] := by
  refine W.aloadN 12 d_prog_65_method_8_11 rfl rfl rfl ?_
  refine W.ifnull_ref 15 d_prog_65_method_8_12 rfl ?_
  refine W.aloadN 16 d_prog_65_method_8_15 rfl rfl rfl ?_
  refine W.aloadN 17 d_prog_65_method_8_16 rfl rfl rfl ?_
  refine W.acmp_ne 22 20 d_prog_65_method_8_17 rfl rfl rfl rfl ?_ ?_
  · intro hc1011
    refine W.aloadN 23 d_prog_65_method_8_22 rfl rfl rfl ?_
    refine W.getfield 26 d_prog_65_method_8_23 rfl (host := "") (Or.inl (wd_54 hw)) Via.refl (show Fld Z h (e 10) _ _ _ (.ref (e 9)) from hF 10 (by decide)) ?_
    refine W.astoreN 27 d_prog_65_method_8_26 rfl rfl #[.val (.ref a), .val (.ref (e j)), .val (.ref (e 9))] rfl ?_
    refine W.goto 11 d_prog_65_method_8_27 rfl ?_
    exact (w11_9 l Z a0 hw e a j h n0 hj hF hI).post (fun r h' q => ⟨q.1.trans (by congr 3; apply propext; constructor; exact fun z => List.mem_cons_of_mem _ z; exact fun z => (List.mem_cons.mp z).resolve_left (fun y => hc1011 (by rw [y]))), q.2⟩)
  · intro hc1011
    refine W.iconst 21 d_prog_65_method_8_20 rfl (1 : Int32) rfl ?_
    exact W.ireturnN (t := .boolean) d_prog_65_method_8_21 rfl (by simp) (1 : Int32) rfl ⟨by rw [if_pos]; rw [hI 10 j (by decide) hj (Value.ref.inj hc1011)]; exact List.mem_cons_self, rfl⟩ (by decide) (by decide)
set_option maxRecDepth 65536 in
set_option maxHeartbeats 40000000 in
theorem w11_11 (l : Launch) (Z : State) (a0 : Array Value) (hw : ∀ d ∈ tables_1, d.before a0 Z = true) (e : Nat → Addr) (a : Addr) (j : Nat) (h : Heap) (n0 : Nat) (hj : j < 19) (hF : ∀ i, i < 19 → Fld Z h (e i) "com/example/pathweave/pathweave/model/Datatype" "enclosing" "Lcom/example/pathweave/pathweave/model/Datatype;" (own_enc e i)) (hI : ∀ i j, i < 19 → j < 19 → e i = e j → i = j) : W l ({ frames := 0, cells := 0, slots := 0, locals := 0 } : Room) Z "com/example/pathweave/pathweave/model/Datatype" "within" prog_65_method_8_code 3 (some .boolean) n0 (fun r h' => r = some (.int (if j ∈ ([11, 10, 9, 8, 1] : List Nat) then 1 else 0)) ∧ h' = h) h 0 0 11 #[.val (.ref a), .val (.ref (e j)), .val (.ref (e 11))] [] := by
  refine W.aloadN 12 d_prog_65_method_8_11 rfl rfl rfl ?_
  refine W.ifnull_ref 15 d_prog_65_method_8_12 rfl ?_
  refine W.aloadN 16 d_prog_65_method_8_15 rfl rfl rfl ?_
  refine W.aloadN 17 d_prog_65_method_8_16 rfl rfl rfl ?_
  refine W.acmp_ne 22 20 d_prog_65_method_8_17 rfl rfl rfl rfl ?_ ?_
  · intro hc1012
    refine W.aloadN 23 d_prog_65_method_8_22 rfl rfl rfl ?_
    refine W.getfield 26 d_prog_65_method_8_23 rfl (host := "") (Or.inl (wd_54 hw)) Via.refl (show Fld Z h (e 11) _ _ _ (.ref (e 10)) from hF 11 (by decide)) ?_
    refine W.astoreN 27 d_prog_65_method_8_26 rfl rfl #[.val (.ref a), .val (.ref (e j)), .val (.ref (e 10))] rfl ?_
    refine W.goto 11 d_prog_65_method_8_27 rfl ?_
    exact (w11_10 l Z a0 hw e a j h n0 hj hF hI).post (fun r h' q => ⟨q.1.trans (by congr 3; apply propext; constructor; exact fun z => List.mem_cons_of_mem _ z; exact fun z => (List.mem_cons.mp z).resolve_left (fun y => hc1012 (by rw [y]))), q.2⟩)
  · intro hc1012
    refine W.iconst 21 d_prog_65_method_8_20 rfl (1 : Int32) rfl ?_
    exact W.ireturnN (t := .boolean) d_prog_65_method_8_21 rfl (by simp) (1 : Int32) rfl ⟨by rw [if_pos]; rw [hI 11 j (by decide) hj (Value.ref.inj hc1012)]; exact List.mem_cons_self, rfl⟩ (by decide) (by decide)
set_option maxRecDepth 65536 in
set_option maxHeartbeats 40000000 in
theorem w11_12 (l : Launch) (Z : State) (a0 : Array Value) (hw : ∀ d ∈ tables_1, d.before a0 Z = true) (e : Nat → Addr) (a : Addr) (j : Nat) (h : Heap) (n0 : Nat) (hj : j < 19) (hF : ∀ i, i < 19 → Fld Z h (e i) "com/example/pathweave/pathweave/model/Datatype" "enclosing" "Lcom/example/pathweave/pathweave/model/Datatype;" (own_enc e i)) (hI : ∀ i j, i < 19 → j < 19 → e i = e j → i = j) : W l ({ frames := 0, cells := 0, slots := 0, locals := 0 } : Room) Z "com/example/pathweave/pathweave/model/Datatype" "within" prog_65_method_8_code 3 (some .boolean) n0 (fun r h' => r = some (.int (if j ∈ ([12, 11, 10, 9, 8, 1] : List Nat) then 1 else 0)) ∧ h' = h) h 0 0 11 #[.val (.ref a), .val (.ref (e j)), .val (.ref (e 12))] [] := by
  refine W.aloadN 12 d_prog_65_method_8_11 rfl rfl rfl ?_
  refine W.ifnull_ref 15 d_prog_65_method_8_12 rfl ?_
  refine W.aloadN 16 d_prog_65_method_8_15 rfl rfl rfl ?_
  refine W.aloadN 17 d_prog_65_method_8_16 rfl rfl rfl ?_
  refine W.acmp_ne 22 20 d_prog_65_method_8_17 rfl rfl rfl rfl ?_ ?_
  · intro hc1013
    refine W.aloadN 23 d_prog_65_method_8_22 rfl rfl rfl ?_
    refine W.getfield 26 d_prog_65_method_8_23 rfl (host := "") (Or.inl (wd_54 hw)) Via.refl (show Fld Z h (e 12) _ _ _ (.ref (e 11)) from hF 12 (by decide)) ?_
    refine W.astoreN 27 d_prog_65_method_8_26 rfl rfl #[.val (.ref a), .val (.ref (e j)), .val (.ref (e 11))] rfl ?_
    refine W.goto 11 d_prog_65_method_8_27 rfl ?_
    exact (w11_11 l Z a0 hw e a j h n0 hj hF hI).post (fun r h' q => ⟨q.1.trans (by congr 3; apply propext; constructor; exact fun z => List.mem_cons_of_mem _ z; exact fun z => (List.mem_cons.mp z).resolve_left (fun y => hc1013 (by rw [y]))), q.2⟩)
  · intro hc1013
    refine W.iconst 21 d_prog_65_method_8_20 rfl (1 : Int32) rfl ?_
    exact W.ireturnN (t := .boolean) d_prog_65_method_8_21 rfl (by simp) (1 : Int32) rfl ⟨by rw [if_pos]; rw [hI 12 j (by decide) hj (Value.ref.inj hc1013)]; exact List.mem_cons_self, rfl⟩ (by decide) (by decide)
set_option maxRecDepth 65536 in
set_option maxHeartbeats 40000000 in
theorem w11_13 (l : Launch) (Z : State) (a0 : Array Value) (hw : ∀ d ∈ tables_1, d.before a0 Z = true) (e : Nat → Addr) (a : Addr) (j : Nat) (h : Heap) (n0 : Nat) (hj : j < 19) (hF : ∀ i, i < 19 → Fld Z h (e i) "com/example/pathweave/pathweave/model/Datatype" "enclosing" "Lcom/example/pathweave/pathweave/model/Datatype;" (own_enc e i)) (hI : ∀ i j, i < 19 → j < 19 → e i = e j → i = j) : W l ({ frames := 0, cells := 0, slots := 0, locals := 0 } : Room) Z "com/example/pathweave/pathweave/model/Datatype" "within" prog_65_method_8_code 3 (some .boolean) n0 (fun r h' => r = some (.int (if j ∈ ([13, 12, 11, 10, 9, 8, 1] : List Nat) then 1 else 0)) ∧ h' = h) h 0 0 11 #[.val (.ref a), .val (.ref (e j)), .val (.ref (e 13))] [] := by
  refine W.aloadN 12 d_prog_65_method_8_11 rfl rfl rfl ?_
  refine W.ifnull_ref 15 d_prog_65_method_8_12 rfl ?_
  refine W.aloadN 16 d_prog_65_method_8_15 rfl rfl rfl ?_
  refine W.aloadN 17 d_prog_65_method_8_16 rfl rfl rfl ?_
  refine W.acmp_ne 22 20 d_prog_65_method_8_17 rfl rfl rfl rfl ?_ ?_
  · intro hc1014
    refine W.aloadN 23 d_prog_65_method_8_22 rfl rfl rfl ?_
    refine W.getfield 26 d_prog_65_method_8_23 rfl (host := "") (Or.inl (wd_54 hw)) Via.refl (show Fld Z h (e 13) _ _ _ (.ref (e 12)) from hF 13 (by decide)) ?_
    refine W.astoreN 27 d_prog_65_method_8_26 rfl rfl #[.val (.ref a), .val (.ref (e j)), .val (.ref (e 12))] rfl ?_
    refine W.goto 11 d_prog_65_method_8_27 rfl ?_
    exact (w11_12 l Z a0 hw e a j h n0 hj hF hI).post (fun r h' q => ⟨q.1.trans (by congr 3; apply propext; constructor; exact fun z => List.mem_cons_of_mem _ z; exact fun z => (List.mem_cons.mp z).resolve_left (fun y => hc1014 (by rw [y]))), q.2⟩)
  · intro hc1014
    refine W.iconst 21 d_prog_65_method_8_20 rfl (1 : Int32) rfl ?_
    exact W.ireturnN (t := .boolean) d_prog_65_method_8_21 rfl (by simp) (1 : Int32) rfl ⟨by rw [if_pos]; rw [hI 13 j (by decide) hj (Value.ref.inj hc1014)]; exact List.mem_cons_self, rfl⟩ (by decide) (by decide)
set_option maxRecDepth 65536 in
set_option maxHeartbeats 40000000 in
theorem w11_14 (l : Launch) (Z : State) (a0 : Array Value) (hw : ∀ d ∈ tables_1, d.before a0 Z = true) (e : Nat → Addr) (a : Addr) (j : Nat) (h : Heap) (n0 : Nat) (hj : j < 19) (hF : ∀ i, i < 19 → Fld Z h (e i) "com/example/pathweave/pathweave/model/Datatype" "enclosing" "Lcom/example/pathweave/pathweave/model/Datatype;" (own_enc e i)) (hI : ∀ i j, i < 19 → j < 19 → e i = e j → i = j) : W l ({ frames := 0, cells := 0, slots := 0, locals := 0 } : Room) Z "com/example/pathweave/pathweave/model/Datatype" "within" prog_65_method_8_code 3 (some .boolean) n0 (fun r h' => r = some (.int (if j ∈ ([14] : List Nat) then 1 else 0)) ∧ h' = h) h 0 0 11 #[.val (.ref a), .val (.ref (e j)), .val (.ref (e 14))] [] := by
  refine W.aloadN 12 d_prog_65_method_8_11 rfl rfl rfl ?_
  refine W.ifnull_ref 15 d_prog_65_method_8_12 rfl ?_
  refine W.aloadN 16 d_prog_65_method_8_15 rfl rfl rfl ?_
  refine W.aloadN 17 d_prog_65_method_8_16 rfl rfl rfl ?_
  refine W.acmp_ne 22 20 d_prog_65_method_8_17 rfl rfl rfl rfl ?_ ?_
  · intro hc1015
    refine W.aloadN 23 d_prog_65_method_8_22 rfl rfl rfl ?_
    refine W.getfield 26 d_prog_65_method_8_23 rfl (host := "") (Or.inl (wd_54 hw)) Via.refl (show Fld Z h (e 14) _ _ _ .null from hF 14 (by decide)) ?_
    refine W.astoreN 27 d_prog_65_method_8_26 rfl rfl #[.val (.ref a), .val (.ref (e j)), .val .null] rfl ?_
    refine W.goto 11 d_prog_65_method_8_27 rfl ?_
    refine W.aloadN 12 d_prog_65_method_8_11 rfl rfl rfl ?_
    refine W.ifnull_null 30 d_prog_65_method_8_12 rfl ?_
    refine W.iconst 31 d_prog_65_method_8_30 rfl (0 : Int32) rfl ?_
    exact W.ireturnN (t := .boolean) d_prog_65_method_8_31 rfl (by simp) (0 : Int32) rfl ⟨by rw [if_neg]; intro q; exact hc1015 (by rw [List.mem_singleton.mp q]), rfl⟩ (by decide) (by decide)
  · intro hc1015
    refine W.iconst 21 d_prog_65_method_8_20 rfl (1 : Int32) rfl ?_
    exact W.ireturnN (t := .boolean) d_prog_65_method_8_21 rfl (by simp) (1 : Int32) rfl ⟨by rw [if_pos]; rw [hI 14 j (by decide) hj (Value.ref.inj hc1015)]; exact List.mem_cons_self, rfl⟩ (by decide) (by decide)
set_option maxRecDepth 65536 in
set_option maxHeartbeats 40000000 in
theorem w11_15 (l : Launch) (Z : State) (a0 : Array Value) (hw : ∀ d ∈ tables_1, d.before a0 Z = true) (e : Nat → Addr) (a : Addr) (j : Nat) (h : Heap) (n0 : Nat) (hj : j < 19) (hF : ∀ i, i < 19 → Fld Z h (e i) "com/example/pathweave/pathweave/model/Datatype" "enclosing" "Lcom/example/pathweave/pathweave/model/Datatype;" (own_enc e i)) (hI : ∀ i j, i < 19 → j < 19 → e i = e j → i = j) : W l ({ frames := 0, cells := 0, slots := 0, locals := 0 } : Room) Z "com/example/pathweave/pathweave/model/Datatype" "within" prog_65_method_8_code 3 (some .boolean) n0 (fun r h' => r = some (.int (if j ∈ ([15] : List Nat) then 1 else 0)) ∧ h' = h) h 0 0 11 #[.val (.ref a), .val (.ref (e j)), .val (.ref (e 15))] [] := by
  refine W.aloadN 12 d_prog_65_method_8_11 rfl rfl rfl ?_
  refine W.ifnull_ref 15 d_prog_65_method_8_12 rfl ?_
  refine W.aloadN 16 d_prog_65_method_8_15 rfl rfl rfl ?_
  refine W.aloadN 17 d_prog_65_method_8_16 rfl rfl rfl ?_
  refine W.acmp_ne 22 20 d_prog_65_method_8_17 rfl rfl rfl rfl ?_ ?_
  · intro hc1016
    refine W.aloadN 23 d_prog_65_method_8_22 rfl rfl rfl ?_
    refine W.getfield 26 d_prog_65_method_8_23 rfl (host := "") (Or.inl (wd_54 hw)) Via.refl (show Fld Z h (e 15) _ _ _ .null from hF 15 (by decide)) ?_
    refine W.astoreN 27 d_prog_65_method_8_26 rfl rfl #[.val (.ref a), .val (.ref (e j)), .val .null] rfl ?_
    refine W.goto 11 d_prog_65_method_8_27 rfl ?_
    refine W.aloadN 12 d_prog_65_method_8_11 rfl rfl rfl ?_
    refine W.ifnull_null 30 d_prog_65_method_8_12 rfl ?_
    refine W.iconst 31 d_prog_65_method_8_30 rfl (0 : Int32) rfl ?_
    exact W.ireturnN (t := .boolean) d_prog_65_method_8_31 rfl (by simp) (0 : Int32) rfl ⟨by rw [if_neg]; intro q; exact hc1016 (by rw [List.mem_singleton.mp q]), rfl⟩ (by decide) (by decide)
  · intro hc1016
    refine W.iconst 21 d_prog_65_method_8_20 rfl (1 : Int32) rfl ?_
    exact W.ireturnN (t := .boolean) d_prog_65_method_8_21 rfl (by simp) (1 : Int32) rfl ⟨by rw [if_pos]; rw [hI 15 j (by decide) hj (Value.ref.inj hc1016)]; exact List.mem_cons_self, rfl⟩ (by decide) (by decide)
set_option maxRecDepth 65536 in
set_option maxHeartbeats 40000000 in
theorem w11_16 (l : Launch) (Z : State) (a0 : Array Value) (hw : ∀ d ∈ tables_1, d.before a0 Z = true) (e : Nat → Addr) (a : Addr) (j : Nat) (h : Heap) (n0 : Nat) (hj : j < 19) (hF : ∀ i, i < 19 → Fld Z h (e i) "com/example/pathweave/pathweave/model/Datatype" "enclosing" "Lcom/example/pathweave/pathweave/model/Datatype;" (own_enc e i)) (hI : ∀ i j, i < 19 → j < 19 → e i = e j → i = j) : W l ({ frames := 0, cells := 0, slots := 0, locals := 0 } : Room) Z "com/example/pathweave/pathweave/model/Datatype" "within" prog_65_method_8_code 3 (some .boolean) n0 (fun r h' => r = some (.int (if j ∈ ([16] : List Nat) then 1 else 0)) ∧ h' = h) h 0 0 11 #[.val (.ref a), .val (.ref (e j)), .val (.ref (e 16))] [] := by
  refine W.aloadN 12 d_prog_65_method_8_11 rfl rfl rfl ?_
  refine W.ifnull_ref 15 d_prog_65_method_8_12 rfl ?_
  refine W.aloadN 16 d_prog_65_method_8_15 rfl rfl rfl ?_
  refine W.aloadN 17 d_prog_65_method_8_16 rfl rfl rfl ?_
  refine W.acmp_ne 22 20 d_prog_65_method_8_17 rfl rfl rfl rfl ?_ ?_
  · intro hc1017
    refine W.aloadN 23 d_prog_65_method_8_22 rfl rfl rfl ?_
    refine W.getfield 26 d_prog_65_method_8_23 rfl (host := "") (Or.inl (wd_54 hw)) Via.refl (show Fld Z h (e 16) _ _ _ .null from hF 16 (by decide)) ?_
    refine W.astoreN 27 d_prog_65_method_8_26 rfl rfl #[.val (.ref a), .val (.ref (e j)), .val .null] rfl ?_
    refine W.goto 11 d_prog_65_method_8_27 rfl ?_
    refine W.aloadN 12 d_prog_65_method_8_11 rfl rfl rfl ?_
    refine W.ifnull_null 30 d_prog_65_method_8_12 rfl ?_
    refine W.iconst 31 d_prog_65_method_8_30 rfl (0 : Int32) rfl ?_
    exact W.ireturnN (t := .boolean) d_prog_65_method_8_31 rfl (by simp) (0 : Int32) rfl ⟨by rw [if_neg]; intro q; exact hc1017 (by rw [List.mem_singleton.mp q]), rfl⟩ (by decide) (by decide)
  · intro hc1017
    refine W.iconst 21 d_prog_65_method_8_20 rfl (1 : Int32) rfl ?_
    exact W.ireturnN (t := .boolean) d_prog_65_method_8_21 rfl (by simp) (1 : Int32) rfl ⟨by rw [if_pos]; rw [hI 16 j (by decide) hj (Value.ref.inj hc1017)]; exact List.mem_cons_self, rfl⟩ (by decide) (by decide)
set_option maxRecDepth 65536 in
set_option maxHeartbeats 40000000 in
theorem w11_17 (l : Launch) (Z : State) (a0 : Array Value) (hw : ∀ d ∈ tables_1, d.before a0 Z = true) (e : Nat → Addr) (a : Addr) (j : Nat) (h : Heap) (n0 : Nat) (hj : j < 19) (hF : ∀ i, i < 19 → Fld Z h (e i) "com/example/pathweave/pathweave/model/Datatype" "enclosing" "Lcom/example/pathweave/pathweave/model/Datatype;" (own_enc e i)) (hI : ∀ i j, i < 19 → j < 19 → e i = e j → i = j) : W l ({ frames := 0, cells := 0, slots := 0, locals := 0 } : Room) Z "com/example/pathweave/pathweave/model/Datatype" "within" prog_65_method_8_code 3 (some .boolean) n0 (fun r h' => r = some (.int (if j ∈ ([17] : List Nat) then 1 else 0)) ∧ h' = h) h 0 0 11 #[.val (.ref a), .val (.ref (e j)), .val (.ref (e 17))] [] := by
  refine W.aloadN 12 d_prog_65_method_8_11 rfl rfl rfl ?_
  refine W.ifnull_ref 15 d_prog_65_method_8_12 rfl ?_
  refine W.aloadN 16 d_prog_65_method_8_15 rfl rfl rfl ?_
  refine W.aloadN 17 d_prog_65_method_8_16 rfl rfl rfl ?_
  refine W.acmp_ne 22 20 d_prog_65_method_8_17 rfl rfl rfl rfl ?_ ?_
  · intro hc1018
    refine W.aloadN 23 d_prog_65_method_8_22 rfl rfl rfl ?_
    refine W.getfield 26 d_prog_65_method_8_23 rfl (host := "") (Or.inl (wd_54 hw)) Via.refl (show Fld Z h (e 17) _ _ _ .null from hF 17 (by decide)) ?_
    refine W.astoreN 27 d_prog_65_method_8_26 rfl rfl #[.val (.ref a), .val (.ref (e j)), .val .null] rfl ?_
    refine W.goto 11 d_prog_65_method_8_27 rfl ?_
    refine W.aloadN 12 d_prog_65_method_8_11 rfl rfl rfl ?_
    refine W.ifnull_null 30 d_prog_65_method_8_12 rfl ?_
    refine W.iconst 31 d_prog_65_method_8_30 rfl (0 : Int32) rfl ?_
    exact W.ireturnN (t := .boolean) d_prog_65_method_8_31 rfl (by simp) (0 : Int32) rfl ⟨by rw [if_neg]; intro q; exact hc1018 (by rw [List.mem_singleton.mp q]), rfl⟩ (by decide) (by decide)
  · intro hc1018
    refine W.iconst 21 d_prog_65_method_8_20 rfl (1 : Int32) rfl ?_
    exact W.ireturnN (t := .boolean) d_prog_65_method_8_21 rfl (by simp) (1 : Int32) rfl ⟨by rw [if_pos]; rw [hI 17 j (by decide) hj (Value.ref.inj hc1018)]; exact List.mem_cons_self, rfl⟩ (by decide) (by decide)
set_option maxRecDepth 65536 in
set_option maxHeartbeats 40000000 in
theorem w11_18 (l : Launch) (Z : State) (a0 : Array Value) (hw : ∀ d ∈ tables_1, d.before a0 Z = true) (e : Nat → Addr) (a : Addr) (j : Nat) (h : Heap) (n0 : Nat) (hj : j < 19) (hF : ∀ i, i < 19 → Fld Z h (e i) "com/example/pathweave/pathweave/model/Datatype" "enclosing" "Lcom/example/pathweave/pathweave/model/Datatype;" (own_enc e i)) (hI : ∀ i j, i < 19 → j < 19 → e i = e j → i = j) : W l ({ frames := 0, cells := 0, slots := 0, locals := 0 } : Room) Z "com/example/pathweave/pathweave/model/Datatype" "within" prog_65_method_8_code 3 (some .boolean) n0 (fun r h' => r = some (.int (if j ∈ ([18, 17] : List Nat) then 1 else 0)) ∧ h' = h) h 0 0 11 #[.val (.ref a), .val (.ref (e j)), .val (.ref (e 18))] [] := by
  refine W.aloadN 12 d_prog_65_method_8_11 rfl rfl rfl ?_
  refine W.ifnull_ref 15 d_prog_65_method_8_12 rfl ?_
  refine W.aloadN 16 d_prog_65_method_8_15 rfl rfl rfl ?_
  refine W.aloadN 17 d_prog_65_method_8_16 rfl rfl rfl ?_
  refine W.acmp_ne 22 20 d_prog_65_method_8_17 rfl rfl rfl rfl ?_ ?_
  · intro hc1019
    refine W.aloadN 23 d_prog_65_method_8_22 rfl rfl rfl ?_
    refine W.getfield 26 d_prog_65_method_8_23 rfl (host := "") (Or.inl (wd_54 hw)) Via.refl (show Fld Z h (e 18) _ _ _ (.ref (e 17)) from hF 18 (by decide)) ?_
    refine W.astoreN 27 d_prog_65_method_8_26 rfl rfl #[.val (.ref a), .val (.ref (e j)), .val (.ref (e 17))] rfl ?_
    refine W.goto 11 d_prog_65_method_8_27 rfl ?_
    exact (w11_17 l Z a0 hw e a j h n0 hj hF hI).post (fun r h' q => ⟨q.1.trans (by congr 3; apply propext; constructor; exact fun z => List.mem_cons_of_mem _ z; exact fun z => (List.mem_cons.mp z).resolve_left (fun y => hc1019 (by rw [y]))), q.2⟩)
  · intro hc1019
    refine W.iconst 21 d_prog_65_method_8_20 rfl (1 : Int32) rfl ?_
    exact W.ireturnN (t := .boolean) d_prog_65_method_8_21 rfl (by simp) (1 : Int32) rfl ⟨by rw [if_pos]; rw [hI 18 j (by decide) hj (Value.ref.inj hc1019)]; exact List.mem_cons_self, rfl⟩ (by decide) (by decide)
set_option maxRecDepth 65536 in
set_option maxHeartbeats 40000000 in
theorem c_wi0 (l : Launch) (Z : State) (a0 : Array Value) (hw : ∀ d ∈ tables_1, d.before a0 Z = true) (e : Nat → Addr) (j : Nat) (h : Heap) (n0 : Nat) (hn : n0 ≤ h.size) (hj : j < 19) (hF : ∀ i, i < 19 → Fld Z h (e i) "com/example/pathweave/pathweave/model/Datatype" "enclosing" "Lcom/example/pathweave/pathweave/model/Datatype;" (own_enc e i)) (hI : ∀ i j, i < 19 → j < 19 → e i = e j → i = j) (hS : Sta Z h "com/example/pathweave/pathweave/model/Datatype" "LITERAL" "Lcom/example/pathweave/pathweave/model/Datatype;" (.ref (e 0))) : Con l Z (⟨"com/example/pathweave/pathweave/model/Datatype", "within", "(Lcom/example/pathweave/pathweave/model/Datatype;)Z"⟩ : MethodName) prog_65_method_8_code 3 (some .boolean) ({ frames := 0, cells := 0, slots := 0, locals := 0 } : Room) #[(.ref (e 0)), (.ref (e j))] h n0 (fun r h' => r = some (.int (if j ∈ ([0, 0] : List Nat) then 1 else 0)) ∧ h' = h) := by
  refine ConW.of_W (Ls := #[.val (.ref (e 0)), .val (.ref (e j)), .unset]) (plainFor_of_name pn_0) hn (fun m => by first | (simp [entryFrame, mkF, argsToLocals, Value.category]; done) | rfl) ?_
  refine W.aloadN 1 d_prog_65_method_8_0 rfl rfl rfl ?_
  refine W.getstatic 4 d_prog_65_method_8_1 rfl (host := "") (Or.inl (wd_53 hw)) Via.refl hS ?_
  refine W.acmp_ne 9 7 d_prog_65_method_8_4 rfl rfl rfl rfl ?_ ?_
  · intro hc1020
    refine W.aloadN 10 d_prog_65_method_8_9 rfl rfl rfl ?_
    refine W.astoreN 11 d_prog_65_method_8_10 rfl rfl #[.val (.ref (e 0)), .val (.ref (e j)), .val (.ref (e 0))] rfl ?_
    exact (w11_0 l Z a0 hw e (e 0) j h n0 hj hF hI).post (fun r h' q => ⟨q.1.trans (by congr 3; apply propext; constructor; exact fun z => List.mem_cons_of_mem _ z; exact fun z => (List.mem_cons.mp z).resolve_left (fun y => hc1020 (by rw [y]))), q.2⟩)
  · intro hc1020
    refine W.iconst 8 d_prog_65_method_8_7 rfl (1 : Int32) rfl ?_
    exact W.ireturnN (t := .boolean) d_prog_65_method_8_8 rfl (by simp) (1 : Int32) rfl ⟨by rw [if_pos]; rw [hI j 0 hj (by decide) (Value.ref.inj hc1020)]; exact List.mem_cons_self, rfl⟩ (by decide) (by decide)
set_option maxRecDepth 65536 in
set_option maxHeartbeats 40000000 in
theorem c_wi1 (l : Launch) (Z : State) (a0 : Array Value) (hw : ∀ d ∈ tables_1, d.before a0 Z = true) (e : Nat → Addr) (j : Nat) (h : Heap) (n0 : Nat) (hn : n0 ≤ h.size) (hj : j < 19) (hF : ∀ i, i < 19 → Fld Z h (e i) "com/example/pathweave/pathweave/model/Datatype" "enclosing" "Lcom/example/pathweave/pathweave/model/Datatype;" (own_enc e i)) (hI : ∀ i j, i < 19 → j < 19 → e i = e j → i = j) (hS : Sta Z h "com/example/pathweave/pathweave/model/Datatype" "LITERAL" "Lcom/example/pathweave/pathweave/model/Datatype;" (.ref (e 0))) : Con l Z (⟨"com/example/pathweave/pathweave/model/Datatype", "within", "(Lcom/example/pathweave/pathweave/model/Datatype;)Z"⟩ : MethodName) prog_65_method_8_code 3 (some .boolean) ({ frames := 0, cells := 0, slots := 0, locals := 0 } : Room) #[(.ref (e 1)), (.ref (e j))] h n0 (fun r h' => r = some (.int (if j ∈ ([0, 1] : List Nat) then 1 else 0)) ∧ h' = h) := by
  refine ConW.of_W (Ls := #[.val (.ref (e 1)), .val (.ref (e j)), .unset]) (plainFor_of_name pn_0) hn (fun m => by first | (simp [entryFrame, mkF, argsToLocals, Value.category]; done) | rfl) ?_
  refine W.aloadN 1 d_prog_65_method_8_0 rfl rfl rfl ?_
  refine W.getstatic 4 d_prog_65_method_8_1 rfl (host := "") (Or.inl (wd_53 hw)) Via.refl hS ?_
  refine W.acmp_ne 9 7 d_prog_65_method_8_4 rfl rfl rfl rfl ?_ ?_
  · intro hc1021
    refine W.aloadN 10 d_prog_65_method_8_9 rfl rfl rfl ?_
    refine W.astoreN 11 d_prog_65_method_8_10 rfl rfl #[.val (.ref (e 1)), .val (.ref (e j)), .val (.ref (e 1))] rfl ?_
    exact (w11_1 l Z a0 hw e (e 1) j h n0 hj hF hI).post (fun r h' q => ⟨q.1.trans (by congr 3; apply propext; constructor; exact fun z => List.mem_cons_of_mem _ z; exact fun z => (List.mem_cons.mp z).resolve_left (fun y => hc1021 (by rw [y]))), q.2⟩)
  · intro hc1021
    refine W.iconst 8 d_prog_65_method_8_7 rfl (1 : Int32) rfl ?_
    exact W.ireturnN (t := .boolean) d_prog_65_method_8_8 rfl (by simp) (1 : Int32) rfl ⟨by rw [if_pos]; rw [hI j 0 hj (by decide) (Value.ref.inj hc1021)]; exact List.mem_cons_self, rfl⟩ (by decide) (by decide)
set_option maxRecDepth 65536 in
set_option maxHeartbeats 40000000 in
theorem c_wi2 (l : Launch) (Z : State) (a0 : Array Value) (hw : ∀ d ∈ tables_1, d.before a0 Z = true) (e : Nat → Addr) (j : Nat) (h : Heap) (n0 : Nat) (hn : n0 ≤ h.size) (hj : j < 19) (hF : ∀ i, i < 19 → Fld Z h (e i) "com/example/pathweave/pathweave/model/Datatype" "enclosing" "Lcom/example/pathweave/pathweave/model/Datatype;" (own_enc e i)) (hI : ∀ i j, i < 19 → j < 19 → e i = e j → i = j) (hS : Sta Z h "com/example/pathweave/pathweave/model/Datatype" "LITERAL" "Lcom/example/pathweave/pathweave/model/Datatype;" (.ref (e 0))) : Con l Z (⟨"com/example/pathweave/pathweave/model/Datatype", "within", "(Lcom/example/pathweave/pathweave/model/Datatype;)Z"⟩ : MethodName) prog_65_method_8_code 3 (some .boolean) ({ frames := 0, cells := 0, slots := 0, locals := 0 } : Room) #[(.ref (e 2)), (.ref (e j))] h n0 (fun r h' => r = some (.int (if j ∈ ([0, 2] : List Nat) then 1 else 0)) ∧ h' = h) := by
  refine ConW.of_W (Ls := #[.val (.ref (e 2)), .val (.ref (e j)), .unset]) (plainFor_of_name pn_0) hn (fun m => by first | (simp [entryFrame, mkF, argsToLocals, Value.category]; done) | rfl) ?_
  refine W.aloadN 1 d_prog_65_method_8_0 rfl rfl rfl ?_
  refine W.getstatic 4 d_prog_65_method_8_1 rfl (host := "") (Or.inl (wd_53 hw)) Via.refl hS ?_
  refine W.acmp_ne 9 7 d_prog_65_method_8_4 rfl rfl rfl rfl ?_ ?_
  · intro hc1022
    refine W.aloadN 10 d_prog_65_method_8_9 rfl rfl rfl ?_
    refine W.astoreN 11 d_prog_65_method_8_10 rfl rfl #[.val (.ref (e 2)), .val (.ref (e j)), .val (.ref (e 2))] rfl ?_
    exact (w11_2 l Z a0 hw e (e 2) j h n0 hj hF hI).post (fun r h' q => ⟨q.1.trans (by congr 3; apply propext; constructor; exact fun z => List.mem_cons_of_mem _ z; exact fun z => (List.mem_cons.mp z).resolve_left (fun y => hc1022 (by rw [y]))), q.2⟩)
  · intro hc1022
    refine W.iconst 8 d_prog_65_method_8_7 rfl (1 : Int32) rfl ?_
    exact W.ireturnN (t := .boolean) d_prog_65_method_8_8 rfl (by simp) (1 : Int32) rfl ⟨by rw [if_pos]; rw [hI j 0 hj (by decide) (Value.ref.inj hc1022)]; exact List.mem_cons_self, rfl⟩ (by decide) (by decide)
set_option maxRecDepth 65536 in
set_option maxHeartbeats 40000000 in
theorem c_wi3 (l : Launch) (Z : State) (a0 : Array Value) (hw : ∀ d ∈ tables_1, d.before a0 Z = true) (e : Nat → Addr) (j : Nat) (h : Heap) (n0 : Nat) (hn : n0 ≤ h.size) (hj : j < 19) (hF : ∀ i, i < 19 → Fld Z h (e i) "com/example/pathweave/pathweave/model/Datatype" "enclosing" "Lcom/example/pathweave/pathweave/model/Datatype;" (own_enc e i)) (hI : ∀ i j, i < 19 → j < 19 → e i = e j → i = j) (hS : Sta Z h "com/example/pathweave/pathweave/model/Datatype" "LITERAL" "Lcom/example/pathweave/pathweave/model/Datatype;" (.ref (e 0))) : Con l Z (⟨"com/example/pathweave/pathweave/model/Datatype", "within", "(Lcom/example/pathweave/pathweave/model/Datatype;)Z"⟩ : MethodName) prog_65_method_8_code 3 (some .boolean) ({ frames := 0, cells := 0, slots := 0, locals := 0 } : Room) #[(.ref (e 3)), (.ref (e j))] h n0 (fun r h' => r = some (.int (if j ∈ ([0, 3] : List Nat) then 1 else 0)) ∧ h' = h) := by
  refine ConW.of_W (Ls := #[.val (.ref (e 3)), .val (.ref (e j)), .unset]) (plainFor_of_name pn_0) hn (fun m => by first | (simp [entryFrame, mkF, argsToLocals, Value.category]; done) | rfl) ?_
  refine W.aloadN 1 d_prog_65_method_8_0 rfl rfl rfl ?_
  refine W.getstatic 4 d_prog_65_method_8_1 rfl (host := "") (Or.inl (wd_53 hw)) Via.refl hS ?_
  refine W.acmp_ne 9 7 d_prog_65_method_8_4 rfl rfl rfl rfl ?_ ?_
  · intro hc1023
    refine W.aloadN 10 d_prog_65_method_8_9 rfl rfl rfl ?_
    refine W.astoreN 11 d_prog_65_method_8_10 rfl rfl #[.val (.ref (e 3)), .val (.ref (e j)), .val (.ref (e 3))] rfl ?_
    exact (w11_3 l Z a0 hw e (e 3) j h n0 hj hF hI).post (fun r h' q => ⟨q.1.trans (by congr 3; apply propext; constructor; exact fun z => List.mem_cons_of_mem _ z; exact fun z => (List.mem_cons.mp z).resolve_left (fun y => hc1023 (by rw [y]))), q.2⟩)
  · intro hc1023
    refine W.iconst 8 d_prog_65_method_8_7 rfl (1 : Int32) rfl ?_
    exact W.ireturnN (t := .boolean) d_prog_65_method_8_8 rfl (by simp) (1 : Int32) rfl ⟨by rw [if_pos]; rw [hI j 0 hj (by decide) (Value.ref.inj hc1023)]; exact List.mem_cons_self, rfl⟩ (by decide) (by decide)
set_option maxRecDepth 65536 in
set_option maxHeartbeats 40000000 in
theorem c_wi4 (l : Launch) (Z : State) (a0 : Array Value) (hw : ∀ d ∈ tables_1, d.before a0 Z = true) (e : Nat → Addr) (j : Nat) (h : Heap) (n0 : Nat) (hn : n0 ≤ h.size) (hj : j < 19) (hF : ∀ i, i < 19 → Fld Z h (e i) "com/example/pathweave/pathweave/model/Datatype" "enclosing" "Lcom/example/pathweave/pathweave/model/Datatype;" (own_enc e i)) (hI : ∀ i j, i < 19 → j < 19 → e i = e j → i = j) (hS : Sta Z h "com/example/pathweave/pathweave/model/Datatype" "LITERAL" "Lcom/example/pathweave/pathweave/model/Datatype;" (.ref (e 0))) : Con l Z (⟨"com/example/pathweave/pathweave/model/Datatype", "within", "(Lcom/example/pathweave/pathweave/model/Datatype;)Z"⟩ : MethodName) prog_65_method_8_code 3 (some .boolean) ({ frames := 0, cells := 0, slots := 0, locals := 0 } : Room) #[(.ref (e 4)), (.ref (e j))] h n0 (fun r h' => r = some (.int (if j ∈ ([0, 4, 3] : List Nat) then 1 else 0)) ∧ h' = h) := by
  refine ConW.of_W (Ls := #[.val (.ref (e 4)), .val (.ref (e j)), .unset]) (plainFor_of_name pn_0) hn (fun m => by first | (simp [entryFrame, mkF, argsToLocals, Value.category]; done) | rfl) ?_
  refine W.aloadN 1 d_prog_65_method_8_0 rfl rfl rfl ?_
  refine W.getstatic 4 d_prog_65_method_8_1 rfl (host := "") (Or.inl (wd_53 hw)) Via.refl hS ?_
  refine W.acmp_ne 9 7 d_prog_65_method_8_4 rfl rfl rfl rfl ?_ ?_
  · intro hc1024
    refine W.aloadN 10 d_prog_65_method_8_9 rfl rfl rfl ?_
    refine W.astoreN 11 d_prog_65_method_8_10 rfl rfl #[.val (.ref (e 4)), .val (.ref (e j)), .val (.ref (e 4))] rfl ?_
    exact (w11_4 l Z a0 hw e (e 4) j h n0 hj hF hI).post (fun r h' q => ⟨q.1.trans (by congr 3; apply propext; constructor; exact fun z => List.mem_cons_of_mem _ z; exact fun z => (List.mem_cons.mp z).resolve_left (fun y => hc1024 (by rw [y]))), q.2⟩)
  · intro hc1024
    refine W.iconst 8 d_prog_65_method_8_7 rfl (1 : Int32) rfl ?_
    exact W.ireturnN (t := .boolean) d_prog_65_method_8_8 rfl (by simp) (1 : Int32) rfl ⟨by rw [if_pos]; rw [hI j 0 hj (by decide) (Value.ref.inj hc1024)]; exact List.mem_cons_self, rfl⟩ (by decide) (by decide)
set_option maxRecDepth 65536 in
set_option maxHeartbeats 40000000 in
theorem c_wi5 (l : Launch) (Z : State) (a0 : Array Value) (hw : ∀ d ∈ tables_1, d.before a0 Z = true) (e : Nat → Addr) (j : Nat) (h : Heap) (n0 : Nat) (hn : n0 ≤ h.size) (hj : j < 19) (hF : ∀ i, i < 19 → Fld Z h (e i) "com/example/pathweave/pathweave/model/Datatype" "enclosing" "Lcom/example/pathweave/pathweave/model/Datatype;" (own_enc e i)) (hI : ∀ i j, i < 19 → j < 19 → e i = e j → i = j) (hS : Sta Z h "com/example/pathweave/pathweave/model/Datatype" "LITERAL" "Lcom/example/pathweave/pathweave/model/Datatype;" (.ref (e 0))) : Con l Z (⟨"com/example/pathweave/pathweave/model/Datatype", "within", "(Lcom/example/pathweave/pathweave/model/Datatype;)Z"⟩ : MethodName) prog_65_method_8_code 3 (some .boolean) ({ frames := 0, cells := 0, slots := 0, locals := 0 } : Room) #[(.ref (e 5)), (.ref (e j))] h n0 (fun r h' => r = some (.int (if j ∈ ([0, 5, 4, 3] : List Nat) then 1 else 0)) ∧ h' = h) := by
  refine ConW.of_W (Ls := #[.val (.ref (e 5)), .val (.ref (e j)), .unset]) (plainFor_of_name pn_0) hn (fun m => by first | (simp [entryFrame, mkF, argsToLocals, Value.category]; done) | rfl) ?_
  refine W.aloadN 1 d_prog_65_method_8_0 rfl rfl rfl ?_
  refine W.getstatic 4 d_prog_65_method_8_1 rfl (host := "") (Or.inl (wd_53 hw)) Via.refl hS ?_
  refine W.acmp_ne 9 7 d_prog_65_method_8_4 rfl rfl rfl rfl ?_ ?_
  · intro hc1025
    refine W.aloadN 10 d_prog_65_method_8_9 rfl rfl rfl ?_
    refine W.astoreN 11 d_prog_65_method_8_10 rfl rfl #[.val (.ref (e 5)), .val (.ref (e j)), .val (.ref (e 5))] rfl ?_
    exact (w11_5 l Z a0 hw e (e 5) j h n0 hj hF hI).post (fun r h' q => ⟨q.1.trans (by congr 3; apply propext; constructor; exact fun z => List.mem_cons_of_mem _ z; exact fun z => (List.mem_cons.mp z).resolve_left (fun y => hc1025 (by rw [y]))), q.2⟩)
  · intro hc1025
    refine W.iconst 8 d_prog_65_method_8_7 rfl (1 : Int32) rfl ?_
    exact W.ireturnN (t := .boolean) d_prog_65_method_8_8 rfl (by simp) (1 : Int32) rfl ⟨by rw [if_pos]; rw [hI j 0 hj (by decide) (Value.ref.inj hc1025)]; exact List.mem_cons_self, rfl⟩ (by decide) (by decide)
set_option maxRecDepth 65536 in
set_option maxHeartbeats 40000000 in
theorem c_wi6 (l : Launch) (Z : State) (a0 : Array Value) (hw : ∀ d ∈ tables_1, d.before a0 Z = true) (e : Nat → Addr) (j : Nat) (h : Heap) (n0 : Nat) (hn : n0 ≤ h.size) (hj : j < 19) (hF : ∀ i, i < 19 → Fld Z h (e i) "com/example/pathweave/pathweave/model/Datatype" "enclosing" "Lcom/example/pathweave/pathweave/model/Datatype;" (own_enc e i)) (hI : ∀ i j, i < 19 → j < 19 → e i = e j → i = j) (hS : Sta Z h "com/example/pathweave/pathweave/model/Datatype" "LITERAL" "Lcom/example/pathweave/pathweave/model/Datatype;" (.ref (e 0))) : Con l Z (⟨"com/example/pathweave/pathweave/model/Datatype", "within", "(Lcom/example/pathweave/pathweave/model/Datatype;)Z"⟩ : MethodName) prog_65_method_8_code 3 (some .boolean) ({ frames := 0, cells := 0, slots := 0, locals := 0 } : Room) #[(.ref (e 6)), (.ref (e j))] h n0 (fun r h' => r = some (.int (if j ∈ ([0, 6, 5, 4, 3] : List Nat) then 1 else 0)) ∧ h' = h) := by
  refine ConW.of_W (Ls := #[.val (.ref (e 6)), .val (.ref (e j)), .unset]) (plainFor_of_name pn_0) hn (fun m => by first | (simp [entryFrame, mkF, argsToLocals, Value.category]; done) | rfl) ?_
  refine W.aloadN 1 d_prog_65_method_8_0 rfl rfl rfl ?_
  refine W.getstatic 4 d_prog_65_method_8_1 rfl (host := "") (Or.inl (wd_53 hw)) Via.refl hS ?_
  refine W.acmp_ne 9 7 d_prog_65_method_8_4 rfl rfl rfl rfl ?_ ?_
  · intro hc1026
    refine W.aloadN 10 d_prog_65_method_8_9 rfl rfl rfl ?_
    refine W.astoreN 11 d_prog_65_method_8_10 rfl rfl #[.val (.ref (e 6)), .val (.ref (e j)), .val (.ref (e 6))] rfl ?_
    exact (w11_6 l Z a0 hw e (e 6) j h n0 hj hF hI).post (fun r h' q => ⟨q.1.trans (by congr 3; apply propext; constructor; exact fun z => List.mem_cons_of_mem _ z; exact fun z => (List.mem_cons.mp z).resolve_left (fun y => hc1026 (by rw [y]))), q.2⟩)
  · intro hc1026
    refine W.iconst 8 d_prog_65_method_8_7 rfl (1 : Int32) rfl ?_
    exact W.ireturnN (t := .boolean) d_prog_65_method_8_8 rfl (by simp) (1 : Int32) rfl ⟨by rw [if_pos]; rw [hI j 0 hj (by decide) (Value.ref.inj hc1026)]; exact List.mem_cons_self, rfl⟩ (by decide) (by decide)
set_option maxRecDepth 65536 in
set_option maxHeartbeats 40000000 in
theorem c_wi7 (l : Launch) (Z : State) (a0 : Array Value) (hw : ∀ d ∈ tables_1, d.before a0 Z = true) (e : Nat → Addr) (j : Nat) (h : Heap) (n0 : Nat) (hn : n0 ≤ h.size) (hj : j < 19) (hF : ∀ i, i < 19 → Fld Z h (e i) "com/example/pathweave/pathweave/model/Datatype" "enclosing" "Lcom/example/pathweave/pathweave/model/Datatype;" (own_enc e i)) (hI : ∀ i j, i < 19 → j < 19 → e i = e j → i = j) (hS : Sta Z h "com/example/pathweave/pathweave/model/Datatype" "LITERAL" "Lcom/example/pathweave/pathweave/model/Datatype;" (.ref (e 0))) : Con l Z (⟨"com/example/pathweave/pathweave/model/Datatype", "within", "(Lcom/example/pathweave/pathweave/model/Datatype;)Z"⟩ : MethodName) prog_65_method_8_code 3 (some .boolean) ({ frames := 0, cells := 0, slots := 0, locals := 0 } : Room) #[(.ref (e 7)), (.ref (e j))] h n0 (fun r h' => r = some (.int (if j ∈ ([0, 7, 6, 5, 4, 3] : List Nat) then 1 else 0)) ∧ h' = h) := by
  refine ConW.of_W (Ls := #[.val (.ref (e 7)), .val (.ref (e j)), .unset]) (plainFor_of_name pn_0) hn (fun m => by first | (simp [entryFrame, mkF, argsToLocals, Value.category]; done) | rfl) ?_
  refine W.aloadN 1 d_prog_65_method_8_0 rfl rfl rfl ?_
  refine W.getstatic 4 d_prog_65_method_8_1 rfl (host := "") (Or.inl (wd_53 hw)) Via.refl hS ?_
  refine W.acmp_ne 9 7 d_prog_65_method_8_4 rfl rfl rfl rfl ?_ ?_
  · intro hc1027
    refine W.aloadN 10 d_prog_65_method_8_9 rfl rfl rfl ?_
    refine W.astoreN 11 d_prog_65_method_8_10 rfl rfl #[.val (.ref (e 7)), .val (.ref (e j)), .val (.ref (e 7))] rfl ?_
    exact (w11_7 l Z a0 hw e (e 7) j h n0 hj hF hI).post (fun r h' q => ⟨q.1.trans (by congr 3; apply propext; constructor; exact fun z => List.mem_cons_of_mem _ z; exact fun z => (List.mem_cons.mp z).resolve_left (fun y => hc1027 (by rw [y]))), q.2⟩)
  · intro hc1027
    refine W.iconst 8 d_prog_65_method_8_7 rfl (1 : Int32) rfl ?_
    exact W.ireturnN (t := .boolean) d_prog_65_method_8_8 rfl (by simp) (1 : Int32) rfl ⟨by rw [if_pos]; rw [hI j 0 hj (by decide) (Value.ref.inj hc1027)]; exact List.mem_cons_self, rfl⟩ (by decide) (by decide)
set_option maxRecDepth 65536 in
set_option maxHeartbeats 40000000 in
theorem c_wi8 (l : Launch) (Z : State) (a0 : Array Value) (hw : ∀ d ∈ tables_1, d.before a0 Z = true) (e : Nat → Addr) (j : Nat) (h : Heap) (n0 : Nat) (hn : n0 ≤ h.size) (hj : j < 19) (hF : ∀ i, i < 19 → Fld Z h (e i) "com/example/pathweave/pathweave/model/Datatype" "enclosing" "Lcom/example/pathweave/pathweave/model/Datatype;" (own_enc e i)) (hI : ∀ i j, i < 19 → j < 19 → e i = e j → i = j) (hS : Sta Z h "com/example/pathweave/pathweave/model/Datatype" "LITERAL" "Lcom/example/pathweave/pathweave/model/Datatype;" (.ref (e 0))) : Con l Z (⟨"com/example/pathweave/pathweave/model/Datatype", "within", "(Lcom/example/pathweave/pathweave/model/Datatype;)Z"⟩ : MethodName) prog_65_method_8_code 3 (some .boolean) ({ frames := 0, cells := 0, slots := 0, locals := 0 } : Room) #[(.ref (e 8)), (.ref (e j))] h n0 (fun r h' => r = some (.int (if j ∈ ([0, 8, 1] : List Nat) then 1 else 0)) ∧ h' = h) := by
  refine ConW.of_W (Ls := #[.val (.ref (e 8)), .val (.ref (e j)), .unset]) (plainFor_of_name pn_0) hn (fun m => by first | (simp [entryFrame, mkF, argsToLocals, Value.category]; done) | rfl) ?_
  refine W.aloadN 1 d_prog_65_method_8_0 rfl rfl rfl ?_
  refine W.getstatic 4 d_prog_65_method_8_1 rfl (host := "") (Or.inl (wd_53 hw)) Via.refl hS ?_
  refine W.acmp_ne 9 7 d_prog_65_method_8_4 rfl rfl rfl rfl ?_ ?_
  · intro hc1028
    refine W.aloadN 10 d_prog_65_method_8_9 rfl rfl rfl ?_
    refine W.astoreN 11 d_prog_65_method_8_10 rfl rfl #[.val (.ref (e 8)), .val (.ref (e j)), .val (.ref (e 8))] rfl ?_
    exact (w11_8 l Z a0 hw e (e 8) j h n0 hj hF hI).post (fun r h' q => ⟨q.1.trans (by congr 3; apply propext; constructor; exact fun z => List.mem_cons_of_mem _ z; exact fun z => (List.mem_cons.mp z).resolve_left (fun y => hc1028 (by rw [y]))), q.2⟩)
  · intro hc1028
    refine W.iconst 8 d_prog_65_method_8_7 rfl (1 : Int32) rfl ?_
    exact W.ireturnN (t := .boolean) d_prog_65_method_8_8 rfl (by simp) (1 : Int32) rfl ⟨by rw [if_pos]; rw [hI j 0 hj (by decide) (Value.ref.inj hc1028)]; exact List.mem_cons_self, rfl⟩ (by decide) (by decide)
set_option maxRecDepth 65536 in
set_option maxHeartbeats 40000000 in
theorem c_wi9 (l : Launch) (Z : State) (a0 : Array Value) (hw : ∀ d ∈ tables_1, d.before a0 Z = true) (e : Nat → Addr) (j : Nat) (h : Heap) (n0 : Nat) (hn : n0 ≤ h.size) (hj : j < 19) (hF : ∀ i, i < 19 → Fld Z h (e i) "com/example/pathweave/pathweave/model/Datatype" "enclosing" "Lcom/example/pathweave/pathweave/model/Datatype;" (own_enc e i)) (hI : ∀ i j, i < 19 → j < 19 → e i = e j → i = j) (hS : Sta Z h "com/example/pathweave/pathweave/model/Datatype" "LITERAL" "Lcom/example/pathweave/pathweave/model/Datatype;" (.ref (e 0))) : Con l Z (⟨"com/example/pathweave/pathweave/model/Datatype", "within", "(Lcom/example/pathweave/pathweave/model/Datatype;)Z"⟩ : MethodName) prog_65_method_8_code 3 (some .boolean) ({ frames := 0, cells := 0, slots := 0, locals := 0 } : Room) #[(.ref (e 9)), (.ref (e j))] h n0 (fun r h' => r = some (.int (if j ∈ ([0, 9, 8, 1] : List Nat) then 1 else 0)) ∧ h' = h) := by
  refine ConW.of_W (Ls := #[.val (.ref (e 9)), .val (.ref (e j)), .unset]) (plainFor_of_name pn_0) hn (fun m => by first | (simp [entryFrame, mkF, argsToLocals, Value.category]; done) | rfl) ?_
  refine W.aloadN 1 d_prog_65_method_8_0 rfl rfl rfl ?_
  refine W.getstatic 4 d_prog_65_method_8_1 rfl (host := "") (Or.inl (wd_53 hw)) Via.refl hS ?_
  refine W.acmp_ne 9 7 d_prog_65_method_8_4 rfl rfl rfl rfl ?_ ?_
  · intro hc1029
    refine W.aloadN 10 d_prog_65_method_8_9 rfl rfl rfl ?_
    refine W.astoreN 11 d_prog_65_method_8_10 rfl rfl #[.val (.ref (e 9)), .val (.ref (e j)), .val (.ref (e 9))] rfl ?_
    exact (w11_9 l Z a0 hw e (e 9) j h n0 hj hF hI).post (fun r h' q => ⟨q.1.trans (by congr 3; apply propext; constructor; exact fun z => List.mem_cons_of_mem _ z; exact fun z => (List.mem_cons.mp z).resolve_left (fun y => hc1029 (by rw [y]))), q.2⟩)
  · intro hc1029
    refine W.iconst 8 d_prog_65_method_8_7 rfl (1 : Int32) rfl ?_
    exact W.ireturnN (t := .boolean) d_prog_65_method_8_8 rfl (by simp) (1 : Int32) rfl ⟨by rw [if_pos]; rw [hI j 0 hj (by decide) (Value.ref.inj hc1029)]; exact List.mem_cons_self, rfl⟩ (by decide) (by decide)
set_option maxRecDepth 65536 in
set_option maxHeartbeats 40000000 in
theorem c_wi10 (l : Launch) (Z : State) (a0 : Array Value) (hw : ∀ d ∈ tables_1, d.before a0 Z = true) (e : Nat → Addr) (j : Nat) (h : Heap) (n0 : Nat) (hn : n0 ≤ h.size) (hj : j < 19) (hF : ∀ i, i < 19 → Fld Z h (e i) "com/example/pathweave/pathweave/model/Datatype" "enclosing" "Lcom/example/pathweave/pathweave/model/Datatype;" (own_enc e i)) (hI : ∀ i j, i < 19 → j < 19 → e i = e j → i = j) (hS : Sta Z h "com/example/pathweave/pathweave/model/Datatype" "LITERAL" "Lcom/example/pathweave/pathweave/model/Datatype;" (.ref (e 0))) : Con l Z (⟨"com/example/pathweave/pathweave/model/Datatype", "within", "(Lcom/example/pathweave/pathweave/model/Datatype;)Z"⟩ : MethodName) prog_65_method_8_code 3 (some .boolean) ({ frames := 0, cells := 0, slots := 0, locals := 0 } : Room) #[(.ref (e 10)), (.ref (e j))] h n0 (fun r h' => r = some (.int (if j ∈ ([0, 10, 9, 8, 1] : List Nat) then 1 else 0)) ∧ h' = h) := by
  refine ConW.of_W (Ls := #[.val (.ref (e 10)), .val (.ref (e j)), .unset]) (plainFor_of_name pn_0) hn (fun m => by first | (simp [entryFrame, mkF, argsToLocals, Value.category]; done) | rfl) ?_
  refine W.aloadN 1 d_prog_65_method_8_0 rfl rfl rfl ?_
  refine W.getstatic 4 d_prog_65_method_8_1 rfl (host := "") (Or.inl (wd_53 hw)) Via.refl hS ?_
  refine W.acmp_ne 9 7 d_prog_65_method_8_4 rfl rfl rfl rfl ?_ ?_
  · intro hc1030
    refine W.aloadN 10 d_prog_65_method_8_9 rfl rfl rfl ?_
    refine W.astoreN 11 d_prog_65_method_8_10 rfl rfl #[.val (.ref (e 10)), .val (.ref (e j)), .val (.ref (e 10))] rfl ?_
    exact (w11_10 l Z a0 hw e (e 10) j h n0 hj hF hI).post (fun r h' q => ⟨q.1.trans (by congr 3; apply propext; constructor; exact fun z => List.mem_cons_of_mem _ z; exact fun z => (List.mem_cons.mp z).resolve_left (fun y => hc1030 (by rw [y]))), q.2⟩)
  · intro hc1030
    refine W.iconst 8 d_prog_65_method_8_7 rfl (1 : Int32) rfl ?_
    exact W.ireturnN (t := .boolean) d_prog_65_method_8_8 rfl (by simp) (1 : Int32) rfl ⟨by rw [if_pos]; rw [hI j 0 hj (by decide) (Value.ref.inj hc1030)]; exact List.mem_cons_self, rfl⟩ (by decide) (by decide)
set_option maxRecDepth 65536 in
set_option maxHeartbeats 40000000 in
theorem c_wi11 (l : Launch) (Z : State) (a0 : Array Value) (hw : ∀ d ∈ tables_1, d.before a0 Z = true) (e : Nat → Addr) (j : Nat) (h : Heap) (n0 : Nat) (hn : n0 ≤ h.size) (hj : j < 19) (hF : ∀ i, i < 19 → Fld Z h (e i) "com/example/pathweave/pathweave/model/Datatype" "enclosing" "Lcom/example/pathweave/pathweave/model/Datatype;" (own_enc e i)) (hI : ∀ i j, i < 19 → j < 19 → e i = e j → i = j) (hS : Sta Z h "com/example/pathweave/pathweave/model/Datatype" "LITERAL" "Lcom/example/pathweave/pathweave/model/Datatype;" (.ref (e 0))) : Con l Z (⟨"com/example/pathweave/pathweave/model/Datatype", "within", "(Lcom/example/pathweave/pathweave/model/Datatype;)Z"⟩ : MethodName) prog_65_method_8_code 3 (some .boolean) ({ frames := 0, cells := 0, slots := 0, locals := 0 } : Room) #[(.ref (e 11)), (.ref (e j))] h n0 (fun r h' => r = some (.int (if j ∈ ([0, 11, 10, 9, 8, 1] : List Nat) then 1 else 0)) ∧ h' = h) := by
  refine ConW.of_W (Ls := #[.val (.ref (e 11)), .val (.ref (e j)), .unset]) (plainFor_of_name pn_0) hn (fun m => by first | (simp [entryFrame, mkF, argsToLocals, Value.category]; done) | rfl) ?_
  refine W.aloadN 1 d_prog_65_method_8_0 rfl rfl rfl ?_
  refine W.getstatic 4 d_prog_65_method_8_1 rfl (host := "") (Or.inl (wd_53 hw)) Via.refl hS ?_
  refine W.acmp_ne 9 7 d_prog_65_method_8_4 rfl rfl rfl rfl ?_ ?_
  · intro hc1031
    refine W.aloadN 10 d_prog_65_method_8_9 rfl rfl rfl ?_
    refine W.astoreN 11 d_prog_65_method_8_10 rfl rfl #[.val (.ref (e 11)), .val (.ref (e j)), .val (.ref (e 11))] rfl ?_
    exact (w11_11 l Z a0 hw e (e 11) j h n0 hj hF hI).post (fun r h' q => ⟨q.1.trans (by congr 3; apply propext; constructor; exact fun z => List.mem_cons_of_mem _ z; exact fun z => (List.mem_cons.mp z).resolve_left (fun y => hc1031 (by rw [y]))), q.2⟩)
  · intro hc1031
    refine W.iconst 8 d_prog_65_method_8_7 rfl (1 : Int32) rfl ?_
    exact W.ireturnN (t := .boolean) d_prog_65_method_8_8 rfl (by simp) (1 : Int32) rfl ⟨by rw [if_pos]; rw [hI j 0 hj (by decide) (Value.ref.inj hc1031)]; exact List.mem_cons_self, rfl⟩ (by decide) (by decide)
set_option maxRecDepth 65536 in
set_option maxHeartbeats 40000000 in
theorem c_wi12 (l : Launch) (Z : State) (a0 : Array Value) (hw : ∀ d ∈ tables_1, d.before a0 Z = true) (e : Nat → Addr) (j : Nat) (h : Heap) (n0 : Nat) (hn : n0 ≤ h.size) (hj : j < 19) (hF : ∀ i, i < 19 → Fld Z h (e i) "com/example/pathweave/pathweave/model/Datatype" "enclosing" "Lcom/example/pathweave/pathweave/model/Datatype;" (own_enc e i)) (hI : ∀ i j, i < 19 → j < 19 → e i = e j → i = j) (hS : Sta Z h "com/example/pathweave/pathweave/model/Datatype" "LITERAL" "Lcom/example/pathweave/pathweave/model/Datatype;" (.ref (e 0))) : Con l Z (⟨"com/example/pathweave/pathweave/model/Datatype", "within", "(Lcom/example/pathweave/pathweave/model/Datatype;)Z"⟩ : MethodName) prog_65_method_8_code 3 (some .boolean) ({ frames := 0, cells := 0, slots := 0, locals := 0 } : Room) #[(.ref (e 12)), (.ref (e j))] h n0 (fun r h' => r = some (.int (if j ∈ ([0, 12, 11, 10, 9, 8, 1] : List Nat) then 1 else 0)) ∧ h' = h) := by
  refine ConW.of_W (Ls := #[.val (.ref (e 12)), .val (.ref (e j)), .unset]) (plainFor_of_name pn_0) hn (fun m => by first | (simp [entryFrame, mkF, argsToLocals, Value.category]; done) | rfl) ?_
  refine W.aloadN 1 d_prog_65_method_8_0 rfl rfl rfl ?_
  refine W.getstatic 4 d_prog_65_method_8_1 rfl (host := "") (Or.inl (wd_53 hw)) Via.refl hS ?_
  refine W.acmp_ne 9 7 d_prog_65_method_8_4 rfl rfl rfl rfl ?_ ?_
  · intro hc1032
    refine W.aloadN 10 d_prog_65_method_8_9 rfl rfl rfl ?_
    refine W.astoreN 11 d_prog_65_method_8_10 rfl rfl #[.val (.ref (e 12)), .val (.ref (e j)), .val (.ref (e 12))] rfl ?_
    exact (w11_12 l Z a0 hw e (e 12) j h n0 hj hF hI).post (fun r h' q => ⟨q.1.trans (by congr 3; apply propext; constructor; exact fun z => List.mem_cons_of_mem _ z; exact fun z => (List.mem_cons.mp z).resolve_left (fun y => hc1032 (by rw [y]))), q.2⟩)
  · intro hc1032
    refine W.iconst 8 d_prog_65_method_8_7 rfl (1 : Int32) rfl ?_
    exact W.ireturnN (t := .boolean) d_prog_65_method_8_8 rfl (by simp) (1 : Int32) rfl ⟨by rw [if_pos]; rw [hI j 0 hj (by decide) (Value.ref.inj hc1032)]; exact List.mem_cons_self, rfl⟩ (by decide) (by decide)
set_option maxRecDepth 65536 in
set_option maxHeartbeats 40000000 in
theorem c_wi13 (l : Launch) (Z : State) (a0 : Array Value) (hw : ∀ d ∈ tables_1, d.before a0 Z = true) (e : Nat → Addr) (j : Nat) (h : Heap) (n0 : Nat) (hn : n0 ≤ h.size) (hj : j < 19) (hF : ∀ i, i < 19 → Fld Z h (e i) "com/example/pathweave/pathweave/model/Datatype" "enclosing" "Lcom/example/pathweave/pathweave/model/Datatype;" (own_enc e i)) (hI : ∀ i j, i < 19 → j < 19 → e i = e j → i = j) (hS : Sta Z h "com/example/pathweave/pathweave/model/Datatype" "LITERAL" "Lcom/example/pathweave/pathweave/model/Datatype;" (.ref (e 0))) : Con l Z (⟨"com/example/pathweave/pathweave/model/Datatype", "within", "(Lcom/example/pathweave/pathweave/model/Datatype;)Z"⟩ : MethodName) prog_65_method_8_code 3 (some .boolean) ({ frames := 0, cells := 0, slots := 0, locals := 0 } : Room) #[(.ref (e 13)), (.ref (e j))] h n0 (fun r h' => r = some (.int (if j ∈ ([0, 13, 12, 11, 10, 9, 8, 1] : List Nat) then 1 else 0)) ∧ h' = h) := by
  refine ConW.of_W (Ls := #[.val (.ref (e 13)), .val (.ref (e j)), .unset]) (plainFor_of_name pn_0) hn (fun m => by first | (simp [entryFrame, mkF, argsToLocals, Value.category]; done) | rfl) ?_
  refine W.aloadN 1 d_prog_65_method_8_0 rfl rfl rfl ?_
  refine W.getstatic 4 d_prog_65_method_8_1 rfl (host := "") (Or.inl (wd_53 hw)) Via.refl hS ?_
  refine W.acmp_ne 9 7 d_prog_65_method_8_4 rfl rfl rfl rfl ?_ ?_
  · intro hc1033
    refine W.aloadN 10 d_prog_65_method_8_9 rfl rfl rfl ?_
    refine W.astoreN 11 d_prog_65_method_8_10 rfl rfl #[.val (.ref (e 13)), .val (.ref (e j)), .val (.ref (e 13))] rfl ?_
    exact (w11_13 l Z a0 hw e (e 13) j h n0 hj hF hI).post (fun r h' q => ⟨q.1.trans (by congr 3; apply propext; constructor; exact fun z => List.mem_cons_of_mem _ z; exact fun z => (List.mem_cons.mp z).resolve_left (fun y => hc1033 (by rw [y]))), q.2⟩)
  · intro hc1033
    refine W.iconst 8 d_prog_65_method_8_7 rfl (1 : Int32) rfl ?_
    exact W.ireturnN (t := .boolean) d_prog_65_method_8_8 rfl (by simp) (1 : Int32) rfl ⟨by rw [if_pos]; rw [hI j 0 hj (by decide) (Value.ref.inj hc1033)]; exact List.mem_cons_self, rfl⟩ (by decide) (by decide)
set_option maxRecDepth 65536 in
set_option maxHeartbeats 40000000 in
theorem c_wi14 (l : Launch) (Z : State) (a0 : Array Value) (hw : ∀ d ∈ tables_1, d.before a0 Z = true) (e : Nat → Addr) (j : Nat) (h : Heap) (n0 : Nat) (hn : n0 ≤ h.size) (hj : j < 19) (hF : ∀ i, i < 19 → Fld Z h (e i) "com/example/pathweave/pathweave/model/Datatype" "enclosing" "Lcom/example/pathweave/pathweave/model/Datatype;" (own_enc e i)) (hI : ∀ i j, i < 19 → j < 19 → e i = e j → i = j) (hS : Sta Z h "com/example/pathweave/pathweave/model/Datatype" "LITERAL" "Lcom/example/pathweave/pathweave/model/Datatype;" (.ref (e 0))) : Con l Z (⟨"com/example/pathweave/pathweave/model/Datatype", "within", "(Lcom/example/pathweave/pathweave/model/Datatype;)Z"⟩ : MethodName) prog_65_method_8_code 3 (some .boolean) ({ frames := 0, cells := 0, slots := 0, locals := 0 } : Room) #[(.ref (e 14)), (.ref (e j))] h n0 (fun r h' => r = some (.int (if j ∈ ([0, 14] : List Nat) then 1 else 0)) ∧ h' = h) := by
  refine ConW.of_W (Ls := #[.val (.ref (e 14)), .val (.ref (e j)), .unset]) (plainFor_of_name pn_0) hn (fun m => by first | (simp [entryFrame, mkF, argsToLocals, Value.category]; done) | rfl) ?_
  refine W.aloadN 1 d_prog_65_method_8_0 rfl rfl rfl ?_
  refine W.getstatic 4 d_prog_65_method_8_1 rfl (host := "") (Or.inl (wd_53 hw)) Via.refl hS ?_
  refine W.acmp_ne 9 7 d_prog_65_method_8_4 rfl rfl rfl rfl ?_ ?_
  · intro hc1034
    refine W.aloadN 10 d_prog_65_method_8_9 rfl rfl rfl ?_
    refine W.astoreN 11 d_prog_65_method_8_10 rfl rfl #[.val (.ref (e 14)), .val (.ref (e j)), .val (.ref (e 14))] rfl ?_
    exact (w11_14 l Z a0 hw e (e 14) j h n0 hj hF hI).post (fun r h' q => ⟨q.1.trans (by congr 3; apply propext; constructor; exact fun z => List.mem_cons_of_mem _ z; exact fun z => (List.mem_cons.mp z).resolve_left (fun y => hc1034 (by rw [y]))), q.2⟩)
  · intro hc1034
    refine W.iconst 8 d_prog_65_method_8_7 rfl (1 : Int32) rfl ?_
    exact W.ireturnN (t := .boolean) d_prog_65_method_8_8 rfl (by simp) (1 : Int32) rfl ⟨by rw [if_pos]; rw [hI j 0 hj (by decide) (Value.ref.inj hc1034)]; exact List.mem_cons_self, rfl⟩ (by decide) (by decide)
set_option maxRecDepth 65536 in
set_option maxHeartbeats 40000000 in
theorem c_wi15 (l : Launch) (Z : State) (a0 : Array Value) (hw : ∀ d ∈ tables_1, d.before a0 Z = true) (e : Nat → Addr) (j : Nat) (h : Heap) (n0 : Nat) (hn : n0 ≤ h.size) (hj : j < 19) (hF : ∀ i, i < 19 → Fld Z h (e i) "com/example/pathweave/pathweave/model/Datatype" "enclosing" "Lcom/example/pathweave/pathweave/model/Datatype;" (own_enc e i)) (hI : ∀ i j, i < 19 → j < 19 → e i = e j → i = j) (hS : Sta Z h "com/example/pathweave/pathweave/model/Datatype" "LITERAL" "Lcom/example/pathweave/pathweave/model/Datatype;" (.ref (e 0))) : Con l Z (⟨"com/example/pathweave/pathweave/model/Datatype", "within", "(Lcom/example/pathweave/pathweave/model/Datatype;)Z"⟩ : MethodName) prog_65_method_8_code 3 (some .boolean) ({ frames := 0, cells := 0, slots := 0, locals := 0 } : Room) #[(.ref (e 15)), (.ref (e j))] h n0 (fun r h' => r = some (.int (if j ∈ ([0, 15] : List Nat) then 1 else 0)) ∧ h' = h) := by
  refine ConW.of_W (Ls := #[.val (.ref (e 15)), .val (.ref (e j)), .unset]) (plainFor_of_name pn_0) hn (fun m => by first | (simp [entryFrame, mkF, argsToLocals, Value.category]; done) | rfl) ?_
  refine W.aloadN 1 d_prog_65_method_8_0 rfl rfl rfl ?_
  refine W.getstatic 4 d_prog_65_method_8_1 rfl (host := "") (Or.inl (wd_53 hw)) Via.refl hS ?_
  refine W.acmp_ne 9 7 d_prog_65_method_8_4 rfl rfl rfl rfl ?_ ?_
  · intro hc1035
    refine W.aloadN 10 d_prog_65_method_8_9 rfl rfl rfl ?_
    refine W.astoreN 11 d_prog_65_method_8_10 rfl rfl #[.val (.ref (e 15)), .val (.ref (e j)), .val (.ref (e 15))] rfl ?_
    exact (w11_15 l Z a0 hw e (e 15) j h n0 hj hF hI).post (fun r h' q => ⟨q.1.trans (by congr 3; apply propext; constructor; exact fun z => List.mem_cons_of_mem _ z; exact fun z => (List.mem_cons.mp z).resolve_left (fun y => hc1035 (by rw [y]))), q.2⟩)
  · intro hc1035
    refine W.iconst 8 d_prog_65_method_8_7 rfl (1 : Int32) rfl ?_
    exact W.ireturnN (t := .boolean) d_prog_65_method_8_8 rfl (by simp) (1 : Int32) rfl ⟨by rw [if_pos]; rw [hI j 0 hj (by decide) (Value.ref.inj hc1035)]; exact List.mem_cons_self, rfl⟩ (by decide) (by decide)
set_option maxRecDepth 65536 in
set_option maxHeartbeats 40000000 in
theorem c_wi16 (l : Launch) (Z : State) (a0 : Array Value) (hw : ∀ d ∈ tables_1, d.before a0 Z = true) (e : Nat → Addr) (j : Nat) (h : Heap) (n0 : Nat) (hn : n0 ≤ h.size) (hj : j < 19) (hF : ∀ i, i < 19 → Fld Z h (e i) "com/example/pathweave/pathweave/model/Datatype" "enclosing" "Lcom/example/pathweave/pathweave/model/Datatype;" (own_enc e i)) (hI : ∀ i j, i < 19 → j < 19 → e i = e j → i = j) (hS : Sta Z h "com/example/pathweave/pathweave/model/Datatype" "LITERAL" "Lcom/example/pathweave/pathweave/model/Datatype;" (.ref (e 0))) : Con l Z (⟨"com/example/pathweave/pathweave/model/Datatype", "within", "(Lcom/example/pathweave/pathweave/model/Datatype;)Z"⟩ : MethodName) prog_65_method_8_code 3 (some .boolean) ({ frames := 0, cells := 0, slots := 0, locals := 0 } : Room) #[(.ref (e 16)), (.ref (e j))] h n0 (fun r h' => r = some (.int (if j ∈ ([0, 16] : List Nat) then 1 else 0)) ∧ h' = h) := by
  refine ConW.of_W (Ls := #[.val (.ref (e 16)), .val (.ref (e j)), .unset]) (plainFor_of_name pn_0) hn (fun m => by first | (simp [entryFrame, mkF, argsToLocals, Value.category]; done) | rfl) ?_
  refine W.aloadN 1 d_prog_65_method_8_0 rfl rfl rfl ?_
  refine W.getstatic 4 d_prog_65_method_8_1 rfl (host := "") (Or.inl (wd_53 hw)) Via.refl hS ?_
  refine W.acmp_ne 9 7 d_prog_65_method_8_4 rfl rfl rfl rfl ?_ ?_
  · intro hc1036
    refine W.aloadN 10 d_prog_65_method_8_9 rfl rfl rfl ?_
    refine W.astoreN 11 d_prog_65_method_8_10 rfl rfl #[.val (.ref (e 16)), .val (.ref (e j)), .val (.ref (e 16))] rfl ?_
    exact (w11_16 l Z a0 hw e (e 16) j h n0 hj hF hI).post (fun r h' q => ⟨q.1.trans (by congr 3; apply propext; constructor; exact fun z => List.mem_cons_of_mem _ z; exact fun z => (List.mem_cons.mp z).resolve_left (fun y => hc1036 (by rw [y]))), q.2⟩)
  · intro hc1036
    refine W.iconst 8 d_prog_65_method_8_7 rfl (1 : Int32) rfl ?_
    exact W.ireturnN (t := .boolean) d_prog_65_method_8_8 rfl (by simp) (1 : Int32) rfl ⟨by rw [if_pos]; rw [hI j 0 hj (by decide) (Value.ref.inj hc1036)]; exact List.mem_cons_self, rfl⟩ (by decide) (by decide)
set_option maxRecDepth 65536 in
set_option maxHeartbeats 40000000 in
theorem c_wi17 (l : Launch) (Z : State) (a0 : Array Value) (hw : ∀ d ∈ tables_1, d.before a0 Z = true) (e : Nat → Addr) (j : Nat) (h : Heap) (n0 : Nat) (hn : n0 ≤ h.size) (hj : j < 19) (hF : ∀ i, i < 19 → Fld Z h (e i) "com/example/pathweave/pathweave/model/Datatype" "enclosing" "Lcom/example/pathweave/pathweave/model/Datatype;" (own_enc e i)) (hI : ∀ i j, i < 19 → j < 19 → e i = e j → i = j) (hS : Sta Z h "com/example/pathweave/pathweave/model/Datatype" "LITERAL" "Lcom/example/pathweave/pathweave/model/Datatype;" (.ref (e 0))) : Con l Z (⟨"com/example/pathweave/pathweave/model/Datatype", "within", "(Lcom/example/pathweave/pathweave/model/Datatype;)Z"⟩ : MethodName) prog_65_method_8_code 3 (some .boolean) ({ frames := 0, cells := 0, slots := 0, locals := 0 } : Room) #[(.ref (e 17)), (.ref (e j))] h n0 (fun r h' => r = some (.int (if j ∈ ([0, 17] : List Nat) then 1 else 0)) ∧ h' = h) := by
  refine ConW.of_W (Ls := #[.val (.ref (e 17)), .val (.ref (e j)), .unset]) (plainFor_of_name pn_0) hn (fun m => by first | (simp [entryFrame, mkF, argsToLocals, Value.category]; done) | rfl) ?_
  refine W.aloadN 1 d_prog_65_method_8_0 rfl rfl rfl ?_
  refine W.getstatic 4 d_prog_65_method_8_1 rfl (host := "") (Or.inl (wd_53 hw)) Via.refl hS ?_
  refine W.acmp_ne 9 7 d_prog_65_method_8_4 rfl rfl rfl rfl ?_ ?_
  · intro hc1037
    refine W.aloadN 10 d_prog_65_method_8_9 rfl rfl rfl ?_
    refine W.astoreN 11 d_prog_65_method_8_10 rfl rfl #[.val (.ref (e 17)), .val (.ref (e j)), .val (.ref (e 17))] rfl ?_
    exact (w11_17 l Z a0 hw e (e 17) j h n0 hj hF hI).post (fun r h' q => ⟨q.1.trans (by congr 3; apply propext; constructor; exact fun z => List.mem_cons_of_mem _ z; exact fun z => (List.mem_cons.mp z).resolve_left (fun y => hc1037 (by rw [y]))), q.2⟩)
  · intro hc1037
    refine W.iconst 8 d_prog_65_method_8_7 rfl (1 : Int32) rfl ?_
    exact W.ireturnN (t := .boolean) d_prog_65_method_8_8 rfl (by simp) (1 : Int32) rfl ⟨by rw [if_pos]; rw [hI j 0 hj (by decide) (Value.ref.inj hc1037)]; exact List.mem_cons_self, rfl⟩ (by decide) (by decide)
set_option maxRecDepth 65536 in
set_option maxHeartbeats 40000000 in
theorem c_wi18 (l : Launch) (Z : State) (a0 : Array Value) (hw : ∀ d ∈ tables_1, d.before a0 Z = true) (e : Nat → Addr) (j : Nat) (h : Heap) (n0 : Nat) (hn : n0 ≤ h.size) (hj : j < 19) (hF : ∀ i, i < 19 → Fld Z h (e i) "com/example/pathweave/pathweave/model/Datatype" "enclosing" "Lcom/example/pathweave/pathweave/model/Datatype;" (own_enc e i)) (hI : ∀ i j, i < 19 → j < 19 → e i = e j → i = j) (hS : Sta Z h "com/example/pathweave/pathweave/model/Datatype" "LITERAL" "Lcom/example/pathweave/pathweave/model/Datatype;" (.ref (e 0))) : Con l Z (⟨"com/example/pathweave/pathweave/model/Datatype", "within", "(Lcom/example/pathweave/pathweave/model/Datatype;)Z"⟩ : MethodName) prog_65_method_8_code 3 (some .boolean) ({ frames := 0, cells := 0, slots := 0, locals := 0 } : Room) #[(.ref (e 18)), (.ref (e j))] h n0 (fun r h' => r = some (.int (if j ∈ ([0, 18, 17] : List Nat) then 1 else 0)) ∧ h' = h) := by
  refine ConW.of_W (Ls := #[.val (.ref (e 18)), .val (.ref (e j)), .unset]) (plainFor_of_name pn_0) hn (fun m => by first | (simp [entryFrame, mkF, argsToLocals, Value.category]; done) | rfl) ?_
  refine W.aloadN 1 d_prog_65_method_8_0 rfl rfl rfl ?_
  refine W.getstatic 4 d_prog_65_method_8_1 rfl (host := "") (Or.inl (wd_53 hw)) Via.refl hS ?_
  refine W.acmp_ne 9 7 d_prog_65_method_8_4 rfl rfl rfl rfl ?_ ?_
  · intro hc1038
    refine W.aloadN 10 d_prog_65_method_8_9 rfl rfl rfl ?_
    refine W.astoreN 11 d_prog_65_method_8_10 rfl rfl #[.val (.ref (e 18)), .val (.ref (e j)), .val (.ref (e 18))] rfl ?_
    exact (w11_18 l Z a0 hw e (e 18) j h n0 hj hF hI).post (fun r h' q => ⟨q.1.trans (by congr 3; apply propext; constructor; exact fun z => List.mem_cons_of_mem _ z; exact fun z => (List.mem_cons.mp z).resolve_left (fun y => hc1038 (by rw [y]))), q.2⟩)
  · intro hc1038
    refine W.iconst 8 d_prog_65_method_8_7 rfl (1 : Int32) rfl ?_
    exact W.ireturnN (t := .boolean) d_prog_65_method_8_8 rfl (by simp) (1 : Int32) rfl ⟨by rw [if_pos]; rw [hI j 0 hj (by decide) (Value.ref.inj hc1038)]; exact List.mem_cons_self, rfl⟩ (by decide) (by decide)
theorem own_x0 : ∀ j : Fin 19, ((((1 : Int32).toUInt32 >>> (((j.1.toInt32) &&& 31).toUInt32)).toInt32 &&& (1 : Int32)) = 0) ↔ ¬ j.1 ∈ ([0, 0] : List Nat) := by decide
theorem own_x1 : ∀ j : Fin 19, ((((3 : Int32).toUInt32 >>> (((j.1.toInt32) &&& 31).toUInt32)).toInt32 &&& (1 : Int32)) = 0) ↔ ¬ j.1 ∈ ([0, 1] : List Nat) := by decide
theorem own_x2 : ∀ j : Fin 19, ((((5 : Int32).toUInt32 >>> (((j.1.toInt32) &&& 31).toUInt32)).toInt32 &&& (1 : Int32)) = 0) ↔ ¬ j.1 ∈ ([0, 2] : List Nat) := by decide
theorem own_x3 : ∀ j : Fin 19, ((((9 : Int32).toUInt32 >>> (((j.1.toInt32) &&& 31).toUInt32)).toInt32 &&& (1 : Int32)) = 0) ↔ ¬ j.1 ∈ ([0, 3] : List Nat) := by decide
theorem own_x4 : ∀ j : Fin 19, ((((25 : Int32).toUInt32 >>> (((j.1.toInt32) &&& 31).toUInt32)).toInt32 &&& (1 : Int32)) = 0) ↔ ¬ j.1 ∈ ([0, 4, 3] : List Nat) := by decide
theorem own_x5 : ∀ j : Fin 19, ((((57 : Int32).toUInt32 >>> (((j.1.toInt32) &&& 31).toUInt32)).toInt32 &&& (1 : Int32)) = 0) ↔ ¬ j.1 ∈ ([0, 5, 4, 3] : List Nat) := by decide
theorem own_x6 : ∀ j : Fin 19, ((((121 : Int32).toUInt32 >>> (((j.1.toInt32) &&& 31).toUInt32)).toInt32 &&& (1 : Int32)) = 0) ↔ ¬ j.1 ∈ ([0, 6, 5, 4, 3] : List Nat) := by decide
theorem own_x7 : ∀ j : Fin 19, ((((249 : Int32).toUInt32 >>> (((j.1.toInt32) &&& 31).toUInt32)).toInt32 &&& (1 : Int32)) = 0) ↔ ¬ j.1 ∈ ([0, 7, 6, 5, 4, 3] : List Nat) := by decide
theorem own_x8 : ∀ j : Fin 19, ((((259 : Int32).toUInt32 >>> (((j.1.toInt32) &&& 31).toUInt32)).toInt32 &&& (1 : Int32)) = 0) ↔ ¬ j.1 ∈ ([0, 8, 1] : List Nat) := by decide
theorem own_x9 : ∀ j : Fin 19, ((((771 : Int32).toUInt32 >>> (((j.1.toInt32) &&& 31).toUInt32)).toInt32 &&& (1 : Int32)) = 0) ↔ ¬ j.1 ∈ ([0, 9, 8, 1] : List Nat) := by decide
theorem own_x10 : ∀ j : Fin 19, ((((1795 : Int32).toUInt32 >>> (((j.1.toInt32) &&& 31).toUInt32)).toInt32 &&& (1 : Int32)) = 0) ↔ ¬ j.1 ∈ ([0, 10, 9, 8, 1] : List Nat) := by decide
theorem own_x11 : ∀ j : Fin 19, ((((3843 : Int32).toUInt32 >>> (((j.1.toInt32) &&& 31).toUInt32)).toInt32 &&& (1 : Int32)) = 0) ↔ ¬ j.1 ∈ ([0, 11, 10, 9, 8, 1] : List Nat) := by decide
theorem own_x12 : ∀ j : Fin 19, ((((7939 : Int32).toUInt32 >>> (((j.1.toInt32) &&& 31).toUInt32)).toInt32 &&& (1 : Int32)) = 0) ↔ ¬ j.1 ∈ ([0, 12, 11, 10, 9, 8, 1] : List Nat) := by decide
theorem own_x13 : ∀ j : Fin 19, ((((16131 : Int32).toUInt32 >>> (((j.1.toInt32) &&& 31).toUInt32)).toInt32 &&& (1 : Int32)) = 0) ↔ ¬ j.1 ∈ ([0, 13, 12, 11, 10, 9, 8, 1] : List Nat) := by decide
theorem own_x14 : ∀ j : Fin 19, ((((16385 : Int32).toUInt32 >>> (((j.1.toInt32) &&& 31).toUInt32)).toInt32 &&& (1 : Int32)) = 0) ↔ ¬ j.1 ∈ ([0, 14] : List Nat) := by decide
theorem own_x15 : ∀ j : Fin 19, ((((32769 : Int32).toUInt32 >>> (((j.1.toInt32) &&& 31).toUInt32)).toInt32 &&& (1 : Int32)) = 0) ↔ ¬ j.1 ∈ ([0, 15] : List Nat) := by decide
theorem own_x16 : ∀ j : Fin 19, ((((65537 : Int32).toUInt32 >>> (((j.1.toInt32) &&& 31).toUInt32)).toInt32 &&& (1 : Int32)) = 0) ↔ ¬ j.1 ∈ ([0, 16] : List Nat) := by decide
theorem own_x17 : ∀ j : Fin 19, ((((131073 : Int32).toUInt32 >>> (((j.1.toInt32) &&& 31).toUInt32)).toInt32 &&& (1 : Int32)) = 0) ↔ ¬ j.1 ∈ ([0, 17] : List Nat) := by decide
theorem own_x18 : ∀ j : Fin 19, ((((393217 : Int32).toUInt32 >>> (((j.1.toInt32) &&& 31).toUInt32)).toInt32 &&& (1 : Int32)) = 0) ↔ ¬ j.1 ∈ ([0, 18, 17] : List Nat) := by decide
theorem own_j32 (j : Nat) (hj : j < 19) : (j.toInt32).toNatClampNeg = j ∧ ¬ j.toInt32 < 0 := by
  have e : (j.toInt32).toInt = j := Int32.toInt_ofNat_small (by omega)
  refine ⟨by simp only [Int32.toNatClampNeg]; rw [e]; simp, ?_⟩
  rw [Int32.lt_iff_toInt_lt, e]; have e0 : (0 : Int32).toInt = 0 := rfl; omega
theorem own_el (e : Nat → Addr) (j : Nat) (hj : j < 19) : ([(.ref (e 0)), (.ref (e 1)), (.ref (e 2)), (.ref (e 3)), (.ref (e 4)), (.ref (e 5)), (.ref (e 6)), (.ref (e 7)), (.ref (e 8)), (.ref (e 9)), (.ref (e 10)), (.ref (e 11)), (.ref (e 12)), (.ref (e 13)), (.ref (e 14)), (.ref (e 15)), (.ref (e 16)), (.ref (e 17)), (.ref (e 18))] : List Value)[j]? = some (.ref (e j)) := by
  match j, hj with
  | 0, _ => exact rfl
  | 1, _ => exact rfl
  | 2, _ => exact rfl
  | 3, _ => exact rfl
  | 4, _ => exact rfl
  | 5, _ => exact rfl
  | 6, _ => exact rfl
  | 7, _ => exact rfl
  | 8, _ => exact rfl
  | 9, _ => exact rfl
  | 10, _ => exact rfl
  | 11, _ => exact rfl
  | 12, _ => exact rfl
  | 13, _ => exact rfl
  | 14, _ => exact rfl
  | 15, _ => exact rfl
  | 16, _ => exact rfl
  | 17, _ => exact rfl
  | 18, _ => exact rfl
  | n + 19, hh => exact absurd hh (by omega)
set_option maxRecDepth 65536 in
set_option maxHeartbeats 40000000 in
theorem l348_0 (l : Launch) (Z : State) (a0 : Array Value) (hw : ∀ d ∈ tables_1, d.before a0 Z = true) (p0 p1 : Int32) (b2 b3 : Addr) (e : Nat → Addr) (j : Nat) (h : Heap) (n0 : Nat) (hj : j < 19) (hDT : own_DT Z h e) (A2 : AryO Z h b2 "com/example/pathweave/pathweave/model/Datatype" [(.ref (e 0)), (.ref (e 1)), (.ref (e 2)), (.ref (e 3)), (.ref (e 4)), (.ref (e 5)), (.ref (e 6)), (.ref (e 7)), (.ref (e 8)), (.ref (e 9)), (.ref (e 10)), (.ref (e 11)), (.ref (e 12)), (.ref (e 13)), (.ref (e 14)), (.ref (e 15)), (.ref (e 16)), (.ref (e 17)), (.ref (e 18))]) (A3 : Ary Z h b3 .int [(.int (1 : Int32)), (.int (3 : Int32)), (.int (5 : Int32)), (.int (9 : Int32)), (.int (25 : Int32)), (.int (57 : Int32)), (.int (121 : Int32)), (.int (249 : Int32)), (.int (259 : Int32)), (.int (771 : Int32)), (.int (1795 : Int32)), (.int (3843 : Int32)), (.int (7939 : Int32)), (.int (16131 : Int32)), (.int (16385 : Int32)), (.int (32769 : Int32)), (.int (65537 : Int32)), (.int (131073 : Int32)), (.int (393217 : Int32))]) : W l room_1 Z "com/example/pathweave/pathweave/model/DatatypeWithinPinLaw" "law" code maxLocals ret n0 (fun r _ => r = some (.int 1)) h 2 40 348 #[.val (.int p0), .val (.int p1), .val (.ref b2), .val (.ref b3), .val (.int (0 : Int32)), .val (.int j.toInt32), .unset] [] := by
  refine W.aloadN 349 at_348 rfl rfl rfl ?_
  refine W.iload 351 at_349 rfl rfl ?_
  refine W.iaload 352 at_351 rfl A3 0 (by decide) (by decide) (.int (1 : Int32)) rfl ?_
  refine W.iload 354 at_352 rfl rfl ?_
  refine W.iushr 355 at_354 rfl (((1 : Int32).toUInt32 >>> (j.toInt32 &&& 31).toUInt32).toInt32) rfl ?_
  refine W.iconst 356 at_355 rfl (1 : Int32) rfl ?_
  refine W.iand 357 at_356 rfl ((((1 : Int32).toUInt32 >>> (j.toInt32 &&& 31).toUInt32).toInt32) &&& (1 : Int32)) rfl ?_
  refine W.if_eq 364 360 at_357 rfl rfl ?_ ?_
  · intro hc1039
    refine W.iconst 365 at_364 rfl (0 : Int32) rfl ?_
    refine W.istore 367 at_365 rfl #[.val (.int p0), .val (.int p1), .val (.ref b2), .val (.ref b3), .val (.int (0 : Int32)), .val (.int j.toInt32), .val (.int (0 : Int32))] rfl ?_
    refine W.aloadN 368 at_367 rfl rfl rfl ?_
    refine W.iload 370 at_368 rfl rfl ?_
    refine W.aaload 371 at_370 rfl A2.ary rfl 0 (by decide) (by decide) (.ref (e 0)) rfl ?_
    refine W.aloadN 372 at_371 rfl rfl rfl ?_
    refine W.iload 374 at_372 rfl rfl ?_
    refine W.aaload 375 at_374 rfl A2.ary rfl j (own_j32 j hj).1 (own_j32 j hj).2 (.ref (e j)) (own_el e j hj) ?_
    refine W.callV (rest := []) (argsL := [(.ref (e j))]) (a := (e 0)) 378 at_375 rfl (fun hn => c_wi0 l Z a0 hw e j _ n0 hn hj hDT.2.2.1 hDT.2.2.2 hDT.1.1) (hDT.2.1 0 (by decide)) (wd_48 hw) (wd_49 hw) (wd_51 hw) rfl (wd_50 hw) (wd_3 hw) (wd_52 hw) (by decide) pd_0 rfl rfl rfl (by decide) 0 (Nat.le_of_ble_eq_true rfl) (by decide) (by decide) (by decide) ?_
    rintro v1040 h1040 ⟨rfl, rfl⟩
    show W _ _ _ _ _ _ _ _ _ _ _ 2 40 378 #[.val (.int p0), .val (.int p1), .val (.ref b2), .val (.ref b3), .val (.int (0 : Int32)), .val (.int j.toInt32), .val (.int (0 : Int32))] [(.int (if j ∈ ([0, 0] : List Nat) then 1 else 0 : Int32))]
    refine W.iload 380 at_378 rfl rfl ?_
    refine W.icmp_ne 387 383 at_380 rfl rfl (fun hc => absurd (if_neg ((own_x0 ⟨j, hj⟩).mp hc1039)) hc) (fun _ => ?_)
    refine W.iconst 384 at_383 rfl (1 : Int32) rfl ?_
    refine W.goto 388 at_384 rfl ?_
    exact W.ireturnN (t := .boolean) at_388 rfl (by simp) (1 : Int32) rfl rfl (by decide) (by decide)
  · intro hc1039
    refine W.iconst 361 at_360 rfl (1 : Int32) rfl ?_
    refine W.goto 365 at_361 rfl ?_
    refine W.istore 367 at_365 rfl #[.val (.int p0), .val (.int p1), .val (.ref b2), .val (.ref b3), .val (.int (0 : Int32)), .val (.int j.toInt32), .val (.int (1 : Int32))] rfl ?_
    refine W.aloadN 368 at_367 rfl rfl rfl ?_
    refine W.iload 370 at_368 rfl rfl ?_
    refine W.aaload 371 at_370 rfl A2.ary rfl 0 (by decide) (by decide) (.ref (e 0)) rfl ?_
    refine W.aloadN 372 at_371 rfl rfl rfl ?_
    refine W.iload 374 at_372 rfl rfl ?_
    refine W.aaload 375 at_374 rfl A2.ary rfl j (own_j32 j hj).1 (own_j32 j hj).2 (.ref (e j)) (own_el e j hj) ?_
    refine W.callV (rest := []) (argsL := [(.ref (e j))]) (a := (e 0)) 378 at_375 rfl (fun hn => c_wi0 l Z a0 hw e j _ n0 hn hj hDT.2.2.1 hDT.2.2.2 hDT.1.1) (hDT.2.1 0 (by decide)) (wd_48 hw) (wd_49 hw) (wd_51 hw) rfl (wd_50 hw) (wd_3 hw) (wd_52 hw) (by decide) pd_0 rfl rfl rfl (by decide) 0 (Nat.le_of_ble_eq_true rfl) (by decide) (by decide) (by decide) ?_
    rintro v1041 h1041 ⟨rfl, rfl⟩
    show W _ _ _ _ _ _ _ _ _ _ _ 2 40 378 #[.val (.int p0), .val (.int p1), .val (.ref b2), .val (.ref b3), .val (.int (0 : Int32)), .val (.int j.toInt32), .val (.int (1 : Int32))] [(.int (if j ∈ ([0, 0] : List Nat) then 1 else 0 : Int32))]
    refine W.iload 380 at_378 rfl rfl ?_
    refine W.icmp_ne 387 383 at_380 rfl rfl (fun hc => absurd (if_pos (Classical.byContradiction fun q => hc1039 ((own_x0 ⟨j, hj⟩).mpr q))) hc) (fun _ => ?_)
    refine W.iconst 384 at_383 rfl (1 : Int32) rfl ?_
    refine W.goto 388 at_384 rfl ?_
    exact W.ireturnN (t := .boolean) at_388 rfl (by simp) (1 : Int32) rfl rfl (by decide) (by decide)
set_option maxRecDepth 65536 in
set_option maxHeartbeats 40000000 in
theorem l348_1 (l : Launch) (Z : State) (a0 : Array Value) (hw : ∀ d ∈ tables_1, d.before a0 Z = true) (p0 p1 : Int32) (b2 b3 : Addr) (e : Nat → Addr) (j : Nat) (h : Heap) (n0 : Nat) (hj : j < 19) (hDT : own_DT Z h e) (A2 : AryO Z h b2 "com/example/pathweave/pathweave/model/Datatype" [(.ref (e 0)), (.ref (e 1)), (.ref (e 2)), (.ref (e 3)), (.ref (e 4)), (.ref (e 5)), (.ref (e 6)), (.ref (e 7)), (.ref (e 8)), (.ref (e 9)), (.ref (e 10)), (.ref (e 11)), (.ref (e 12)), (.ref (e 13)), (.ref (e 14)), (.ref (e 15)), (.ref (e 16)), (.ref (e 17)), (.ref (e 18))]) (A3 : Ary Z h b3 .int [(.int (1 : Int32)), (.int (3 : Int32)), (.int (5 : Int32)), (.int (9 : Int32)), (.int (25 : Int32)), (.int (57 : Int32)), (.int (121 : Int32)), (.int (249 : Int32)), (.int (259 : Int32)), (.int (771 : Int32)), (.int (1795 : Int32)), (.int (3843 : Int32)), (.int (7939 : Int32)), (.int (16131 : Int32)), (.int (16385 : Int32)), (.int (32769 : Int32)), (.int (65537 : Int32)), (.int (131073 : Int32)), (.int (393217 : Int32))]) : W l room_1 Z "com/example/pathweave/pathweave/model/DatatypeWithinPinLaw" "law" code maxLocals ret n0 (fun r _ => r = some (.int 1)) h 2 40 348 #[.val (.int p0), .val (.int p1), .val (.ref b2), .val (.ref b3), .val (.int (1 : Int32)), .val (.int j.toInt32), .unset] [] := by
  refine W.aloadN 349 at_348 rfl rfl rfl ?_
  refine W.iload 351 at_349 rfl rfl ?_
  refine W.iaload 352 at_351 rfl A3 1 (by decide) (by decide) (.int (3 : Int32)) rfl ?_
  refine W.iload 354 at_352 rfl rfl ?_
  refine W.iushr 355 at_354 rfl (((3 : Int32).toUInt32 >>> (j.toInt32 &&& 31).toUInt32).toInt32) rfl ?_
  refine W.iconst 356 at_355 rfl (1 : Int32) rfl ?_
  refine W.iand 357 at_356 rfl ((((3 : Int32).toUInt32 >>> (j.toInt32 &&& 31).toUInt32).toInt32) &&& (1 : Int32)) rfl ?_
  refine W.if_eq 364 360 at_357 rfl rfl ?_ ?_
  · intro hc1042
    refine W.iconst 365 at_364 rfl (0 : Int32) rfl ?_
    refine W.istore 367 at_365 rfl #[.val (.int p0), .val (.int p1), .val (.ref b2), .val (.ref b3), .val (.int (1 : Int32)), .val (.int j.toInt32), .val (.int (0 : Int32))] rfl ?_
    refine W.aloadN 368 at_367 rfl rfl rfl ?_
    refine W.iload 370 at_368 rfl rfl ?_
    refine W.aaload 371 at_370 rfl A2.ary rfl 1 (by decide) (by decide) (.ref (e 1)) rfl ?_
    refine W.aloadN 372 at_371 rfl rfl rfl ?_
    refine W.iload 374 at_372 rfl rfl ?_
    refine W.aaload 375 at_374 rfl A2.ary rfl j (own_j32 j hj).1 (own_j32 j hj).2 (.ref (e j)) (own_el e j hj) ?_
    refine W.callV (rest := []) (argsL := [(.ref (e j))]) (a := (e 1)) 378 at_375 rfl (fun hn => c_wi1 l Z a0 hw e j _ n0 hn hj hDT.2.2.1 hDT.2.2.2 hDT.1.1) (hDT.2.1 1 (by decide)) (wd_48 hw) (wd_49 hw) (wd_51 hw) rfl (wd_50 hw) (wd_3 hw) (wd_52 hw) (by decide) pd_0 rfl rfl rfl (by decide) 0 (Nat.le_of_ble_eq_true rfl) (by decide) (by decide) (by decide) ?_
    rintro v1043 h1043 ⟨rfl, rfl⟩
    show W _ _ _ _ _ _ _ _ _ _ _ 2 40 378 #[.val (.int p0), .val (.int p1), .val (.ref b2), .val (.ref b3), .val (.int (1 : Int32)), .val (.int j.toInt32), .val (.int (0 : Int32))] [(.int (if j ∈ ([0, 1] : List Nat) then 1 else 0 : Int32))]
    refine W.iload 380 at_378 rfl rfl ?_
    refine W.icmp_ne 387 383 at_380 rfl rfl (fun hc => absurd (if_neg ((own_x1 ⟨j, hj⟩).mp hc1042)) hc) (fun _ => ?_)
    refine W.iconst 384 at_383 rfl (1 : Int32) rfl ?_
    refine W.goto 388 at_384 rfl ?_
    exact W.ireturnN (t := .boolean) at_388 rfl (by simp) (1 : Int32) rfl rfl (by decide) (by decide)
  · intro hc1042
    refine W.iconst 361 at_360 rfl (1 : Int32) rfl ?_
    refine W.goto 365 at_361 rfl ?_
    refine W.istore 367 at_365 rfl #[.val (.int p0), .val (.int p1), .val (.ref b2), .val (.ref b3), .val (.int (1 : Int32)), .val (.int j.toInt32), .val (.int (1 : Int32))] rfl ?_
    refine W.aloadN 368 at_367 rfl rfl rfl ?_
    refine W.iload 370 at_368 rfl rfl ?_
    refine W.aaload 371 at_370 rfl A2.ary rfl 1 (by decide) (by decide) (.ref (e 1)) rfl ?_
    refine W.aloadN 372 at_371 rfl rfl rfl ?_
    refine W.iload 374 at_372 rfl rfl ?_
    refine W.aaload 375 at_374 rfl A2.ary rfl j (own_j32 j hj).1 (own_j32 j hj).2 (.ref (e j)) (own_el e j hj) ?_
    refine W.callV (rest := []) (argsL := [(.ref (e j))]) (a := (e 1)) 378 at_375 rfl (fun hn => c_wi1 l Z a0 hw e j _ n0 hn hj hDT.2.2.1 hDT.2.2.2 hDT.1.1) (hDT.2.1 1 (by decide)) (wd_48 hw) (wd_49 hw) (wd_51 hw) rfl (wd_50 hw) (wd_3 hw) (wd_52 hw) (by decide) pd_0 rfl rfl rfl (by decide) 0 (Nat.le_of_ble_eq_true rfl) (by decide) (by decide) (by decide) ?_
    rintro v1044 h1044 ⟨rfl, rfl⟩
    show W _ _ _ _ _ _ _ _ _ _ _ 2 40 378 #[.val (.int p0), .val (.int p1), .val (.ref b2), .val (.ref b3), .val (.int (1 : Int32)), .val (.int j.toInt32), .val (.int (1 : Int32))] [(.int (if j ∈ ([0, 1] : List Nat) then 1 else 0 : Int32))]
    refine W.iload 380 at_378 rfl rfl ?_
    refine W.icmp_ne 387 383 at_380 rfl rfl (fun hc => absurd (if_pos (Classical.byContradiction fun q => hc1042 ((own_x1 ⟨j, hj⟩).mpr q))) hc) (fun _ => ?_)
    refine W.iconst 384 at_383 rfl (1 : Int32) rfl ?_
    refine W.goto 388 at_384 rfl ?_
    exact W.ireturnN (t := .boolean) at_388 rfl (by simp) (1 : Int32) rfl rfl (by decide) (by decide)
set_option maxRecDepth 65536 in
set_option maxHeartbeats 40000000 in
theorem l348_2 (l : Launch) (Z : State) (a0 : Array Value) (hw : ∀ d ∈ tables_1, d.before a0 Z = true) (p0 p1 : Int32) (b2 b3 : Addr) (e : Nat → Addr) (j : Nat) (h : Heap) (n0 : Nat) (hj : j < 19) (hDT : own_DT Z h e) (A2 : AryO Z h b2 "com/example/pathweave/pathweave/model/Datatype" [(.ref (e 0)), (.ref (e 1)), (.ref (e 2)), (.ref (e 3)), (.ref (e 4)), (.ref (e 5)), (.ref (e 6)), (.ref (e 7)), (.ref (e 8)), (.ref (e 9)), (.ref (e 10)), (.ref (e 11)), (.ref (e 12)), (.ref (e 13)), (.ref (e 14)), (.ref (e 15)), (.ref (e 16)), (.ref (e 17)), (.ref (e 18))]) (A3 : Ary Z h b3 .int [(.int (1 : Int32)), (.int (3 : Int32)), (.int (5 : Int32)), (.int (9 : Int32)), (.int (25 : Int32)), (.int (57 : Int32)), (.int (121 : Int32)), (.int (249 : Int32)), (.int (259 : Int32)), (.int (771 : Int32)), (.int (1795 : Int32)), (.int (3843 : Int32)), (.int (7939 : Int32)), (.int (16131 : Int32)), (.int (16385 : Int32)), (.int (32769 : Int32)), (.int (65537 : Int32)), (.int (131073 : Int32)), (.int (393217 : Int32))]) : W l room_1 Z "com/example/pathweave/pathweave/model/DatatypeWithinPinLaw" "law" code maxLocals ret n0 (fun r _ => r = some (.int 1)) h 2 40 348 #[.val (.int p0), .val (.int p1), .val (.ref b2), .val (.ref b3), .val (.int (2 : Int32)), .val (.int j.toInt32), .unset] [] := by
  refine W.aloadN 349 at_348 rfl rfl rfl ?_
  refine W.iload 351 at_349 rfl rfl ?_
  refine W.iaload 352 at_351 rfl A3 2 (by decide) (by decide) (.int (5 : Int32)) rfl ?_
  refine W.iload 354 at_352 rfl rfl ?_
  refine W.iushr 355 at_354 rfl (((5 : Int32).toUInt32 >>> (j.toInt32 &&& 31).toUInt32).toInt32) rfl ?_
  refine W.iconst 356 at_355 rfl (1 : Int32) rfl ?_
  refine W.iand 357 at_356 rfl ((((5 : Int32).toUInt32 >>> (j.toInt32 &&& 31).toUInt32).toInt32) &&& (1 : Int32)) rfl ?_
  refine W.if_eq 364 360 at_357 rfl rfl ?_ ?_
  · intro hc1045
    refine W.iconst 365 at_364 rfl (0 : Int32) rfl ?_
    refine W.istore 367 at_365 rfl #[.val (.int p0), .val (.int p1), .val (.ref b2), .val (.ref b3), .val (.int (2 : Int32)), .val (.int j.toInt32), .val (.int (0 : Int32))] rfl ?_
    refine W.aloadN 368 at_367 rfl rfl rfl ?_
    refine W.iload 370 at_368 rfl rfl ?_
    refine W.aaload 371 at_370 rfl A2.ary rfl 2 (by decide) (by decide) (.ref (e 2)) rfl ?_
    refine W.aloadN 372 at_371 rfl rfl rfl ?_
    refine W.iload 374 at_372 rfl rfl ?_
    refine W.aaload 375 at_374 rfl A2.ary rfl j (own_j32 j hj).1 (own_j32 j hj).2 (.ref (e j)) (own_el e j hj) ?_
    refine W.callV (rest := []) (argsL := [(.ref (e j))]) (a := (e 2)) 378 at_375 rfl (fun hn => c_wi2 l Z a0 hw e j _ n0 hn hj hDT.2.2.1 hDT.2.2.2 hDT.1.1) (hDT.2.1 2 (by decide)) (wd_48 hw) (wd_49 hw) (wd_51 hw) rfl (wd_50 hw) (wd_3 hw) (wd_52 hw) (by decide) pd_0 rfl rfl rfl (by decide) 0 (Nat.le_of_ble_eq_true rfl) (by decide) (by decide) (by decide) ?_
    rintro v1046 h1046 ⟨rfl, rfl⟩
    show W _ _ _ _ _ _ _ _ _ _ _ 2 40 378 #[.val (.int p0), .val (.int p1), .val (.ref b2), .val (.ref b3), .val (.int (2 : Int32)), .val (.int j.toInt32), .val (.int (0 : Int32))] [(.int (if j ∈ ([0, 2] : List Nat) then 1 else 0 : Int32))]
    refine W.iload 380 at_378 rfl rfl ?_
    refine W.icmp_ne 387 383 at_380 rfl rfl (fun hc => absurd (if_neg ((own_x2 ⟨j, hj⟩).mp hc1045)) hc) (fun _ => ?_)
    refine W.iconst 384 at_383 rfl (1 : Int32) rfl ?_
    refine W.goto 388 at_384 rfl ?_
    exact W.ireturnN (t := .boolean) at_388 rfl (by simp) (1 : Int32) rfl rfl (by decide) (by decide)
  · intro hc1045
    refine W.iconst 361 at_360 rfl (1 : Int32) rfl ?_
    refine W.goto 365 at_361 rfl ?_
    refine W.istore 367 at_365 rfl #[.val (.int p0), .val (.int p1), .val (.ref b2), .val (.ref b3), .val (.int (2 : Int32)), .val (.int j.toInt32), .val (.int (1 : Int32))] rfl ?_
    refine W.aloadN 368 at_367 rfl rfl rfl ?_
    refine W.iload 370 at_368 rfl rfl ?_
    refine W.aaload 371 at_370 rfl A2.ary rfl 2 (by decide) (by decide) (.ref (e 2)) rfl ?_
    refine W.aloadN 372 at_371 rfl rfl rfl ?_
    refine W.iload 374 at_372 rfl rfl ?_
    refine W.aaload 375 at_374 rfl A2.ary rfl j (own_j32 j hj).1 (own_j32 j hj).2 (.ref (e j)) (own_el e j hj) ?_
    refine W.callV (rest := []) (argsL := [(.ref (e j))]) (a := (e 2)) 378 at_375 rfl (fun hn => c_wi2 l Z a0 hw e j _ n0 hn hj hDT.2.2.1 hDT.2.2.2 hDT.1.1) (hDT.2.1 2 (by decide)) (wd_48 hw) (wd_49 hw) (wd_51 hw) rfl (wd_50 hw) (wd_3 hw) (wd_52 hw) (by decide) pd_0 rfl rfl rfl (by decide) 0 (Nat.le_of_ble_eq_true rfl) (by decide) (by decide) (by decide) ?_
    rintro v1047 h1047 ⟨rfl, rfl⟩
    show W _ _ _ _ _ _ _ _ _ _ _ 2 40 378 #[.val (.int p0), .val (.int p1), .val (.ref b2), .val (.ref b3), .val (.int (2 : Int32)), .val (.int j.toInt32), .val (.int (1 : Int32))] [(.int (if j ∈ ([0, 2] : List Nat) then 1 else 0 : Int32))]
    refine W.iload 380 at_378 rfl rfl ?_
    refine W.icmp_ne 387 383 at_380 rfl rfl (fun hc => absurd (if_pos (Classical.byContradiction fun q => hc1045 ((own_x2 ⟨j, hj⟩).mpr q))) hc) (fun _ => ?_)
    refine W.iconst 384 at_383 rfl (1 : Int32) rfl ?_
    refine W.goto 388 at_384 rfl ?_
    exact W.ireturnN (t := .boolean) at_388 rfl (by simp) (1 : Int32) rfl rfl (by decide) (by decide)
set_option maxRecDepth 65536 in
set_option maxHeartbeats 40000000 in
theorem l348_3 (l : Launch) (Z : State) (a0 : Array Value) (hw : ∀ d ∈ tables_1, d.before a0 Z = true) (p0 p1 : Int32) (b2 b3 : Addr) (e : Nat → Addr) (j : Nat) (h : Heap) (n0 : Nat) (hj : j < 19) (hDT : own_DT Z h e) (A2 : AryO Z h b2 "com/example/pathweave/pathweave/model/Datatype" [(.ref (e 0)), (.ref (e 1)), (.ref (e 2)), (.ref (e 3)), (.ref (e 4)), (.ref (e 5)), (.ref (e 6)), (.ref (e 7)), (.ref (e 8)), (.ref (e 9)), (.ref (e 10)), (.ref (e 11)), (.ref (e 12)), (.ref (e 13)), (.ref (e 14)), (.ref (e 15)), (.ref (e 16)), (.ref (e 17)), (.ref (e 18))]) (A3 : Ary Z h b3 .int [(.int (1 : Int32)), (.int (3 : Int32)), (.int (5 : Int32)), (.int (9 : Int32)), (.int (25 : Int32)), (.int (57 : Int32)), (.int (121 : Int32)), (.int (249 : Int32)), (.int (259 : Int32)), (.int (771 : Int32)), (.int (1795 : Int32)), (.int (3843 : Int32)), (.int (7939 : Int32)), (.int (16131 : Int32)), (.int (16385 : Int32)), (.int (32769 : Int32)), (.int (65537 : Int32)), (.int (131073 : Int32)), (.int (393217 : Int32))]) : W l room_1 Z "com/example/pathweave/pathweave/model/DatatypeWithinPinLaw" "law" code maxLocals ret n0 (fun r _ => r = some (.int 1)) h 2 40 348 #[.val (.int p0), .val (.int p1), .val (.ref b2), .val (.ref b3), .val (.int (3 : Int32)), .val (.int j.toInt32), .unset] [] := by
  refine W.aloadN 349 at_348 rfl rfl rfl ?_
  refine W.iload 351 at_349 rfl rfl ?_
  refine W.iaload 352 at_351 rfl A3 3 (by decide) (by decide) (.int (9 : Int32)) rfl ?_
  refine W.iload 354 at_352 rfl rfl ?_
  refine W.iushr 355 at_354 rfl (((9 : Int32).toUInt32 >>> (j.toInt32 &&& 31).toUInt32).toInt32) rfl ?_
  refine W.iconst 356 at_355 rfl (1 : Int32) rfl ?_
  refine W.iand 357 at_356 rfl ((((9 : Int32).toUInt32 >>> (j.toInt32 &&& 31).toUInt32).toInt32) &&& (1 : Int32)) rfl ?_
  refine W.if_eq 364 360 at_357 rfl rfl ?_ ?_
  · intro hc1048
    refine W.iconst 365 at_364 rfl (0 : Int32) rfl ?_
    refine W.istore 367 at_365 rfl #[.val (.int p0), .val (.int p1), .val (.ref b2), .val (.ref b3), .val (.int (3 : Int32)), .val (.int j.toInt32), .val (.int (0 : Int32))] rfl ?_
    refine W.aloadN 368 at_367 rfl rfl rfl ?_
    refine W.iload 370 at_368 rfl rfl ?_
    refine W.aaload 371 at_370 rfl A2.ary rfl 3 (by decide) (by decide) (.ref (e 3)) rfl ?_
    refine W.aloadN 372 at_371 rfl rfl rfl ?_
    refine W.iload 374 at_372 rfl rfl ?_
    refine W.aaload 375 at_374 rfl A2.ary rfl j (own_j32 j hj).1 (own_j32 j hj).2 (.ref (e j)) (own_el e j hj) ?_
    refine W.callV (rest := []) (argsL := [(.ref (e j))]) (a := (e 3)) 378 at_375 rfl (fun hn => c_wi3 l Z a0 hw e j _ n0 hn hj hDT.2.2.1 hDT.2.2.2 hDT.1.1) (hDT.2.1 3 (by decide)) (wd_48 hw) (wd_49 hw) (wd_51 hw) rfl (wd_50 hw) (wd_3 hw) (wd_52 hw) (by decide) pd_0 rfl rfl rfl (by decide) 0 (Nat.le_of_ble_eq_true rfl) (by decide) (by decide) (by decide) ?_
    rintro v1049 h1049 ⟨rfl, rfl⟩
    show W _ _ _ _ _ _ _ _ _ _ _ 2 40 378 #[.val (.int p0), .val (.int p1), .val (.ref b2), .val (.ref b3), .val (.int (3 : Int32)), .val (.int j.toInt32), .val (.int (0 : Int32))] [(.int (if j ∈ ([0, 3] : List Nat) then 1 else 0 : Int32))]
    refine W.iload 380 at_378 rfl rfl ?_
    refine W.icmp_ne 387 383 at_380 rfl rfl (fun hc => absurd (if_neg ((own_x3 ⟨j, hj⟩).mp hc1048)) hc) (fun _ => ?_)
    refine W.iconst 384 at_383 rfl (1 : Int32) rfl ?_
    refine W.goto 388 at_384 rfl ?_
    exact W.ireturnN (t := .boolean) at_388 rfl (by simp) (1 : Int32) rfl rfl (by decide) (by decide)
  · intro hc1048
    refine W.iconst 361 at_360 rfl (1 : Int32) rfl ?_
    refine W.goto 365 at_361 rfl ?_
    refine W.istore 367 at_365 rfl #[.val (.int p0), .val (.int p1), .val (.ref b2), .val (.ref b3), .val (.int (3 : Int32)), .val (.int j.toInt32), .val (.int (1 : Int32))] rfl ?_
    refine W.aloadN 368 at_367 rfl rfl rfl ?_
    refine W.iload 370 at_368 rfl rfl ?_
    refine W.aaload 371 at_370 rfl A2.ary rfl 3 (by decide) (by decide) (.ref (e 3)) rfl ?_
    refine W.aloadN 372 at_371 rfl rfl rfl ?_
    refine W.iload 374 at_372 rfl rfl ?_
    refine W.aaload 375 at_374 rfl A2.ary rfl j (own_j32 j hj).1 (own_j32 j hj).2 (.ref (e j)) (own_el e j hj) ?_
    refine W.callV (rest := []) (argsL := [(.ref (e j))]) (a := (e 3)) 378 at_375 rfl (fun hn => c_wi3 l Z a0 hw e j _ n0 hn hj hDT.2.2.1 hDT.2.2.2 hDT.1.1) (hDT.2.1 3 (by decide)) (wd_48 hw) (wd_49 hw) (wd_51 hw) rfl (wd_50 hw) (wd_3 hw) (wd_52 hw) (by decide) pd_0 rfl rfl rfl (by decide) 0 (Nat.le_of_ble_eq_true rfl) (by decide) (by decide) (by decide) ?_
    rintro v1050 h1050 ⟨rfl, rfl⟩
    show W _ _ _ _ _ _ _ _ _ _ _ 2 40 378 #[.val (.int p0), .val (.int p1), .val (.ref b2), .val (.ref b3), .val (.int (3 : Int32)), .val (.int j.toInt32), .val (.int (1 : Int32))] [(.int (if j ∈ ([0, 3] : List Nat) then 1 else 0 : Int32))]
    refine W.iload 380 at_378 rfl rfl ?_
    refine W.icmp_ne 387 383 at_380 rfl rfl (fun hc => absurd (if_pos (Classical.byContradiction fun q => hc1048 ((own_x3 ⟨j, hj⟩).mpr q))) hc) (fun _ => ?_)
    refine W.iconst 384 at_383 rfl (1 : Int32) rfl ?_
    refine W.goto 388 at_384 rfl ?_
    exact W.ireturnN (t := .boolean) at_388 rfl (by simp) (1 : Int32) rfl rfl (by decide) (by decide)
set_option maxRecDepth 65536 in
set_option maxHeartbeats 40000000 in
theorem l348_4 (l : Launch) (Z : State) (a0 : Array Value) (hw : ∀ d ∈ tables_1, d.before a0 Z = true) (p0 p1 : Int32) (b2 b3 : Addr) (e : Nat → Addr) (j : Nat) (h : Heap) (n0 : Nat) (hj : j < 19) (hDT : own_DT Z h e) (A2 : AryO Z h b2 "com/example/pathweave/pathweave/model/Datatype" [(.ref (e 0)), (.ref (e 1)), (.ref (e 2)), (.ref (e 3)), (.ref (e 4)), (.ref (e 5)), (.ref (e 6)), (.ref (e 7)), (.ref (e 8)), (.ref (e 9)), (.ref (e 10)), (.ref (e 11)), (.ref (e 12)), (.ref (e 13)), (.ref (e 14)), (.ref (e 15)), (.ref (e 16)), (.ref (e 17)), (.ref (e 18))]) (A3 : Ary Z h b3 .int [(.int (1 : Int32)), (.int (3 : Int32)), (.int (5 : Int32)), (.int (9 : Int32)), (.int (25 : Int32)), (.int (57 : Int32)), (.int (121 : Int32)), (.int (249 : Int32)), (.int (259 : Int32)), (.int (771 : Int32)), (.int (1795 : Int32)), (.int (3843 : Int32)), (.int (7939 : Int32)), (.int (16131 : Int32)), (.int (16385 : Int32)), (.int (32769 : Int32)), (.int (65537 : Int32)), (.int (131073 : Int32)), (.int (393217 : Int32))]) : W l room_1 Z "com/example/pathweave/pathweave/model/DatatypeWithinPinLaw" "law" code maxLocals ret n0 (fun r _ => r = some (.int 1)) h 2 40 348 #[.val (.int p0), .val (.int p1), .val (.ref b2), .val (.ref b3), .val (.int (4 : Int32)), .val (.int j.toInt32), .unset] [] := by
  refine W.aloadN 349 at_348 rfl rfl rfl ?_
  refine W.iload 351 at_349 rfl rfl ?_
  refine W.iaload 352 at_351 rfl A3 4 (by decide) (by decide) (.int (25 : Int32)) rfl ?_
  refine W.iload 354 at_352 rfl rfl ?_
  refine W.iushr 355 at_354 rfl (((25 : Int32).toUInt32 >>> (j.toInt32 &&& 31).toUInt32).toInt32) rfl ?_
  refine W.iconst 356 at_355 rfl (1 : Int32) rfl ?_
  refine W.iand 357 at_356 rfl ((((25 : Int32).toUInt32 >>> (j.toInt32 &&& 31).toUInt32).toInt32) &&& (1 : Int32)) rfl ?_
  refine W.if_eq 364 360 at_357 rfl rfl ?_ ?_
  · intro hc1051
    refine W.iconst 365 at_364 rfl (0 : Int32) rfl ?_
    refine W.istore 367 at_365 rfl #[.val (.int p0), .val (.int p1), .val (.ref b2), .val (.ref b3), .val (.int (4 : Int32)), .val (.int j.toInt32), .val (.int (0 : Int32))] rfl ?_
    refine W.aloadN 368 at_367 rfl rfl rfl ?_
    refine W.iload 370 at_368 rfl rfl ?_
    refine W.aaload 371 at_370 rfl A2.ary rfl 4 (by decide) (by decide) (.ref (e 4)) rfl ?_
    refine W.aloadN 372 at_371 rfl rfl rfl ?_
    refine W.iload 374 at_372 rfl rfl ?_
    refine W.aaload 375 at_374 rfl A2.ary rfl j (own_j32 j hj).1 (own_j32 j hj).2 (.ref (e j)) (own_el e j hj) ?_
    refine W.callV (rest := []) (argsL := [(.ref (e j))]) (a := (e 4)) 378 at_375 rfl (fun hn => c_wi4 l Z a0 hw e j _ n0 hn hj hDT.2.2.1 hDT.2.2.2 hDT.1.1) (hDT.2.1 4 (by decide)) (wd_48 hw) (wd_49 hw) (wd_51 hw) rfl (wd_50 hw) (wd_3 hw) (wd_52 hw) (by decide) pd_0 rfl rfl rfl (by decide) 0 (Nat.le_of_ble_eq_true rfl) (by decide) (by decide) (by decide) ?_
    rintro v1052 h1052 ⟨rfl, rfl⟩
    show W _ _ _ _ _ _ _ _ _ _ _ 2 40 378 #[.val (.int p0), .val (.int p1), .val (.ref b2), .val (.ref b3), .val (.int (4 : Int32)), .val (.int j.toInt32), .val (.int (0 : Int32))] [(.int (if j ∈ ([0, 4, 3] : List Nat) then 1 else 0 : Int32))]
    refine W.iload 380 at_378 rfl rfl ?_
    refine W.icmp_ne 387 383 at_380 rfl rfl (fun hc => absurd (if_neg ((own_x4 ⟨j, hj⟩).mp hc1051)) hc) (fun _ => ?_)
    refine W.iconst 384 at_383 rfl (1 : Int32) rfl ?_
    refine W.goto 388 at_384 rfl ?_
    exact W.ireturnN (t := .boolean) at_388 rfl (by simp) (1 : Int32) rfl rfl (by decide) (by decide)
  · intro hc1051
    refine W.iconst 361 at_360 rfl (1 : Int32) rfl ?_
    refine W.goto 365 at_361 rfl ?_
    refine W.istore 367 at_365 rfl #[.val (.int p0), .val (.int p1), .val (.ref b2), .val (.ref b3), .val (.int (4 : Int32)), .val (.int j.toInt32), .val (.int (1 : Int32))] rfl ?_
    refine W.aloadN 368 at_367 rfl rfl rfl ?_
    refine W.iload 370 at_368 rfl rfl ?_
    refine W.aaload 371 at_370 rfl A2.ary rfl 4 (by decide) (by decide) (.ref (e 4)) rfl ?_
    refine W.aloadN 372 at_371 rfl rfl rfl ?_
    refine W.iload 374 at_372 rfl rfl ?_
    refine W.aaload 375 at_374 rfl A2.ary rfl j (own_j32 j hj).1 (own_j32 j hj).2 (.ref (e j)) (own_el e j hj) ?_
    refine W.callV (rest := []) (argsL := [(.ref (e j))]) (a := (e 4)) 378 at_375 rfl (fun hn => c_wi4 l Z a0 hw e j _ n0 hn hj hDT.2.2.1 hDT.2.2.2 hDT.1.1) (hDT.2.1 4 (by decide)) (wd_48 hw) (wd_49 hw) (wd_51 hw) rfl (wd_50 hw) (wd_3 hw) (wd_52 hw) (by decide) pd_0 rfl rfl rfl (by decide) 0 (Nat.le_of_ble_eq_true rfl) (by decide) (by decide) (by decide) ?_
    rintro v1053 h1053 ⟨rfl, rfl⟩
    show W _ _ _ _ _ _ _ _ _ _ _ 2 40 378 #[.val (.int p0), .val (.int p1), .val (.ref b2), .val (.ref b3), .val (.int (4 : Int32)), .val (.int j.toInt32), .val (.int (1 : Int32))] [(.int (if j ∈ ([0, 4, 3] : List Nat) then 1 else 0 : Int32))]
    refine W.iload 380 at_378 rfl rfl ?_
    refine W.icmp_ne 387 383 at_380 rfl rfl (fun hc => absurd (if_pos (Classical.byContradiction fun q => hc1051 ((own_x4 ⟨j, hj⟩).mpr q))) hc) (fun _ => ?_)
    refine W.iconst 384 at_383 rfl (1 : Int32) rfl ?_
    refine W.goto 388 at_384 rfl ?_
    exact W.ireturnN (t := .boolean) at_388 rfl (by simp) (1 : Int32) rfl rfl (by decide) (by decide)
set_option maxRecDepth 65536 in
set_option maxHeartbeats 40000000 in
theorem l348_5 (l : Launch) (Z : State) (a0 : Array Value) (hw : ∀ d ∈ tables_1, d.before a0 Z = true) (p0 p1 : Int32) (b2 b3 : Addr) (e : Nat → Addr) (j : Nat) (h : Heap) (n0 : Nat) (hj : j < 19) (hDT : own_DT Z h e) (A2 : AryO Z h b2 "com/example/pathweave/pathweave/model/Datatype" [(.ref (e 0)), (.ref (e 1)), (.ref (e 2)), (.ref (e 3)), (.ref (e 4)), (.ref (e 5)), (.ref (e 6)), (.ref (e 7)), (.ref (e 8)), (.ref (e 9)), (.ref (e 10)), (.ref (e 11)), (.ref (e 12)), (.ref (e 13)), (.ref (e 14)), (.ref (e 15)), (.ref (e 16)), (.ref (e 17)), (.ref (e 18))]) (A3 : Ary Z h b3 .int [(.int (1 : Int32)), (.int (3 : Int32)), (.int (5 : Int32)), (.int (9 : Int32)), (.int (25 : Int32)), (.int (57 : Int32)), (.int (121 : Int32)), (.int (249 : Int32)), (.int (259 : Int32)), (.int (771 : Int32)), (.int (1795 : Int32)), (.int (3843 : Int32)), (.int (7939 : Int32)), (.int (16131 : Int32)), (.int (16385 : Int32)), (.int (32769 : Int32)), (.int (65537 : Int32)), (.int (131073 : Int32)), (.int (393217 : Int32))]) : W l room_1 Z "com/example/pathweave/pathweave/model/DatatypeWithinPinLaw" "law" code maxLocals ret n0 (fun r _ => r = some (.int 1)) h 2 40 348 #[.val (.int p0), .val (.int p1), .val (.ref b2), .val (.ref b3), .val (.int (5 : Int32)), .val (.int j.toInt32), .unset] [] := by
  refine W.aloadN 349 at_348 rfl rfl rfl ?_
  refine W.iload 351 at_349 rfl rfl ?_
  refine W.iaload 352 at_351 rfl A3 5 (by decide) (by decide) (.int (57 : Int32)) rfl ?_
  refine W.iload 354 at_352 rfl rfl ?_
  refine W.iushr 355 at_354 rfl (((57 : Int32).toUInt32 >>> (j.toInt32 &&& 31).toUInt32).toInt32) rfl ?_
  refine W.iconst 356 at_355 rfl (1 : Int32) rfl ?_
  refine W.iand 357 at_356 rfl ((((57 : Int32).toUInt32 >>> (j.toInt32 &&& 31).toUInt32).toInt32) &&& (1 : Int32)) rfl ?_
  refine W.if_eq 364 360 at_357 rfl rfl ?_ ?_
  · intro hc1054
    refine W.iconst 365 at_364 rfl (0 : Int32) rfl ?_
    refine W.istore 367 at_365 rfl #[.val (.int p0), .val (.int p1), .val (.ref b2), .val (.ref b3), .val (.int (5 : Int32)), .val (.int j.toInt32), .val (.int (0 : Int32))] rfl ?_
    refine W.aloadN 368 at_367 rfl rfl rfl ?_
    refine W.iload 370 at_368 rfl rfl ?_
    refine W.aaload 371 at_370 rfl A2.ary rfl 5 (by decide) (by decide) (.ref (e 5)) rfl ?_
    refine W.aloadN 372 at_371 rfl rfl rfl ?_
    refine W.iload 374 at_372 rfl rfl ?_
    refine W.aaload 375 at_374 rfl A2.ary rfl j (own_j32 j hj).1 (own_j32 j hj).2 (.ref (e j)) (own_el e j hj) ?_
    refine W.callV (rest := []) (argsL := [(.ref (e j))]) (a := (e 5)) 378 at_375 rfl (fun hn => c_wi5 l Z a0 hw e j _ n0 hn hj hDT.2.2.1 hDT.2.2.2 hDT.1.1) (hDT.2.1 5 (by decide)) (wd_48 hw) (wd_49 hw) (wd_51 hw) rfl (wd_50 hw) (wd_3 hw) (wd_52 hw) (by decide) pd_0 rfl rfl rfl (by decide) 0 (Nat.le_of_ble_eq_true rfl) (by decide) (by decide) (by decide) ?_
    rintro v1055 h1055 ⟨rfl, rfl⟩
    show W _ _ _ _ _ _ _ _ _ _ _ 2 40 378 #[.val (.int p0), .val (.int p1), .val (.ref b2), .val (.ref b3), .val (.int (5 : Int32)), .val (.int j.toInt32), .val (.int (0 : Int32))] [(.int (if j ∈ ([0, 5, 4, 3] : List Nat) then 1 else 0 : Int32))]
    refine W.iload 380 at_378 rfl rfl ?_
    refine W.icmp_ne 387 383 at_380 rfl rfl (fun hc => absurd (if_neg ((own_x5 ⟨j, hj⟩).mp hc1054)) hc) (fun _ => ?_)
    refine W.iconst 384 at_383 rfl (1 : Int32) rfl ?_
    refine W.goto 388 at_384 rfl ?_
    exact W.ireturnN (t := .boolean) at_388 rfl (by simp) (1 : Int32) rfl rfl (by decide) (by decide)
  · intro hc1054
    refine W.iconst 361 at_360 rfl (1 : Int32) rfl ?_
    refine W.goto 365 at_361 rfl ?_
    refine W.istore 367 at_365 rfl #[.val (.int p0), .val (.int p1), .val (.ref b2), .val (.ref b3), .val (.int (5 : Int32)), .val (.int j.toInt32), .val (.int (1 : Int32))] rfl ?_
    refine W.aloadN 368 at_367 rfl rfl rfl ?_
    refine W.iload 370 at_368 rfl rfl ?_
    refine W.aaload 371 at_370 rfl A2.ary rfl 5 (by decide) (by decide) (.ref (e 5)) rfl ?_
    refine W.aloadN 372 at_371 rfl rfl rfl ?_
    refine W.iload 374 at_372 rfl rfl ?_
    refine W.aaload 375 at_374 rfl A2.ary rfl j (own_j32 j hj).1 (own_j32 j hj).2 (.ref (e j)) (own_el e j hj) ?_
    refine W.callV (rest := []) (argsL := [(.ref (e j))]) (a := (e 5)) 378 at_375 rfl (fun hn => c_wi5 l Z a0 hw e j _ n0 hn hj hDT.2.2.1 hDT.2.2.2 hDT.1.1) (hDT.2.1 5 (by decide)) (wd_48 hw) (wd_49 hw) (wd_51 hw) rfl (wd_50 hw) (wd_3 hw) (wd_52 hw) (by decide) pd_0 rfl rfl rfl (by decide) 0 (Nat.le_of_ble_eq_true rfl) (by decide) (by decide) (by decide) ?_
    rintro v1056 h1056 ⟨rfl, rfl⟩
    show W _ _ _ _ _ _ _ _ _ _ _ 2 40 378 #[.val (.int p0), .val (.int p1), .val (.ref b2), .val (.ref b3), .val (.int (5 : Int32)), .val (.int j.toInt32), .val (.int (1 : Int32))] [(.int (if j ∈ ([0, 5, 4, 3] : List Nat) then 1 else 0 : Int32))]
    refine W.iload 380 at_378 rfl rfl ?_
    refine W.icmp_ne 387 383 at_380 rfl rfl (fun hc => absurd (if_pos (Classical.byContradiction fun q => hc1054 ((own_x5 ⟨j, hj⟩).mpr q))) hc) (fun _ => ?_)
    refine W.iconst 384 at_383 rfl (1 : Int32) rfl ?_
    refine W.goto 388 at_384 rfl ?_
    exact W.ireturnN (t := .boolean) at_388 rfl (by simp) (1 : Int32) rfl rfl (by decide) (by decide)
set_option maxRecDepth 65536 in
set_option maxHeartbeats 40000000 in
theorem l348_6 (l : Launch) (Z : State) (a0 : Array Value) (hw : ∀ d ∈ tables_1, d.before a0 Z = true) (p0 p1 : Int32) (b2 b3 : Addr) (e : Nat → Addr) (j : Nat) (h : Heap) (n0 : Nat) (hj : j < 19) (hDT : own_DT Z h e) (A2 : AryO Z h b2 "com/example/pathweave/pathweave/model/Datatype" [(.ref (e 0)), (.ref (e 1)), (.ref (e 2)), (.ref (e 3)), (.ref (e 4)), (.ref (e 5)), (.ref (e 6)), (.ref (e 7)), (.ref (e 8)), (.ref (e 9)), (.ref (e 10)), (.ref (e 11)), (.ref (e 12)), (.ref (e 13)), (.ref (e 14)), (.ref (e 15)), (.ref (e 16)), (.ref (e 17)), (.ref (e 18))]) (A3 : Ary Z h b3 .int [(.int (1 : Int32)), (.int (3 : Int32)), (.int (5 : Int32)), (.int (9 : Int32)), (.int (25 : Int32)), (.int (57 : Int32)), (.int (121 : Int32)), (.int (249 : Int32)), (.int (259 : Int32)), (.int (771 : Int32)), (.int (1795 : Int32)), (.int (3843 : Int32)), (.int (7939 : Int32)), (.int (16131 : Int32)), (.int (16385 : Int32)), (.int (32769 : Int32)), (.int (65537 : Int32)), (.int (131073 : Int32)), (.int (393217 : Int32))]) : W l room_1 Z "com/example/pathweave/pathweave/model/DatatypeWithinPinLaw" "law" code maxLocals ret n0 (fun r _ => r = some (.int 1)) h 2 40 348 #[.val (.int p0), .val (.int p1), .val (.ref b2), .val (.ref b3), .val (.int (6 : Int32)), .val (.int j.toInt32), .unset] [] := by
  refine W.aloadN 349 at_348 rfl rfl rfl ?_
  refine W.iload 351 at_349 rfl rfl ?_
  refine W.iaload 352 at_351 rfl A3 6 (by decide) (by decide) (.int (121 : Int32)) rfl ?_
  refine W.iload 354 at_352 rfl rfl ?_
  refine W.iushr 355 at_354 rfl (((121 : Int32).toUInt32 >>> (j.toInt32 &&& 31).toUInt32).toInt32) rfl ?_
  refine W.iconst 356 at_355 rfl (1 : Int32) rfl ?_
  refine W.iand 357 at_356 rfl ((((121 : Int32).toUInt32 >>> (j.toInt32 &&& 31).toUInt32).toInt32) &&& (1 : Int32)) rfl ?_
  refine W.if_eq 364 360 at_357 rfl rfl ?_ ?_
  · intro hc1057
    refine W.iconst 365 at_364 rfl (0 : Int32) rfl ?_
    refine W.istore 367 at_365 rfl #[.val (.int p0), .val (.int p1), .val (.ref b2), .val (.ref b3), .val (.int (6 : Int32)), .val (.int j.toInt32), .val (.int (0 : Int32))] rfl ?_
    refine W.aloadN 368 at_367 rfl rfl rfl ?_
    refine W.iload 370 at_368 rfl rfl ?_
    refine W.aaload 371 at_370 rfl A2.ary rfl 6 (by decide) (by decide) (.ref (e 6)) rfl ?_
    refine W.aloadN 372 at_371 rfl rfl rfl ?_
    refine W.iload 374 at_372 rfl rfl ?_
    refine W.aaload 375 at_374 rfl A2.ary rfl j (own_j32 j hj).1 (own_j32 j hj).2 (.ref (e j)) (own_el e j hj) ?_
    refine W.callV (rest := []) (argsL := [(.ref (e j))]) (a := (e 6)) 378 at_375 rfl (fun hn => c_wi6 l Z a0 hw e j _ n0 hn hj hDT.2.2.1 hDT.2.2.2 hDT.1.1) (hDT.2.1 6 (by decide)) (wd_48 hw) (wd_49 hw) (wd_51 hw) rfl (wd_50 hw) (wd_3 hw) (wd_52 hw) (by decide) pd_0 rfl rfl rfl (by decide) 0 (Nat.le_of_ble_eq_true rfl) (by decide) (by decide) (by decide) ?_
    rintro v1058 h1058 ⟨rfl, rfl⟩
    show W _ _ _ _ _ _ _ _ _ _ _ 2 40 378 #[.val (.int p0), .val (.int p1), .val (.ref b2), .val (.ref b3), .val (.int (6 : Int32)), .val (.int j.toInt32), .val (.int (0 : Int32))] [(.int (if j ∈ ([0, 6, 5, 4, 3] : List Nat) then 1 else 0 : Int32))]
    refine W.iload 380 at_378 rfl rfl ?_
    refine W.icmp_ne 387 383 at_380 rfl rfl (fun hc => absurd (if_neg ((own_x6 ⟨j, hj⟩).mp hc1057)) hc) (fun _ => ?_)
    refine W.iconst 384 at_383 rfl (1 : Int32) rfl ?_
    refine W.goto 388 at_384 rfl ?_
    exact W.ireturnN (t := .boolean) at_388 rfl (by simp) (1 : Int32) rfl rfl (by decide) (by decide)
  · intro hc1057
    refine W.iconst 361 at_360 rfl (1 : Int32) rfl ?_
    refine W.goto 365 at_361 rfl ?_
    refine W.istore 367 at_365 rfl #[.val (.int p0), .val (.int p1), .val (.ref b2), .val (.ref b3), .val (.int (6 : Int32)), .val (.int j.toInt32), .val (.int (1 : Int32))] rfl ?_
    refine W.aloadN 368 at_367 rfl rfl rfl ?_
    refine W.iload 370 at_368 rfl rfl ?_
    refine W.aaload 371 at_370 rfl A2.ary rfl 6 (by decide) (by decide) (.ref (e 6)) rfl ?_
    refine W.aloadN 372 at_371 rfl rfl rfl ?_
    refine W.iload 374 at_372 rfl rfl ?_
    refine W.aaload 375 at_374 rfl A2.ary rfl j (own_j32 j hj).1 (own_j32 j hj).2 (.ref (e j)) (own_el e j hj) ?_
    refine W.callV (rest := []) (argsL := [(.ref (e j))]) (a := (e 6)) 378 at_375 rfl (fun hn => c_wi6 l Z a0 hw e j _ n0 hn hj hDT.2.2.1 hDT.2.2.2 hDT.1.1) (hDT.2.1 6 (by decide)) (wd_48 hw) (wd_49 hw) (wd_51 hw) rfl (wd_50 hw) (wd_3 hw) (wd_52 hw) (by decide) pd_0 rfl rfl rfl (by decide) 0 (Nat.le_of_ble_eq_true rfl) (by decide) (by decide) (by decide) ?_
    rintro v1059 h1059 ⟨rfl, rfl⟩
    show W _ _ _ _ _ _ _ _ _ _ _ 2 40 378 #[.val (.int p0), .val (.int p1), .val (.ref b2), .val (.ref b3), .val (.int (6 : Int32)), .val (.int j.toInt32), .val (.int (1 : Int32))] [(.int (if j ∈ ([0, 6, 5, 4, 3] : List Nat) then 1 else 0 : Int32))]
    refine W.iload 380 at_378 rfl rfl ?_
    refine W.icmp_ne 387 383 at_380 rfl rfl (fun hc => absurd (if_pos (Classical.byContradiction fun q => hc1057 ((own_x6 ⟨j, hj⟩).mpr q))) hc) (fun _ => ?_)
    refine W.iconst 384 at_383 rfl (1 : Int32) rfl ?_
    refine W.goto 388 at_384 rfl ?_
    exact W.ireturnN (t := .boolean) at_388 rfl (by simp) (1 : Int32) rfl rfl (by decide) (by decide)
set_option maxRecDepth 65536 in
set_option maxHeartbeats 40000000 in
theorem l348_7 (l : Launch) (Z : State) (a0 : Array Value) (hw : ∀ d ∈ tables_1, d.before a0 Z = true) (p0 p1 : Int32) (b2 b3 : Addr) (e : Nat → Addr) (j : Nat) (h : Heap) (n0 : Nat) (hj : j < 19) (hDT : own_DT Z h e) (A2 : AryO Z h b2 "com/example/pathweave/pathweave/model/Datatype" [(.ref (e 0)), (.ref (e 1)), (.ref (e 2)), (.ref (e 3)), (.ref (e 4)), (.ref (e 5)), (.ref (e 6)), (.ref (e 7)), (.ref (e 8)), (.ref (e 9)), (.ref (e 10)), (.ref (e 11)), (.ref (e 12)), (.ref (e 13)), (.ref (e 14)), (.ref (e 15)), (.ref (e 16)), (.ref (e 17)), (.ref (e 18))]) (A3 : Ary Z h b3 .int [(.int (1 : Int32)), (.int (3 : Int32)), (.int (5 : Int32)), (.int (9 : Int32)), (.int (25 : Int32)), (.int (57 : Int32)), (.int (121 : Int32)), (.int (249 : Int32)), (.int (259 : Int32)), (.int (771 : Int32)), (.int (1795 : Int32)), (.int (3843 : Int32)), (.int (7939 : Int32)), (.int (16131 : Int32)), (.int (16385 : Int32)), (.int (32769 : Int32)), (.int (65537 : Int32)), (.int (131073 : Int32)), (.int (393217 : Int32))]) : W l room_1 Z "com/example/pathweave/pathweave/model/DatatypeWithinPinLaw" "law" code maxLocals ret n0 (fun r _ => r = some (.int 1)) h 2 40 348 #[.val (.int p0), .val (.int p1), .val (.ref b2), .val (.ref b3), .val (.int (7 : Int32)), .val (.int j.toInt32), .unset] [] := by
  refine W.aloadN 349 at_348 rfl rfl rfl ?_
  refine W.iload 351 at_349 rfl rfl ?_
  refine W.iaload 352 at_351 rfl A3 7 (by decide) (by decide) (.int (249 : Int32)) rfl ?_
  refine W.iload 354 at_352 rfl rfl ?_
  refine W.iushr 355 at_354 rfl (((249 : Int32).toUInt32 >>> (j.toInt32 &&& 31).toUInt32).toInt32) rfl ?_
  refine W.iconst 356 at_355 rfl (1 : Int32) rfl ?_
  refine W.iand 357 at_356 rfl ((((249 : Int32).toUInt32 >>> (j.toInt32 &&& 31).toUInt32).toInt32) &&& (1 : Int32)) rfl ?_
  refine W.if_eq 364 360 at_357 rfl rfl ?_ ?_
  · intro hc1060
    refine W.iconst 365 at_364 rfl (0 : Int32) rfl ?_
    refine W.istore 367 at_365 rfl #[.val (.int p0), .val (.int p1), .val (.ref b2), .val (.ref b3), .val (.int (7 : Int32)), .val (.int j.toInt32), .val (.int (0 : Int32))] rfl ?_
    refine W.aloadN 368 at_367 rfl rfl rfl ?_
    refine W.iload 370 at_368 rfl rfl ?_
    refine W.aaload 371 at_370 rfl A2.ary rfl 7 (by decide) (by decide) (.ref (e 7)) rfl ?_
    refine W.aloadN 372 at_371 rfl rfl rfl ?_
    refine W.iload 374 at_372 rfl rfl ?_
    refine W.aaload 375 at_374 rfl A2.ary rfl j (own_j32 j hj).1 (own_j32 j hj).2 (.ref (e j)) (own_el e j hj) ?_
    refine W.callV (rest := []) (argsL := [(.ref (e j))]) (a := (e 7)) 378 at_375 rfl (fun hn => c_wi7 l Z a0 hw e j _ n0 hn hj hDT.2.2.1 hDT.2.2.2 hDT.1.1) (hDT.2.1 7 (by decide)) (wd_48 hw) (wd_49 hw) (wd_51 hw) rfl (wd_50 hw) (wd_3 hw) (wd_52 hw) (by decide) pd_0 rfl rfl rfl (by decide) 0 (Nat.le_of_ble_eq_true rfl) (by decide) (by decide) (by decide) ?_
    rintro v1061 h1061 ⟨rfl, rfl⟩
    show W _ _ _ _ _ _ _ _ _ _ _ 2 40 378 #[.val (.int p0), .val (.int p1), .val (.ref b2), .val (.ref b3), .val (.int (7 : Int32)), .val (.int j.toInt32), .val (.int (0 : Int32))] [(.int (if j ∈ ([0, 7, 6, 5, 4, 3] : List Nat) then 1 else 0 : Int32))]
    refine W.iload 380 at_378 rfl rfl ?_
    refine W.icmp_ne 387 383 at_380 rfl rfl (fun hc => absurd (if_neg ((own_x7 ⟨j, hj⟩).mp hc1060)) hc) (fun _ => ?_)
    refine W.iconst 384 at_383 rfl (1 : Int32) rfl ?_
    refine W.goto 388 at_384 rfl ?_
    exact W.ireturnN (t := .boolean) at_388 rfl (by simp) (1 : Int32) rfl rfl (by decide) (by decide)
  · intro hc1060
    refine W.iconst 361 at_360 rfl (1 : Int32) rfl ?_
    refine W.goto 365 at_361 rfl ?_
    refine W.istore 367 at_365 rfl #[.val (.int p0), .val (.int p1), .val (.ref b2), .val (.ref b3), .val (.int (7 : Int32)), .val (.int j.toInt32), .val (.int (1 : Int32))] rfl ?_
    refine W.aloadN 368 at_367 rfl rfl rfl ?_
    refine W.iload 370 at_368 rfl rfl ?_
    refine W.aaload 371 at_370 rfl A2.ary rfl 7 (by decide) (by decide) (.ref (e 7)) rfl ?_
    refine W.aloadN 372 at_371 rfl rfl rfl ?_
    refine W.iload 374 at_372 rfl rfl ?_
    refine W.aaload 375 at_374 rfl A2.ary rfl j (own_j32 j hj).1 (own_j32 j hj).2 (.ref (e j)) (own_el e j hj) ?_
    refine W.callV (rest := []) (argsL := [(.ref (e j))]) (a := (e 7)) 378 at_375 rfl (fun hn => c_wi7 l Z a0 hw e j _ n0 hn hj hDT.2.2.1 hDT.2.2.2 hDT.1.1) (hDT.2.1 7 (by decide)) (wd_48 hw) (wd_49 hw) (wd_51 hw) rfl (wd_50 hw) (wd_3 hw) (wd_52 hw) (by decide) pd_0 rfl rfl rfl (by decide) 0 (Nat.le_of_ble_eq_true rfl) (by decide) (by decide) (by decide) ?_
    rintro v1062 h1062 ⟨rfl, rfl⟩
    show W _ _ _ _ _ _ _ _ _ _ _ 2 40 378 #[.val (.int p0), .val (.int p1), .val (.ref b2), .val (.ref b3), .val (.int (7 : Int32)), .val (.int j.toInt32), .val (.int (1 : Int32))] [(.int (if j ∈ ([0, 7, 6, 5, 4, 3] : List Nat) then 1 else 0 : Int32))]
    refine W.iload 380 at_378 rfl rfl ?_
    refine W.icmp_ne 387 383 at_380 rfl rfl (fun hc => absurd (if_pos (Classical.byContradiction fun q => hc1060 ((own_x7 ⟨j, hj⟩).mpr q))) hc) (fun _ => ?_)
    refine W.iconst 384 at_383 rfl (1 : Int32) rfl ?_
    refine W.goto 388 at_384 rfl ?_
    exact W.ireturnN (t := .boolean) at_388 rfl (by simp) (1 : Int32) rfl rfl (by decide) (by decide)
set_option maxRecDepth 65536 in
set_option maxHeartbeats 40000000 in
theorem l348_8 (l : Launch) (Z : State) (a0 : Array Value) (hw : ∀ d ∈ tables_1, d.before a0 Z = true) (p0 p1 : Int32) (b2 b3 : Addr) (e : Nat → Addr) (j : Nat) (h : Heap) (n0 : Nat) (hj : j < 19) (hDT : own_DT Z h e) (A2 : AryO Z h b2 "com/example/pathweave/pathweave/model/Datatype" [(.ref (e 0)), (.ref (e 1)), (.ref (e 2)), (.ref (e 3)), (.ref (e 4)), (.ref (e 5)), (.ref (e 6)), (.ref (e 7)), (.ref (e 8)), (.ref (e 9)), (.ref (e 10)), (.ref (e 11)), (.ref (e 12)), (.ref (e 13)), (.ref (e 14)), (.ref (e 15)), (.ref (e 16)), (.ref (e 17)), (.ref (e 18))]) (A3 : Ary Z h b3 .int [(.int (1 : Int32)), (.int (3 : Int32)), (.int (5 : Int32)), (.int (9 : Int32)), (.int (25 : Int32)), (.int (57 : Int32)), (.int (121 : Int32)), (.int (249 : Int32)), (.int (259 : Int32)), (.int (771 : Int32)), (.int (1795 : Int32)), (.int (3843 : Int32)), (.int (7939 : Int32)), (.int (16131 : Int32)), (.int (16385 : Int32)), (.int (32769 : Int32)), (.int (65537 : Int32)), (.int (131073 : Int32)), (.int (393217 : Int32))]) : W l room_1 Z "com/example/pathweave/pathweave/model/DatatypeWithinPinLaw" "law" code maxLocals ret n0 (fun r _ => r = some (.int 1)) h 2 40 348 #[.val (.int p0), .val (.int p1), .val (.ref b2), .val (.ref b3), .val (.int (8 : Int32)), .val (.int j.toInt32), .unset] [] := by
  refine W.aloadN 349 at_348 rfl rfl rfl ?_
  refine W.iload 351 at_349 rfl rfl ?_
  refine W.iaload 352 at_351 rfl A3 8 (by decide) (by decide) (.int (259 : Int32)) rfl ?_
  refine W.iload 354 at_352 rfl rfl ?_
  refine W.iushr 355 at_354 rfl (((259 : Int32).toUInt32 >>> (j.toInt32 &&& 31).toUInt32).toInt32) rfl ?_
  refine W.iconst 356 at_355 rfl (1 : Int32) rfl ?_
  refine W.iand 357 at_356 rfl ((((259 : Int32).toUInt32 >>> (j.toInt32 &&& 31).toUInt32).toInt32) &&& (1 : Int32)) rfl ?_
  refine W.if_eq 364 360 at_357 rfl rfl ?_ ?_
  · intro hc1063
    refine W.iconst 365 at_364 rfl (0 : Int32) rfl ?_
    refine W.istore 367 at_365 rfl #[.val (.int p0), .val (.int p1), .val (.ref b2), .val (.ref b3), .val (.int (8 : Int32)), .val (.int j.toInt32), .val (.int (0 : Int32))] rfl ?_
    refine W.aloadN 368 at_367 rfl rfl rfl ?_
    refine W.iload 370 at_368 rfl rfl ?_
    refine W.aaload 371 at_370 rfl A2.ary rfl 8 (by decide) (by decide) (.ref (e 8)) rfl ?_
    refine W.aloadN 372 at_371 rfl rfl rfl ?_
    refine W.iload 374 at_372 rfl rfl ?_
    refine W.aaload 375 at_374 rfl A2.ary rfl j (own_j32 j hj).1 (own_j32 j hj).2 (.ref (e j)) (own_el e j hj) ?_
    refine W.callV (rest := []) (argsL := [(.ref (e j))]) (a := (e 8)) 378 at_375 rfl (fun hn => c_wi8 l Z a0 hw e j _ n0 hn hj hDT.2.2.1 hDT.2.2.2 hDT.1.1) (hDT.2.1 8 (by decide)) (wd_48 hw) (wd_49 hw) (wd_51 hw) rfl (wd_50 hw) (wd_3 hw) (wd_52 hw) (by decide) pd_0 rfl rfl rfl (by decide) 0 (Nat.le_of_ble_eq_true rfl) (by decide) (by decide) (by decide) ?_
    rintro v1064 h1064 ⟨rfl, rfl⟩
    show W _ _ _ _ _ _ _ _ _ _ _ 2 40 378 #[.val (.int p0), .val (.int p1), .val (.ref b2), .val (.ref b3), .val (.int (8 : Int32)), .val (.int j.toInt32), .val (.int (0 : Int32))] [(.int (if j ∈ ([0, 8, 1] : List Nat) then 1 else 0 : Int32))]
    refine W.iload 380 at_378 rfl rfl ?_
    refine W.icmp_ne 387 383 at_380 rfl rfl (fun hc => absurd (if_neg ((own_x8 ⟨j, hj⟩).mp hc1063)) hc) (fun _ => ?_)
    refine W.iconst 384 at_383 rfl (1 : Int32) rfl ?_
    refine W.goto 388 at_384 rfl ?_
    exact W.ireturnN (t := .boolean) at_388 rfl (by simp) (1 : Int32) rfl rfl (by decide) (by decide)
  · intro hc1063
    refine W.iconst 361 at_360 rfl (1 : Int32) rfl ?_
    refine W.goto 365 at_361 rfl ?_
    refine W.istore 367 at_365 rfl #[.val (.int p0), .val (.int p1), .val (.ref b2), .val (.ref b3), .val (.int (8 : Int32)), .val (.int j.toInt32), .val (.int (1 : Int32))] rfl ?_
    refine W.aloadN 368 at_367 rfl rfl rfl ?_
    refine W.iload 370 at_368 rfl rfl ?_
    refine W.aaload 371 at_370 rfl A2.ary rfl 8 (by decide) (by decide) (.ref (e 8)) rfl ?_
    refine W.aloadN 372 at_371 rfl rfl rfl ?_
    refine W.iload 374 at_372 rfl rfl ?_
    refine W.aaload 375 at_374 rfl A2.ary rfl j (own_j32 j hj).1 (own_j32 j hj).2 (.ref (e j)) (own_el e j hj) ?_
    refine W.callV (rest := []) (argsL := [(.ref (e j))]) (a := (e 8)) 378 at_375 rfl (fun hn => c_wi8 l Z a0 hw e j _ n0 hn hj hDT.2.2.1 hDT.2.2.2 hDT.1.1) (hDT.2.1 8 (by decide)) (wd_48 hw) (wd_49 hw) (wd_51 hw) rfl (wd_50 hw) (wd_3 hw) (wd_52 hw) (by decide) pd_0 rfl rfl rfl (by decide) 0 (Nat.le_of_ble_eq_true rfl) (by decide) (by decide) (by decide) ?_
    rintro v1065 h1065 ⟨rfl, rfl⟩
    show W _ _ _ _ _ _ _ _ _ _ _ 2 40 378 #[.val (.int p0), .val (.int p1), .val (.ref b2), .val (.ref b3), .val (.int (8 : Int32)), .val (.int j.toInt32), .val (.int (1 : Int32))] [(.int (if j ∈ ([0, 8, 1] : List Nat) then 1 else 0 : Int32))]
    refine W.iload 380 at_378 rfl rfl ?_
    refine W.icmp_ne 387 383 at_380 rfl rfl (fun hc => absurd (if_pos (Classical.byContradiction fun q => hc1063 ((own_x8 ⟨j, hj⟩).mpr q))) hc) (fun _ => ?_)
    refine W.iconst 384 at_383 rfl (1 : Int32) rfl ?_
    refine W.goto 388 at_384 rfl ?_
    exact W.ireturnN (t := .boolean) at_388 rfl (by simp) (1 : Int32) rfl rfl (by decide) (by decide)
set_option maxRecDepth 65536 in
set_option maxHeartbeats 40000000 in
theorem l348_9 (l : Launch) (Z : State) (a0 : Array Value) (hw : ∀ d ∈ tables_1, d.before a0 Z = true) (p0 p1 : Int32) (b2 b3 : Addr) (e : Nat → Addr) (j : Nat) (h : Heap) (n0 : Nat) (hj : j < 19) (hDT : own_DT Z h e) (A2 : AryO Z h b2 "com/example/pathweave/pathweave/model/Datatype" [(.ref (e 0)), (.ref (e 1)), (.ref (e 2)), (.ref (e 3)), (.ref (e 4)), (.ref (e 5)), (.ref (e 6)), (.ref (e 7)), (.ref (e 8)), (.ref (e 9)), (.ref (e 10)), (.ref (e 11)), (.ref (e 12)), (.ref (e 13)), (.ref (e 14)), (.ref (e 15)), (.ref (e 16)), (.ref (e 17)), (.ref (e 18))]) (A3 : Ary Z h b3 .int [(.int (1 : Int32)), (.int (3 : Int32)), (.int (5 : Int32)), (.int (9 : Int32)), (.int (25 : Int32)), (.int (57 : Int32)), (.int (121 : Int32)), (.int (249 : Int32)), (.int (259 : Int32)), (.int (771 : Int32)), (.int (1795 : Int32)), (.int (3843 : Int32)), (.int (7939 : Int32)), (.int (16131 : Int32)), (.int (16385 : Int32)), (.int (32769 : Int32)), (.int (65537 : Int32)), (.int (131073 : Int32)), (.int (393217 : Int32))]) : W l room_1 Z "com/example/pathweave/pathweave/model/DatatypeWithinPinLaw" "law" code maxLocals ret n0 (fun r _ => r = some (.int 1)) h 2 40 348 #[.val (.int p0), .val (.int p1), .val (.ref b2), .val (.ref b3), .val (.int (9 : Int32)), .val (.int j.toInt32), .unset] [] := by
  refine W.aloadN 349 at_348 rfl rfl rfl ?_
  refine W.iload 351 at_349 rfl rfl ?_
  refine W.iaload 352 at_351 rfl A3 9 (by decide) (by decide) (.int (771 : Int32)) rfl ?_
  refine W.iload 354 at_352 rfl rfl ?_
  refine W.iushr 355 at_354 rfl (((771 : Int32).toUInt32 >>> (j.toInt32 &&& 31).toUInt32).toInt32) rfl ?_
  refine W.iconst 356 at_355 rfl (1 : Int32) rfl ?_
  refine W.iand 357 at_356 rfl ((((771 : Int32).toUInt32 >>> (j.toInt32 &&& 31).toUInt32).toInt32) &&& (1 : Int32)) rfl ?_
  refine W.if_eq 364 360 at_357 rfl rfl ?_ ?_
  · intro hc1066
    refine W.iconst 365 at_364 rfl (0 : Int32) rfl ?_
    refine W.istore 367 at_365 rfl #[.val (.int p0), .val (.int p1), .val (.ref b2), .val (.ref b3), .val (.int (9 : Int32)), .val (.int j.toInt32), .val (.int (0 : Int32))] rfl ?_
    refine W.aloadN 368 at_367 rfl rfl rfl ?_
    refine W.iload 370 at_368 rfl rfl ?_
    refine W.aaload 371 at_370 rfl A2.ary rfl 9 (by decide) (by decide) (.ref (e 9)) rfl ?_
    refine W.aloadN 372 at_371 rfl rfl rfl ?_
    refine W.iload 374 at_372 rfl rfl ?_
    refine W.aaload 375 at_374 rfl A2.ary rfl j (own_j32 j hj).1 (own_j32 j hj).2 (.ref (e j)) (own_el e j hj) ?_
    refine W.callV (rest := []) (argsL := [(.ref (e j))]) (a := (e 9)) 378 at_375 rfl (fun hn => c_wi9 l Z a0 hw e j _ n0 hn hj hDT.2.2.1 hDT.2.2.2 hDT.1.1) (hDT.2.1 9 (by decide)) (wd_48 hw) (wd_49 hw) (wd_51 hw) rfl (wd_50 hw) (wd_3 hw) (wd_52 hw) (by decide) pd_0 rfl rfl rfl (by decide) 0 (Nat.le_of_ble_eq_true rfl) (by decide) (by decide) (by decide) ?_
    rintro v1067 h1067 ⟨rfl, rfl⟩
    show W _ _ _ _ _ _ _ _ _ _ _ 2 40 378 #[.val (.int p0), .val (.int p1), .val (.ref b2), .val (.ref b3), .val (.int (9 : Int32)), .val (.int j.toInt32), .val (.int (0 : Int32))] [(.int (if j ∈ ([0, 9, 8, 1] : List Nat) then 1 else 0 : Int32))]
    refine W.iload 380 at_378 rfl rfl ?_
    refine W.icmp_ne 387 383 at_380 rfl rfl (fun hc => absurd (if_neg ((own_x9 ⟨j, hj⟩).mp hc1066)) hc) (fun _ => ?_)
    refine W.iconst 384 at_383 rfl (1 : Int32) rfl ?_
    refine W.goto 388 at_384 rfl ?_
    exact W.ireturnN (t := .boolean) at_388 rfl (by simp) (1 : Int32) rfl rfl (by decide) (by decide)
  · intro hc1066
    refine W.iconst 361 at_360 rfl (1 : Int32) rfl ?_
    refine W.goto 365 at_361 rfl ?_
    refine W.istore 367 at_365 rfl #[.val (.int p0), .val (.int p1), .val (.ref b2), .val (.ref b3), .val (.int (9 : Int32)), .val (.int j.toInt32), .val (.int (1 : Int32))] rfl ?_
    refine W.aloadN 368 at_367 rfl rfl rfl ?_
    refine W.iload 370 at_368 rfl rfl ?_
    refine W.aaload 371 at_370 rfl A2.ary rfl 9 (by decide) (by decide) (.ref (e 9)) rfl ?_
    refine W.aloadN 372 at_371 rfl rfl rfl ?_
    refine W.iload 374 at_372 rfl rfl ?_
    refine W.aaload 375 at_374 rfl A2.ary rfl j (own_j32 j hj).1 (own_j32 j hj).2 (.ref (e j)) (own_el e j hj) ?_
    refine W.callV (rest := []) (argsL := [(.ref (e j))]) (a := (e 9)) 378 at_375 rfl (fun hn => c_wi9 l Z a0 hw e j _ n0 hn hj hDT.2.2.1 hDT.2.2.2 hDT.1.1) (hDT.2.1 9 (by decide)) (wd_48 hw) (wd_49 hw) (wd_51 hw) rfl (wd_50 hw) (wd_3 hw) (wd_52 hw) (by decide) pd_0 rfl rfl rfl (by decide) 0 (Nat.le_of_ble_eq_true rfl) (by decide) (by decide) (by decide) ?_
    rintro v1068 h1068 ⟨rfl, rfl⟩
    show W _ _ _ _ _ _ _ _ _ _ _ 2 40 378 #[.val (.int p0), .val (.int p1), .val (.ref b2), .val (.ref b3), .val (.int (9 : Int32)), .val (.int j.toInt32), .val (.int (1 : Int32))] [(.int (if j ∈ ([0, 9, 8, 1] : List Nat) then 1 else 0 : Int32))]
    refine W.iload 380 at_378 rfl rfl ?_
    refine W.icmp_ne 387 383 at_380 rfl rfl (fun hc => absurd (if_pos (Classical.byContradiction fun q => hc1066 ((own_x9 ⟨j, hj⟩).mpr q))) hc) (fun _ => ?_)
    refine W.iconst 384 at_383 rfl (1 : Int32) rfl ?_
    refine W.goto 388 at_384 rfl ?_
    exact W.ireturnN (t := .boolean) at_388 rfl (by simp) (1 : Int32) rfl rfl (by decide) (by decide)
set_option maxRecDepth 65536 in
set_option maxHeartbeats 40000000 in
theorem l348_10 (l : Launch) (Z : State) (a0 : Array Value) (hw : ∀ d ∈ tables_1, d.before a0 Z = true) (p0 p1 : Int32) (b2 b3 : Addr) (e : Nat → Addr) (j : Nat) (h : Heap) (n0 : Nat) (hj : j < 19) (hDT : own_DT Z h e) (A2 : AryO Z h b2 "com/example/pathweave/pathweave/model/Datatype" [(.ref (e 0)), (.ref (e 1)), (.ref (e 2)), (.ref (e 3)), (.ref (e 4)), (.ref (e 5)), (.ref (e 6)), (.ref (e 7)), (.ref (e 8)), (.ref (e 9)), (.ref (e 10)), (.ref (e 11)), (.ref (e 12)), (.ref (e 13)), (.ref (e 14)), (.ref (e 15)), (.ref (e 16)), (.ref (e 17)), (.ref (e 18))]) (A3 : Ary Z h b3 .int [(.int (1 : Int32)), (.int (3 : Int32)), (.int (5 : Int32)), (.int (9 : Int32)), (.int (25 : Int32)), (.int (57 : Int32)), (.int (121 : Int32)), (.int (249 : Int32)), (.int (259 : Int32)), (.int (771 : Int32)), (.int (1795 : Int32)), (.int (3843 : Int32)), (.int (7939 : Int32)), (.int (16131 : Int32)), (.int (16385 : Int32)), (.int (32769 : Int32)), (.int (65537 : Int32)), (.int (131073 : Int32)), (.int (393217 : Int32))]) : W l room_1 Z "com/example/pathweave/pathweave/model/DatatypeWithinPinLaw" "law" code maxLocals ret n0 (fun r _ => r = some (.int 1)) h 2 40 348 #[.val (.int p0), .val (.int p1), .val (.ref b2), .val (.ref b3), .val (.int (10 : Int32)), .val (.int j.toInt32), .unset] [] := by
  refine W.aloadN 349 at_348 rfl rfl rfl ?_
  refine W.iload 351 at_349 rfl rfl ?_
  refine W.iaload 352 at_351 rfl A3 10 (by decide) (by decide) (.int (1795 : Int32)) rfl ?_
  refine W.iload 354 at_352 rfl rfl ?_
  refine W.iushr 355 at_354 rfl (((1795 : Int32).toUInt32 >>> (j.toInt32 &&& 31).toUInt32).toInt32) rfl ?_
  refine W.iconst 356 at_355 rfl (1 : Int32) rfl ?_
  refine W.iand 357 at_356 rfl ((((1795 : Int32).toUInt32 >>> (j.toInt32 &&& 31).toUInt32).toInt32) &&& (1 : Int32)) rfl ?_
  refine W.if_eq 364 360 at_357 rfl rfl ?_ ?_
  · intro hc1069
    refine W.iconst 365 at_364 rfl (0 : Int32) rfl ?_
    refine W.istore 367 at_365 rfl #[.val (.int p0), .val (.int p1), .val (.ref b2), .val (.ref b3), .val (.int (10 : Int32)), .val (.int j.toInt32), .val (.int (0 : Int32))] rfl ?_
    refine W.aloadN 368 at_367 rfl rfl rfl ?_
    refine W.iload 370 at_368 rfl rfl ?_
    refine W.aaload 371 at_370 rfl A2.ary rfl 10 (by decide) (by decide) (.ref (e 10)) rfl ?_
    refine W.aloadN 372 at_371 rfl rfl rfl ?_
    refine W.iload 374 at_372 rfl rfl ?_
    refine W.aaload 375 at_374 rfl A2.ary rfl j (own_j32 j hj).1 (own_j32 j hj).2 (.ref (e j)) (own_el e j hj) ?_
    refine W.callV (rest := []) (argsL := [(.ref (e j))]) (a := (e 10)) 378 at_375 rfl (fun hn => c_wi10 l Z a0 hw e j _ n0 hn hj hDT.2.2.1 hDT.2.2.2 hDT.1.1) (hDT.2.1 10 (by decide)) (wd_48 hw) (wd_49 hw) (wd_51 hw) rfl (wd_50 hw) (wd_3 hw) (wd_52 hw) (by decide) pd_0 rfl rfl rfl (by decide) 0 (Nat.le_of_ble_eq_true rfl) (by decide) (by decide) (by decide) ?_
    rintro v1070 h1070 ⟨rfl, rfl⟩
    show W _ _ _ _ _ _ _ _ _ _ _ 2 40 378 #[.val (.int p0), .val (.int p1), .val (.ref b2), .val (.ref b3), .val (.int (10 : Int32)), .val (.int j.toInt32), .val (.int (0 : Int32))] [(.int (if j ∈ ([0, 10, 9, 8, 1] : List Nat) then 1 else 0 : Int32))]
    refine W.iload 380 at_378 rfl rfl ?_
    refine W.icmp_ne 387 383 at_380 rfl rfl (fun hc => absurd (if_neg ((own_x10 ⟨j, hj⟩).mp hc1069)) hc) (fun _ => ?_)
    refine W.iconst 384 at_383 rfl (1 : Int32) rfl ?_
    refine W.goto 388 at_384 rfl ?_
    exact W.ireturnN (t := .boolean) at_388 rfl (by simp) (1 : Int32) rfl rfl (by decide) (by decide)
  · intro hc1069
    refine W.iconst 361 at_360 rfl (1 : Int32) rfl ?_
    refine W.goto 365 at_361 rfl ?_
    refine W.istore 367 at_365 rfl #[.val (.int p0), .val (.int p1), .val (.ref b2), .val (.ref b3), .val (.int (10 : Int32)), .val (.int j.toInt32), .val (.int (1 : Int32))] rfl ?_
    refine W.aloadN 368 at_367 rfl rfl rfl ?_
    refine W.iload 370 at_368 rfl rfl ?_
    refine W.aaload 371 at_370 rfl A2.ary rfl 10 (by decide) (by decide) (.ref (e 10)) rfl ?_
    refine W.aloadN 372 at_371 rfl rfl rfl ?_
    refine W.iload 374 at_372 rfl rfl ?_
    refine W.aaload 375 at_374 rfl A2.ary rfl j (own_j32 j hj).1 (own_j32 j hj).2 (.ref (e j)) (own_el e j hj) ?_
    refine W.callV (rest := []) (argsL := [(.ref (e j))]) (a := (e 10)) 378 at_375 rfl (fun hn => c_wi10 l Z a0 hw e j _ n0 hn hj hDT.2.2.1 hDT.2.2.2 hDT.1.1) (hDT.2.1 10 (by decide)) (wd_48 hw) (wd_49 hw) (wd_51 hw) rfl (wd_50 hw) (wd_3 hw) (wd_52 hw) (by decide) pd_0 rfl rfl rfl (by decide) 0 (Nat.le_of_ble_eq_true rfl) (by decide) (by decide) (by decide) ?_
    rintro v1071 h1071 ⟨rfl, rfl⟩
    show W _ _ _ _ _ _ _ _ _ _ _ 2 40 378 #[.val (.int p0), .val (.int p1), .val (.ref b2), .val (.ref b3), .val (.int (10 : Int32)), .val (.int j.toInt32), .val (.int (1 : Int32))] [(.int (if j ∈ ([0, 10, 9, 8, 1] : List Nat) then 1 else 0 : Int32))]
    refine W.iload 380 at_378 rfl rfl ?_
    refine W.icmp_ne 387 383 at_380 rfl rfl (fun hc => absurd (if_pos (Classical.byContradiction fun q => hc1069 ((own_x10 ⟨j, hj⟩).mpr q))) hc) (fun _ => ?_)
    refine W.iconst 384 at_383 rfl (1 : Int32) rfl ?_
    refine W.goto 388 at_384 rfl ?_
    exact W.ireturnN (t := .boolean) at_388 rfl (by simp) (1 : Int32) rfl rfl (by decide) (by decide)
set_option maxRecDepth 65536 in
set_option maxHeartbeats 40000000 in
theorem l348_11 (l : Launch) (Z : State) (a0 : Array Value) (hw : ∀ d ∈ tables_1, d.before a0 Z = true) (p0 p1 : Int32) (b2 b3 : Addr) (e : Nat → Addr) (j : Nat) (h : Heap) (n0 : Nat) (hj : j < 19) (hDT : own_DT Z h e) (A2 : AryO Z h b2 "com/example/pathweave/pathweave/model/Datatype" [(.ref (e 0)), (.ref (e 1)), (.ref (e 2)), (.ref (e 3)), (.ref (e 4)), (.ref (e 5)), (.ref (e 6)), (.ref (e 7)), (.ref (e 8)), (.ref (e 9)), (.ref (e 10)), (.ref (e 11)), (.ref (e 12)), (.ref (e 13)), (.ref (e 14)), (.ref (e 15)), (.ref (e 16)), (.ref (e 17)), (.ref (e 18))]) (A3 : Ary Z h b3 .int [(.int (1 : Int32)), (.int (3 : Int32)), (.int (5 : Int32)), (.int (9 : Int32)), (.int (25 : Int32)), (.int (57 : Int32)), (.int (121 : Int32)), (.int (249 : Int32)), (.int (259 : Int32)), (.int (771 : Int32)), (.int (1795 : Int32)), (.int (3843 : Int32)), (.int (7939 : Int32)), (.int (16131 : Int32)), (.int (16385 : Int32)), (.int (32769 : Int32)), (.int (65537 : Int32)), (.int (131073 : Int32)), (.int (393217 : Int32))]) : W l room_1 Z "com/example/pathweave/pathweave/model/DatatypeWithinPinLaw" "law" code maxLocals ret n0 (fun r _ => r = some (.int 1)) h 2 40 348 #[.val (.int p0), .val (.int p1), .val (.ref b2), .val (.ref b3), .val (.int (11 : Int32)), .val (.int j.toInt32), .unset] [] := by
  refine W.aloadN 349 at_348 rfl rfl rfl ?_
  refine W.iload 351 at_349 rfl rfl ?_
  refine W.iaload 352 at_351 rfl A3 11 (by decide) (by decide) (.int (3843 : Int32)) rfl ?_
  refine W.iload 354 at_352 rfl rfl ?_
  refine W.iushr 355 at_354 rfl (((3843 : Int32).toUInt32 >>> (j.toInt32 &&& 31).toUInt32).toInt32) rfl ?_
  refine W.iconst 356 at_355 rfl (1 : Int32) rfl ?_
  refine W.iand 357 at_356 rfl ((((3843 : Int32).toUInt32 >>> (j.toInt32 &&& 31).toUInt32).toInt32) &&& (1 : Int32)) rfl ?_
  refine W.if_eq 364 360 at_357 rfl rfl ?_ ?_
  · intro hc1072
    refine W.iconst 365 at_364 rfl (0 : Int32) rfl ?_
    refine W.istore 367 at_365 rfl #[.val (.int p0), .val (.int p1), .val (.ref b2), .val (.ref b3), .val (.int (11 : Int32)), .val (.int j.toInt32), .val (.int (0 : Int32))] rfl ?_
    refine W.aloadN 368 at_367 rfl rfl rfl ?_
    refine W.iload 370 at_368 rfl rfl ?_
    refine W.aaload 371 at_370 rfl A2.ary rfl 11 (by decide) (by decide) (.ref (e 11)) rfl ?_
    refine W.aloadN 372 at_371 rfl rfl rfl ?_
    refine W.iload 374 at_372 rfl rfl ?_
    refine W.aaload 375 at_374 rfl A2.ary rfl j (own_j32 j hj).1 (own_j32 j hj).2 (.ref (e j)) (own_el e j hj) ?_
    refine W.callV (rest := []) (argsL := [(.ref (e j))]) (a := (e 11)) 378 at_375 rfl (fun hn => c_wi11 l Z a0 hw e j _ n0 hn hj hDT.2.2.1 hDT.2.2.2 hDT.1.1) (hDT.2.1 11 (by decide)) (wd_48 hw) (wd_49 hw) (wd_51 hw) rfl (wd_50 hw) (wd_3 hw) (wd_52 hw) (by decide) pd_0 rfl rfl rfl (by decide) 0 (Nat.le_of_ble_eq_true rfl) (by decide) (by decide) (by decide) ?_
    rintro v1073 h1073 ⟨rfl, rfl⟩
    show W _ _ _ _ _ _ _ _ _ _ _ 2 40 378 #[.val (.int p0), .val (.int p1), .val (.ref b2), .val (.ref b3), .val (.int (11 : Int32)), .val (.int j.toInt32), .val (.int (0 : Int32))] [(.int (if j ∈ ([0, 11, 10, 9, 8, 1] : List Nat) then 1 else 0 : Int32))]
    refine W.iload 380 at_378 rfl rfl ?_
    refine W.icmp_ne 387 383 at_380 rfl rfl (fun hc => absurd (if_neg ((own_x11 ⟨j, hj⟩).mp hc1072)) hc) (fun _ => ?_)
    refine W.iconst 384 at_383 rfl (1 : Int32) rfl ?_
    refine W.goto 388 at_384 rfl ?_
    exact W.ireturnN (t := .boolean) at_388 rfl (by simp) (1 : Int32) rfl rfl (by decide) (by decide)
  · intro hc1072
    refine W.iconst 361 at_360 rfl (1 : Int32) rfl ?_
    refine W.goto 365 at_361 rfl ?_
    refine W.istore 367 at_365 rfl #[.val (.int p0), .val (.int p1), .val (.ref b2), .val (.ref b3), .val (.int (11 : Int32)), .val (.int j.toInt32), .val (.int (1 : Int32))] rfl ?_
    refine W.aloadN 368 at_367 rfl rfl rfl ?_
    refine W.iload 370 at_368 rfl rfl ?_
    refine W.aaload 371 at_370 rfl A2.ary rfl 11 (by decide) (by decide) (.ref (e 11)) rfl ?_
    refine W.aloadN 372 at_371 rfl rfl rfl ?_
    refine W.iload 374 at_372 rfl rfl ?_
    refine W.aaload 375 at_374 rfl A2.ary rfl j (own_j32 j hj).1 (own_j32 j hj).2 (.ref (e j)) (own_el e j hj) ?_
    refine W.callV (rest := []) (argsL := [(.ref (e j))]) (a := (e 11)) 378 at_375 rfl (fun hn => c_wi11 l Z a0 hw e j _ n0 hn hj hDT.2.2.1 hDT.2.2.2 hDT.1.1) (hDT.2.1 11 (by decide)) (wd_48 hw) (wd_49 hw) (wd_51 hw) rfl (wd_50 hw) (wd_3 hw) (wd_52 hw) (by decide) pd_0 rfl rfl rfl (by decide) 0 (Nat.le_of_ble_eq_true rfl) (by decide) (by decide) (by decide) ?_
    rintro v1074 h1074 ⟨rfl, rfl⟩
    show W _ _ _ _ _ _ _ _ _ _ _ 2 40 378 #[.val (.int p0), .val (.int p1), .val (.ref b2), .val (.ref b3), .val (.int (11 : Int32)), .val (.int j.toInt32), .val (.int (1 : Int32))] [(.int (if j ∈ ([0, 11, 10, 9, 8, 1] : List Nat) then 1 else 0 : Int32))]
    refine W.iload 380 at_378 rfl rfl ?_
    refine W.icmp_ne 387 383 at_380 rfl rfl (fun hc => absurd (if_pos (Classical.byContradiction fun q => hc1072 ((own_x11 ⟨j, hj⟩).mpr q))) hc) (fun _ => ?_)
    refine W.iconst 384 at_383 rfl (1 : Int32) rfl ?_
    refine W.goto 388 at_384 rfl ?_
    exact W.ireturnN (t := .boolean) at_388 rfl (by simp) (1 : Int32) rfl rfl (by decide) (by decide)
set_option maxRecDepth 65536 in
set_option maxHeartbeats 40000000 in
theorem l348_12 (l : Launch) (Z : State) (a0 : Array Value) (hw : ∀ d ∈ tables_1, d.before a0 Z = true) (p0 p1 : Int32) (b2 b3 : Addr) (e : Nat → Addr) (j : Nat) (h : Heap) (n0 : Nat) (hj : j < 19) (hDT : own_DT Z h e) (A2 : AryO Z h b2 "com/example/pathweave/pathweave/model/Datatype" [(.ref (e 0)), (.ref (e 1)), (.ref (e 2)), (.ref (e 3)), (.ref (e 4)), (.ref (e 5)), (.ref (e 6)), (.ref (e 7)), (.ref (e 8)), (.ref (e 9)), (.ref (e 10)), (.ref (e 11)), (.ref (e 12)), (.ref (e 13)), (.ref (e 14)), (.ref (e 15)), (.ref (e 16)), (.ref (e 17)), (.ref (e 18))]) (A3 : Ary Z h b3 .int [(.int (1 : Int32)), (.int (3 : Int32)), (.int (5 : Int32)), (.int (9 : Int32)), (.int (25 : Int32)), (.int (57 : Int32)), (.int (121 : Int32)), (.int (249 : Int32)), (.int (259 : Int32)), (.int (771 : Int32)), (.int (1795 : Int32)), (.int (3843 : Int32)), (.int (7939 : Int32)), (.int (16131 : Int32)), (.int (16385 : Int32)), (.int (32769 : Int32)), (.int (65537 : Int32)), (.int (131073 : Int32)), (.int (393217 : Int32))]) : W l room_1 Z "com/example/pathweave/pathweave/model/DatatypeWithinPinLaw" "law" code maxLocals ret n0 (fun r _ => r = some (.int 1)) h 2 40 348 #[.val (.int p0), .val (.int p1), .val (.ref b2), .val (.ref b3), .val (.int (12 : Int32)), .val (.int j.toInt32), .unset] [] := by
  refine W.aloadN 349 at_348 rfl rfl rfl ?_
  refine W.iload 351 at_349 rfl rfl ?_
  refine W.iaload 352 at_351 rfl A3 12 (by decide) (by decide) (.int (7939 : Int32)) rfl ?_
  refine W.iload 354 at_352 rfl rfl ?_
  refine W.iushr 355 at_354 rfl (((7939 : Int32).toUInt32 >>> (j.toInt32 &&& 31).toUInt32).toInt32) rfl ?_
  refine W.iconst 356 at_355 rfl (1 : Int32) rfl ?_
  refine W.iand 357 at_356 rfl ((((7939 : Int32).toUInt32 >>> (j.toInt32 &&& 31).toUInt32).toInt32) &&& (1 : Int32)) rfl ?_
  refine W.if_eq 364 360 at_357 rfl rfl ?_ ?_
  · intro hc1075
    refine W.iconst 365 at_364 rfl (0 : Int32) rfl ?_
    refine W.istore 367 at_365 rfl #[.val (.int p0), .val (.int p1), .val (.ref b2), .val (.ref b3), .val (.int (12 : Int32)), .val (.int j.toInt32), .val (.int (0 : Int32))] rfl ?_
    refine W.aloadN 368 at_367 rfl rfl rfl ?_
    refine W.iload 370 at_368 rfl rfl ?_
    refine W.aaload 371 at_370 rfl A2.ary rfl 12 (by decide) (by decide) (.ref (e 12)) rfl ?_
    refine W.aloadN 372 at_371 rfl rfl rfl ?_
    refine W.iload 374 at_372 rfl rfl ?_
    refine W.aaload 375 at_374 rfl A2.ary rfl j (own_j32 j hj).1 (own_j32 j hj).2 (.ref (e j)) (own_el e j hj) ?_
    refine W.callV (rest := []) (argsL := [(.ref (e j))]) (a := (e 12)) 378 at_375 rfl (fun hn => c_wi12 l Z a0 hw e j _ n0 hn hj hDT.2.2.1 hDT.2.2.2 hDT.1.1) (hDT.2.1 12 (by decide)) (wd_48 hw) (wd_49 hw) (wd_51 hw) rfl (wd_50 hw) (wd_3 hw) (wd_52 hw) (by decide) pd_0 rfl rfl rfl (by decide) 0 (Nat.le_of_ble_eq_true rfl) (by decide) (by decide) (by decide) ?_
    rintro v1076 h1076 ⟨rfl, rfl⟩
    show W _ _ _ _ _ _ _ _ _ _ _ 2 40 378 #[.val (.int p0), .val (.int p1), .val (.ref b2), .val (.ref b3), .val (.int (12 : Int32)), .val (.int j.toInt32), .val (.int (0 : Int32))] [(.int (if j ∈ ([0, 12, 11, 10, 9, 8, 1] : List Nat) then 1 else 0 : Int32))]
    refine W.iload 380 at_378 rfl rfl ?_
    refine W.icmp_ne 387 383 at_380 rfl rfl (fun hc => absurd (if_neg ((own_x12 ⟨j, hj⟩).mp hc1075)) hc) (fun _ => ?_)
    refine W.iconst 384 at_383 rfl (1 : Int32) rfl ?_
    refine W.goto 388 at_384 rfl ?_
    exact W.ireturnN (t := .boolean) at_388 rfl (by simp) (1 : Int32) rfl rfl (by decide) (by decide)
  · intro hc1075
    refine W.iconst 361 at_360 rfl (1 : Int32) rfl ?_
    refine W.goto 365 at_361 rfl ?_
    refine W.istore 367 at_365 rfl #[.val (.int p0), .val (.int p1), .val (.ref b2), .val (.ref b3), .val (.int (12 : Int32)), .val (.int j.toInt32), .val (.int (1 : Int32))] rfl ?_
    refine W.aloadN 368 at_367 rfl rfl rfl ?_
    refine W.iload 370 at_368 rfl rfl ?_
    refine W.aaload 371 at_370 rfl A2.ary rfl 12 (by decide) (by decide) (.ref (e 12)) rfl ?_
    refine W.aloadN 372 at_371 rfl rfl rfl ?_
    refine W.iload 374 at_372 rfl rfl ?_
    refine W.aaload 375 at_374 rfl A2.ary rfl j (own_j32 j hj).1 (own_j32 j hj).2 (.ref (e j)) (own_el e j hj) ?_
    refine W.callV (rest := []) (argsL := [(.ref (e j))]) (a := (e 12)) 378 at_375 rfl (fun hn => c_wi12 l Z a0 hw e j _ n0 hn hj hDT.2.2.1 hDT.2.2.2 hDT.1.1) (hDT.2.1 12 (by decide)) (wd_48 hw) (wd_49 hw) (wd_51 hw) rfl (wd_50 hw) (wd_3 hw) (wd_52 hw) (by decide) pd_0 rfl rfl rfl (by decide) 0 (Nat.le_of_ble_eq_true rfl) (by decide) (by decide) (by decide) ?_
    rintro v1077 h1077 ⟨rfl, rfl⟩
    show W _ _ _ _ _ _ _ _ _ _ _ 2 40 378 #[.val (.int p0), .val (.int p1), .val (.ref b2), .val (.ref b3), .val (.int (12 : Int32)), .val (.int j.toInt32), .val (.int (1 : Int32))] [(.int (if j ∈ ([0, 12, 11, 10, 9, 8, 1] : List Nat) then 1 else 0 : Int32))]
    refine W.iload 380 at_378 rfl rfl ?_
    refine W.icmp_ne 387 383 at_380 rfl rfl (fun hc => absurd (if_pos (Classical.byContradiction fun q => hc1075 ((own_x12 ⟨j, hj⟩).mpr q))) hc) (fun _ => ?_)
    refine W.iconst 384 at_383 rfl (1 : Int32) rfl ?_
    refine W.goto 388 at_384 rfl ?_
    exact W.ireturnN (t := .boolean) at_388 rfl (by simp) (1 : Int32) rfl rfl (by decide) (by decide)
set_option maxRecDepth 65536 in
set_option maxHeartbeats 40000000 in
theorem l348_13 (l : Launch) (Z : State) (a0 : Array Value) (hw : ∀ d ∈ tables_1, d.before a0 Z = true) (p0 p1 : Int32) (b2 b3 : Addr) (e : Nat → Addr) (j : Nat) (h : Heap) (n0 : Nat) (hj : j < 19) (hDT : own_DT Z h e) (A2 : AryO Z h b2 "com/example/pathweave/pathweave/model/Datatype" [(.ref (e 0)), (.ref (e 1)), (.ref (e 2)), (.ref (e 3)), (.ref (e 4)), (.ref (e 5)), (.ref (e 6)), (.ref (e 7)), (.ref (e 8)), (.ref (e 9)), (.ref (e 10)), (.ref (e 11)), (.ref (e 12)), (.ref (e 13)), (.ref (e 14)), (.ref (e 15)), (.ref (e 16)), (.ref (e 17)), (.ref (e 18))]) (A3 : Ary Z h b3 .int [(.int (1 : Int32)), (.int (3 : Int32)), (.int (5 : Int32)), (.int (9 : Int32)), (.int (25 : Int32)), (.int (57 : Int32)), (.int (121 : Int32)), (.int (249 : Int32)), (.int (259 : Int32)), (.int (771 : Int32)), (.int (1795 : Int32)), (.int (3843 : Int32)), (.int (7939 : Int32)), (.int (16131 : Int32)), (.int (16385 : Int32)), (.int (32769 : Int32)), (.int (65537 : Int32)), (.int (131073 : Int32)), (.int (393217 : Int32))]) : W l room_1 Z "com/example/pathweave/pathweave/model/DatatypeWithinPinLaw" "law" code maxLocals ret n0 (fun r _ => r = some (.int 1)) h 2 40 348 #[.val (.int p0), .val (.int p1), .val (.ref b2), .val (.ref b3), .val (.int (13 : Int32)), .val (.int j.toInt32), .unset] [] := by
  refine W.aloadN 349 at_348 rfl rfl rfl ?_
  refine W.iload 351 at_349 rfl rfl ?_
  refine W.iaload 352 at_351 rfl A3 13 (by decide) (by decide) (.int (16131 : Int32)) rfl ?_
  refine W.iload 354 at_352 rfl rfl ?_
  refine W.iushr 355 at_354 rfl (((16131 : Int32).toUInt32 >>> (j.toInt32 &&& 31).toUInt32).toInt32) rfl ?_
  refine W.iconst 356 at_355 rfl (1 : Int32) rfl ?_
  refine W.iand 357 at_356 rfl ((((16131 : Int32).toUInt32 >>> (j.toInt32 &&& 31).toUInt32).toInt32) &&& (1 : Int32)) rfl ?_
  refine W.if_eq 364 360 at_357 rfl rfl ?_ ?_
  · intro hc1078
    refine W.iconst 365 at_364 rfl (0 : Int32) rfl ?_
    refine W.istore 367 at_365 rfl #[.val (.int p0), .val (.int p1), .val (.ref b2), .val (.ref b3), .val (.int (13 : Int32)), .val (.int j.toInt32), .val (.int (0 : Int32))] rfl ?_
    refine W.aloadN 368 at_367 rfl rfl rfl ?_
    refine W.iload 370 at_368 rfl rfl ?_
    refine W.aaload 371 at_370 rfl A2.ary rfl 13 (by decide) (by decide) (.ref (e 13)) rfl ?_
    refine W.aloadN 372 at_371 rfl rfl rfl ?_
    refine W.iload 374 at_372 rfl rfl ?_
    refine W.aaload 375 at_374 rfl A2.ary rfl j (own_j32 j hj).1 (own_j32 j hj).2 (.ref (e j)) (own_el e j hj) ?_
    refine W.callV (rest := []) (argsL := [(.ref (e j))]) (a := (e 13)) 378 at_375 rfl (fun hn => c_wi13 l Z a0 hw e j _ n0 hn hj hDT.2.2.1 hDT.2.2.2 hDT.1.1) (hDT.2.1 13 (by decide)) (wd_48 hw) (wd_49 hw) (wd_51 hw) rfl (wd_50 hw) (wd_3 hw) (wd_52 hw) (by decide) pd_0 rfl rfl rfl (by decide) 0 (Nat.le_of_ble_eq_true rfl) (by decide) (by decide) (by decide) ?_
    rintro v1079 h1079 ⟨rfl, rfl⟩
    show W _ _ _ _ _ _ _ _ _ _ _ 2 40 378 #[.val (.int p0), .val (.int p1), .val (.ref b2), .val (.ref b3), .val (.int (13 : Int32)), .val (.int j.toInt32), .val (.int (0 : Int32))] [(.int (if j ∈ ([0, 13, 12, 11, 10, 9, 8, 1] : List Nat) then 1 else 0 : Int32))]
    refine W.iload 380 at_378 rfl rfl ?_
    refine W.icmp_ne 387 383 at_380 rfl rfl (fun hc => absurd (if_neg ((own_x13 ⟨j, hj⟩).mp hc1078)) hc) (fun _ => ?_)
    refine W.iconst 384 at_383 rfl (1 : Int32) rfl ?_
    refine W.goto 388 at_384 rfl ?_
    exact W.ireturnN (t := .boolean) at_388 rfl (by simp) (1 : Int32) rfl rfl (by decide) (by decide)
  · intro hc1078
    refine W.iconst 361 at_360 rfl (1 : Int32) rfl ?_
    refine W.goto 365 at_361 rfl ?_
    refine W.istore 367 at_365 rfl #[.val (.int p0), .val (.int p1), .val (.ref b2), .val (.ref b3), .val (.int (13 : Int32)), .val (.int j.toInt32), .val (.int (1 : Int32))] rfl ?_
    refine W.aloadN 368 at_367 rfl rfl rfl ?_
    refine W.iload 370 at_368 rfl rfl ?_
    refine W.aaload 371 at_370 rfl A2.ary rfl 13 (by decide) (by decide) (.ref (e 13)) rfl ?_
    refine W.aloadN 372 at_371 rfl rfl rfl ?_
    refine W.iload 374 at_372 rfl rfl ?_
    refine W.aaload 375 at_374 rfl A2.ary rfl j (own_j32 j hj).1 (own_j32 j hj).2 (.ref (e j)) (own_el e j hj) ?_
    refine W.callV (rest := []) (argsL := [(.ref (e j))]) (a := (e 13)) 378 at_375 rfl (fun hn => c_wi13 l Z a0 hw e j _ n0 hn hj hDT.2.2.1 hDT.2.2.2 hDT.1.1) (hDT.2.1 13 (by decide)) (wd_48 hw) (wd_49 hw) (wd_51 hw) rfl (wd_50 hw) (wd_3 hw) (wd_52 hw) (by decide) pd_0 rfl rfl rfl (by decide) 0 (Nat.le_of_ble_eq_true rfl) (by decide) (by decide) (by decide) ?_
    rintro v1080 h1080 ⟨rfl, rfl⟩
    show W _ _ _ _ _ _ _ _ _ _ _ 2 40 378 #[.val (.int p0), .val (.int p1), .val (.ref b2), .val (.ref b3), .val (.int (13 : Int32)), .val (.int j.toInt32), .val (.int (1 : Int32))] [(.int (if j ∈ ([0, 13, 12, 11, 10, 9, 8, 1] : List Nat) then 1 else 0 : Int32))]
    refine W.iload 380 at_378 rfl rfl ?_
    refine W.icmp_ne 387 383 at_380 rfl rfl (fun hc => absurd (if_pos (Classical.byContradiction fun q => hc1078 ((own_x13 ⟨j, hj⟩).mpr q))) hc) (fun _ => ?_)
    refine W.iconst 384 at_383 rfl (1 : Int32) rfl ?_
    refine W.goto 388 at_384 rfl ?_
    exact W.ireturnN (t := .boolean) at_388 rfl (by simp) (1 : Int32) rfl rfl (by decide) (by decide)
set_option maxRecDepth 65536 in
set_option maxHeartbeats 40000000 in
theorem l348_14 (l : Launch) (Z : State) (a0 : Array Value) (hw : ∀ d ∈ tables_1, d.before a0 Z = true) (p0 p1 : Int32) (b2 b3 : Addr) (e : Nat → Addr) (j : Nat) (h : Heap) (n0 : Nat) (hj : j < 19) (hDT : own_DT Z h e) (A2 : AryO Z h b2 "com/example/pathweave/pathweave/model/Datatype" [(.ref (e 0)), (.ref (e 1)), (.ref (e 2)), (.ref (e 3)), (.ref (e 4)), (.ref (e 5)), (.ref (e 6)), (.ref (e 7)), (.ref (e 8)), (.ref (e 9)), (.ref (e 10)), (.ref (e 11)), (.ref (e 12)), (.ref (e 13)), (.ref (e 14)), (.ref (e 15)), (.ref (e 16)), (.ref (e 17)), (.ref (e 18))]) (A3 : Ary Z h b3 .int [(.int (1 : Int32)), (.int (3 : Int32)), (.int (5 : Int32)), (.int (9 : Int32)), (.int (25 : Int32)), (.int (57 : Int32)), (.int (121 : Int32)), (.int (249 : Int32)), (.int (259 : Int32)), (.int (771 : Int32)), (.int (1795 : Int32)), (.int (3843 : Int32)), (.int (7939 : Int32)), (.int (16131 : Int32)), (.int (16385 : Int32)), (.int (32769 : Int32)), (.int (65537 : Int32)), (.int (131073 : Int32)), (.int (393217 : Int32))]) : W l room_1 Z "com/example/pathweave/pathweave/model/DatatypeWithinPinLaw" "law" code maxLocals ret n0 (fun r _ => r = some (.int 1)) h 2 40 348 #[.val (.int p0), .val (.int p1), .val (.ref b2), .val (.ref b3), .val (.int (14 : Int32)), .val (.int j.toInt32), .unset] [] := by
  refine W.aloadN 349 at_348 rfl rfl rfl ?_
  refine W.iload 351 at_349 rfl rfl ?_
  refine W.iaload 352 at_351 rfl A3 14 (by decide) (by decide) (.int (16385 : Int32)) rfl ?_
  refine W.iload 354 at_352 rfl rfl ?_
  refine W.iushr 355 at_354 rfl (((16385 : Int32).toUInt32 >>> (j.toInt32 &&& 31).toUInt32).toInt32) rfl ?_
  refine W.iconst 356 at_355 rfl (1 : Int32) rfl ?_
  refine W.iand 357 at_356 rfl ((((16385 : Int32).toUInt32 >>> (j.toInt32 &&& 31).toUInt32).toInt32) &&& (1 : Int32)) rfl ?_
  refine W.if_eq 364 360 at_357 rfl rfl ?_ ?_
  · intro hc1081
    refine W.iconst 365 at_364 rfl (0 : Int32) rfl ?_
    refine W.istore 367 at_365 rfl #[.val (.int p0), .val (.int p1), .val (.ref b2), .val (.ref b3), .val (.int (14 : Int32)), .val (.int j.toInt32), .val (.int (0 : Int32))] rfl ?_
    refine W.aloadN 368 at_367 rfl rfl rfl ?_
    refine W.iload 370 at_368 rfl rfl ?_
    refine W.aaload 371 at_370 rfl A2.ary rfl 14 (by decide) (by decide) (.ref (e 14)) rfl ?_
    refine W.aloadN 372 at_371 rfl rfl rfl ?_
    refine W.iload 374 at_372 rfl rfl ?_
    refine W.aaload 375 at_374 rfl A2.ary rfl j (own_j32 j hj).1 (own_j32 j hj).2 (.ref (e j)) (own_el e j hj) ?_
    refine W.callV (rest := []) (argsL := [(.ref (e j))]) (a := (e 14)) 378 at_375 rfl (fun hn => c_wi14 l Z a0 hw e j _ n0 hn hj hDT.2.2.1 hDT.2.2.2 hDT.1.1) (hDT.2.1 14 (by decide)) (wd_48 hw) (wd_49 hw) (wd_51 hw) rfl (wd_50 hw) (wd_3 hw) (wd_52 hw) (by decide) pd_0 rfl rfl rfl (by decide) 0 (Nat.le_of_ble_eq_true rfl) (by decide) (by decide) (by decide) ?_
    rintro v1082 h1082 ⟨rfl, rfl⟩
    show W _ _ _ _ _ _ _ _ _ _ _ 2 40 378 #[.val (.int p0), .val (.int p1), .val (.ref b2), .val (.ref b3), .val (.int (14 : Int32)), .val (.int j.toInt32), .val (.int (0 : Int32))] [(.int (if j ∈ ([0, 14] : List Nat) then 1 else 0 : Int32))]
    refine W.iload 380 at_378 rfl rfl ?_
    refine W.icmp_ne 387 383 at_380 rfl rfl (fun hc => absurd (if_neg ((own_x14 ⟨j, hj⟩).mp hc1081)) hc) (fun _ => ?_)
    refine W.iconst 384 at_383 rfl (1 : Int32) rfl ?_
    refine W.goto 388 at_384 rfl ?_
    exact W.ireturnN (t := .boolean) at_388 rfl (by simp) (1 : Int32) rfl rfl (by decide) (by decide)
  · intro hc1081
    refine W.iconst 361 at_360 rfl (1 : Int32) rfl ?_
    refine W.goto 365 at_361 rfl ?_
    refine W.istore 367 at_365 rfl #[.val (.int p0), .val (.int p1), .val (.ref b2), .val (.ref b3), .val (.int (14 : Int32)), .val (.int j.toInt32), .val (.int (1 : Int32))] rfl ?_
    refine W.aloadN 368 at_367 rfl rfl rfl ?_
    refine W.iload 370 at_368 rfl rfl ?_
    refine W.aaload 371 at_370 rfl A2.ary rfl 14 (by decide) (by decide) (.ref (e 14)) rfl ?_
    refine W.aloadN 372 at_371 rfl rfl rfl ?_
    refine W.iload 374 at_372 rfl rfl ?_
    refine W.aaload 375 at_374 rfl A2.ary rfl j (own_j32 j hj).1 (own_j32 j hj).2 (.ref (e j)) (own_el e j hj) ?_
    refine W.callV (rest := []) (argsL := [(.ref (e j))]) (a := (e 14)) 378 at_375 rfl (fun hn => c_wi14 l Z a0 hw e j _ n0 hn hj hDT.2.2.1 hDT.2.2.2 hDT.1.1) (hDT.2.1 14 (by decide)) (wd_48 hw) (wd_49 hw) (wd_51 hw) rfl (wd_50 hw) (wd_3 hw) (wd_52 hw) (by decide) pd_0 rfl rfl rfl (by decide) 0 (Nat.le_of_ble_eq_true rfl) (by decide) (by decide) (by decide) ?_
    rintro v1083 h1083 ⟨rfl, rfl⟩
    show W _ _ _ _ _ _ _ _ _ _ _ 2 40 378 #[.val (.int p0), .val (.int p1), .val (.ref b2), .val (.ref b3), .val (.int (14 : Int32)), .val (.int j.toInt32), .val (.int (1 : Int32))] [(.int (if j ∈ ([0, 14] : List Nat) then 1 else 0 : Int32))]
    refine W.iload 380 at_378 rfl rfl ?_
    refine W.icmp_ne 387 383 at_380 rfl rfl (fun hc => absurd (if_pos (Classical.byContradiction fun q => hc1081 ((own_x14 ⟨j, hj⟩).mpr q))) hc) (fun _ => ?_)
    refine W.iconst 384 at_383 rfl (1 : Int32) rfl ?_
    refine W.goto 388 at_384 rfl ?_
    exact W.ireturnN (t := .boolean) at_388 rfl (by simp) (1 : Int32) rfl rfl (by decide) (by decide)
set_option maxRecDepth 65536 in
set_option maxHeartbeats 40000000 in
theorem l348_15 (l : Launch) (Z : State) (a0 : Array Value) (hw : ∀ d ∈ tables_1, d.before a0 Z = true) (p0 p1 : Int32) (b2 b3 : Addr) (e : Nat → Addr) (j : Nat) (h : Heap) (n0 : Nat) (hj : j < 19) (hDT : own_DT Z h e) (A2 : AryO Z h b2 "com/example/pathweave/pathweave/model/Datatype" [(.ref (e 0)), (.ref (e 1)), (.ref (e 2)), (.ref (e 3)), (.ref (e 4)), (.ref (e 5)), (.ref (e 6)), (.ref (e 7)), (.ref (e 8)), (.ref (e 9)), (.ref (e 10)), (.ref (e 11)), (.ref (e 12)), (.ref (e 13)), (.ref (e 14)), (.ref (e 15)), (.ref (e 16)), (.ref (e 17)), (.ref (e 18))]) (A3 : Ary Z h b3 .int [(.int (1 : Int32)), (.int (3 : Int32)), (.int (5 : Int32)), (.int (9 : Int32)), (.int (25 : Int32)), (.int (57 : Int32)), (.int (121 : Int32)), (.int (249 : Int32)), (.int (259 : Int32)), (.int (771 : Int32)), (.int (1795 : Int32)), (.int (3843 : Int32)), (.int (7939 : Int32)), (.int (16131 : Int32)), (.int (16385 : Int32)), (.int (32769 : Int32)), (.int (65537 : Int32)), (.int (131073 : Int32)), (.int (393217 : Int32))]) : W l room_1 Z "com/example/pathweave/pathweave/model/DatatypeWithinPinLaw" "law" code maxLocals ret n0 (fun r _ => r = some (.int 1)) h 2 40 348 #[.val (.int p0), .val (.int p1), .val (.ref b2), .val (.ref b3), .val (.int (15 : Int32)), .val (.int j.toInt32), .unset] [] := by
  refine W.aloadN 349 at_348 rfl rfl rfl ?_
  refine W.iload 351 at_349 rfl rfl ?_
  refine W.iaload 352 at_351 rfl A3 15 (by decide) (by decide) (.int (32769 : Int32)) rfl ?_
  refine W.iload 354 at_352 rfl rfl ?_
  refine W.iushr 355 at_354 rfl (((32769 : Int32).toUInt32 >>> (j.toInt32 &&& 31).toUInt32).toInt32) rfl ?_
  refine W.iconst 356 at_355 rfl (1 : Int32) rfl ?_
  refine W.iand 357 at_356 rfl ((((32769 : Int32).toUInt32 >>> (j.toInt32 &&& 31).toUInt32).toInt32) &&& (1 : Int32)) rfl ?_
  refine W.if_eq 364 360 at_357 rfl rfl ?_ ?_
  · intro hc1084
    refine W.iconst 365 at_364 rfl (0 : Int32) rfl ?_
    refine W.istore 367 at_365 rfl #[.val (.int p0), .val (.int p1), .val (.ref b2), .val (.ref b3), .val (.int (15 : Int32)), .val (.int j.toInt32), .val (.int (0 : Int32))] rfl ?_
    refine W.aloadN 368 at_367 rfl rfl rfl ?_
    refine W.iload 370 at_368 rfl rfl ?_
    refine W.aaload 371 at_370 rfl A2.ary rfl 15 (by decide) (by decide) (.ref (e 15)) rfl ?_
    refine W.aloadN 372 at_371 rfl rfl rfl ?_
    refine W.iload 374 at_372 rfl rfl ?_
    refine W.aaload 375 at_374 rfl A2.ary rfl j (own_j32 j hj).1 (own_j32 j hj).2 (.ref (e j)) (own_el e j hj) ?_
    refine W.callV (rest := []) (argsL := [(.ref (e j))]) (a := (e 15)) 378 at_375 rfl (fun hn => c_wi15 l Z a0 hw e j _ n0 hn hj hDT.2.2.1 hDT.2.2.2 hDT.1.1) (hDT.2.1 15 (by decide)) (wd_48 hw) (wd_49 hw) (wd_51 hw) rfl (wd_50 hw) (wd_3 hw) (wd_52 hw) (by decide) pd_0 rfl rfl rfl (by decide) 0 (Nat.le_of_ble_eq_true rfl) (by decide) (by decide) (by decide) ?_
    rintro v1085 h1085 ⟨rfl, rfl⟩
    show W _ _ _ _ _ _ _ _ _ _ _ 2 40 378 #[.val (.int p0), .val (.int p1), .val (.ref b2), .val (.ref b3), .val (.int (15 : Int32)), .val (.int j.toInt32), .val (.int (0 : Int32))] [(.int (if j ∈ ([0, 15] : List Nat) then 1 else 0 : Int32))]
    refine W.iload 380 at_378 rfl rfl ?_
    refine W.icmp_ne 387 383 at_380 rfl rfl (fun hc => absurd (if_neg ((own_x15 ⟨j, hj⟩).mp hc1084)) hc) (fun _ => ?_)
    refine W.iconst 384 at_383 rfl (1 : Int32) rfl ?_
    refine W.goto 388 at_384 rfl ?_
    exact W.ireturnN (t := .boolean) at_388 rfl (by simp) (1 : Int32) rfl rfl (by decide) (by decide)
  · intro hc1084
    refine W.iconst 361 at_360 rfl (1 : Int32) rfl ?_
    refine W.goto 365 at_361 rfl ?_
    refine W.istore 367 at_365 rfl #[.val (.int p0), .val (.int p1), .val (.ref b2), .val (.ref b3), .val (.int (15 : Int32)), .val (.int j.toInt32), .val (.int (1 : Int32))] rfl ?_
    refine W.aloadN 368 at_367 rfl rfl rfl ?_
    refine W.iload 370 at_368 rfl rfl ?_
    refine W.aaload 371 at_370 rfl A2.ary rfl 15 (by decide) (by decide) (.ref (e 15)) rfl ?_
    refine W.aloadN 372 at_371 rfl rfl rfl ?_
    refine W.iload 374 at_372 rfl rfl ?_
    refine W.aaload 375 at_374 rfl A2.ary rfl j (own_j32 j hj).1 (own_j32 j hj).2 (.ref (e j)) (own_el e j hj) ?_
    refine W.callV (rest := []) (argsL := [(.ref (e j))]) (a := (e 15)) 378 at_375 rfl (fun hn => c_wi15 l Z a0 hw e j _ n0 hn hj hDT.2.2.1 hDT.2.2.2 hDT.1.1) (hDT.2.1 15 (by decide)) (wd_48 hw) (wd_49 hw) (wd_51 hw) rfl (wd_50 hw) (wd_3 hw) (wd_52 hw) (by decide) pd_0 rfl rfl rfl (by decide) 0 (Nat.le_of_ble_eq_true rfl) (by decide) (by decide) (by decide) ?_
    rintro v1086 h1086 ⟨rfl, rfl⟩
    show W _ _ _ _ _ _ _ _ _ _ _ 2 40 378 #[.val (.int p0), .val (.int p1), .val (.ref b2), .val (.ref b3), .val (.int (15 : Int32)), .val (.int j.toInt32), .val (.int (1 : Int32))] [(.int (if j ∈ ([0, 15] : List Nat) then 1 else 0 : Int32))]
    refine W.iload 380 at_378 rfl rfl ?_
    refine W.icmp_ne 387 383 at_380 rfl rfl (fun hc => absurd (if_pos (Classical.byContradiction fun q => hc1084 ((own_x15 ⟨j, hj⟩).mpr q))) hc) (fun _ => ?_)
    refine W.iconst 384 at_383 rfl (1 : Int32) rfl ?_
    refine W.goto 388 at_384 rfl ?_
    exact W.ireturnN (t := .boolean) at_388 rfl (by simp) (1 : Int32) rfl rfl (by decide) (by decide)
set_option maxRecDepth 65536 in
set_option maxHeartbeats 40000000 in
theorem l348_16 (l : Launch) (Z : State) (a0 : Array Value) (hw : ∀ d ∈ tables_1, d.before a0 Z = true) (p0 p1 : Int32) (b2 b3 : Addr) (e : Nat → Addr) (j : Nat) (h : Heap) (n0 : Nat) (hj : j < 19) (hDT : own_DT Z h e) (A2 : AryO Z h b2 "com/example/pathweave/pathweave/model/Datatype" [(.ref (e 0)), (.ref (e 1)), (.ref (e 2)), (.ref (e 3)), (.ref (e 4)), (.ref (e 5)), (.ref (e 6)), (.ref (e 7)), (.ref (e 8)), (.ref (e 9)), (.ref (e 10)), (.ref (e 11)), (.ref (e 12)), (.ref (e 13)), (.ref (e 14)), (.ref (e 15)), (.ref (e 16)), (.ref (e 17)), (.ref (e 18))]) (A3 : Ary Z h b3 .int [(.int (1 : Int32)), (.int (3 : Int32)), (.int (5 : Int32)), (.int (9 : Int32)), (.int (25 : Int32)), (.int (57 : Int32)), (.int (121 : Int32)), (.int (249 : Int32)), (.int (259 : Int32)), (.int (771 : Int32)), (.int (1795 : Int32)), (.int (3843 : Int32)), (.int (7939 : Int32)), (.int (16131 : Int32)), (.int (16385 : Int32)), (.int (32769 : Int32)), (.int (65537 : Int32)), (.int (131073 : Int32)), (.int (393217 : Int32))]) : W l room_1 Z "com/example/pathweave/pathweave/model/DatatypeWithinPinLaw" "law" code maxLocals ret n0 (fun r _ => r = some (.int 1)) h 2 40 348 #[.val (.int p0), .val (.int p1), .val (.ref b2), .val (.ref b3), .val (.int (16 : Int32)), .val (.int j.toInt32), .unset] [] := by
  refine W.aloadN 349 at_348 rfl rfl rfl ?_
  refine W.iload 351 at_349 rfl rfl ?_
  refine W.iaload 352 at_351 rfl A3 16 (by decide) (by decide) (.int (65537 : Int32)) rfl ?_
  refine W.iload 354 at_352 rfl rfl ?_
  refine W.iushr 355 at_354 rfl (((65537 : Int32).toUInt32 >>> (j.toInt32 &&& 31).toUInt32).toInt32) rfl ?_
  refine W.iconst 356 at_355 rfl (1 : Int32) rfl ?_
  refine W.iand 357 at_356 rfl ((((65537 : Int32).toUInt32 >>> (j.toInt32 &&& 31).toUInt32).toInt32) &&& (1 : Int32)) rfl ?_
  refine W.if_eq 364 360 at_357 rfl rfl ?_ ?_
  · intro hc1087
    refine W.iconst 365 at_364 rfl (0 : Int32) rfl ?_
    refine W.istore 367 at_365 rfl #[.val (.int p0), .val (.int p1), .val (.ref b2), .val (.ref b3), .val (.int (16 : Int32)), .val (.int j.toInt32), .val (.int (0 : Int32))] rfl ?_
    refine W.aloadN 368 at_367 rfl rfl rfl ?_
    refine W.iload 370 at_368 rfl rfl ?_
    refine W.aaload 371 at_370 rfl A2.ary rfl 16 (by decide) (by decide) (.ref (e 16)) rfl ?_
    refine W.aloadN 372 at_371 rfl rfl rfl ?_
    refine W.iload 374 at_372 rfl rfl ?_
    refine W.aaload 375 at_374 rfl A2.ary rfl j (own_j32 j hj).1 (own_j32 j hj).2 (.ref (e j)) (own_el e j hj) ?_
    refine W.callV (rest := []) (argsL := [(.ref (e j))]) (a := (e 16)) 378 at_375 rfl (fun hn => c_wi16 l Z a0 hw e j _ n0 hn hj hDT.2.2.1 hDT.2.2.2 hDT.1.1) (hDT.2.1 16 (by decide)) (wd_48 hw) (wd_49 hw) (wd_51 hw) rfl (wd_50 hw) (wd_3 hw) (wd_52 hw) (by decide) pd_0 rfl rfl rfl (by decide) 0 (Nat.le_of_ble_eq_true rfl) (by decide) (by decide) (by decide) ?_
    rintro v1088 h1088 ⟨rfl, rfl⟩
    show W _ _ _ _ _ _ _ _ _ _ _ 2 40 378 #[.val (.int p0), .val (.int p1), .val (.ref b2), .val (.ref b3), .val (.int (16 : Int32)), .val (.int j.toInt32), .val (.int (0 : Int32))] [(.int (if j ∈ ([0, 16] : List Nat) then 1 else 0 : Int32))]
    refine W.iload 380 at_378 rfl rfl ?_
    refine W.icmp_ne 387 383 at_380 rfl rfl (fun hc => absurd (if_neg ((own_x16 ⟨j, hj⟩).mp hc1087)) hc) (fun _ => ?_)
    refine W.iconst 384 at_383 rfl (1 : Int32) rfl ?_
    refine W.goto 388 at_384 rfl ?_
    exact W.ireturnN (t := .boolean) at_388 rfl (by simp) (1 : Int32) rfl rfl (by decide) (by decide)
  · intro hc1087
    refine W.iconst 361 at_360 rfl (1 : Int32) rfl ?_
    refine W.goto 365 at_361 rfl ?_
    refine W.istore 367 at_365 rfl #[.val (.int p0), .val (.int p1), .val (.ref b2), .val (.ref b3), .val (.int (16 : Int32)), .val (.int j.toInt32), .val (.int (1 : Int32))] rfl ?_
    refine W.aloadN 368 at_367 rfl rfl rfl ?_
    refine W.iload 370 at_368 rfl rfl ?_
    refine W.aaload 371 at_370 rfl A2.ary rfl 16 (by decide) (by decide) (.ref (e 16)) rfl ?_
    refine W.aloadN 372 at_371 rfl rfl rfl ?_
    refine W.iload 374 at_372 rfl rfl ?_
    refine W.aaload 375 at_374 rfl A2.ary rfl j (own_j32 j hj).1 (own_j32 j hj).2 (.ref (e j)) (own_el e j hj) ?_
    refine W.callV (rest := []) (argsL := [(.ref (e j))]) (a := (e 16)) 378 at_375 rfl (fun hn => c_wi16 l Z a0 hw e j _ n0 hn hj hDT.2.2.1 hDT.2.2.2 hDT.1.1) (hDT.2.1 16 (by decide)) (wd_48 hw) (wd_49 hw) (wd_51 hw) rfl (wd_50 hw) (wd_3 hw) (wd_52 hw) (by decide) pd_0 rfl rfl rfl (by decide) 0 (Nat.le_of_ble_eq_true rfl) (by decide) (by decide) (by decide) ?_
    rintro v1089 h1089 ⟨rfl, rfl⟩
    show W _ _ _ _ _ _ _ _ _ _ _ 2 40 378 #[.val (.int p0), .val (.int p1), .val (.ref b2), .val (.ref b3), .val (.int (16 : Int32)), .val (.int j.toInt32), .val (.int (1 : Int32))] [(.int (if j ∈ ([0, 16] : List Nat) then 1 else 0 : Int32))]
    refine W.iload 380 at_378 rfl rfl ?_
    refine W.icmp_ne 387 383 at_380 rfl rfl (fun hc => absurd (if_pos (Classical.byContradiction fun q => hc1087 ((own_x16 ⟨j, hj⟩).mpr q))) hc) (fun _ => ?_)
    refine W.iconst 384 at_383 rfl (1 : Int32) rfl ?_
    refine W.goto 388 at_384 rfl ?_
    exact W.ireturnN (t := .boolean) at_388 rfl (by simp) (1 : Int32) rfl rfl (by decide) (by decide)
set_option maxRecDepth 65536 in
set_option maxHeartbeats 40000000 in
theorem l348_17 (l : Launch) (Z : State) (a0 : Array Value) (hw : ∀ d ∈ tables_1, d.before a0 Z = true) (p0 p1 : Int32) (b2 b3 : Addr) (e : Nat → Addr) (j : Nat) (h : Heap) (n0 : Nat) (hj : j < 19) (hDT : own_DT Z h e) (A2 : AryO Z h b2 "com/example/pathweave/pathweave/model/Datatype" [(.ref (e 0)), (.ref (e 1)), (.ref (e 2)), (.ref (e 3)), (.ref (e 4)), (.ref (e 5)), (.ref (e 6)), (.ref (e 7)), (.ref (e 8)), (.ref (e 9)), (.ref (e 10)), (.ref (e 11)), (.ref (e 12)), (.ref (e 13)), (.ref (e 14)), (.ref (e 15)), (.ref (e 16)), (.ref (e 17)), (.ref (e 18))]) (A3 : Ary Z h b3 .int [(.int (1 : Int32)), (.int (3 : Int32)), (.int (5 : Int32)), (.int (9 : Int32)), (.int (25 : Int32)), (.int (57 : Int32)), (.int (121 : Int32)), (.int (249 : Int32)), (.int (259 : Int32)), (.int (771 : Int32)), (.int (1795 : Int32)), (.int (3843 : Int32)), (.int (7939 : Int32)), (.int (16131 : Int32)), (.int (16385 : Int32)), (.int (32769 : Int32)), (.int (65537 : Int32)), (.int (131073 : Int32)), (.int (393217 : Int32))]) : W l room_1 Z "com/example/pathweave/pathweave/model/DatatypeWithinPinLaw" "law" code maxLocals ret n0 (fun r _ => r = some (.int 1)) h 2 40 348 #[.val (.int p0), .val (.int p1), .val (.ref b2), .val (.ref b3), .val (.int (17 : Int32)), .val (.int j.toInt32), .unset] [] := by
  refine W.aloadN 349 at_348 rfl rfl rfl ?_
  refine W.iload 351 at_349 rfl rfl ?_
  refine W.iaload 352 at_351 rfl A3 17 (by decide) (by decide) (.int (131073 : Int32)) rfl ?_
  refine W.iload 354 at_352 rfl rfl ?_
  refine W.iushr 355 at_354 rfl (((131073 : Int32).toUInt32 >>> (j.toInt32 &&& 31).toUInt32).toInt32) rfl ?_
  refine W.iconst 356 at_355 rfl (1 : Int32) rfl ?_
  refine W.iand 357 at_356 rfl ((((131073 : Int32).toUInt32 >>> (j.toInt32 &&& 31).toUInt32).toInt32) &&& (1 : Int32)) rfl ?_
  refine W.if_eq 364 360 at_357 rfl rfl ?_ ?_
  · intro hc1090
    refine W.iconst 365 at_364 rfl (0 : Int32) rfl ?_
    refine W.istore 367 at_365 rfl #[.val (.int p0), .val (.int p1), .val (.ref b2), .val (.ref b3), .val (.int (17 : Int32)), .val (.int j.toInt32), .val (.int (0 : Int32))] rfl ?_
    refine W.aloadN 368 at_367 rfl rfl rfl ?_
    refine W.iload 370 at_368 rfl rfl ?_
    refine W.aaload 371 at_370 rfl A2.ary rfl 17 (by decide) (by decide) (.ref (e 17)) rfl ?_
    refine W.aloadN 372 at_371 rfl rfl rfl ?_
    refine W.iload 374 at_372 rfl rfl ?_
    refine W.aaload 375 at_374 rfl A2.ary rfl j (own_j32 j hj).1 (own_j32 j hj).2 (.ref (e j)) (own_el e j hj) ?_
    refine W.callV (rest := []) (argsL := [(.ref (e j))]) (a := (e 17)) 378 at_375 rfl (fun hn => c_wi17 l Z a0 hw e j _ n0 hn hj hDT.2.2.1 hDT.2.2.2 hDT.1.1) (hDT.2.1 17 (by decide)) (wd_48 hw) (wd_49 hw) (wd_51 hw) rfl (wd_50 hw) (wd_3 hw) (wd_52 hw) (by decide) pd_0 rfl rfl rfl (by decide) 0 (Nat.le_of_ble_eq_true rfl) (by decide) (by decide) (by decide) ?_
    rintro v1091 h1091 ⟨rfl, rfl⟩
    show W _ _ _ _ _ _ _ _ _ _ _ 2 40 378 #[.val (.int p0), .val (.int p1), .val (.ref b2), .val (.ref b3), .val (.int (17 : Int32)), .val (.int j.toInt32), .val (.int (0 : Int32))] [(.int (if j ∈ ([0, 17] : List Nat) then 1 else 0 : Int32))]
    refine W.iload 380 at_378 rfl rfl ?_
    refine W.icmp_ne 387 383 at_380 rfl rfl (fun hc => absurd (if_neg ((own_x17 ⟨j, hj⟩).mp hc1090)) hc) (fun _ => ?_)
    refine W.iconst 384 at_383 rfl (1 : Int32) rfl ?_
    refine W.goto 388 at_384 rfl ?_
    exact W.ireturnN (t := .boolean) at_388 rfl (by simp) (1 : Int32) rfl rfl (by decide) (by decide)
  · intro hc1090
    refine W.iconst 361 at_360 rfl (1 : Int32) rfl ?_
    refine W.goto 365 at_361 rfl ?_
    refine W.istore 367 at_365 rfl #[.val (.int p0), .val (.int p1), .val (.ref b2), .val (.ref b3), .val (.int (17 : Int32)), .val (.int j.toInt32), .val (.int (1 : Int32))] rfl ?_
    refine W.aloadN 368 at_367 rfl rfl rfl ?_
    refine W.iload 370 at_368 rfl rfl ?_
    refine W.aaload 371 at_370 rfl A2.ary rfl 17 (by decide) (by decide) (.ref (e 17)) rfl ?_
    refine W.aloadN 372 at_371 rfl rfl rfl ?_
    refine W.iload 374 at_372 rfl rfl ?_
    refine W.aaload 375 at_374 rfl A2.ary rfl j (own_j32 j hj).1 (own_j32 j hj).2 (.ref (e j)) (own_el e j hj) ?_
    refine W.callV (rest := []) (argsL := [(.ref (e j))]) (a := (e 17)) 378 at_375 rfl (fun hn => c_wi17 l Z a0 hw e j _ n0 hn hj hDT.2.2.1 hDT.2.2.2 hDT.1.1) (hDT.2.1 17 (by decide)) (wd_48 hw) (wd_49 hw) (wd_51 hw) rfl (wd_50 hw) (wd_3 hw) (wd_52 hw) (by decide) pd_0 rfl rfl rfl (by decide) 0 (Nat.le_of_ble_eq_true rfl) (by decide) (by decide) (by decide) ?_
    rintro v1092 h1092 ⟨rfl, rfl⟩
    show W _ _ _ _ _ _ _ _ _ _ _ 2 40 378 #[.val (.int p0), .val (.int p1), .val (.ref b2), .val (.ref b3), .val (.int (17 : Int32)), .val (.int j.toInt32), .val (.int (1 : Int32))] [(.int (if j ∈ ([0, 17] : List Nat) then 1 else 0 : Int32))]
    refine W.iload 380 at_378 rfl rfl ?_
    refine W.icmp_ne 387 383 at_380 rfl rfl (fun hc => absurd (if_pos (Classical.byContradiction fun q => hc1090 ((own_x17 ⟨j, hj⟩).mpr q))) hc) (fun _ => ?_)
    refine W.iconst 384 at_383 rfl (1 : Int32) rfl ?_
    refine W.goto 388 at_384 rfl ?_
    exact W.ireturnN (t := .boolean) at_388 rfl (by simp) (1 : Int32) rfl rfl (by decide) (by decide)
set_option maxRecDepth 65536 in
set_option maxHeartbeats 40000000 in
theorem l348_18 (l : Launch) (Z : State) (a0 : Array Value) (hw : ∀ d ∈ tables_1, d.before a0 Z = true) (p0 p1 : Int32) (b2 b3 : Addr) (e : Nat → Addr) (j : Nat) (h : Heap) (n0 : Nat) (hj : j < 19) (hDT : own_DT Z h e) (A2 : AryO Z h b2 "com/example/pathweave/pathweave/model/Datatype" [(.ref (e 0)), (.ref (e 1)), (.ref (e 2)), (.ref (e 3)), (.ref (e 4)), (.ref (e 5)), (.ref (e 6)), (.ref (e 7)), (.ref (e 8)), (.ref (e 9)), (.ref (e 10)), (.ref (e 11)), (.ref (e 12)), (.ref (e 13)), (.ref (e 14)), (.ref (e 15)), (.ref (e 16)), (.ref (e 17)), (.ref (e 18))]) (A3 : Ary Z h b3 .int [(.int (1 : Int32)), (.int (3 : Int32)), (.int (5 : Int32)), (.int (9 : Int32)), (.int (25 : Int32)), (.int (57 : Int32)), (.int (121 : Int32)), (.int (249 : Int32)), (.int (259 : Int32)), (.int (771 : Int32)), (.int (1795 : Int32)), (.int (3843 : Int32)), (.int (7939 : Int32)), (.int (16131 : Int32)), (.int (16385 : Int32)), (.int (32769 : Int32)), (.int (65537 : Int32)), (.int (131073 : Int32)), (.int (393217 : Int32))]) : W l room_1 Z "com/example/pathweave/pathweave/model/DatatypeWithinPinLaw" "law" code maxLocals ret n0 (fun r _ => r = some (.int 1)) h 2 40 348 #[.val (.int p0), .val (.int p1), .val (.ref b2), .val (.ref b3), .val (.int (18 : Int32)), .val (.int j.toInt32), .unset] [] := by
  refine W.aloadN 349 at_348 rfl rfl rfl ?_
  refine W.iload 351 at_349 rfl rfl ?_
  refine W.iaload 352 at_351 rfl A3 18 (by decide) (by decide) (.int (393217 : Int32)) rfl ?_
  refine W.iload 354 at_352 rfl rfl ?_
  refine W.iushr 355 at_354 rfl (((393217 : Int32).toUInt32 >>> (j.toInt32 &&& 31).toUInt32).toInt32) rfl ?_
  refine W.iconst 356 at_355 rfl (1 : Int32) rfl ?_
  refine W.iand 357 at_356 rfl ((((393217 : Int32).toUInt32 >>> (j.toInt32 &&& 31).toUInt32).toInt32) &&& (1 : Int32)) rfl ?_
  refine W.if_eq 364 360 at_357 rfl rfl ?_ ?_
  · intro hc1093
    refine W.iconst 365 at_364 rfl (0 : Int32) rfl ?_
    refine W.istore 367 at_365 rfl #[.val (.int p0), .val (.int p1), .val (.ref b2), .val (.ref b3), .val (.int (18 : Int32)), .val (.int j.toInt32), .val (.int (0 : Int32))] rfl ?_
    refine W.aloadN 368 at_367 rfl rfl rfl ?_
    refine W.iload 370 at_368 rfl rfl ?_
    refine W.aaload 371 at_370 rfl A2.ary rfl 18 (by decide) (by decide) (.ref (e 18)) rfl ?_
    refine W.aloadN 372 at_371 rfl rfl rfl ?_
    refine W.iload 374 at_372 rfl rfl ?_
    refine W.aaload 375 at_374 rfl A2.ary rfl j (own_j32 j hj).1 (own_j32 j hj).2 (.ref (e j)) (own_el e j hj) ?_
    refine W.callV (rest := []) (argsL := [(.ref (e j))]) (a := (e 18)) 378 at_375 rfl (fun hn => c_wi18 l Z a0 hw e j _ n0 hn hj hDT.2.2.1 hDT.2.2.2 hDT.1.1) (hDT.2.1 18 (by decide)) (wd_48 hw) (wd_49 hw) (wd_51 hw) rfl (wd_50 hw) (wd_3 hw) (wd_52 hw) (by decide) pd_0 rfl rfl rfl (by decide) 0 (Nat.le_of_ble_eq_true rfl) (by decide) (by decide) (by decide) ?_
    rintro v1094 h1094 ⟨rfl, rfl⟩
    show W _ _ _ _ _ _ _ _ _ _ _ 2 40 378 #[.val (.int p0), .val (.int p1), .val (.ref b2), .val (.ref b3), .val (.int (18 : Int32)), .val (.int j.toInt32), .val (.int (0 : Int32))] [(.int (if j ∈ ([0, 18, 17] : List Nat) then 1 else 0 : Int32))]
    refine W.iload 380 at_378 rfl rfl ?_
    refine W.icmp_ne 387 383 at_380 rfl rfl (fun hc => absurd (if_neg ((own_x18 ⟨j, hj⟩).mp hc1093)) hc) (fun _ => ?_)
    refine W.iconst 384 at_383 rfl (1 : Int32) rfl ?_
    refine W.goto 388 at_384 rfl ?_
    exact W.ireturnN (t := .boolean) at_388 rfl (by simp) (1 : Int32) rfl rfl (by decide) (by decide)
  · intro hc1093
    refine W.iconst 361 at_360 rfl (1 : Int32) rfl ?_
    refine W.goto 365 at_361 rfl ?_
    refine W.istore 367 at_365 rfl #[.val (.int p0), .val (.int p1), .val (.ref b2), .val (.ref b3), .val (.int (18 : Int32)), .val (.int j.toInt32), .val (.int (1 : Int32))] rfl ?_
    refine W.aloadN 368 at_367 rfl rfl rfl ?_
    refine W.iload 370 at_368 rfl rfl ?_
    refine W.aaload 371 at_370 rfl A2.ary rfl 18 (by decide) (by decide) (.ref (e 18)) rfl ?_
    refine W.aloadN 372 at_371 rfl rfl rfl ?_
    refine W.iload 374 at_372 rfl rfl ?_
    refine W.aaload 375 at_374 rfl A2.ary rfl j (own_j32 j hj).1 (own_j32 j hj).2 (.ref (e j)) (own_el e j hj) ?_
    refine W.callV (rest := []) (argsL := [(.ref (e j))]) (a := (e 18)) 378 at_375 rfl (fun hn => c_wi18 l Z a0 hw e j _ n0 hn hj hDT.2.2.1 hDT.2.2.2 hDT.1.1) (hDT.2.1 18 (by decide)) (wd_48 hw) (wd_49 hw) (wd_51 hw) rfl (wd_50 hw) (wd_3 hw) (wd_52 hw) (by decide) pd_0 rfl rfl rfl (by decide) 0 (Nat.le_of_ble_eq_true rfl) (by decide) (by decide) (by decide) ?_
    rintro v1095 h1095 ⟨rfl, rfl⟩
    show W _ _ _ _ _ _ _ _ _ _ _ 2 40 378 #[.val (.int p0), .val (.int p1), .val (.ref b2), .val (.ref b3), .val (.int (18 : Int32)), .val (.int j.toInt32), .val (.int (1 : Int32))] [(.int (if j ∈ ([0, 18, 17] : List Nat) then 1 else 0 : Int32))]
    refine W.iload 380 at_378 rfl rfl ?_
    refine W.icmp_ne 387 383 at_380 rfl rfl (fun hc => absurd (if_pos (Classical.byContradiction fun q => hc1093 ((own_x18 ⟨j, hj⟩).mpr q))) hc) (fun _ => ?_)
    refine W.iconst 384 at_383 rfl (1 : Int32) rfl ?_
    refine W.goto 388 at_384 rfl ?_
    exact W.ireturnN (t := .boolean) at_388 rfl (by simp) (1 : Int32) rfl rfl (by decide) (by decide)
theorem l_348 (l : Launch) (Z : State) (a0 : Array Value) (hw : ∀ d ∈ tables_1, d.before a0 Z = true) (p0 p1 : Int32) (b2 b3 : Addr) (e : Nat → Addr) (j : Nat) (h : Heap) (n0 : Nat) (hj : j < 19) (hDT : own_DT Z h e) (A2 : AryO Z h b2 "com/example/pathweave/pathweave/model/Datatype" [(.ref (e 0)), (.ref (e 1)), (.ref (e 2)), (.ref (e 3)), (.ref (e 4)), (.ref (e 5)), (.ref (e 6)), (.ref (e 7)), (.ref (e 8)), (.ref (e 9)), (.ref (e 10)), (.ref (e 11)), (.ref (e 12)), (.ref (e 13)), (.ref (e 14)), (.ref (e 15)), (.ref (e 16)), (.ref (e 17)), (.ref (e 18))]) (A3 : Ary Z h b3 .int [(.int (1 : Int32)), (.int (3 : Int32)), (.int (5 : Int32)), (.int (9 : Int32)), (.int (25 : Int32)), (.int (57 : Int32)), (.int (121 : Int32)), (.int (249 : Int32)), (.int (259 : Int32)), (.int (771 : Int32)), (.int (1795 : Int32)), (.int (3843 : Int32)), (.int (7939 : Int32)), (.int (16131 : Int32)), (.int (16385 : Int32)), (.int (32769 : Int32)), (.int (65537 : Int32)), (.int (131073 : Int32)), (.int (393217 : Int32))]) (ii : Int32) (hii : ii = 0 ∨ ii = 1 ∨ ii = 2 ∨ ii = 3 ∨ ii = 4 ∨ ii = 5 ∨ ii = 6 ∨ ii = 7 ∨ ii = 8 ∨ ii = 9 ∨ ii = 10 ∨ ii = 11 ∨ ii = 12 ∨ ii = 13 ∨ ii = 14 ∨ ii = 15 ∨ ii = 16 ∨ ii = 17 ∨ ii = 18) : W l room_1 Z "com/example/pathweave/pathweave/model/DatatypeWithinPinLaw" "law" code maxLocals ret n0 (fun r _ => r = some (.int 1)) h 2 40 348 #[.val (.int p0), .val (.int p1), .val (.ref b2), .val (.ref b3), .val (.int ii), .val (.int j.toInt32), .unset] [] := by
  rcases hii with rfl | rfl | rfl | rfl | rfl | rfl | rfl | rfl | rfl | rfl | rfl | rfl | rfl | rfl | rfl | rfl | rfl | rfl | rfl
  · exact l348_0 l Z a0 hw p0 p1 b2 b3 e j h n0 hj hDT A2 A3
  · exact l348_1 l Z a0 hw p0 p1 b2 b3 e j h n0 hj hDT A2 A3
  · exact l348_2 l Z a0 hw p0 p1 b2 b3 e j h n0 hj hDT A2 A3
  · exact l348_3 l Z a0 hw p0 p1 b2 b3 e j h n0 hj hDT A2 A3
  · exact l348_4 l Z a0 hw p0 p1 b2 b3 e j h n0 hj hDT A2 A3
  · exact l348_5 l Z a0 hw p0 p1 b2 b3 e j h n0 hj hDT A2 A3
  · exact l348_6 l Z a0 hw p0 p1 b2 b3 e j h n0 hj hDT A2 A3
  · exact l348_7 l Z a0 hw p0 p1 b2 b3 e j h n0 hj hDT A2 A3
  · exact l348_8 l Z a0 hw p0 p1 b2 b3 e j h n0 hj hDT A2 A3
  · exact l348_9 l Z a0 hw p0 p1 b2 b3 e j h n0 hj hDT A2 A3
  · exact l348_10 l Z a0 hw p0 p1 b2 b3 e j h n0 hj hDT A2 A3
  · exact l348_11 l Z a0 hw p0 p1 b2 b3 e j h n0 hj hDT A2 A3
  · exact l348_12 l Z a0 hw p0 p1 b2 b3 e j h n0 hj hDT A2 A3
  · exact l348_13 l Z a0 hw p0 p1 b2 b3 e j h n0 hj hDT A2 A3
  · exact l348_14 l Z a0 hw p0 p1 b2 b3 e j h n0 hj hDT A2 A3
  · exact l348_15 l Z a0 hw p0 p1 b2 b3 e j h n0 hj hDT A2 A3
  · exact l348_16 l Z a0 hw p0 p1 b2 b3 e j h n0 hj hDT A2 A3
  · exact l348_17 l Z a0 hw p0 p1 b2 b3 e j h n0 hj hDT A2 A3
  · exact l348_18 l Z a0 hw p0 p1 b2 b3 e j h n0 hj hDT A2 A3
theorem own_m19 (x : Int32) : (x &&& 2147483647) % 19 = 0 ∨ (x &&& 2147483647) % 19 = 1 ∨ (x &&& 2147483647) % 19 = 2 ∨ (x &&& 2147483647) % 19 = 3 ∨ (x &&& 2147483647) % 19 = 4 ∨ (x &&& 2147483647) % 19 = 5 ∨ (x &&& 2147483647) % 19 = 6 ∨ (x &&& 2147483647) % 19 = 7 ∨ (x &&& 2147483647) % 19 = 8 ∨ (x &&& 2147483647) % 19 = 9 ∨ (x &&& 2147483647) % 19 = 10 ∨ (x &&& 2147483647) % 19 = 11 ∨ (x &&& 2147483647) % 19 = 12 ∨ (x &&& 2147483647) % 19 = 13 ∨ (x &&& 2147483647) % 19 = 14 ∨ (x &&& 2147483647) % 19 = 15 ∨ (x &&& 2147483647) % 19 = 16 ∨ (x &&& 2147483647) % 19 = 17 ∨ (x &&& 2147483647) % 19 = 18 := by
  have h1 := c_mask x 2147483647 31 (by decide) (by decide)
  have h2 := (c_irem (x &&& 2147483647) 19 19 rfl).1 (by omega)
  have e0 : (0 : Int32).toInt = 0 := rfl
  have e1 : (1 : Int32).toInt = 1 := rfl
  have e2 : (2 : Int32).toInt = 2 := rfl
  have e3 : (3 : Int32).toInt = 3 := rfl
  have e4 : (4 : Int32).toInt = 4 := rfl
  have e5 : (5 : Int32).toInt = 5 := rfl
  have e6 : (6 : Int32).toInt = 6 := rfl
  have e7 : (7 : Int32).toInt = 7 := rfl
  have e8 : (8 : Int32).toInt = 8 := rfl
  have e9 : (9 : Int32).toInt = 9 := rfl
  have e10 : (10 : Int32).toInt = 10 := rfl
  have e11 : (11 : Int32).toInt = 11 := rfl
  have e12 : (12 : Int32).toInt = 12 := rfl
  have e13 : (13 : Int32).toInt = 13 := rfl
  have e14 : (14 : Int32).toInt = 14 := rfl
  have e15 : (15 : Int32).toInt = 15 := rfl
  have e16 : (16 : Int32).toInt = 16 := rfl
  have e17 : (17 : Int32).toInt = 17 := rfl
  have e18 : (18 : Int32).toInt = 18 := rfl
  simp only [← Int32.toInt_inj]
  omega
theorem own_j19 (x : Int32) : ∃ j : Nat, j < 19 ∧ (x &&& 2147483647) % 19 = j.toInt32 := by
  rcases own_m19 x with q | q | q | q | q | q | q | q | q | q | q | q | q | q | q | q | q | q | q
  · exact ⟨0, by decide, q⟩
  · exact ⟨1, by decide, q⟩
  · exact ⟨2, by decide, q⟩
  · exact ⟨3, by decide, q⟩
  · exact ⟨4, by decide, q⟩
  · exact ⟨5, by decide, q⟩
  · exact ⟨6, by decide, q⟩
  · exact ⟨7, by decide, q⟩
  · exact ⟨8, by decide, q⟩
  · exact ⟨9, by decide, q⟩
  · exact ⟨10, by decide, q⟩
  · exact ⟨11, by decide, q⟩
  · exact ⟨12, by decide, q⟩
  · exact ⟨13, by decide, q⟩
  · exact ⟨14, by decide, q⟩
  · exact ⟨15, by decide, q⟩
  · exact ⟨16, by decide, q⟩
  · exact ⟨17, by decide, q⟩
  · exact ⟨18, by decide, q⟩
set_option maxRecDepth 65536 in
set_option maxHeartbeats 40000000 in
theorem law_ok (l : Launch) (Z : State) (a0 : Array Value) (hw : ∀ d ∈ tables_1, d.before a0 Z = true) (p0 p1 : Int32) (h : Heap) (n0 : Nat) (hn : n0 ≤ h.size) (e : Nat → Addr) (hDT : own_DT Z h e) : ConW tables_1 l Z x code maxLocals ret room_1 #[(.int p0), (.int p1)] h n0 (fun r _ => r = some (.int 1)) := by
  refine ConW.of_W (Ls := #[.val (.int p0), .val (.int p1), .unset, .unset, .unset, .unset, .unset]) (plainFor_of_name pn_1) hn (fun m => by first | (simp [entryFrame, mkF, argsToLocals, Value.category, maxLocals]; done) | rfl) ?_
  obtain ⟨j, hj, hJ⟩ := own_j19 p1
  have hII := own_m19 p0
  refine W.bipush 2 at_0 rfl (19 : Int32) rfl ?_
  refine W.anewarray 5 at_2 rfl (wd_0 hw) (wd_1 hw) (by decide) 19 19 (by decide) (by decide) (by decide) (by decide) (by decide) ?_
  intro h1096 b1096 g1096 ge1096 X1096 K1096 A1096
  have sz1097 := Nat.le_trans (Keep.refl _ []).1 (Nat.le_of_eq g1096.symm)
  have kc1098 := Keep.trans (ws := []) (Keep.refl _ []) K1096 all0
  have A1096 : AryO _ _ b1096 "com/example/pathweave/pathweave/model/Datatype" [.null, .null, .null, .null, .null, .null, .null, .null, .null, .null, .null, .null, .null, .null, .null, .null, .null, .null, .null] := A1096
  show W _ _ _ _ _ _ _ _ _ _ _ 1 19 5 #[.val (.int p0), .val (.int p1), .unset, .unset, .unset, .unset, .unset] [(.ref b1096)]
  refine W.dup 6 at_5 rfl rfl ?_
  refine W.iconst 7 at_6 rfl (0 : Int32) rfl ?_
  refine W.getstatic 10 at_7 rfl (host := "") (Or.inl (wd_2 hw)) Via.refl (Sta.keep0 kc1098 hDT.1.1) ?_
  refine W.aastore 11 at_10 rfl A1096 (Ins.self ((hDT.2.1 0 (by decide)).keep kc1098)) 0 (by decide) (by decide) (Nat.le_of_ble_eq_true rfl) ge1096 ?_
  intro h1099 W1099 K1099 A1099
  have kc1100 := Keep.trans (ws := []) kc1098 K1099 (allS (Or.inr sz1097) all0)
  have A1099 : AryO _ _ b1096 "com/example/pathweave/pathweave/model/Datatype" [(.ref (e 0)), .null, .null, .null, .null, .null, .null, .null, .null, .null, .null, .null, .null, .null, .null, .null, .null, .null, .null] := A1099
  refine W.dup 12 at_11 rfl rfl ?_
  refine W.iconst 13 at_12 rfl (1 : Int32) rfl ?_
  refine W.getstatic 16 at_13 rfl (host := "") (Or.inl (wd_6 hw)) Via.refl (Sta.keep0 kc1100 hDT.1.2.1) ?_
  refine W.aastore 17 at_16 rfl A1099 (Ins.self ((hDT.2.1 1 (by decide)).keep kc1100)) 1 (by decide) (by decide) (Nat.le_of_ble_eq_true rfl) ge1096 ?_
  intro h1101 W1101 K1101 A1101
  have kc1102 := Keep.trans (ws := []) kc1100 K1101 (allS (Or.inr sz1097) all0)
  have A1101 : AryO _ _ b1096 "com/example/pathweave/pathweave/model/Datatype" [(.ref (e 0)), (.ref (e 1)), .null, .null, .null, .null, .null, .null, .null, .null, .null, .null, .null, .null, .null, .null, .null, .null, .null] := A1101
  refine W.dup 18 at_17 rfl rfl ?_
  refine W.iconst 19 at_18 rfl (2 : Int32) rfl ?_
  refine W.getstatic 22 at_19 rfl (host := "") (Or.inl (wd_8 hw)) Via.refl (Sta.keep0 kc1102 hDT.1.2.2.1) ?_
  refine W.aastore 23 at_22 rfl A1101 (Ins.self ((hDT.2.1 2 (by decide)).keep kc1102)) 2 (by decide) (by decide) (Nat.le_of_ble_eq_true rfl) ge1096 ?_
  intro h1103 W1103 K1103 A1103
  have kc1104 := Keep.trans (ws := []) kc1102 K1103 (allS (Or.inr sz1097) all0)
  have A1103 : AryO _ _ b1096 "com/example/pathweave/pathweave/model/Datatype" [(.ref (e 0)), (.ref (e 1)), (.ref (e 2)), .null, .null, .null, .null, .null, .null, .null, .null, .null, .null, .null, .null, .null, .null, .null, .null] := A1103
  refine W.dup 24 at_23 rfl rfl ?_
  refine W.iconst 25 at_24 rfl (3 : Int32) rfl ?_
  refine W.getstatic 28 at_25 rfl (host := "") (Or.inl (wd_10 hw)) Via.refl (Sta.keep0 kc1104 hDT.1.2.2.2.1) ?_
  refine W.aastore 29 at_28 rfl A1103 (Ins.self ((hDT.2.1 3 (by decide)).keep kc1104)) 3 (by decide) (by decide) (Nat.le_of_ble_eq_true rfl) ge1096 ?_
  intro h1105 W1105 K1105 A1105
  have kc1106 := Keep.trans (ws := []) kc1104 K1105 (allS (Or.inr sz1097) all0)
  have A1105 : AryO _ _ b1096 "com/example/pathweave/pathweave/model/Datatype" [(.ref (e 0)), (.ref (e 1)), (.ref (e 2)), (.ref (e 3)), .null, .null, .null, .null, .null, .null, .null, .null, .null, .null, .null, .null, .null, .null, .null] := A1105
  refine W.dup 30 at_29 rfl rfl ?_
  refine W.iconst 31 at_30 rfl (4 : Int32) rfl ?_
  refine W.getstatic 34 at_31 rfl (host := "") (Or.inl (wd_12 hw)) Via.refl (Sta.keep0 kc1106 hDT.1.2.2.2.2.1) ?_
  refine W.aastore 35 at_34 rfl A1105 (Ins.self ((hDT.2.1 4 (by decide)).keep kc1106)) 4 (by decide) (by decide) (Nat.le_of_ble_eq_true rfl) ge1096 ?_
  intro h1107 W1107 K1107 A1107
  have kc1108 := Keep.trans (ws := []) kc1106 K1107 (allS (Or.inr sz1097) all0)
  have A1107 : AryO _ _ b1096 "com/example/pathweave/pathweave/model/Datatype" [(.ref (e 0)), (.ref (e 1)), (.ref (e 2)), (.ref (e 3)), (.ref (e 4)), .null, .null, .null, .null, .null, .null, .null, .null, .null, .null, .null, .null, .null, .null] := A1107
  refine W.dup 36 at_35 rfl rfl ?_
  refine W.iconst 37 at_36 rfl (5 : Int32) rfl ?_
  refine W.getstatic 40 at_37 rfl (host := "") (Or.inl (wd_14 hw)) Via.refl (Sta.keep0 kc1108 hDT.1.2.2.2.2.2.1) ?_
  refine W.aastore 41 at_40 rfl A1107 (Ins.self ((hDT.2.1 5 (by decide)).keep kc1108)) 5 (by decide) (by decide) (Nat.le_of_ble_eq_true rfl) ge1096 ?_
  intro h1109 W1109 K1109 A1109
  have kc1110 := Keep.trans (ws := []) kc1108 K1109 (allS (Or.inr sz1097) all0)
  have A1109 : AryO _ _ b1096 "com/example/pathweave/pathweave/model/Datatype" [(.ref (e 0)), (.ref (e 1)), (.ref (e 2)), (.ref (e 3)), (.ref (e 4)), (.ref (e 5)), .null, .null, .null, .null, .null, .null, .null, .null, .null, .null, .null, .null, .null] := A1109
  refine W.dup 42 at_41 rfl rfl ?_
  refine W.bipush 44 at_42 rfl (6 : Int32) rfl ?_
  refine W.getstatic 47 at_44 rfl (host := "") (Or.inl (wd_16 hw)) Via.refl (Sta.keep0 kc1110 hDT.1.2.2.2.2.2.2.1) ?_
  refine W.aastore 48 at_47 rfl A1109 (Ins.self ((hDT.2.1 6 (by decide)).keep kc1110)) 6 (by decide) (by decide) (Nat.le_of_ble_eq_true rfl) ge1096 ?_
  intro h1111 W1111 K1111 A1111
  have kc1112 := Keep.trans (ws := []) kc1110 K1111 (allS (Or.inr sz1097) all0)
  have A1111 : AryO _ _ b1096 "com/example/pathweave/pathweave/model/Datatype" [(.ref (e 0)), (.ref (e 1)), (.ref (e 2)), (.ref (e 3)), (.ref (e 4)), (.ref (e 5)), (.ref (e 6)), .null, .null, .null, .null, .null, .null, .null, .null, .null, .null, .null, .null] := A1111
  refine W.dup 49 at_48 rfl rfl ?_
  refine W.bipush 51 at_49 rfl (7 : Int32) rfl ?_
  refine W.getstatic 54 at_51 rfl (host := "") (Or.inl (wd_18 hw)) Via.refl (Sta.keep0 kc1112 hDT.1.2.2.2.2.2.2.2.1) ?_
  refine W.aastore 55 at_54 rfl A1111 (Ins.self ((hDT.2.1 7 (by decide)).keep kc1112)) 7 (by decide) (by decide) (Nat.le_of_ble_eq_true rfl) ge1096 ?_
  intro h1113 W1113 K1113 A1113
  have kc1114 := Keep.trans (ws := []) kc1112 K1113 (allS (Or.inr sz1097) all0)
  have A1113 : AryO _ _ b1096 "com/example/pathweave/pathweave/model/Datatype" [(.ref (e 0)), (.ref (e 1)), (.ref (e 2)), (.ref (e 3)), (.ref (e 4)), (.ref (e 5)), (.ref (e 6)), (.ref (e 7)), .null, .null, .null, .null, .null, .null, .null, .null, .null, .null, .null] := A1113
  refine W.dup 56 at_55 rfl rfl ?_
  refine W.bipush 58 at_56 rfl (8 : Int32) rfl ?_
  refine W.getstatic 61 at_58 rfl (host := "") (Or.inl (wd_20 hw)) Via.refl (Sta.keep0 kc1114 hDT.1.2.2.2.2.2.2.2.2.1) ?_
  refine W.aastore 62 at_61 rfl A1113 (Ins.self ((hDT.2.1 8 (by decide)).keep kc1114)) 8 (by decide) (by decide) (Nat.le_of_ble_eq_true rfl) ge1096 ?_
  intro h1115 W1115 K1115 A1115
  have kc1116 := Keep.trans (ws := []) kc1114 K1115 (allS (Or.inr sz1097) all0)
  have A1115 : AryO _ _ b1096 "com/example/pathweave/pathweave/model/Datatype" [(.ref (e 0)), (.ref (e 1)), (.ref (e 2)), (.ref (e 3)), (.ref (e 4)), (.ref (e 5)), (.ref (e 6)), (.ref (e 7)), (.ref (e 8)), .null, .null, .null, .null, .null, .null, .null, .null, .null, .null] := A1115
  refine W.dup 63 at_62 rfl rfl ?_
  refine W.bipush 65 at_63 rfl (9 : Int32) rfl ?_
  refine W.getstatic 68 at_65 rfl (host := "") (Or.inl (wd_22 hw)) Via.refl (Sta.keep0 kc1116 hDT.1.2.2.2.2.2.2.2.2.2.1) ?_
  refine W.aastore 69 at_68 rfl A1115 (Ins.self ((hDT.2.1 9 (by decide)).keep kc1116)) 9 (by decide) (by decide) (Nat.le_of_ble_eq_true rfl) ge1096 ?_
  intro h1117 W1117 K1117 A1117
  have kc1118 := Keep.trans (ws := []) kc1116 K1117 (allS (Or.inr sz1097) all0)
  have A1117 : AryO _ _ b1096 "com/example/pathweave/pathweave/model/Datatype" [(.ref (e 0)), (.ref (e 1)), (.ref (e 2)), (.ref (e 3)), (.ref (e 4)), (.ref (e 5)), (.ref (e 6)), (.ref (e 7)), (.ref (e 8)), (.ref (e 9)), .null, .null, .null, .null, .null, .null, .null, .null, .null] := A1117
  refine W.dup 70 at_69 rfl rfl ?_
  refine W.bipush 72 at_70 rfl (10 : Int32) rfl ?_
  refine W.getstatic 75 at_72 rfl (host := "") (Or.inl (wd_24 hw)) Via.refl (Sta.keep0 kc1118 hDT.1.2.2.2.2.2.2.2.2.2.2.1) ?_
  refine W.aastore 76 at_75 rfl A1117 (Ins.self ((hDT.2.1 10 (by decide)).keep kc1118)) 10 (by decide) (by decide) (Nat.le_of_ble_eq_true rfl) ge1096 ?_
  intro h1119 W1119 K1119 A1119
  have kc1120 := Keep.trans (ws := []) kc1118 K1119 (allS (Or.inr sz1097) all0)
  have A1119 : AryO _ _ b1096 "com/example/pathweave/pathweave/model/Datatype" [(.ref (e 0)), (.ref (e 1)), (.ref (e 2)), (.ref (e 3)), (.ref (e 4)), (.ref (e 5)), (.ref (e 6)), (.ref (e 7)), (.ref (e 8)), (.ref (e 9)), (.ref (e 10)), .null, .null, .null, .null, .null, .null, .null, .null] := A1119
  refine W.dup 77 at_76 rfl rfl ?_
  refine W.bipush 79 at_77 rfl (11 : Int32) rfl ?_
  refine W.getstatic 82 at_79 rfl (host := "") (Or.inl (wd_26 hw)) Via.refl (Sta.keep0 kc1120 hDT.1.2.2.2.2.2.2.2.2.2.2.2.1) ?_
  refine W.aastore 83 at_82 rfl A1119 (Ins.self ((hDT.2.1 11 (by decide)).keep kc1120)) 11 (by decide) (by decide) (Nat.le_of_ble_eq_true rfl) ge1096 ?_
  intro h1121 W1121 K1121 A1121
  have kc1122 := Keep.trans (ws := []) kc1120 K1121 (allS (Or.inr sz1097) all0)
  have A1121 : AryO _ _ b1096 "com/example/pathweave/pathweave/model/Datatype" [(.ref (e 0)), (.ref (e 1)), (.ref (e 2)), (.ref (e 3)), (.ref (e 4)), (.ref (e 5)), (.ref (e 6)), (.ref (e 7)), (.ref (e 8)), (.ref (e 9)), (.ref (e 10)), (.ref (e 11)), .null, .null, .null, .null, .null, .null, .null] := A1121
  refine W.dup 84 at_83 rfl rfl ?_
  refine W.bipush 86 at_84 rfl (12 : Int32) rfl ?_
  refine W.getstatic 89 at_86 rfl (host := "") (Or.inl (wd_28 hw)) Via.refl (Sta.keep0 kc1122 hDT.1.2.2.2.2.2.2.2.2.2.2.2.2.1) ?_
  refine W.aastore 90 at_89 rfl A1121 (Ins.self ((hDT.2.1 12 (by decide)).keep kc1122)) 12 (by decide) (by decide) (Nat.le_of_ble_eq_true rfl) ge1096 ?_
  intro h1123 W1123 K1123 A1123
  have kc1124 := Keep.trans (ws := []) kc1122 K1123 (allS (Or.inr sz1097) all0)
  have A1123 : AryO _ _ b1096 "com/example/pathweave/pathweave/model/Datatype" [(.ref (e 0)), (.ref (e 1)), (.ref (e 2)), (.ref (e 3)), (.ref (e 4)), (.ref (e 5)), (.ref (e 6)), (.ref (e 7)), (.ref (e 8)), (.ref (e 9)), (.ref (e 10)), (.ref (e 11)), (.ref (e 12)), .null, .null, .null, .null, .null, .null] := A1123
  refine W.dup 91 at_90 rfl rfl ?_
  refine W.bipush 93 at_91 rfl (13 : Int32) rfl ?_
  refine W.getstatic 96 at_93 rfl (host := "") (Or.inl (wd_30 hw)) Via.refl (Sta.keep0 kc1124 hDT.1.2.2.2.2.2.2.2.2.2.2.2.2.2.1) ?_
  refine W.aastore 97 at_96 rfl A1123 (Ins.self ((hDT.2.1 13 (by decide)).keep kc1124)) 13 (by decide) (by decide) (Nat.le_of_ble_eq_true rfl) ge1096 ?_
  intro h1125 W1125 K1125 A1125
  have kc1126 := Keep.trans (ws := []) kc1124 K1125 (allS (Or.inr sz1097) all0)
  have A1125 : AryO _ _ b1096 "com/example/pathweave/pathweave/model/Datatype" [(.ref (e 0)), (.ref (e 1)), (.ref (e 2)), (.ref (e 3)), (.ref (e 4)), (.ref (e 5)), (.ref (e 6)), (.ref (e 7)), (.ref (e 8)), (.ref (e 9)), (.ref (e 10)), (.ref (e 11)), (.ref (e 12)), (.ref (e 13)), .null, .null, .null, .null, .null] := A1125
  refine W.dup 98 at_97 rfl rfl ?_
  refine W.bipush 100 at_98 rfl (14 : Int32) rfl ?_
  refine W.getstatic 103 at_100 rfl (host := "") (Or.inl (wd_32 hw)) Via.refl (Sta.keep0 kc1126 hDT.1.2.2.2.2.2.2.2.2.2.2.2.2.2.2.1) ?_
  refine W.aastore 104 at_103 rfl A1125 (Ins.self ((hDT.2.1 14 (by decide)).keep kc1126)) 14 (by decide) (by decide) (Nat.le_of_ble_eq_true rfl) ge1096 ?_
  intro h1127 W1127 K1127 A1127
  have kc1128 := Keep.trans (ws := []) kc1126 K1127 (allS (Or.inr sz1097) all0)
  have A1127 : AryO _ _ b1096 "com/example/pathweave/pathweave/model/Datatype" [(.ref (e 0)), (.ref (e 1)), (.ref (e 2)), (.ref (e 3)), (.ref (e 4)), (.ref (e 5)), (.ref (e 6)), (.ref (e 7)), (.ref (e 8)), (.ref (e 9)), (.ref (e 10)), (.ref (e 11)), (.ref (e 12)), (.ref (e 13)), (.ref (e 14)), .null, .null, .null, .null] := A1127
  refine W.dup 105 at_104 rfl rfl ?_
  refine W.bipush 107 at_105 rfl (15 : Int32) rfl ?_
  refine W.getstatic 110 at_107 rfl (host := "") (Or.inl (wd_34 hw)) Via.refl (Sta.keep0 kc1128 hDT.1.2.2.2.2.2.2.2.2.2.2.2.2.2.2.2.1) ?_
  refine W.aastore 111 at_110 rfl A1127 (Ins.self ((hDT.2.1 15 (by decide)).keep kc1128)) 15 (by decide) (by decide) (Nat.le_of_ble_eq_true rfl) ge1096 ?_
  intro h1129 W1129 K1129 A1129
  have kc1130 := Keep.trans (ws := []) kc1128 K1129 (allS (Or.inr sz1097) all0)
  have A1129 : AryO _ _ b1096 "com/example/pathweave/pathweave/model/Datatype" [(.ref (e 0)), (.ref (e 1)), (.ref (e 2)), (.ref (e 3)), (.ref (e 4)), (.ref (e 5)), (.ref (e 6)), (.ref (e 7)), (.ref (e 8)), (.ref (e 9)), (.ref (e 10)), (.ref (e 11)), (.ref (e 12)), (.ref (e 13)), (.ref (e 14)), (.ref (e 15)), .null, .null, .null] := A1129
  refine W.dup 112 at_111 rfl rfl ?_
  refine W.bipush 114 at_112 rfl (16 : Int32) rfl ?_
  refine W.getstatic 117 at_114 rfl (host := "") (Or.inl (wd_36 hw)) Via.refl (Sta.keep0 kc1130 hDT.1.2.2.2.2.2.2.2.2.2.2.2.2.2.2.2.2.1) ?_
  refine W.aastore 118 at_117 rfl A1129 (Ins.self ((hDT.2.1 16 (by decide)).keep kc1130)) 16 (by decide) (by decide) (Nat.le_of_ble_eq_true rfl) ge1096 ?_
  intro h1131 W1131 K1131 A1131
  have kc1132 := Keep.trans (ws := []) kc1130 K1131 (allS (Or.inr sz1097) all0)
  have A1131 : AryO _ _ b1096 "com/example/pathweave/pathweave/model/Datatype" [(.ref (e 0)), (.ref (e 1)), (.ref (e 2)), (.ref (e 3)), (.ref (e 4)), (.ref (e 5)), (.ref (e 6)), (.ref (e 7)), (.ref (e 8)), (.ref (e 9)), (.ref (e 10)), (.ref (e 11)), (.ref (e 12)), (.ref (e 13)), (.ref (e 14)), (.ref (e 15)), (.ref (e 16)), .null, .null] := A1131
  refine W.dup 119 at_118 rfl rfl ?_
  refine W.bipush 121 at_119 rfl (17 : Int32) rfl ?_
  refine W.getstatic 124 at_121 rfl (host := "") (Or.inl (wd_38 hw)) Via.refl (Sta.keep0 kc1132 hDT.1.2.2.2.2.2.2.2.2.2.2.2.2.2.2.2.2.2.1) ?_
  refine W.aastore 125 at_124 rfl A1131 (Ins.self ((hDT.2.1 17 (by decide)).keep kc1132)) 17 (by decide) (by decide) (Nat.le_of_ble_eq_true rfl) ge1096 ?_
  intro h1133 W1133 K1133 A1133
  have kc1134 := Keep.trans (ws := []) kc1132 K1133 (allS (Or.inr sz1097) all0)
  have A1133 : AryO _ _ b1096 "com/example/pathweave/pathweave/model/Datatype" [(.ref (e 0)), (.ref (e 1)), (.ref (e 2)), (.ref (e 3)), (.ref (e 4)), (.ref (e 5)), (.ref (e 6)), (.ref (e 7)), (.ref (e 8)), (.ref (e 9)), (.ref (e 10)), (.ref (e 11)), (.ref (e 12)), (.ref (e 13)), (.ref (e 14)), (.ref (e 15)), (.ref (e 16)), (.ref (e 17)), .null] := A1133
  refine W.dup 126 at_125 rfl rfl ?_
  refine W.bipush 128 at_126 rfl (18 : Int32) rfl ?_
  refine W.getstatic 131 at_128 rfl (host := "") (Or.inl (wd_40 hw)) Via.refl (Sta.keep0 kc1134 hDT.1.2.2.2.2.2.2.2.2.2.2.2.2.2.2.2.2.2.2) ?_
  refine W.aastore 132 at_131 rfl A1133 (Ins.self ((hDT.2.1 18 (by decide)).keep kc1134)) 18 (by decide) (by decide) (Nat.le_of_ble_eq_true rfl) ge1096 ?_
  intro h1135 W1135 K1135 A1135
  have kc1136 := Keep.trans (ws := []) kc1134 K1135 (allS (Or.inr sz1097) all0)
  have A1135 : AryO _ _ b1096 "com/example/pathweave/pathweave/model/Datatype" [(.ref (e 0)), (.ref (e 1)), (.ref (e 2)), (.ref (e 3)), (.ref (e 4)), (.ref (e 5)), (.ref (e 6)), (.ref (e 7)), (.ref (e 8)), (.ref (e 9)), (.ref (e 10)), (.ref (e 11)), (.ref (e 12)), (.ref (e 13)), (.ref (e 14)), (.ref (e 15)), (.ref (e 16)), (.ref (e 17)), (.ref (e 18))] := A1135
  refine W.astoreN 133 at_132 rfl rfl #[.val (.int p0), .val (.int p1), .val (.ref b1096), .unset, .unset, .unset, .unset] rfl ?_
  refine W.bipush 135 at_133 rfl (19 : Int32) rfl ?_
  refine W.newarray 137 at_135 rfl (wd_42 hw) rfl (by decide) 19 19 (by decide) (by decide) (by decide) (by decide) (by decide) rfl ?_
  intro h1137 b1137 g1137 ge1137 X1137 K1137 A1137
  have ne1138 : b1096 ≠ b1137 := Nat.ne_of_lt (Nat.lt_of_lt_of_eq A1135.lt g1137.symm)
  have sz1139 := Nat.le_trans kc1136.1 (Nat.le_of_eq g1137.symm)
  have kc1140 := Keep.trans (ws := []) kc1136 K1137 all0
  have A1137 : Ary _ _ b1137 .int [(.int (0 : Int32)), (.int (0 : Int32)), (.int (0 : Int32)), (.int (0 : Int32)), (.int (0 : Int32)), (.int (0 : Int32)), (.int (0 : Int32)), (.int (0 : Int32)), (.int (0 : Int32)), (.int (0 : Int32)), (.int (0 : Int32)), (.int (0 : Int32)), (.int (0 : Int32)), (.int (0 : Int32)), (.int (0 : Int32)), (.int (0 : Int32)), (.int (0 : Int32)), (.int (0 : Int32)), (.int (0 : Int32))] := A1137
  show W _ _ _ _ _ _ _ _ _ _ _ 2 38 137 #[.val (.int p0), .val (.int p1), .val (.ref b1096), .unset, .unset, .unset, .unset] [(.ref b1137)]
  refine W.astoreN 138 at_137 rfl rfl #[.val (.int p0), .val (.int p1), .val (.ref b1096), .val (.ref b1137), .unset, .unset, .unset] rfl ?_
  refine W.aloadN 139 at_138 rfl rfl rfl ?_
  refine W.iconst 140 at_139 rfl (0 : Int32) rfl ?_
  refine W.iconst 141 at_140 rfl (1 : Int32) rfl ?_
  refine W.iastore 142 at_141 rfl A1137 0 (by decide) (by decide) (Nat.le_of_ble_eq_true rfl) ge1137 ?_
  intro h1141 W1141 K1141 A1141
  have kc1142 := Keep.trans (ws := []) kc1140 K1141 (allS (Or.inr sz1139) all0)
  have A1141 : Ary _ _ b1137 .int [(.int (1 : Int32)), (.int (0 : Int32)), (.int (0 : Int32)), (.int (0 : Int32)), (.int (0 : Int32)), (.int (0 : Int32)), (.int (0 : Int32)), (.int (0 : Int32)), (.int (0 : Int32)), (.int (0 : Int32)), (.int (0 : Int32)), (.int (0 : Int32)), (.int (0 : Int32)), (.int (0 : Int32)), (.int (0 : Int32)), (.int (0 : Int32)), (.int (0 : Int32)), (.int (0 : Int32)), (.int (0 : Int32))] := A1141
  refine W.aloadN 143 at_142 rfl rfl rfl ?_
  refine W.iconst 144 at_143 rfl (1 : Int32) rfl ?_
  refine W.aloadN 145 at_144 rfl rfl rfl ?_
  refine W.iconst 146 at_145 rfl (0 : Int32) rfl ?_
  refine W.iaload 147 at_146 rfl A1141 0 (by decide) (by decide) (.int (1 : Int32)) rfl ?_
  refine W.iconst 148 at_147 rfl (2 : Int32) rfl ?_
  refine W.ior 149 at_148 rfl (3 : Int32) (by decide) ?_
  refine W.iastore 150 at_149 rfl A1141 1 (by decide) (by decide) (Nat.le_of_ble_eq_true rfl) ge1137 ?_
  intro h1143 W1143 K1143 A1143
  have kc1144 := Keep.trans (ws := []) kc1142 K1143 (allS (Or.inr sz1139) all0)
  have A1143 : Ary _ _ b1137 .int [(.int (1 : Int32)), (.int (3 : Int32)), (.int (0 : Int32)), (.int (0 : Int32)), (.int (0 : Int32)), (.int (0 : Int32)), (.int (0 : Int32)), (.int (0 : Int32)), (.int (0 : Int32)), (.int (0 : Int32)), (.int (0 : Int32)), (.int (0 : Int32)), (.int (0 : Int32)), (.int (0 : Int32)), (.int (0 : Int32)), (.int (0 : Int32)), (.int (0 : Int32)), (.int (0 : Int32)), (.int (0 : Int32))] := A1143
  refine W.aloadN 151 at_150 rfl rfl rfl ?_
  refine W.iconst 152 at_151 rfl (2 : Int32) rfl ?_
  refine W.aloadN 153 at_152 rfl rfl rfl ?_
  refine W.iconst 154 at_153 rfl (0 : Int32) rfl ?_
  refine W.iaload 155 at_154 rfl A1143 0 (by decide) (by decide) (.int (1 : Int32)) rfl ?_
  refine W.iconst 156 at_155 rfl (4 : Int32) rfl ?_
  refine W.ior 157 at_156 rfl (5 : Int32) (by decide) ?_
  refine W.iastore 158 at_157 rfl A1143 2 (by decide) (by decide) (Nat.le_of_ble_eq_true rfl) ge1137 ?_
  intro h1145 W1145 K1145 A1145
  have kc1146 := Keep.trans (ws := []) kc1144 K1145 (allS (Or.inr sz1139) all0)
  have A1145 : Ary _ _ b1137 .int [(.int (1 : Int32)), (.int (3 : Int32)), (.int (5 : Int32)), (.int (0 : Int32)), (.int (0 : Int32)), (.int (0 : Int32)), (.int (0 : Int32)), (.int (0 : Int32)), (.int (0 : Int32)), (.int (0 : Int32)), (.int (0 : Int32)), (.int (0 : Int32)), (.int (0 : Int32)), (.int (0 : Int32)), (.int (0 : Int32)), (.int (0 : Int32)), (.int (0 : Int32)), (.int (0 : Int32)), (.int (0 : Int32))] := A1145
  refine W.aloadN 159 at_158 rfl rfl rfl ?_
  refine W.iconst 160 at_159 rfl (3 : Int32) rfl ?_
  refine W.aloadN 161 at_160 rfl rfl rfl ?_
  refine W.iconst 162 at_161 rfl (0 : Int32) rfl ?_
  refine W.iaload 163 at_162 rfl A1145 0 (by decide) (by decide) (.int (1 : Int32)) rfl ?_
  refine W.bipush 165 at_163 rfl (8 : Int32) rfl ?_
  refine W.ior 166 at_165 rfl (9 : Int32) (by decide) ?_
  refine W.iastore 167 at_166 rfl A1145 3 (by decide) (by decide) (Nat.le_of_ble_eq_true rfl) ge1137 ?_
  intro h1147 W1147 K1147 A1147
  have kc1148 := Keep.trans (ws := []) kc1146 K1147 (allS (Or.inr sz1139) all0)
  have A1147 : Ary _ _ b1137 .int [(.int (1 : Int32)), (.int (3 : Int32)), (.int (5 : Int32)), (.int (9 : Int32)), (.int (0 : Int32)), (.int (0 : Int32)), (.int (0 : Int32)), (.int (0 : Int32)), (.int (0 : Int32)), (.int (0 : Int32)), (.int (0 : Int32)), (.int (0 : Int32)), (.int (0 : Int32)), (.int (0 : Int32)), (.int (0 : Int32)), (.int (0 : Int32)), (.int (0 : Int32)), (.int (0 : Int32)), (.int (0 : Int32))] := A1147
  refine W.aloadN 168 at_167 rfl rfl rfl ?_
  refine W.iconst 169 at_168 rfl (4 : Int32) rfl ?_
  refine W.aloadN 170 at_169 rfl rfl rfl ?_
  refine W.iconst 171 at_170 rfl (3 : Int32) rfl ?_
  refine W.iaload 172 at_171 rfl A1147 3 (by decide) (by decide) (.int (9 : Int32)) rfl ?_
  refine W.bipush 174 at_172 rfl (16 : Int32) rfl ?_
  refine W.ior 175 at_174 rfl (25 : Int32) (by decide) ?_
  refine W.iastore 176 at_175 rfl A1147 4 (by decide) (by decide) (Nat.le_of_ble_eq_true rfl) ge1137 ?_
  intro h1149 W1149 K1149 A1149
  have kc1150 := Keep.trans (ws := []) kc1148 K1149 (allS (Or.inr sz1139) all0)
  have A1149 : Ary _ _ b1137 .int [(.int (1 : Int32)), (.int (3 : Int32)), (.int (5 : Int32)), (.int (9 : Int32)), (.int (25 : Int32)), (.int (0 : Int32)), (.int (0 : Int32)), (.int (0 : Int32)), (.int (0 : Int32)), (.int (0 : Int32)), (.int (0 : Int32)), (.int (0 : Int32)), (.int (0 : Int32)), (.int (0 : Int32)), (.int (0 : Int32)), (.int (0 : Int32)), (.int (0 : Int32)), (.int (0 : Int32)), (.int (0 : Int32))] := A1149
  refine W.aloadN 177 at_176 rfl rfl rfl ?_
  refine W.iconst 178 at_177 rfl (5 : Int32) rfl ?_
  refine W.aloadN 179 at_178 rfl rfl rfl ?_
  refine W.iconst 180 at_179 rfl (4 : Int32) rfl ?_
  refine W.iaload 181 at_180 rfl A1149 4 (by decide) (by decide) (.int (25 : Int32)) rfl ?_
  refine W.bipush 183 at_181 rfl (32 : Int32) rfl ?_
  refine W.ior 184 at_183 rfl (57 : Int32) (by decide) ?_
  refine W.iastore 185 at_184 rfl A1149 5 (by decide) (by decide) (Nat.le_of_ble_eq_true rfl) ge1137 ?_
  intro h1151 W1151 K1151 A1151
  have kc1152 := Keep.trans (ws := []) kc1150 K1151 (allS (Or.inr sz1139) all0)
  have A1151 : Ary _ _ b1137 .int [(.int (1 : Int32)), (.int (3 : Int32)), (.int (5 : Int32)), (.int (9 : Int32)), (.int (25 : Int32)), (.int (57 : Int32)), (.int (0 : Int32)), (.int (0 : Int32)), (.int (0 : Int32)), (.int (0 : Int32)), (.int (0 : Int32)), (.int (0 : Int32)), (.int (0 : Int32)), (.int (0 : Int32)), (.int (0 : Int32)), (.int (0 : Int32)), (.int (0 : Int32)), (.int (0 : Int32)), (.int (0 : Int32))] := A1151
  refine W.aloadN 186 at_185 rfl rfl rfl ?_
  refine W.bipush 188 at_186 rfl (6 : Int32) rfl ?_
  refine W.aloadN 189 at_188 rfl rfl rfl ?_
  refine W.iconst 190 at_189 rfl (5 : Int32) rfl ?_
  refine W.iaload 191 at_190 rfl A1151 5 (by decide) (by decide) (.int (57 : Int32)) rfl ?_
  refine W.bipush 193 at_191 rfl (64 : Int32) rfl ?_
  refine W.ior 194 at_193 rfl (121 : Int32) (by decide) ?_
  refine W.iastore 195 at_194 rfl A1151 6 (by decide) (by decide) (Nat.le_of_ble_eq_true rfl) ge1137 ?_
  intro h1153 W1153 K1153 A1153
  have kc1154 := Keep.trans (ws := []) kc1152 K1153 (allS (Or.inr sz1139) all0)
  have A1153 : Ary _ _ b1137 .int [(.int (1 : Int32)), (.int (3 : Int32)), (.int (5 : Int32)), (.int (9 : Int32)), (.int (25 : Int32)), (.int (57 : Int32)), (.int (121 : Int32)), (.int (0 : Int32)), (.int (0 : Int32)), (.int (0 : Int32)), (.int (0 : Int32)), (.int (0 : Int32)), (.int (0 : Int32)), (.int (0 : Int32)), (.int (0 : Int32)), (.int (0 : Int32)), (.int (0 : Int32)), (.int (0 : Int32)), (.int (0 : Int32))] := A1153
  refine W.aloadN 196 at_195 rfl rfl rfl ?_
  refine W.bipush 198 at_196 rfl (7 : Int32) rfl ?_
  refine W.aloadN 199 at_198 rfl rfl rfl ?_
  refine W.bipush 201 at_199 rfl (6 : Int32) rfl ?_
  refine W.iaload 202 at_201 rfl A1153 6 (by decide) (by decide) (.int (121 : Int32)) rfl ?_
  refine W.sipush 205 at_202 rfl (128 : Int32) rfl ?_
  refine W.ior 206 at_205 rfl (249 : Int32) (by decide) ?_
  refine W.iastore 207 at_206 rfl A1153 7 (by decide) (by decide) (Nat.le_of_ble_eq_true rfl) ge1137 ?_
  intro h1155 W1155 K1155 A1155
  have kc1156 := Keep.trans (ws := []) kc1154 K1155 (allS (Or.inr sz1139) all0)
  have A1155 : Ary _ _ b1137 .int [(.int (1 : Int32)), (.int (3 : Int32)), (.int (5 : Int32)), (.int (9 : Int32)), (.int (25 : Int32)), (.int (57 : Int32)), (.int (121 : Int32)), (.int (249 : Int32)), (.int (0 : Int32)), (.int (0 : Int32)), (.int (0 : Int32)), (.int (0 : Int32)), (.int (0 : Int32)), (.int (0 : Int32)), (.int (0 : Int32)), (.int (0 : Int32)), (.int (0 : Int32)), (.int (0 : Int32)), (.int (0 : Int32))] := A1155
  refine W.aloadN 208 at_207 rfl rfl rfl ?_
  refine W.bipush 210 at_208 rfl (8 : Int32) rfl ?_
  refine W.aloadN 211 at_210 rfl rfl rfl ?_
  refine W.iconst 212 at_211 rfl (1 : Int32) rfl ?_
  refine W.iaload 213 at_212 rfl A1155 1 (by decide) (by decide) (.int (3 : Int32)) rfl ?_
  refine W.sipush 216 at_213 rfl (256 : Int32) rfl ?_
  refine W.ior 217 at_216 rfl (259 : Int32) (by decide) ?_
  refine W.iastore 218 at_217 rfl A1155 8 (by decide) (by decide) (Nat.le_of_ble_eq_true rfl) ge1137 ?_
  intro h1157 W1157 K1157 A1157
  have kc1158 := Keep.trans (ws := []) kc1156 K1157 (allS (Or.inr sz1139) all0)
  have A1157 : Ary _ _ b1137 .int [(.int (1 : Int32)), (.int (3 : Int32)), (.int (5 : Int32)), (.int (9 : Int32)), (.int (25 : Int32)), (.int (57 : Int32)), (.int (121 : Int32)), (.int (249 : Int32)), (.int (259 : Int32)), (.int (0 : Int32)), (.int (0 : Int32)), (.int (0 : Int32)), (.int (0 : Int32)), (.int (0 : Int32)), (.int (0 : Int32)), (.int (0 : Int32)), (.int (0 : Int32)), (.int (0 : Int32)), (.int (0 : Int32))] := A1157
  refine W.aloadN 219 at_218 rfl rfl rfl ?_
  refine W.bipush 221 at_219 rfl (9 : Int32) rfl ?_
  refine W.aloadN 222 at_221 rfl rfl rfl ?_
  refine W.bipush 224 at_222 rfl (8 : Int32) rfl ?_
  refine W.iaload 225 at_224 rfl A1157 8 (by decide) (by decide) (.int (259 : Int32)) rfl ?_
  refine W.sipush 228 at_225 rfl (512 : Int32) rfl ?_
  refine W.ior 229 at_228 rfl (771 : Int32) (by decide) ?_
  refine W.iastore 230 at_229 rfl A1157 9 (by decide) (by decide) (Nat.le_of_ble_eq_true rfl) ge1137 ?_
  intro h1159 W1159 K1159 A1159
  have kc1160 := Keep.trans (ws := []) kc1158 K1159 (allS (Or.inr sz1139) all0)
  have A1159 : Ary _ _ b1137 .int [(.int (1 : Int32)), (.int (3 : Int32)), (.int (5 : Int32)), (.int (9 : Int32)), (.int (25 : Int32)), (.int (57 : Int32)), (.int (121 : Int32)), (.int (249 : Int32)), (.int (259 : Int32)), (.int (771 : Int32)), (.int (0 : Int32)), (.int (0 : Int32)), (.int (0 : Int32)), (.int (0 : Int32)), (.int (0 : Int32)), (.int (0 : Int32)), (.int (0 : Int32)), (.int (0 : Int32)), (.int (0 : Int32))] := A1159
  refine W.aloadN 231 at_230 rfl rfl rfl ?_
  refine W.bipush 233 at_231 rfl (10 : Int32) rfl ?_
  refine W.aloadN 234 at_233 rfl rfl rfl ?_
  refine W.bipush 236 at_234 rfl (9 : Int32) rfl ?_
  refine W.iaload 237 at_236 rfl A1159 9 (by decide) (by decide) (.int (771 : Int32)) rfl ?_
  refine W.sipush 240 at_237 rfl (1024 : Int32) rfl ?_
  refine W.ior 241 at_240 rfl (1795 : Int32) (by decide) ?_
  refine W.iastore 242 at_241 rfl A1159 10 (by decide) (by decide) (Nat.le_of_ble_eq_true rfl) ge1137 ?_
  intro h1161 W1161 K1161 A1161
  have kc1162 := Keep.trans (ws := []) kc1160 K1161 (allS (Or.inr sz1139) all0)
  have A1161 : Ary _ _ b1137 .int [(.int (1 : Int32)), (.int (3 : Int32)), (.int (5 : Int32)), (.int (9 : Int32)), (.int (25 : Int32)), (.int (57 : Int32)), (.int (121 : Int32)), (.int (249 : Int32)), (.int (259 : Int32)), (.int (771 : Int32)), (.int (1795 : Int32)), (.int (0 : Int32)), (.int (0 : Int32)), (.int (0 : Int32)), (.int (0 : Int32)), (.int (0 : Int32)), (.int (0 : Int32)), (.int (0 : Int32)), (.int (0 : Int32))] := A1161
  refine W.aloadN 243 at_242 rfl rfl rfl ?_
  refine W.bipush 245 at_243 rfl (11 : Int32) rfl ?_
  refine W.aloadN 246 at_245 rfl rfl rfl ?_
  refine W.bipush 248 at_246 rfl (10 : Int32) rfl ?_
  refine W.iaload 249 at_248 rfl A1161 10 (by decide) (by decide) (.int (1795 : Int32)) rfl ?_
  refine W.sipush 252 at_249 rfl (2048 : Int32) rfl ?_
  refine W.ior 253 at_252 rfl (3843 : Int32) (by decide) ?_
  refine W.iastore 254 at_253 rfl A1161 11 (by decide) (by decide) (Nat.le_of_ble_eq_true rfl) ge1137 ?_
  intro h1163 W1163 K1163 A1163
  have kc1164 := Keep.trans (ws := []) kc1162 K1163 (allS (Or.inr sz1139) all0)
  have A1163 : Ary _ _ b1137 .int [(.int (1 : Int32)), (.int (3 : Int32)), (.int (5 : Int32)), (.int (9 : Int32)), (.int (25 : Int32)), (.int (57 : Int32)), (.int (121 : Int32)), (.int (249 : Int32)), (.int (259 : Int32)), (.int (771 : Int32)), (.int (1795 : Int32)), (.int (3843 : Int32)), (.int (0 : Int32)), (.int (0 : Int32)), (.int (0 : Int32)), (.int (0 : Int32)), (.int (0 : Int32)), (.int (0 : Int32)), (.int (0 : Int32))] := A1163
  refine W.aloadN 255 at_254 rfl rfl rfl ?_
  refine W.bipush 257 at_255 rfl (12 : Int32) rfl ?_
  refine W.aloadN 258 at_257 rfl rfl rfl ?_
  refine W.bipush 260 at_258 rfl (11 : Int32) rfl ?_
  refine W.iaload 261 at_260 rfl A1163 11 (by decide) (by decide) (.int (3843 : Int32)) rfl ?_
  refine W.sipush 264 at_261 rfl (4096 : Int32) rfl ?_
  refine W.ior 265 at_264 rfl (7939 : Int32) (by decide) ?_
  refine W.iastore 266 at_265 rfl A1163 12 (by decide) (by decide) (Nat.le_of_ble_eq_true rfl) ge1137 ?_
  intro h1165 W1165 K1165 A1165
  have kc1166 := Keep.trans (ws := []) kc1164 K1165 (allS (Or.inr sz1139) all0)
  have A1165 : Ary _ _ b1137 .int [(.int (1 : Int32)), (.int (3 : Int32)), (.int (5 : Int32)), (.int (9 : Int32)), (.int (25 : Int32)), (.int (57 : Int32)), (.int (121 : Int32)), (.int (249 : Int32)), (.int (259 : Int32)), (.int (771 : Int32)), (.int (1795 : Int32)), (.int (3843 : Int32)), (.int (7939 : Int32)), (.int (0 : Int32)), (.int (0 : Int32)), (.int (0 : Int32)), (.int (0 : Int32)), (.int (0 : Int32)), (.int (0 : Int32))] := A1165
  refine W.aloadN 267 at_266 rfl rfl rfl ?_
  refine W.bipush 269 at_267 rfl (13 : Int32) rfl ?_
  refine W.aloadN 270 at_269 rfl rfl rfl ?_
  refine W.bipush 272 at_270 rfl (12 : Int32) rfl ?_
  refine W.iaload 273 at_272 rfl A1165 12 (by decide) (by decide) (.int (7939 : Int32)) rfl ?_
  refine W.sipush 276 at_273 rfl (8192 : Int32) rfl ?_
  refine W.ior 277 at_276 rfl (16131 : Int32) (by decide) ?_
  refine W.iastore 278 at_277 rfl A1165 13 (by decide) (by decide) (Nat.le_of_ble_eq_true rfl) ge1137 ?_
  intro h1167 W1167 K1167 A1167
  have kc1168 := Keep.trans (ws := []) kc1166 K1167 (allS (Or.inr sz1139) all0)
  have A1167 : Ary _ _ b1137 .int [(.int (1 : Int32)), (.int (3 : Int32)), (.int (5 : Int32)), (.int (9 : Int32)), (.int (25 : Int32)), (.int (57 : Int32)), (.int (121 : Int32)), (.int (249 : Int32)), (.int (259 : Int32)), (.int (771 : Int32)), (.int (1795 : Int32)), (.int (3843 : Int32)), (.int (7939 : Int32)), (.int (16131 : Int32)), (.int (0 : Int32)), (.int (0 : Int32)), (.int (0 : Int32)), (.int (0 : Int32)), (.int (0 : Int32))] := A1167
  refine W.aloadN 279 at_278 rfl rfl rfl ?_
  refine W.bipush 281 at_279 rfl (14 : Int32) rfl ?_
  refine W.aloadN 282 at_281 rfl rfl rfl ?_
  refine W.iconst 283 at_282 rfl (0 : Int32) rfl ?_
  refine W.iaload 284 at_283 rfl A1167 0 (by decide) (by decide) (.int (1 : Int32)) rfl ?_
  refine W.sipush 287 at_284 rfl (16384 : Int32) rfl ?_
  refine W.ior 288 at_287 rfl (16385 : Int32) (by decide) ?_
  refine W.iastore 289 at_288 rfl A1167 14 (by decide) (by decide) (Nat.le_of_ble_eq_true rfl) ge1137 ?_
  intro h1169 W1169 K1169 A1169
  have kc1170 := Keep.trans (ws := []) kc1168 K1169 (allS (Or.inr sz1139) all0)
  have A1169 : Ary _ _ b1137 .int [(.int (1 : Int32)), (.int (3 : Int32)), (.int (5 : Int32)), (.int (9 : Int32)), (.int (25 : Int32)), (.int (57 : Int32)), (.int (121 : Int32)), (.int (249 : Int32)), (.int (259 : Int32)), (.int (771 : Int32)), (.int (1795 : Int32)), (.int (3843 : Int32)), (.int (7939 : Int32)), (.int (16131 : Int32)), (.int (16385 : Int32)), (.int (0 : Int32)), (.int (0 : Int32)), (.int (0 : Int32)), (.int (0 : Int32))] := A1169
  refine W.aloadN 290 at_289 rfl rfl rfl ?_
  refine W.bipush 292 at_290 rfl (15 : Int32) rfl ?_
  refine W.aloadN 293 at_292 rfl rfl rfl ?_
  refine W.iconst 294 at_293 rfl (0 : Int32) rfl ?_
  refine W.iaload 295 at_294 rfl A1169 0 (by decide) (by decide) (.int (1 : Int32)) rfl ?_
  refine W.ldcI 297 at_295 rfl (wd_43 hw) ?_
  refine W.ior 298 at_297 rfl (32769 : Int32) (by decide) ?_
  refine W.iastore 299 at_298 rfl A1169 15 (by decide) (by decide) (Nat.le_of_ble_eq_true rfl) ge1137 ?_
  intro h1171 W1171 K1171 A1171
  have kc1172 := Keep.trans (ws := []) kc1170 K1171 (allS (Or.inr sz1139) all0)
  have A1171 : Ary _ _ b1137 .int [(.int (1 : Int32)), (.int (3 : Int32)), (.int (5 : Int32)), (.int (9 : Int32)), (.int (25 : Int32)), (.int (57 : Int32)), (.int (121 : Int32)), (.int (249 : Int32)), (.int (259 : Int32)), (.int (771 : Int32)), (.int (1795 : Int32)), (.int (3843 : Int32)), (.int (7939 : Int32)), (.int (16131 : Int32)), (.int (16385 : Int32)), (.int (32769 : Int32)), (.int (0 : Int32)), (.int (0 : Int32)), (.int (0 : Int32))] := A1171
  refine W.aloadN 300 at_299 rfl rfl rfl ?_
  refine W.bipush 302 at_300 rfl (16 : Int32) rfl ?_
  refine W.aloadN 303 at_302 rfl rfl rfl ?_
  refine W.iconst 304 at_303 rfl (0 : Int32) rfl ?_
  refine W.iaload 305 at_304 rfl A1171 0 (by decide) (by decide) (.int (1 : Int32)) rfl ?_
  refine W.ldcI 307 at_305 rfl (wd_44 hw) ?_
  refine W.ior 308 at_307 rfl (65537 : Int32) (by decide) ?_
  refine W.iastore 309 at_308 rfl A1171 16 (by decide) (by decide) (Nat.le_of_ble_eq_true rfl) ge1137 ?_
  intro h1173 W1173 K1173 A1173
  have kc1174 := Keep.trans (ws := []) kc1172 K1173 (allS (Or.inr sz1139) all0)
  have A1173 : Ary _ _ b1137 .int [(.int (1 : Int32)), (.int (3 : Int32)), (.int (5 : Int32)), (.int (9 : Int32)), (.int (25 : Int32)), (.int (57 : Int32)), (.int (121 : Int32)), (.int (249 : Int32)), (.int (259 : Int32)), (.int (771 : Int32)), (.int (1795 : Int32)), (.int (3843 : Int32)), (.int (7939 : Int32)), (.int (16131 : Int32)), (.int (16385 : Int32)), (.int (32769 : Int32)), (.int (65537 : Int32)), (.int (0 : Int32)), (.int (0 : Int32))] := A1173
  refine W.aloadN 310 at_309 rfl rfl rfl ?_
  refine W.bipush 312 at_310 rfl (17 : Int32) rfl ?_
  refine W.aloadN 313 at_312 rfl rfl rfl ?_
  refine W.iconst 314 at_313 rfl (0 : Int32) rfl ?_
  refine W.iaload 315 at_314 rfl A1173 0 (by decide) (by decide) (.int (1 : Int32)) rfl ?_
  refine W.ldcI 317 at_315 rfl (wd_45 hw) ?_
  refine W.ior 318 at_317 rfl (131073 : Int32) (by decide) ?_
  refine W.iastore 319 at_318 rfl A1173 17 (by decide) (by decide) (Nat.le_of_ble_eq_true rfl) ge1137 ?_
  intro h1175 W1175 K1175 A1175
  have kc1176 := Keep.trans (ws := []) kc1174 K1175 (allS (Or.inr sz1139) all0)
  have A1175 : Ary _ _ b1137 .int [(.int (1 : Int32)), (.int (3 : Int32)), (.int (5 : Int32)), (.int (9 : Int32)), (.int (25 : Int32)), (.int (57 : Int32)), (.int (121 : Int32)), (.int (249 : Int32)), (.int (259 : Int32)), (.int (771 : Int32)), (.int (1795 : Int32)), (.int (3843 : Int32)), (.int (7939 : Int32)), (.int (16131 : Int32)), (.int (16385 : Int32)), (.int (32769 : Int32)), (.int (65537 : Int32)), (.int (131073 : Int32)), (.int (0 : Int32))] := A1175
  refine W.aloadN 320 at_319 rfl rfl rfl ?_
  refine W.bipush 322 at_320 rfl (18 : Int32) rfl ?_
  refine W.aloadN 323 at_322 rfl rfl rfl ?_
  refine W.bipush 325 at_323 rfl (17 : Int32) rfl ?_
  refine W.iaload 326 at_325 rfl A1175 17 (by decide) (by decide) (.int (131073 : Int32)) rfl ?_
  refine W.ldcI 328 at_326 rfl (wd_46 hw) ?_
  refine W.ior 329 at_328 rfl (393217 : Int32) (by decide) ?_
  refine W.iastore 330 at_329 rfl A1175 18 (by decide) (by decide) (Nat.le_of_ble_eq_true rfl) ge1137 ?_
  intro h1177 W1177 K1177 A1177
  have kc1178 := Keep.trans (ws := []) kc1176 K1177 (allS (Or.inr sz1139) all0)
  have A1177 : Ary _ _ b1137 .int [(.int (1 : Int32)), (.int (3 : Int32)), (.int (5 : Int32)), (.int (9 : Int32)), (.int (25 : Int32)), (.int (57 : Int32)), (.int (121 : Int32)), (.int (249 : Int32)), (.int (259 : Int32)), (.int (771 : Int32)), (.int (1795 : Int32)), (.int (3843 : Int32)), (.int (7939 : Int32)), (.int (16131 : Int32)), (.int (16385 : Int32)), (.int (32769 : Int32)), (.int (65537 : Int32)), (.int (131073 : Int32)), (.int (393217 : Int32))] := A1177
  refine W.iloadN 331 at_330 rfl rfl ?_
  refine W.ldcI 333 at_331 rfl (wd_47 hw) ?_
  refine W.iand 334 at_333 rfl (p0 &&& (2147483647 : Int32)) rfl ?_
  refine W.bipush 336 at_334 rfl (19 : Int32) rfl ?_
  refine W.irem 337 at_336 rfl (by decide) ((p0 &&& (2147483647 : Int32)) % (19 : Int32)) rfl ?_
  refine W.istore 339 at_337 rfl #[.val (.int p0), .val (.int p1), .val (.ref b1096), .val (.ref b1137), .val (.int ((p0 &&& (2147483647 : Int32)) % (19 : Int32))), .unset, .unset] rfl ?_
  refine W.iloadN 340 at_339 rfl rfl ?_
  refine W.ldcI 342 at_340 rfl (wd_47 hw) ?_
  refine W.iand 343 at_342 rfl (p1 &&& (2147483647 : Int32)) rfl ?_
  refine W.bipush 345 at_343 rfl (19 : Int32) rfl ?_
  refine W.irem 346 at_345 rfl (by decide) j.toInt32 hJ ?_
  refine W.istore 348 at_346 rfl #[.val (.int p0), .val (.int p1), .val (.ref b1096), .val (.ref b1137), .val (.int ((p0 &&& (2147483647 : Int32)) % (19 : Int32))), .val (.int j.toInt32), .unset] rfl ?_
  have q1179 := ((((((((((((((((((((A1135.keep K1137 nin0).keep K1141 (ninS ne1138 nin0)).keep K1143 (ninS ne1138 nin0)).keep K1145 (ninS ne1138 nin0)).keep K1147 (ninS ne1138 nin0)).keep K1149 (ninS ne1138 nin0)).keep K1151 (ninS ne1138 nin0)).keep K1153 (ninS ne1138 nin0)).keep K1155 (ninS ne1138 nin0)).keep K1157 (ninS ne1138 nin0)).keep K1159 (ninS ne1138 nin0)).keep K1161 (ninS ne1138 nin0)).keep K1163 (ninS ne1138 nin0)).keep K1165 (ninS ne1138 nin0)).keep K1167 (ninS ne1138 nin0)).keep K1169 (ninS ne1138 nin0)).keep K1171 (ninS ne1138 nin0)).keep K1173 (ninS ne1138 nin0)).keep K1175 (ninS ne1138 nin0)).keep K1177 (ninS ne1138 nin0))
  exact (l_348 l Z a0 hw p0 p1 b1096 b1137 e j _ n0 hj (hDT.keep kc1178) q1179 A1177 _ hII).mono (by decide) (by decide)
theorem own_eqR {Z : State} {args : Array Value} {X F : Term} {idx : List Nat} {y : Addr} (hF : F.eval args Z none idx Z = some (.ref y)) (h : (Jvm.Cond.eq X F).value args Z none Z idx = some true) : X.eval args Z none idx Z = some (.ref y) := by
  obtain ⟨x, y', e1, e2, k1, k2⟩ := cmp_v (Or.inl h)
  cases hF.symm.trans e2
  have hr : x.isRef = true := k2.2
  rw [e1, gotT (eq_R e1 hF hr rfl) h]
theorem own_inj (i j : Nat) (hi : i < 19) (hj : j < 19) (q : i.toInt32 = j.toInt32) : i = j := by
  have a := (own_j32 i hi).1; have b := (own_j32 j hj).1; rw [← a, ← b, q]
set_option maxRecDepth 65536 in
set_option maxHeartbeats 40000000 in
theorem comes_1 {Post : Tables → Env → Array Value → State → Outcome → State → Prop} (hpost : ∀ tb e args s v u, (limb_1_1.after args s (.returned v) u = true ∧ limb_1_2.after args s (.returned v) u = true ∧ True) → FrameEnd s (.returned v) u (Jvm.fieldLocs frame_1_writes args s ++ Jvm.arrayLocs frame_1_arrays args s ++ Jvm.staticLocs frame_1_statics s) 16 192 → Post tb e args s (.returned v) u) :
    ArmFor flags0 classFile x code maxLocals ret World_1 tables_1 room_1 Calls_1 rest_1 Pre_1 Post := by
  intro l hfl _ _ p e ha hc hk s m args below hf hA hF happ hP
  obtain ⟨hcalls, hrest, hpre⟩ := hP
  obtain ⟨-, -, -, hnamed, -, -, -, hat⟩ := (Spec.applies_iff hf).mp happ
  obtain ⟨hg, hn⟩ := and_e (Cond.before_iff.mp (show (Jvm.Cond.and given_1 narrow_1).before args s = true from hpre))
  obtain ⟨hcnt, hg1⟩ := and_e hg
  obtain ⟨k0, hh0⟩ := and_e hg1
  have k1 := hh0
  obtain ⟨w0, w1, rfl⟩ : ∃ w0 w1 : Value, args = #[w0, w1] := by
    have hs : args.size = 2 := by simpa [Cond.value, given_1] using hcnt
    obtain ⟨L⟩ := args
    match L, hs with
    | [w0, w1], _ => exact ⟨w0, w1, rfl⟩
  have hw := fun d (hd : d ∈ tables_1) => atoms_spec (ws := Jvm.Cond.code x code maxLocals ret :: tables_1) hat d (List.mem_cons_of_mem _ hd)
  have hfit : Fit s := fun {y c} hc i hi => by
    obtain ⟨ha, rfl⟩ := Array.getElem?_eq_some_iff.mp hc
    have q := List.all_eq_true.mp ((Array.all_eq_true_iff_forall_mem.mp hF) _ (Array.getElem_mem ha)) i (List.mem_range.mpr hi)
    simpa [Array.getElem?_eq_getElem hi] using q
  obtain ⟨i0, ei0⟩ := is_v k0
  obtain rfl : w0 = (.int i0) := Option.some.inj ei0
  obtain ⟨i1, ei1⟩ := is_v k1
  obtain rfl : w1 = (.int i1) := Option.some.inj ei1
  have hn0 := hn
  obtain ⟨cc0, hx0⟩ := and_e hn0
  obtain ⟨cc1, hx1⟩ := and_e hx0
  obtain ⟨cc2, hx2⟩ := and_e hx1
  obtain ⟨cc3, hx3⟩ := and_e hx2
  obtain ⟨cc4, hx4⟩ := and_e hx3
  obtain ⟨cc5, hx5⟩ := and_e hx4
  obtain ⟨cc6, hx6⟩ := and_e hx5
  obtain ⟨cc7, hx7⟩ := and_e hx6
  obtain ⟨cc8, hx8⟩ := and_e hx7
  obtain ⟨cc9, hx9⟩ := and_e hx8
  obtain ⟨cc10, hx10⟩ := and_e hx9
  obtain ⟨cc11, hx11⟩ := and_e hx10
  obtain ⟨cc12, hx12⟩ := and_e hx11
  obtain ⟨cc13, hx13⟩ := and_e hx12
  obtain ⟨cc14, hx14⟩ := and_e hx13
  obtain ⟨cc15, hx15⟩ := and_e hx14
  obtain ⟨cc16, hx16⟩ := and_e hx15
  obtain ⟨cc17, hx17⟩ := and_e hx16
  obtain ⟨cc18, hx18⟩ := and_e hx17
  obtain ⟨cc19, hx19⟩ := and_e hx18
  obtain ⟨cc20, hx20⟩ := and_e hx19
  obtain ⟨cc21, hx21⟩ := and_e hx20
  obtain ⟨cc22, hx22⟩ := and_e hx21
  obtain ⟨cc23, hx23⟩ := and_e hx22
  obtain ⟨cc24, hx24⟩ := and_e hx23
  obtain ⟨cc25, hx25⟩ := and_e hx24
  obtain ⟨cc26, hx26⟩ := and_e hx25
  obtain ⟨cc27, hx27⟩ := and_e hx26
  obtain ⟨cc28, hx28⟩ := and_e hx27
  obtain ⟨cc29, hx29⟩ := and_e hx28
  obtain ⟨cc30, hx30⟩ := and_e hx29
  obtain ⟨cc31, hx31⟩ := and_e hx30
  obtain ⟨cc32, hx32⟩ := and_e hx31
  obtain ⟨cc33, hx33⟩ := and_e hx32
  obtain ⟨cc34, hx34⟩ := and_e hx33
  obtain ⟨cc35, hx35⟩ := and_e hx34
  obtain ⟨cc36, hx36⟩ := and_e hx35
  obtain ⟨cc37, hx37⟩ := and_e hx36
  obtain ⟨cc38, hx38⟩ := and_e hx37
  obtain ⟨cc39, hx39⟩ := and_e hx38
  obtain ⟨cc40, hx40⟩ := and_e hx39
  obtain ⟨cc41, hx41⟩ := and_e hx40
  obtain ⟨cc42, hx42⟩ := and_e hx41
  obtain ⟨cc43, hx43⟩ := and_e hx42
  obtain ⟨cc44, hx44⟩ := and_e hx43
  obtain ⟨cc45, hx45⟩ := and_e hx44
  obtain ⟨cc46, hx46⟩ := and_e hx45
  obtain ⟨cc47, hx47⟩ := and_e hx46
  obtain ⟨cc48, hx48⟩ := and_e hx47
  obtain ⟨cc49, hx49⟩ := and_e hx48
  obtain ⟨cc50, hx50⟩ := and_e hx49
  obtain ⟨cc51, hx51⟩ := and_e hx50
  obtain ⟨cc52, hx52⟩ := and_e hx51
  obtain ⟨cc53, hx53⟩ := and_e hx52
  obtain ⟨cc54, hx54⟩ := and_e hx53
  obtain ⟨cc55, hx55⟩ := and_e hx54
  have cc56 := hx55
  obtain ⟨e0, he0⟩ := exa_v cc0
  have X0 := Exa.start he0 cc0
  have S0 := Sta.start he0 (Or.inr ⟨(wd_3 hw), (wd_4 hw)⟩)
  obtain ⟨e1, he1⟩ := exa_v cc1
  have X1 := Exa.start he1 cc1
  have S1 := Sta.start he1 (Or.inr ⟨(wd_3 hw), (wd_7 hw)⟩)
  obtain ⟨e2, he2⟩ := exa_v cc2
  have X2 := Exa.start he2 cc2
  have S2 := Sta.start he2 (Or.inr ⟨(wd_3 hw), (wd_9 hw)⟩)
  obtain ⟨e3, he3⟩ := exa_v cc3
  have X3 := Exa.start he3 cc3
  have S3 := Sta.start he3 (Or.inr ⟨(wd_3 hw), (wd_11 hw)⟩)
  obtain ⟨e4, he4⟩ := exa_v cc4
  have X4 := Exa.start he4 cc4
  have S4 := Sta.start he4 (Or.inr ⟨(wd_3 hw), (wd_13 hw)⟩)
  obtain ⟨e5, he5⟩ := exa_v cc5
  have X5 := Exa.start he5 cc5
  have S5 := Sta.start he5 (Or.inr ⟨(wd_3 hw), (wd_15 hw)⟩)
  obtain ⟨e6, he6⟩ := exa_v cc6
  have X6 := Exa.start he6 cc6
  have S6 := Sta.start he6 (Or.inr ⟨(wd_3 hw), (wd_17 hw)⟩)
  obtain ⟨e7, he7⟩ := exa_v cc7
  have X7 := Exa.start he7 cc7
  have S7 := Sta.start he7 (Or.inr ⟨(wd_3 hw), (wd_19 hw)⟩)
  obtain ⟨e8, he8⟩ := exa_v cc8
  have X8 := Exa.start he8 cc8
  have S8 := Sta.start he8 (Or.inr ⟨(wd_3 hw), (wd_21 hw)⟩)
  obtain ⟨e9, he9⟩ := exa_v cc9
  have X9 := Exa.start he9 cc9
  have S9 := Sta.start he9 (Or.inr ⟨(wd_3 hw), (wd_23 hw)⟩)
  obtain ⟨e10, he10⟩ := exa_v cc10
  have X10 := Exa.start he10 cc10
  have S10 := Sta.start he10 (Or.inr ⟨(wd_3 hw), (wd_25 hw)⟩)
  obtain ⟨e11, he11⟩ := exa_v cc11
  have X11 := Exa.start he11 cc11
  have S11 := Sta.start he11 (Or.inr ⟨(wd_3 hw), (wd_27 hw)⟩)
  obtain ⟨e12, he12⟩ := exa_v cc12
  have X12 := Exa.start he12 cc12
  have S12 := Sta.start he12 (Or.inr ⟨(wd_3 hw), (wd_29 hw)⟩)
  obtain ⟨e13, he13⟩ := exa_v cc13
  have X13 := Exa.start he13 cc13
  have S13 := Sta.start he13 (Or.inr ⟨(wd_3 hw), (wd_31 hw)⟩)
  obtain ⟨e14, he14⟩ := exa_v cc14
  have X14 := Exa.start he14 cc14
  have S14 := Sta.start he14 (Or.inr ⟨(wd_3 hw), (wd_33 hw)⟩)
  obtain ⟨e15, he15⟩ := exa_v cc15
  have X15 := Exa.start he15 cc15
  have S15 := Sta.start he15 (Or.inr ⟨(wd_3 hw), (wd_35 hw)⟩)
  obtain ⟨e16, he16⟩ := exa_v cc16
  have X16 := Exa.start he16 cc16
  have S16 := Sta.start he16 (Or.inr ⟨(wd_3 hw), (wd_37 hw)⟩)
  obtain ⟨e17, he17⟩ := exa_v cc17
  have X17 := Exa.start he17 cc17
  have S17 := Sta.start he17 (Or.inr ⟨(wd_3 hw), (wd_39 hw)⟩)
  obtain ⟨e18, he18⟩ := exa_v cc18
  have X18 := Exa.start he18 cc18
  have S18 := Sta.start he18 (Or.inr ⟨(wd_3 hw), (wd_41 hw)⟩)
  have O3 : Fld s s.heap e3 "java/lang/Enum" "ordinal" "I" (.int (3 : Nat).toInt32) := Fld.start ((fld_at he3).symm.trans (eqv_i (F := .int 3) (Term.int_eval _) cc19))
  have O0 : Fld s s.heap e0 "java/lang/Enum" "ordinal" "I" (.int (0 : Nat).toInt32) := Fld.start ((fld_at he0).symm.trans (eqv_i (F := .int 0) (Term.int_eval _) cc20))
  have P0 : Fld s s.heap e0 "com/example/pathweave/pathweave/model/Datatype" "enclosing" "Lcom/example/pathweave/pathweave/model/Datatype;" .null := Fld.start ((fld_at he0).symm.trans (null_v cc21))
  have O1 : Fld s s.heap e1 "java/lang/Enum" "ordinal" "I" (.int (1 : Nat).toInt32) := Fld.start ((fld_at he1).symm.trans (eqv_i (F := .int 1) (Term.int_eval _) cc22))
  have O14 : Fld s s.heap e14 "java/lang/Enum" "ordinal" "I" (.int (14 : Nat).toInt32) := Fld.start ((fld_at he14).symm.trans (eqv_i (F := .int 14) (Term.int_eval _) cc23))
  have P14 : Fld s s.heap e14 "com/example/pathweave/pathweave/model/Datatype" "enclosing" "Lcom/example/pathweave/pathweave/model/Datatype;" .null := Fld.start ((fld_at he14).symm.trans (null_v cc24))
  have O17 : Fld s s.heap e17 "java/lang/Enum" "ordinal" "I" (.int (17 : Nat).toInt32) := Fld.start ((fld_at he17).symm.trans (eqv_i (F := .int 17) (Term.int_eval _) cc25))
  have O13 : Fld s s.heap e13 "java/lang/Enum" "ordinal" "I" (.int (13 : Nat).toInt32) := Fld.start ((fld_at he13).symm.trans (eqv_i (F := .int 13) (Term.int_eval _) cc26))
  have P13 : Fld s s.heap e13 "com/example/pathweave/pathweave/model/Datatype" "enclosing" "Lcom/example/pathweave/pathweave/model/Datatype;" (.ref e12) := Fld.start ((fld_at he13).symm.trans (own_eqR he12 cc27))
  have O12 : Fld s s.heap e12 "java/lang/Enum" "ordinal" "I" (.int (12 : Nat).toInt32) := Fld.start ((fld_at he12).symm.trans (eqv_i (F := .int 12) (Term.int_eval _) cc28))
  have P12 : Fld s s.heap e12 "com/example/pathweave/pathweave/model/Datatype" "enclosing" "Lcom/example/pathweave/pathweave/model/Datatype;" (.ref e11) := Fld.start ((fld_at he12).symm.trans (own_eqR he11 cc29))
  have O11 : Fld s s.heap e11 "java/lang/Enum" "ordinal" "I" (.int (11 : Nat).toInt32) := Fld.start ((fld_at he11).symm.trans (eqv_i (F := .int 11) (Term.int_eval _) cc30))
  have P11 : Fld s s.heap e11 "com/example/pathweave/pathweave/model/Datatype" "enclosing" "Lcom/example/pathweave/pathweave/model/Datatype;" (.ref e10) := Fld.start ((fld_at he11).symm.trans (own_eqR he10 cc31))
  have O10 : Fld s s.heap e10 "java/lang/Enum" "ordinal" "I" (.int (10 : Nat).toInt32) := Fld.start ((fld_at he10).symm.trans (eqv_i (F := .int 10) (Term.int_eval _) cc32))
  have P10 : Fld s s.heap e10 "com/example/pathweave/pathweave/model/Datatype" "enclosing" "Lcom/example/pathweave/pathweave/model/Datatype;" (.ref e9) := Fld.start ((fld_at he10).symm.trans (own_eqR he9 cc33))
  have O9 : Fld s s.heap e9 "java/lang/Enum" "ordinal" "I" (.int (9 : Nat).toInt32) := Fld.start ((fld_at he9).symm.trans (eqv_i (F := .int 9) (Term.int_eval _) cc34))
  have P9 : Fld s s.heap e9 "com/example/pathweave/pathweave/model/Datatype" "enclosing" "Lcom/example/pathweave/pathweave/model/Datatype;" (.ref e8) := Fld.start ((fld_at he9).symm.trans (own_eqR he8 cc35))
  have O8 : Fld s s.heap e8 "java/lang/Enum" "ordinal" "I" (.int (8 : Nat).toInt32) := Fld.start ((fld_at he8).symm.trans (eqv_i (F := .int 8) (Term.int_eval _) cc36))
  have P8 : Fld s s.heap e8 "com/example/pathweave/pathweave/model/Datatype" "enclosing" "Lcom/example/pathweave/pathweave/model/Datatype;" (.ref e1) := Fld.start ((fld_at he8).symm.trans (own_eqR he1 cc37))
  have P1 : Fld s s.heap e1 "com/example/pathweave/pathweave/model/Datatype" "enclosing" "Lcom/example/pathweave/pathweave/model/Datatype;" .null := Fld.start ((fld_at he1).symm.trans (null_v cc38))
  have O2 : Fld s s.heap e2 "java/lang/Enum" "ordinal" "I" (.int (2 : Nat).toInt32) := Fld.start ((fld_at he2).symm.trans (eqv_i (F := .int 2) (Term.int_eval _) cc39))
  have P2 : Fld s s.heap e2 "com/example/pathweave/pathweave/model/Datatype" "enclosing" "Lcom/example/pathweave/pathweave/model/Datatype;" .null := Fld.start ((fld_at he2).symm.trans (null_v cc40))
  have P3 : Fld s s.heap e3 "com/example/pathweave/pathweave/model/Datatype" "enclosing" "Lcom/example/pathweave/pathweave/model/Datatype;" .null := Fld.start ((fld_at he3).symm.trans (null_v cc41))
  have O6 : Fld s s.heap e6 "java/lang/Enum" "ordinal" "I" (.int (6 : Nat).toInt32) := Fld.start ((fld_at he6).symm.trans (eqv_i (F := .int 6) (Term.int_eval _) cc42))
  have P6 : Fld s s.heap e6 "com/example/pathweave/pathweave/model/Datatype" "enclosing" "Lcom/example/pathweave/pathweave/model/Datatype;" (.ref e5) := Fld.start ((fld_at he6).symm.trans (own_eqR he5 cc43))
  have O5 : Fld s s.heap e5 "java/lang/Enum" "ordinal" "I" (.int (5 : Nat).toInt32) := Fld.start ((fld_at he5).symm.trans (eqv_i (F := .int 5) (Term.int_eval _) cc44))
  have P5 : Fld s s.heap e5 "com/example/pathweave/pathweave/model/Datatype" "enclosing" "Lcom/example/pathweave/pathweave/model/Datatype;" (.ref e4) := Fld.start ((fld_at he5).symm.trans (own_eqR he4 cc45))
  have O4 : Fld s s.heap e4 "java/lang/Enum" "ordinal" "I" (.int (4 : Nat).toInt32) := Fld.start ((fld_at he4).symm.trans (eqv_i (F := .int 4) (Term.int_eval _) cc46))
  have P4 : Fld s s.heap e4 "com/example/pathweave/pathweave/model/Datatype" "enclosing" "Lcom/example/pathweave/pathweave/model/Datatype;" (.ref e3) := Fld.start ((fld_at he4).symm.trans (own_eqR he3 cc47))
  have O7 : Fld s s.heap e7 "java/lang/Enum" "ordinal" "I" (.int (7 : Nat).toInt32) := Fld.start ((fld_at he7).symm.trans (eqv_i (F := .int 7) (Term.int_eval _) cc48))
  have P7 : Fld s s.heap e7 "com/example/pathweave/pathweave/model/Datatype" "enclosing" "Lcom/example/pathweave/pathweave/model/Datatype;" (.ref e6) := Fld.start ((fld_at he7).symm.trans (own_eqR he6 cc49))
  have O16 : Fld s s.heap e16 "java/lang/Enum" "ordinal" "I" (.int (16 : Nat).toInt32) := Fld.start ((fld_at he16).symm.trans (eqv_i (F := .int 16) (Term.int_eval _) cc50))
  have P16 : Fld s s.heap e16 "com/example/pathweave/pathweave/model/Datatype" "enclosing" "Lcom/example/pathweave/pathweave/model/Datatype;" .null := Fld.start ((fld_at he16).symm.trans (null_v cc51))
  have O15 : Fld s s.heap e15 "java/lang/Enum" "ordinal" "I" (.int (15 : Nat).toInt32) := Fld.start ((fld_at he15).symm.trans (eqv_i (F := .int 15) (Term.int_eval _) cc52))
  have O18 : Fld s s.heap e18 "java/lang/Enum" "ordinal" "I" (.int (18 : Nat).toInt32) := Fld.start ((fld_at he18).symm.trans (eqv_i (F := .int 18) (Term.int_eval _) cc53))
  have P15 : Fld s s.heap e15 "com/example/pathweave/pathweave/model/Datatype" "enclosing" "Lcom/example/pathweave/pathweave/model/Datatype;" .null := Fld.start ((fld_at he15).symm.trans (null_v cc54))
  have P18 : Fld s s.heap e18 "com/example/pathweave/pathweave/model/Datatype" "enclosing" "Lcom/example/pathweave/pathweave/model/Datatype;" (.ref e17) := Fld.start ((fld_at he18).symm.trans (own_eqR he17 cc55))
  have P17 : Fld s s.heap e17 "com/example/pathweave/pathweave/model/Datatype" "enclosing" "Lcom/example/pathweave/pathweave/model/Datatype;" .null := Fld.start ((fld_at he17).symm.trans (null_v cc56))
  have hDT : own_DT s s.heap (fun i => [e0, e1, e2, e3, e4, e5, e6, e7, e8, e9, e10, e11, e12, e13, e14, e15, e16, e17, e18].getD i 0) := by
    refine ⟨⟨S0, S1, S2, S3, S4, S5, S6, S7, S8, S9, S10, S11, S12, S13, S14, S15, S16, S17, S18⟩, ?_, ?_, ?_⟩
    · intro i hi
      match i, hi with
      | 0, _ => exact X0
      | 1, _ => exact X1
      | 2, _ => exact X2
      | 3, _ => exact X3
      | 4, _ => exact X4
      | 5, _ => exact X5
      | 6, _ => exact X6
      | 7, _ => exact X7
      | 8, _ => exact X8
      | 9, _ => exact X9
      | 10, _ => exact X10
      | 11, _ => exact X11
      | 12, _ => exact X12
      | 13, _ => exact X13
      | 14, _ => exact X14
      | 15, _ => exact X15
      | 16, _ => exact X16
      | 17, _ => exact X17
      | 18, _ => exact X18
      | n + 19, hh => exact absurd hh (by omega)
    · intro i hi
      match i, hi with
      | 0, _ => exact P0
      | 1, _ => exact P1
      | 2, _ => exact P2
      | 3, _ => exact P3
      | 4, _ => exact P4
      | 5, _ => exact P5
      | 6, _ => exact P6
      | 7, _ => exact P7
      | 8, _ => exact P8
      | 9, _ => exact P9
      | 10, _ => exact P10
      | 11, _ => exact P11
      | 12, _ => exact P12
      | 13, _ => exact P13
      | 14, _ => exact P14
      | 15, _ => exact P15
      | 16, _ => exact P16
      | 17, _ => exact P17
      | 18, _ => exact P18
      | n + 19, hh => exact absurd hh (by omega)
    · have hO : ∀ i, i < 19 → Fld s s.heap ([e0, e1, e2, e3, e4, e5, e6, e7, e8, e9, e10, e11, e12, e13, e14, e15, e16, e17, e18].getD i 0) "java/lang/Enum" "ordinal" "I" (.int i.toInt32) := by
        intro i hi
        match i, hi with
        | 0, _ => exact O0
        | 1, _ => exact O1
        | 2, _ => exact O2
        | 3, _ => exact O3
        | 4, _ => exact O4
        | 5, _ => exact O5
        | 6, _ => exact O6
        | 7, _ => exact O7
        | 8, _ => exact O8
        | 9, _ => exact O9
        | 10, _ => exact O10
        | 11, _ => exact O11
        | 12, _ => exact O12
        | 13, _ => exact O13
        | 14, _ => exact O14
        | 15, _ => exact O15
        | 16, _ => exact O16
        | 17, _ => exact O17
        | 18, _ => exact O18
        | n + 19, hh => exact absurd hh (by omega)
      intro i j hi hj hij
      apply Classical.byContradiction; intro hne
      refine Fld.ne (hO i hi) (hO j hj) (fun q => ?_) hij
      exact hne (own_inj i j hi hj (Value.int.inj q))
  obtain ⟨n, o, h1, h2, h3, _, L, rfl, ⟨rfl, N⟩, hq⟩ := law_ok l s _ hw i0 i1 s.heap s.heap.size (Nat.le_refl _) _ hDT p e ha hc hk s m _ below hf ((Spec.applies_iff_loose hf).mp happ).1 ⟨rfl, State.Warmed39.refl s, rfl⟩ trivial
  refine ⟨n, _, h1, h2, h3, hpost _ _ _ _ _ _ ⟨Cond.after_iff.mpr rfl, Cond.after_iff.mpr (eq_i res_at (Term.int_eval (1)) rfl), trivial⟩ ⟨hq.1, hq.2.1, (hq.2.2.sift fun y hy => Or.inr (N y hy)).mono (by decide) (by decide)⟩⟩
theorem main_1_1 : Claimed_1_1 := comes_1 fun _ _ _ _ _ _ h hF => ⟨h.1, hF⟩
theorem main_1_2 : Claimed_1_2 := comes_1 fun _ _ _ _ _ _ h hF => ⟨h.2.1, hF⟩
end Jvm.Pilot.@@N@@
namespace Jvm.Pilot.@@N@@
open Jvm Jvm.ClassFile Sem Op Lib Jvm.Free Jvm.Stand Jvm.Pilot.@@N@@.Jvm.D
/-! MADE BY PROGRAM (witnessworld.py) out of the Statement's table words and the real class files: 13 classes; the members and pool entries that the words name. The judged class is class 1, her method 1. -/
namespace start1
open Jvm.ClassFile
def u (s : String) : CpInfo := .utf8 (stringToUtf16 s)
/-- a pool by its gaps: so many unusable entries, then the entry; so many at the end -/
def gap : Nat → List CpInfo → List CpInfo
  | 0, r => r
  | n + 1, r => .unusable :: gap n r
def poolList (es : List (Nat × CpInfo)) (last : Nat) : List CpInfo := es.foldr (fun e r => gap e.1 (e.2 :: r)) (gap last [])
def pool (es : List (Nat × CpInfo)) (last : Nat) : Array CpInfo := ⟨poolList es last⟩
def fileOf (pool : Array CpInfo) (this : Nat) (attrs : Array Attribute := #[]) (ms : Array MethodInfo := #[]) (fl : Nat := 33) (sup : Nat := 0) (ifs : Array Nat := #[]) (fds : Array FieldInfo := #[]) : ClassFile where
  minorVersion := 0
  majorVersion := 65
  constantPool := pool
  accessFlags := fl
  thisClass := this
  superClass := sup
  interfaces := ifs
  fields := fds
  methods := ms
  attributes := attrs
def plain (name : String) (sup : Option ClassId) : Class where
  name := name
  kind := .ordinary
  loader := none
  accessFlags := 33
  super := sup
  interfaces := #[]
  cf := none
  fields := #[]
  methods := #[]
  instanceTypes := #[]
  staticTypes := #[]
  resolved := #[]
  callSites := []
  init := .initialized
  statics := none
  mirror := none

def pool0 : Array CpInfo := pool [(5, u "<init>"), (0, u "()V"), (1, .class_ 10), (1, u "java/lang/Object")] 113

def k0m0 : Method := { name := "<init>", desc := "()V", sig := { parameters := [], returnType := none }, accessFlags := 1, code := none }
/-- java/lang/Object -/
def k0 : Class := { plain "java/lang/Object" none with
  accessFlags := 33
  interfaces := #[]
  cf := some (fileOf pool0 8 #[] #[{ accessFlags := 1, nameIndex := 5, descriptorIndex := 6, attributes := #[] }] 33 0 #[] #[])
  fields := #[]
  methods := #[k0m0]
  instanceTypes := #[]
  staticTypes := #[]
  resolved := Array.replicate 124 none
  statics := none }

def pool1 : Array CpInfo := pool [(2, .class_ 4), (1, u "java/lang/Object"), (0, u "<init>"), (0, u "()V"), (0, .class_ 8), (0, u "com/example/pathweave/pathweave/model/Datatype"), (0, .fieldref 7 10), (0, .nameAndType 11 12), (0, u "LITERAL"), (0, u "Lcom/example/pathweave/pathweave/model/Datatype;"), (0, .fieldref 7 14), (0, .nameAndType 15 12), (0, u "PLAIN_LITERAL"), (0, .fieldref 7 17), (0, .nameAndType 18 12), (0, u "XML_LITERAL"), (0, .fieldref 7 20), (0, .nameAndType 21 12), (0, u "REAL"), (0, .fieldref 7 23), (0, .nameAndType 24 12), (0, u "RATIONAL"), (0, .fieldref 7 26), (0, .nameAndType 27 12), (0, u "DECIMAL"), (0, .fieldref 7 29), (0, .nameAndType 30 12), (0, u "INTEGER"), (0, .fieldref 7 32), (0, .nameAndType 33 12), (0, u "NON_NEGATIVE_INTEGER"), (0, .fieldref 7 35), (0, .nameAndType 36 12), (0, u "STRING"), (0, .fieldref 7 38), (0, .nameAndType 39 12), (0, u "NORMALIZED_STRING"), (0, .fieldref 7 41), (0, .nameAndType 42 12), (0, u "TOKEN"), (0, .fieldref 7 44), (0, .nameAndType 45 12), (0, u "NMTOKEN"), (0, .fieldref 7 47), (0, .nameAndType 48 12), (0, u "NAME"), (0, .fieldref 7 50), (0, .nameAndType 51 12), (0, u "NCNAME"), (0, .fieldref 7 53), (0, .nameAndType 54 12), (0, u "HEX_BINARY"), (0, .fieldref 7 56), (0, .nameAndType 57 12), (0, u "BASE64_BINARY"), (0, .fieldref 7 59), (0, .nameAndType 60 12), (0, u "ANY_URI"), (0, .fieldref 7 62), (0, .nameAndType 63 12), (0, u "DATE_TIME"), (0, .fieldref 7 65), (0, .nameAndType 66 12), (0, u "DATE_TIME_STAMP"), (0, .integer 32768), (0, .integer 65536), (0, .integer 131072), (0, .integer 262144), (0, .integer 2147483647), (0, .methodref 7 73), (0, .nameAndType 74 75), (0, u "within"), (0, u "(Lcom/example/pathweave/pathweave/model/Datatype;)Z"), (0, .class_ 77), (0, u "com/example/pathweave/pathweave/model/DatatypeWithinPinLaw"), (2, u "law"), (0, u "(II)Z")] 7

def k1m0 : Method := { name := "<init>", desc := "()V", sig := { parameters := [], returnType := none }, accessFlags := 2, code := none }
def k1c1 : Code := { maxStack := 4, maxLocals := 7, code := code, exceptionTable := #[], attributes := #[] }
def k1m1 : Method := { name := "law", desc := "(II)Z", sig := { parameters := [.int, .int], returnType := some .boolean }, accessFlags := 9, code := some k1c1 }
/-- com/example/pathweave/pathweave/model/DatatypeWithinPinLaw -/
def k1 : Class := { plain "com/example/pathweave/pathweave/model/DatatypeWithinPinLaw" (some 0) with
  accessFlags := 49
  interfaces := #[]
  cf := some (fileOf pool1 76 #[] #[{ accessFlags := 2, nameIndex := 5, descriptorIndex := 6, attributes := #[] }, { accessFlags := 9, nameIndex := 80, descriptorIndex := 81, attributes := #[] }] 49 2 #[] #[])
  fields := #[]
  methods := #[k1m0, k1m1]
  instanceTypes := #[]
  staticTypes := #[]
  resolved := Array.replicate 89 none
  statics := none }

def pool2 : Array CpInfo := pool [(1, .class_ 2), (0, u "java/lang/constant/Constable"), (0, .class_ 4), (0, u "java/lang/Object")] 6

/-- java/lang/constant/Constable -/
def k2 : Class := { plain "java/lang/constant/Constable" (some 0) with
  accessFlags := 1537
  interfaces := #[]
  cf := some (fileOf pool2 1 #[] #[] 1537 3 #[] #[])
  fields := #[]
  methods := #[]
  instanceTypes := #[]
  staticTypes := #[]
  resolved := Array.replicate 11 none
  statics := none }

def pool3 : Array CpInfo := pool [(1, .class_ 2), (0, u "java/lang/Comparable"), (0, .class_ 4), (0, u "java/lang/Object")] 7

/-- java/lang/Comparable -/
def k3 : Class := { plain "java/lang/Comparable" (some 0) with
  accessFlags := 1537
  interfaces := #[]
  cf := some (fileOf pool3 1 #[] #[] 1537 3 #[] #[])
  fields := #[]
  methods := #[]
  instanceTypes := #[]
  staticTypes := #[]
  resolved := Array.replicate 12 none
  statics := none }

def pool4 : Array CpInfo := pool [(1, .class_ 2), (0, u "java/io/Serializable"), (0, .class_ 4), (0, u "java/lang/Object")] 2

/-- java/io/Serializable -/
def k4 : Class := { plain "java/io/Serializable" (some 0) with
  accessFlags := 1537
  interfaces := #[]
  cf := some (fileOf pool4 1 #[] #[] 1537 3 #[] #[])
  fields := #[]
  methods := #[]
  instanceTypes := #[]
  staticTypes := #[]
  resolved := Array.replicate 7 none
  statics := none }

def pool5 : Array CpInfo := pool [(2, .class_ 4), (1, u "java/lang/Enum"), (0, u "name"), (0, u "Ljava/lang/String;"), (2, u "ordinal"), (0, u "I"), (1, .class_ 14), (1, u "java/lang/Object"), (4, u "hash"), (86, .class_ 108), (1, u "java/lang/Enum$EnumDesc"), (2, .class_ 112), (0, u "java/lang/constant/Constable"), (0, .class_ 114), (0, u "java/lang/Comparable"), (0, .class_ 116), (0, u "java/io/Serializable")] 87

/-- java/lang/Enum -/
def k5 : Class := { plain "java/lang/Enum" (some 0) with
  accessFlags := 1057
  interfaces := #[2, 3, 4]
  cf := some (fileOf pool5 2 #[.nestMembers #[106]] #[] 1057 12 #[111, 113, 115] #[{ accessFlags := 18, nameIndex := 5, descriptorIndex := 6, attributes := #[] }, { accessFlags := 18, nameIndex := 9, descriptorIndex := 10, attributes := #[] }, { accessFlags := 2, nameIndex := 19, descriptorIndex := 10, attributes := #[] }])
  fields := #[{ name := "name", type := (.object "java/lang/String"), accessFlags := 18, slot := 0, constantValue := 0 }, { name := "ordinal", type := .int, accessFlags := 18, slot := 1, constantValue := 0 }, { name := "hash", type := .int, accessFlags := 2, slot := 2, constantValue := 0 }]
  methods := #[]
  instanceTypes := #[(.object "java/lang/String"), .int, .int]
  staticTypes := #[]
  resolved := Array.replicate 204 none
  statics := none }

def pool6 : Array CpInfo := pool [(1, .class_ 2), (0, u "com/example/pathweave/pathweave/model/Datatype"), (0, .fieldref 1 4), (0, .nameAndType 5 6), (0, u "LITERAL"), (0, u "Lcom/example/pathweave/pathweave/model/Datatype;"), (2, u "PLAIN_LITERAL"), (2, u "XML_LITERAL"), (2, u "REAL"), (2, u "RATIONAL"), (2, u "DECIMAL"), (2, u "INTEGER"), (2, u "NON_NEGATIVE_INTEGER"), (2, u "STRING"), (2, u "NORMALIZED_STRING"), (2, u "TOKEN"), (2, u "NMTOKEN"), (2, u "NAME"), (2, u "NCNAME"), (2, u "HEX_BINARY"), (2, u "BASE64_BINARY"), (2, u "ANY_URI"), (2, u "DATE_TIME"), (2, u "DATE_TIME_STAMP"), (2, u "$VALUES"), (0, u "[Lcom/example/pathweave/pathweave/model/Datatype;"), (6, .class_ 73), (1, u "java/lang/Enum"), (11, u "iri"), (0, u "Ljava/lang/String;"), (0, .fieldref 1 88), (0, .nameAndType 89 6), (0, u "enclosing"), (6, u "BY_IRI"), (0, u "Ljava/util/Map;"), (119, u "within"), (0, u "(Lcom/example/pathweave/pathweave/model/Datatype;)Z")] 26

def k6c0 : Code := { maxStack := 2, maxLocals := 3, code := prog_65_method_8_code, exceptionTable := #[], attributes := #[] }
def k6m0 : Method := { name := "within", desc := "(Lcom/example/pathweave/pathweave/model/Datatype;)Z", sig := { parameters := [(.object "com/example/pathweave/pathweave/model/Datatype")], returnType := some .boolean }, accessFlags := 1, code := some k6c0 }
/-- com/example/pathweave/pathweave/model/Datatype -/
def k6 : Class := { plain "com/example/pathweave/pathweave/model/Datatype" (some 5) with
  accessFlags := 16433
  interfaces := #[]
  cf := some (fileOf pool6 1 #[] #[{ accessFlags := 1, nameIndex := 217, descriptorIndex := 218, attributes := #[] }] 16433 71 #[] #[{ accessFlags := 16409, nameIndex := 5, descriptorIndex := 6, attributes := #[] }, { accessFlags := 16409, nameIndex := 9, descriptorIndex := 6, attributes := #[] }, { accessFlags := 16409, nameIndex := 12, descriptorIndex := 6, attributes := #[] }, { accessFlags := 16409, nameIndex := 15, descriptorIndex := 6, attributes := #[] }, { accessFlags := 16409, nameIndex := 18, descriptorIndex := 6, attributes := #[] }, { accessFlags := 16409, nameIndex := 21, descriptorIndex := 6, attributes := #[] }, { accessFlags := 16409, nameIndex := 24, descriptorIndex := 6, attributes := #[] }, { accessFlags := 16409, nameIndex := 27, descriptorIndex := 6, attributes := #[] }, { accessFlags := 16409, nameIndex := 30, descriptorIndex := 6, attributes := #[] }, { accessFlags := 16409, nameIndex := 33, descriptorIndex := 6, attributes := #[] }, { accessFlags := 16409, nameIndex := 36, descriptorIndex := 6, attributes := #[] }, { accessFlags := 16409, nameIndex := 39, descriptorIndex := 6, attributes := #[] }, { accessFlags := 16409, nameIndex := 42, descriptorIndex := 6, attributes := #[] }, { accessFlags := 16409, nameIndex := 45, descriptorIndex := 6, attributes := #[] }, { accessFlags := 16409, nameIndex := 48, descriptorIndex := 6, attributes := #[] }, { accessFlags := 16409, nameIndex := 51, descriptorIndex := 6, attributes := #[] }, { accessFlags := 16409, nameIndex := 54, descriptorIndex := 6, attributes := #[] }, { accessFlags := 16409, nameIndex := 57, descriptorIndex := 6, attributes := #[] }, { accessFlags := 16409, nameIndex := 60, descriptorIndex := 6, attributes := #[] }, { accessFlags := 26, nameIndex := 96, descriptorIndex := 97, attributes := #[] }, { accessFlags := 18, nameIndex := 85, descriptorIndex := 86, attributes := #[] }, { accessFlags := 18, nameIndex := 89, descriptorIndex := 6, attributes := #[] }, { accessFlags := 4122, nameIndex := 63, descriptorIndex := 64, attributes := #[] }])
  fields := #[{ name := "LITERAL", type := (.object "com/example/pathweave/pathweave/model/Datatype"), accessFlags := 16409, slot := 0, constantValue := 0 }, { name := "PLAIN_LITERAL", type := (.object "com/example/pathweave/pathweave/model/Datatype"), accessFlags := 16409, slot := 1, constantValue := 0 }, { name := "XML_LITERAL", type := (.object "com/example/pathweave/pathweave/model/Datatype"), accessFlags := 16409, slot := 2, constantValue := 0 }, { name := "REAL", type := (.object "com/example/pathweave/pathweave/model/Datatype"), accessFlags := 16409, slot := 3, constantValue := 0 }, { name := "RATIONAL", type := (.object "com/example/pathweave/pathweave/model/Datatype"), accessFlags := 16409, slot := 4, constantValue := 0 }, { name := "DECIMAL", type := (.object "com/example/pathweave/pathweave/model/Datatype"), accessFlags := 16409, slot := 5, constantValue := 0 }, { name := "INTEGER", type := (.object "com/example/pathweave/pathweave/model/Datatype"), accessFlags := 16409, slot := 6, constantValue := 0 }, { name := "NON_NEGATIVE_INTEGER", type := (.object "com/example/pathweave/pathweave/model/Datatype"), accessFlags := 16409, slot := 7, constantValue := 0 }, { name := "STRING", type := (.object "com/example/pathweave/pathweave/model/Datatype"), accessFlags := 16409, slot := 8, constantValue := 0 }, { name := "NORMALIZED_STRING", type := (.object "com/example/pathweave/pathweave/model/Datatype"), accessFlags := 16409, slot := 9, constantValue := 0 }, { name := "TOKEN", type := (.object "com/example/pathweave/pathweave/model/Datatype"), accessFlags := 16409, slot := 10, constantValue := 0 }, { name := "NMTOKEN", type := (.object "com/example/pathweave/pathweave/model/Datatype"), accessFlags := 16409, slot := 11, constantValue := 0 }, { name := "NAME", type := (.object "com/example/pathweave/pathweave/model/Datatype"), accessFlags := 16409, slot := 12, constantValue := 0 }, { name := "NCNAME", type := (.object "com/example/pathweave/pathweave/model/Datatype"), accessFlags := 16409, slot := 13, constantValue := 0 }, { name := "HEX_BINARY", type := (.object "com/example/pathweave/pathweave/model/Datatype"), accessFlags := 16409, slot := 14, constantValue := 0 }, { name := "BASE64_BINARY", type := (.object "com/example/pathweave/pathweave/model/Datatype"), accessFlags := 16409, slot := 15, constantValue := 0 }, { name := "ANY_URI", type := (.object "com/example/pathweave/pathweave/model/Datatype"), accessFlags := 16409, slot := 16, constantValue := 0 }, { name := "DATE_TIME", type := (.object "com/example/pathweave/pathweave/model/Datatype"), accessFlags := 16409, slot := 17, constantValue := 0 }, { name := "DATE_TIME_STAMP", type := (.object "com/example/pathweave/pathweave/model/Datatype"), accessFlags := 16409, slot := 18, constantValue := 0 }, { name := "BY_IRI", type := (.object "java/util/Map"), accessFlags := 26, slot := 19, constantValue := 0 }, { name := "iri", type := (.object "java/lang/String"), accessFlags := 18, slot := 3, constantValue := 0 }, { name := "enclosing", type := (.object "com/example/pathweave/pathweave/model/Datatype"), accessFlags := 18, slot := 4, constantValue := 0 }, { name := "$VALUES", type := (.array (.object "com/example/pathweave/pathweave/model/Datatype")), accessFlags := 4122, slot := 20, constantValue := 0 }]
  methods := #[k6m0]
  instanceTypes := #[(.object "java/lang/String"), .int, .int, (.object "java/lang/String"), (.object "com/example/pathweave/pathweave/model/Datatype")]
  staticTypes := #[(.object "com/example/pathweave/pathweave/model/Datatype"), (.object "com/example/pathweave/pathweave/model/Datatype"), (.object "com/example/pathweave/pathweave/model/Datatype"), (.object "com/example/pathweave/pathweave/model/Datatype"), (.object "com/example/pathweave/pathweave/model/Datatype"), (.object "com/example/pathweave/pathweave/model/Datatype"), (.object "com/example/pathweave/pathweave/model/Datatype"), (.object "com/example/pathweave/pathweave/model/Datatype"), (.object "com/example/pathweave/pathweave/model/Datatype"), (.object "com/example/pathweave/pathweave/model/Datatype"), (.object "com/example/pathweave/pathweave/model/Datatype"), (.object "com/example/pathweave/pathweave/model/Datatype"), (.object "com/example/pathweave/pathweave/model/Datatype"), (.object "com/example/pathweave/pathweave/model/Datatype"), (.object "com/example/pathweave/pathweave/model/Datatype"), (.object "com/example/pathweave/pathweave/model/Datatype"), (.object "com/example/pathweave/pathweave/model/Datatype"), (.object "com/example/pathweave/pathweave/model/Datatype"), (.object "com/example/pathweave/pathweave/model/Datatype"), (.object "java/util/Map"), (.array (.object "com/example/pathweave/pathweave/model/Datatype"))]
  resolved := Array.replicate 245 none
  statics := some 0 }

def pool7 : Array CpInfo := pool [(1, u "java/lang/Cloneable"), (0, .class_ 1), (0, u "java/lang/Object"), (0, .class_ 3)] 3

/-- java/lang/Cloneable -/
def k7 : Class := { plain "java/lang/Cloneable" (some 0) with
  accessFlags := 1537
  interfaces := #[]
  cf := some (fileOf pool7 2 #[] #[] 1537 4 #[] #[])
  fields := #[]
  methods := #[]
  instanceTypes := #[]
  staticTypes := #[]
  resolved := Array.replicate 8 none
  statics := none }

/-- the primitive byte -/
def k8 : Class := { plain "byte" none with kind := .primitive 'B', accessFlags := 0x411 }
/-- [B -/
def k9 : Class := { plain "[B" (some 0) with kind := .array 8 .byte, interfaces := #[7, 4], accessFlags := 1041 }

/-- the primitive int -/
def k10 : Class := { plain "int" none with kind := .primitive 'I', accessFlags := 0x411 }
/-- [I -/
def k11 : Class := { plain "[I" (some 0) with kind := .array 10 .int, interfaces := #[7, 4], accessFlags := 1041 }

/-- [Lcom/example/pathweave/pathweave/model/Datatype; -/
def k12 : Class := { plain "[Lcom/example/pathweave/pathweave/model/Datatype;" (some 0) with kind := .array 6 (.object "com/example/pathweave/pathweave/model/Datatype"), interfaces := #[7, 4], accessFlags := 1041 }

def heap : Heap := #[{ cls := 6, slots := #[.ref 1, .ref 2, .ref 3, .ref 4, .ref 5, .ref 6, .ref 7, .ref 8, .ref 9, .ref 10, .ref 11, .ref 12, .ref 13, .ref 14, .ref 15, .ref 16, .ref 17, .ref 18, .ref 19, .null, .null], vm := .statics 6 },
  { cls := 6, slots := #[.null, .int 0, .int 0, .null, .null], vm := .none },
  { cls := 6, slots := #[.null, .int 1, .int 0, .null, .null], vm := .none },
  { cls := 6, slots := #[.null, .int 2, .int 0, .null, .null], vm := .none },
  { cls := 6, slots := #[.null, .int 3, .int 0, .null, .null], vm := .none },
  { cls := 6, slots := #[.null, .int 4, .int 0, .null, .ref 4], vm := .none },
  { cls := 6, slots := #[.null, .int 5, .int 0, .null, .ref 5], vm := .none },
  { cls := 6, slots := #[.null, .int 6, .int 0, .null, .ref 6], vm := .none },
  { cls := 6, slots := #[.null, .int 7, .int 0, .null, .ref 7], vm := .none },
  { cls := 6, slots := #[.null, .int 8, .int 0, .null, .ref 2], vm := .none },
  { cls := 6, slots := #[.null, .int 9, .int 0, .null, .ref 9], vm := .none },
  { cls := 6, slots := #[.null, .int 10, .int 0, .null, .ref 10], vm := .none },
  { cls := 6, slots := #[.null, .int 11, .int 0, .null, .ref 11], vm := .none },
  { cls := 6, slots := #[.null, .int 12, .int 0, .null, .ref 12], vm := .none },
  { cls := 6, slots := #[.null, .int 13, .int 0, .null, .ref 13], vm := .none },
  { cls := 6, slots := #[.null, .int 14, .int 0, .null, .null], vm := .none },
  { cls := 6, slots := #[.null, .int 15, .int 0, .null, .null], vm := .none },
  { cls := 6, slots := #[.null, .int 16, .int 0, .null, .null], vm := .none },
  { cls := 6, slots := #[.null, .int 17, .int 0, .null, .null], vm := .none },
  { cls := 6, slots := #[.null, .int 18, .int 0, .null, .ref 18], vm := .none }]
def classes : Array Class := #[k0, k1, k2, k3, k4, k5, k6, k7, k8, k9, k10, k11, k12]
def interned : List (Array UInt16 × Addr) := []
def slotsUsed : Nat := 116
def theMethod : MethodId := ⟨1, 1⟩
def args0 : Array Value := #[.int 5, .int 7]
def aboutOver (below : List Frame) : State where
  vm := { classes := classes, interned := interned.toArray }
  heap := heap
  slotsUsed := slotsUsed
  threads := #[{ frames := .invoking theMethod args0 :: below }]
def below0 : List Frame := [.native { method := ⟨0, 0⟩, args := #[] }]
def about1 : State := aboutOver below0
def p0 : Program := .bare "" "" ""
def e0 : Env := launch0.env 0 0 0
theorem w_frames : about1.frames = Frame.invoking theMethod args0 :: below0 := rfl
set_option maxRecDepth 65536 in
theorem w_args : argsFit about1.vm theMethod args0 = true := by decide +kernel
set_option maxRecDepth 65536 in
theorem w_heap : heapFits about1 = true := by decide +kernel
set_option maxRecDepth 65536 in
theorem w_runnable : about1.curStatus? = some .runnable := by decide +kernel
set_option maxRecDepth 65536 in
theorem w_alone : about1.alone = true := by decide +kernel
set_option maxRecDepth 65536 in
theorem w_named : about1.methodNamed? x = some theMethod := by decide +kernel
set_option maxRecDepth 65536 in
theorem w_hears : about1.hears theMethod below0 = true := by decide +kernel
set_option maxRecDepth 65536 in
theorem w_ripe : about1.ripe theMethod args0 below0 = true := by decide +kernel
theorem w_running : about1.status = .running := rfl
set_option maxRecDepth 65536 in
theorem w_room : about1.hasRoom e0.platform room_1 = true :=
  launch0.hasRoom_least _ room_1 (by decide +kernel) (by decide +kernel) (by decide +kernel) (by decide +kernel) (by decide +kernel) (by decide +kernel)
theorem allAtoms_all (ts : List Jvm.Cond) (a : Array Jvm.Value) (st : Jvm.State) : (allAtoms ts).before a st = ts.all (fun c => c.before a st) := by
  induction ts with
  | nil => rfl
  | cons c t ih =>
    show (Jvm.Cond.and c (allAtoms t)).before a st = _
    rw [Jvm.Cond.before_and, ih, List.all_cons]
def words1 : List Jvm.Cond := Jvm.Cond.code x code maxLocals ret :: tables_1
/-- a 'code' word, met by the world's own term for the bytes: nothing is compared byte by byte -/
theorem code_word {y : MethodName} {bytes : ByteArray} {mx : Nat} {rt : Option FieldType} {a : Array Value} {s : State} {m : MethodId} {meth : Method} {c : Code} (h1 : s.methodNamed? y = some m) (h2 : s.vm.method? m = some meth) (h3 : meth.code = some c) (h4 : c.code = bytes)
    (h5 : (c.maxLocals == mx && c.exceptionTable.isEmpty && decide (c.maxStack ≤ mostOperands) && decide (meth.sig.returnType = rt) && !meth.locks && decide (parseMethodDescriptor y.desc = some meth.sig)) = true) : (Jvm.Cond.code y bytes mx rt).before a s = true := by
  simp only [Bool.and_eq_true, beq_iff_eq, Bool.not_eq_true', decide_eq_true_eq] at h5
  obtain ⟨⟨⟨⟨⟨g1, g2⟩, g3⟩, g4⟩, g5⟩, g6⟩ := h5
  simp [Cond.before, Cond.holds, Cond.value, h1, h2, h3, h4, g1, g2, g3, g4, g5, g6]
def isCode : Jvm.Cond → Bool
  | .code _ _ _ _ => true
  | _ => false
theorem all_split {L : List Jvm.Cond} {P : Jvm.Cond → Bool} (h1 : L.all (fun c => isCode c || P c) = true) (h2 : ∀ c ∈ L.filter isCode, P c = true) : L.all P = true := by
  refine List.all_eq_true.mpr fun c hc => ?_
  have h := List.all_eq_true.mp h1 c hc
  rcases Bool.eq_false_or_eq_true (isCode c) with hi | hi
  · exact h2 c (List.mem_filter.mpr ⟨hc, hi⟩)
  · simpa [hi] using h
set_option maxRecDepth 65536 in
theorem w_c0 : (Jvm.Cond.code x code maxLocals ret).before args0 about1 = true := code_word (m := ⟨1, 1⟩) (meth := k1m1) (c := k1c1) (by decide +kernel) rfl rfl rfl (by decide +kernel)
set_option maxRecDepth 65536 in
theorem w_c1 : (Jvm.Cond.code ({ cls := "com/example/pathweave/pathweave/model/Datatype", name := "within", desc := "(Lcom/example/pathweave/pathweave/model/Datatype;)Z" } : Jvm.MethodName) prog_65_method_8_code (3 : Nat) (Option.some Jvm.ClassFile.FieldType.boolean)).before args0 about1 = true := code_word (m := ⟨6, 0⟩) (meth := k6m0) (c := k6c0) (by decide +kernel) rfl rfl rfl (by decide +kernel)
def codes1 : List Jvm.Cond := [Jvm.Cond.code x code maxLocals ret, Jvm.Cond.code ({ cls := "com/example/pathweave/pathweave/model/Datatype", name := "within", desc := "(Lcom/example/pathweave/pathweave/model/Datatype;)Z" } : Jvm.MethodName) prog_65_method_8_code (3 : Nat) (Option.some Jvm.ClassFile.FieldType.boolean)]
set_option maxRecDepth 65536 in
theorem codes_eq : words1.filter isCode = codes1 := rfl
theorem w_codes : ∀ c ∈ words1.filter isCode, c.before args0 about1 = true := by
  rw [codes_eq]
  intro c hc
  simp only [codes1, List.mem_cons, List.not_mem_nil, or_false] at hc
  rcases hc with rfl | rfl
  · exact w_c0
  · exact w_c1
set_option maxRecDepth 65536 in
theorem w_t1 : (words1.take 24).all (fun c => isCode c || c.before args0 about1) = true := by decide +kernel
set_option maxRecDepth 65536 in
theorem w_t2 : ((words1.drop 24).take 24).all (fun c => isCode c || c.before args0 about1) = true := by decide +kernel
set_option maxRecDepth 65536 in
theorem w_t3 : ((words1.drop 24).drop 24).all (fun c => isCode c || c.before args0 about1) = true := by decide +kernel
theorem w_tables : (allAtoms (Jvm.Cond.code x code maxLocals ret :: tables_1)).before args0 about1 = true := by
  rw [allAtoms_all]
  show words1.all (fun c => c.before args0 about1) = true
  refine all_split ?_ w_codes
  rw [← List.take_append_drop 24 words1, List.all_append, w_t1, ← List.take_append_drop 24 (words1.drop 24), List.all_append, w_t2, w_t3]
  rfl
set_option maxRecDepth 65536 in
theorem w_case : (Jvm.Cond.and given_1 narrow_1).before args0 about1 = true := by decide +kernel
theorem w_applies : (headSpec (Jvm.Cond.code x code maxLocals ret :: tables_1) room_1).applies x e0.platform about1 = true :=
  (Spec.applies_iff w_frames).mpr ⟨w_running, w_runnable, w_alone, w_named, w_hears, w_ripe, w_room, w_tables⟩
theorem atStart : AtStart classFile x code maxLocals ret World_1 tables_1 room_1 Calls_1 rest_1 Pre_1 launch0 p0 e0 about1 theMethod args0 below0 :=
  ⟨lists_1, trivial, launch0.admits_env _ _ _, launch0.least_env, fairChoices_fair.cas, fairChoices_fair.clock, w_frames, w_args, w_heap, w_applies, trivial, trivial, w_case⟩
end start1
theorem witness_1 : WitnessClaimed_1 := ⟨start1.p0, start1.e0, start1.about1, start1.theMethod, start1.args0, start1.below0, start1.atStart⟩
end Jvm.Pilot.@@N@@
