import JvmDerived
import JvmDerived.Pilot.@@N@@Statement
import JvmDerived.Pilot.@@N@@Code
set_option linter.unusedVariables false
set_option linter.unusedSimpArgs false
namespace Jvm.Wk
abbrev F4 := Fin 4
abbrev F2 := Fin 2
open Sem ClassFile Op Lib Jvm.Stand Jvm.Free Jvm.LawKit Jvm.RoadKit
/-- the array at a holds just these values -/
def Ary (Z : State) (h : Heap) (a : Addr) (ty : FieldType) (vs : List Value) : Prop :=
  ∃ c : Cell, Arr Z h a c ty ∧ c.slots.toList = vs ∧ (∀ v ∈ vs, fits ty v = true) ∧ vs.length < 2 ^ 31
def Endz (p : Program) (e : Env) (below : List Frame) (s : State) (R : Room) (n0 : Nat) (P : Option Value → Heap → Prop) (T : State) (g : JFrame) : Prop :=
  ∃ s₂ o, Steps p.tables e below (T.setTop g) s₂ ∧ s₂.status = .running ∧ Ended s₂ below o ∧ ∃ v L, o = .returned v ∧ (P v s₂.heap ∧ Fr n0 L) ∧ FrameEnd s o s₂ L R.cells R.slots
/-- from pc, with these locals, this stack and this heap, the body comes to its end, and P holds there -/
def W (l : Launch) (R : Room) (Z : State) (own nm : String) (bytes : ByteArray) (maxL : Nat) (ret : Option FieldType) (n0 : Nat) (P : Option Value → Heap → Prop) (h : Heap) (cells slots pc : Nat) (Ls : Array Slot) (st : List Value) : Prop :=
  ∀ (p : Program) (e : Env) (s : State) (m : MethodId) (args : Array Value) (below : List Frame) (meth : Method) (c : Code) (T : State) (locs : List Loc),
    p.tables.exec = Jvm.exec → Z.Warmed39 s.vm → c.code = bytes → c.maxLocals = maxL → s.vm.findClass own = some m.cls → meth.sig.returnType = ret → meth.locks = false → meth.name = nm → n0 ≤ s.heap.size →
    Stand p l e R s m args below meth c T locs cells slots → T.heap = h → Fr n0 locs → Endz p e below s R n0 P T (mkF m pc Ls st)
/-- a method's contract where it is called with these arguments over this heap -/
def ConW (ws : List Jvm.Cond) (l : Launch) (Z : State) (y : MethodName) (bytes : ByteArray) (maxL : Nat) (ret : Option FieldType) (rm : Room) (as : Array Value) (h : Heap) (n0 : Nat) (P : Option Value → Heap → Prop) : Prop :=
  MetFree l y (head1 (Jvm.Cond.code y bytes maxL ret :: ws) rm) (fun a U => a = as ∧ Z.Warmed39 U.vm ∧ U.heap = h) (fun _ _ _ _ _ => True) (fun _ U o U' => ∃ v L, o = .returned v ∧ (P v U'.heap ∧ Fr n0 L) ∧ FrameEnd U o U' L rm.cells rm.slots)
abbrev Con := ConW []
section Rules
variable {l : Launch} {R : Room} {Z : State} {own nm : String} {bytes : ByteArray} {maxL : Nat} {ret : Option FieldType} {n0 : Nat} {P : Option Value → Heap → Prop} {h : Heap} {cells slots pc : Nat} {Ls : Array Slot} {st : List Value} {a0 : Array Value}
theorem Endz.step {p : Program} {e : Env} {below : List Frame} {s : State} {T T' : State} {g g' : JFrame} (k : Endz p e below s R n0 P T' g') (f : ∀ t, Steps p.tables e below (T'.setTop g') t → Steps p.tables e below (T.setTop g) t) : Endz p e below s R n0 P T g := by
  obtain ⟨s₂, o, h1, h2⟩ := k
  exact ⟨s₂, o, f _ h1, h2⟩
theorem W.step {pc' : Nat} {Ls' : Array Slot} {st' : List Value} (k : W l R Z own nm bytes maxL ret n0 P h cells slots pc' Ls' st')
    (f : ∀ (p : Program) (e : Env) (s : State) (m : MethodId) (args : Array Value) (below : List Frame) (meth : Method) (c : Code) (T : State) (locs : List Loc), p.tables.exec = Jvm.exec → Z.Warmed39 s.vm → c.code = bytes → s.vm.findClass own = some m.cls → Stand p l e R s m args below meth c T locs cells slots → T.heap = h →
      ∀ t, Steps p.tables e below (T.setTop (mkF m pc' Ls' st')) t → Steps p.tables e below (T.setTop (mkF m pc Ls st)) t) : W l R Z own nm bytes maxL ret n0 P h cells slots pc Ls st := by
  intro p e s m args below meth c T locs hx hZ hby hml hown hret hlk hnm hn0 X eT N
  exact (k p e s m args below meth c T locs hx hZ hby hml hown hret hlk hnm hn0 X eT N).step (f p e s m args below meth c T locs hx hZ hby hown X eT)
theorem W.post {P' : Option Value → Heap → Prop} (k : W l R Z own nm bytes maxL ret n0 P' h cells slots pc Ls st) (f : ∀ v h', P' v h' → P v h') : W l R Z own nm bytes maxL ret n0 P h cells slots pc Ls st := by
  intro p e s m args below meth c T locs hx hZ hby hml hown hret hlk hnm hn0 X eT N
  obtain ⟨s₂, o, h1, h2, h3, v, L, h4, h5, h6⟩ := k p e s m args below meth c T locs hx hZ hby hml hown hret hlk hnm hn0 X eT N
  exact ⟨s₂, o, h1, h2, h3, v, L, h4, ⟨f _ _ h5.1, h5.2⟩, h6⟩
theorem W.mono {cells' slots' : Nat} (k : W l R Z own nm bytes maxL ret n0 P h cells' slots' pc Ls st) (hc : cells ≤ cells') (hs : slots ≤ slots') : W l R Z own nm bytes maxL ret n0 P h cells slots pc Ls st := by
  intro p e s m args below meth c T locs hx hZ hby hml hown hret hlk hnm hn0 X eT N
  exact k p e s m args below meth c T locs hx hZ hby hml hown hret hlk hnm hn0 { X with same := X.same.mono hc hs } eT N
theorem ConW.post {ws : List Jvm.Cond} {y : MethodName} {rm : Room} {as : Array Value} {P' : Option Value → Heap → Prop} (k : ConW ws l Z y bytes maxL ret rm as h n0 P') (f : ∀ v h', P' v h' → P v h') : ConW ws l Z y bytes maxL ret rm as h n0 P := by
  intro p e ha hc hk s m args below hf happ hP hK
  obtain ⟨n, o, h1, h2, h3, v, L, h4, h5, h6⟩ := k p e ha hc hk s m args below hf happ hP hK
  exact ⟨n, o, h1, h2, h3, v, L, h4, ⟨f _ _ h5.1, h5.2⟩, h6⟩
theorem ConW.of_W {ws : List Jvm.Cond} {y : MethodName} {rm : Room} {as : Array Value} (hy : plainFor y = true) (hn : n0 ≤ h.size) (hef : ∀ m, entryFrame m as maxL = mkF m 0 Ls []) (k : W l rm Z y.cls y.name bytes maxL ret n0 P h 0 0 0 Ls []) : ConW ws l Z y bytes maxL ret rm as h n0 P := by
  refine MetFree.of_bodySF hy hisR ?_
  intro p e s m args below meth c s₁ Bd hml0 hP hK
  obtain ⟨rfl, hZ, hh⟩ := hP
  have hown : s.vm.findClass y.cls = some m.cls := findClass_of_methodNamed Bd.named
  have hnm := (name_of_methodNamed Bd.named Bd.method).1
  have X0 : Stand p l e rm s m _ below meth c s₁ [] 0 0 := Stand.of_body Bd
  have e0 : s₁.heap = h := by rw [← hh, Bd.state]; rfl
  obtain ⟨s₂, o, h1, h2⟩ := k p e s m _ below meth c s₁ [] Bd.exec hZ Bd.bytes hml0 hown Bd.returns (BodyLoose.notSynchronized Bd) hnm (by rw [hh]; exact hn) X0 e0 (Fr.nil n0)
  exact ⟨s₂, o, castTop (hef m) h1, h2⟩
/-! pure steps -/
theorem W.iadd {x y : Int32} (n : Nat) (hd : decode bytes pc = .ok (.iadd, 1)) (hn : pc + 1 = n) (v : Int32) (hv : x + y = v) (k : W l R Z own nm bytes maxL ret n0 P h cells slots n Ls (.int v :: st)) : W l R Z own nm bytes maxL ret n0 P h cells slots pc Ls (.int y :: .int x :: st) := by
  subst hn
  exact k.step fun p e s m args below meth c T locs hx hZ hby hown X eT t q => XS.iadd X.here hx rfl (hb hby hd) rfl (hv ▸ q)
theorem W.ladd {x y : Int64} (n : Nat) (hd : decode bytes pc = .ok (.ladd, 1)) (hn : pc + 1 = n) (v : Int64) (hv : x + y = v) (k : W l R Z own nm bytes maxL ret n0 P h cells slots n Ls (.long v :: st)) : W l R Z own nm bytes maxL ret n0 P h cells slots pc Ls (.long y :: .long x :: st) := by
  subst hn
  exact k.step fun p e s m args below meth c T locs hx hZ hby hown X eT t q => XS.ladd X.here hx rfl (hb hby hd) rfl (hv ▸ q)
theorem W.isub {x y : Int32} (n : Nat) (hd : decode bytes pc = .ok (.isub, 1)) (hn : pc + 1 = n) (v : Int32) (hv : x - y = v) (k : W l R Z own nm bytes maxL ret n0 P h cells slots n Ls (.int v :: st)) : W l R Z own nm bytes maxL ret n0 P h cells slots pc Ls (.int y :: .int x :: st) := by
  subst hn
  exact k.step fun p e s m args below meth c T locs hx hZ hby hown X eT t q => XS.isub X.here hx rfl (hb hby hd) rfl (hv ▸ q)
theorem W.lsub {x y : Int64} (n : Nat) (hd : decode bytes pc = .ok (.lsub, 1)) (hn : pc + 1 = n) (v : Int64) (hv : x - y = v) (k : W l R Z own nm bytes maxL ret n0 P h cells slots n Ls (.long v :: st)) : W l R Z own nm bytes maxL ret n0 P h cells slots pc Ls (.long y :: .long x :: st) := by
  subst hn
  exact k.step fun p e s m args below meth c T locs hx hZ hby hown X eT t q => XS.lsub X.here hx rfl (hb hby hd) rfl (hv ▸ q)
theorem W.imul {x y : Int32} (n : Nat) (hd : decode bytes pc = .ok (.imul, 1)) (hn : pc + 1 = n) (v : Int32) (hv : x * y = v) (k : W l R Z own nm bytes maxL ret n0 P h cells slots n Ls (.int v :: st)) : W l R Z own nm bytes maxL ret n0 P h cells slots pc Ls (.int y :: .int x :: st) := by
  subst hn
  exact k.step fun p e s m args below meth c T locs hx hZ hby hown X eT t q => XS.imul X.here hx rfl (hb hby hd) rfl (hv ▸ q)
theorem W.lmul {x y : Int64} (n : Nat) (hd : decode bytes pc = .ok (.lmul, 1)) (hn : pc + 1 = n) (v : Int64) (hv : x * y = v) (k : W l R Z own nm bytes maxL ret n0 P h cells slots n Ls (.long v :: st)) : W l R Z own nm bytes maxL ret n0 P h cells slots pc Ls (.long y :: .long x :: st) := by
  subst hn
  exact k.step fun p e s m args below meth c T locs hx hZ hby hown X eT t q => XS.lmul X.here hx rfl (hb hby hd) rfl (hv ▸ q)
theorem W.iand {x y : Int32} (n : Nat) (hd : decode bytes pc = .ok (.iand, 1)) (hn : pc + 1 = n) (v : Int32) (hv : x &&& y = v) (k : W l R Z own nm bytes maxL ret n0 P h cells slots n Ls (.int v :: st)) : W l R Z own nm bytes maxL ret n0 P h cells slots pc Ls (.int y :: .int x :: st) := by
  subst hn
  exact k.step fun p e s m args below meth c T locs hx hZ hby hown X eT t q => XS.iand X.here hx rfl (hb hby hd) rfl (hv ▸ q)
theorem W.land {x y : Int64} (n : Nat) (hd : decode bytes pc = .ok (.land, 1)) (hn : pc + 1 = n) (v : Int64) (hv : x &&& y = v) (k : W l R Z own nm bytes maxL ret n0 P h cells slots n Ls (.long v :: st)) : W l R Z own nm bytes maxL ret n0 P h cells slots pc Ls (.long y :: .long x :: st) := by
  subst hn
  exact k.step fun p e s m args below meth c T locs hx hZ hby hown X eT t q => XS.land X.here hx rfl (hb hby hd) rfl (hv ▸ q)
theorem W.ior {x y : Int32} (n : Nat) (hd : decode bytes pc = .ok (.ior, 1)) (hn : pc + 1 = n) (v : Int32) (hv : x ||| y = v) (k : W l R Z own nm bytes maxL ret n0 P h cells slots n Ls (.int v :: st)) : W l R Z own nm bytes maxL ret n0 P h cells slots pc Ls (.int y :: .int x :: st) := by
  subst hn
  exact k.step fun p e s m args below meth c T locs hx hZ hby hown X eT t q => XS.ior X.here hx rfl (hb hby hd) rfl (hv ▸ q)
theorem W.lor {x y : Int64} (n : Nat) (hd : decode bytes pc = .ok (.lor, 1)) (hn : pc + 1 = n) (v : Int64) (hv : x ||| y = v) (k : W l R Z own nm bytes maxL ret n0 P h cells slots n Ls (.long v :: st)) : W l R Z own nm bytes maxL ret n0 P h cells slots pc Ls (.long y :: .long x :: st) := by
  subst hn
  exact k.step fun p e s m args below meth c T locs hx hZ hby hown X eT t q => XS.lor X.here hx rfl (hb hby hd) rfl (hv ▸ q)
theorem W.ixor {x y : Int32} (n : Nat) (hd : decode bytes pc = .ok (.ixor, 1)) (hn : pc + 1 = n) (v : Int32) (hv : x ^^^ y = v) (k : W l R Z own nm bytes maxL ret n0 P h cells slots n Ls (.int v :: st)) : W l R Z own nm bytes maxL ret n0 P h cells slots pc Ls (.int y :: .int x :: st) := by
  subst hn
  exact k.step fun p e s m args below meth c T locs hx hZ hby hown X eT t q => XS.ixor X.here hx rfl (hb hby hd) rfl (hv ▸ q)
theorem W.lxor {x y : Int64} (n : Nat) (hd : decode bytes pc = .ok (.lxor, 1)) (hn : pc + 1 = n) (v : Int64) (hv : x ^^^ y = v) (k : W l R Z own nm bytes maxL ret n0 P h cells slots n Ls (.long v :: st)) : W l R Z own nm bytes maxL ret n0 P h cells slots pc Ls (.long y :: .long x :: st) := by
  subst hn
  exact k.step fun p e s m args below meth c T locs hx hZ hby hown X eT t q => XS.lxor X.here hx rfl (hb hby hd) rfl (hv ▸ q)
theorem W.idiv {x y : Int32} (n : Nat) (hd : decode bytes pc = .ok (.idiv, 1)) (hn : pc + 1 = n) (hy : y ≠ 0) (v : Int32) (hv : x / y = v) (k : W l R Z own nm bytes maxL ret n0 P h cells slots n Ls (.int v :: st)) : W l R Z own nm bytes maxL ret n0 P h cells slots pc Ls (.int y :: .int x :: st) := by
  subst hn
  exact k.step fun p e s m args below meth c T locs hx hZ hby hown X eT t q => XS.idiv X.here hx rfl (hb hby hd) rfl hy (hv ▸ q)
theorem W.irem {x y : Int32} (n : Nat) (hd : decode bytes pc = .ok (.irem, 1)) (hn : pc + 1 = n) (hy : y ≠ 0) (v : Int32) (hv : x % y = v) (k : W l R Z own nm bytes maxL ret n0 P h cells slots n Ls (.int v :: st)) : W l R Z own nm bytes maxL ret n0 P h cells slots pc Ls (.int y :: .int x :: st) := by
  subst hn
  exact k.step fun p e s m args below meth c T locs hx hZ hby hown X eT t q => iremM X hx rfl (hb hby hd) rfl hy (hv ▸ q)
theorem W.ldiv {x y : Int64} (n : Nat) (hd : decode bytes pc = .ok (.ldiv, 1)) (hn : pc + 1 = n) (hy : y ≠ 0) (v : Int64) (hv : x / y = v) (k : W l R Z own nm bytes maxL ret n0 P h cells slots n Ls (.long v :: st)) : W l R Z own nm bytes maxL ret n0 P h cells slots pc Ls (.long y :: .long x :: st) := by
  subst hn
  exact k.step fun p e s m args below meth c T locs hx hZ hby hown X eT t q => XS.ldiv X.here hx rfl (hb hby hd) rfl hy (hv ▸ q)
theorem W.lrem {x y : Int64} (n : Nat) (hd : decode bytes pc = .ok (.lrem, 1)) (hn : pc + 1 = n) (hy : y ≠ 0) (v : Int64) (hv : x % y = v) (k : W l R Z own nm bytes maxL ret n0 P h cells slots n Ls (.long v :: st)) : W l R Z own nm bytes maxL ret n0 P h cells slots pc Ls (.long y :: .long x :: st) := by
  subst hn
  exact k.step fun p e s m args below meth c T locs hx hZ hby hown X eT t q => XS.lrem X.here hx rfl (hb hby hd) rfl hy ((lrem_mod x y).trans hv ▸ q)
theorem W.ishl {x y : Int32} (n : Nat) (hd : decode bytes pc = .ok (.ishl, 1)) (hn : pc + 1 = n) (v : Int32) (hv : x <<< (y &&& 31) = v) (k : W l R Z own nm bytes maxL ret n0 P h cells slots n Ls (.int v :: st)) : W l R Z own nm bytes maxL ret n0 P h cells slots pc Ls (.int y :: .int x :: st) := by
  subst hn
  exact k.step fun p e s m args below meth c T locs hx hZ hby hown X eT t q => XS.ishl X.here hx rfl (hb hby hd) rfl (hv ▸ q)
theorem W.ishr {x y : Int32} (n : Nat) (hd : decode bytes pc = .ok (.ishr, 1)) (hn : pc + 1 = n) (v : Int32) (hv : x >>> (y &&& 31) = v) (k : W l R Z own nm bytes maxL ret n0 P h cells slots n Ls (.int v :: st)) : W l R Z own nm bytes maxL ret n0 P h cells slots pc Ls (.int y :: .int x :: st) := by
  subst hn
  exact k.step fun p e s m args below meth c T locs hx hZ hby hown X eT t q => XS.ishr X.here hx rfl (hb hby hd) rfl (hv ▸ q)
theorem W.iushr {x y : Int32} (n : Nat) (hd : decode bytes pc = .ok (.iushr, 1)) (hn : pc + 1 = n) (v : Int32) (hv : (x.toUInt32 >>> (y &&& 31).toUInt32).toInt32 = v) (k : W l R Z own nm bytes maxL ret n0 P h cells slots n Ls (.int v :: st)) : W l R Z own nm bytes maxL ret n0 P h cells slots pc Ls (.int y :: .int x :: st) := by
  subst hn
  exact k.step fun p e s m args below meth c T locs hx hZ hby hown X eT t q => XS.iushr X.here hx rfl (hb hby hd) rfl (hv ▸ q)
theorem W.lshl {x : Int64} {y : Int32} (n : Nat) (hd : decode bytes pc = .ok (.lshl, 1)) (hn : pc + 1 = n) (v : Int64) (hv : x <<< (y &&& 0x3f).toInt64 = v) (k : W l R Z own nm bytes maxL ret n0 P h cells slots n Ls (.long v :: st)) : W l R Z own nm bytes maxL ret n0 P h cells slots pc Ls (.int y :: .long x :: st) := by
  subst hn
  exact k.step fun p e s m args below meth c T locs hx hZ hby hown X eT t q => XS.lshl X.here hx rfl (hb hby hd) rfl (hv ▸ q)
theorem W.lshr {x : Int64} {y : Int32} (n : Nat) (hd : decode bytes pc = .ok (.lshr, 1)) (hn : pc + 1 = n) (v : Int64) (hv : x >>> (y &&& 0x3f).toInt64 = v) (k : W l R Z own nm bytes maxL ret n0 P h cells slots n Ls (.long v :: st)) : W l R Z own nm bytes maxL ret n0 P h cells slots pc Ls (.int y :: .long x :: st) := by
  subst hn
  exact k.step fun p e s m args below meth c T locs hx hZ hby hown X eT t q => XS.lshr X.here hx rfl (hb hby hd) rfl (hv ▸ q)
theorem W.lushr {x : Int64} {y : Int32} (n : Nat) (hd : decode bytes pc = .ok (.lushr, 1)) (hn : pc + 1 = n) (v : Int64) (hv : (x.toUInt64 >>> (y &&& 0x3f).toInt64.toUInt64).toInt64 = v) (k : W l R Z own nm bytes maxL ret n0 P h cells slots n Ls (.long v :: st)) : W l R Z own nm bytes maxL ret n0 P h cells slots pc Ls (.int y :: .long x :: st) := by
  subst hn
  exact k.step fun p e s m args below meth c T locs hx hZ hby hown X eT t q => XS.lushr X.here hx rfl (hb hby hd) rfl (hv ▸ q)
theorem W.ineg {x : Int32} (n : Nat) (hd : decode bytes pc = .ok (.ineg, 1)) (hn : pc + 1 = n) (v : Int32) (hv : -x = v) (k : W l R Z own nm bytes maxL ret n0 P h cells slots n Ls (.int v :: st)) : W l R Z own nm bytes maxL ret n0 P h cells slots pc Ls (.int x :: st) := by
  subst hn
  exact k.step fun p e s m args below meth c T locs hx hZ hby hown X eT t q => XS.ineg X.here hx rfl (hb hby hd) rfl (hv ▸ q)
theorem W.lneg {x : Int64} (n : Nat) (hd : decode bytes pc = .ok (.lneg, 1)) (hn : pc + 1 = n) (v : Int64) (hv : -x = v) (k : W l R Z own nm bytes maxL ret n0 P h cells slots n Ls (.long v :: st)) : W l R Z own nm bytes maxL ret n0 P h cells slots pc Ls (.long x :: st) := by
  subst hn
  exact k.step fun p e s m args below meth c T locs hx hZ hby hown X eT t q => XS.lneg X.here hx rfl (hb hby hd) rfl (hv ▸ q)
theorem W.i2l {x : Int32} (n : Nat) (hd : decode bytes pc = .ok (.i2l, 1)) (hn : pc + 1 = n) (v : Int64) (hv : x.toInt64 = v) (k : W l R Z own nm bytes maxL ret n0 P h cells slots n Ls (.long v :: st)) : W l R Z own nm bytes maxL ret n0 P h cells slots pc Ls (.int x :: st) := by
  subst hn
  exact k.step fun p e s m args below meth c T locs hx hZ hby hown X eT t q => XS.i2l X.here hx rfl (hb hby hd) rfl (hv ▸ q)
theorem W.l2i {x : Int64} (n : Nat) (hd : decode bytes pc = .ok (.l2i, 1)) (hn : pc + 1 = n) (v : Int32) (hv : x.toInt32 = v) (k : W l R Z own nm bytes maxL ret n0 P h cells slots n Ls (.int v :: st)) : W l R Z own nm bytes maxL ret n0 P h cells slots pc Ls (.long x :: st) := by
  subst hn
  exact k.step fun p e s m args below meth c T locs hx hZ hby hown X eT t q => XS.l2i X.here hx rfl (hb hby hd) rfl (hv ▸ q)
theorem W.i2b {x : Int32} (n : Nat) (hd : decode bytes pc = .ok (.i2b, 1)) (hn : pc + 1 = n) (v : Int32) (hv : x.toInt8.toInt32 = v) (k : W l R Z own nm bytes maxL ret n0 P h cells slots n Ls (.int v :: st)) : W l R Z own nm bytes maxL ret n0 P h cells slots pc Ls (.int x :: st) := by
  subst hn
  exact k.step fun p e s m args below meth c T locs hx hZ hby hown X eT t q => XS.i2b X.here hx rfl (hb hby hd) rfl (hv ▸ q)
theorem W.i2s {x : Int32} (n : Nat) (hd : decode bytes pc = .ok (.i2s, 1)) (hn : pc + 1 = n) (v : Int32) (hv : x.toInt16.toInt32 = v) (k : W l R Z own nm bytes maxL ret n0 P h cells slots n Ls (.int v :: st)) : W l R Z own nm bytes maxL ret n0 P h cells slots pc Ls (.int x :: st) := by
  subst hn
  exact k.step fun p e s m args below meth c T locs hx hZ hby hown X eT t q => XS.i2s X.here hx rfl (hb hby hd) rfl (hv ▸ q)
theorem W.i2c {x : Int32} (n : Nat) (hd : decode bytes pc = .ok (.i2c, 1)) (hn : pc + 1 = n) (v : Int32) (hv : x.toUInt32.toUInt16.toUInt32.toInt32 = v) (k : W l R Z own nm bytes maxL ret n0 P h cells slots n Ls (.int v :: st)) : W l R Z own nm bytes maxL ret n0 P h cells slots pc Ls (.int x :: st) := by
  subst hn
  exact k.step fun p e s m args below meth c T locs hx hZ hby hown X eT t q => XS.i2c X.here hx rfl (hb hby hd) rfl (hv ▸ q)
theorem W.lcmp {x y : Int64} (n : Nat) (hd : decode bytes pc = .ok (.lcmp, 1)) (hn : pc + 1 = n) (v : Int32) (hv : lcmpW x y = v) (k : W l R Z own nm bytes maxL ret n0 P h cells slots n Ls (.int v :: st)) : W l R Z own nm bytes maxL ret n0 P h cells slots pc Ls (.long y :: .long x :: st) := by
  subst hn
  exact k.step fun p e s m args below meth c T locs hx hZ hby hown X eT t q => XS.lcmp X.here hx rfl (hb hby hd) rfl ((show (if x > y then 1 else if x = y then 0 else -1) = v from hv) ▸ q)
theorem W.iconst {i : Int} (n : Nat) (hd : decode bytes pc = .ok (.iconst i, 1)) (hn : pc + 1 = n) (v : Int32) (hv : Int32.ofInt i = v) (k : W l R Z own nm bytes maxL ret n0 P h cells slots n Ls (.int v :: st)) : W l R Z own nm bytes maxL ret n0 P h cells slots pc Ls st := by
  subst hn
  exact k.step fun p e s m args below meth c T locs hx hZ hby hown X eT t q => XS.iconst X.here hx rfl (hb hby hd) (hv ▸ q)
theorem W.bipush {i : Int} (n : Nat) (hd : decode bytes pc = .ok (.bipush i, 2)) (hn : pc + 2 = n) (v : Int32) (hv : (Int8.ofInt i).toInt32 = v) (k : W l R Z own nm bytes maxL ret n0 P h cells slots n Ls (.int v :: st)) : W l R Z own nm bytes maxL ret n0 P h cells slots pc Ls st := by
  subst hn
  exact k.step fun p e s m args below meth c T locs hx hZ hby hown X eT t q => XS.bipush X.here hx rfl (hb hby hd) (hv ▸ q)
theorem W.sipush {i : Int} (n : Nat) (hd : decode bytes pc = .ok (.sipush i, 3)) (hn : pc + 3 = n) (v : Int32) (hv : (Int16.ofInt i).toInt32 = v) (k : W l R Z own nm bytes maxL ret n0 P h cells slots n Ls (.int v :: st)) : W l R Z own nm bytes maxL ret n0 P h cells slots pc Ls st := by
  subst hn
  exact k.step fun p e s m args below meth c T locs hx hZ hby hown X eT t q => XS.sipush X.here hx rfl (hb hby hd) (hv ▸ q)
theorem W.lconst {i : F2} (n : Nat) (hd : decode bytes pc = .ok (.lconst i, 1)) (hn : pc + 1 = n) (v : Int64) (hv : Int64.ofNat i = v) (k : W l R Z own nm bytes maxL ret n0 P h cells slots n Ls (.long v :: st)) : W l R Z own nm bytes maxL ret n0 P h cells slots pc Ls st := by
  subst hn
  exact k.step fun p e s m args below meth c T locs hx hZ hby hown X eT t q => XS.lconst X.here hx rfl (hb hby hd) (hv ▸ q)
theorem W.aconst_null (n : Nat) (hd : decode bytes pc = .ok (.aconst_null, 1)) (hn : pc + 1 = n) (k : W l R Z own nm bytes maxL ret n0 P h cells slots n Ls (.null :: st)) : W l R Z own nm bytes maxL ret n0 P h cells slots pc Ls st := by
  subst hn
  exact k.step fun p e s m args below meth c T locs hx hZ hby hown X eT t q => XS.aconstNull X.here hx rfl (hb hby hd) q
theorem W.ldcI {i : Nat} {v : Int32} (n : Nat) (hd : decode bytes pc = .ok (.ldc i, 2)) (hn : pc + 2 = n) (w : (Jvm.Cond.constant own i v).before a0 Z = true) (k : W l R Z own nm bytes maxL ret n0 P h cells slots n Ls (.int v :: st)) : W l R Z own nm bytes maxL ret n0 P h cells slots pc Ls st := by
  subst hn
  exact k.step fun p e s m args below meth c T locs hx hZ hby hown X eT t q => X.ldcI hx hown (mvT hZ w) rfl (hb hby hd) q
theorem W.ldcWI {i : Nat} {v : Int32} (n : Nat) (hd : decode bytes pc = .ok (.ldc_w i, 3)) (hn : pc + 3 = n) (w : (Jvm.Cond.constant own i v).before a0 Z = true) (k : W l R Z own nm bytes maxL ret n0 P h cells slots n Ls (.int v :: st)) : W l R Z own nm bytes maxL ret n0 P h cells slots pc Ls st := by
  subst hn
  exact k.step fun p e s m args below meth c T locs hx hZ hby hown X eT t q => X.ldcWI hx hown (mvT hZ w) rfl (hb hby hd) q
theorem W.ldc2J {i : Nat} {v : Int64} (n : Nat) (hd : decode bytes pc = .ok (.ldc2_w i, 3)) (hn : pc + 3 = n) (w : (Jvm.Cond.constantLong own i v).before a0 Z = true) (k : W l R Z own nm bytes maxL ret n0 P h cells slots n Ls (.long v :: st)) : W l R Z own nm bytes maxL ret n0 P h cells slots pc Ls st := by
  subst hn
  exact k.step fun p e s m args below meth c T locs hx hZ hby hown X eT t q => X.ldc2J hx hown (mvT hZ w) rfl (hb hby hd) q
theorem W.ldcR {i : Nat} {text : String} {a : Addr} (n : Nat) (hd : decode bytes pc = .ok (.ldc i, 2)) (hn : pc + 2 = n) (w : (Jvm.Cond.stringRef own i text).before a0 Z = true) (L : RoadKit.Lit Z own i a) (k : W l R Z own nm bytes maxL ret n0 P h cells slots n Ls (.ref a :: st)) : W l R Z own nm bytes maxL ret n0 P h cells slots pc Ls st := by
  subst hn
  exact k.step fun p e s m args below meth c T locs hx hZ hby hown X eT t q => RoadKit.ldcR X hx hZ hown w L (g := mkF m pc Ls st) rfl (hb hby hd) t q
theorem W.iload {i : Nat} {v : Int32} (n : Nat) (hd : decode bytes pc = .ok (.iload i, 2)) (hn : pc + 2 = n) (hl : Ls[i]? = some (.val (.int v))) (k : W l R Z own nm bytes maxL ret n0 P h cells slots n Ls (.int v :: st)) : W l R Z own nm bytes maxL ret n0 P h cells slots pc Ls st := by
  subst hn
  exact k.step fun p e s m args below meth c T locs hx hZ hby hown X eT t q => XS.iload X.here hx rfl (hb hby hd) hl q
theorem W.iloadN {i : F4} {v : Int32} (n : Nat) (hd : decode bytes pc = .ok (.iload_n i, 1)) (hn : pc + 1 = n) (hl : Ls[i.val]? = some (.val (.int v))) (k : W l R Z own nm bytes maxL ret n0 P h cells slots n Ls (.int v :: st)) : W l R Z own nm bytes maxL ret n0 P h cells slots pc Ls st := by
  subst hn
  exact k.step fun p e s m args below meth c T locs hx hZ hby hown X eT t q => XS.iloadN X.here hx rfl (hb hby hd) hl q
theorem W.lload {i : Nat} {v : Int64} (n : Nat) (hd : decode bytes pc = .ok (.lload i, 2)) (hn : pc + 2 = n) (hl : Ls[i]? = some (.val (.long v))) (k : W l R Z own nm bytes maxL ret n0 P h cells slots n Ls (.long v :: st)) : W l R Z own nm bytes maxL ret n0 P h cells slots pc Ls st := by
  subst hn
  exact k.step fun p e s m args below meth c T locs hx hZ hby hown X eT t q => XS.lload X.here hx rfl (hb hby hd) hl q
theorem W.lloadN {i : F4} {v : Int64} (n : Nat) (hd : decode bytes pc = .ok (.lload_n i, 1)) (hn : pc + 1 = n) (hl : Ls[i.val]? = some (.val (.long v))) (k : W l R Z own nm bytes maxL ret n0 P h cells slots n Ls (.long v :: st)) : W l R Z own nm bytes maxL ret n0 P h cells slots pc Ls st := by
  subst hn
  exact k.step fun p e s m args below meth c T locs hx hZ hby hown X eT t q => XS.lloadN X.here hx rfl (hb hby hd) hl q
theorem W.aload {i : Nat} {v : Value} (n : Nat) (hd : decode bytes pc = .ok (.aload i, 2)) (hn : pc + 2 = n) (hl : Ls[i]? = some (.val v)) (hv : v.isRef = true) (k : W l R Z own nm bytes maxL ret n0 P h cells slots n Ls (v :: st)) : W l R Z own nm bytes maxL ret n0 P h cells slots pc Ls st := by
  subst hn
  exact k.step fun p e s m args below meth c T locs hx hZ hby hown X eT t q => XS.aload X.here hx rfl (hb hby hd) hl hv q
theorem W.aloadN {i : F4} {v : Value} (n : Nat) (hd : decode bytes pc = .ok (.aload_n i, 1)) (hn : pc + 1 = n) (hl : Ls[i.val]? = some (.val v)) (hv : v.isRef = true) (k : W l R Z own nm bytes maxL ret n0 P h cells slots n Ls (v :: st)) : W l R Z own nm bytes maxL ret n0 P h cells slots pc Ls st := by
  subst hn
  exact k.step fun p e s m args below meth c T locs hx hZ hby hown X eT t q => XS.aloadN X.here hx rfl (hb hby hd) hl hv q
theorem W.istore {i : Nat} {v : Int32} (n : Nat) (hd : decode bytes pc = .ok (.istore i, 2)) (hn : pc + 2 = n) (Ls' : Array Slot) (hl : storeLocals Ls i (.int v) = some Ls') (k : W l R Z own nm bytes maxL ret n0 P h cells slots n Ls' st) : W l R Z own nm bytes maxL ret n0 P h cells slots pc Ls (.int v :: st) := by
  subst hn
  exact k.step fun p e s m args below meth c T locs hx hZ hby hown X eT t q => XS.istore X.here hx rfl (hb hby hd) rfl hl q
theorem W.istoreN {i : F4} {v : Int32} (n : Nat) (hd : decode bytes pc = .ok (.istore_n i, 1)) (hn : pc + 1 = n) (Ls' : Array Slot) (hl : storeLocals Ls i.val (.int v) = some Ls') (k : W l R Z own nm bytes maxL ret n0 P h cells slots n Ls' st) : W l R Z own nm bytes maxL ret n0 P h cells slots pc Ls (.int v :: st) := by
  subst hn
  exact k.step fun p e s m args below meth c T locs hx hZ hby hown X eT t q => XS.istoreN X.here hx rfl (hb hby hd) rfl hl q
theorem W.lstore {i : Nat} {v : Int64} (n : Nat) (hd : decode bytes pc = .ok (.lstore i, 2)) (hn : pc + 2 = n) (Ls' : Array Slot) (hl : storeLocals Ls i (.long v) = some Ls') (k : W l R Z own nm bytes maxL ret n0 P h cells slots n Ls' st) : W l R Z own nm bytes maxL ret n0 P h cells slots pc Ls (.long v :: st) := by
  subst hn
  exact k.step fun p e s m args below meth c T locs hx hZ hby hown X eT t q => XS.lstore X.here hx rfl (hb hby hd) rfl hl q
theorem W.lstoreN {i : F4} {v : Int64} (n : Nat) (hd : decode bytes pc = .ok (.lstore_n i, 1)) (hn : pc + 1 = n) (Ls' : Array Slot) (hl : storeLocals Ls i.val (.long v) = some Ls') (k : W l R Z own nm bytes maxL ret n0 P h cells slots n Ls' st) : W l R Z own nm bytes maxL ret n0 P h cells slots pc Ls (.long v :: st) := by
  subst hn
  exact k.step fun p e s m args below meth c T locs hx hZ hby hown X eT t q => XS.lstoreN X.here hx rfl (hb hby hd) rfl hl q
theorem W.astore {i : Nat} {v : Value} (n : Nat) (hd : decode bytes pc = .ok (.astore i, 2)) (hn : pc + 2 = n) (hv : v.isRef = true) (Ls' : Array Slot) (hl : storeLocals Ls i v = some Ls') (k : W l R Z own nm bytes maxL ret n0 P h cells slots n Ls' st) : W l R Z own nm bytes maxL ret n0 P h cells slots pc Ls (v :: st) := by
  subst hn
  exact k.step fun p e s m args below meth c T locs hx hZ hby hown X eT t q => XS.astore X.here hx rfl (hb hby hd) rfl hv hl q
theorem W.astoreN {i : F4} {v : Value} (n : Nat) (hd : decode bytes pc = .ok (.astore_n i, 1)) (hn : pc + 1 = n) (hv : v.isRef = true) (Ls' : Array Slot) (hl : storeLocals Ls i.val v = some Ls') (k : W l R Z own nm bytes maxL ret n0 P h cells slots n Ls' st) : W l R Z own nm bytes maxL ret n0 P h cells slots pc Ls (v :: st) := by
  subst hn
  exact k.step fun p e s m args below meth c T locs hx hZ hby hown X eT t q => XS.astoreN X.here hx rfl (hb hby hd) rfl hv hl q
theorem W.iinc {i : Nat} {cst : Int} {x : Int32} (n : Nat) (hd : decode bytes pc = .ok (.iinc i cst, 3)) (hn : pc + 3 = n) (hx0 : Ls[i]? = some (.val (.int x))) (v : Int32) (hv : x + Int32.ofInt cst = v) (Ls' : Array Slot) (hl : storeLocals Ls i (.int v) = some Ls') (k : W l R Z own nm bytes maxL ret n0 P h cells slots n Ls' st) : W l R Z own nm bytes maxL ret n0 P h cells slots pc Ls st := by
  subst hn
  exact k.step fun p e s m args below meth c T locs hx hZ hby hown X eT t q => XS.iinc X.here hx rfl (hb hby hd) hx0 (hv ▸ hl) q
theorem W.dup {v : Value} (n : Nat) (hd : decode bytes pc = .ok (.dup, 1)) (hn : pc + 1 = n) (hc : v.category = 1) (k : W l R Z own nm bytes maxL ret n0 P h cells slots n Ls (v :: v :: st)) : W l R Z own nm bytes maxL ret n0 P h cells slots pc Ls (v :: st) := by
  subst hn
  exact k.step fun p e s m args below meth c T locs hx hZ hby hown X eT t q => XS.dup X.here hx rfl (hb hby hd) rfl hc q
theorem W.pop {v : Value} (n : Nat) (hd : decode bytes pc = .ok (.pop, 1)) (hn : pc + 1 = n) (hc : v.category = 1) (k : W l R Z own nm bytes maxL ret n0 P h cells slots n Ls st) : W l R Z own nm bytes maxL ret n0 P h cells slots pc Ls (v :: st) := by
  subst hn
  exact k.step fun p e s m args below meth c T locs hx hZ hby hown X eT t q => XS.pop X.here hx rfl (hb hby hd) rfl hc q
theorem W.dup_x1 {v w : Value} (n : Nat) (hd : decode bytes pc = .ok (.dup_x1, 1)) (hn : pc + 1 = n) (hc : v.category = 1) (hc' : w.category = 1) (k : W l R Z own nm bytes maxL ret n0 P h cells slots n Ls (v :: w :: v :: st)) : W l R Z own nm bytes maxL ret n0 P h cells slots pc Ls (v :: w :: st) := by
  subst hn
  exact k.step fun p e s m args below meth c T locs hx hZ hby hown X eT t q => XS.dupX1 X.here hx rfl (hb hby hd) rfl hc hc' q
theorem W.dup2 {v w : Value} (n : Nat) (hd : decode bytes pc = .ok (.dup2, 1)) (hn : pc + 1 = n) (hc : v.category = 1) (hc' : w.category = 1) (k : W l R Z own nm bytes maxL ret n0 P h cells slots n Ls (v :: w :: v :: w :: st)) : W l R Z own nm bytes maxL ret n0 P h cells slots pc Ls (v :: w :: st) := by
  subst hn
  exact k.step fun p e s m args below meth c T locs hx hZ hby hown X eT t q => XT.dup2 X.here hx rfl (hb hby hd) rfl hc hc' q
theorem W.goto {o : Int} (n : Nat) (hd : decode bytes pc = .ok (.goto o, 3)) (hn : (pc : Int) + o = (n : Int)) (k : W l R Z own nm bytes maxL ret n0 P h cells slots n Ls st) : W l R Z own nm bytes maxL ret n0 P h cells slots pc Ls st :=
  k.step fun p e s m args below meth c T locs hx hZ hby hown X eT t q => XS.goto X.here hx rfl (pc0 := pc) (pc' := n) rfl (hb hby hd) (by omega) (by omega) q
theorem W.icmp_lt {x y : Int32} {o : Int} (n n' : Nat) (hd : decode bytes pc = .ok (.if_icmp .lt o, 3)) (hn : (pc : Int) + o = (n : Int)) (hn' : pc + 3 = n') (k : x < y → W l R Z own nm bytes maxL ret n0 P h cells slots n Ls st) (k' : ¬ x < y → W l R Z own nm bytes maxL ret n0 P h cells slots n' Ls st) : W l R Z own nm bytes maxL ret n0 P h cells slots pc Ls (.int y :: .int x :: st) := by
  subst hn'
  by_cases hc : x < y
  · exact (k hc).step fun p e s m args below meth c T locs hx hZ hby hown X eT t q => XS.icmpYes X.here hx rfl (pc0 := pc) (pc' := n) rfl (hb hby hd) rfl (tlt hc).1 (by omega) (by omega) q
  · exact (k' hc).step fun p e s m args below meth c T locs hx hZ hby hown X eT t q => XS.icmpNo X.here hx rfl (hb hby hd) rfl (flt hc).1 q
theorem W.if_lt {x : Int32} {o : Int} (n n' : Nat) (hd : decode bytes pc = .ok (.ifCond .lt o, 3)) (hn : (pc : Int) + o = (n : Int)) (hn' : pc + 3 = n') (k : x < (0 : Int32) → W l R Z own nm bytes maxL ret n0 P h cells slots n Ls st) (k' : ¬ x < (0 : Int32) → W l R Z own nm bytes maxL ret n0 P h cells slots n' Ls st) : W l R Z own nm bytes maxL ret n0 P h cells slots pc Ls (.int x :: st) := by
  subst hn'
  by_cases hc : x < (0 : Int32)
  · exact (k hc).step fun p e s m args below meth c T locs hx hZ hby hown X eT t q => XS.ifYes X.here hx rfl (pc0 := pc) (pc' := n) rfl (hb hby hd) rfl ((if0 _ _).trans (tlt hc).1) (by omega) (by omega) q
  · exact (k' hc).step fun p e s m args below meth c T locs hx hZ hby hown X eT t q => XS.ifNo X.here hx rfl (hb hby hd) rfl ((if0 _ _).trans (flt hc).1) q
theorem W.icmp_ge {x y : Int32} {o : Int} (n n' : Nat) (hd : decode bytes pc = .ok (.if_icmp .ge o, 3)) (hn : (pc : Int) + o = (n : Int)) (hn' : pc + 3 = n') (k : ¬ x < y → W l R Z own nm bytes maxL ret n0 P h cells slots n Ls st) (k' : x < y → W l R Z own nm bytes maxL ret n0 P h cells slots n' Ls st) : W l R Z own nm bytes maxL ret n0 P h cells slots pc Ls (.int y :: .int x :: st) := by
  subst hn'
  by_cases hc : x < y
  · exact (k' hc).step fun p e s m args below meth c T locs hx hZ hby hown X eT t q => XS.icmpNo X.here hx rfl (hb hby hd) rfl (tlt hc).2.1 q
  · exact (k hc).step fun p e s m args below meth c T locs hx hZ hby hown X eT t q => XS.icmpYes X.here hx rfl (pc0 := pc) (pc' := n) rfl (hb hby hd) rfl (flt hc).2.1 (by omega) (by omega) q
theorem W.if_ge {x : Int32} {o : Int} (n n' : Nat) (hd : decode bytes pc = .ok (.ifCond .ge o, 3)) (hn : (pc : Int) + o = (n : Int)) (hn' : pc + 3 = n') (k : ¬ x < (0 : Int32) → W l R Z own nm bytes maxL ret n0 P h cells slots n Ls st) (k' : x < (0 : Int32) → W l R Z own nm bytes maxL ret n0 P h cells slots n' Ls st) : W l R Z own nm bytes maxL ret n0 P h cells slots pc Ls (.int x :: st) := by
  subst hn'
  by_cases hc : x < (0 : Int32)
  · exact (k' hc).step fun p e s m args below meth c T locs hx hZ hby hown X eT t q => XS.ifNo X.here hx rfl (hb hby hd) rfl ((if0 _ _).trans (tlt hc).2.1) q
  · exact (k hc).step fun p e s m args below meth c T locs hx hZ hby hown X eT t q => XS.ifYes X.here hx rfl (pc0 := pc) (pc' := n) rfl (hb hby hd) rfl ((if0 _ _).trans (flt hc).2.1) (by omega) (by omega) q
theorem W.icmp_gt {x y : Int32} {o : Int} (n n' : Nat) (hd : decode bytes pc = .ok (.if_icmp .gt o, 3)) (hn : (pc : Int) + o = (n : Int)) (hn' : pc + 3 = n') (k : y < x → W l R Z own nm bytes maxL ret n0 P h cells slots n Ls st) (k' : ¬ y < x → W l R Z own nm bytes maxL ret n0 P h cells slots n' Ls st) : W l R Z own nm bytes maxL ret n0 P h cells slots pc Ls (.int y :: .int x :: st) := by
  subst hn'
  by_cases hc : y < x
  · exact (k hc).step fun p e s m args below meth c T locs hx hZ hby hown X eT t q => XS.icmpYes X.here hx rfl (pc0 := pc) (pc' := n) rfl (hb hby hd) rfl (tlt hc).2.2.1 (by omega) (by omega) q
  · exact (k' hc).step fun p e s m args below meth c T locs hx hZ hby hown X eT t q => XS.icmpNo X.here hx rfl (hb hby hd) rfl (flt hc).2.2.1 q
theorem W.if_gt {x : Int32} {o : Int} (n n' : Nat) (hd : decode bytes pc = .ok (.ifCond .gt o, 3)) (hn : (pc : Int) + o = (n : Int)) (hn' : pc + 3 = n') (k : (0 : Int32) < x → W l R Z own nm bytes maxL ret n0 P h cells slots n Ls st) (k' : ¬ (0 : Int32) < x → W l R Z own nm bytes maxL ret n0 P h cells slots n' Ls st) : W l R Z own nm bytes maxL ret n0 P h cells slots pc Ls (.int x :: st) := by
  subst hn'
  by_cases hc : (0 : Int32) < x
  · exact (k hc).step fun p e s m args below meth c T locs hx hZ hby hown X eT t q => XS.ifYes X.here hx rfl (pc0 := pc) (pc' := n) rfl (hb hby hd) rfl ((if0 _ _).trans (tlt hc).2.2.1) (by omega) (by omega) q
  · exact (k' hc).step fun p e s m args below meth c T locs hx hZ hby hown X eT t q => XS.ifNo X.here hx rfl (hb hby hd) rfl ((if0 _ _).trans (flt hc).2.2.1) q
theorem W.icmp_le {x y : Int32} {o : Int} (n n' : Nat) (hd : decode bytes pc = .ok (.if_icmp .le o, 3)) (hn : (pc : Int) + o = (n : Int)) (hn' : pc + 3 = n') (k : ¬ y < x → W l R Z own nm bytes maxL ret n0 P h cells slots n Ls st) (k' : y < x → W l R Z own nm bytes maxL ret n0 P h cells slots n' Ls st) : W l R Z own nm bytes maxL ret n0 P h cells slots pc Ls (.int y :: .int x :: st) := by
  subst hn'
  by_cases hc : y < x
  · exact (k' hc).step fun p e s m args below meth c T locs hx hZ hby hown X eT t q => XS.icmpNo X.here hx rfl (hb hby hd) rfl (tlt hc).2.2.2 q
  · exact (k hc).step fun p e s m args below meth c T locs hx hZ hby hown X eT t q => XS.icmpYes X.here hx rfl (pc0 := pc) (pc' := n) rfl (hb hby hd) rfl (flt hc).2.2.2 (by omega) (by omega) q
theorem W.if_le {x : Int32} {o : Int} (n n' : Nat) (hd : decode bytes pc = .ok (.ifCond .le o, 3)) (hn : (pc : Int) + o = (n : Int)) (hn' : pc + 3 = n') (k : ¬ (0 : Int32) < x → W l R Z own nm bytes maxL ret n0 P h cells slots n Ls st) (k' : (0 : Int32) < x → W l R Z own nm bytes maxL ret n0 P h cells slots n' Ls st) : W l R Z own nm bytes maxL ret n0 P h cells slots pc Ls (.int x :: st) := by
  subst hn'
  by_cases hc : (0 : Int32) < x
  · exact (k' hc).step fun p e s m args below meth c T locs hx hZ hby hown X eT t q => XS.ifNo X.here hx rfl (hb hby hd) rfl ((if0 _ _).trans (tlt hc).2.2.2) q
  · exact (k hc).step fun p e s m args below meth c T locs hx hZ hby hown X eT t q => XS.ifYes X.here hx rfl (pc0 := pc) (pc' := n) rfl (hb hby hd) rfl ((if0 _ _).trans (flt hc).2.2.2) (by omega) (by omega) q
theorem W.icmp_eq {x y : Int32} {o : Int} (n n' : Nat) (hd : decode bytes pc = .ok (.if_icmp .eq o, 3)) (hn : (pc : Int) + o = (n : Int)) (hn' : pc + 3 = n') (k : x = y → W l R Z own nm bytes maxL ret n0 P h cells slots n Ls st) (k' : ¬ x = y → W l R Z own nm bytes maxL ret n0 P h cells slots n' Ls st) : W l R Z own nm bytes maxL ret n0 P h cells slots pc Ls (.int y :: .int x :: st) := by
  subst hn'
  by_cases hc : x = y
  · exact (k hc).step fun p e s m args below meth c T locs hx hZ hby hown X eT t q => XS.icmpYes X.here hx rfl (pc0 := pc) (pc' := n) rfl (hb hby hd) rfl (teq hc).1 (by omega) (by omega) q
  · exact (k' hc).step fun p e s m args below meth c T locs hx hZ hby hown X eT t q => XS.icmpNo X.here hx rfl (hb hby hd) rfl (feq hc).1 q
theorem W.if_eq {x : Int32} {o : Int} (n n' : Nat) (hd : decode bytes pc = .ok (.ifCond .eq o, 3)) (hn : (pc : Int) + o = (n : Int)) (hn' : pc + 3 = n') (k : x = (0 : Int32) → W l R Z own nm bytes maxL ret n0 P h cells slots n Ls st) (k' : ¬ x = (0 : Int32) → W l R Z own nm bytes maxL ret n0 P h cells slots n' Ls st) : W l R Z own nm bytes maxL ret n0 P h cells slots pc Ls (.int x :: st) := by
  subst hn'
  by_cases hc : x = (0 : Int32)
  · exact (k hc).step fun p e s m args below meth c T locs hx hZ hby hown X eT t q => XS.ifYes X.here hx rfl (pc0 := pc) (pc' := n) rfl (hb hby hd) rfl ((if0 _ _).trans (teq hc).1) (by omega) (by omega) q
  · exact (k' hc).step fun p e s m args below meth c T locs hx hZ hby hown X eT t q => XS.ifNo X.here hx rfl (hb hby hd) rfl ((if0 _ _).trans (feq hc).1) q
theorem W.icmp_ne {x y : Int32} {o : Int} (n n' : Nat) (hd : decode bytes pc = .ok (.if_icmp .ne o, 3)) (hn : (pc : Int) + o = (n : Int)) (hn' : pc + 3 = n') (k : ¬ x = y → W l R Z own nm bytes maxL ret n0 P h cells slots n Ls st) (k' : x = y → W l R Z own nm bytes maxL ret n0 P h cells slots n' Ls st) : W l R Z own nm bytes maxL ret n0 P h cells slots pc Ls (.int y :: .int x :: st) := by
  subst hn'
  by_cases hc : x = y
  · exact (k' hc).step fun p e s m args below meth c T locs hx hZ hby hown X eT t q => XS.icmpNo X.here hx rfl (hb hby hd) rfl (teq hc).2 q
  · exact (k hc).step fun p e s m args below meth c T locs hx hZ hby hown X eT t q => XS.icmpYes X.here hx rfl (pc0 := pc) (pc' := n) rfl (hb hby hd) rfl (feq hc).2 (by omega) (by omega) q
theorem W.if_ne {x : Int32} {o : Int} (n n' : Nat) (hd : decode bytes pc = .ok (.ifCond .ne o, 3)) (hn : (pc : Int) + o = (n : Int)) (hn' : pc + 3 = n') (k : ¬ x = (0 : Int32) → W l R Z own nm bytes maxL ret n0 P h cells slots n Ls st) (k' : x = (0 : Int32) → W l R Z own nm bytes maxL ret n0 P h cells slots n' Ls st) : W l R Z own nm bytes maxL ret n0 P h cells slots pc Ls (.int x :: st) := by
  subst hn'
  by_cases hc : x = (0 : Int32)
  · exact (k' hc).step fun p e s m args below meth c T locs hx hZ hby hown X eT t q => XS.ifNo X.here hx rfl (hb hby hd) rfl ((if0 _ _).trans (teq hc).2) q
  · exact (k hc).step fun p e s m args below meth c T locs hx hZ hby hown X eT t q => XS.ifYes X.here hx rfl (pc0 := pc) (pc' := n) rfl (hb hby hd) rfl ((if0 _ _).trans (feq hc).2) (by omega) (by omega) q
theorem W.ifnull_null {o : Int} (n : Nat) (hd : decode bytes pc = .ok (.ifnull o, 3)) (hn : (pc : Int) + o = (n : Int)) (k : W l R Z own nm bytes maxL ret n0 P h cells slots n Ls st) : W l R Z own nm bytes maxL ret n0 P h cells slots pc Ls (.null :: st) := by
  exact k.step fun p e s m args below meth c T locs hx hZ hby hown X eT t q => XS.ifnullYes X.here hx rfl (pc0 := pc) (pc' := n) rfl (hb hby hd) rfl (by omega) (by omega) q
theorem W.ifnull_ref {o : Int} {a : Addr} (n : Nat) (hd : decode bytes pc = .ok (.ifnull o, 3)) (hn : pc + 3 = n) (k : W l R Z own nm bytes maxL ret n0 P h cells slots n Ls st) : W l R Z own nm bytes maxL ret n0 P h cells slots pc Ls (.ref a :: st) := by
  subst hn
  exact k.step fun p e s m args below meth c T locs hx hZ hby hown X eT t q => XS.ifnullNo X.here hx rfl (hb hby hd) rfl q
theorem W.ifnonnull_null {o : Int} (n : Nat) (hd : decode bytes pc = .ok (.ifnonnull o, 3)) (hn : pc + 3 = n) (k : W l R Z own nm bytes maxL ret n0 P h cells slots n Ls st) : W l R Z own nm bytes maxL ret n0 P h cells slots pc Ls (.null :: st) := by
  subst hn
  exact k.step fun p e s m args below meth c T locs hx hZ hby hown X eT t q => XS.ifnonnullNo X.here hx rfl (hb hby hd) rfl q
theorem W.ifnonnull_ref {o : Int} {a : Addr} (n : Nat) (hd : decode bytes pc = .ok (.ifnonnull o, 3)) (hn : (pc : Int) + o = (n : Int)) (k : W l R Z own nm bytes maxL ret n0 P h cells slots n Ls st) : W l R Z own nm bytes maxL ret n0 P h cells slots pc Ls (.ref a :: st) := by
  exact k.step fun p e s m args below meth c T locs hx hZ hby hown X eT t q => XS.ifnonnullYes X.here hx rfl (pc0 := pc) (pc' := n) rfl (hb hby hd) rfl (by omega) (by omega) q
theorem W.acmp_eq {x y : Value} {o : Int} (n n' : Nat) (hd : decode bytes pc = .ok (.if_acmp .eq o, 3)) (hn : (pc : Int) + o = (n : Int)) (hn' : pc + 3 = n') (h1 : x.isRef = true) (h2 : y.isRef = true) (k : x = y → W l R Z own nm bytes maxL ret n0 P h cells slots n Ls st) (k' : ¬ x = y → W l R Z own nm bytes maxL ret n0 P h cells slots n' Ls st) : W l R Z own nm bytes maxL ret n0 P h cells slots pc Ls (y :: x :: st) := by
  subst hn'
  by_cases hc : x = y
  · exact (k hc).step fun p e s m args below meth c T locs hx hZ hby hown X eT t q => RoadKit.acmp X hx rfl h1 h2 (pc0 := pc) (pc' := n) (same := true) rfl (hb hby hd) rfl (decide_eq_true hc) (by omega) (by simp [acV]; try omega) q
  · exact (k' hc).step fun p e s m args below meth c T locs hx hZ hby hown X eT t q => RoadKit.acmp X hx rfl h1 h2 (pc0 := pc) (pc' := pc + 3) (same := false) rfl (hb hby hd) rfl (decide_eq_false hc) (by omega) (by simp [acV]; try omega) q
theorem W.acmp_ne {x y : Value} {o : Int} (n n' : Nat) (hd : decode bytes pc = .ok (.if_acmp .ne o, 3)) (hn : (pc : Int) + o = (n : Int)) (hn' : pc + 3 = n') (h1 : x.isRef = true) (h2 : y.isRef = true) (k : ¬ x = y → W l R Z own nm bytes maxL ret n0 P h cells slots n Ls st) (k' : x = y → W l R Z own nm bytes maxL ret n0 P h cells slots n' Ls st) : W l R Z own nm bytes maxL ret n0 P h cells slots pc Ls (y :: x :: st) := by
  subst hn'
  by_cases hc : x = y
  · exact (k' hc).step fun p e s m args below meth c T locs hx hZ hby hown X eT t q => RoadKit.acmp X hx rfl h1 h2 (pc0 := pc) (pc' := pc + 3) (same := true) rfl (hb hby hd) rfl (decide_eq_true hc) (by omega) (by simp [acV]; try omega) q
  · exact (k hc).step fun p e s m args below meth c T locs hx hZ hby hown X eT t q => RoadKit.acmp X hx rfl h1 h2 (pc0 := pc) (pc' := n) (same := false) rfl (hb hby hd) rfl (decide_eq_false hc) (by omega) (by simp [acV]; try omega) q
theorem W.lookup {d : Int} {ps : Array (Int × Int)} {len : Nat} {x : Int32} (o : Int) (n : Nat) (hd : decode bytes pc = .ok (.lookupswitch d ps, len)) (hsort : (ps.toList.zip (ps.toList.drop 1)).all (fun (a, next) => a.1 < next.1) = true) (ho : Op.lookupswitch.offset ps.toList d x.toInt = o) (hn : (pc : Int) + o = (n : Int)) (k : W l R Z own nm bytes maxL ret n0 P h cells slots n Ls st) : W l R Z own nm bytes maxL ret n0 P h cells slots pc Ls (.int x :: st) := by
  refine k.step fun p e s m args below meth c T locs hx hZ hby hown X eT t q => ?_
  have hd' := hb hby hd
  have ho' : 0 ≤ (pc : Int) + o := by omega
  have hp : ((pc : Int) + o).toNat = n := by omega
  jvm_step X.here [X.here.top, hx, hd', Op.lookupswitch.wp_chain, hsort, ho, ho', hp]
  exact ⟨by simpa using hsort, q⟩
/-! the heap -/
theorem Fr.one {k : Nat} {L : List Loc} {a : Addr} {sl : Nat} (N : Fr k L) (q : k ≤ a) : Fr k (L ++ [⟨a, sl⟩]) := N.app fun y hy => by cases List.mem_singleton.mp hy; exact q
theorem Keep.of_ext {h h' : Heap} (E : Ext h h') : Keep h h' [] := (Keep.refl h []).ext E
theorem size_le {p : Program} {e : Env} {s : State} {m : MethodId} {args : Array Value} {below : List Frame} {meth : Method} {c : Code} {T : State} {locs : List Loc} (X : Stand p l e R s m args below meth c T locs cells slots) : s.heap.size ≤ T.heap.size := X.same.2.1
theorem W.getfield {i : Nat} {R0 O f d host : String} {a : Addr} {v : Value} (n : Nat) (hd : decode bytes pc = .ok (.getfield i, 3)) (hn : pc + 3 = n) (w : (Jvm.Cond.fieldLink own i R0 f d).before a0 Z = true ∨ (Jvm.Cond.fieldLinkNest own i R0 f d host).before a0 Z = true) (via : Via Z R0 O f d) (F : Fld Z h a O f d v) (k : W l R Z own nm bytes maxL ret n0 P h cells slots n Ls (v :: st)) : W l R Z own nm bytes maxL ret n0 P h cells slots pc Ls (.ref a :: st) := by
  subst hn
  intro p e s m args below meth c T locs hx hZ hby hml hown hret hlk hnm hn0 X eT N
  obtain ⟨T', X', e', st'⟩ := getF X hx hZ hown w via eT F (g := mkF m pc Ls (.ref a :: st)) rfl rfl (hb hby hd)
  exact (k p e s m args below meth c T' locs hx hZ hby hml hown hret hlk hnm hn0 X' e' N).step st'
theorem W.getstatic {i : Nat} {R0 O f d host : String} {v : Value} (n : Nat) (hd : decode bytes pc = .ok (.getstatic i, 3)) (hn : pc + 3 = n) (w : (Jvm.Cond.fieldLink own i R0 f d).before a0 Z = true ∨ (Jvm.Cond.fieldLinkNest own i R0 f d host).before a0 Z = true) (via : Via Z R0 O f d) (F : Sta Z h O f d v) (k : W l R Z own nm bytes maxL ret n0 P h cells slots n Ls (v :: st)) : W l R Z own nm bytes maxL ret n0 P h cells slots pc Ls st := by
  subst hn
  intro p e s m args below meth c T locs hx hZ hby hml hown hret hlk hnm hn0 X eT N
  obtain ⟨T', X', e', st'⟩ := getS2 X hx hZ hown w via eT F (g := mkF m pc Ls st) rfl (hb hby hd)
  exact (k p e s m args below meth c T' locs hx hZ hby hml hown hret hlk hnm hn0 X' e' N).step st'
theorem W.putfield {i kk : Nat} {R0 O f d host C : String} {ty : FieldType} {a : Addr} {v old : Value} (n : Nat) (hd : decode bytes pc = .ok (.putfield i, 3)) (hn : pc + 3 = n) (w : (Jvm.Cond.fieldLink own i R0 f d).before a0 Z = true ∨ (Jvm.Cond.fieldLinkNest own i R0 f d host).before a0 Z = true) (via : Via Z R0 O f d) (F : Fld Z h a O f d old) (E : Exa Z h a C)
    (L : (Jvm.Cond.lays C O f d).before a0 Z = true ∨ ((Jvm.Cond.laysFinal C O f d).before a0 Z = true ∧ own = O ∧ nm = "<init>")) (wi : (Jvm.Cond.instantiable C kk).before a0 Z = true) (hty : parseFieldDescriptor d = some ty) (hv : narrow ty v = v) (hf : fits ty v = true) (ge : n0 ≤ a)
    (k : ∀ h', Wr h h' a (RoadKit.slotOf Z O f d) v → Fld Z h' a O f d v → Exa Z h' a C → Keep h h' [a] → W l R Z own nm bytes maxL ret n0 P h' cells slots n Ls st) : W l R Z own nm bytes maxL ret n0 P h cells slots pc Ls (v :: .ref a :: st) := by
  subst hn
  intro p e s m args below meth c T locs hx hZ hby hml hown hret hlk hnm hn0 X eT N
  obtain ⟨T', h', X', e', W', st'⟩ := putF X hx hZ hown w via eT F E (L.imp id fun q => ⟨q.1, q.2.1, hnm.trans q.2.2⟩) wi hty hv hf (g := mkF m pc Ls (v :: .ref a :: st)) rfl rfl (hb hby hd)
  exact (k h' W' (F.same W') (E.wr W') (Keep.of_wr W') p e s m args below meth c T' _ hx hZ hby hml hown hret hlk hnm hn0 X' e' (Fr.one N ge)).step st'
theorem W.putfieldN {i kk : Nat} {R0 O f d C : String} {ty : FieldType} {a : Addr} {v old : Value} (n : Nat) (hd : decode bytes pc = .ok (.putfield i, 3)) (hn : pc + 3 = n) (w : (Jvm.Cond.fieldLink own i R0 f d).before a0 Z = true) (via : Via Z R0 O f d) (F : Fld Z h a O f d old) (E : Exa Z h a C)
    (L : (Jvm.Cond.lays C O f d).before a0 Z = true ∨ ((Jvm.Cond.laysFinal C O f d).before a0 Z = true ∧ own = O ∧ nm = "<init>")) (wi : (Jvm.Cond.instantiable C kk).before a0 Z = true) (hty : parseFieldDescriptor d = some ty) (v' : Value) (hv : narrow ty v = v') (hf : fits ty v' = true) (ge : n0 ≤ a)
    (k : ∀ h', Wr h h' a (RoadKit.slotOf Z O f d) v' → Fld Z h' a O f d v' → Exa Z h' a C → Keep h h' [a] → W l R Z own nm bytes maxL ret n0 P h' cells slots n Ls st) : W l R Z own nm bytes maxL ret n0 P h cells slots pc Ls (v :: .ref a :: st) := by
  subst hn
  intro p e s m args below meth c T locs hx hZ hby hml hown hret hlk hnm hn0 X eT N
  obtain ⟨T', h', X', e', W', st'⟩ := putFN X hx hZ hown w via eT F E (L.imp id fun q => ⟨q.1, q.2.1, hnm.trans q.2.2⟩) wi hty hv hf (g := mkF m pc Ls (v :: .ref a :: st)) rfl rfl (hb hby hd)
  exact (k h' W' (F.same W') (E.wr W') (Keep.of_wr W') p e s m args below meth c T' _ hx hZ hby hml hown hret hlk hnm hn0 X' e' (Fr.one N ge)).step st'
theorem W.new {i ns : Nat} {C : String} (n : Nat) (hd : decode bytes pc = .ok (.new i, 3)) (hn : pc + 3 = n) (w : (Jvm.Cond.classLink own i C).before a0 Z = true) (wi : (Jvm.Cond.instantiable C ns).before a0 Z = true) (wz : (Jvm.Cond.initialized C).before a0 Z = true) (hc : cells + 1 ≤ R.cells) (hs : slots + ns ≤ R.slots)
    (k : ∀ h' b, b = h.size → n0 ≤ b → Ext h h' → Keep h h' [] → Exa Z h' b C → (∀ {O f d : String} {ty : FieldType}, Laid Z a0 C O f d → parseFieldDescriptor d = some ty → Fld Z h' b O f d (defaultValue ty)) → W l R Z own nm bytes maxL ret n0 P h' (cells + 1) (slots + ns) n Ls (.ref b :: st)) : W l R Z own nm bytes maxL ret n0 P h cells slots pc Ls st := by
  subst hn
  intro p e s m args below meth c T locs hx hZ hby hml hown hret hlk hnm hn0 X eT N
  obtain ⟨T', h', X', e', E', A', D', -, st'⟩ := newO X hx hZ hown w wi wz eT (g := mkF m pc Ls st) rfl (hb hby hd) hc hs
  have hb0 : n0 ≤ h.size := Nat.le_trans hn0 (eT ▸ size_le X)
  exact (k h' h.size rfl hb0 E' (Keep.of_ext E') A' D' p e s m args below meth c T' _ hx hZ hby hml hown hret hlk hnm hn0 X' e' N).step st'
theorem Ary.lt {a : Addr} {ty : FieldType} {vs : List Value} (A : Ary Z h a ty vs) : a < h.size := by obtain ⟨c, A, -⟩ := A; exact A.lt
theorem Ary.keep {h' : Heap} {ws : List Addr} {a : Addr} {ty : FieldType} {vs : List Value} (A : Ary Z h a ty vs) (K : Keep h h' ws) (q : a ∉ ws) : Ary Z h' a ty vs := by obtain ⟨c, A, r⟩ := A; exact ⟨c, ⟨K.2.1 a c A.1 q, A.2⟩, r⟩
theorem Ary.new {k : ClassId} {a : Addr} {ty : FieldType} {z : Int32} (A : Arr Z h a (newA k ty z) ty) (hf : fits ty (defaultValue ty) = true) : Ary Z h a ty (List.replicate z.toNatClampNeg (defaultValue ty)) :=
  ⟨_, A, by simp [newA], fun v hv => by rw [(List.mem_replicate.mp hv).2]; exact hf, by rw [List.length_replicate]; have := Int32.toInt_lt z; simp only [Int32.toNatClampNeg]; omega⟩
theorem Ary.set {h' : Heap} {a : Addr} {ty : FieldType} {vs : List Value} {i : Nat} {v : Value} (A : Ary Z h a ty vs) (W' : Wr h h' a i v) (hf : fits ty v = true) : Ary Z h' a ty (vs.set i v) := by
  obtain ⟨c, A, rfl, F, S⟩ := A
  exact ⟨_, A.same W', by simp [Cell.setSlot], fun w hw => (List.mem_or_eq_of_mem_set hw).elim (fun q => F w q) (fun q => q ▸ hf), by simpa using S⟩
theorem Ary.arv {a : Addr} {ty : FieldType} {vs : List Value} (A : Ary Z h a ty vs) (d : Value) : ∃ k, Arv Z h a k ty vs.length.toInt32 vs d := by
  obtain ⟨c, A, rfl, F, S⟩ := A
  have hz : (c.slots.toList.length.toInt32).toInt = c.slots.toList.length := Int32.toInt_ofNat_small S
  have hn : (c.slots.toList.length.toInt32).toNatClampNeg = c.slots.size := by simp only [Int32.toNatClampNeg]; rw [hz]; simp
  refine ⟨c.cls, c, A, rfl, hn.symm, fun q => ?_, fun i hi => ?_, fun i hi => ?_⟩
  · have := Int32.lt_iff_toInt_lt.mp q; rw [hz] at this; have e0 : (0 : Int32).toInt = 0 := rfl; omega
  · rw [List.getD_eq_getElem?_getD]; simp [hi]
  · rw [List.getD_eq_getElem?_getD]; exact F _ (by simp [hi])
theorem Ary.of_arv {a : Addr} {k : ClassId} {ty : FieldType} {vs : List Value} {z : Int32} {d : Value} (A : Arv Z h a k ty z vs d) (hz : z.toNatClampNeg = vs.length) : Ary Z h a ty vs := by
  obtain ⟨c, A, q1, q2, q3, H, G⟩ := A
  have hl : c.slots.toList = vs := by
    apply List.ext_getElem?
    intro i
    by_cases hi : i < c.slots.size
    · have := H i hi
      rw [List.getD_eq_getElem?_getD, List.getElem?_eq_getElem (by omega)] at this
      rw [List.getElem?_eq_getElem (l := vs) (by omega)]
      simpa using this
    · rw [List.getElem?_eq_none (by simpa using hi), List.getElem?_eq_none (by omega)]
  refine ⟨c, A, hl, fun v hv => ?_, ?_⟩
  · obtain ⟨i, hi, rfl⟩ := List.getElem_of_mem hv
    have := G i (by omega)
    rwa [List.getD_eq_getElem?_getD, List.getElem?_eq_getElem hi] at this
  · have := Int32.toInt_lt z; simp only [Int32.toNatClampNeg] at hz; omega
theorem W.newarray {aty : ArrayType} {ty : FieldType} {x : Int32} (n : Nat) (hd : decode bytes pc = .ok (.newarray aty, 2)) (hn : pc + 2 = n) (w : (Jvm.Cond.arrayClass ty).before a0 Z = true) (hty : newarray.typeOf aty = ty) (hx0 : ¬ x < 0) (len cap : Nat) (hlen : x.toNatClampNeg = len) (hcap : len ≤ cap) (hb8 : cap * 8 ≤ 536870912) (hc : cells + 1 ≤ R.cells) (hs : slots + cap ≤ R.slots) (hfd : fits ty (defaultValue ty) = true)
    (k : ∀ h' b, b = h.size → n0 ≤ b → Ext h h' → Keep h h' [] → Ary Z h' b ty (List.replicate len (defaultValue ty)) → W l R Z own nm bytes maxL ret n0 P h' (cells + 1) (slots + cap) n Ls (.ref b :: st)) : W l R Z own nm bytes maxL ret n0 P h cells slots pc Ls (.int x :: st) := by
  subst hn hty hlen
  intro p e s m args below meth c T locs hx hZ hby hml hown hret hlk hnm hn0 X eT N
  obtain ⟨T', h', cA, X', e', E', A', st'⟩ := newP X hx hZ w eT (g := mkF m pc Ls (.int x :: st)) rfl (hb hby hd) rfl hx0 hcap hb8 hc hs
  have hb0 : n0 ≤ h.size := Nat.le_trans hn0 (eT ▸ size_le X)
  exact (k h' h.size rfl hb0 E' (Keep.of_ext E') (Ary.new A' hfd) p e s m args below meth c T' _ hx hZ hby hml hown hret hlk hnm hn0 X' e' N).step st'
theorem W.newarrayE {aty : ArrayType} {ty : FieldType} {x : Int32} {ad : String} (n : Nat) (hd : decode bytes pc = .ok (.newarray aty, 2)) (hn : pc + 2 = n) (w : (Jvm.Cond.arrayClass ty).before a0 Z = true) (hty : newarray.typeOf aty = ty) (had : "[" ++ ty.toString = ad) (hx0 : ¬ x < 0) (len cap : Nat) (hlen : x.toNatClampNeg = len) (hcap : len ≤ cap) (hb8 : cap * 8 ≤ 536870912) (hc : cells + 1 ≤ R.cells) (hs : slots + cap ≤ R.slots) (hfd : fits ty (defaultValue ty) = true)
    (k : ∀ h' b, b = h.size → n0 ≤ b → Ext h h' → Keep h h' [] → Ary Z h' b ty (List.replicate len (defaultValue ty)) → Exa Z h' b ad → W l R Z own nm bytes maxL ret n0 P h' (cells + 1) (slots + cap) n Ls (.ref b :: st)) : W l R Z own nm bytes maxL ret n0 P h cells slots pc Ls (.int x :: st) := by
  subst hn hty hlen
  intro p e s m args below meth c T locs hx hZ hby hml hown hret hlk hnm hn0 X eT N
  obtain ⟨T', h', cA, X', e', E', A', B', st'⟩ := newPE X hx hZ w eT (g := mkF m pc Ls (.int x :: st)) rfl (hb hby hd) rfl hx0 hcap hb8 hc hs had
  have hb0 : n0 ≤ h.size := Nat.le_trans hn0 (eT ▸ size_le X)
  exact (k h' h.size rfl hb0 E' (Keep.of_ext E') (Ary.new A' hfd) B' p e s m args below meth c T' _ hx hZ hby hml hown hret hlk hnm hn0 X' e' N).step st'
theorem ary_in {c : Cell} {vs : List Value} {j : Int32} {i : Nat} (hc : c.slots.toList = vs) (hj : j.toNatClampNeg = i) (h0 : ¬ j < 0) (hi : i < vs.length) : ¬ (j < 0 ∨ c.slots.size ≤ j.toNatClampNeg) := by
  subst hc hj; rintro (q | q)
  · exact h0 q
  · exact absurd hi (by simpa using q)
theorem W.arraylength {a : Addr} {ty : FieldType} {vs : List Value} (n : Nat) (hd : decode bytes pc = .ok (.arraylength, 1)) (hn : pc + 1 = n) (A : Ary Z h a ty vs) (v : Int32) (hv : vs.length.toInt32 = v) (k : W l R Z own nm bytes maxL ret n0 P h cells slots n Ls (.int v :: st)) : W l R Z own nm bytes maxL ret n0 P h cells slots pc Ls (.ref a :: st) := by
  subst hn
  obtain ⟨c, A, rfl, F, S⟩ := A
  have e : c.slots.size.toInt32 = v := by rw [← hv]; simp
  exact k.step fun p e' s m args below meth c' T locs hx hZ hby hown X eT t q => X.arraylength hx (by rw [eT]; exact A.1) (State.isArrayOf_alike hZ.alike A.2.1) (g := mkF m pc Ls (.ref a :: st)) rfl rfl (hb hby hd) t (e ▸ q)

theorem W.iaload {a : Addr} {vs : List Value} {j : Int32} (n : Nat) (hd : decode bytes pc = .ok (.iaload, 1)) (hn : pc + 1 = n) (A : Ary Z h a .int vs) (i : Nat) (hj : j.toNatClampNeg = i) (h0 : ¬ j < 0) (v : Value) (hv : vs[i]? = some v) (k : W l R Z own nm bytes maxL ret n0 P h cells slots n Ls (v :: st)) : W l R Z own nm bytes maxL ret n0 P h cells slots pc Ls (.int j :: .ref a :: st) := by
  subst hn
  obtain ⟨c, A, hc, F, S⟩ := A
  have hi : i < vs.length := (List.getElem?_eq_some_iff.mp hv).1
  have hin := ary_in hc hj h0 hi
  have hat : c.slots[j.toNatClampNeg]? = some v := by rw [hj, ← hv, ← hc]; simp
  exact k.step fun p e' s m args below meth c' T locs hx hZ hby hown X eT t q => X.iaload hx (j := j) (v := v) (by rw [eT]; exact A.1) (State.isArrayOf_alike hZ.alike A.2.1) A.2.2 hin hat (g := mkF m pc Ls (.int j :: .ref a :: st)) rfl rfl (hb hby hd) t q
theorem W.laload {a : Addr} {vs : List Value} {j : Int32} (n : Nat) (hd : decode bytes pc = .ok (.laload, 1)) (hn : pc + 1 = n) (A : Ary Z h a .long vs) (i : Nat) (hj : j.toNatClampNeg = i) (h0 : ¬ j < 0) (v : Value) (hv : vs[i]? = some v) (k : W l R Z own nm bytes maxL ret n0 P h cells slots n Ls (v :: st)) : W l R Z own nm bytes maxL ret n0 P h cells slots pc Ls (.int j :: .ref a :: st) := by
  subst hn
  obtain ⟨c, A, hc, F, S⟩ := A
  have hi : i < vs.length := (List.getElem?_eq_some_iff.mp hv).1
  have hin := ary_in hc hj h0 hi
  have hat : c.slots[j.toNatClampNeg]? = some v := by rw [hj, ← hv, ← hc]; simp
  exact k.step fun p e' s m args below meth c' T locs hx hZ hby hown X eT t q => X.laload hx (j := j) (v := v) (by rw [eT]; exact A.1) (State.isArrayOf_alike hZ.alike A.2.1) A.2.2 hin hat (g := mkF m pc Ls (.int j :: .ref a :: st)) rfl rfl (hb hby hd) t q
theorem W.caload {a : Addr} {vs : List Value} {j : Int32} (n : Nat) (hd : decode bytes pc = .ok (.caload, 1)) (hn : pc + 1 = n) (A : Ary Z h a .char vs) (i : Nat) (hj : j.toNatClampNeg = i) (h0 : ¬ j < 0) (v : Value) (hv : vs[i]? = some v) (k : W l R Z own nm bytes maxL ret n0 P h cells slots n Ls (v :: st)) : W l R Z own nm bytes maxL ret n0 P h cells slots pc Ls (.int j :: .ref a :: st) := by
  subst hn
  obtain ⟨c, A, hc, F, S⟩ := A
  have hi : i < vs.length := (List.getElem?_eq_some_iff.mp hv).1
  have hin := ary_in hc hj h0 hi
  have hat : c.slots[j.toNatClampNeg]? = some v := by rw [hj, ← hv, ← hc]; simp
  exact k.step fun p e' s m args below meth c' T locs hx hZ hby hown X eT t q => X.caload hx (j := j) (v := v) (by rw [eT]; exact A.1) (State.isArrayOf_alike hZ.alike A.2.1) A.2.2 hin hat (g := mkF m pc Ls (.int j :: .ref a :: st)) rfl rfl (hb hby hd) t q
theorem W.baload {a : Addr} {vs : List Value} {j : Int32} (n : Nat) (hd : decode bytes pc = .ok (.baload, 1)) (hn : pc + 1 = n) (A : Ary Z h a .byte vs) (i : Nat) (hj : j.toNatClampNeg = i) (h0 : ¬ j < 0) (v : Value) (hv : vs[i]? = some v) (k : W l R Z own nm bytes maxL ret n0 P h cells slots n Ls (v :: st)) : W l R Z own nm bytes maxL ret n0 P h cells slots pc Ls (.int j :: .ref a :: st) := by
  subst hn
  obtain ⟨c, A, hc, F, S⟩ := A
  have hi : i < vs.length := (List.getElem?_eq_some_iff.mp hv).1
  have hin := ary_in hc hj h0 hi
  have hat : c.slots[j.toNatClampNeg]? = some v := by rw [hj, ← hv, ← hc]; simp
  exact k.step fun p e' s m args below meth c' T locs hx hZ hby hown X eT t q => X.baloadBytes hx (j := j) (v := v) (by rw [eT]; exact A.1) (State.isArrayOf_alike hZ.alike A.2.1) A.2.2 hin hat (g := mkF m pc Ls (.int j :: .ref a :: st)) rfl rfl (hb hby hd) t q
theorem W.aaload {a : Addr} {vs : List Value} {j : Int32} {ty : FieldType} (n : Nat) (hd : decode bytes pc = .ok (.aaload, 1)) (hn : pc + 1 = n) (A : Ary Z h a ty vs) (hty : ty.isReference = true) (i : Nat) (hj : j.toNatClampNeg = i) (h0 : ¬ j < 0) (v : Value) (hv : vs[i]? = some v) (k : W l R Z own nm bytes maxL ret n0 P h cells slots n Ls (v :: st)) : W l R Z own nm bytes maxL ret n0 P h cells slots pc Ls (.int j :: .ref a :: st) := by
  subst hn
  obtain ⟨c, A, hc, F, S⟩ := A
  have hi : i < vs.length := (List.getElem?_eq_some_iff.mp hv).1
  have hin := ary_in hc hj h0 hi
  have hat : c.slots[j.toNatClampNeg]? = some v := by rw [hj, ← hv, ← hc]; simp
  exact k.step fun p e' s m args below meth c' T locs hx hZ hby hown X eT t q => X.aaload hx (j := j) (v := v) (by rw [eT]; exact A.1) (State.isArrayOf_alike hZ.alike A.2.1) hty A.2.2 hin hat (g := mkF m pc Ls (.int j :: .ref a :: st)) rfl rfl (hb hby hd) t q
theorem W.iastore {a : Addr} {vs : List Value} {j : Int32} {x : Int32} (n : Nat) (hd : decode bytes pc = .ok (.iastore, 1)) (hn : pc + 1 = n) (A : Ary Z h a .int vs) (i : Nat) (hj : j.toNatClampNeg = i) (h0 : ¬ j < 0) (hi : i < vs.length) (ge : n0 ≤ a)
    (k : ∀ h', Wr h h' a i (.int x) → Keep h h' [a] → Ary Z h' a .int (vs.set i (.int x)) → W l R Z own nm bytes maxL ret n0 P h' cells slots n Ls st) : W l R Z own nm bytes maxL ret n0 P h cells slots pc Ls (.int x :: .int j :: .ref a :: st) := by
  subst hn
  intro p e s m args below meth c T locs hx hZ hby hml hown hret hlk hnm hn0 X eT N
  have A0 := A
  obtain ⟨cl, A, hc, F, S⟩ := A
  obtain ⟨T', h', X', e', W', st'⟩ := stI X hx hZ eT A (ary_in hc hj h0 hi) (g := mkF m pc Ls (.int x :: .int j :: .ref a :: st)) rfl rfl (hb hby hd)
  subst hj
  exact (k h' W' (Keep.of_wr W') (A0.set W' rfl) p e s m args below meth c T' _ hx hZ hby hml hown hret hlk hnm hn0 X' e' (Fr.one N ge)).step st'

theorem W.lastore {a : Addr} {vs : List Value} {j : Int32} {x : Int64} (n : Nat) (hd : decode bytes pc = .ok (.lastore, 1)) (hn : pc + 1 = n) (A : Ary Z h a .long vs) (i : Nat) (hj : j.toNatClampNeg = i) (h0 : ¬ j < 0) (hi : i < vs.length) (ge : n0 ≤ a)
    (k : ∀ h', Wr h h' a i (.long x) → Keep h h' [a] → Ary Z h' a .long (vs.set i (.long x)) → W l R Z own nm bytes maxL ret n0 P h' cells slots n Ls st) : W l R Z own nm bytes maxL ret n0 P h cells slots pc Ls (.long x :: .int j :: .ref a :: st) := by
  subst hn
  intro p e s m args below meth c T locs hx hZ hby hml hown hret hlk hnm hn0 X eT N
  have A0 := A
  obtain ⟨cl, A, hc, F, S⟩ := A
  obtain ⟨T', h', X', e', W', st'⟩ := stJ X hx hZ eT A (ary_in hc hj h0 hi) (g := mkF m pc Ls (.long x :: .int j :: .ref a :: st)) rfl rfl (hb hby hd)
  subst hj
  exact (k h' W' (Keep.of_wr W') (A0.set W' rfl) p e s m args below meth c T' _ hx hZ hby hml hown hret hlk hnm hn0 X' e' (Fr.one N ge)).step st'

theorem W.castore {a : Addr} {vs : List Value} {j : Int32} {x : Int32} (n : Nat) (hd : decode bytes pc = .ok (.castore, 1)) (hn : pc + 1 = n) (A : Ary Z h a .char vs) (i : Nat) (hj : j.toNatClampNeg = i) (h0 : ¬ j < 0) (hi : i < vs.length) (x' : Int32) (hx' : nar .char x = x') (ge : n0 ≤ a)
    (k : ∀ h', Wr h h' a i (.int x') → Keep h h' [a] → Ary Z h' a .char (vs.set i (.int x')) → W l R Z own nm bytes maxL ret n0 P h' cells slots n Ls st) : W l R Z own nm bytes maxL ret n0 P h cells slots pc Ls (.int x :: .int j :: .ref a :: st) := by
  subst hn hx'
  intro p e s m args below meth c T locs hx hZ hby hml hown hret hlk hnm hn0 X eT N
  have A0 := A
  obtain ⟨cl, A, hc, F, S⟩ := A
  obtain ⟨T', h', X', e', W', st'⟩ := stC X hx hZ eT A (ary_in hc hj h0 hi) (g := mkF m pc Ls (.int x :: .int j :: .ref a :: st)) rfl rfl (hb hby hd)
  subst hj
  exact (k h' W' (Keep.of_wr W') (A0.set W' (fits_nar_char _)) p e s m args below meth c T' _ hx hZ hby hml hown hret hlk hnm hn0 X' e' (Fr.one N ge)).step st'

theorem W.bastore {a : Addr} {vs : List Value} {j : Int32} {x : Int32} (n : Nat) (hd : decode bytes pc = .ok (.bastore, 1)) (hn : pc + 1 = n) (A : Ary Z h a .byte vs) (i : Nat) (hj : j.toNatClampNeg = i) (h0 : ¬ j < 0) (hi : i < vs.length) (x' : Int32) (hx' : nar .byte x = x') (ge : n0 ≤ a)
    (k : ∀ h', Wr h h' a i (.int x') → Keep h h' [a] → Ary Z h' a .byte (vs.set i (.int x')) → W l R Z own nm bytes maxL ret n0 P h' cells slots n Ls st) : W l R Z own nm bytes maxL ret n0 P h cells slots pc Ls (.int x :: .int j :: .ref a :: st) := by
  subst hn hx'
  intro p e s m args below meth c T locs hx hZ hby hml hown hret hlk hnm hn0 X eT N
  have A0 := A
  obtain ⟨cl, A, hc, F, S⟩ := A
  obtain ⟨T', h', X', e', W', st'⟩ := stB X hx hZ eT A (ary_in hc hj h0 hi) (g := mkF m pc Ls (.int x :: .int j :: .ref a :: st)) rfl rfl (hb hby hd)
  subst hj
  exact (k h' W' (Keep.of_wr W') (A0.set W' (fits_nar_byte _)) p e s m args below meth c T' _ hx hZ hby hml hown hret hlk hnm hn0 X' e' (Fr.one N ge)).step st'

theorem W.bastoreZ {a : Addr} {vs : List Value} {j : Int32} {x : Int32} (n : Nat) (hd : decode bytes pc = .ok (.bastore, 1)) (hn : pc + 1 = n) (A : Ary Z h a .boolean vs) (i : Nat) (hj : j.toNatClampNeg = i) (h0 : ¬ j < 0) (hi : i < vs.length) (x' : Int32) (hx' : nar .boolean x = x') (ge : n0 ≤ a)
    (k : ∀ h', Wr h h' a i (.int x') → Keep h h' [a] → Ary Z h' a .boolean (vs.set i (.int x')) → W l R Z own nm bytes maxL ret n0 P h' cells slots n Ls st) : W l R Z own nm bytes maxL ret n0 P h cells slots pc Ls (.int x :: .int j :: .ref a :: st) := by
  subst hn hx'
  intro p e s m args below meth c T locs hx hZ hby hml hown hret hlk hnm hn0 X eT N
  have A0 := A
  obtain ⟨cl, A, hc, F, S⟩ := A
  obtain ⟨T', h', X', e', W', st'⟩ := stZ X hx hZ eT A (ary_in hc hj h0 hi) (g := mkF m pc Ls (.int x :: .int j :: .ref a :: st)) rfl rfl (hb hby hd)
  subst hj
  exact (k h' W' (Keep.of_wr W') (A0.set W' (fits_nar_bool _)) p e s m args below meth c T' _ hx hZ hby hml hown hret hlk hnm hn0 X' e' (Fr.one N ge)).step st'

/-! calls and returns -/
theorem W.initObj {i : Nat} {a : Addr} (n : Nat) (hd : decode bytes pc = .ok (.invokespecial i, 3)) (hn : pc + 3 = n) (w1 : (Jvm.Cond.methodLink own i Lib.objectInit).before a0 Z = true) (w2 : (Jvm.Cond.instanceMethod Lib.objectInit).before a0 Z = true) (w3 : (Jvm.Cond.code Lib.objectInit ⟨#[0xb1]⟩ 1 none).before a0 Z = true) (hsz : Ls.size = maxL) (hf : 1 ≤ R.frames) (W0 : Nat) (hW : (st.map fun v => v.category).sum ≤ W0) (hl : W0 + 12 ≤ R.locals)
    (k : W l R Z own nm bytes maxL ret n0 P h cells slots n Ls st) : W l R Z own nm bytes maxL ret n0 P h cells slots pc Ls (.ref a :: st) := by
  subst hn
  intro p e s m args below meth c T locs hx hZ hby hml hown hret hlk hnm hn0 X eT N
  obtain ⟨T', X', e', st'⟩ := initO X hx hZ hown w1 w2 w3 eT (g := mkF m pc Ls (.ref a :: st)) rfl (by rw [hml]; exact hsz) rfl (hb hby hd) hf (W := W0) (by show 2 * 0 + _ ≤ _; omega) hl
  exact (k p e s m args below meth c T' locs hx hZ hby hml hown hret hlk hnm hn0 X' e' N).step st'
section Calls
variable {y : MethodName} {bytes' : ByteArray} {maxL' : Nat} {ret' : Option FieldType} {rm : Room} {P' : Option Value → Heap → Prop} {rest argsL : List Value} {i : Nat}
theorem W.callS (n : Nat) (hd : decode bytes pc = .ok (.invokestatic i, 3)) (hn : pc + 3 = n) (C : n0 ≤ h.size → Con l Z y bytes' maxL' ret' rm argsL.toArray h n0 P') (w1 : (Jvm.Cond.methodLink own i y).before a0 Z = true) (w2 : (Jvm.Cond.static y).before a0 Z = true) (w3 : (Jvm.Cond.initialized y.cls).before a0 Z = true) (w4 : (Jvm.Cond.code y bytes' maxL' ret').before a0 Z = true)
    (hy : y.cls ≠ "java/lang/invoke/MethodHandle" ∧ y.cls ≠ "java/lang/invoke/VarHandle") {ps : List FieldType} {r : Option FieldType} (hpd : parseMethodDescriptor y.desc = some ⟨ps, r⟩) (hlen : argsL.length = ps.length) (hst : st = argsL.reverse ++ rest) (hsz : Ls.size = maxL) (hf : rm.frames + 1 ≤ R.frames) (W0 : Nat) (hW : (rest.map fun v => v.category).sum ≤ W0) (hl : W0 + (maxL' + 11) + rm.locals ≤ R.locals) (hc : cells + rm.cells ≤ R.cells) (hs : slots + rm.slots ≤ R.slots)
    (k : ∀ v h', P' v h' → W l R Z own nm bytes maxL ret n0 P h' (cells + rm.cells) (slots + rm.slots) n Ls (v.toList ++ rest)) : W l R Z own nm bytes maxL ret n0 P h cells slots pc Ls st := by
  subst hn hst
  intro p e s m args below meth c T locs hx hZ hby hml hown hret hlk hnm hn0 X eT N
  obtain ⟨v, _, ⟨T', L', c', n'⟩, -, X', ⟨Lc, hQ, l', y', z'⟩, st'⟩ := Jvm.LawKit.callS X hx (y := y) hown (mvT hZ w1) (mvT hZ w2) (mvT hZ w3) (mvT hZ w4) hy (backOf (W := W0) (Z := Z) (h := h) (bytes := bytes') (maxL := maxL') (rm := rm) (Q := fun v h' L => P' v h' ∧ Fr n0 L) (C (Nat.le_trans hn0 (eT ▸ size_le X))) hZ w4 w3 hf hl) (g := mkF m pc Ls (argsL.reverse ++ rest)) rfl (by rw [hml]; exact hsz) (argsL := argsL) (rest := rest) (lenOf hpd hlen) rfl (by show 2 * 0 + _ ≤ _; omega) (hb hby hd) (fun _ _ => ⟨rfl, eT, hc, hs⟩)
  dsimp only [Pt.U, Pt.locs, Pt.cells, Pt.slots] at X' l' y' z' st' hQ
  subst l' y' z'
  exact (k v T'.heap hQ.1 p e s m args below meth c T' _ hx hZ hby hml hown hret hlk hnm hn0 X' rfl (Fr.app N hQ.2)).step st'
theorem W.callInit {a : Addr} (n : Nat) (hd : decode bytes pc = .ok (.invokespecial i, 3)) (hn : pc + 3 = n) (C : n0 ≤ h.size → Con l Z y bytes' maxL' none rm (.ref a :: argsL).toArray h n0 P') (hi : y.name = "<init>") (w1 : (Jvm.Cond.methodLink own i y).before a0 Z = true) (w2 : (Jvm.Cond.instanceMethod y).before a0 Z = true) (w3 : (Jvm.Cond.initialized y.cls).before a0 Z = true) (w4 : (Jvm.Cond.code y bytes' maxL' none).before a0 Z = true)
    (hy : y.cls ≠ "java/lang/invoke/MethodHandle" ∧ y.cls ≠ "java/lang/invoke/VarHandle") {ps : List FieldType} {r : Option FieldType} (hpd : parseMethodDescriptor y.desc = some ⟨ps, r⟩) (hlen : argsL.length = ps.length) (hst : st = argsL.reverse ++ .ref a :: rest) (hsz : Ls.size = maxL) (hf : rm.frames + 1 ≤ R.frames) (W0 : Nat) (hW : (rest.map fun v => v.category).sum ≤ W0) (hl : W0 + (maxL' + 11) + rm.locals ≤ R.locals) (hc : cells + rm.cells ≤ R.cells) (hs : slots + rm.slots ≤ R.slots)
    (k : ∀ v h', P' v h' → W l R Z own nm bytes maxL ret n0 P h' (cells + rm.cells) (slots + rm.slots) n Ls (v.toList ++ rest)) : W l R Z own nm bytes maxL ret n0 P h cells slots pc Ls st := by
  subst hn hst
  intro p e s m args below meth c T locs hx hZ hby hml hown hret hlk hnm hn0 X eT N
  obtain ⟨v, _, ⟨T', L', c', n'⟩, -, X', ⟨Lc, hQ, l', y', z'⟩, st'⟩ := X.specialBack hx (y := y) hi hown (mvT hZ w1) (mvT hZ w2) (mvT hZ w4) hy (backOf (W := W0) (Z := Z) (h := h) (bytes := bytes') (maxL := maxL') (rm := rm) (Q := fun v h' L => P' v h' ∧ Fr n0 L) (C (Nat.le_trans hn0 (eT ▸ size_le X))) hZ w4 w3 hf hl) (g := mkF m pc Ls (argsL.reverse ++ .ref a :: rest)) rfl (by rw [hml]; exact hsz) (Steps.refl _) (a := a) (argsL := argsL) (rest := rest) (lenOf hpd hlen) rfl (by show 2 * 0 + _ ≤ _; omega) (hb hby hd) (fun _ _ => ⟨rfl, eT, hc, hs⟩)
  dsimp only [Pt.U, Pt.locs, Pt.cells, Pt.slots] at X' l' y' z' st' hQ
  subst l' y' z'
  exact (k v T'.heap hQ.1 p e s m args below meth c T' _ hx hZ hby hml hown hret hlk hnm hn0 X' rfl (Fr.app N hQ.2)).step fun t q => st'.trans q
theorem W.callV {C0 : String} {a : Addr} (n : Nat) (hd : decode bytes pc = .ok (.invokevirtual i, 3)) (hn : pc + 3 = n) (C : n0 ≤ h.size → Con l Z y bytes' maxL' ret' rm (.ref a :: argsL).toArray h n0 P') (E : Exa Z h a C0) (w1 : (Jvm.Cond.methodLink own i y).before a0 Z = true) (w2 : (Jvm.Cond.declares y).before a0 Z = true) (w5 : (Jvm.Cond.selects C0 y y).before a0 Z = true) (hcy : C0 = y.cls) (w6 : (Jvm.Cond.instanceMethod y).before a0 Z = true) (w3 : (Jvm.Cond.initialized y.cls).before a0 Z = true) (w4 : (Jvm.Cond.code y bytes' maxL' ret').before a0 Z = true)
    (hy : y.cls ≠ "java/lang/invoke/MethodHandle" ∧ y.cls ≠ "java/lang/invoke/VarHandle") {ps : List FieldType} {r : Option FieldType} (hpd : parseMethodDescriptor y.desc = some ⟨ps, r⟩) (hlen : argsL.length = ps.length) (hst : st = argsL.reverse ++ .ref a :: rest) (hsz : Ls.size = maxL) (hf : rm.frames + 1 ≤ R.frames) (W0 : Nat) (hW : (rest.map fun v => v.category).sum ≤ W0) (hl : W0 + (maxL' + 11) + rm.locals ≤ R.locals) (hc : cells + rm.cells ≤ R.cells) (hs : slots + rm.slots ≤ R.slots)
    (k : ∀ v h', P' v h' → W l R Z own nm bytes maxL ret n0 P h' (cells + rm.cells) (slots + rm.slots) n Ls (v.toList ++ rest)) : W l R Z own nm bytes maxL ret n0 P h cells slots pc Ls st := by
  subst hn hst hcy
  intro p e s m args below meth c T locs hx hZ hby hml hown hret hlk hnm hn0 X eT N
  obtain ⟨cq, kq, qa, qb, qc⟩ := isOf hZ eT E
  obtain ⟨v, _, ⟨T', L', c', n'⟩, -, X', ⟨Lc, hQ, l', y', z'⟩, st'⟩ := X.virtualBack hx (y := y) (z := y) hown (mvT hZ w1) (mvT hZ w2) (notFace_of_selects (args := #[]) (mvT hZ w5)) (mvT hZ w5) (mvT hZ w6) hy (backOf (W := W0) (Z := Z) (h := h) (bytes := bytes') (maxL := maxL') (rm := rm) (Q := fun v h' L => P' v h' ∧ Fr n0 L) (C (Nat.le_trans hn0 (eT ▸ size_le X))) hZ w4 w3 hf hl) qa qc (g := mkF m pc Ls (argsL.reverse ++ .ref a :: rest)) rfl (by rw [hml]; exact hsz) (Steps.refl _) (argsL := argsL) (rest := rest) (lenOf hpd hlen) rfl (by show 2 * 0 + _ ≤ _; omega) (hb hby hd) (fun _ _ => ⟨rfl, eT, hc, hs⟩)
  dsimp only [Pt.U, Pt.locs, Pt.cells, Pt.slots] at X' l' y' z' st' hQ
  subst l' y' z'
  exact (k v T'.heap hQ.1 p e s m args below meth c T' _ hx hZ hby hml hown hret hlk hnm hn0 X' rfl (Fr.app N hQ.2)).step fun t q => st'.trans q
end Calls
theorem W.checkcast {i : Nat} {K : String} {a : Addr} (n : Nat) (hd : decode bytes pc = .ok (.checkcast i, 3)) (hn : pc + 3 = n) (w : (Jvm.Cond.classLink own i K).before a0 Z = true) (F : Ins Z h a K true) (k : W l R Z own nm bytes maxL ret n0 P h cells slots n Ls (.ref a :: st)) : W l R Z own nm bytes maxL ret n0 P h cells slots pc Ls (.ref a :: st) := by
  subst hn
  intro p e s m args below meth c T locs hx hZ hby hml hown hret hlk hnm hn0 X eT N
  obtain ⟨T', X', e', st'⟩ := castY X hx hZ hown w eT F (g := mkF m pc Ls (.ref a :: st)) rfl rfl (hb hby hd)
  exact (k p e s m args below meth c T' locs hx hZ hby hml hown hret hlk hnm hn0 X' e' N).step st'
theorem W.instYes {i : Nat} {K : String} {a : Addr} (n : Nat) (hd : decode bytes pc = .ok (.instanceof i, 3)) (hn : pc + 3 = n) (w : (Jvm.Cond.classLink own i K).before a0 Z = true) (F : Ins Z h a K true) (k : W l R Z own nm bytes maxL ret n0 P h cells slots n Ls (.int 1 :: st)) : W l R Z own nm bytes maxL ret n0 P h cells slots pc Ls (.ref a :: st) := by
  subst hn
  intro p e s m args below meth c T locs hx hZ hby hml hown hret hlk hnm hn0 X eT N
  obtain ⟨T', X', e', st'⟩ := instY X hx hZ hown w eT F (g := mkF m pc Ls (.ref a :: st)) rfl rfl (hb hby hd)
  exact (k p e s m args below meth c T' locs hx hZ hby hml hown hret hlk hnm hn0 X' e' N).step st'
theorem W.instNo {i : Nat} {K C : String} {a : Addr} (n : Nat) (hd : decode bytes pc = .ok (.instanceof i, 3)) (hn : pc + 3 = n) (w : (Jvm.Cond.classLink own i K).before a0 Z = true) (E : Exa Z h a C) (F : ∃ c t, Z.vm.findClass C = some c ∧ Z.vm.findClass K = some t ∧ Z.vm.assignable c t = false) (k : W l R Z own nm bytes maxL ret n0 P h cells slots n Ls (.int 0 :: st)) : W l R Z own nm bytes maxL ret n0 P h cells slots pc Ls (.ref a :: st) := by
  subst hn
  intro p e s m args below meth c T locs hx hZ hby hml hown hret hlk hnm hn0 X eT N
  obtain ⟨T', X', e', st'⟩ := RoadKit.instNo X hx hZ hown w eT E F (g := mkF m pc Ls (.ref a :: st)) rfl rfl (hb hby hd)
  exact (k p e s m args below meth c T' locs hx hZ hby hml hown hret hlk hnm hn0 X' e' N).step st'
theorem W.instNull {i : Nat} (n : Nat) (hd : decode bytes pc = .ok (.instanceof i, 3)) (hn : pc + 3 = n) (k : W l R Z own nm bytes maxL ret n0 P h cells slots n Ls (.int 0 :: st)) : W l R Z own nm bytes maxL ret n0 P h cells slots pc Ls (.null :: st) := by
  subst hn
  exact k.step fun p e s m args below meth c T locs hx hZ hby hown X eT t q => X.instanceofNull hx (g := mkF m pc Ls (.null :: st)) rfl rfl (hb hby hd) t q
theorem ary_us {vs : List Value} {d : Value} (i k : Nat) (hs : i + k ≤ vs.length) : (List.range k).map (fun j => vs.getD (i + j) d) = (vs.drop i).take k := by
  apply List.ext_getElem?
  intro j
  by_cases hj : j < k
  · simp [hj, List.getD_eq_getElem?_getD, List.getElem?_eq_getElem (show i + j < vs.length by omega)]
  · simp [hj]; omega
theorem W.arraycopy {i : Nat} {a b : Addr} {ty : FieldType} {vs vd : List Value} {sp dp nn : Int32} (n : Nat) (hd : decode bytes pc = .ok (.invokestatic i, 3)) (hn : pc + 3 = n) (w1 : (Jvm.Cond.methodLink own i Jvm.Stand.acN).before a0 Z = true) (w2 : (Jvm.Cond.native Jvm.Stand.acN).before a0 Z = true) (w3 : (Jvm.Cond.static Jvm.Stand.acN).before a0 Z = true) (w4 : (Jvm.Cond.initialized "java/lang/System").before a0 Z = true)
    (A : Ary Z h a ty vs) (B : Ary Z h b ty vd) (hk : refKind ty = false) (si di ni : Nat) (h1 : sp.toNatClampNeg = si) (h1' : ¬ sp < 0) (h2 : dp.toNatClampNeg = di) (h2' : ¬ dp < 0) (h3 : nn.toNatClampNeg = ni) (h3' : ¬ nn < 0) (hs : si + ni ≤ vs.length) (hdl : di + ni ≤ vd.length) (ge : n0 ≤ b) (hsz : Ls.size = maxL) (hf : 1 ≤ R.frames) (W0 : Nat) (hW : (st.map fun v => v.category).sum ≤ W0) (hl : W0 + (nativeFrameWords "java/lang/System" "arraycopy" 5 + 11) ≤ R.locals)
    (k : ∀ h', Keep h h' [b] → Ary Z h' b ty (vd.take di ++ (vs.drop si).take ni ++ vd.drop (di + ni)) → W l R Z own nm bytes maxL ret n0 P h' cells slots n Ls st) : W l R Z own nm bytes maxL ret n0 P h cells slots pc Ls (.int nn :: .int dp :: .ref b :: .int sp :: .ref a :: st) := by
  subst hn h1 h2 h3
  intro p e s m args below meth c T locs hx hZ hby hml hown hret hlk hnm hn0 X eT N
  have za : vs.length.toInt32.toNatClampNeg = vs.length := by
    have S : vs.length < 2 ^ 31 := by obtain ⟨_, _, _, _, S⟩ := A; exact S
    have hz : (vs.length.toInt32).toInt = vs.length := Int32.toInt_ofNat_small S
    simp only [Int32.toNatClampNeg]; rw [hz]; simp
  have zb : vd.length.toInt32.toNatClampNeg = vd.length := by
    have S : vd.length < 2 ^ 31 := by obtain ⟨_, _, _, _, S⟩ := B; exact S
    have hz : (vd.length.toInt32).toInt = vd.length := Int32.toInt_ofNat_small S
    simp only [Int32.toNatClampNeg]; rw [hz]; simp
  obtain ⟨ka, A'⟩ := A.arv .null
  obtain ⟨kb, B'⟩ := B.arv .null
  obtain ⟨T', h', L', X', e', N', K', C', st'⟩ := cpA X hx hZ hown w1 w2 w3 w4 eT A' B' (Or.inl ⟨rfl, hk⟩) h1' h2' h3' (by rw [za]; exact hs) (by rw [zb]; exact hdl) rfl hdl N ge (g := mkF m pc Ls (.int nn :: .int dp :: .ref b :: .int sp :: .ref a :: st)) rfl (by rw [hml]; exact hsz) rfl (hb hby hd) hf (W := W0) (by show 2 * 0 + _ ≤ _; omega) hl
  rw [ary_us _ _ hs] at C'
  have hlen : vd.length.toInt32.toNatClampNeg = (vd.take dp.toNatClampNeg ++ (vs.drop sp.toNatClampNeg).take nn.toNatClampNeg ++ vd.drop (dp.toNatClampNeg + nn.toNatClampNeg)).length := by
    rw [zb]; simp only [List.length_append, List.length_take, List.length_drop]; omega
  exact (k h' K' (Ary.of_arv C' hlen) p e s m args below meth c T' L' hx hZ hby hml hown hret hlk hnm hn0 X' e' N').step st'
theorem W.cloneArr {i : Nat} {a : Addr} {ty : FieldType} {vs : List Value} {ad : String} (n : Nat) (hd : decode bytes pc = .ok (.invokevirtual i, 3)) (hn : pc + 3 = n) (w1 : (Jvm.Cond.methodLink own i ⟨ad, "clone", "()Ljava/lang/Object;"⟩).before a0 Z = true) (w2 : (Jvm.Cond.sameMethod ad "java/lang/Object" "clone" "()Ljava/lang/Object;").before a0 Z = true) (w3 : (Jvm.Cond.native ⟨"java/lang/Object", "clone", "()Ljava/lang/Object;"⟩).before a0 Z = true)
    (w4 : (Jvm.Cond.instanceMethod ⟨"java/lang/Object", "clone", "()Ljava/lang/Object;"⟩).before a0 Z = true) (w5 : (Jvm.Cond.selects ad ⟨ad, "clone", "()Ljava/lang/Object;"⟩ ⟨"java/lang/Object", "clone", "()Ljava/lang/Object;"⟩).before a0 Z = true) (w6 : (Jvm.Cond.castable ad "java/lang/Cloneable").before a0 Z = true)
    (A : Ary Z h a ty vs) (E : Exa Z h a ad) (hsz : Ls.size = maxL) (hf : 1 ≤ R.frames) (W0 cap : Nat) (hW : (st.map fun v => v.category).sum ≤ W0) (hl : W0 + 14 ≤ R.locals) (hcap : vs.length ≤ cap) (hc : cells + 1 ≤ R.cells) (hs : slots + cap ≤ R.slots)
    (k : ∀ h' b, b = h.size → n0 ≤ b → Ext h h' → Keep h h' [] → Ary Z h' b ty vs → Exa Z h' b ad → W l R Z own nm bytes maxL ret n0 P h' (cells + 1) (slots + cap) n Ls (.ref b :: st)) : W l R Z own nm bytes maxL ret n0 P h cells slots pc Ls (.ref a :: st) := by
  subst hn
  intro p e s m args below meth c T locs hx hZ hby hml hown hret hlk hnm hn0 X eT N
  have za : vs.length.toInt32.toNatClampNeg = vs.length := by
    have S : vs.length < 2 ^ 31 := by obtain ⟨_, _, _, _, S⟩ := A; exact S
    have hz : (vs.length.toInt32).toInt = vs.length := Int32.toInt_ofNat_small S
    simp only [Int32.toNatClampNeg]; rw [hz]; simp
  obtain ⟨ka, A'⟩ := A.arv .null
  obtain ⟨T', h', X', e', E', B', C', st'⟩ := cloneH X hx hZ hown w1 w2 w3 w4 w5 w6 eT A'.arh E (g := mkF m pc Ls (.ref a :: st)) rfl (by rw [hml]; exact hsz) rfl (hb hby hd) hf (W := W0) (cap := cap) (by show 2 * 0 + _ ≤ _; omega) hl (by rw [za]; exact hcap) hc hs
  have hb0 : n0 ≤ h.size := Nat.le_trans hn0 (eT ▸ size_le X)
  exact (k h' h.size rfl hb0 E' (Keep.of_ext E') (Ary.of_arv (show Arv Z h' h.size ka ty vs.length.toInt32 vs .null from B') za) C' p e s m args below meth c T' _ hx hZ hby hml hown hret hlk hnm hn0 X' e' N).step st'
theorem W.ireturn {x : Int32} (hd : decode bytes pc = .ok (.ireturn, 1)) (hr : ret = some .int) (hp : P (some (.int x)) h) (hc : cells ≤ R.cells) (hs : slots ≤ R.slots) : W l R Z own nm bytes maxL ret n0 P h cells slots pc Ls (.int x :: st) := by
  intro p e s m args below meth c T locs hx hZ hby hml hown hret hlk hnm hn0 X eT N
  obtain ⟨fs, hr', hrun, hended, hW, hsame⟩ := X.leave (v := some (.int x)) (fun q => by rw [hret, hr] at q; cases q) hlk
  exact ⟨_, _, retOut X hx (t := .int) (i := .ireturn) (hret.trans hr) rfl (Or.inl ⟨rfl, Or.inl rfl, _, rfl⟩) (hb hby hd) hr', hrun, hended, _, _, rfl, ⟨by show P _ T.heap; rw [eT]; exact hp, N⟩, ⟨_, rfl⟩, hW, hsame.mono hc hs⟩
theorem W.ireturnN {x : Int32} {t : FieldType} (hd : decode bytes pc = .ok (.ireturn, 1)) (hr : ret = some t) (ht : t = .boolean ∨ t = .byte ∨ t = .char ∨ t = .short) (x' : Int32) (hx' : nar t x = x') (hp : P (some (.int x')) h) (hc : cells ≤ R.cells) (hs : slots ≤ R.slots) : W l R Z own nm bytes maxL ret n0 P h cells slots pc Ls (.int x :: st) := by
  subst hx'
  intro p e s m args below meth c T locs hx hZ hby hml hown hret hlk hnm hn0 X eT N
  obtain ⟨fs, hr', hrun, hended, hW, hsame⟩ := X.leave (v := some (.int (nar t x))) (fun q => by rw [hret, hr] at q; cases q) hlk
  exact ⟨_, _, retN X hx (hret.trans hr) ht (hb hby hd) hr', hrun, hended, _, _, rfl, ⟨by show P _ T.heap; rw [eT]; exact hp, N⟩, ⟨_, rfl⟩, hW, hsame.mono hc hs⟩
theorem W.lreturn {x : Int64} (hd : decode bytes pc = .ok (.lreturn, 1)) (hr : ret = some .long) (hp : P (some (.long x)) h) (hc : cells ≤ R.cells) (hs : slots ≤ R.slots) : W l R Z own nm bytes maxL ret n0 P h cells slots pc Ls (.long x :: st) := by
  intro p e s m args below meth c T locs hx hZ hby hml hown hret hlk hnm hn0 X eT N
  obtain ⟨fs, hr', hrun, hended, hW, hsame⟩ := X.leave (v := some (.long x)) (fun q => by rw [hret, hr] at q; cases q) hlk
  exact ⟨_, _, retOut X hx (t := .long) (i := .lreturn) (hret.trans hr) rfl (Or.inr (Or.inl ⟨rfl, rfl, _, rfl⟩)) (hb hby hd) hr', hrun, hended, _, _, rfl, ⟨by show P _ T.heap; rw [eT]; exact hp, N⟩, ⟨_, rfl⟩, hW, hsame.mono hc hs⟩
theorem W.areturn {v : Value} {t : FieldType} (hd : decode bytes pc = .ok (.areturn, 1)) (hr : ret = some t) (ht : t.isReference = true) (hv : v.isRef = true) (hn : narrow t v = v) (hp : P (some v) h) (hc : cells ≤ R.cells) (hs : slots ≤ R.slots) : W l R Z own nm bytes maxL ret n0 P h cells slots pc Ls (v :: st) := by
  intro p e s m args below meth c T locs hx hZ hby hml hown hret hlk hnm hn0 X eT N
  obtain ⟨fs, hr', hrun, hended, hW, hsame⟩ := X.leave (v := some v) (fun q => by rw [hret, hr] at q; cases q) hlk
  exact ⟨_, _, retOut X hx (t := t) (i := .areturn) (hret.trans hr) hn (Or.inr (Or.inr (Or.inr (Or.inr ⟨rfl, ht, hv⟩)))) (hb hby hd) hr', hrun, hended, _, _, rfl, ⟨by show P _ T.heap; rw [eT]; exact hp, N⟩, ⟨_, rfl⟩, hW, hsame.mono hc hs⟩
theorem W.return_ (hd : decode bytes pc = .ok (.return_, 1)) (hr : ret = none) (hp : P none h) (hc : cells ≤ R.cells) (hs : slots ≤ R.slots) : W l R Z own nm bytes maxL ret n0 P h cells slots pc Ls [] := by
  intro p e s m args below meth c T locs hx hZ hby hml hown hret hlk hnm hn0 X eT N
  obtain ⟨fs, hr', hrun, hended, hW, hsame⟩ := X.leave (v := none) (fun q => rfl) hlk
  exact ⟨_, _, X.returnOut hx (hret.trans hr) (hb hby hd) hr', hrun, hended, _, _, rfl, ⟨by show P _ T.heap; rw [eT]; exact hp, N⟩, ⟨_, rfl⟩, hW, hsame.mono hc hs⟩
end Rules
end Jvm.Wk

namespace Jvm.Pilot.@@N@@
open Jvm Jvm.ClassFile Sem Op Lib Jvm.Free Jvm.Stand Jvm.LawKit Jvm.RoadKit Jvm.Wk Bundle Jvm.Pilot.@@N@@.Jvm.D
theorem d_method_2_0 : decode method_2_code 0 = .ok (.iload_n 2, 1) := by decide +kernel
theorem d_method_2_1 : decode method_2_code 1 = .ok (.ifCond .eq 11, 3) := by decide +kernel
theorem d_method_2_12 : decode method_2_code 12 = .ok (.iconst 0, 1) := by decide +kernel
theorem d_method_2_13 : decode method_2_code 13 = .ok (.ireturn, 1) := by decide +kernel
theorem pn_0 : plainName "com/example/eccentra/eccentra/GraphEdgeCountPinLaw" = true := by first | (simp [plainName, overriddenIn]; done) | decide +kernel
theorem d_method_2_4 : decode method_2_code 4 = .ok (.iload_n 0, 1) := by decide +kernel
theorem d_method_2_5 : decode method_2_code 5 = .ok (.iload_n 1, 1) := by decide +kernel
theorem d_method_2_6 : decode method_2_code 6 = .ok (.iushr, 1) := by decide +kernel
theorem d_method_2_7 : decode method_2_code 7 = .ok (.iconst 1, 1) := by decide +kernel
theorem d_method_2_8 : decode method_2_code 8 = .ok (.iand, 1) := by decide +kernel
theorem d_method_2_9 : decode method_2_code 9 = .ok (.goto 4, 3) := by decide +kernel
theorem d_prog_7_method_1_0 : decode prog_7_method_1_code 0 = .ok (.aload_n 0, 1) := by decide +kernel
theorem d_prog_7_method_1_1 : decode prog_7_method_1_code 1 = .ok (.invokespecial 1, 3) := by decide +kernel
theorem wd_12 {Z : State} {a0 : Array Value} (hw : ∀ d ∈ tables_1, d.before a0 Z = true) : (Jvm.Cond.methodLink "com/example/eccentra/eccentra/Graph" (1 : Nat) ({ cls := "java/lang/Object", name := "<init>", desc := "()V" } : Jvm.MethodName)).before a0 Z = true := hw _ (List.mem_of_getElem? (i := 12) rfl)
theorem wd_14 {Z : State} {a0 : Array Value} (hw : ∀ d ∈ tables_1, d.before a0 Z = true) : (Jvm.Cond.code ({ cls := "java/lang/Object", name := "<init>", desc := "()V" } : Jvm.MethodName) object_method_1_code (1 : Nat) (Option.none : Option Jvm.ClassFile.FieldType)).before a0 Z = true := hw _ (List.mem_of_getElem? (i := 14) rfl)
theorem wd_13 {Z : State} {a0 : Array Value} (hw : ∀ d ∈ tables_1, d.before a0 Z = true) : (Jvm.Cond.instanceMethod ({ cls := "java/lang/Object", name := "<init>", desc := "()V" } : Jvm.MethodName)).before a0 Z = true := hw _ (List.mem_of_getElem? (i := 13) rfl)
theorem d_prog_7_method_1_4 : decode prog_7_method_1_code 4 = .ok (.aload_n 0, 1) := by decide +kernel
theorem d_prog_7_method_1_5 : decode prog_7_method_1_code 5 = .ok (.aload_n 1, 1) := by decide +kernel
theorem d_prog_7_method_1_6 : decode prog_7_method_1_code 6 = .ok (.putfield 7, 3) := by decide +kernel
theorem wd_15 {Z : State} {a0 : Array Value} (hw : ∀ d ∈ tables_1, d.before a0 Z = true) : (Jvm.Cond.fieldLink "com/example/eccentra/eccentra/Graph" (7 : Nat) "com/example/eccentra/eccentra/Graph" "labels" "[J").before a0 Z = true := hw _ (List.mem_of_getElem? (i := 15) rfl)
theorem wd_16 {Z : State} {a0 : Array Value} (hw : ∀ d ∈ tables_1, d.before a0 Z = true) : (Jvm.Cond.laysFinal "com/example/eccentra/eccentra/Graph" "com/example/eccentra/eccentra/Graph" "labels" "[J").before a0 Z = true := hw _ (List.mem_of_getElem? (i := 16) rfl)
theorem wd_7 {Z : State} {a0 : Array Value} (hw : ∀ d ∈ tables_1, d.before a0 Z = true) : (Jvm.Cond.instantiable "com/example/eccentra/eccentra/Graph" (6 : Nat)).before a0 Z = true := hw _ (List.mem_of_getElem? (i := 7) rfl)
theorem d_prog_7_method_1_9 : decode prog_7_method_1_code 9 = .ok (.aload_n 0, 1) := by decide +kernel
theorem d_prog_7_method_1_10 : decode prog_7_method_1_code 10 = .ok (.iload_n 2, 1) := by decide +kernel
theorem d_prog_7_method_1_11 : decode prog_7_method_1_code 11 = .ok (.putfield 13, 3) := by decide +kernel
theorem wd_17 {Z : State} {a0 : Array Value} (hw : ∀ d ∈ tables_1, d.before a0 Z = true) : (Jvm.Cond.fieldLink "com/example/eccentra/eccentra/Graph" (13 : Nat) "com/example/eccentra/eccentra/Graph" "directed" "Z").before a0 Z = true := hw _ (List.mem_of_getElem? (i := 17) rfl)
theorem wd_18 {Z : State} {a0 : Array Value} (hw : ∀ d ∈ tables_1, d.before a0 Z = true) : (Jvm.Cond.laysFinal "com/example/eccentra/eccentra/Graph" "com/example/eccentra/eccentra/Graph" "directed" "Z").before a0 Z = true := hw _ (List.mem_of_getElem? (i := 18) rfl)
theorem sne_0 {Z : State} {a0 : Array Value} (hw : ∀ d ∈ tables_1, d.before a0 Z = true) : RoadKit.slotOf Z "com/example/eccentra/eccentra/Graph" "directed" "Z" ≠ RoadKit.slotOf Z "com/example/eccentra/eccentra/Graph" "labels" "[J" := slot_ne (C := "com/example/eccentra/eccentra/Graph") (Or.inr (wd_18 hw)) (Or.inr (wd_16 hw)) (by decide) (t := .boolean) (t' := (.array .long)) (by decide) (by decide)
theorem d_prog_7_method_1_14 : decode prog_7_method_1_code 14 = .ok (.aload_n 0, 1) := by decide +kernel
theorem d_prog_7_method_1_15 : decode prog_7_method_1_code 15 = .ok (.aload_n 3, 1) := by decide +kernel
theorem d_prog_7_method_1_16 : decode prog_7_method_1_code 16 = .ok (.putfield 17, 3) := by decide +kernel
theorem wd_19 {Z : State} {a0 : Array Value} (hw : ∀ d ∈ tables_1, d.before a0 Z = true) : (Jvm.Cond.fieldLink "com/example/eccentra/eccentra/Graph" (17 : Nat) "com/example/eccentra/eccentra/Graph" "outOffsets" "[I").before a0 Z = true := hw _ (List.mem_of_getElem? (i := 19) rfl)
theorem wd_20 {Z : State} {a0 : Array Value} (hw : ∀ d ∈ tables_1, d.before a0 Z = true) : (Jvm.Cond.laysFinal "com/example/eccentra/eccentra/Graph" "com/example/eccentra/eccentra/Graph" "outOffsets" "[I").before a0 Z = true := hw _ (List.mem_of_getElem? (i := 20) rfl)
theorem sne_1 {Z : State} {a0 : Array Value} (hw : ∀ d ∈ tables_1, d.before a0 Z = true) : RoadKit.slotOf Z "com/example/eccentra/eccentra/Graph" "outOffsets" "[I" ≠ RoadKit.slotOf Z "com/example/eccentra/eccentra/Graph" "labels" "[J" := slot_ne (C := "com/example/eccentra/eccentra/Graph") (Or.inr (wd_20 hw)) (Or.inr (wd_16 hw)) (by decide) (t := (.array .int)) (t' := (.array .long)) (by decide) (by decide)
theorem sne_2 {Z : State} {a0 : Array Value} (hw : ∀ d ∈ tables_1, d.before a0 Z = true) : RoadKit.slotOf Z "com/example/eccentra/eccentra/Graph" "outOffsets" "[I" ≠ RoadKit.slotOf Z "com/example/eccentra/eccentra/Graph" "directed" "Z" := slot_ne (C := "com/example/eccentra/eccentra/Graph") (Or.inr (wd_20 hw)) (Or.inr (wd_18 hw)) (by decide) (t := (.array .int)) (t' := .boolean) (by decide) (by decide)
theorem d_prog_7_method_1_19 : decode prog_7_method_1_code 19 = .ok (.aload_n 0, 1) := by decide +kernel
theorem d_prog_7_method_1_20 : decode prog_7_method_1_code 20 = .ok (.aload 4, 2) := by decide +kernel
theorem d_prog_7_method_1_22 : decode prog_7_method_1_code 22 = .ok (.putfield 21, 3) := by decide +kernel
theorem wd_21 {Z : State} {a0 : Array Value} (hw : ∀ d ∈ tables_1, d.before a0 Z = true) : (Jvm.Cond.fieldLink "com/example/eccentra/eccentra/Graph" (21 : Nat) "com/example/eccentra/eccentra/Graph" "outTargets" "[I").before a0 Z = true := hw _ (List.mem_of_getElem? (i := 21) rfl)
theorem wd_22 {Z : State} {a0 : Array Value} (hw : ∀ d ∈ tables_1, d.before a0 Z = true) : (Jvm.Cond.laysFinal "com/example/eccentra/eccentra/Graph" "com/example/eccentra/eccentra/Graph" "outTargets" "[I").before a0 Z = true := hw _ (List.mem_of_getElem? (i := 22) rfl)
theorem sne_3 {Z : State} {a0 : Array Value} (hw : ∀ d ∈ tables_1, d.before a0 Z = true) : RoadKit.slotOf Z "com/example/eccentra/eccentra/Graph" "outTargets" "[I" ≠ RoadKit.slotOf Z "com/example/eccentra/eccentra/Graph" "labels" "[J" := slot_ne (C := "com/example/eccentra/eccentra/Graph") (Or.inr (wd_22 hw)) (Or.inr (wd_16 hw)) (by decide) (t := (.array .int)) (t' := (.array .long)) (by decide) (by decide)
theorem sne_4 {Z : State} {a0 : Array Value} (hw : ∀ d ∈ tables_1, d.before a0 Z = true) : RoadKit.slotOf Z "com/example/eccentra/eccentra/Graph" "outTargets" "[I" ≠ RoadKit.slotOf Z "com/example/eccentra/eccentra/Graph" "directed" "Z" := slot_ne (C := "com/example/eccentra/eccentra/Graph") (Or.inr (wd_22 hw)) (Or.inr (wd_18 hw)) (by decide) (t := (.array .int)) (t' := .boolean) (by decide) (by decide)
theorem sne_5 {Z : State} {a0 : Array Value} (hw : ∀ d ∈ tables_1, d.before a0 Z = true) : RoadKit.slotOf Z "com/example/eccentra/eccentra/Graph" "outTargets" "[I" ≠ RoadKit.slotOf Z "com/example/eccentra/eccentra/Graph" "outOffsets" "[I" := slot_ne (C := "com/example/eccentra/eccentra/Graph") (Or.inr (wd_22 hw)) (Or.inr (wd_20 hw)) (by decide) (t := (.array .int)) (t' := (.array .int)) (by decide) (by decide)
theorem d_prog_7_method_1_25 : decode prog_7_method_1_code 25 = .ok (.aload_n 0, 1) := by decide +kernel
theorem d_prog_7_method_1_26 : decode prog_7_method_1_code 26 = .ok (.aload 5, 2) := by decide +kernel
theorem d_prog_7_method_1_28 : decode prog_7_method_1_code 28 = .ok (.putfield 24, 3) := by decide +kernel
theorem wd_23 {Z : State} {a0 : Array Value} (hw : ∀ d ∈ tables_1, d.before a0 Z = true) : (Jvm.Cond.fieldLink "com/example/eccentra/eccentra/Graph" (24 : Nat) "com/example/eccentra/eccentra/Graph" "inOffsets" "[I").before a0 Z = true := hw _ (List.mem_of_getElem? (i := 23) rfl)
theorem wd_24 {Z : State} {a0 : Array Value} (hw : ∀ d ∈ tables_1, d.before a0 Z = true) : (Jvm.Cond.laysFinal "com/example/eccentra/eccentra/Graph" "com/example/eccentra/eccentra/Graph" "inOffsets" "[I").before a0 Z = true := hw _ (List.mem_of_getElem? (i := 24) rfl)
theorem sne_6 {Z : State} {a0 : Array Value} (hw : ∀ d ∈ tables_1, d.before a0 Z = true) : RoadKit.slotOf Z "com/example/eccentra/eccentra/Graph" "inOffsets" "[I" ≠ RoadKit.slotOf Z "com/example/eccentra/eccentra/Graph" "labels" "[J" := slot_ne (C := "com/example/eccentra/eccentra/Graph") (Or.inr (wd_24 hw)) (Or.inr (wd_16 hw)) (by decide) (t := (.array .int)) (t' := (.array .long)) (by decide) (by decide)
theorem sne_7 {Z : State} {a0 : Array Value} (hw : ∀ d ∈ tables_1, d.before a0 Z = true) : RoadKit.slotOf Z "com/example/eccentra/eccentra/Graph" "inOffsets" "[I" ≠ RoadKit.slotOf Z "com/example/eccentra/eccentra/Graph" "directed" "Z" := slot_ne (C := "com/example/eccentra/eccentra/Graph") (Or.inr (wd_24 hw)) (Or.inr (wd_18 hw)) (by decide) (t := (.array .int)) (t' := .boolean) (by decide) (by decide)
theorem sne_8 {Z : State} {a0 : Array Value} (hw : ∀ d ∈ tables_1, d.before a0 Z = true) : RoadKit.slotOf Z "com/example/eccentra/eccentra/Graph" "inOffsets" "[I" ≠ RoadKit.slotOf Z "com/example/eccentra/eccentra/Graph" "outOffsets" "[I" := slot_ne (C := "com/example/eccentra/eccentra/Graph") (Or.inr (wd_24 hw)) (Or.inr (wd_20 hw)) (by decide) (t := (.array .int)) (t' := (.array .int)) (by decide) (by decide)
theorem sne_9 {Z : State} {a0 : Array Value} (hw : ∀ d ∈ tables_1, d.before a0 Z = true) : RoadKit.slotOf Z "com/example/eccentra/eccentra/Graph" "inOffsets" "[I" ≠ RoadKit.slotOf Z "com/example/eccentra/eccentra/Graph" "outTargets" "[I" := slot_ne (C := "com/example/eccentra/eccentra/Graph") (Or.inr (wd_24 hw)) (Or.inr (wd_22 hw)) (by decide) (t := (.array .int)) (t' := (.array .int)) (by decide) (by decide)
theorem d_prog_7_method_1_31 : decode prog_7_method_1_code 31 = .ok (.aload_n 0, 1) := by decide +kernel
theorem d_prog_7_method_1_32 : decode prog_7_method_1_code 32 = .ok (.aload 6, 2) := by decide +kernel
theorem d_prog_7_method_1_34 : decode prog_7_method_1_code 34 = .ok (.putfield 27, 3) := by decide +kernel
theorem wd_25 {Z : State} {a0 : Array Value} (hw : ∀ d ∈ tables_1, d.before a0 Z = true) : (Jvm.Cond.fieldLink "com/example/eccentra/eccentra/Graph" (27 : Nat) "com/example/eccentra/eccentra/Graph" "inSources" "[I").before a0 Z = true := hw _ (List.mem_of_getElem? (i := 25) rfl)
theorem wd_26 {Z : State} {a0 : Array Value} (hw : ∀ d ∈ tables_1, d.before a0 Z = true) : (Jvm.Cond.laysFinal "com/example/eccentra/eccentra/Graph" "com/example/eccentra/eccentra/Graph" "inSources" "[I").before a0 Z = true := hw _ (List.mem_of_getElem? (i := 26) rfl)
theorem sne_10 {Z : State} {a0 : Array Value} (hw : ∀ d ∈ tables_1, d.before a0 Z = true) : RoadKit.slotOf Z "com/example/eccentra/eccentra/Graph" "inSources" "[I" ≠ RoadKit.slotOf Z "com/example/eccentra/eccentra/Graph" "labels" "[J" := slot_ne (C := "com/example/eccentra/eccentra/Graph") (Or.inr (wd_26 hw)) (Or.inr (wd_16 hw)) (by decide) (t := (.array .int)) (t' := (.array .long)) (by decide) (by decide)
theorem sne_11 {Z : State} {a0 : Array Value} (hw : ∀ d ∈ tables_1, d.before a0 Z = true) : RoadKit.slotOf Z "com/example/eccentra/eccentra/Graph" "inSources" "[I" ≠ RoadKit.slotOf Z "com/example/eccentra/eccentra/Graph" "directed" "Z" := slot_ne (C := "com/example/eccentra/eccentra/Graph") (Or.inr (wd_26 hw)) (Or.inr (wd_18 hw)) (by decide) (t := (.array .int)) (t' := .boolean) (by decide) (by decide)
theorem sne_12 {Z : State} {a0 : Array Value} (hw : ∀ d ∈ tables_1, d.before a0 Z = true) : RoadKit.slotOf Z "com/example/eccentra/eccentra/Graph" "inSources" "[I" ≠ RoadKit.slotOf Z "com/example/eccentra/eccentra/Graph" "outOffsets" "[I" := slot_ne (C := "com/example/eccentra/eccentra/Graph") (Or.inr (wd_26 hw)) (Or.inr (wd_20 hw)) (by decide) (t := (.array .int)) (t' := (.array .int)) (by decide) (by decide)
theorem sne_13 {Z : State} {a0 : Array Value} (hw : ∀ d ∈ tables_1, d.before a0 Z = true) : RoadKit.slotOf Z "com/example/eccentra/eccentra/Graph" "inSources" "[I" ≠ RoadKit.slotOf Z "com/example/eccentra/eccentra/Graph" "outTargets" "[I" := slot_ne (C := "com/example/eccentra/eccentra/Graph") (Or.inr (wd_26 hw)) (Or.inr (wd_22 hw)) (by decide) (t := (.array .int)) (t' := (.array .int)) (by decide) (by decide)
theorem sne_14 {Z : State} {a0 : Array Value} (hw : ∀ d ∈ tables_1, d.before a0 Z = true) : RoadKit.slotOf Z "com/example/eccentra/eccentra/Graph" "inSources" "[I" ≠ RoadKit.slotOf Z "com/example/eccentra/eccentra/Graph" "inOffsets" "[I" := slot_ne (C := "com/example/eccentra/eccentra/Graph") (Or.inr (wd_26 hw)) (Or.inr (wd_24 hw)) (by decide) (t := (.array .int)) (t' := (.array .int)) (by decide) (by decide)
theorem d_prog_7_method_1_37 : decode prog_7_method_1_code 37 = .ok (.return_, 1) := by decide +kernel
theorem sne_15 {Z : State} {a0 : Array Value} (hw : ∀ d ∈ tables_1, d.before a0 Z = true) : RoadKit.slotOf Z "com/example/eccentra/eccentra/Graph" "labels" "[J" ≠ RoadKit.slotOf Z "com/example/eccentra/eccentra/Graph" "directed" "Z" := slot_ne (C := "com/example/eccentra/eccentra/Graph") (Or.inr (wd_16 hw)) (Or.inr (wd_18 hw)) (by decide) (t := (.array .long)) (t' := .boolean) (by decide) (by decide)
theorem sne_16 {Z : State} {a0 : Array Value} (hw : ∀ d ∈ tables_1, d.before a0 Z = true) : RoadKit.slotOf Z "com/example/eccentra/eccentra/Graph" "labels" "[J" ≠ RoadKit.slotOf Z "com/example/eccentra/eccentra/Graph" "outOffsets" "[I" := slot_ne (C := "com/example/eccentra/eccentra/Graph") (Or.inr (wd_16 hw)) (Or.inr (wd_20 hw)) (by decide) (t := (.array .long)) (t' := (.array .int)) (by decide) (by decide)
theorem sne_17 {Z : State} {a0 : Array Value} (hw : ∀ d ∈ tables_1, d.before a0 Z = true) : RoadKit.slotOf Z "com/example/eccentra/eccentra/Graph" "labels" "[J" ≠ RoadKit.slotOf Z "com/example/eccentra/eccentra/Graph" "outTargets" "[I" := slot_ne (C := "com/example/eccentra/eccentra/Graph") (Or.inr (wd_16 hw)) (Or.inr (wd_22 hw)) (by decide) (t := (.array .long)) (t' := (.array .int)) (by decide) (by decide)
theorem sne_18 {Z : State} {a0 : Array Value} (hw : ∀ d ∈ tables_1, d.before a0 Z = true) : RoadKit.slotOf Z "com/example/eccentra/eccentra/Graph" "labels" "[J" ≠ RoadKit.slotOf Z "com/example/eccentra/eccentra/Graph" "inOffsets" "[I" := slot_ne (C := "com/example/eccentra/eccentra/Graph") (Or.inr (wd_16 hw)) (Or.inr (wd_24 hw)) (by decide) (t := (.array .long)) (t' := (.array .int)) (by decide) (by decide)
theorem sne_19 {Z : State} {a0 : Array Value} (hw : ∀ d ∈ tables_1, d.before a0 Z = true) : RoadKit.slotOf Z "com/example/eccentra/eccentra/Graph" "labels" "[J" ≠ RoadKit.slotOf Z "com/example/eccentra/eccentra/Graph" "inSources" "[I" := slot_ne (C := "com/example/eccentra/eccentra/Graph") (Or.inr (wd_16 hw)) (Or.inr (wd_26 hw)) (by decide) (t := (.array .long)) (t' := (.array .int)) (by decide) (by decide)
theorem sne_20 {Z : State} {a0 : Array Value} (hw : ∀ d ∈ tables_1, d.before a0 Z = true) : RoadKit.slotOf Z "com/example/eccentra/eccentra/Graph" "directed" "Z" ≠ RoadKit.slotOf Z "com/example/eccentra/eccentra/Graph" "outOffsets" "[I" := slot_ne (C := "com/example/eccentra/eccentra/Graph") (Or.inr (wd_18 hw)) (Or.inr (wd_20 hw)) (by decide) (t := .boolean) (t' := (.array .int)) (by decide) (by decide)
theorem sne_21 {Z : State} {a0 : Array Value} (hw : ∀ d ∈ tables_1, d.before a0 Z = true) : RoadKit.slotOf Z "com/example/eccentra/eccentra/Graph" "directed" "Z" ≠ RoadKit.slotOf Z "com/example/eccentra/eccentra/Graph" "outTargets" "[I" := slot_ne (C := "com/example/eccentra/eccentra/Graph") (Or.inr (wd_18 hw)) (Or.inr (wd_22 hw)) (by decide) (t := .boolean) (t' := (.array .int)) (by decide) (by decide)
theorem sne_22 {Z : State} {a0 : Array Value} (hw : ∀ d ∈ tables_1, d.before a0 Z = true) : RoadKit.slotOf Z "com/example/eccentra/eccentra/Graph" "directed" "Z" ≠ RoadKit.slotOf Z "com/example/eccentra/eccentra/Graph" "inOffsets" "[I" := slot_ne (C := "com/example/eccentra/eccentra/Graph") (Or.inr (wd_18 hw)) (Or.inr (wd_24 hw)) (by decide) (t := .boolean) (t' := (.array .int)) (by decide) (by decide)
theorem sne_23 {Z : State} {a0 : Array Value} (hw : ∀ d ∈ tables_1, d.before a0 Z = true) : RoadKit.slotOf Z "com/example/eccentra/eccentra/Graph" "directed" "Z" ≠ RoadKit.slotOf Z "com/example/eccentra/eccentra/Graph" "inSources" "[I" := slot_ne (C := "com/example/eccentra/eccentra/Graph") (Or.inr (wd_18 hw)) (Or.inr (wd_26 hw)) (by decide) (t := .boolean) (t' := (.array .int)) (by decide) (by decide)
theorem sne_24 {Z : State} {a0 : Array Value} (hw : ∀ d ∈ tables_1, d.before a0 Z = true) : RoadKit.slotOf Z "com/example/eccentra/eccentra/Graph" "outOffsets" "[I" ≠ RoadKit.slotOf Z "com/example/eccentra/eccentra/Graph" "outTargets" "[I" := slot_ne (C := "com/example/eccentra/eccentra/Graph") (Or.inr (wd_20 hw)) (Or.inr (wd_22 hw)) (by decide) (t := (.array .int)) (t' := (.array .int)) (by decide) (by decide)
theorem sne_25 {Z : State} {a0 : Array Value} (hw : ∀ d ∈ tables_1, d.before a0 Z = true) : RoadKit.slotOf Z "com/example/eccentra/eccentra/Graph" "outOffsets" "[I" ≠ RoadKit.slotOf Z "com/example/eccentra/eccentra/Graph" "inOffsets" "[I" := slot_ne (C := "com/example/eccentra/eccentra/Graph") (Or.inr (wd_20 hw)) (Or.inr (wd_24 hw)) (by decide) (t := (.array .int)) (t' := (.array .int)) (by decide) (by decide)
theorem sne_26 {Z : State} {a0 : Array Value} (hw : ∀ d ∈ tables_1, d.before a0 Z = true) : RoadKit.slotOf Z "com/example/eccentra/eccentra/Graph" "outOffsets" "[I" ≠ RoadKit.slotOf Z "com/example/eccentra/eccentra/Graph" "inSources" "[I" := slot_ne (C := "com/example/eccentra/eccentra/Graph") (Or.inr (wd_20 hw)) (Or.inr (wd_26 hw)) (by decide) (t := (.array .int)) (t' := (.array .int)) (by decide) (by decide)
theorem pn_1 : plainName "com/example/eccentra/eccentra/Graph" = true := by first | (simp [plainName, overriddenIn]; done) | decide +kernel
theorem d_prog_7_method_4_0 : decode prog_7_method_4_code 0 = .ok (.aload_n 0, 1) := by decide +kernel
theorem d_prog_7_method_4_1 : decode prog_7_method_4_code 1 = .ok (.getfield 17, 3) := by decide +kernel
theorem d_prog_7_method_4_4 : decode prog_7_method_4_code 4 = .ok (.aload_n 0, 1) := by decide +kernel
theorem d_prog_7_method_4_5 : decode prog_7_method_4_code 5 = .ok (.getfield 7, 3) := by decide +kernel
theorem d_prog_7_method_4_8 : decode prog_7_method_4_code 8 = .ok (.arraylength, 1) := by decide +kernel
theorem d_prog_7_method_4_9 : decode prog_7_method_4_code 9 = .ok (.iaload, 1) := by decide +kernel
theorem d_prog_7_method_4_10 : decode prog_7_method_4_code 10 = .ok (.istore_n 1, 1) := by decide +kernel
theorem d_prog_7_method_4_11 : decode prog_7_method_4_code 11 = .ok (.aload_n 0, 1) := by decide +kernel
theorem d_prog_7_method_4_12 : decode prog_7_method_4_code 12 = .ok (.getfield 13, 3) := by decide +kernel
theorem d_prog_7_method_4_15 : decode prog_7_method_4_code 15 = .ok (.ifCond .eq 7, 3) := by decide +kernel
theorem d_prog_7_method_4_22 : decode prog_7_method_4_code 22 = .ok (.iload_n 1, 1) := by decide +kernel
theorem d_prog_7_method_4_23 : decode prog_7_method_4_code 23 = .ok (.iconst 2, 1) := by decide +kernel
theorem d_prog_7_method_4_24 : decode prog_7_method_4_code 24 = .ok (.idiv, 1) := by decide +kernel
theorem d_prog_7_method_4_25 : decode prog_7_method_4_code 25 = .ok (.ireturn, 1) := by decide +kernel
theorem d_prog_7_method_4_18 : decode prog_7_method_4_code 18 = .ok (.iload_n 1, 1) := by decide +kernel
theorem d_prog_7_method_4_19 : decode prog_7_method_4_code 19 = .ok (.goto 6, 3) := by decide +kernel
theorem wd_6 {Z : State} {a0 : Array Value} (hw : ∀ d ∈ tables_1, d.before a0 Z = true) : (Jvm.Cond.classLink "com/example/eccentra/eccentra/GraphEdgeCountPinLaw" (15 : Nat) "com/example/eccentra/eccentra/Graph").before a0 Z = true := hw _ (List.mem_of_getElem? (i := 6) rfl)
theorem wd_8 {Z : State} {a0 : Array Value} (hw : ∀ d ∈ tables_1, d.before a0 Z = true) : (Jvm.Cond.initialized "com/example/eccentra/eccentra/Graph").before a0 Z = true := hw _ (List.mem_of_getElem? (i := 8) rfl)
theorem wd_9 {Z : State} {a0 : Array Value} (hw : ∀ d ∈ tables_1, d.before a0 Z = true) : (Jvm.Cond.methodLink "com/example/eccentra/eccentra/GraphEdgeCountPinLaw" (17 : Nat) ({ cls := "com/example/eccentra/eccentra/Graph", name := "<init>", desc := "([JZ[I[I[I[I)V" } : Jvm.MethodName)).before a0 Z = true := hw _ (List.mem_of_getElem? (i := 9) rfl)
theorem wd_11 {Z : State} {a0 : Array Value} (hw : ∀ d ∈ tables_1, d.before a0 Z = true) : (Jvm.Cond.code ({ cls := "com/example/eccentra/eccentra/Graph", name := "<init>", desc := "([JZ[I[I[I[I)V" } : Jvm.MethodName) prog_7_method_1_code (7 : Nat) (Option.none : Option Jvm.ClassFile.FieldType)).before a0 Z = true := hw _ (List.mem_of_getElem? (i := 11) rfl)
theorem pd_0 : parseMethodDescriptor "([JZ[I[I[I[I)V" = some ⟨[(.array .long), .boolean, (.array .int), (.array .int), (.array .int), (.array .int)], none⟩ := by decide +kernel
theorem wd_10 {Z : State} {a0 : Array Value} (hw : ∀ d ∈ tables_1, d.before a0 Z = true) : (Jvm.Cond.instanceMethod ({ cls := "com/example/eccentra/eccentra/Graph", name := "<init>", desc := "([JZ[I[I[I[I)V" } : Jvm.MethodName)).before a0 Z = true := hw _ (List.mem_of_getElem? (i := 10) rfl)
theorem wd_27 {Z : State} {a0 : Array Value} (hw : ∀ d ∈ tables_1, d.before a0 Z = true) : (Jvm.Cond.methodLink "com/example/eccentra/eccentra/GraphEdgeCountPinLaw" (20 : Nat) ({ cls := "com/example/eccentra/eccentra/Graph", name := "edgeCount", desc := "()I" } : Jvm.MethodName)).before a0 Z = true := hw _ (List.mem_of_getElem? (i := 27) rfl)
theorem wd_30 {Z : State} {a0 : Array Value} (hw : ∀ d ∈ tables_1, d.before a0 Z = true) : (Jvm.Cond.selects "com/example/eccentra/eccentra/Graph" ({ cls := "com/example/eccentra/eccentra/Graph", name := "edgeCount", desc := "()I" } : Jvm.MethodName) ({ cls := "com/example/eccentra/eccentra/Graph", name := "edgeCount", desc := "()I" } : Jvm.MethodName)).before a0 Z = true := hw _ (List.mem_of_getElem? (i := 30) rfl)
theorem wd_31 {Z : State} {a0 : Array Value} (hw : ∀ d ∈ tables_1, d.before a0 Z = true) : (Jvm.Cond.code ({ cls := "com/example/eccentra/eccentra/Graph", name := "edgeCount", desc := "()I" } : Jvm.MethodName) prog_7_method_4_code (2 : Nat) (Option.some Jvm.ClassFile.FieldType.int)).before a0 Z = true := hw _ (List.mem_of_getElem? (i := 31) rfl)
theorem pd_1 : parseMethodDescriptor "()I" = some ⟨[], some .int⟩ := by decide +kernel
theorem wd_28 {Z : State} {a0 : Array Value} (hw : ∀ d ∈ tables_1, d.before a0 Z = true) : (Jvm.Cond.declares ({ cls := "com/example/eccentra/eccentra/Graph", name := "edgeCount", desc := "()I" } : Jvm.MethodName)).before a0 Z = true := hw _ (List.mem_of_getElem? (i := 28) rfl)
theorem wd_29 {Z : State} {a0 : Array Value} (hw : ∀ d ∈ tables_1, d.before a0 Z = true) : (Jvm.Cond.instanceMethod ({ cls := "com/example/eccentra/eccentra/Graph", name := "edgeCount", desc := "()I" } : Jvm.MethodName)).before a0 Z = true := hw _ (List.mem_of_getElem? (i := 29) rfl)
theorem wd_5 {Z : State} {a0 : Array Value} (hw : ∀ d ∈ tables_1, d.before a0 Z = true) : (Jvm.Cond.arrayClass Jvm.ClassFile.FieldType.int).before a0 Z = true := hw _ (List.mem_of_getElem? (i := 5) rfl)
theorem wd_0 {Z : State} {a0 : Array Value} (hw : ∀ d ∈ tables_1, d.before a0 Z = true) : (Jvm.Cond.methodLink "com/example/eccentra/eccentra/GraphEdgeCountPinLaw" (7 : Nat) ({ cls := "com/example/eccentra/eccentra/GraphEdgeCountPinLaw", name := "bit", desc := "(IIZ)I" } : Jvm.MethodName)).before a0 Z = true := hw _ (List.mem_of_getElem? (i := 0) rfl)
theorem wd_3 {Z : State} {a0 : Array Value} (hw : ∀ d ∈ tables_1, d.before a0 Z = true) : (Jvm.Cond.code ({ cls := "com/example/eccentra/eccentra/GraphEdgeCountPinLaw", name := "bit", desc := "(IIZ)I" } : Jvm.MethodName) method_2_code (3 : Nat) (Option.some Jvm.ClassFile.FieldType.int)).before a0 Z = true := hw _ (List.mem_of_getElem? (i := 3) rfl)
theorem pd_2 : parseMethodDescriptor "(IIZ)I" = some ⟨[.int, .int, .boolean], some .int⟩ := by decide +kernel
theorem wd_1 {Z : State} {a0 : Array Value} (hw : ∀ d ∈ tables_1, d.before a0 Z = true) : (Jvm.Cond.static ({ cls := "com/example/eccentra/eccentra/GraphEdgeCountPinLaw", name := "bit", desc := "(IIZ)I" } : Jvm.MethodName)).before a0 Z = true := hw _ (List.mem_of_getElem? (i := 1) rfl)
theorem wd_2 {Z : State} {a0 : Array Value} (hw : ∀ d ∈ tables_1, d.before a0 Z = true) : (Jvm.Cond.initialized "com/example/eccentra/eccentra/GraphEdgeCountPinLaw").before a0 Z = true := hw _ (List.mem_of_getElem? (i := 2) rfl)
theorem wd_4 {Z : State} {a0 : Array Value} (hw : ∀ d ∈ tables_1, d.before a0 Z = true) : (Jvm.Cond.arrayClass Jvm.ClassFile.FieldType.long).before a0 Z = true := hw _ (List.mem_of_getElem? (i := 4) rfl)
theorem wd_32 {Z : State} {a0 : Array Value} (hw : ∀ d ∈ tables_1, d.before a0 Z = true) : (Jvm.Cond.constantLong "com/example/eccentra/eccentra/GraphEdgeCountPinLaw" (13 : Nat) (2 : Int64)).before a0 Z = true := hw _ (List.mem_of_getElem? (i := 32) rfl)
theorem own_and7 (x : Int32) : x &&& 7 = 0 ∨ x &&& 7 = 1 ∨ x &&& 7 = 2 ∨ x &&& 7 = 3 ∨ x &&& 7 = 4 ∨ x &&& 7 = 5 ∨ x &&& 7 = 6 ∨ x &&& 7 = 7 := by
  have h1 := c_mask x 7 3 (by decide) (by decide)
  have e0 : (0 : Int32).toInt = 0 := rfl
  have e1 : (1 : Int32).toInt = 1 := rfl
  have e2 : (2 : Int32).toInt = 2 := rfl
  have e3 : (3 : Int32).toInt = 3 := rfl
  have e4 : (4 : Int32).toInt = 4 := rfl
  have e5 : (5 : Int32).toInt = 5 := rfl
  have e6 : (6 : Int32).toInt = 6 := rfl
  have e7 : (7 : Int32).toInt = 7 := rfl
  simp only [← Int32.toInt_inj]
  omega
set_option maxRecDepth 65536 in
set_option maxHeartbeats 40000000 in
theorem c_bit0 (l : Launch) (Z : State) (a0 : Array Value) (hw : ∀ d ∈ tables_1, d.before a0 Z = true) (x i : Int32) (h : Heap) (n0 : Nat) (hn : n0 ≤ h.size) : Con l Z (⟨"com/example/eccentra/eccentra/GraphEdgeCountPinLaw", "bit", "(IIZ)I"⟩ : MethodName) method_2_code 3 (some .int) ({ frames := 0, cells := 0, slots := 0, locals := 0 } : Room) #[(.int x), (.int i), (.int (0 : Int32))] h n0 (fun r h' => r = some (.int 0) ∧ h' = h) := by
  refine ConW.of_W (Ls := #[.val (.int x), .val (.int i), .val (.int (0 : Int32))]) (plainFor_of_name pn_0) hn (fun m => by first | (simp [entryFrame, mkF, argsToLocals, Value.category]; done) | rfl) ?_
  refine W.iloadN 1 d_method_2_0 rfl rfl ?_
  refine W.if_eq 12 4 d_method_2_1 rfl rfl (fun _ => ?_) (fun hc => absurd (by decide) hc)
  refine W.iconst 13 d_method_2_12 rfl (0 : Int32) rfl ?_
  exact W.ireturn d_method_2_13 rfl ⟨rfl, rfl⟩ (by decide) (by decide)
set_option maxRecDepth 65536 in
set_option maxHeartbeats 40000000 in
theorem c_bit1 (l : Launch) (Z : State) (a0 : Array Value) (hw : ∀ d ∈ tables_1, d.before a0 Z = true) (x i : Int32) (h : Heap) (n0 : Nat) (hn : n0 ≤ h.size) : Con l Z (⟨"com/example/eccentra/eccentra/GraphEdgeCountPinLaw", "bit", "(IIZ)I"⟩ : MethodName) method_2_code 3 (some .int) ({ frames := 0, cells := 0, slots := 0, locals := 0 } : Room) #[(.int x), (.int i), (.int (1 : Int32))] h n0 (fun r h' => (∃ z : Int32, r = some (.int z) ∧ (z = 0 ∨ z = 1)) ∧ h' = h) := by
  refine ConW.of_W (Ls := #[.val (.int x), .val (.int i), .val (.int (1 : Int32))]) (plainFor_of_name pn_0) hn (fun m => by first | (simp [entryFrame, mkF, argsToLocals, Value.category]; done) | rfl) ?_
  refine W.iloadN 1 d_method_2_0 rfl rfl ?_
  refine W.if_eq 12 4 d_method_2_1 rfl rfl (fun hc => absurd hc (by decide)) (fun _ => ?_)
  refine W.iloadN 5 d_method_2_4 rfl rfl ?_
  refine W.iloadN 6 d_method_2_5 rfl rfl ?_
  refine W.iushr 7 d_method_2_6 rfl ((x.toUInt32 >>> (i &&& 31).toUInt32).toInt32) rfl ?_
  refine W.iconst 8 d_method_2_7 rfl (1 : Int32) rfl ?_
  refine W.iand 9 d_method_2_8 rfl (((x.toUInt32 >>> (i &&& 31).toUInt32).toInt32) &&& (1 : Int32)) rfl ?_
  refine W.goto 13 d_method_2_9 rfl ?_
  exact W.ireturn d_method_2_13 rfl ⟨⟨_, rfl, and_one _⟩, rfl⟩ (by decide) (by decide)
set_option maxRecDepth 65536 in
set_option maxHeartbeats 40000000 in
theorem c_ctor0 (l : Launch) (Z : State) (a0 : Array Value) (hw : ∀ d ∈ tables_1, d.before a0 Z = true) (a r1 r3 r4 r5 r6 : Addr) (h : Heap) (n0 : Nat) (hn : n0 ≤ h.size) (ga : n0 ≤ a) (E : Exa Z h a "com/example/eccentra/eccentra/Graph") (F0 : Fld Z h a "com/example/eccentra/eccentra/Graph" "labels" "[J" .null) (F1 : Fld Z h a "com/example/eccentra/eccentra/Graph" "directed" "Z" (.int (0 : Int32))) (F2 : Fld Z h a "com/example/eccentra/eccentra/Graph" "outOffsets" "[I" .null) (F3 : Fld Z h a "com/example/eccentra/eccentra/Graph" "outTargets" "[I" .null) (F4 : Fld Z h a "com/example/eccentra/eccentra/Graph" "inOffsets" "[I" .null) (F5 : Fld Z h a "com/example/eccentra/eccentra/Graph" "inSources" "[I" .null) : Con l Z (⟨"com/example/eccentra/eccentra/Graph", "<init>", "([JZ[I[I[I[I)V"⟩ : MethodName) prog_7_method_1_code 7 none ({ frames := 1, cells := 0, slots := 0, locals := 20 } : Room) #[(.ref a), (.ref r1), (.int (0 : Int32)), (.ref r3), (.ref r4), (.ref r5), (.ref r6)] h n0 (fun r h' => r = none ∧ Exa Z h' a "com/example/eccentra/eccentra/Graph" ∧ Keep h h' [a] ∧ Fld Z h' a "com/example/eccentra/eccentra/Graph" "labels" "[J" (.ref r1) ∧ Fld Z h' a "com/example/eccentra/eccentra/Graph" "directed" "Z" (.int (0 : Int32)) ∧ Fld Z h' a "com/example/eccentra/eccentra/Graph" "outOffsets" "[I" (.ref r3)) := by
  refine ConW.of_W (Ls := #[.val (.ref a), .val (.ref r1), .val (.int (0 : Int32)), .val (.ref r3), .val (.ref r4), .val (.ref r5), .val (.ref r6)]) (plainFor_of_name pn_1) hn (fun m => by first | (simp [entryFrame, mkF, argsToLocals, Value.category]; done) | rfl) ?_
  refine W.aloadN 1 d_prog_7_method_1_0 rfl rfl rfl ?_
  refine W.initObj 4 d_prog_7_method_1_1 rfl (wd_12 hw) (wd_13 hw) (wd_14 hw) rfl (by decide) 0 (Nat.le_of_ble_eq_true rfl) (by decide) ?_
  refine W.aloadN 5 d_prog_7_method_1_4 rfl rfl rfl ?_
  refine W.aloadN 6 d_prog_7_method_1_5 rfl rfl rfl ?_
  refine W.putfield 9 d_prog_7_method_1_6 rfl (host := "") (Or.inl (wd_15 hw)) Via.refl F0 E (Or.inr ⟨(wd_16 hw), rfl, rfl⟩) (wd_7 hw) (ty := (.array .long)) (by decide) rfl rfl ga ?_
  intro h1001 W1001 F1001 E1001 K1001
  have kc1002 := Keep.trans (ws := [a]) (Keep.refl _ [a]) K1001 (allS (Or.inl (List.mem_of_getElem? (i := 0) rfl)) all0)
  refine W.aloadN 10 d_prog_7_method_1_9 rfl rfl rfl ?_
  refine W.iloadN 11 d_prog_7_method_1_10 rfl rfl ?_
  have q1003 := (F1.other W1001 (Or.inr (sne_0 hw)))
  refine W.putfieldN 14 d_prog_7_method_1_11 rfl (wd_17 hw) Via.refl q1003 E1001 (Or.inr ⟨(wd_18 hw), rfl, rfl⟩) (wd_7 hw) (ty := .boolean) (by decide) (.int (0 : Int32)) rfl rfl ga ?_
  intro h1004 W1004 F1004 E1004 K1004
  have kc1005 := Keep.trans (ws := [a]) kc1002 K1004 (allS (Or.inl (List.mem_of_getElem? (i := 0) rfl)) all0)
  refine W.aloadN 15 d_prog_7_method_1_14 rfl rfl rfl ?_
  refine W.aloadN 16 d_prog_7_method_1_15 rfl rfl rfl ?_
  have q1006 := ((F2.other W1001 (Or.inr (sne_1 hw))).other W1004 (Or.inr (sne_2 hw)))
  refine W.putfield 19 d_prog_7_method_1_16 rfl (host := "") (Or.inl (wd_19 hw)) Via.refl q1006 E1004 (Or.inr ⟨(wd_20 hw), rfl, rfl⟩) (wd_7 hw) (ty := (.array .int)) (by decide) rfl rfl ga ?_
  intro h1007 W1007 F1007 E1007 K1007
  have kc1008 := Keep.trans (ws := [a]) kc1005 K1007 (allS (Or.inl (List.mem_of_getElem? (i := 0) rfl)) all0)
  refine W.aloadN 20 d_prog_7_method_1_19 rfl rfl rfl ?_
  refine W.aload 22 d_prog_7_method_1_20 rfl rfl rfl ?_
  have q1009 := (((F3.other W1001 (Or.inr (sne_3 hw))).other W1004 (Or.inr (sne_4 hw))).other W1007 (Or.inr (sne_5 hw)))
  refine W.putfield 25 d_prog_7_method_1_22 rfl (host := "") (Or.inl (wd_21 hw)) Via.refl q1009 E1007 (Or.inr ⟨(wd_22 hw), rfl, rfl⟩) (wd_7 hw) (ty := (.array .int)) (by decide) rfl rfl ga ?_
  intro h1010 W1010 F1010 E1010 K1010
  have kc1011 := Keep.trans (ws := [a]) kc1008 K1010 (allS (Or.inl (List.mem_of_getElem? (i := 0) rfl)) all0)
  refine W.aloadN 26 d_prog_7_method_1_25 rfl rfl rfl ?_
  refine W.aload 28 d_prog_7_method_1_26 rfl rfl rfl ?_
  have q1012 := ((((F4.other W1001 (Or.inr (sne_6 hw))).other W1004 (Or.inr (sne_7 hw))).other W1007 (Or.inr (sne_8 hw))).other W1010 (Or.inr (sne_9 hw)))
  refine W.putfield 31 d_prog_7_method_1_28 rfl (host := "") (Or.inl (wd_23 hw)) Via.refl q1012 E1010 (Or.inr ⟨(wd_24 hw), rfl, rfl⟩) (wd_7 hw) (ty := (.array .int)) (by decide) rfl rfl ga ?_
  intro h1013 W1013 F1013 E1013 K1013
  have kc1014 := Keep.trans (ws := [a]) kc1011 K1013 (allS (Or.inl (List.mem_of_getElem? (i := 0) rfl)) all0)
  refine W.aloadN 32 d_prog_7_method_1_31 rfl rfl rfl ?_
  refine W.aload 34 d_prog_7_method_1_32 rfl rfl rfl ?_
  have q1015 := (((((F5.other W1001 (Or.inr (sne_10 hw))).other W1004 (Or.inr (sne_11 hw))).other W1007 (Or.inr (sne_12 hw))).other W1010 (Or.inr (sne_13 hw))).other W1013 (Or.inr (sne_14 hw)))
  refine W.putfield 37 d_prog_7_method_1_34 rfl (host := "") (Or.inl (wd_25 hw)) Via.refl q1015 E1013 (Or.inr ⟨(wd_26 hw), rfl, rfl⟩) (wd_7 hw) (ty := (.array .int)) (by decide) rfl rfl ga ?_
  intro h1016 W1016 F1016 E1016 K1016
  have kc1017 := Keep.trans (ws := [a]) kc1014 K1016 (allS (Or.inl (List.mem_of_getElem? (i := 0) rfl)) all0)
  have q1018 := (((((F1001.other W1004 (Or.inr (sne_15 hw))).other W1007 (Or.inr (sne_16 hw))).other W1010 (Or.inr (sne_17 hw))).other W1013 (Or.inr (sne_18 hw))).other W1016 (Or.inr (sne_19 hw)))
  have q1019 := ((((F1004.other W1007 (Or.inr (sne_20 hw))).other W1010 (Or.inr (sne_21 hw))).other W1013 (Or.inr (sne_22 hw))).other W1016 (Or.inr (sne_23 hw)))
  have q1020 := (((F1007.other W1010 (Or.inr (sne_24 hw))).other W1013 (Or.inr (sne_25 hw))).other W1016 (Or.inr (sne_26 hw)))
  exact W.return_ d_prog_7_method_1_37 rfl ⟨rfl, E1016, kc1017, q1018, q1019, q1020⟩ (by decide) (by decide)
set_option maxRecDepth 65536 in
set_option maxHeartbeats 40000000 in
theorem c_ec0 (l : Launch) (Z : State) (a0 : Array Value) (hw : ∀ d ∈ tables_1, d.before a0 Z = true) (a b16 b17 : Addr) (n tot : Int32) (ls os : List Value) (h : Heap) (n0 : Nat) (hn : n0 ≤ h.size) (F0 : Fld Z h a "com/example/eccentra/eccentra/Graph" "labels" "[J" (.ref b16)) (F1 : Fld Z h a "com/example/eccentra/eccentra/Graph" "directed" "Z" (.int (0 : Int32))) (F2 : Fld Z h a "com/example/eccentra/eccentra/Graph" "outOffsets" "[I" (.ref b17)) (A16 : Ary Z h b16 .long ls) (A17 : Ary Z h b17 .int os) (hls : ls.length.toInt32 = n) (hn0 : ¬ n < 0) (hos : os[n.toNatClampNeg]? = some (.int tot)) : Con l Z (⟨"com/example/eccentra/eccentra/Graph", "edgeCount", "()I"⟩ : MethodName) prog_7_method_4_code 2 (some .int) ({ frames := 0, cells := 0, slots := 0, locals := 0 } : Room) #[(.ref a)] h n0 (fun r h' => r = some (.int (tot / (2 : Int32))) ∧ h' = h) := by
  refine ConW.of_W (Ls := #[.val (.ref a), .unset]) (plainFor_of_name pn_1) hn (fun m => by first | (simp [entryFrame, mkF, argsToLocals, Value.category]; done) | rfl) ?_
  refine W.aloadN 1 d_prog_7_method_4_0 rfl rfl rfl ?_
  refine W.getfield 4 d_prog_7_method_4_1 rfl (host := "") (Or.inl (wd_19 hw)) Via.refl F2 ?_
  refine W.aloadN 5 d_prog_7_method_4_4 rfl rfl rfl ?_
  refine W.getfield 8 d_prog_7_method_4_5 rfl (host := "") (Or.inl (wd_15 hw)) Via.refl F0 ?_
  refine W.arraylength 9 d_prog_7_method_4_8 rfl A16 n hls ?_
  refine W.iaload 10 d_prog_7_method_4_9 rfl A17 n.toNatClampNeg rfl hn0 (.int tot) hos ?_
  refine W.istoreN 11 d_prog_7_method_4_10 rfl #[.val (.ref a), .val (.int tot)] rfl ?_
  refine W.aloadN 12 d_prog_7_method_4_11 rfl rfl rfl ?_
  refine W.getfield 15 d_prog_7_method_4_12 rfl (host := "") (Or.inl (wd_17 hw)) Via.refl F1 ?_
  refine W.if_eq 22 18 d_prog_7_method_4_15 rfl rfl (fun _ => ?_) (fun hc => absurd (by decide) hc)
  refine W.iloadN 23 d_prog_7_method_4_22 rfl rfl ?_
  refine W.iconst 24 d_prog_7_method_4_23 rfl (2 : Int32) rfl ?_
  refine W.idiv 25 d_prog_7_method_4_24 rfl (by decide) (tot / (2 : Int32)) rfl ?_
  exact W.ireturn d_prog_7_method_4_25 rfl ⟨rfl, rfl⟩ (by decide) (by decide)
set_option maxRecDepth 65536 in
set_option maxHeartbeats 40000000 in
theorem c_ctor1 (l : Launch) (Z : State) (a0 : Array Value) (hw : ∀ d ∈ tables_1, d.before a0 Z = true) (a r1 r3 r4 r5 r6 : Addr) (h : Heap) (n0 : Nat) (hn : n0 ≤ h.size) (ga : n0 ≤ a) (E : Exa Z h a "com/example/eccentra/eccentra/Graph") (F0 : Fld Z h a "com/example/eccentra/eccentra/Graph" "labels" "[J" .null) (F1 : Fld Z h a "com/example/eccentra/eccentra/Graph" "directed" "Z" (.int (0 : Int32))) (F2 : Fld Z h a "com/example/eccentra/eccentra/Graph" "outOffsets" "[I" .null) (F3 : Fld Z h a "com/example/eccentra/eccentra/Graph" "outTargets" "[I" .null) (F4 : Fld Z h a "com/example/eccentra/eccentra/Graph" "inOffsets" "[I" .null) (F5 : Fld Z h a "com/example/eccentra/eccentra/Graph" "inSources" "[I" .null) : Con l Z (⟨"com/example/eccentra/eccentra/Graph", "<init>", "([JZ[I[I[I[I)V"⟩ : MethodName) prog_7_method_1_code 7 none ({ frames := 1, cells := 0, slots := 0, locals := 20 } : Room) #[(.ref a), (.ref r1), (.int (1 : Int32)), (.ref r3), (.ref r4), (.ref r5), (.ref r6)] h n0 (fun r h' => r = none ∧ Exa Z h' a "com/example/eccentra/eccentra/Graph" ∧ Keep h h' [a] ∧ Fld Z h' a "com/example/eccentra/eccentra/Graph" "labels" "[J" (.ref r1) ∧ Fld Z h' a "com/example/eccentra/eccentra/Graph" "directed" "Z" (.int (1 : Int32)) ∧ Fld Z h' a "com/example/eccentra/eccentra/Graph" "outOffsets" "[I" (.ref r3)) := by
  refine ConW.of_W (Ls := #[.val (.ref a), .val (.ref r1), .val (.int (1 : Int32)), .val (.ref r3), .val (.ref r4), .val (.ref r5), .val (.ref r6)]) (plainFor_of_name pn_1) hn (fun m => by first | (simp [entryFrame, mkF, argsToLocals, Value.category]; done) | rfl) ?_
  refine W.aloadN 1 d_prog_7_method_1_0 rfl rfl rfl ?_
  refine W.initObj 4 d_prog_7_method_1_1 rfl (wd_12 hw) (wd_13 hw) (wd_14 hw) rfl (by decide) 0 (Nat.le_of_ble_eq_true rfl) (by decide) ?_
  refine W.aloadN 5 d_prog_7_method_1_4 rfl rfl rfl ?_
  refine W.aloadN 6 d_prog_7_method_1_5 rfl rfl rfl ?_
  refine W.putfield 9 d_prog_7_method_1_6 rfl (host := "") (Or.inl (wd_15 hw)) Via.refl F0 E (Or.inr ⟨(wd_16 hw), rfl, rfl⟩) (wd_7 hw) (ty := (.array .long)) (by decide) rfl rfl ga ?_
  intro h1021 W1021 F1021 E1021 K1021
  have kc1022 := Keep.trans (ws := [a]) (Keep.refl _ [a]) K1021 (allS (Or.inl (List.mem_of_getElem? (i := 0) rfl)) all0)
  refine W.aloadN 10 d_prog_7_method_1_9 rfl rfl rfl ?_
  refine W.iloadN 11 d_prog_7_method_1_10 rfl rfl ?_
  have q1023 := (F1.other W1021 (Or.inr (sne_0 hw)))
  refine W.putfieldN 14 d_prog_7_method_1_11 rfl (wd_17 hw) Via.refl q1023 E1021 (Or.inr ⟨(wd_18 hw), rfl, rfl⟩) (wd_7 hw) (ty := .boolean) (by decide) (.int (1 : Int32)) rfl rfl ga ?_
  intro h1024 W1024 F1024 E1024 K1024
  have kc1025 := Keep.trans (ws := [a]) kc1022 K1024 (allS (Or.inl (List.mem_of_getElem? (i := 0) rfl)) all0)
  refine W.aloadN 15 d_prog_7_method_1_14 rfl rfl rfl ?_
  refine W.aloadN 16 d_prog_7_method_1_15 rfl rfl rfl ?_
  have q1026 := ((F2.other W1021 (Or.inr (sne_1 hw))).other W1024 (Or.inr (sne_2 hw)))
  refine W.putfield 19 d_prog_7_method_1_16 rfl (host := "") (Or.inl (wd_19 hw)) Via.refl q1026 E1024 (Or.inr ⟨(wd_20 hw), rfl, rfl⟩) (wd_7 hw) (ty := (.array .int)) (by decide) rfl rfl ga ?_
  intro h1027 W1027 F1027 E1027 K1027
  have kc1028 := Keep.trans (ws := [a]) kc1025 K1027 (allS (Or.inl (List.mem_of_getElem? (i := 0) rfl)) all0)
  refine W.aloadN 20 d_prog_7_method_1_19 rfl rfl rfl ?_
  refine W.aload 22 d_prog_7_method_1_20 rfl rfl rfl ?_
  have q1029 := (((F3.other W1021 (Or.inr (sne_3 hw))).other W1024 (Or.inr (sne_4 hw))).other W1027 (Or.inr (sne_5 hw)))
  refine W.putfield 25 d_prog_7_method_1_22 rfl (host := "") (Or.inl (wd_21 hw)) Via.refl q1029 E1027 (Or.inr ⟨(wd_22 hw), rfl, rfl⟩) (wd_7 hw) (ty := (.array .int)) (by decide) rfl rfl ga ?_
  intro h1030 W1030 F1030 E1030 K1030
  have kc1031 := Keep.trans (ws := [a]) kc1028 K1030 (allS (Or.inl (List.mem_of_getElem? (i := 0) rfl)) all0)
  refine W.aloadN 26 d_prog_7_method_1_25 rfl rfl rfl ?_
  refine W.aload 28 d_prog_7_method_1_26 rfl rfl rfl ?_
  have q1032 := ((((F4.other W1021 (Or.inr (sne_6 hw))).other W1024 (Or.inr (sne_7 hw))).other W1027 (Or.inr (sne_8 hw))).other W1030 (Or.inr (sne_9 hw)))
  refine W.putfield 31 d_prog_7_method_1_28 rfl (host := "") (Or.inl (wd_23 hw)) Via.refl q1032 E1030 (Or.inr ⟨(wd_24 hw), rfl, rfl⟩) (wd_7 hw) (ty := (.array .int)) (by decide) rfl rfl ga ?_
  intro h1033 W1033 F1033 E1033 K1033
  have kc1034 := Keep.trans (ws := [a]) kc1031 K1033 (allS (Or.inl (List.mem_of_getElem? (i := 0) rfl)) all0)
  refine W.aloadN 32 d_prog_7_method_1_31 rfl rfl rfl ?_
  refine W.aload 34 d_prog_7_method_1_32 rfl rfl rfl ?_
  have q1035 := (((((F5.other W1021 (Or.inr (sne_10 hw))).other W1024 (Or.inr (sne_11 hw))).other W1027 (Or.inr (sne_12 hw))).other W1030 (Or.inr (sne_13 hw))).other W1033 (Or.inr (sne_14 hw)))
  refine W.putfield 37 d_prog_7_method_1_34 rfl (host := "") (Or.inl (wd_25 hw)) Via.refl q1035 E1033 (Or.inr ⟨(wd_26 hw), rfl, rfl⟩) (wd_7 hw) (ty := (.array .int)) (by decide) rfl rfl ga ?_
  intro h1036 W1036 F1036 E1036 K1036
  have kc1037 := Keep.trans (ws := [a]) kc1034 K1036 (allS (Or.inl (List.mem_of_getElem? (i := 0) rfl)) all0)
  have q1038 := (((((F1021.other W1024 (Or.inr (sne_15 hw))).other W1027 (Or.inr (sne_16 hw))).other W1030 (Or.inr (sne_17 hw))).other W1033 (Or.inr (sne_18 hw))).other W1036 (Or.inr (sne_19 hw)))
  have q1039 := ((((F1024.other W1027 (Or.inr (sne_20 hw))).other W1030 (Or.inr (sne_21 hw))).other W1033 (Or.inr (sne_22 hw))).other W1036 (Or.inr (sne_23 hw)))
  have q1040 := (((F1027.other W1030 (Or.inr (sne_24 hw))).other W1033 (Or.inr (sne_25 hw))).other W1036 (Or.inr (sne_26 hw)))
  exact W.return_ d_prog_7_method_1_37 rfl ⟨rfl, E1036, kc1037, q1038, q1039, q1040⟩ (by decide) (by decide)
set_option maxRecDepth 65536 in
set_option maxHeartbeats 40000000 in
theorem c_ec1 (l : Launch) (Z : State) (a0 : Array Value) (hw : ∀ d ∈ tables_1, d.before a0 Z = true) (a b16 b17 : Addr) (n tot : Int32) (ls os : List Value) (h : Heap) (n0 : Nat) (hn : n0 ≤ h.size) (F0 : Fld Z h a "com/example/eccentra/eccentra/Graph" "labels" "[J" (.ref b16)) (F1 : Fld Z h a "com/example/eccentra/eccentra/Graph" "directed" "Z" (.int (1 : Int32))) (F2 : Fld Z h a "com/example/eccentra/eccentra/Graph" "outOffsets" "[I" (.ref b17)) (A16 : Ary Z h b16 .long ls) (A17 : Ary Z h b17 .int os) (hls : ls.length.toInt32 = n) (hn0 : ¬ n < 0) (hos : os[n.toNatClampNeg]? = some (.int tot)) : Con l Z (⟨"com/example/eccentra/eccentra/Graph", "edgeCount", "()I"⟩ : MethodName) prog_7_method_4_code 2 (some .int) ({ frames := 0, cells := 0, slots := 0, locals := 0 } : Room) #[(.ref a)] h n0 (fun r h' => r = some (.int tot) ∧ h' = h) := by
  refine ConW.of_W (Ls := #[.val (.ref a), .unset]) (plainFor_of_name pn_1) hn (fun m => by first | (simp [entryFrame, mkF, argsToLocals, Value.category]; done) | rfl) ?_
  refine W.aloadN 1 d_prog_7_method_4_0 rfl rfl rfl ?_
  refine W.getfield 4 d_prog_7_method_4_1 rfl (host := "") (Or.inl (wd_19 hw)) Via.refl F2 ?_
  refine W.aloadN 5 d_prog_7_method_4_4 rfl rfl rfl ?_
  refine W.getfield 8 d_prog_7_method_4_5 rfl (host := "") (Or.inl (wd_15 hw)) Via.refl F0 ?_
  refine W.arraylength 9 d_prog_7_method_4_8 rfl A16 n hls ?_
  refine W.iaload 10 d_prog_7_method_4_9 rfl A17 n.toNatClampNeg rfl hn0 (.int tot) hos ?_
  refine W.istoreN 11 d_prog_7_method_4_10 rfl #[.val (.ref a), .val (.int tot)] rfl ?_
  refine W.aloadN 12 d_prog_7_method_4_11 rfl rfl rfl ?_
  refine W.getfield 15 d_prog_7_method_4_12 rfl (host := "") (Or.inl (wd_17 hw)) Via.refl F1 ?_
  refine W.if_eq 22 18 d_prog_7_method_4_15 rfl rfl (fun hc => absurd hc (by decide)) (fun _ => ?_)
  refine W.iloadN 19 d_prog_7_method_4_18 rfl rfl ?_
  refine W.goto 25 d_prog_7_method_4_19 rfl ?_
  exact W.ireturn d_prog_7_method_4_25 rfl ⟨rfl, rfl⟩ (by decide) (by decide)
def own_bit (x : Int32) : Prop := x = 0 ∨ x = 1
theorem own_tot (a01 a02 a12 a10 a20 a21 : Int32) (ha01 : own_bit a01) (ha02 : own_bit a02) (ha12 : own_bit a12) (ha10 : own_bit a10) (ha20 : own_bit a20) (ha21 : own_bit a21) : ¬ ((a01 + a02) + (a10 + a12) + (a20 + a21)) < 0 ∧ ((a01 + a02) + (a10 + a12) + (a20 + a21)).toNatClampNeg ≤ 6 := by
  rcases ha01 with rfl | rfl <;> rcases ha02 with rfl | rfl <;> rcases ha12 with rfl | rfl <;> rcases ha10 with rfl | rfl <;> rcases ha20 with rfl | rfl <;> rcases ha21 with rfl | rfl <;> decide
theorem own_fin1 (a01 a02 a12 a10 a20 a21 : Int32) (ha01 : own_bit a01) (ha02 : own_bit a02) (ha12 : own_bit a12) (ha10 : own_bit a10) (ha20 : own_bit a20) (ha21 : own_bit a21) : ((a01 + a02) + (a10 + a12) + (a20 + a21)) = a01 + a02 + a10 + a12 + a20 + a21 := by
  rcases ha01 with rfl | rfl <;> rcases ha02 with rfl | rfl <;> rcases ha12 with rfl | rfl <;> rcases ha10 with rfl | rfl <;> rcases ha20 with rfl | rfl <;> rcases ha21 with rfl | rfl <;> decide
theorem own_fin0 (a01 a02 a12 : Int32) (ha01 : own_bit a01) (ha02 : own_bit a02) (ha12 : own_bit a12) : ((a01 + a02) + (a01 + a12) + (a02 + a12)) / 2 = a01 + a02 + a12 := by
  rcases ha01 with rfl | rfl <;> rcases ha02 with rfl | rfl <;> rcases ha12 with rfl | rfl <;> decide
theorem own_it0 (a01 a02 a12 a10 a20 a21 : Int32) (ha01 : own_bit a01) (ha02 : own_bit a02) (ha12 : own_bit a12) (ha10 : own_bit a10) (ha20 : own_bit a20) (ha21 : own_bit a21) (h1 : a01 = 1) : ¬ (0 : Int32) < 0 ∧ (0 : Int32).toNatClampNeg < ((a01 + a02) + (a10 + a12) + (a20 + a21)).toNatClampNeg := by
  subst h1
  rcases ha02 with rfl | rfl <;> rcases ha12 with rfl | rfl <;> rcases ha10 with rfl | rfl <;> rcases ha20 with rfl | rfl <;> rcases ha21 with rfl | rfl <;> decide
theorem own_it1 (a01 a02 a12 a10 a20 a21 : Int32) (ha01 : own_bit a01) (ha02 : own_bit a02) (ha12 : own_bit a12) (ha10 : own_bit a10) (ha20 : own_bit a20) (ha21 : own_bit a21) (h1 : a02 = 1) : ¬ ((0 : Int32) + a01) < 0 ∧ ((0 : Int32) + a01).toNatClampNeg < ((a01 + a02) + (a10 + a12) + (a20 + a21)).toNatClampNeg := by
  subst h1
  rcases ha01 with rfl | rfl <;> rcases ha12 with rfl | rfl <;> rcases ha10 with rfl | rfl <;> rcases ha20 with rfl | rfl <;> rcases ha21 with rfl | rfl <;> decide
theorem own_it2 (a01 a02 a12 a10 a20 a21 : Int32) (ha01 : own_bit a01) (ha02 : own_bit a02) (ha12 : own_bit a12) (ha10 : own_bit a10) (ha20 : own_bit a20) (ha21 : own_bit a21) (h1 : a10 = 1) : ¬ (((0 : Int32) + a01) + a02) < 0 ∧ (((0 : Int32) + a01) + a02).toNatClampNeg < ((a01 + a02) + (a10 + a12) + (a20 + a21)).toNatClampNeg := by
  subst h1
  rcases ha01 with rfl | rfl <;> rcases ha02 with rfl | rfl <;> rcases ha12 with rfl | rfl <;> rcases ha20 with rfl | rfl <;> rcases ha21 with rfl | rfl <;> decide
theorem own_it3 (a01 a02 a12 a10 a20 a21 : Int32) (ha01 : own_bit a01) (ha02 : own_bit a02) (ha12 : own_bit a12) (ha10 : own_bit a10) (ha20 : own_bit a20) (ha21 : own_bit a21) (h1 : a12 = 1) : ¬ ((((0 : Int32) + a01) + a02) + a10) < 0 ∧ ((((0 : Int32) + a01) + a02) + a10).toNatClampNeg < ((a01 + a02) + (a10 + a12) + (a20 + a21)).toNatClampNeg := by
  subst h1
  rcases ha01 with rfl | rfl <;> rcases ha02 with rfl | rfl <;> rcases ha10 with rfl | rfl <;> rcases ha20 with rfl | rfl <;> rcases ha21 with rfl | rfl <;> decide
theorem own_it4 (a01 a02 a12 a10 a20 a21 : Int32) (ha01 : own_bit a01) (ha02 : own_bit a02) (ha12 : own_bit a12) (ha10 : own_bit a10) (ha20 : own_bit a20) (ha21 : own_bit a21) (h1 : a20 = 1) : ¬ (((((0 : Int32) + a01) + a02) + a10) + a12) < 0 ∧ (((((0 : Int32) + a01) + a02) + a10) + a12).toNatClampNeg < ((a01 + a02) + (a10 + a12) + (a20 + a21)).toNatClampNeg := by
  subst h1
  rcases ha01 with rfl | rfl <;> rcases ha02 with rfl | rfl <;> rcases ha12 with rfl | rfl <;> rcases ha10 with rfl | rfl <;> rcases ha21 with rfl | rfl <;> decide
theorem own_it5 (a01 a02 a12 a10 a20 a21 : Int32) (ha01 : own_bit a01) (ha02 : own_bit a02) (ha12 : own_bit a12) (ha10 : own_bit a10) (ha20 : own_bit a20) (ha21 : own_bit a21) (h1 : a21 = 1) : ¬ ((((((0 : Int32) + a01) + a02) + a10) + a12) + a20) < 0 ∧ ((((((0 : Int32) + a01) + a02) + a10) + a12) + a20).toNatClampNeg < ((a01 + a02) + (a10 + a12) + (a20 + a21)).toNatClampNeg := by
  subst h1
  rcases ha01 with rfl | rfl <;> rcases ha02 with rfl | rfl <;> rcases ha12 with rfl | rfl <;> rcases ha10 with rfl | rfl <;> rcases ha20 with rfl | rfl <;> decide
theorem own_iu0 (a01 a02 a12 a10 a20 a21 : Int32) (ha01 : own_bit a01) (ha02 : own_bit a02) (ha12 : own_bit a12) (ha10 : own_bit a10) (ha20 : own_bit a20) (ha21 : own_bit a21) (h1 : a10 = 1) : ¬ (0 : Int32) < 0 ∧ (0 : Int32).toNatClampNeg < ((a01 + a02) + (a10 + a12) + (a20 + a21)).toNatClampNeg := by
  subst h1
  rcases ha01 with rfl | rfl <;> rcases ha02 with rfl | rfl <;> rcases ha12 with rfl | rfl <;> rcases ha20 with rfl | rfl <;> rcases ha21 with rfl | rfl <;> decide
theorem own_iu1 (a01 a02 a12 a10 a20 a21 : Int32) (ha01 : own_bit a01) (ha02 : own_bit a02) (ha12 : own_bit a12) (ha10 : own_bit a10) (ha20 : own_bit a20) (ha21 : own_bit a21) (h1 : a20 = 1) : ¬ ((0 : Int32) + a10) < 0 ∧ ((0 : Int32) + a10).toNatClampNeg < ((a01 + a02) + (a10 + a12) + (a20 + a21)).toNatClampNeg := by
  subst h1
  rcases ha01 with rfl | rfl <;> rcases ha02 with rfl | rfl <;> rcases ha12 with rfl | rfl <;> rcases ha10 with rfl | rfl <;> rcases ha21 with rfl | rfl <;> decide
theorem own_iu2 (a01 a02 a12 a10 a20 a21 : Int32) (ha01 : own_bit a01) (ha02 : own_bit a02) (ha12 : own_bit a12) (ha10 : own_bit a10) (ha20 : own_bit a20) (ha21 : own_bit a21) (h1 : a01 = 1) : ¬ (((0 : Int32) + a10) + a20) < 0 ∧ (((0 : Int32) + a10) + a20).toNatClampNeg < ((a01 + a02) + (a10 + a12) + (a20 + a21)).toNatClampNeg := by
  subst h1
  rcases ha02 with rfl | rfl <;> rcases ha12 with rfl | rfl <;> rcases ha10 with rfl | rfl <;> rcases ha20 with rfl | rfl <;> rcases ha21 with rfl | rfl <;> decide
theorem own_iu3 (a01 a02 a12 a10 a20 a21 : Int32) (ha01 : own_bit a01) (ha02 : own_bit a02) (ha12 : own_bit a12) (ha10 : own_bit a10) (ha20 : own_bit a20) (ha21 : own_bit a21) (h1 : a21 = 1) : ¬ ((((0 : Int32) + a10) + a20) + a01) < 0 ∧ ((((0 : Int32) + a10) + a20) + a01).toNatClampNeg < ((a01 + a02) + (a10 + a12) + (a20 + a21)).toNatClampNeg := by
  subst h1
  rcases ha01 with rfl | rfl <;> rcases ha02 with rfl | rfl <;> rcases ha12 with rfl | rfl <;> rcases ha10 with rfl | rfl <;> rcases ha20 with rfl | rfl <;> decide
theorem own_iu4 (a01 a02 a12 a10 a20 a21 : Int32) (ha01 : own_bit a01) (ha02 : own_bit a02) (ha12 : own_bit a12) (ha10 : own_bit a10) (ha20 : own_bit a20) (ha21 : own_bit a21) (h1 : a02 = 1) : ¬ (((((0 : Int32) + a10) + a20) + a01) + a21) < 0 ∧ (((((0 : Int32) + a10) + a20) + a01) + a21).toNatClampNeg < ((a01 + a02) + (a10 + a12) + (a20 + a21)).toNatClampNeg := by
  subst h1
  rcases ha01 with rfl | rfl <;> rcases ha12 with rfl | rfl <;> rcases ha10 with rfl | rfl <;> rcases ha20 with rfl | rfl <;> rcases ha21 with rfl | rfl <;> decide
theorem own_iu5 (a01 a02 a12 a10 a20 a21 : Int32) (ha01 : own_bit a01) (ha02 : own_bit a02) (ha12 : own_bit a12) (ha10 : own_bit a10) (ha20 : own_bit a20) (ha21 : own_bit a21) (h1 : a12 = 1) : ¬ ((((((0 : Int32) + a10) + a20) + a01) + a21) + a02) < 0 ∧ ((((((0 : Int32) + a10) + a20) + a01) + a21) + a02).toNatClampNeg < ((a01 + a02) + (a10 + a12) + (a20 + a21)).toNatClampNeg := by
  subst h1
  rcases ha01 with rfl | rfl <;> rcases ha02 with rfl | rfl <;> rcases ha10 with rfl | rfl <;> rcases ha20 with rfl | rfl <;> rcases ha21 with rfl | rfl <;> decide
theorem own_not1 {a : Int32} (h : own_bit a) (q : ¬ a = 1) : a = 0 := h.resolve_right q
set_option maxRecDepth 65536 in
set_option maxHeartbeats 40000000 in
theorem v484_0 (l : Launch) (Z : State) (a0 : Array Value) (hw : ∀ d ∈ tables_1, d.before a0 Z = true) (p0 p1 n a01 a02 a12 a10 a20 a21 c0 c1 c2 tot l4 l5 k : Int32) (b16 b17 b18  : Addr) (ls os : List Value) (h : Heap) (n0 : Nat) (ha01 : own_bit a01) (ha02 : own_bit a02) (ha12 : own_bit a12) (ha10 : own_bit a10) (ha20 : own_bit a20) (ha21 : own_bit a21) (htot : tot = ((a01 + a02) + (a10 + a12) + (a20 + a21))) (hn3 : n = 0 ∨ n = 1 ∨ n = 2 ∨ n = 3) (hls : ls.length.toInt32 = n) (hos : os[n.toNatClampNeg]? = some (.int tot)) (hun : a10 = a01 ∧ a20 = a02 ∧ a21 = a12) (A16 : Ary Z h b16 .long ls) (A17 : Ary Z h b17 .int os) : W l room_1 Z "com/example/eccentra/eccentra/GraphEdgeCountPinLaw" "law" code maxLocals ret n0 (fun r _ => r = some (.int 1)) h 5 40 484 #[.val (.int p0), .val (.int p1), .val (.int n), .val (.int (0 : Int32)), .val (.int l4), .val (.int l5), .val (.int a01), .val (.int a02), .val (.int a12), .val (.int a10), .val (.int a20), .val (.int a21), .val (.int c0), .val (.int c1), .val (.int c2), .val (.int tot), .val (.ref b16), .val (.ref b17), .val (.ref b18), .val (.int k), .val (.ref b17), .val (.ref b18), .unset, .unset, .unset] [] := by
  have hn0 : ¬ n < 0 := by rcases hn3 with rfl | rfl | rfl | rfl <;> decide
  have hu : (tot / (2 : Int32)) = ((a01 + a02) + a12) := by rw [htot]; obtain ⟨rfl, rfl, rfl⟩ := hun; exact own_fin0 _ _ _ ha01 ha02 ha12
  refine W.new 487 at_484 rfl (wd_6 hw) (wd_7 hw) (wd_8 hw) (by decide) (by decide) ?_
  intro h1041 o1041 g1041 ge1041 X1041 K1041 E1041 D1041
  have ne1042 : b16 ≠ o1041 := Nat.ne_of_lt (Nat.lt_of_lt_of_eq A16.lt g1041.symm)
  have ne1043 : b17 ≠ o1041 := Nat.ne_of_lt (Nat.lt_of_lt_of_eq A17.lt g1041.symm)
  have f1044 : Fld _ _ o1041 "com/example/eccentra/eccentra/Graph" "labels" "[J" .null := D1041 (Or.inr (wd_16 hw)) (ty := (.array .long)) (by decide)
  have f1045 : Fld _ _ o1041 "com/example/eccentra/eccentra/Graph" "directed" "Z" (.int (0 : Int32)) := D1041 (Or.inr (wd_18 hw)) (ty := .boolean) (by decide)
  have f1046 : Fld _ _ o1041 "com/example/eccentra/eccentra/Graph" "outOffsets" "[I" .null := D1041 (Or.inr (wd_20 hw)) (ty := (.array .int)) (by decide)
  have f1047 : Fld _ _ o1041 "com/example/eccentra/eccentra/Graph" "outTargets" "[I" .null := D1041 (Or.inr (wd_22 hw)) (ty := (.array .int)) (by decide)
  have f1048 : Fld _ _ o1041 "com/example/eccentra/eccentra/Graph" "inOffsets" "[I" .null := D1041 (Or.inr (wd_24 hw)) (ty := (.array .int)) (by decide)
  have f1049 : Fld _ _ o1041 "com/example/eccentra/eccentra/Graph" "inSources" "[I" .null := D1041 (Or.inr (wd_26 hw)) (ty := (.array .int)) (by decide)
  show W _ _ _ _ _ _ _ _ _ _ _ 6 46 487 #[.val (.int p0), .val (.int p1), .val (.int n), .val (.int (0 : Int32)), .val (.int l4), .val (.int l5), .val (.int a01), .val (.int a02), .val (.int a12), .val (.int a10), .val (.int a20), .val (.int a21), .val (.int c0), .val (.int c1), .val (.int c2), .val (.int tot), .val (.ref b16), .val (.ref b17), .val (.ref b18), .val (.int k), .val (.ref b17), .val (.ref b18), .unset, .unset, .unset] [(.ref o1041)]
  refine W.dup 488 at_487 rfl rfl ?_
  refine W.aload 490 at_488 rfl rfl rfl ?_
  refine W.iloadN 491 at_490 rfl rfl ?_
  refine W.aload 493 at_491 rfl rfl rfl ?_
  refine W.aload 495 at_493 rfl rfl rfl ?_
  refine W.aload 497 at_495 rfl rfl rfl ?_
  refine W.aload 499 at_497 rfl rfl rfl ?_
  refine W.callInit (rest := [(.ref o1041)]) (argsL := [(.ref b16), (.int (0 : Int32)), (.ref b17), (.ref b18), (.ref b17), (.ref b18)]) (a := o1041) 502 at_499 rfl (fun hn => c_ctor0 l Z a0 hw o1041 b16 b17 b18 b17 b18 _ n0 hn ge1041 E1041 f1044 f1045 f1046 f1047 f1048 f1049) rfl (wd_9 hw) (wd_10 hw) (wd_8 hw) (wd_11 hw) (by decide) pd_0 rfl rfl rfl (by decide) 1 (Nat.le_of_ble_eq_true rfl) (by decide) (by decide) (by decide) ?_
  rintro v1050 h1050 ⟨rfl, E1050, K1050, G01050, G11050, G21050⟩
  show W _ _ _ _ _ _ _ _ _ _ _ 6 46 502 #[.val (.int p0), .val (.int p1), .val (.int n), .val (.int (0 : Int32)), .val (.int l4), .val (.int l5), .val (.int a01), .val (.int a02), .val (.int a12), .val (.int a10), .val (.int a20), .val (.int a21), .val (.int c0), .val (.int c1), .val (.int c2), .val (.int tot), .val (.ref b16), .val (.ref b17), .val (.ref b18), .val (.int k), .val (.ref b17), .val (.ref b18), .unset, .unset, .unset] [(.ref o1041)]
  refine W.astore 504 at_502 rfl rfl #[.val (.int p0), .val (.int p1), .val (.int n), .val (.int (0 : Int32)), .val (.int l4), .val (.int l5), .val (.int a01), .val (.int a02), .val (.int a12), .val (.int a10), .val (.int a20), .val (.int a21), .val (.int c0), .val (.int c1), .val (.int c2), .val (.int tot), .val (.ref b16), .val (.ref b17), .val (.ref b18), .val (.int k), .val (.ref b17), .val (.ref b18), .val (.ref o1041), .unset, .unset] rfl ?_
  refine W.iloadN 505 at_504 rfl rfl ?_
  refine W.if_eq 528 508 at_505 rfl rfl (fun _ => ?_) (fun hc => absurd (by decide) hc)
  refine W.iload 530 at_528 rfl rfl ?_
  refine W.iload 532 at_530 rfl rfl ?_
  refine W.iadd 533 at_532 rfl (a01 + a02) rfl ?_
  refine W.iload 535 at_533 rfl rfl ?_
  refine W.iadd 536 at_535 rfl ((a01 + a02) + a12) rfl ?_
  refine W.istore 538 at_536 rfl #[.val (.int p0), .val (.int p1), .val (.int n), .val (.int (0 : Int32)), .val (.int l4), .val (.int l5), .val (.int a01), .val (.int a02), .val (.int a12), .val (.int a10), .val (.int a20), .val (.int a21), .val (.int c0), .val (.int c1), .val (.int c2), .val (.int tot), .val (.ref b16), .val (.ref b17), .val (.ref b18), .val (.int k), .val (.ref b17), .val (.ref b18), .val (.ref o1041), .val (.int ((a01 + a02) + a12)), .unset] rfl ?_
  refine W.aload 540 at_538 rfl rfl rfl ?_
  have q1051 := ((A16.keep K1041 nin0).keep K1050 (ninS ne1042 nin0))
  have q1052 := ((A17.keep K1041 nin0).keep K1050 (ninS ne1043 nin0))
  refine W.callV (rest := []) (argsL := []) (a := o1041) 543 at_540 rfl (fun hn => c_ec0 l Z a0 hw o1041 b16 b17 n tot _ _ _ n0 hn G01050 G11050 G21050 q1051 q1052 hls hn0 hos) E1050 (wd_27 hw) (wd_28 hw) (wd_30 hw) rfl (wd_29 hw) (wd_8 hw) (wd_31 hw) (by decide) pd_1 rfl rfl rfl (by decide) 0 (Nat.le_of_ble_eq_true rfl) (by decide) (by decide) (by decide) ?_
  rintro v1053 h1053 ⟨rfl, rfl⟩
  show W _ _ _ _ _ _ _ _ _ _ _ 6 46 543 #[.val (.int p0), .val (.int p1), .val (.int n), .val (.int (0 : Int32)), .val (.int l4), .val (.int l5), .val (.int a01), .val (.int a02), .val (.int a12), .val (.int a10), .val (.int a20), .val (.int a21), .val (.int c0), .val (.int c1), .val (.int c2), .val (.int tot), .val (.ref b16), .val (.ref b17), .val (.ref b18), .val (.int k), .val (.ref b17), .val (.ref b18), .val (.ref o1041), .val (.int ((a01 + a02) + a12)), .unset] [(.int (tot / (2 : Int32)))]
  refine W.iload 545 at_543 rfl rfl ?_
  refine W.icmp_ne 552 548 at_545 rfl rfl (fun hc => absurd hu hc) (fun _ => ?_)
  refine W.iconst 549 at_548 rfl (1 : Int32) rfl ?_
  refine W.goto 553 at_549 rfl ?_
  exact W.ireturnN (t := .boolean) at_553 rfl (by simp) (1 : Int32) rfl rfl (by decide) (by decide)
set_option maxRecDepth 65536 in
set_option maxHeartbeats 40000000 in
theorem v484_1 (l : Launch) (Z : State) (a0 : Array Value) (hw : ∀ d ∈ tables_1, d.before a0 Z = true) (p0 p1 n a01 a02 a12 a10 a20 a21 c0 c1 c2 tot l4 l5 k l22 l23 l24 : Int32) (b16 b17 b18 b20 b21 : Addr) (ls os : List Value) (h : Heap) (n0 : Nat) (ha01 : own_bit a01) (ha02 : own_bit a02) (ha12 : own_bit a12) (ha10 : own_bit a10) (ha20 : own_bit a20) (ha21 : own_bit a21) (htot : tot = ((a01 + a02) + (a10 + a12) + (a20 + a21))) (hn3 : n = 0 ∨ n = 1 ∨ n = 2 ∨ n = 3) (hls : ls.length.toInt32 = n) (hos : os[n.toNatClampNeg]? = some (.int tot))  (A16 : Ary Z h b16 .long ls) (A17 : Ary Z h b17 .int os) : W l room_1 Z "com/example/eccentra/eccentra/GraphEdgeCountPinLaw" "law" code maxLocals ret n0 (fun r _ => r = some (.int 1)) h 5 40 484 #[.val (.int p0), .val (.int p1), .val (.int n), .val (.int (1 : Int32)), .val (.int l4), .val (.int l5), .val (.int a01), .val (.int a02), .val (.int a12), .val (.int a10), .val (.int a20), .val (.int a21), .val (.int c0), .val (.int c1), .val (.int c2), .val (.int tot), .val (.ref b16), .val (.ref b17), .val (.ref b18), .val (.int k), .val (.ref b20), .val (.ref b21), .val (.int l22), .val (.int l23), .val (.int l24)] [] := by
  have hn0 : ¬ n < 0 := by rcases hn3 with rfl | rfl | rfl | rfl <;> decide
  refine W.new 487 at_484 rfl (wd_6 hw) (wd_7 hw) (wd_8 hw) (by decide) (by decide) ?_
  intro h1054 o1054 g1054 ge1054 X1054 K1054 E1054 D1054
  have ne1055 : b16 ≠ o1054 := Nat.ne_of_lt (Nat.lt_of_lt_of_eq A16.lt g1054.symm)
  have ne1056 : b17 ≠ o1054 := Nat.ne_of_lt (Nat.lt_of_lt_of_eq A17.lt g1054.symm)
  have f1057 : Fld _ _ o1054 "com/example/eccentra/eccentra/Graph" "labels" "[J" .null := D1054 (Or.inr (wd_16 hw)) (ty := (.array .long)) (by decide)
  have f1058 : Fld _ _ o1054 "com/example/eccentra/eccentra/Graph" "directed" "Z" (.int (0 : Int32)) := D1054 (Or.inr (wd_18 hw)) (ty := .boolean) (by decide)
  have f1059 : Fld _ _ o1054 "com/example/eccentra/eccentra/Graph" "outOffsets" "[I" .null := D1054 (Or.inr (wd_20 hw)) (ty := (.array .int)) (by decide)
  have f1060 : Fld _ _ o1054 "com/example/eccentra/eccentra/Graph" "outTargets" "[I" .null := D1054 (Or.inr (wd_22 hw)) (ty := (.array .int)) (by decide)
  have f1061 : Fld _ _ o1054 "com/example/eccentra/eccentra/Graph" "inOffsets" "[I" .null := D1054 (Or.inr (wd_24 hw)) (ty := (.array .int)) (by decide)
  have f1062 : Fld _ _ o1054 "com/example/eccentra/eccentra/Graph" "inSources" "[I" .null := D1054 (Or.inr (wd_26 hw)) (ty := (.array .int)) (by decide)
  show W _ _ _ _ _ _ _ _ _ _ _ 6 46 487 #[.val (.int p0), .val (.int p1), .val (.int n), .val (.int (1 : Int32)), .val (.int l4), .val (.int l5), .val (.int a01), .val (.int a02), .val (.int a12), .val (.int a10), .val (.int a20), .val (.int a21), .val (.int c0), .val (.int c1), .val (.int c2), .val (.int tot), .val (.ref b16), .val (.ref b17), .val (.ref b18), .val (.int k), .val (.ref b20), .val (.ref b21), .val (.int l22), .val (.int l23), .val (.int l24)] [(.ref o1054)]
  refine W.dup 488 at_487 rfl rfl ?_
  refine W.aload 490 at_488 rfl rfl rfl ?_
  refine W.iloadN 491 at_490 rfl rfl ?_
  refine W.aload 493 at_491 rfl rfl rfl ?_
  refine W.aload 495 at_493 rfl rfl rfl ?_
  refine W.aload 497 at_495 rfl rfl rfl ?_
  refine W.aload 499 at_497 rfl rfl rfl ?_
  refine W.callInit (rest := [(.ref o1054)]) (argsL := [(.ref b16), (.int (1 : Int32)), (.ref b17), (.ref b18), (.ref b20), (.ref b21)]) (a := o1054) 502 at_499 rfl (fun hn => c_ctor1 l Z a0 hw o1054 b16 b17 b18 b20 b21 _ n0 hn ge1054 E1054 f1057 f1058 f1059 f1060 f1061 f1062) rfl (wd_9 hw) (wd_10 hw) (wd_8 hw) (wd_11 hw) (by decide) pd_0 rfl rfl rfl (by decide) 1 (Nat.le_of_ble_eq_true rfl) (by decide) (by decide) (by decide) ?_
  rintro v1063 h1063 ⟨rfl, E1063, K1063, G01063, G11063, G21063⟩
  show W _ _ _ _ _ _ _ _ _ _ _ 6 46 502 #[.val (.int p0), .val (.int p1), .val (.int n), .val (.int (1 : Int32)), .val (.int l4), .val (.int l5), .val (.int a01), .val (.int a02), .val (.int a12), .val (.int a10), .val (.int a20), .val (.int a21), .val (.int c0), .val (.int c1), .val (.int c2), .val (.int tot), .val (.ref b16), .val (.ref b17), .val (.ref b18), .val (.int k), .val (.ref b20), .val (.ref b21), .val (.int l22), .val (.int l23), .val (.int l24)] [(.ref o1054)]
  refine W.astore 504 at_502 rfl rfl #[.val (.int p0), .val (.int p1), .val (.int n), .val (.int (1 : Int32)), .val (.int l4), .val (.int l5), .val (.int a01), .val (.int a02), .val (.int a12), .val (.int a10), .val (.int a20), .val (.int a21), .val (.int c0), .val (.int c1), .val (.int c2), .val (.int tot), .val (.ref b16), .val (.ref b17), .val (.ref b18), .val (.int k), .val (.ref b20), .val (.ref b21), .val (.ref o1054), .val (.int l23), .val (.int l24)] rfl ?_
  refine W.iloadN 505 at_504 rfl rfl ?_
  refine W.if_eq 528 508 at_505 rfl rfl (fun hc => absurd hc (by decide)) (fun _ => ?_)
  refine W.iload 510 at_508 rfl rfl ?_
  refine W.iload 512 at_510 rfl rfl ?_
  refine W.iadd 513 at_512 rfl (a01 + a02) rfl ?_
  refine W.iload 515 at_513 rfl rfl ?_
  refine W.iadd 516 at_515 rfl ((a01 + a02) + a10) rfl ?_
  refine W.iload 518 at_516 rfl rfl ?_
  refine W.iadd 519 at_518 rfl (((a01 + a02) + a10) + a12) rfl ?_
  refine W.iload 521 at_519 rfl rfl ?_
  refine W.iadd 522 at_521 rfl ((((a01 + a02) + a10) + a12) + a20) rfl ?_
  refine W.iload 524 at_522 rfl rfl ?_
  refine W.iadd 525 at_524 rfl (((((a01 + a02) + a10) + a12) + a20) + a21) rfl ?_
  refine W.goto 536 at_525 rfl ?_
  refine W.istore 538 at_536 rfl #[.val (.int p0), .val (.int p1), .val (.int n), .val (.int (1 : Int32)), .val (.int l4), .val (.int l5), .val (.int a01), .val (.int a02), .val (.int a12), .val (.int a10), .val (.int a20), .val (.int a21), .val (.int c0), .val (.int c1), .val (.int c2), .val (.int tot), .val (.ref b16), .val (.ref b17), .val (.ref b18), .val (.int k), .val (.ref b20), .val (.ref b21), .val (.ref o1054), .val (.int (((((a01 + a02) + a10) + a12) + a20) + a21)), .val (.int l24)] rfl ?_
  refine W.aload 540 at_538 rfl rfl rfl ?_
  have q1064 := ((A16.keep K1054 nin0).keep K1063 (ninS ne1055 nin0))
  have q1065 := ((A17.keep K1054 nin0).keep K1063 (ninS ne1056 nin0))
  refine W.callV (rest := []) (argsL := []) (a := o1054) 543 at_540 rfl (fun hn => c_ec1 l Z a0 hw o1054 b16 b17 n tot _ _ _ n0 hn G01063 G11063 G21063 q1064 q1065 hls hn0 hos) E1063 (wd_27 hw) (wd_28 hw) (wd_30 hw) rfl (wd_29 hw) (wd_8 hw) (wd_31 hw) (by decide) pd_1 rfl rfl rfl (by decide) 0 (Nat.le_of_ble_eq_true rfl) (by decide) (by decide) (by decide) ?_
  rintro v1066 h1066 ⟨rfl, rfl⟩
  show W _ _ _ _ _ _ _ _ _ _ _ 6 46 543 #[.val (.int p0), .val (.int p1), .val (.int n), .val (.int (1 : Int32)), .val (.int l4), .val (.int l5), .val (.int a01), .val (.int a02), .val (.int a12), .val (.int a10), .val (.int a20), .val (.int a21), .val (.int c0), .val (.int c1), .val (.int c2), .val (.int tot), .val (.ref b16), .val (.ref b17), .val (.ref b18), .val (.int k), .val (.ref b20), .val (.ref b21), .val (.ref o1054), .val (.int (((((a01 + a02) + a10) + a12) + a20) + a21)), .val (.int l24)] [(.int tot)]
  refine W.iload 545 at_543 rfl rfl ?_
  refine W.icmp_ne 552 548 at_545 rfl rfl (fun hc => absurd (htot.trans (own_fin1 _ _ _ _ _ _ ha01 ha02 ha12 ha10 ha20 ha21)) hc) (fun _ => ?_)
  refine W.iconst 549 at_548 rfl (1 : Int32) rfl ?_
  refine W.goto 553 at_549 rfl ?_
  exact W.ireturnN (t := .boolean) at_553 rfl (by simp) (1 : Int32) rfl rfl (by decide) (by decide)
theorem own_add0 (x : Int32) : x + 0 = x := by simp
set_option maxRecDepth 65536 in
set_option maxHeartbeats 40000000 in
theorem u_473 (l : Launch) (Z : State) (a0 : Array Value) (hw : ∀ d ∈ tables_1, d.before a0 Z = true) (p0 p1 n a01 a02 a12 a10 a20 a21 c0 c1 c2 tot l4 l5 k l22 l23 q : Int32) (b16 b17 b18 b20 b21 : Addr) (ls os ts : List Value) (h : Heap) (n0 : Nat) (ha01 : own_bit a01) (ha02 : own_bit a02) (ha12 : own_bit a12) (ha10 : own_bit a10) (ha20 : own_bit a20) (ha21 : own_bit a21) (htot : tot = ((a01 + a02) + (a10 + a12) + (a20 + a21))) (hn3 : n = 0 ∨ n = 1 ∨ n = 2 ∨ n = 3) (hls : ls.length.toInt32 = n) (hos : os[n.toNatClampNeg]? = some (.int tot)) (A16 : Ary Z h b16 .long ls) (A17 : Ary Z h b17 .int os) (A21 : Ary Z h b21 .int ts) (hts : ts.length = tot.toNatClampNeg) (g21 : n0 ≤ b21) (n1 : b16 ≠ b21) (n2 : b17 ≠ b21) (hq : q = (((((((0 : Int32) + a10) + a20) + a01) + a21) + a02) + a12)) : W l room_1 Z "com/example/eccentra/eccentra/GraphEdgeCountPinLaw" "law" code maxLocals ret n0 (fun r _ => r = some (.int 1)) h 5 40 473 #[.val (.int p0), .val (.int p1), .val (.int n), .val (.int (1 : Int32)), .val (.int l4), .val (.int l5), .val (.int a01), .val (.int a02), .val (.int a12), .val (.int a10), .val (.int a20), .val (.int a21), .val (.int c0), .val (.int c1), .val (.int c2), .val (.int tot), .val (.ref b16), .val (.ref b17), .val (.ref b18), .val (.int k), .val (.ref b20), .val (.ref b21), .val (.int l22), .val (.int l23), .val (.int q)] [] := by
  refine W.goto 484 at_473 rfl ?_
  exact v484_1 l Z a0 hw p0 p1 n a01 a02 a12 a10 a20 a21 c0 c1 c2 tot l4 l5 k l22 l23 q b16 b17 b18 b20 b21 ls os _ n0 ha01 ha02 ha12 ha10 ha20 ha21 htot hn3 hls hos A16 A17
set_option maxRecDepth 65536 in
set_option maxHeartbeats 40000000 in
theorem u_458 (l : Launch) (Z : State) (a0 : Array Value) (hw : ∀ d ∈ tables_1, d.before a0 Z = true) (p0 p1 n a01 a02 a12 a10 a20 a21 c0 c1 c2 tot l4 l5 k l22 l23 q : Int32) (b16 b17 b18 b20 b21 : Addr) (ls os ts : List Value) (h : Heap) (n0 : Nat) (ha01 : own_bit a01) (ha02 : own_bit a02) (ha12 : own_bit a12) (ha10 : own_bit a10) (ha20 : own_bit a20) (ha21 : own_bit a21) (htot : tot = ((a01 + a02) + (a10 + a12) + (a20 + a21))) (hn3 : n = 0 ∨ n = 1 ∨ n = 2 ∨ n = 3) (hls : ls.length.toInt32 = n) (hos : os[n.toNatClampNeg]? = some (.int tot)) (A16 : Ary Z h b16 .long ls) (A17 : Ary Z h b17 .int os) (A21 : Ary Z h b21 .int ts) (hts : ts.length = tot.toNatClampNeg) (g21 : n0 ≤ b21) (n1 : b16 ≠ b21) (n2 : b17 ≠ b21) (hq : q = ((((((0 : Int32) + a10) + a20) + a01) + a21) + a02)) : W l room_1 Z "com/example/eccentra/eccentra/GraphEdgeCountPinLaw" "law" code maxLocals ret n0 (fun r _ => r = some (.int 1)) h 5 40 458 #[.val (.int p0), .val (.int p1), .val (.int n), .val (.int (1 : Int32)), .val (.int l4), .val (.int l5), .val (.int a01), .val (.int a02), .val (.int a12), .val (.int a10), .val (.int a20), .val (.int a21), .val (.int c0), .val (.int c1), .val (.int c2), .val (.int tot), .val (.ref b16), .val (.ref b17), .val (.ref b18), .val (.int k), .val (.ref b20), .val (.ref b21), .val (.int l22), .val (.int l23), .val (.int q)] [] := by
  refine W.iload 460 at_458 rfl rfl ?_
  refine W.iconst 461 at_460 rfl (1 : Int32) rfl ?_
  refine W.icmp_ne 473 464 at_461 rfl rfl ?_ ?_
  · intro hc1067
    exact u_473 l Z a0 hw p0 p1 n a01 a02 a12 a10 a20 a21 c0 c1 c2 tot l4 l5 k l22 l23 q b16 b17 b18 b20 b21 ls os _ _ n0 ha01 ha02 ha12 ha10 ha20 ha21 htot hn3 hls hos A16 A17 A21 hts g21 n1 n2 (by rw [hq, own_not1 ha12 hc1067]; exact (own_add0 _).symm)
  · intro hc1067
    refine W.aload 466 at_464 rfl rfl rfl ?_
    refine W.iload 468 at_466 rfl rfl ?_
    refine W.iconst 469 at_468 rfl (1 : Int32) rfl ?_
    have hi1069 := own_iu5 _ _ _ _ _ _ ha01 ha02 ha12 ha10 ha20 ha21 hc1067
    rw [← htot] at hi1069
    refine W.iastore 470 at_469 rfl A21 q.toNatClampNeg rfl (by rw [hq]; exact hi1069.1) (by rw [hts, hq]; exact hi1069.2) g21 ?_
    intro h1068 W1068 K1068 A1068
    refine W.iinc 473 at_470 rfl rfl (q + (1 : Int32)) rfl #[.val (.int p0), .val (.int p1), .val (.int n), .val (.int (1 : Int32)), .val (.int l4), .val (.int l5), .val (.int a01), .val (.int a02), .val (.int a12), .val (.int a10), .val (.int a20), .val (.int a21), .val (.int c0), .val (.int c1), .val (.int c2), .val (.int tot), .val (.ref b16), .val (.ref b17), .val (.ref b18), .val (.int k), .val (.ref b20), .val (.ref b21), .val (.int l22), .val (.int l23), .val (.int (q + (1 : Int32)))] rfl ?_
    have q1070 := (A16.keep K1068 (ninS n1 nin0))
    have q1071 := (A17.keep K1068 (ninS n2 nin0))
    exact u_473 l Z a0 hw p0 p1 n a01 a02 a12 a10 a20 a21 c0 c1 c2 tot l4 l5 k l22 l23 (q + (1 : Int32)) b16 b17 b18 b20 b21 ls os _ _ n0 ha01 ha02 ha12 ha10 ha20 ha21 htot hn3 hls hos q1070 q1071 A1068 (by rw [List.length_set]; exact hts) g21 n1 n2 (by rw [hq, hc1067])
set_option maxRecDepth 65536 in
set_option maxHeartbeats 40000000 in
theorem u_443 (l : Launch) (Z : State) (a0 : Array Value) (hw : ∀ d ∈ tables_1, d.before a0 Z = true) (p0 p1 n a01 a02 a12 a10 a20 a21 c0 c1 c2 tot l4 l5 k l22 l23 q : Int32) (b16 b17 b18 b20 b21 : Addr) (ls os ts : List Value) (h : Heap) (n0 : Nat) (ha01 : own_bit a01) (ha02 : own_bit a02) (ha12 : own_bit a12) (ha10 : own_bit a10) (ha20 : own_bit a20) (ha21 : own_bit a21) (htot : tot = ((a01 + a02) + (a10 + a12) + (a20 + a21))) (hn3 : n = 0 ∨ n = 1 ∨ n = 2 ∨ n = 3) (hls : ls.length.toInt32 = n) (hos : os[n.toNatClampNeg]? = some (.int tot)) (A16 : Ary Z h b16 .long ls) (A17 : Ary Z h b17 .int os) (A21 : Ary Z h b21 .int ts) (hts : ts.length = tot.toNatClampNeg) (g21 : n0 ≤ b21) (n1 : b16 ≠ b21) (n2 : b17 ≠ b21) (hq : q = (((((0 : Int32) + a10) + a20) + a01) + a21)) : W l room_1 Z "com/example/eccentra/eccentra/GraphEdgeCountPinLaw" "law" code maxLocals ret n0 (fun r _ => r = some (.int 1)) h 5 40 443 #[.val (.int p0), .val (.int p1), .val (.int n), .val (.int (1 : Int32)), .val (.int l4), .val (.int l5), .val (.int a01), .val (.int a02), .val (.int a12), .val (.int a10), .val (.int a20), .val (.int a21), .val (.int c0), .val (.int c1), .val (.int c2), .val (.int tot), .val (.ref b16), .val (.ref b17), .val (.ref b18), .val (.int k), .val (.ref b20), .val (.ref b21), .val (.int l22), .val (.int l23), .val (.int q)] [] := by
  refine W.iload 445 at_443 rfl rfl ?_
  refine W.iconst 446 at_445 rfl (1 : Int32) rfl ?_
  refine W.icmp_ne 458 449 at_446 rfl rfl ?_ ?_
  · intro hc1072
    exact u_458 l Z a0 hw p0 p1 n a01 a02 a12 a10 a20 a21 c0 c1 c2 tot l4 l5 k l22 l23 q b16 b17 b18 b20 b21 ls os _ _ n0 ha01 ha02 ha12 ha10 ha20 ha21 htot hn3 hls hos A16 A17 A21 hts g21 n1 n2 (by rw [hq, own_not1 ha02 hc1072]; exact (own_add0 _).symm)
  · intro hc1072
    refine W.aload 451 at_449 rfl rfl rfl ?_
    refine W.iload 453 at_451 rfl rfl ?_
    refine W.iconst 454 at_453 rfl (0 : Int32) rfl ?_
    have hi1074 := own_iu4 _ _ _ _ _ _ ha01 ha02 ha12 ha10 ha20 ha21 hc1072
    rw [← htot] at hi1074
    refine W.iastore 455 at_454 rfl A21 q.toNatClampNeg rfl (by rw [hq]; exact hi1074.1) (by rw [hts, hq]; exact hi1074.2) g21 ?_
    intro h1073 W1073 K1073 A1073
    refine W.iinc 458 at_455 rfl rfl (q + (1 : Int32)) rfl #[.val (.int p0), .val (.int p1), .val (.int n), .val (.int (1 : Int32)), .val (.int l4), .val (.int l5), .val (.int a01), .val (.int a02), .val (.int a12), .val (.int a10), .val (.int a20), .val (.int a21), .val (.int c0), .val (.int c1), .val (.int c2), .val (.int tot), .val (.ref b16), .val (.ref b17), .val (.ref b18), .val (.int k), .val (.ref b20), .val (.ref b21), .val (.int l22), .val (.int l23), .val (.int (q + (1 : Int32)))] rfl ?_
    have q1075 := (A16.keep K1073 (ninS n1 nin0))
    have q1076 := (A17.keep K1073 (ninS n2 nin0))
    exact u_458 l Z a0 hw p0 p1 n a01 a02 a12 a10 a20 a21 c0 c1 c2 tot l4 l5 k l22 l23 (q + (1 : Int32)) b16 b17 b18 b20 b21 ls os _ _ n0 ha01 ha02 ha12 ha10 ha20 ha21 htot hn3 hls hos q1075 q1076 A1073 (by rw [List.length_set]; exact hts) g21 n1 n2 (by rw [hq, hc1072])
set_option maxRecDepth 65536 in
set_option maxHeartbeats 40000000 in
theorem u_428 (l : Launch) (Z : State) (a0 : Array Value) (hw : ∀ d ∈ tables_1, d.before a0 Z = true) (p0 p1 n a01 a02 a12 a10 a20 a21 c0 c1 c2 tot l4 l5 k l22 l23 q : Int32) (b16 b17 b18 b20 b21 : Addr) (ls os ts : List Value) (h : Heap) (n0 : Nat) (ha01 : own_bit a01) (ha02 : own_bit a02) (ha12 : own_bit a12) (ha10 : own_bit a10) (ha20 : own_bit a20) (ha21 : own_bit a21) (htot : tot = ((a01 + a02) + (a10 + a12) + (a20 + a21))) (hn3 : n = 0 ∨ n = 1 ∨ n = 2 ∨ n = 3) (hls : ls.length.toInt32 = n) (hos : os[n.toNatClampNeg]? = some (.int tot)) (A16 : Ary Z h b16 .long ls) (A17 : Ary Z h b17 .int os) (A21 : Ary Z h b21 .int ts) (hts : ts.length = tot.toNatClampNeg) (g21 : n0 ≤ b21) (n1 : b16 ≠ b21) (n2 : b17 ≠ b21) (hq : q = ((((0 : Int32) + a10) + a20) + a01)) : W l room_1 Z "com/example/eccentra/eccentra/GraphEdgeCountPinLaw" "law" code maxLocals ret n0 (fun r _ => r = some (.int 1)) h 5 40 428 #[.val (.int p0), .val (.int p1), .val (.int n), .val (.int (1 : Int32)), .val (.int l4), .val (.int l5), .val (.int a01), .val (.int a02), .val (.int a12), .val (.int a10), .val (.int a20), .val (.int a21), .val (.int c0), .val (.int c1), .val (.int c2), .val (.int tot), .val (.ref b16), .val (.ref b17), .val (.ref b18), .val (.int k), .val (.ref b20), .val (.ref b21), .val (.int l22), .val (.int l23), .val (.int q)] [] := by
  refine W.iload 430 at_428 rfl rfl ?_
  refine W.iconst 431 at_430 rfl (1 : Int32) rfl ?_
  refine W.icmp_ne 443 434 at_431 rfl rfl ?_ ?_
  · intro hc1077
    exact u_443 l Z a0 hw p0 p1 n a01 a02 a12 a10 a20 a21 c0 c1 c2 tot l4 l5 k l22 l23 q b16 b17 b18 b20 b21 ls os _ _ n0 ha01 ha02 ha12 ha10 ha20 ha21 htot hn3 hls hos A16 A17 A21 hts g21 n1 n2 (by rw [hq, own_not1 ha21 hc1077]; exact (own_add0 _).symm)
  · intro hc1077
    refine W.aload 436 at_434 rfl rfl rfl ?_
    refine W.iload 438 at_436 rfl rfl ?_
    refine W.iconst 439 at_438 rfl (2 : Int32) rfl ?_
    have hi1079 := own_iu3 _ _ _ _ _ _ ha01 ha02 ha12 ha10 ha20 ha21 hc1077
    rw [← htot] at hi1079
    refine W.iastore 440 at_439 rfl A21 q.toNatClampNeg rfl (by rw [hq]; exact hi1079.1) (by rw [hts, hq]; exact hi1079.2) g21 ?_
    intro h1078 W1078 K1078 A1078
    refine W.iinc 443 at_440 rfl rfl (q + (1 : Int32)) rfl #[.val (.int p0), .val (.int p1), .val (.int n), .val (.int (1 : Int32)), .val (.int l4), .val (.int l5), .val (.int a01), .val (.int a02), .val (.int a12), .val (.int a10), .val (.int a20), .val (.int a21), .val (.int c0), .val (.int c1), .val (.int c2), .val (.int tot), .val (.ref b16), .val (.ref b17), .val (.ref b18), .val (.int k), .val (.ref b20), .val (.ref b21), .val (.int l22), .val (.int l23), .val (.int (q + (1 : Int32)))] rfl ?_
    have q1080 := (A16.keep K1078 (ninS n1 nin0))
    have q1081 := (A17.keep K1078 (ninS n2 nin0))
    exact u_443 l Z a0 hw p0 p1 n a01 a02 a12 a10 a20 a21 c0 c1 c2 tot l4 l5 k l22 l23 (q + (1 : Int32)) b16 b17 b18 b20 b21 ls os _ _ n0 ha01 ha02 ha12 ha10 ha20 ha21 htot hn3 hls hos q1080 q1081 A1078 (by rw [List.length_set]; exact hts) g21 n1 n2 (by rw [hq, hc1077])
set_option maxRecDepth 65536 in
set_option maxHeartbeats 40000000 in
theorem u_413 (l : Launch) (Z : State) (a0 : Array Value) (hw : ∀ d ∈ tables_1, d.before a0 Z = true) (p0 p1 n a01 a02 a12 a10 a20 a21 c0 c1 c2 tot l4 l5 k l22 l23 q : Int32) (b16 b17 b18 b20 b21 : Addr) (ls os ts : List Value) (h : Heap) (n0 : Nat) (ha01 : own_bit a01) (ha02 : own_bit a02) (ha12 : own_bit a12) (ha10 : own_bit a10) (ha20 : own_bit a20) (ha21 : own_bit a21) (htot : tot = ((a01 + a02) + (a10 + a12) + (a20 + a21))) (hn3 : n = 0 ∨ n = 1 ∨ n = 2 ∨ n = 3) (hls : ls.length.toInt32 = n) (hos : os[n.toNatClampNeg]? = some (.int tot)) (A16 : Ary Z h b16 .long ls) (A17 : Ary Z h b17 .int os) (A21 : Ary Z h b21 .int ts) (hts : ts.length = tot.toNatClampNeg) (g21 : n0 ≤ b21) (n1 : b16 ≠ b21) (n2 : b17 ≠ b21) (hq : q = (((0 : Int32) + a10) + a20)) : W l room_1 Z "com/example/eccentra/eccentra/GraphEdgeCountPinLaw" "law" code maxLocals ret n0 (fun r _ => r = some (.int 1)) h 5 40 413 #[.val (.int p0), .val (.int p1), .val (.int n), .val (.int (1 : Int32)), .val (.int l4), .val (.int l5), .val (.int a01), .val (.int a02), .val (.int a12), .val (.int a10), .val (.int a20), .val (.int a21), .val (.int c0), .val (.int c1), .val (.int c2), .val (.int tot), .val (.ref b16), .val (.ref b17), .val (.ref b18), .val (.int k), .val (.ref b20), .val (.ref b21), .val (.int l22), .val (.int l23), .val (.int q)] [] := by
  refine W.iload 415 at_413 rfl rfl ?_
  refine W.iconst 416 at_415 rfl (1 : Int32) rfl ?_
  refine W.icmp_ne 428 419 at_416 rfl rfl ?_ ?_
  · intro hc1082
    exact u_428 l Z a0 hw p0 p1 n a01 a02 a12 a10 a20 a21 c0 c1 c2 tot l4 l5 k l22 l23 q b16 b17 b18 b20 b21 ls os _ _ n0 ha01 ha02 ha12 ha10 ha20 ha21 htot hn3 hls hos A16 A17 A21 hts g21 n1 n2 (by rw [hq, own_not1 ha01 hc1082]; exact (own_add0 _).symm)
  · intro hc1082
    refine W.aload 421 at_419 rfl rfl rfl ?_
    refine W.iload 423 at_421 rfl rfl ?_
    refine W.iconst 424 at_423 rfl (0 : Int32) rfl ?_
    have hi1084 := own_iu2 _ _ _ _ _ _ ha01 ha02 ha12 ha10 ha20 ha21 hc1082
    rw [← htot] at hi1084
    refine W.iastore 425 at_424 rfl A21 q.toNatClampNeg rfl (by rw [hq]; exact hi1084.1) (by rw [hts, hq]; exact hi1084.2) g21 ?_
    intro h1083 W1083 K1083 A1083
    refine W.iinc 428 at_425 rfl rfl (q + (1 : Int32)) rfl #[.val (.int p0), .val (.int p1), .val (.int n), .val (.int (1 : Int32)), .val (.int l4), .val (.int l5), .val (.int a01), .val (.int a02), .val (.int a12), .val (.int a10), .val (.int a20), .val (.int a21), .val (.int c0), .val (.int c1), .val (.int c2), .val (.int tot), .val (.ref b16), .val (.ref b17), .val (.ref b18), .val (.int k), .val (.ref b20), .val (.ref b21), .val (.int l22), .val (.int l23), .val (.int (q + (1 : Int32)))] rfl ?_
    have q1085 := (A16.keep K1083 (ninS n1 nin0))
    have q1086 := (A17.keep K1083 (ninS n2 nin0))
    exact u_428 l Z a0 hw p0 p1 n a01 a02 a12 a10 a20 a21 c0 c1 c2 tot l4 l5 k l22 l23 (q + (1 : Int32)) b16 b17 b18 b20 b21 ls os _ _ n0 ha01 ha02 ha12 ha10 ha20 ha21 htot hn3 hls hos q1085 q1086 A1083 (by rw [List.length_set]; exact hts) g21 n1 n2 (by rw [hq, hc1082])
set_option maxRecDepth 65536 in
set_option maxHeartbeats 40000000 in
theorem u_398 (l : Launch) (Z : State) (a0 : Array Value) (hw : ∀ d ∈ tables_1, d.before a0 Z = true) (p0 p1 n a01 a02 a12 a10 a20 a21 c0 c1 c2 tot l4 l5 k l22 l23 q : Int32) (b16 b17 b18 b20 b21 : Addr) (ls os ts : List Value) (h : Heap) (n0 : Nat) (ha01 : own_bit a01) (ha02 : own_bit a02) (ha12 : own_bit a12) (ha10 : own_bit a10) (ha20 : own_bit a20) (ha21 : own_bit a21) (htot : tot = ((a01 + a02) + (a10 + a12) + (a20 + a21))) (hn3 : n = 0 ∨ n = 1 ∨ n = 2 ∨ n = 3) (hls : ls.length.toInt32 = n) (hos : os[n.toNatClampNeg]? = some (.int tot)) (A16 : Ary Z h b16 .long ls) (A17 : Ary Z h b17 .int os) (A21 : Ary Z h b21 .int ts) (hts : ts.length = tot.toNatClampNeg) (g21 : n0 ≤ b21) (n1 : b16 ≠ b21) (n2 : b17 ≠ b21) (hq : q = ((0 : Int32) + a10)) : W l room_1 Z "com/example/eccentra/eccentra/GraphEdgeCountPinLaw" "law" code maxLocals ret n0 (fun r _ => r = some (.int 1)) h 5 40 398 #[.val (.int p0), .val (.int p1), .val (.int n), .val (.int (1 : Int32)), .val (.int l4), .val (.int l5), .val (.int a01), .val (.int a02), .val (.int a12), .val (.int a10), .val (.int a20), .val (.int a21), .val (.int c0), .val (.int c1), .val (.int c2), .val (.int tot), .val (.ref b16), .val (.ref b17), .val (.ref b18), .val (.int k), .val (.ref b20), .val (.ref b21), .val (.int l22), .val (.int l23), .val (.int q)] [] := by
  refine W.iload 400 at_398 rfl rfl ?_
  refine W.iconst 401 at_400 rfl (1 : Int32) rfl ?_
  refine W.icmp_ne 413 404 at_401 rfl rfl ?_ ?_
  · intro hc1087
    exact u_413 l Z a0 hw p0 p1 n a01 a02 a12 a10 a20 a21 c0 c1 c2 tot l4 l5 k l22 l23 q b16 b17 b18 b20 b21 ls os _ _ n0 ha01 ha02 ha12 ha10 ha20 ha21 htot hn3 hls hos A16 A17 A21 hts g21 n1 n2 (by rw [hq, own_not1 ha20 hc1087]; exact (own_add0 _).symm)
  · intro hc1087
    refine W.aload 406 at_404 rfl rfl rfl ?_
    refine W.iload 408 at_406 rfl rfl ?_
    refine W.iconst 409 at_408 rfl (2 : Int32) rfl ?_
    have hi1089 := own_iu1 _ _ _ _ _ _ ha01 ha02 ha12 ha10 ha20 ha21 hc1087
    rw [← htot] at hi1089
    refine W.iastore 410 at_409 rfl A21 q.toNatClampNeg rfl (by rw [hq]; exact hi1089.1) (by rw [hts, hq]; exact hi1089.2) g21 ?_
    intro h1088 W1088 K1088 A1088
    refine W.iinc 413 at_410 rfl rfl (q + (1 : Int32)) rfl #[.val (.int p0), .val (.int p1), .val (.int n), .val (.int (1 : Int32)), .val (.int l4), .val (.int l5), .val (.int a01), .val (.int a02), .val (.int a12), .val (.int a10), .val (.int a20), .val (.int a21), .val (.int c0), .val (.int c1), .val (.int c2), .val (.int tot), .val (.ref b16), .val (.ref b17), .val (.ref b18), .val (.int k), .val (.ref b20), .val (.ref b21), .val (.int l22), .val (.int l23), .val (.int (q + (1 : Int32)))] rfl ?_
    have q1090 := (A16.keep K1088 (ninS n1 nin0))
    have q1091 := (A17.keep K1088 (ninS n2 nin0))
    exact u_413 l Z a0 hw p0 p1 n a01 a02 a12 a10 a20 a21 c0 c1 c2 tot l4 l5 k l22 l23 (q + (1 : Int32)) b16 b17 b18 b20 b21 ls os _ _ n0 ha01 ha02 ha12 ha10 ha20 ha21 htot hn3 hls hos q1090 q1091 A1088 (by rw [List.length_set]; exact hts) g21 n1 n2 (by rw [hq, hc1087])
set_option maxRecDepth 65536 in
set_option maxHeartbeats 40000000 in
theorem u_383 (l : Launch) (Z : State) (a0 : Array Value) (hw : ∀ d ∈ tables_1, d.before a0 Z = true) (p0 p1 n a01 a02 a12 a10 a20 a21 c0 c1 c2 tot l4 l5 k l22 l23 q : Int32) (b16 b17 b18 b20 b21 : Addr) (ls os ts : List Value) (h : Heap) (n0 : Nat) (ha01 : own_bit a01) (ha02 : own_bit a02) (ha12 : own_bit a12) (ha10 : own_bit a10) (ha20 : own_bit a20) (ha21 : own_bit a21) (htot : tot = ((a01 + a02) + (a10 + a12) + (a20 + a21))) (hn3 : n = 0 ∨ n = 1 ∨ n = 2 ∨ n = 3) (hls : ls.length.toInt32 = n) (hos : os[n.toNatClampNeg]? = some (.int tot)) (A16 : Ary Z h b16 .long ls) (A17 : Ary Z h b17 .int os) (A21 : Ary Z h b21 .int ts) (hts : ts.length = tot.toNatClampNeg) (g21 : n0 ≤ b21) (n1 : b16 ≠ b21) (n2 : b17 ≠ b21) (hq : q = (0 : Int32)) : W l room_1 Z "com/example/eccentra/eccentra/GraphEdgeCountPinLaw" "law" code maxLocals ret n0 (fun r _ => r = some (.int 1)) h 5 40 383 #[.val (.int p0), .val (.int p1), .val (.int n), .val (.int (1 : Int32)), .val (.int l4), .val (.int l5), .val (.int a01), .val (.int a02), .val (.int a12), .val (.int a10), .val (.int a20), .val (.int a21), .val (.int c0), .val (.int c1), .val (.int c2), .val (.int tot), .val (.ref b16), .val (.ref b17), .val (.ref b18), .val (.int k), .val (.ref b20), .val (.ref b21), .val (.int l22), .val (.int l23), .val (.int q)] [] := by
  refine W.iload 385 at_383 rfl rfl ?_
  refine W.iconst 386 at_385 rfl (1 : Int32) rfl ?_
  refine W.icmp_ne 398 389 at_386 rfl rfl ?_ ?_
  · intro hc1092
    exact u_398 l Z a0 hw p0 p1 n a01 a02 a12 a10 a20 a21 c0 c1 c2 tot l4 l5 k l22 l23 q b16 b17 b18 b20 b21 ls os _ _ n0 ha01 ha02 ha12 ha10 ha20 ha21 htot hn3 hls hos A16 A17 A21 hts g21 n1 n2 (by rw [hq, own_not1 ha10 hc1092]; exact (own_add0 _).symm)
  · intro hc1092
    refine W.aload 391 at_389 rfl rfl rfl ?_
    refine W.iload 393 at_391 rfl rfl ?_
    refine W.iconst 394 at_393 rfl (1 : Int32) rfl ?_
    have hi1094 := own_iu0 _ _ _ _ _ _ ha01 ha02 ha12 ha10 ha20 ha21 hc1092
    rw [← htot] at hi1094
    refine W.iastore 395 at_394 rfl A21 q.toNatClampNeg rfl (by rw [hq]; exact hi1094.1) (by rw [hts, hq]; exact hi1094.2) g21 ?_
    intro h1093 W1093 K1093 A1093
    refine W.iinc 398 at_395 rfl rfl (q + (1 : Int32)) rfl #[.val (.int p0), .val (.int p1), .val (.int n), .val (.int (1 : Int32)), .val (.int l4), .val (.int l5), .val (.int a01), .val (.int a02), .val (.int a12), .val (.int a10), .val (.int a20), .val (.int a21), .val (.int c0), .val (.int c1), .val (.int c2), .val (.int tot), .val (.ref b16), .val (.ref b17), .val (.ref b18), .val (.int k), .val (.ref b20), .val (.ref b21), .val (.int l22), .val (.int l23), .val (.int (q + (1 : Int32)))] rfl ?_
    have q1095 := (A16.keep K1093 (ninS n1 nin0))
    have q1096 := (A17.keep K1093 (ninS n2 nin0))
    exact u_398 l Z a0 hw p0 p1 n a01 a02 a12 a10 a20 a21 c0 c1 c2 tot l4 l5 k l22 l23 (q + (1 : Int32)) b16 b17 b18 b20 b21 ls os _ _ n0 ha01 ha02 ha12 ha10 ha20 ha21 htot hn3 hls hos q1095 q1096 A1093 (by rw [List.length_set]; exact hts) g21 n1 n2 (by rw [hq, hc1092])
set_option maxRecDepth 65536 in
set_option maxHeartbeats 40000000 in
theorem t313_u (l : Launch) (Z : State) (a0 : Array Value) (hw : ∀ d ∈ tables_1, d.before a0 Z = true) (p0 p1 n a01 a02 a12 a10 a20 a21 c0 c1 c2 tot l4 l5 k : Int32) (b16 b17 b18 : Addr) (ls os : List Value) (h : Heap) (n0 : Nat) (ha01 : own_bit a01) (ha02 : own_bit a02) (ha12 : own_bit a12) (ha10 : own_bit a10) (ha20 : own_bit a20) (ha21 : own_bit a21) (htot : tot = ((a01 + a02) + (a10 + a12) + (a20 + a21))) (hn3 : n = 0 ∨ n = 1 ∨ n = 2 ∨ n = 3) (hls : ls.length.toInt32 = n) (hos : os[n.toNatClampNeg]? = some (.int tot)) (A16 : Ary Z h b16 .long ls) (A17 : Ary Z h b17 .int os) (g16 : n0 ≤ b16) (hun : a10 = a01 ∧ a20 = a02 ∧ a21 = a12) : W l room_1 Z "com/example/eccentra/eccentra/GraphEdgeCountPinLaw" "law" code maxLocals ret n0 (fun r _ => r = some (.int 1)) h 3 20 313 #[.val (.int p0), .val (.int p1), .val (.int n), .val (.int (0 : Int32)), .val (.int l4), .val (.int l5), .val (.int a01), .val (.int a02), .val (.int a12), .val (.int a10), .val (.int a20), .val (.int a21), .val (.int c0), .val (.int c1), .val (.int c2), .val (.int tot), .val (.ref b16), .val (.ref b17), .val (.ref b18), .val (.int k), .unset, .unset, .unset, .unset, .unset] [] := by
  refine W.iloadN 314 at_313 rfl rfl ?_
  refine W.if_eq 476 317 at_314 rfl rfl (fun _ => ?_) (fun hc => absurd (by decide) hc)
  refine W.aload 478 at_476 rfl rfl rfl ?_
  refine W.astore 480 at_478 rfl rfl #[.val (.int p0), .val (.int p1), .val (.int n), .val (.int (0 : Int32)), .val (.int l4), .val (.int l5), .val (.int a01), .val (.int a02), .val (.int a12), .val (.int a10), .val (.int a20), .val (.int a21), .val (.int c0), .val (.int c1), .val (.int c2), .val (.int tot), .val (.ref b16), .val (.ref b17), .val (.ref b18), .val (.int k), .val (.ref b17), .unset, .unset, .unset, .unset] rfl ?_
  refine W.aload 482 at_480 rfl rfl rfl ?_
  refine W.astore 484 at_482 rfl rfl #[.val (.int p0), .val (.int p1), .val (.int n), .val (.int (0 : Int32)), .val (.int l4), .val (.int l5), .val (.int a01), .val (.int a02), .val (.int a12), .val (.int a10), .val (.int a20), .val (.int a21), .val (.int c0), .val (.int c1), .val (.int c2), .val (.int tot), .val (.ref b16), .val (.ref b17), .val (.ref b18), .val (.int k), .val (.ref b17), .val (.ref b18), .unset, .unset, .unset] rfl ?_
  exact (v484_0 l Z a0 hw p0 p1 n a01 a02 a12 a10 a20 a21 c0 c1 c2 tot l4 l5 k b16 b17 b18 ls os _ n0 ha01 ha02 ha12 ha10 ha20 ha21 htot hn3 hls hos hun A16 A17).mono (by decide) (by decide)
set_option maxRecDepth 65536 in
set_option maxHeartbeats 40000000 in
theorem t313_0 (l : Launch) (Z : State) (a0 : Array Value) (hw : ∀ d ∈ tables_1, d.before a0 Z = true) (p0 p1 a01 a02 a12 a10 a20 a21 c0 c1 c2 tot l4 l5 k : Int32) (b16 b17 b18 : Addr) (ls os : List Value) (h : Heap) (n0 : Nat) (ha01 : own_bit a01) (ha02 : own_bit a02) (ha12 : own_bit a12) (ha10 : own_bit a10) (ha20 : own_bit a20) (ha21 : own_bit a21) (htot : tot = ((a01 + a02) + (a10 + a12) + (a20 + a21))) (hn3 : (0 : Int32) = 0 ∨ (0 : Int32) = 1 ∨ (0 : Int32) = 2 ∨ (0 : Int32) = 3) (hls : ls.length.toInt32 = (0 : Int32)) (hos : os[(0 : Int32).toNatClampNeg]? = some (.int tot)) (A16 : Ary Z h b16 .long ls) (A17 : Ary Z h b17 .int os) (g16 : n0 ≤ b16) : W l room_1 Z "com/example/eccentra/eccentra/GraphEdgeCountPinLaw" "law" code maxLocals ret n0 (fun r _ => r = some (.int 1)) h 3 20 313 #[.val (.int p0), .val (.int p1), .val (.int (0 : Int32)), .val (.int (1 : Int32)), .val (.int l4), .val (.int l5), .val (.int a01), .val (.int a02), .val (.int a12), .val (.int a10), .val (.int a20), .val (.int a21), .val (.int c0), .val (.int c1), .val (.int c2), .val (.int tot), .val (.ref b16), .val (.ref b17), .val (.ref b18), .val (.int k), .unset, .unset, .unset, .unset, .unset] [] := by
  have htt := own_tot _ _ _ _ _ _ ha01 ha02 ha12 ha10 ha20 ha21
  rw [← htot] at htt
  refine W.iloadN 314 at_313 rfl rfl ?_
  refine W.if_eq 476 317 at_314 rfl rfl (fun hc => absurd hc (by decide)) (fun _ => ?_)
  refine W.iload 319 at_317 rfl rfl ?_
  refine W.iload 321 at_319 rfl rfl ?_
  refine W.iadd 322 at_321 rfl (a10 + a20) rfl ?_
  refine W.istore 324 at_322 rfl #[.val (.int p0), .val (.int p1), .val (.int (0 : Int32)), .val (.int (1 : Int32)), .val (.int l4), .val (.int l5), .val (.int a01), .val (.int a02), .val (.int a12), .val (.int a10), .val (.int a20), .val (.int a21), .val (.int c0), .val (.int c1), .val (.int c2), .val (.int tot), .val (.ref b16), .val (.ref b17), .val (.ref b18), .val (.int k), .unset, .unset, .val (.int (a10 + a20)), .unset, .unset] rfl ?_
  refine W.iload 326 at_324 rfl rfl ?_
  refine W.iload 328 at_326 rfl rfl ?_
  refine W.iadd 329 at_328 rfl (a01 + a21) rfl ?_
  refine W.istore 331 at_329 rfl #[.val (.int p0), .val (.int p1), .val (.int (0 : Int32)), .val (.int (1 : Int32)), .val (.int l4), .val (.int l5), .val (.int a01), .val (.int a02), .val (.int a12), .val (.int a10), .val (.int a20), .val (.int a21), .val (.int c0), .val (.int c1), .val (.int c2), .val (.int tot), .val (.ref b16), .val (.ref b17), .val (.ref b18), .val (.int k), .unset, .unset, .val (.int (a10 + a20)), .val (.int (a01 + a21)), .unset] rfl ?_
  refine W.iloadN 332 at_331 rfl rfl ?_
  refine W.iconst 333 at_332 rfl (1 : Int32) rfl ?_
  refine W.iadd 334 at_333 rfl (1 : Int32) (by decide) ?_
  refine W.newarray 336 at_334 rfl (wd_5 hw) rfl (by decide) 1 1 (by decide) (by decide) (by decide) (by decide) (by decide) rfl ?_
  intro h1097 b1097 g1097 ge1097 X1097 K1097 A1097
  have ne1098 : b16 ≠ b1097 := Nat.ne_of_lt (Nat.lt_of_lt_of_eq A16.lt g1097.symm)
  have ne1099 : b17 ≠ b1097 := Nat.ne_of_lt (Nat.lt_of_lt_of_eq A17.lt g1097.symm)
  have A1097 : Ary _ _ b1097 .int [(.int (0 : Int32))] := A1097
  show W _ _ _ _ _ _ _ _ _ _ _ 4 21 336 #[.val (.int p0), .val (.int p1), .val (.int (0 : Int32)), .val (.int (1 : Int32)), .val (.int l4), .val (.int l5), .val (.int a01), .val (.int a02), .val (.int a12), .val (.int a10), .val (.int a20), .val (.int a21), .val (.int c0), .val (.int c1), .val (.int c2), .val (.int tot), .val (.ref b16), .val (.ref b17), .val (.ref b18), .val (.int k), .unset, .unset, .val (.int (a10 + a20)), .val (.int (a01 + a21)), .unset] [(.ref b1097)]
  refine W.astore 338 at_336 rfl rfl #[.val (.int p0), .val (.int p1), .val (.int (0 : Int32)), .val (.int (1 : Int32)), .val (.int l4), .val (.int l5), .val (.int a01), .val (.int a02), .val (.int a12), .val (.int a10), .val (.int a20), .val (.int a21), .val (.int c0), .val (.int c1), .val (.int c2), .val (.int tot), .val (.ref b16), .val (.ref b17), .val (.ref b18), .val (.int k), .val (.ref b1097), .unset, .val (.int (a10 + a20)), .val (.int (a01 + a21)), .unset] rfl ?_
  refine W.iloadN 339 at_338 rfl rfl ?_
  refine W.iconst 340 at_339 rfl (1 : Int32) rfl ?_
  refine W.icmp_lt 349 343 at_340 rfl rfl (fun _ => ?_) (fun hc => absurd (by decide) hc)
  refine W.iloadN 350 at_349 rfl rfl ?_
  refine W.iconst 351 at_350 rfl (2 : Int32) rfl ?_
  refine W.icmp_lt 363 354 at_351 rfl rfl (fun _ => ?_) (fun hc => absurd (by decide) hc)
  refine W.iloadN 364 at_363 rfl rfl ?_
  refine W.iconst 365 at_364 rfl (3 : Int32) rfl ?_
  refine W.icmp_lt 374 368 at_365 rfl rfl (fun _ => ?_) (fun hc => absurd (by decide) hc)
  refine W.iload 376 at_374 rfl rfl ?_
  refine W.newarray 378 at_376 rfl (wd_5 hw) rfl htt.1 tot.toNatClampNeg 6 rfl htt.2 (by decide) (by decide) (by decide) rfl ?_
  intro h1100 b1100 g1100 ge1100 X1100 K1100 A1100
  have ne1101 : b1097 ≠ b1100 := Nat.ne_of_lt (Nat.lt_of_lt_of_eq A1097.lt g1100.symm)
  have q1102 := (A16.keep K1097 nin0)
  have ne1103 : b16 ≠ b1100 := Nat.ne_of_lt (Nat.lt_of_lt_of_eq q1102.lt g1100.symm)
  have q1104 := (A17.keep K1097 nin0)
  have ne1105 : b17 ≠ b1100 := Nat.ne_of_lt (Nat.lt_of_lt_of_eq q1104.lt g1100.symm)
  show W _ _ _ _ _ _ _ _ _ _ _ 5 27 378 #[.val (.int p0), .val (.int p1), .val (.int (0 : Int32)), .val (.int (1 : Int32)), .val (.int l4), .val (.int l5), .val (.int a01), .val (.int a02), .val (.int a12), .val (.int a10), .val (.int a20), .val (.int a21), .val (.int c0), .val (.int c1), .val (.int c2), .val (.int tot), .val (.ref b16), .val (.ref b17), .val (.ref b18), .val (.int k), .val (.ref b1097), .unset, .val (.int (a10 + a20)), .val (.int (a01 + a21)), .unset] [(.ref b1100)]
  refine W.astore 380 at_378 rfl rfl #[.val (.int p0), .val (.int p1), .val (.int (0 : Int32)), .val (.int (1 : Int32)), .val (.int l4), .val (.int l5), .val (.int a01), .val (.int a02), .val (.int a12), .val (.int a10), .val (.int a20), .val (.int a21), .val (.int c0), .val (.int c1), .val (.int c2), .val (.int tot), .val (.ref b16), .val (.ref b17), .val (.ref b18), .val (.int k), .val (.ref b1097), .val (.ref b1100), .val (.int (a10 + a20)), .val (.int (a01 + a21)), .unset] rfl ?_
  refine W.iconst 381 at_380 rfl (0 : Int32) rfl ?_
  refine W.istore 383 at_381 rfl #[.val (.int p0), .val (.int p1), .val (.int (0 : Int32)), .val (.int (1 : Int32)), .val (.int l4), .val (.int l5), .val (.int a01), .val (.int a02), .val (.int a12), .val (.int a10), .val (.int a20), .val (.int a21), .val (.int c0), .val (.int c1), .val (.int c2), .val (.int tot), .val (.ref b16), .val (.ref b17), .val (.ref b18), .val (.int k), .val (.ref b1097), .val (.ref b1100), .val (.int (a10 + a20)), .val (.int (a01 + a21)), .val (.int (0 : Int32))] rfl ?_
  have q1106 := (q1102.keep K1100 nin0)
  have q1107 := (q1104.keep K1100 nin0)
  exact (u_383 l Z a0 hw p0 p1 (0 : Int32) a01 a02 a12 a10 a20 a21 c0 c1 c2 tot l4 l5 k _ _ (0 : Int32) b16 b17 b18 b1097 b1100 ls os _ _ n0 ha01 ha02 ha12 ha10 ha20 ha21 htot hn3 hls hos q1106 q1107 A1100 (by rw [List.length_replicate]) ge1100 ne1103 ne1105 rfl).mono (by decide) (by decide)
set_option maxRecDepth 65536 in
set_option maxHeartbeats 40000000 in
theorem t313_1 (l : Launch) (Z : State) (a0 : Array Value) (hw : ∀ d ∈ tables_1, d.before a0 Z = true) (p0 p1 a01 a02 a12 a10 a20 a21 c0 c1 c2 tot l4 l5 k : Int32) (b16 b17 b18 : Addr) (ls os : List Value) (h : Heap) (n0 : Nat) (ha01 : own_bit a01) (ha02 : own_bit a02) (ha12 : own_bit a12) (ha10 : own_bit a10) (ha20 : own_bit a20) (ha21 : own_bit a21) (htot : tot = ((a01 + a02) + (a10 + a12) + (a20 + a21))) (hn3 : (1 : Int32) = 0 ∨ (1 : Int32) = 1 ∨ (1 : Int32) = 2 ∨ (1 : Int32) = 3) (hls : ls.length.toInt32 = (1 : Int32)) (hos : os[(1 : Int32).toNatClampNeg]? = some (.int tot)) (A16 : Ary Z h b16 .long ls) (A17 : Ary Z h b17 .int os) (g16 : n0 ≤ b16) : W l room_1 Z "com/example/eccentra/eccentra/GraphEdgeCountPinLaw" "law" code maxLocals ret n0 (fun r _ => r = some (.int 1)) h 3 20 313 #[.val (.int p0), .val (.int p1), .val (.int (1 : Int32)), .val (.int (1 : Int32)), .val (.int l4), .val (.int l5), .val (.int a01), .val (.int a02), .val (.int a12), .val (.int a10), .val (.int a20), .val (.int a21), .val (.int c0), .val (.int c1), .val (.int c2), .val (.int tot), .val (.ref b16), .val (.ref b17), .val (.ref b18), .val (.int k), .unset, .unset, .unset, .unset, .unset] [] := by
  have htt := own_tot _ _ _ _ _ _ ha01 ha02 ha12 ha10 ha20 ha21
  rw [← htot] at htt
  refine W.iloadN 314 at_313 rfl rfl ?_
  refine W.if_eq 476 317 at_314 rfl rfl (fun hc => absurd hc (by decide)) (fun _ => ?_)
  refine W.iload 319 at_317 rfl rfl ?_
  refine W.iload 321 at_319 rfl rfl ?_
  refine W.iadd 322 at_321 rfl (a10 + a20) rfl ?_
  refine W.istore 324 at_322 rfl #[.val (.int p0), .val (.int p1), .val (.int (1 : Int32)), .val (.int (1 : Int32)), .val (.int l4), .val (.int l5), .val (.int a01), .val (.int a02), .val (.int a12), .val (.int a10), .val (.int a20), .val (.int a21), .val (.int c0), .val (.int c1), .val (.int c2), .val (.int tot), .val (.ref b16), .val (.ref b17), .val (.ref b18), .val (.int k), .unset, .unset, .val (.int (a10 + a20)), .unset, .unset] rfl ?_
  refine W.iload 326 at_324 rfl rfl ?_
  refine W.iload 328 at_326 rfl rfl ?_
  refine W.iadd 329 at_328 rfl (a01 + a21) rfl ?_
  refine W.istore 331 at_329 rfl #[.val (.int p0), .val (.int p1), .val (.int (1 : Int32)), .val (.int (1 : Int32)), .val (.int l4), .val (.int l5), .val (.int a01), .val (.int a02), .val (.int a12), .val (.int a10), .val (.int a20), .val (.int a21), .val (.int c0), .val (.int c1), .val (.int c2), .val (.int tot), .val (.ref b16), .val (.ref b17), .val (.ref b18), .val (.int k), .unset, .unset, .val (.int (a10 + a20)), .val (.int (a01 + a21)), .unset] rfl ?_
  refine W.iloadN 332 at_331 rfl rfl ?_
  refine W.iconst 333 at_332 rfl (1 : Int32) rfl ?_
  refine W.iadd 334 at_333 rfl (2 : Int32) (by decide) ?_
  refine W.newarray 336 at_334 rfl (wd_5 hw) rfl (by decide) 2 2 (by decide) (by decide) (by decide) (by decide) (by decide) rfl ?_
  intro h1108 b1108 g1108 ge1108 X1108 K1108 A1108
  have ne1109 : b16 ≠ b1108 := Nat.ne_of_lt (Nat.lt_of_lt_of_eq A16.lt g1108.symm)
  have ne1110 : b17 ≠ b1108 := Nat.ne_of_lt (Nat.lt_of_lt_of_eq A17.lt g1108.symm)
  have A1108 : Ary _ _ b1108 .int [(.int (0 : Int32)), (.int (0 : Int32))] := A1108
  show W _ _ _ _ _ _ _ _ _ _ _ 4 22 336 #[.val (.int p0), .val (.int p1), .val (.int (1 : Int32)), .val (.int (1 : Int32)), .val (.int l4), .val (.int l5), .val (.int a01), .val (.int a02), .val (.int a12), .val (.int a10), .val (.int a20), .val (.int a21), .val (.int c0), .val (.int c1), .val (.int c2), .val (.int tot), .val (.ref b16), .val (.ref b17), .val (.ref b18), .val (.int k), .unset, .unset, .val (.int (a10 + a20)), .val (.int (a01 + a21)), .unset] [(.ref b1108)]
  refine W.astore 338 at_336 rfl rfl #[.val (.int p0), .val (.int p1), .val (.int (1 : Int32)), .val (.int (1 : Int32)), .val (.int l4), .val (.int l5), .val (.int a01), .val (.int a02), .val (.int a12), .val (.int a10), .val (.int a20), .val (.int a21), .val (.int c0), .val (.int c1), .val (.int c2), .val (.int tot), .val (.ref b16), .val (.ref b17), .val (.ref b18), .val (.int k), .val (.ref b1108), .unset, .val (.int (a10 + a20)), .val (.int (a01 + a21)), .unset] rfl ?_
  refine W.iloadN 339 at_338 rfl rfl ?_
  refine W.iconst 340 at_339 rfl (1 : Int32) rfl ?_
  refine W.icmp_lt 349 343 at_340 rfl rfl (fun hc => absurd hc (by decide)) (fun _ => ?_)
  refine W.aload 345 at_343 rfl rfl rfl ?_
  refine W.iconst 346 at_345 rfl (1 : Int32) rfl ?_
  refine W.iload 348 at_346 rfl rfl ?_
  refine W.iastore 349 at_348 rfl A1108 1 (by decide) (by decide) (Nat.le_of_ble_eq_true rfl) ge1108 ?_
  intro h1111 W1111 K1111 A1111
  have A1111 : Ary _ _ b1108 .int [(.int (0 : Int32)), (.int (a10 + a20))] := A1111
  refine W.iloadN 350 at_349 rfl rfl ?_
  refine W.iconst 351 at_350 rfl (2 : Int32) rfl ?_
  refine W.icmp_lt 363 354 at_351 rfl rfl (fun _ => ?_) (fun hc => absurd (by decide) hc)
  refine W.iloadN 364 at_363 rfl rfl ?_
  refine W.iconst 365 at_364 rfl (3 : Int32) rfl ?_
  refine W.icmp_lt 374 368 at_365 rfl rfl (fun _ => ?_) (fun hc => absurd (by decide) hc)
  refine W.iload 376 at_374 rfl rfl ?_
  refine W.newarray 378 at_376 rfl (wd_5 hw) rfl htt.1 tot.toNatClampNeg 6 rfl htt.2 (by decide) (by decide) (by decide) rfl ?_
  intro h1112 b1112 g1112 ge1112 X1112 K1112 A1112
  have ne1113 : b1108 ≠ b1112 := Nat.ne_of_lt (Nat.lt_of_lt_of_eq A1111.lt g1112.symm)
  have q1114 := ((A16.keep K1108 nin0).keep K1111 (ninS ne1109 nin0))
  have ne1115 : b16 ≠ b1112 := Nat.ne_of_lt (Nat.lt_of_lt_of_eq q1114.lt g1112.symm)
  have q1116 := ((A17.keep K1108 nin0).keep K1111 (ninS ne1110 nin0))
  have ne1117 : b17 ≠ b1112 := Nat.ne_of_lt (Nat.lt_of_lt_of_eq q1116.lt g1112.symm)
  show W _ _ _ _ _ _ _ _ _ _ _ 5 28 378 #[.val (.int p0), .val (.int p1), .val (.int (1 : Int32)), .val (.int (1 : Int32)), .val (.int l4), .val (.int l5), .val (.int a01), .val (.int a02), .val (.int a12), .val (.int a10), .val (.int a20), .val (.int a21), .val (.int c0), .val (.int c1), .val (.int c2), .val (.int tot), .val (.ref b16), .val (.ref b17), .val (.ref b18), .val (.int k), .val (.ref b1108), .unset, .val (.int (a10 + a20)), .val (.int (a01 + a21)), .unset] [(.ref b1112)]
  refine W.astore 380 at_378 rfl rfl #[.val (.int p0), .val (.int p1), .val (.int (1 : Int32)), .val (.int (1 : Int32)), .val (.int l4), .val (.int l5), .val (.int a01), .val (.int a02), .val (.int a12), .val (.int a10), .val (.int a20), .val (.int a21), .val (.int c0), .val (.int c1), .val (.int c2), .val (.int tot), .val (.ref b16), .val (.ref b17), .val (.ref b18), .val (.int k), .val (.ref b1108), .val (.ref b1112), .val (.int (a10 + a20)), .val (.int (a01 + a21)), .unset] rfl ?_
  refine W.iconst 381 at_380 rfl (0 : Int32) rfl ?_
  refine W.istore 383 at_381 rfl #[.val (.int p0), .val (.int p1), .val (.int (1 : Int32)), .val (.int (1 : Int32)), .val (.int l4), .val (.int l5), .val (.int a01), .val (.int a02), .val (.int a12), .val (.int a10), .val (.int a20), .val (.int a21), .val (.int c0), .val (.int c1), .val (.int c2), .val (.int tot), .val (.ref b16), .val (.ref b17), .val (.ref b18), .val (.int k), .val (.ref b1108), .val (.ref b1112), .val (.int (a10 + a20)), .val (.int (a01 + a21)), .val (.int (0 : Int32))] rfl ?_
  have q1118 := (q1114.keep K1112 nin0)
  have q1119 := (q1116.keep K1112 nin0)
  exact (u_383 l Z a0 hw p0 p1 (1 : Int32) a01 a02 a12 a10 a20 a21 c0 c1 c2 tot l4 l5 k _ _ (0 : Int32) b16 b17 b18 b1108 b1112 ls os _ _ n0 ha01 ha02 ha12 ha10 ha20 ha21 htot hn3 hls hos q1118 q1119 A1112 (by rw [List.length_replicate]) ge1112 ne1115 ne1117 rfl).mono (by decide) (by decide)
set_option maxRecDepth 65536 in
set_option maxHeartbeats 40000000 in
theorem t313_2 (l : Launch) (Z : State) (a0 : Array Value) (hw : ∀ d ∈ tables_1, d.before a0 Z = true) (p0 p1 a01 a02 a12 a10 a20 a21 c0 c1 c2 tot l4 l5 k : Int32) (b16 b17 b18 : Addr) (ls os : List Value) (h : Heap) (n0 : Nat) (ha01 : own_bit a01) (ha02 : own_bit a02) (ha12 : own_bit a12) (ha10 : own_bit a10) (ha20 : own_bit a20) (ha21 : own_bit a21) (htot : tot = ((a01 + a02) + (a10 + a12) + (a20 + a21))) (hn3 : (2 : Int32) = 0 ∨ (2 : Int32) = 1 ∨ (2 : Int32) = 2 ∨ (2 : Int32) = 3) (hls : ls.length.toInt32 = (2 : Int32)) (hos : os[(2 : Int32).toNatClampNeg]? = some (.int tot)) (A16 : Ary Z h b16 .long ls) (A17 : Ary Z h b17 .int os) (g16 : n0 ≤ b16) : W l room_1 Z "com/example/eccentra/eccentra/GraphEdgeCountPinLaw" "law" code maxLocals ret n0 (fun r _ => r = some (.int 1)) h 3 20 313 #[.val (.int p0), .val (.int p1), .val (.int (2 : Int32)), .val (.int (1 : Int32)), .val (.int l4), .val (.int l5), .val (.int a01), .val (.int a02), .val (.int a12), .val (.int a10), .val (.int a20), .val (.int a21), .val (.int c0), .val (.int c1), .val (.int c2), .val (.int tot), .val (.ref b16), .val (.ref b17), .val (.ref b18), .val (.int k), .unset, .unset, .unset, .unset, .unset] [] := by
  have htt := own_tot _ _ _ _ _ _ ha01 ha02 ha12 ha10 ha20 ha21
  rw [← htot] at htt
  refine W.iloadN 314 at_313 rfl rfl ?_
  refine W.if_eq 476 317 at_314 rfl rfl (fun hc => absurd hc (by decide)) (fun _ => ?_)
  refine W.iload 319 at_317 rfl rfl ?_
  refine W.iload 321 at_319 rfl rfl ?_
  refine W.iadd 322 at_321 rfl (a10 + a20) rfl ?_
  refine W.istore 324 at_322 rfl #[.val (.int p0), .val (.int p1), .val (.int (2 : Int32)), .val (.int (1 : Int32)), .val (.int l4), .val (.int l5), .val (.int a01), .val (.int a02), .val (.int a12), .val (.int a10), .val (.int a20), .val (.int a21), .val (.int c0), .val (.int c1), .val (.int c2), .val (.int tot), .val (.ref b16), .val (.ref b17), .val (.ref b18), .val (.int k), .unset, .unset, .val (.int (a10 + a20)), .unset, .unset] rfl ?_
  refine W.iload 326 at_324 rfl rfl ?_
  refine W.iload 328 at_326 rfl rfl ?_
  refine W.iadd 329 at_328 rfl (a01 + a21) rfl ?_
  refine W.istore 331 at_329 rfl #[.val (.int p0), .val (.int p1), .val (.int (2 : Int32)), .val (.int (1 : Int32)), .val (.int l4), .val (.int l5), .val (.int a01), .val (.int a02), .val (.int a12), .val (.int a10), .val (.int a20), .val (.int a21), .val (.int c0), .val (.int c1), .val (.int c2), .val (.int tot), .val (.ref b16), .val (.ref b17), .val (.ref b18), .val (.int k), .unset, .unset, .val (.int (a10 + a20)), .val (.int (a01 + a21)), .unset] rfl ?_
  refine W.iloadN 332 at_331 rfl rfl ?_
  refine W.iconst 333 at_332 rfl (1 : Int32) rfl ?_
  refine W.iadd 334 at_333 rfl (3 : Int32) (by decide) ?_
  refine W.newarray 336 at_334 rfl (wd_5 hw) rfl (by decide) 3 3 (by decide) (by decide) (by decide) (by decide) (by decide) rfl ?_
  intro h1120 b1120 g1120 ge1120 X1120 K1120 A1120
  have ne1121 : b16 ≠ b1120 := Nat.ne_of_lt (Nat.lt_of_lt_of_eq A16.lt g1120.symm)
  have ne1122 : b17 ≠ b1120 := Nat.ne_of_lt (Nat.lt_of_lt_of_eq A17.lt g1120.symm)
  have A1120 : Ary _ _ b1120 .int [(.int (0 : Int32)), (.int (0 : Int32)), (.int (0 : Int32))] := A1120
  show W _ _ _ _ _ _ _ _ _ _ _ 4 23 336 #[.val (.int p0), .val (.int p1), .val (.int (2 : Int32)), .val (.int (1 : Int32)), .val (.int l4), .val (.int l5), .val (.int a01), .val (.int a02), .val (.int a12), .val (.int a10), .val (.int a20), .val (.int a21), .val (.int c0), .val (.int c1), .val (.int c2), .val (.int tot), .val (.ref b16), .val (.ref b17), .val (.ref b18), .val (.int k), .unset, .unset, .val (.int (a10 + a20)), .val (.int (a01 + a21)), .unset] [(.ref b1120)]
  refine W.astore 338 at_336 rfl rfl #[.val (.int p0), .val (.int p1), .val (.int (2 : Int32)), .val (.int (1 : Int32)), .val (.int l4), .val (.int l5), .val (.int a01), .val (.int a02), .val (.int a12), .val (.int a10), .val (.int a20), .val (.int a21), .val (.int c0), .val (.int c1), .val (.int c2), .val (.int tot), .val (.ref b16), .val (.ref b17), .val (.ref b18), .val (.int k), .val (.ref b1120), .unset, .val (.int (a10 + a20)), .val (.int (a01 + a21)), .unset] rfl ?_
  refine W.iloadN 339 at_338 rfl rfl ?_
  refine W.iconst 340 at_339 rfl (1 : Int32) rfl ?_
  refine W.icmp_lt 349 343 at_340 rfl rfl (fun hc => absurd hc (by decide)) (fun _ => ?_)
  refine W.aload 345 at_343 rfl rfl rfl ?_
  refine W.iconst 346 at_345 rfl (1 : Int32) rfl ?_
  refine W.iload 348 at_346 rfl rfl ?_
  refine W.iastore 349 at_348 rfl A1120 1 (by decide) (by decide) (Nat.le_of_ble_eq_true rfl) ge1120 ?_
  intro h1123 W1123 K1123 A1123
  have A1123 : Ary _ _ b1120 .int [(.int (0 : Int32)), (.int (a10 + a20)), (.int (0 : Int32))] := A1123
  refine W.iloadN 350 at_349 rfl rfl ?_
  refine W.iconst 351 at_350 rfl (2 : Int32) rfl ?_
  refine W.icmp_lt 363 354 at_351 rfl rfl (fun hc => absurd hc (by decide)) (fun _ => ?_)
  refine W.aload 356 at_354 rfl rfl rfl ?_
  refine W.iconst 357 at_356 rfl (2 : Int32) rfl ?_
  refine W.iload 359 at_357 rfl rfl ?_
  refine W.iload 361 at_359 rfl rfl ?_
  refine W.iadd 362 at_361 rfl ((a10 + a20) + (a01 + a21)) rfl ?_
  refine W.iastore 363 at_362 rfl A1123 2 (by decide) (by decide) (Nat.le_of_ble_eq_true rfl) ge1120 ?_
  intro h1124 W1124 K1124 A1124
  have A1124 : Ary _ _ b1120 .int [(.int (0 : Int32)), (.int (a10 + a20)), (.int ((a10 + a20) + (a01 + a21)))] := A1124
  refine W.iloadN 364 at_363 rfl rfl ?_
  refine W.iconst 365 at_364 rfl (3 : Int32) rfl ?_
  refine W.icmp_lt 374 368 at_365 rfl rfl (fun _ => ?_) (fun hc => absurd (by decide) hc)
  refine W.iload 376 at_374 rfl rfl ?_
  refine W.newarray 378 at_376 rfl (wd_5 hw) rfl htt.1 tot.toNatClampNeg 6 rfl htt.2 (by decide) (by decide) (by decide) rfl ?_
  intro h1125 b1125 g1125 ge1125 X1125 K1125 A1125
  have ne1126 : b1120 ≠ b1125 := Nat.ne_of_lt (Nat.lt_of_lt_of_eq A1124.lt g1125.symm)
  have q1127 := (((A16.keep K1120 nin0).keep K1123 (ninS ne1121 nin0)).keep K1124 (ninS ne1121 nin0))
  have ne1128 : b16 ≠ b1125 := Nat.ne_of_lt (Nat.lt_of_lt_of_eq q1127.lt g1125.symm)
  have q1129 := (((A17.keep K1120 nin0).keep K1123 (ninS ne1122 nin0)).keep K1124 (ninS ne1122 nin0))
  have ne1130 : b17 ≠ b1125 := Nat.ne_of_lt (Nat.lt_of_lt_of_eq q1129.lt g1125.symm)
  show W _ _ _ _ _ _ _ _ _ _ _ 5 29 378 #[.val (.int p0), .val (.int p1), .val (.int (2 : Int32)), .val (.int (1 : Int32)), .val (.int l4), .val (.int l5), .val (.int a01), .val (.int a02), .val (.int a12), .val (.int a10), .val (.int a20), .val (.int a21), .val (.int c0), .val (.int c1), .val (.int c2), .val (.int tot), .val (.ref b16), .val (.ref b17), .val (.ref b18), .val (.int k), .val (.ref b1120), .unset, .val (.int (a10 + a20)), .val (.int (a01 + a21)), .unset] [(.ref b1125)]
  refine W.astore 380 at_378 rfl rfl #[.val (.int p0), .val (.int p1), .val (.int (2 : Int32)), .val (.int (1 : Int32)), .val (.int l4), .val (.int l5), .val (.int a01), .val (.int a02), .val (.int a12), .val (.int a10), .val (.int a20), .val (.int a21), .val (.int c0), .val (.int c1), .val (.int c2), .val (.int tot), .val (.ref b16), .val (.ref b17), .val (.ref b18), .val (.int k), .val (.ref b1120), .val (.ref b1125), .val (.int (a10 + a20)), .val (.int (a01 + a21)), .unset] rfl ?_
  refine W.iconst 381 at_380 rfl (0 : Int32) rfl ?_
  refine W.istore 383 at_381 rfl #[.val (.int p0), .val (.int p1), .val (.int (2 : Int32)), .val (.int (1 : Int32)), .val (.int l4), .val (.int l5), .val (.int a01), .val (.int a02), .val (.int a12), .val (.int a10), .val (.int a20), .val (.int a21), .val (.int c0), .val (.int c1), .val (.int c2), .val (.int tot), .val (.ref b16), .val (.ref b17), .val (.ref b18), .val (.int k), .val (.ref b1120), .val (.ref b1125), .val (.int (a10 + a20)), .val (.int (a01 + a21)), .val (.int (0 : Int32))] rfl ?_
  have q1131 := (q1127.keep K1125 nin0)
  have q1132 := (q1129.keep K1125 nin0)
  exact (u_383 l Z a0 hw p0 p1 (2 : Int32) a01 a02 a12 a10 a20 a21 c0 c1 c2 tot l4 l5 k _ _ (0 : Int32) b16 b17 b18 b1120 b1125 ls os _ _ n0 ha01 ha02 ha12 ha10 ha20 ha21 htot hn3 hls hos q1131 q1132 A1125 (by rw [List.length_replicate]) ge1125 ne1128 ne1130 rfl).mono (by decide) (by decide)
set_option maxRecDepth 65536 in
set_option maxHeartbeats 40000000 in
theorem t313_3 (l : Launch) (Z : State) (a0 : Array Value) (hw : ∀ d ∈ tables_1, d.before a0 Z = true) (p0 p1 a01 a02 a12 a10 a20 a21 c0 c1 c2 tot l4 l5 k : Int32) (b16 b17 b18 : Addr) (ls os : List Value) (h : Heap) (n0 : Nat) (ha01 : own_bit a01) (ha02 : own_bit a02) (ha12 : own_bit a12) (ha10 : own_bit a10) (ha20 : own_bit a20) (ha21 : own_bit a21) (htot : tot = ((a01 + a02) + (a10 + a12) + (a20 + a21))) (hn3 : (3 : Int32) = 0 ∨ (3 : Int32) = 1 ∨ (3 : Int32) = 2 ∨ (3 : Int32) = 3) (hls : ls.length.toInt32 = (3 : Int32)) (hos : os[(3 : Int32).toNatClampNeg]? = some (.int tot)) (A16 : Ary Z h b16 .long ls) (A17 : Ary Z h b17 .int os) (g16 : n0 ≤ b16) : W l room_1 Z "com/example/eccentra/eccentra/GraphEdgeCountPinLaw" "law" code maxLocals ret n0 (fun r _ => r = some (.int 1)) h 3 20 313 #[.val (.int p0), .val (.int p1), .val (.int (3 : Int32)), .val (.int (1 : Int32)), .val (.int l4), .val (.int l5), .val (.int a01), .val (.int a02), .val (.int a12), .val (.int a10), .val (.int a20), .val (.int a21), .val (.int c0), .val (.int c1), .val (.int c2), .val (.int tot), .val (.ref b16), .val (.ref b17), .val (.ref b18), .val (.int k), .unset, .unset, .unset, .unset, .unset] [] := by
  have htt := own_tot _ _ _ _ _ _ ha01 ha02 ha12 ha10 ha20 ha21
  rw [← htot] at htt
  refine W.iloadN 314 at_313 rfl rfl ?_
  refine W.if_eq 476 317 at_314 rfl rfl (fun hc => absurd hc (by decide)) (fun _ => ?_)
  refine W.iload 319 at_317 rfl rfl ?_
  refine W.iload 321 at_319 rfl rfl ?_
  refine W.iadd 322 at_321 rfl (a10 + a20) rfl ?_
  refine W.istore 324 at_322 rfl #[.val (.int p0), .val (.int p1), .val (.int (3 : Int32)), .val (.int (1 : Int32)), .val (.int l4), .val (.int l5), .val (.int a01), .val (.int a02), .val (.int a12), .val (.int a10), .val (.int a20), .val (.int a21), .val (.int c0), .val (.int c1), .val (.int c2), .val (.int tot), .val (.ref b16), .val (.ref b17), .val (.ref b18), .val (.int k), .unset, .unset, .val (.int (a10 + a20)), .unset, .unset] rfl ?_
  refine W.iload 326 at_324 rfl rfl ?_
  refine W.iload 328 at_326 rfl rfl ?_
  refine W.iadd 329 at_328 rfl (a01 + a21) rfl ?_
  refine W.istore 331 at_329 rfl #[.val (.int p0), .val (.int p1), .val (.int (3 : Int32)), .val (.int (1 : Int32)), .val (.int l4), .val (.int l5), .val (.int a01), .val (.int a02), .val (.int a12), .val (.int a10), .val (.int a20), .val (.int a21), .val (.int c0), .val (.int c1), .val (.int c2), .val (.int tot), .val (.ref b16), .val (.ref b17), .val (.ref b18), .val (.int k), .unset, .unset, .val (.int (a10 + a20)), .val (.int (a01 + a21)), .unset] rfl ?_
  refine W.iloadN 332 at_331 rfl rfl ?_
  refine W.iconst 333 at_332 rfl (1 : Int32) rfl ?_
  refine W.iadd 334 at_333 rfl (4 : Int32) (by decide) ?_
  refine W.newarray 336 at_334 rfl (wd_5 hw) rfl (by decide) 4 4 (by decide) (by decide) (by decide) (by decide) (by decide) rfl ?_
  intro h1133 b1133 g1133 ge1133 X1133 K1133 A1133
  have ne1134 : b16 ≠ b1133 := Nat.ne_of_lt (Nat.lt_of_lt_of_eq A16.lt g1133.symm)
  have ne1135 : b17 ≠ b1133 := Nat.ne_of_lt (Nat.lt_of_lt_of_eq A17.lt g1133.symm)
  have A1133 : Ary _ _ b1133 .int [(.int (0 : Int32)), (.int (0 : Int32)), (.int (0 : Int32)), (.int (0 : Int32))] := A1133
  show W _ _ _ _ _ _ _ _ _ _ _ 4 24 336 #[.val (.int p0), .val (.int p1), .val (.int (3 : Int32)), .val (.int (1 : Int32)), .val (.int l4), .val (.int l5), .val (.int a01), .val (.int a02), .val (.int a12), .val (.int a10), .val (.int a20), .val (.int a21), .val (.int c0), .val (.int c1), .val (.int c2), .val (.int tot), .val (.ref b16), .val (.ref b17), .val (.ref b18), .val (.int k), .unset, .unset, .val (.int (a10 + a20)), .val (.int (a01 + a21)), .unset] [(.ref b1133)]
  refine W.astore 338 at_336 rfl rfl #[.val (.int p0), .val (.int p1), .val (.int (3 : Int32)), .val (.int (1 : Int32)), .val (.int l4), .val (.int l5), .val (.int a01), .val (.int a02), .val (.int a12), .val (.int a10), .val (.int a20), .val (.int a21), .val (.int c0), .val (.int c1), .val (.int c2), .val (.int tot), .val (.ref b16), .val (.ref b17), .val (.ref b18), .val (.int k), .val (.ref b1133), .unset, .val (.int (a10 + a20)), .val (.int (a01 + a21)), .unset] rfl ?_
  refine W.iloadN 339 at_338 rfl rfl ?_
  refine W.iconst 340 at_339 rfl (1 : Int32) rfl ?_
  refine W.icmp_lt 349 343 at_340 rfl rfl (fun hc => absurd hc (by decide)) (fun _ => ?_)
  refine W.aload 345 at_343 rfl rfl rfl ?_
  refine W.iconst 346 at_345 rfl (1 : Int32) rfl ?_
  refine W.iload 348 at_346 rfl rfl ?_
  refine W.iastore 349 at_348 rfl A1133 1 (by decide) (by decide) (Nat.le_of_ble_eq_true rfl) ge1133 ?_
  intro h1136 W1136 K1136 A1136
  have A1136 : Ary _ _ b1133 .int [(.int (0 : Int32)), (.int (a10 + a20)), (.int (0 : Int32)), (.int (0 : Int32))] := A1136
  refine W.iloadN 350 at_349 rfl rfl ?_
  refine W.iconst 351 at_350 rfl (2 : Int32) rfl ?_
  refine W.icmp_lt 363 354 at_351 rfl rfl (fun hc => absurd hc (by decide)) (fun _ => ?_)
  refine W.aload 356 at_354 rfl rfl rfl ?_
  refine W.iconst 357 at_356 rfl (2 : Int32) rfl ?_
  refine W.iload 359 at_357 rfl rfl ?_
  refine W.iload 361 at_359 rfl rfl ?_
  refine W.iadd 362 at_361 rfl ((a10 + a20) + (a01 + a21)) rfl ?_
  refine W.iastore 363 at_362 rfl A1136 2 (by decide) (by decide) (Nat.le_of_ble_eq_true rfl) ge1133 ?_
  intro h1137 W1137 K1137 A1137
  have A1137 : Ary _ _ b1133 .int [(.int (0 : Int32)), (.int (a10 + a20)), (.int ((a10 + a20) + (a01 + a21))), (.int (0 : Int32))] := A1137
  refine W.iloadN 364 at_363 rfl rfl ?_
  refine W.iconst 365 at_364 rfl (3 : Int32) rfl ?_
  refine W.icmp_lt 374 368 at_365 rfl rfl (fun hc => absurd hc (by decide)) (fun _ => ?_)
  refine W.aload 370 at_368 rfl rfl rfl ?_
  refine W.iconst 371 at_370 rfl (3 : Int32) rfl ?_
  refine W.iload 373 at_371 rfl rfl ?_
  refine W.iastore 374 at_373 rfl A1137 3 (by decide) (by decide) (Nat.le_of_ble_eq_true rfl) ge1133 ?_
  intro h1138 W1138 K1138 A1138
  have A1138 : Ary _ _ b1133 .int [(.int (0 : Int32)), (.int (a10 + a20)), (.int ((a10 + a20) + (a01 + a21))), (.int tot)] := A1138
  refine W.iload 376 at_374 rfl rfl ?_
  refine W.newarray 378 at_376 rfl (wd_5 hw) rfl htt.1 tot.toNatClampNeg 6 rfl htt.2 (by decide) (by decide) (by decide) rfl ?_
  intro h1139 b1139 g1139 ge1139 X1139 K1139 A1139
  have ne1140 : b1133 ≠ b1139 := Nat.ne_of_lt (Nat.lt_of_lt_of_eq A1138.lt g1139.symm)
  have q1141 := ((((A16.keep K1133 nin0).keep K1136 (ninS ne1134 nin0)).keep K1137 (ninS ne1134 nin0)).keep K1138 (ninS ne1134 nin0))
  have ne1142 : b16 ≠ b1139 := Nat.ne_of_lt (Nat.lt_of_lt_of_eq q1141.lt g1139.symm)
  have q1143 := ((((A17.keep K1133 nin0).keep K1136 (ninS ne1135 nin0)).keep K1137 (ninS ne1135 nin0)).keep K1138 (ninS ne1135 nin0))
  have ne1144 : b17 ≠ b1139 := Nat.ne_of_lt (Nat.lt_of_lt_of_eq q1143.lt g1139.symm)
  show W _ _ _ _ _ _ _ _ _ _ _ 5 30 378 #[.val (.int p0), .val (.int p1), .val (.int (3 : Int32)), .val (.int (1 : Int32)), .val (.int l4), .val (.int l5), .val (.int a01), .val (.int a02), .val (.int a12), .val (.int a10), .val (.int a20), .val (.int a21), .val (.int c0), .val (.int c1), .val (.int c2), .val (.int tot), .val (.ref b16), .val (.ref b17), .val (.ref b18), .val (.int k), .val (.ref b1133), .unset, .val (.int (a10 + a20)), .val (.int (a01 + a21)), .unset] [(.ref b1139)]
  refine W.astore 380 at_378 rfl rfl #[.val (.int p0), .val (.int p1), .val (.int (3 : Int32)), .val (.int (1 : Int32)), .val (.int l4), .val (.int l5), .val (.int a01), .val (.int a02), .val (.int a12), .val (.int a10), .val (.int a20), .val (.int a21), .val (.int c0), .val (.int c1), .val (.int c2), .val (.int tot), .val (.ref b16), .val (.ref b17), .val (.ref b18), .val (.int k), .val (.ref b1133), .val (.ref b1139), .val (.int (a10 + a20)), .val (.int (a01 + a21)), .unset] rfl ?_
  refine W.iconst 381 at_380 rfl (0 : Int32) rfl ?_
  refine W.istore 383 at_381 rfl #[.val (.int p0), .val (.int p1), .val (.int (3 : Int32)), .val (.int (1 : Int32)), .val (.int l4), .val (.int l5), .val (.int a01), .val (.int a02), .val (.int a12), .val (.int a10), .val (.int a20), .val (.int a21), .val (.int c0), .val (.int c1), .val (.int c2), .val (.int tot), .val (.ref b16), .val (.ref b17), .val (.ref b18), .val (.int k), .val (.ref b1133), .val (.ref b1139), .val (.int (a10 + a20)), .val (.int (a01 + a21)), .val (.int (0 : Int32))] rfl ?_
  have q1145 := (q1141.keep K1139 nin0)
  have q1146 := (q1143.keep K1139 nin0)
  exact (u_383 l Z a0 hw p0 p1 (3 : Int32) a01 a02 a12 a10 a20 a21 c0 c1 c2 tot l4 l5 k _ _ (0 : Int32) b16 b17 b18 b1133 b1139 ls os _ _ n0 ha01 ha02 ha12 ha10 ha20 ha21 htot hn3 hls hos q1145 q1146 A1139 (by rw [List.length_replicate]) ge1139 ne1142 ne1144 rfl).mono (by decide) (by decide)
theorem t_313 (l : Launch) (Z : State) (a0 : Array Value) (hw : ∀ d ∈ tables_1, d.before a0 Z = true) (p0 p1 n d a01 a02 a12 a10 a20 a21 c0 c1 c2 tot l4 l5 k : Int32) (b16 b17 b18 : Addr) (ls os : List Value) (h : Heap) (n0 : Nat) (ha01 : own_bit a01) (ha02 : own_bit a02) (ha12 : own_bit a12) (ha10 : own_bit a10) (ha20 : own_bit a20) (ha21 : own_bit a21) (htot : tot = ((a01 + a02) + (a10 + a12) + (a20 + a21))) (hn3 : n = 0 ∨ n = 1 ∨ n = 2 ∨ n = 3) (hls : ls.length.toInt32 = n) (hos : os[n.toNatClampNeg]? = some (.int tot)) (A16 : Ary Z h b16 .long ls) (A17 : Ary Z h b17 .int os) (g16 : n0 ≤ b16) (hdd : (d = 0 ∧ a10 = a01 ∧ a20 = a02 ∧ a21 = a12) ∨ d = 1) : W l room_1 Z "com/example/eccentra/eccentra/GraphEdgeCountPinLaw" "law" code maxLocals ret n0 (fun r _ => r = some (.int 1)) h 3 20 313 #[.val (.int p0), .val (.int p1), .val (.int n), .val (.int d), .val (.int l4), .val (.int l5), .val (.int a01), .val (.int a02), .val (.int a12), .val (.int a10), .val (.int a20), .val (.int a21), .val (.int c0), .val (.int c1), .val (.int c2), .val (.int tot), .val (.ref b16), .val (.ref b17), .val (.ref b18), .val (.int k), .unset, .unset, .unset, .unset, .unset] [] := by
  rcases hdd with ⟨rfl, hun⟩ | rfl
  · exact t313_u l Z a0 hw p0 p1 n a01 a02 a12 a10 a20 a21 c0 c1 c2 tot l4 l5 k b16 b17 b18 ls os h n0 ha01 ha02 ha12 ha10 ha20 ha21 htot hn3 hls hos A16 A17 g16 hun
  · rcases hn3 with rfl | rfl | rfl | rfl
    · exact t313_0 l Z a0 hw p0 p1 a01 a02 a12 a10 a20 a21 c0 c1 c2 tot l4 l5 k b16 b17 b18 ls os h n0 ha01 ha02 ha12 ha10 ha20 ha21 htot (by decide) hls hos A16 A17 g16
    · exact t313_1 l Z a0 hw p0 p1 a01 a02 a12 a10 a20 a21 c0 c1 c2 tot l4 l5 k b16 b17 b18 ls os h n0 ha01 ha02 ha12 ha10 ha20 ha21 htot (by decide) hls hos A16 A17 g16
    · exact t313_2 l Z a0 hw p0 p1 a01 a02 a12 a10 a20 a21 c0 c1 c2 tot l4 l5 k b16 b17 b18 ls os h n0 ha01 ha02 ha12 ha10 ha20 ha21 htot (by decide) hls hos A16 A17 g16
    · exact t313_3 l Z a0 hw p0 p1 a01 a02 a12 a10 a20 a21 c0 c1 c2 tot l4 l5 k b16 b17 b18 ls os h n0 ha01 ha02 ha12 ha10 ha20 ha21 htot (by decide) hls hos A16 A17 g16
set_option maxRecDepth 65536 in
set_option maxHeartbeats 40000000 in
theorem t_298 (l : Launch) (Z : State) (a0 : Array Value) (hw : ∀ d ∈ tables_1, d.before a0 Z = true) (p0 p1 n d a01 a02 a12 a10 a20 a21 c0 c1 c2 tot l4 l5 k : Int32) (b16 b17 b18 : Addr) (ls os ts : List Value) (h : Heap) (n0 : Nat) (ha01 : own_bit a01) (ha02 : own_bit a02) (ha12 : own_bit a12) (ha10 : own_bit a10) (ha20 : own_bit a20) (ha21 : own_bit a21) (htot : tot = ((a01 + a02) + (a10 + a12) + (a20 + a21))) (hn3 : n = 0 ∨ n = 1 ∨ n = 2 ∨ n = 3) (hls : ls.length.toInt32 = n) (hos : os[n.toNatClampNeg]? = some (.int tot)) (A16 : Ary Z h b16 .long ls) (A17 : Ary Z h b17 .int os) (g16 : n0 ≤ b16) (A18 : Ary Z h b18 .int ts) (hts : ts.length = tot.toNatClampNeg) (g18 : n0 ≤ b18) (n1 : b16 ≠ b18) (n2 : b17 ≠ b18) (hdd : (d = 0 ∧ a10 = a01 ∧ a20 = a02 ∧ a21 = a12) ∨ d = 1) (hq : k = ((((((0 : Int32) + a01) + a02) + a10) + a12) + a20)) : W l room_1 Z "com/example/eccentra/eccentra/GraphEdgeCountPinLaw" "law" code maxLocals ret n0 (fun r _ => r = some (.int 1)) h 3 20 298 #[.val (.int p0), .val (.int p1), .val (.int n), .val (.int d), .val (.int l4), .val (.int l5), .val (.int a01), .val (.int a02), .val (.int a12), .val (.int a10), .val (.int a20), .val (.int a21), .val (.int c0), .val (.int c1), .val (.int c2), .val (.int tot), .val (.ref b16), .val (.ref b17), .val (.ref b18), .val (.int k), .unset, .unset, .unset, .unset, .unset] [] := by
  refine W.iload 300 at_298 rfl rfl ?_
  refine W.iconst 301 at_300 rfl (1 : Int32) rfl ?_
  refine W.icmp_ne 313 304 at_301 rfl rfl ?_ ?_
  · intro hc1147
    exact t_313 l Z a0 hw p0 p1 n d a01 a02 a12 a10 a20 a21 c0 c1 c2 tot l4 l5 k b16 b17 b18 ls os _ n0 ha01 ha02 ha12 ha10 ha20 ha21 htot hn3 hls hos A16 A17 g16 hdd
  · intro hc1147
    refine W.aload 306 at_304 rfl rfl rfl ?_
    refine W.iload 308 at_306 rfl rfl ?_
    refine W.iconst 309 at_308 rfl (1 : Int32) rfl ?_
    have hi1149 := own_it5 _ _ _ _ _ _ ha01 ha02 ha12 ha10 ha20 ha21 hc1147
    rw [← htot] at hi1149
    refine W.iastore 310 at_309 rfl A18 k.toNatClampNeg rfl (by rw [hq]; exact hi1149.1) (by rw [hts, hq]; exact hi1149.2) g18 ?_
    intro h1148 W1148 K1148 A1148
    refine W.iinc 313 at_310 rfl rfl (k + (1 : Int32)) rfl #[.val (.int p0), .val (.int p1), .val (.int n), .val (.int d), .val (.int l4), .val (.int l5), .val (.int a01), .val (.int a02), .val (.int a12), .val (.int a10), .val (.int a20), .val (.int a21), .val (.int c0), .val (.int c1), .val (.int c2), .val (.int tot), .val (.ref b16), .val (.ref b17), .val (.ref b18), .val (.int (k + (1 : Int32))), .unset, .unset, .unset, .unset, .unset] rfl ?_
    have q1150 := (A16.keep K1148 (ninS n1 nin0))
    have q1151 := (A17.keep K1148 (ninS n2 nin0))
    exact t_313 l Z a0 hw p0 p1 n d a01 a02 a12 a10 a20 a21 c0 c1 c2 tot l4 l5 (k + (1 : Int32)) b16 b17 b18 ls os _ n0 ha01 ha02 ha12 ha10 ha20 ha21 htot hn3 hls hos q1150 q1151 g16 hdd
set_option maxRecDepth 65536 in
set_option maxHeartbeats 40000000 in
theorem t_283 (l : Launch) (Z : State) (a0 : Array Value) (hw : ∀ d ∈ tables_1, d.before a0 Z = true) (p0 p1 n d a01 a02 a12 a10 a20 a21 c0 c1 c2 tot l4 l5 k : Int32) (b16 b17 b18 : Addr) (ls os ts : List Value) (h : Heap) (n0 : Nat) (ha01 : own_bit a01) (ha02 : own_bit a02) (ha12 : own_bit a12) (ha10 : own_bit a10) (ha20 : own_bit a20) (ha21 : own_bit a21) (htot : tot = ((a01 + a02) + (a10 + a12) + (a20 + a21))) (hn3 : n = 0 ∨ n = 1 ∨ n = 2 ∨ n = 3) (hls : ls.length.toInt32 = n) (hos : os[n.toNatClampNeg]? = some (.int tot)) (A16 : Ary Z h b16 .long ls) (A17 : Ary Z h b17 .int os) (g16 : n0 ≤ b16) (A18 : Ary Z h b18 .int ts) (hts : ts.length = tot.toNatClampNeg) (g18 : n0 ≤ b18) (n1 : b16 ≠ b18) (n2 : b17 ≠ b18) (hdd : (d = 0 ∧ a10 = a01 ∧ a20 = a02 ∧ a21 = a12) ∨ d = 1) (hq : k = (((((0 : Int32) + a01) + a02) + a10) + a12)) : W l room_1 Z "com/example/eccentra/eccentra/GraphEdgeCountPinLaw" "law" code maxLocals ret n0 (fun r _ => r = some (.int 1)) h 3 20 283 #[.val (.int p0), .val (.int p1), .val (.int n), .val (.int d), .val (.int l4), .val (.int l5), .val (.int a01), .val (.int a02), .val (.int a12), .val (.int a10), .val (.int a20), .val (.int a21), .val (.int c0), .val (.int c1), .val (.int c2), .val (.int tot), .val (.ref b16), .val (.ref b17), .val (.ref b18), .val (.int k), .unset, .unset, .unset, .unset, .unset] [] := by
  refine W.iload 285 at_283 rfl rfl ?_
  refine W.iconst 286 at_285 rfl (1 : Int32) rfl ?_
  refine W.icmp_ne 298 289 at_286 rfl rfl ?_ ?_
  · intro hc1152
    exact t_298 l Z a0 hw p0 p1 n d a01 a02 a12 a10 a20 a21 c0 c1 c2 tot l4 l5 k b16 b17 b18 ls os _ _ n0 ha01 ha02 ha12 ha10 ha20 ha21 htot hn3 hls hos A16 A17 g16 A18 hts g18 n1 n2 hdd (by rw [hq, own_not1 ha20 hc1152]; exact (own_add0 _).symm)
  · intro hc1152
    refine W.aload 291 at_289 rfl rfl rfl ?_
    refine W.iload 293 at_291 rfl rfl ?_
    refine W.iconst 294 at_293 rfl (0 : Int32) rfl ?_
    have hi1154 := own_it4 _ _ _ _ _ _ ha01 ha02 ha12 ha10 ha20 ha21 hc1152
    rw [← htot] at hi1154
    refine W.iastore 295 at_294 rfl A18 k.toNatClampNeg rfl (by rw [hq]; exact hi1154.1) (by rw [hts, hq]; exact hi1154.2) g18 ?_
    intro h1153 W1153 K1153 A1153
    refine W.iinc 298 at_295 rfl rfl (k + (1 : Int32)) rfl #[.val (.int p0), .val (.int p1), .val (.int n), .val (.int d), .val (.int l4), .val (.int l5), .val (.int a01), .val (.int a02), .val (.int a12), .val (.int a10), .val (.int a20), .val (.int a21), .val (.int c0), .val (.int c1), .val (.int c2), .val (.int tot), .val (.ref b16), .val (.ref b17), .val (.ref b18), .val (.int (k + (1 : Int32))), .unset, .unset, .unset, .unset, .unset] rfl ?_
    have q1155 := (A16.keep K1153 (ninS n1 nin0))
    have q1156 := (A17.keep K1153 (ninS n2 nin0))
    exact t_298 l Z a0 hw p0 p1 n d a01 a02 a12 a10 a20 a21 c0 c1 c2 tot l4 l5 (k + (1 : Int32)) b16 b17 b18 ls os _ _ n0 ha01 ha02 ha12 ha10 ha20 ha21 htot hn3 hls hos q1155 q1156 g16 A1153 (by rw [List.length_set]; exact hts) g18 n1 n2 hdd (by rw [hq, hc1152])
set_option maxRecDepth 65536 in
set_option maxHeartbeats 40000000 in
theorem t_268 (l : Launch) (Z : State) (a0 : Array Value) (hw : ∀ d ∈ tables_1, d.before a0 Z = true) (p0 p1 n d a01 a02 a12 a10 a20 a21 c0 c1 c2 tot l4 l5 k : Int32) (b16 b17 b18 : Addr) (ls os ts : List Value) (h : Heap) (n0 : Nat) (ha01 : own_bit a01) (ha02 : own_bit a02) (ha12 : own_bit a12) (ha10 : own_bit a10) (ha20 : own_bit a20) (ha21 : own_bit a21) (htot : tot = ((a01 + a02) + (a10 + a12) + (a20 + a21))) (hn3 : n = 0 ∨ n = 1 ∨ n = 2 ∨ n = 3) (hls : ls.length.toInt32 = n) (hos : os[n.toNatClampNeg]? = some (.int tot)) (A16 : Ary Z h b16 .long ls) (A17 : Ary Z h b17 .int os) (g16 : n0 ≤ b16) (A18 : Ary Z h b18 .int ts) (hts : ts.length = tot.toNatClampNeg) (g18 : n0 ≤ b18) (n1 : b16 ≠ b18) (n2 : b17 ≠ b18) (hdd : (d = 0 ∧ a10 = a01 ∧ a20 = a02 ∧ a21 = a12) ∨ d = 1) (hq : k = ((((0 : Int32) + a01) + a02) + a10)) : W l room_1 Z "com/example/eccentra/eccentra/GraphEdgeCountPinLaw" "law" code maxLocals ret n0 (fun r _ => r = some (.int 1)) h 3 20 268 #[.val (.int p0), .val (.int p1), .val (.int n), .val (.int d), .val (.int l4), .val (.int l5), .val (.int a01), .val (.int a02), .val (.int a12), .val (.int a10), .val (.int a20), .val (.int a21), .val (.int c0), .val (.int c1), .val (.int c2), .val (.int tot), .val (.ref b16), .val (.ref b17), .val (.ref b18), .val (.int k), .unset, .unset, .unset, .unset, .unset] [] := by
  refine W.iload 270 at_268 rfl rfl ?_
  refine W.iconst 271 at_270 rfl (1 : Int32) rfl ?_
  refine W.icmp_ne 283 274 at_271 rfl rfl ?_ ?_
  · intro hc1157
    exact t_283 l Z a0 hw p0 p1 n d a01 a02 a12 a10 a20 a21 c0 c1 c2 tot l4 l5 k b16 b17 b18 ls os _ _ n0 ha01 ha02 ha12 ha10 ha20 ha21 htot hn3 hls hos A16 A17 g16 A18 hts g18 n1 n2 hdd (by rw [hq, own_not1 ha12 hc1157]; exact (own_add0 _).symm)
  · intro hc1157
    refine W.aload 276 at_274 rfl rfl rfl ?_
    refine W.iload 278 at_276 rfl rfl ?_
    refine W.iconst 279 at_278 rfl (2 : Int32) rfl ?_
    have hi1159 := own_it3 _ _ _ _ _ _ ha01 ha02 ha12 ha10 ha20 ha21 hc1157
    rw [← htot] at hi1159
    refine W.iastore 280 at_279 rfl A18 k.toNatClampNeg rfl (by rw [hq]; exact hi1159.1) (by rw [hts, hq]; exact hi1159.2) g18 ?_
    intro h1158 W1158 K1158 A1158
    refine W.iinc 283 at_280 rfl rfl (k + (1 : Int32)) rfl #[.val (.int p0), .val (.int p1), .val (.int n), .val (.int d), .val (.int l4), .val (.int l5), .val (.int a01), .val (.int a02), .val (.int a12), .val (.int a10), .val (.int a20), .val (.int a21), .val (.int c0), .val (.int c1), .val (.int c2), .val (.int tot), .val (.ref b16), .val (.ref b17), .val (.ref b18), .val (.int (k + (1 : Int32))), .unset, .unset, .unset, .unset, .unset] rfl ?_
    have q1160 := (A16.keep K1158 (ninS n1 nin0))
    have q1161 := (A17.keep K1158 (ninS n2 nin0))
    exact t_283 l Z a0 hw p0 p1 n d a01 a02 a12 a10 a20 a21 c0 c1 c2 tot l4 l5 (k + (1 : Int32)) b16 b17 b18 ls os _ _ n0 ha01 ha02 ha12 ha10 ha20 ha21 htot hn3 hls hos q1160 q1161 g16 A1158 (by rw [List.length_set]; exact hts) g18 n1 n2 hdd (by rw [hq, hc1157])
set_option maxRecDepth 65536 in
set_option maxHeartbeats 40000000 in
theorem t_253 (l : Launch) (Z : State) (a0 : Array Value) (hw : ∀ d ∈ tables_1, d.before a0 Z = true) (p0 p1 n d a01 a02 a12 a10 a20 a21 c0 c1 c2 tot l4 l5 k : Int32) (b16 b17 b18 : Addr) (ls os ts : List Value) (h : Heap) (n0 : Nat) (ha01 : own_bit a01) (ha02 : own_bit a02) (ha12 : own_bit a12) (ha10 : own_bit a10) (ha20 : own_bit a20) (ha21 : own_bit a21) (htot : tot = ((a01 + a02) + (a10 + a12) + (a20 + a21))) (hn3 : n = 0 ∨ n = 1 ∨ n = 2 ∨ n = 3) (hls : ls.length.toInt32 = n) (hos : os[n.toNatClampNeg]? = some (.int tot)) (A16 : Ary Z h b16 .long ls) (A17 : Ary Z h b17 .int os) (g16 : n0 ≤ b16) (A18 : Ary Z h b18 .int ts) (hts : ts.length = tot.toNatClampNeg) (g18 : n0 ≤ b18) (n1 : b16 ≠ b18) (n2 : b17 ≠ b18) (hdd : (d = 0 ∧ a10 = a01 ∧ a20 = a02 ∧ a21 = a12) ∨ d = 1) (hq : k = (((0 : Int32) + a01) + a02)) : W l room_1 Z "com/example/eccentra/eccentra/GraphEdgeCountPinLaw" "law" code maxLocals ret n0 (fun r _ => r = some (.int 1)) h 3 20 253 #[.val (.int p0), .val (.int p1), .val (.int n), .val (.int d), .val (.int l4), .val (.int l5), .val (.int a01), .val (.int a02), .val (.int a12), .val (.int a10), .val (.int a20), .val (.int a21), .val (.int c0), .val (.int c1), .val (.int c2), .val (.int tot), .val (.ref b16), .val (.ref b17), .val (.ref b18), .val (.int k), .unset, .unset, .unset, .unset, .unset] [] := by
  refine W.iload 255 at_253 rfl rfl ?_
  refine W.iconst 256 at_255 rfl (1 : Int32) rfl ?_
  refine W.icmp_ne 268 259 at_256 rfl rfl ?_ ?_
  · intro hc1162
    exact t_268 l Z a0 hw p0 p1 n d a01 a02 a12 a10 a20 a21 c0 c1 c2 tot l4 l5 k b16 b17 b18 ls os _ _ n0 ha01 ha02 ha12 ha10 ha20 ha21 htot hn3 hls hos A16 A17 g16 A18 hts g18 n1 n2 hdd (by rw [hq, own_not1 ha10 hc1162]; exact (own_add0 _).symm)
  · intro hc1162
    refine W.aload 261 at_259 rfl rfl rfl ?_
    refine W.iload 263 at_261 rfl rfl ?_
    refine W.iconst 264 at_263 rfl (0 : Int32) rfl ?_
    have hi1164 := own_it2 _ _ _ _ _ _ ha01 ha02 ha12 ha10 ha20 ha21 hc1162
    rw [← htot] at hi1164
    refine W.iastore 265 at_264 rfl A18 k.toNatClampNeg rfl (by rw [hq]; exact hi1164.1) (by rw [hts, hq]; exact hi1164.2) g18 ?_
    intro h1163 W1163 K1163 A1163
    refine W.iinc 268 at_265 rfl rfl (k + (1 : Int32)) rfl #[.val (.int p0), .val (.int p1), .val (.int n), .val (.int d), .val (.int l4), .val (.int l5), .val (.int a01), .val (.int a02), .val (.int a12), .val (.int a10), .val (.int a20), .val (.int a21), .val (.int c0), .val (.int c1), .val (.int c2), .val (.int tot), .val (.ref b16), .val (.ref b17), .val (.ref b18), .val (.int (k + (1 : Int32))), .unset, .unset, .unset, .unset, .unset] rfl ?_
    have q1165 := (A16.keep K1163 (ninS n1 nin0))
    have q1166 := (A17.keep K1163 (ninS n2 nin0))
    exact t_268 l Z a0 hw p0 p1 n d a01 a02 a12 a10 a20 a21 c0 c1 c2 tot l4 l5 (k + (1 : Int32)) b16 b17 b18 ls os _ _ n0 ha01 ha02 ha12 ha10 ha20 ha21 htot hn3 hls hos q1165 q1166 g16 A1163 (by rw [List.length_set]; exact hts) g18 n1 n2 hdd (by rw [hq, hc1162])
set_option maxRecDepth 65536 in
set_option maxHeartbeats 40000000 in
theorem t_238 (l : Launch) (Z : State) (a0 : Array Value) (hw : ∀ d ∈ tables_1, d.before a0 Z = true) (p0 p1 n d a01 a02 a12 a10 a20 a21 c0 c1 c2 tot l4 l5 k : Int32) (b16 b17 b18 : Addr) (ls os ts : List Value) (h : Heap) (n0 : Nat) (ha01 : own_bit a01) (ha02 : own_bit a02) (ha12 : own_bit a12) (ha10 : own_bit a10) (ha20 : own_bit a20) (ha21 : own_bit a21) (htot : tot = ((a01 + a02) + (a10 + a12) + (a20 + a21))) (hn3 : n = 0 ∨ n = 1 ∨ n = 2 ∨ n = 3) (hls : ls.length.toInt32 = n) (hos : os[n.toNatClampNeg]? = some (.int tot)) (A16 : Ary Z h b16 .long ls) (A17 : Ary Z h b17 .int os) (g16 : n0 ≤ b16) (A18 : Ary Z h b18 .int ts) (hts : ts.length = tot.toNatClampNeg) (g18 : n0 ≤ b18) (n1 : b16 ≠ b18) (n2 : b17 ≠ b18) (hdd : (d = 0 ∧ a10 = a01 ∧ a20 = a02 ∧ a21 = a12) ∨ d = 1) (hq : k = ((0 : Int32) + a01)) : W l room_1 Z "com/example/eccentra/eccentra/GraphEdgeCountPinLaw" "law" code maxLocals ret n0 (fun r _ => r = some (.int 1)) h 3 20 238 #[.val (.int p0), .val (.int p1), .val (.int n), .val (.int d), .val (.int l4), .val (.int l5), .val (.int a01), .val (.int a02), .val (.int a12), .val (.int a10), .val (.int a20), .val (.int a21), .val (.int c0), .val (.int c1), .val (.int c2), .val (.int tot), .val (.ref b16), .val (.ref b17), .val (.ref b18), .val (.int k), .unset, .unset, .unset, .unset, .unset] [] := by
  refine W.iload 240 at_238 rfl rfl ?_
  refine W.iconst 241 at_240 rfl (1 : Int32) rfl ?_
  refine W.icmp_ne 253 244 at_241 rfl rfl ?_ ?_
  · intro hc1167
    exact t_253 l Z a0 hw p0 p1 n d a01 a02 a12 a10 a20 a21 c0 c1 c2 tot l4 l5 k b16 b17 b18 ls os _ _ n0 ha01 ha02 ha12 ha10 ha20 ha21 htot hn3 hls hos A16 A17 g16 A18 hts g18 n1 n2 hdd (by rw [hq, own_not1 ha02 hc1167]; exact (own_add0 _).symm)
  · intro hc1167
    refine W.aload 246 at_244 rfl rfl rfl ?_
    refine W.iload 248 at_246 rfl rfl ?_
    refine W.iconst 249 at_248 rfl (2 : Int32) rfl ?_
    have hi1169 := own_it1 _ _ _ _ _ _ ha01 ha02 ha12 ha10 ha20 ha21 hc1167
    rw [← htot] at hi1169
    refine W.iastore 250 at_249 rfl A18 k.toNatClampNeg rfl (by rw [hq]; exact hi1169.1) (by rw [hts, hq]; exact hi1169.2) g18 ?_
    intro h1168 W1168 K1168 A1168
    refine W.iinc 253 at_250 rfl rfl (k + (1 : Int32)) rfl #[.val (.int p0), .val (.int p1), .val (.int n), .val (.int d), .val (.int l4), .val (.int l5), .val (.int a01), .val (.int a02), .val (.int a12), .val (.int a10), .val (.int a20), .val (.int a21), .val (.int c0), .val (.int c1), .val (.int c2), .val (.int tot), .val (.ref b16), .val (.ref b17), .val (.ref b18), .val (.int (k + (1 : Int32))), .unset, .unset, .unset, .unset, .unset] rfl ?_
    have q1170 := (A16.keep K1168 (ninS n1 nin0))
    have q1171 := (A17.keep K1168 (ninS n2 nin0))
    exact t_253 l Z a0 hw p0 p1 n d a01 a02 a12 a10 a20 a21 c0 c1 c2 tot l4 l5 (k + (1 : Int32)) b16 b17 b18 ls os _ _ n0 ha01 ha02 ha12 ha10 ha20 ha21 htot hn3 hls hos q1170 q1171 g16 A1168 (by rw [List.length_set]; exact hts) g18 n1 n2 hdd (by rw [hq, hc1167])
set_option maxRecDepth 65536 in
set_option maxHeartbeats 40000000 in
theorem t_223 (l : Launch) (Z : State) (a0 : Array Value) (hw : ∀ d ∈ tables_1, d.before a0 Z = true) (p0 p1 n d a01 a02 a12 a10 a20 a21 c0 c1 c2 tot l4 l5 k : Int32) (b16 b17 b18 : Addr) (ls os ts : List Value) (h : Heap) (n0 : Nat) (ha01 : own_bit a01) (ha02 : own_bit a02) (ha12 : own_bit a12) (ha10 : own_bit a10) (ha20 : own_bit a20) (ha21 : own_bit a21) (htot : tot = ((a01 + a02) + (a10 + a12) + (a20 + a21))) (hn3 : n = 0 ∨ n = 1 ∨ n = 2 ∨ n = 3) (hls : ls.length.toInt32 = n) (hos : os[n.toNatClampNeg]? = some (.int tot)) (A16 : Ary Z h b16 .long ls) (A17 : Ary Z h b17 .int os) (g16 : n0 ≤ b16) (A18 : Ary Z h b18 .int ts) (hts : ts.length = tot.toNatClampNeg) (g18 : n0 ≤ b18) (n1 : b16 ≠ b18) (n2 : b17 ≠ b18) (hdd : (d = 0 ∧ a10 = a01 ∧ a20 = a02 ∧ a21 = a12) ∨ d = 1) (hq : k = (0 : Int32)) : W l room_1 Z "com/example/eccentra/eccentra/GraphEdgeCountPinLaw" "law" code maxLocals ret n0 (fun r _ => r = some (.int 1)) h 3 20 223 #[.val (.int p0), .val (.int p1), .val (.int n), .val (.int d), .val (.int l4), .val (.int l5), .val (.int a01), .val (.int a02), .val (.int a12), .val (.int a10), .val (.int a20), .val (.int a21), .val (.int c0), .val (.int c1), .val (.int c2), .val (.int tot), .val (.ref b16), .val (.ref b17), .val (.ref b18), .val (.int k), .unset, .unset, .unset, .unset, .unset] [] := by
  refine W.iload 225 at_223 rfl rfl ?_
  refine W.iconst 226 at_225 rfl (1 : Int32) rfl ?_
  refine W.icmp_ne 238 229 at_226 rfl rfl ?_ ?_
  · intro hc1172
    exact t_238 l Z a0 hw p0 p1 n d a01 a02 a12 a10 a20 a21 c0 c1 c2 tot l4 l5 k b16 b17 b18 ls os _ _ n0 ha01 ha02 ha12 ha10 ha20 ha21 htot hn3 hls hos A16 A17 g16 A18 hts g18 n1 n2 hdd (by rw [hq, own_not1 ha01 hc1172]; exact (own_add0 _).symm)
  · intro hc1172
    refine W.aload 231 at_229 rfl rfl rfl ?_
    refine W.iload 233 at_231 rfl rfl ?_
    refine W.iconst 234 at_233 rfl (1 : Int32) rfl ?_
    have hi1174 := own_it0 _ _ _ _ _ _ ha01 ha02 ha12 ha10 ha20 ha21 hc1172
    rw [← htot] at hi1174
    refine W.iastore 235 at_234 rfl A18 k.toNatClampNeg rfl (by rw [hq]; exact hi1174.1) (by rw [hts, hq]; exact hi1174.2) g18 ?_
    intro h1173 W1173 K1173 A1173
    refine W.iinc 238 at_235 rfl rfl (k + (1 : Int32)) rfl #[.val (.int p0), .val (.int p1), .val (.int n), .val (.int d), .val (.int l4), .val (.int l5), .val (.int a01), .val (.int a02), .val (.int a12), .val (.int a10), .val (.int a20), .val (.int a21), .val (.int c0), .val (.int c1), .val (.int c2), .val (.int tot), .val (.ref b16), .val (.ref b17), .val (.ref b18), .val (.int (k + (1 : Int32))), .unset, .unset, .unset, .unset, .unset] rfl ?_
    have q1175 := (A16.keep K1173 (ninS n1 nin0))
    have q1176 := (A17.keep K1173 (ninS n2 nin0))
    exact t_238 l Z a0 hw p0 p1 n d a01 a02 a12 a10 a20 a21 c0 c1 c2 tot l4 l5 (k + (1 : Int32)) b16 b17 b18 ls os _ _ n0 ha01 ha02 ha12 ha10 ha20 ha21 htot hn3 hls hos q1175 q1176 g16 A1173 (by rw [List.length_set]; exact hts) g18 n1 n2 hdd (by rw [hq, hc1172])
theorem own_b0 : own_bit 0 := Or.inl rfl
set_option maxRecDepth 65536 in
set_option maxHeartbeats 40000000 in
theorem law_00 (l : Launch) (Z : State) (a0 : Array Value) (hw : ∀ d ∈ tables_1, d.before a0 Z = true) (p0 p1 : Int32) (h : Heap) (n0 : Nat) (hn : n0 ≤ h.size) (hN : (p0 &&& (3 : Int32)) = (0 : Int32)) (hD : (p0 &&& (4 : Int32)) = (0 : Int32)) : ConW tables_1 l Z x code maxLocals ret room_1 #[(.int p0), (.int p1)] h n0 (fun r _ => r = some (.int 1)) := by
  refine ConW.of_W (Ls := #[.val (.int p0), .val (.int p1), .unset, .unset, .unset, .unset, .unset, .unset, .unset, .unset, .unset, .unset, .unset, .unset, .unset, .unset, .unset, .unset, .unset, .unset, .unset, .unset, .unset, .unset, .unset]) (plainFor_of_name pn_0) hn (fun m => by first | (simp [entryFrame, mkF, argsToLocals, Value.category, maxLocals]; done) | rfl) ?_
  refine W.iloadN 1 at_0 rfl rfl ?_
  refine W.iconst 2 at_1 rfl (3 : Int32) rfl ?_
  refine W.iand 3 at_2 rfl (0 : Int32) hN ?_
  refine W.istoreN 4 at_3 rfl #[.val (.int p0), .val (.int p1), .val (.int (0 : Int32)), .unset, .unset, .unset, .unset, .unset, .unset, .unset, .unset, .unset, .unset, .unset, .unset, .unset, .unset, .unset, .unset, .unset, .unset, .unset, .unset, .unset, .unset] rfl ?_
  refine W.iloadN 5 at_4 rfl rfl ?_
  refine W.iconst 6 at_5 rfl (4 : Int32) rfl ?_
  refine W.iand 7 at_6 rfl (0 : Int32) hD ?_
  refine W.if_eq 14 10 at_7 rfl rfl (fun _ => ?_) (fun hc => absurd (by decide) hc)
  refine W.iconst 15 at_14 rfl (0 : Int32) rfl ?_
  refine W.istoreN 16 at_15 rfl #[.val (.int p0), .val (.int p1), .val (.int (0 : Int32)), .val (.int (0 : Int32)), .unset, .unset, .unset, .unset, .unset, .unset, .unset, .unset, .unset, .unset, .unset, .unset, .unset, .unset, .unset, .unset, .unset, .unset, .unset, .unset, .unset] rfl ?_
  refine W.iloadN 17 at_16 rfl rfl ?_
  refine W.iconst 18 at_17 rfl (2 : Int32) rfl ?_
  refine W.icmp_lt 25 21 at_18 rfl rfl (fun _ => ?_) (fun hc => absurd (by decide) hc)
  refine W.iconst 26 at_25 rfl (0 : Int32) rfl ?_
  refine W.istore 28 at_26 rfl #[.val (.int p0), .val (.int p1), .val (.int (0 : Int32)), .val (.int (0 : Int32)), .val (.int (0 : Int32)), .unset, .unset, .unset, .unset, .unset, .unset, .unset, .unset, .unset, .unset, .unset, .unset, .unset, .unset, .unset, .unset, .unset, .unset, .unset, .unset] rfl ?_
  refine W.iloadN 29 at_28 rfl rfl ?_
  refine W.iconst 30 at_29 rfl (3 : Int32) rfl ?_
  refine W.icmp_lt 37 33 at_30 rfl rfl (fun _ => ?_) (fun hc => absurd (by decide) hc)
  refine W.iconst 38 at_37 rfl (0 : Int32) rfl ?_
  refine W.istore 40 at_38 rfl #[.val (.int p0), .val (.int p1), .val (.int (0 : Int32)), .val (.int (0 : Int32)), .val (.int (0 : Int32)), .val (.int (0 : Int32)), .unset, .unset, .unset, .unset, .unset, .unset, .unset, .unset, .unset, .unset, .unset, .unset, .unset, .unset, .unset, .unset, .unset, .unset, .unset] rfl ?_
  refine W.iloadN 41 at_40 rfl rfl ?_
  refine W.iconst 42 at_41 rfl (0 : Int32) rfl ?_
  refine W.iload 44 at_42 rfl rfl ?_
  refine W.callS (rest := []) (argsL := [(.int p1), (.int (0 : Int32)), (.int (0 : Int32))]) 47 at_44 rfl (fun hn => c_bit0 l Z a0 hw p1 (0 : Int32) _ n0 hn) (wd_0 hw) (wd_1 hw) (wd_2 hw) (wd_3 hw) (by decide) pd_2 rfl rfl rfl (by decide) 0 (Nat.le_of_ble_eq_true rfl) (by decide) (by decide) (by decide) ?_
  rintro v1177 h1177 ⟨rfl, rfl⟩
  show W _ _ _ _ _ _ _ _ _ _ _ 0 0 47 #[.val (.int p0), .val (.int p1), .val (.int (0 : Int32)), .val (.int (0 : Int32)), .val (.int (0 : Int32)), .val (.int (0 : Int32)), .unset, .unset, .unset, .unset, .unset, .unset, .unset, .unset, .unset, .unset, .unset, .unset, .unset, .unset, .unset, .unset, .unset, .unset, .unset] [(.int (0 : Int32))]
  refine W.istore 49 at_47 rfl #[.val (.int p0), .val (.int p1), .val (.int (0 : Int32)), .val (.int (0 : Int32)), .val (.int (0 : Int32)), .val (.int (0 : Int32)), .val (.int (0 : Int32)), .unset, .unset, .unset, .unset, .unset, .unset, .unset, .unset, .unset, .unset, .unset, .unset, .unset, .unset, .unset, .unset, .unset, .unset] rfl ?_
  refine W.iloadN 50 at_49 rfl rfl ?_
  refine W.iconst 51 at_50 rfl (1 : Int32) rfl ?_
  refine W.iload 53 at_51 rfl rfl ?_
  refine W.callS (rest := []) (argsL := [(.int p1), (.int (1 : Int32)), (.int (0 : Int32))]) 56 at_53 rfl (fun hn => c_bit0 l Z a0 hw p1 (1 : Int32) _ n0 hn) (wd_0 hw) (wd_1 hw) (wd_2 hw) (wd_3 hw) (by decide) pd_2 rfl rfl rfl (by decide) 0 (Nat.le_of_ble_eq_true rfl) (by decide) (by decide) (by decide) ?_
  rintro v1178 h1178 ⟨rfl, rfl⟩
  show W _ _ _ _ _ _ _ _ _ _ _ 0 0 56 #[.val (.int p0), .val (.int p1), .val (.int (0 : Int32)), .val (.int (0 : Int32)), .val (.int (0 : Int32)), .val (.int (0 : Int32)), .val (.int (0 : Int32)), .unset, .unset, .unset, .unset, .unset, .unset, .unset, .unset, .unset, .unset, .unset, .unset, .unset, .unset, .unset, .unset, .unset, .unset] [(.int (0 : Int32))]
  refine W.istore 58 at_56 rfl #[.val (.int p0), .val (.int p1), .val (.int (0 : Int32)), .val (.int (0 : Int32)), .val (.int (0 : Int32)), .val (.int (0 : Int32)), .val (.int (0 : Int32)), .val (.int (0 : Int32)), .unset, .unset, .unset, .unset, .unset, .unset, .unset, .unset, .unset, .unset, .unset, .unset, .unset, .unset, .unset, .unset, .unset] rfl ?_
  refine W.iloadN 59 at_58 rfl rfl ?_
  refine W.iconst 60 at_59 rfl (3 : Int32) rfl ?_
  refine W.iload 62 at_60 rfl rfl ?_
  refine W.callS (rest := []) (argsL := [(.int p1), (.int (3 : Int32)), (.int (0 : Int32))]) 65 at_62 rfl (fun hn => c_bit0 l Z a0 hw p1 (3 : Int32) _ n0 hn) (wd_0 hw) (wd_1 hw) (wd_2 hw) (wd_3 hw) (by decide) pd_2 rfl rfl rfl (by decide) 0 (Nat.le_of_ble_eq_true rfl) (by decide) (by decide) (by decide) ?_
  rintro v1179 h1179 ⟨rfl, rfl⟩
  show W _ _ _ _ _ _ _ _ _ _ _ 0 0 65 #[.val (.int p0), .val (.int p1), .val (.int (0 : Int32)), .val (.int (0 : Int32)), .val (.int (0 : Int32)), .val (.int (0 : Int32)), .val (.int (0 : Int32)), .val (.int (0 : Int32)), .unset, .unset, .unset, .unset, .unset, .unset, .unset, .unset, .unset, .unset, .unset, .unset, .unset, .unset, .unset, .unset, .unset] [(.int (0 : Int32))]
  refine W.istore 67 at_65 rfl #[.val (.int p0), .val (.int p1), .val (.int (0 : Int32)), .val (.int (0 : Int32)), .val (.int (0 : Int32)), .val (.int (0 : Int32)), .val (.int (0 : Int32)), .val (.int (0 : Int32)), .val (.int (0 : Int32)), .unset, .unset, .unset, .unset, .unset, .unset, .unset, .unset, .unset, .unset, .unset, .unset, .unset, .unset, .unset, .unset] rfl ?_
  refine W.iloadN 68 at_67 rfl rfl ?_
  refine W.if_eq 101 71 at_68 rfl rfl (fun _ => ?_) (fun hc => absurd (by decide) hc)
  refine W.iload 103 at_101 rfl rfl ?_
  refine W.istore 105 at_103 rfl #[.val (.int p0), .val (.int p1), .val (.int (0 : Int32)), .val (.int (0 : Int32)), .val (.int (0 : Int32)), .val (.int (0 : Int32)), .val (.int (0 : Int32)), .val (.int (0 : Int32)), .val (.int (0 : Int32)), .val (.int (0 : Int32)), .unset, .unset, .unset, .unset, .unset, .unset, .unset, .unset, .unset, .unset, .unset, .unset, .unset, .unset, .unset] rfl ?_
  refine W.iload 107 at_105 rfl rfl ?_
  refine W.istore 109 at_107 rfl #[.val (.int p0), .val (.int p1), .val (.int (0 : Int32)), .val (.int (0 : Int32)), .val (.int (0 : Int32)), .val (.int (0 : Int32)), .val (.int (0 : Int32)), .val (.int (0 : Int32)), .val (.int (0 : Int32)), .val (.int (0 : Int32)), .val (.int (0 : Int32)), .unset, .unset, .unset, .unset, .unset, .unset, .unset, .unset, .unset, .unset, .unset, .unset, .unset, .unset] rfl ?_
  refine W.iload 111 at_109 rfl rfl ?_
  refine W.istore 113 at_111 rfl #[.val (.int p0), .val (.int p1), .val (.int (0 : Int32)), .val (.int (0 : Int32)), .val (.int (0 : Int32)), .val (.int (0 : Int32)), .val (.int (0 : Int32)), .val (.int (0 : Int32)), .val (.int (0 : Int32)), .val (.int (0 : Int32)), .val (.int (0 : Int32)), .val (.int (0 : Int32)), .unset, .unset, .unset, .unset, .unset, .unset, .unset, .unset, .unset, .unset, .unset, .unset, .unset] rfl ?_
  refine W.iload 115 at_113 rfl rfl ?_
  refine W.iload 117 at_115 rfl rfl ?_
  refine W.iadd 118 at_117 rfl (0 : Int32) (by decide) ?_
  refine W.istore 120 at_118 rfl #[.val (.int p0), .val (.int p1), .val (.int (0 : Int32)), .val (.int (0 : Int32)), .val (.int (0 : Int32)), .val (.int (0 : Int32)), .val (.int (0 : Int32)), .val (.int (0 : Int32)), .val (.int (0 : Int32)), .val (.int (0 : Int32)), .val (.int (0 : Int32)), .val (.int (0 : Int32)), .val (.int (0 : Int32)), .unset, .unset, .unset, .unset, .unset, .unset, .unset, .unset, .unset, .unset, .unset, .unset] rfl ?_
  refine W.iload 122 at_120 rfl rfl ?_
  refine W.iload 124 at_122 rfl rfl ?_
  refine W.iadd 125 at_124 rfl (0 : Int32) (by decide) ?_
  refine W.istore 127 at_125 rfl #[.val (.int p0), .val (.int p1), .val (.int (0 : Int32)), .val (.int (0 : Int32)), .val (.int (0 : Int32)), .val (.int (0 : Int32)), .val (.int (0 : Int32)), .val (.int (0 : Int32)), .val (.int (0 : Int32)), .val (.int (0 : Int32)), .val (.int (0 : Int32)), .val (.int (0 : Int32)), .val (.int (0 : Int32)), .val (.int (0 : Int32)), .unset, .unset, .unset, .unset, .unset, .unset, .unset, .unset, .unset, .unset, .unset] rfl ?_
  refine W.iload 129 at_127 rfl rfl ?_
  refine W.iload 131 at_129 rfl rfl ?_
  refine W.iadd 132 at_131 rfl (0 : Int32) (by decide) ?_
  refine W.istore 134 at_132 rfl #[.val (.int p0), .val (.int p1), .val (.int (0 : Int32)), .val (.int (0 : Int32)), .val (.int (0 : Int32)), .val (.int (0 : Int32)), .val (.int (0 : Int32)), .val (.int (0 : Int32)), .val (.int (0 : Int32)), .val (.int (0 : Int32)), .val (.int (0 : Int32)), .val (.int (0 : Int32)), .val (.int (0 : Int32)), .val (.int (0 : Int32)), .val (.int (0 : Int32)), .unset, .unset, .unset, .unset, .unset, .unset, .unset, .unset, .unset, .unset] rfl ?_
  refine W.iload 136 at_134 rfl rfl ?_
  refine W.iload 138 at_136 rfl rfl ?_
  refine W.iadd 139 at_138 rfl (0 : Int32) (by decide) ?_
  refine W.iload 141 at_139 rfl rfl ?_
  refine W.iadd 142 at_141 rfl (0 : Int32) (by decide) ?_
  refine W.istore 144 at_142 rfl #[.val (.int p0), .val (.int p1), .val (.int (0 : Int32)), .val (.int (0 : Int32)), .val (.int (0 : Int32)), .val (.int (0 : Int32)), .val (.int (0 : Int32)), .val (.int (0 : Int32)), .val (.int (0 : Int32)), .val (.int (0 : Int32)), .val (.int (0 : Int32)), .val (.int (0 : Int32)), .val (.int (0 : Int32)), .val (.int (0 : Int32)), .val (.int (0 : Int32)), .val (.int (0 : Int32)), .unset, .unset, .unset, .unset, .unset, .unset, .unset, .unset, .unset] rfl ?_
  refine W.iloadN 145 at_144 rfl rfl ?_
  refine W.newarray 147 at_145 rfl (wd_4 hw) rfl (by decide) 0 0 (by decide) (by decide) (by decide) (by decide) (by decide) rfl ?_
  intro h1180 b1180 g1180 ge1180 X1180 K1180 A1180
  have A1180 : Ary _ _ b1180 .long [] := A1180
  show W _ _ _ _ _ _ _ _ _ _ _ 1 0 147 #[.val (.int p0), .val (.int p1), .val (.int (0 : Int32)), .val (.int (0 : Int32)), .val (.int (0 : Int32)), .val (.int (0 : Int32)), .val (.int (0 : Int32)), .val (.int (0 : Int32)), .val (.int (0 : Int32)), .val (.int (0 : Int32)), .val (.int (0 : Int32)), .val (.int (0 : Int32)), .val (.int (0 : Int32)), .val (.int (0 : Int32)), .val (.int (0 : Int32)), .val (.int (0 : Int32)), .unset, .unset, .unset, .unset, .unset, .unset, .unset, .unset, .unset] [(.ref b1180)]
  refine W.astore 149 at_147 rfl rfl #[.val (.int p0), .val (.int p1), .val (.int (0 : Int32)), .val (.int (0 : Int32)), .val (.int (0 : Int32)), .val (.int (0 : Int32)), .val (.int (0 : Int32)), .val (.int (0 : Int32)), .val (.int (0 : Int32)), .val (.int (0 : Int32)), .val (.int (0 : Int32)), .val (.int (0 : Int32)), .val (.int (0 : Int32)), .val (.int (0 : Int32)), .val (.int (0 : Int32)), .val (.int (0 : Int32)), .val (.ref b1180), .unset, .unset, .unset, .unset, .unset, .unset, .unset, .unset] rfl ?_
  refine W.iloadN 150 at_149 rfl rfl ?_
  refine W.iconst 151 at_150 rfl (2 : Int32) rfl ?_
  refine W.icmp_lt 159 154 at_151 rfl rfl (fun _ => ?_) (fun hc => absurd (by decide) hc)
  refine W.iloadN 160 at_159 rfl rfl ?_
  refine W.iconst 161 at_160 rfl (3 : Int32) rfl ?_
  refine W.icmp_lt 171 164 at_161 rfl rfl (fun _ => ?_) (fun hc => absurd (by decide) hc)
  refine W.iloadN 172 at_171 rfl rfl ?_
  refine W.iconst 173 at_172 rfl (1 : Int32) rfl ?_
  refine W.iadd 174 at_173 rfl (1 : Int32) (by decide) ?_
  refine W.newarray 176 at_174 rfl (wd_5 hw) rfl (by decide) 1 1 (by decide) (by decide) (by decide) (by decide) (by decide) rfl ?_
  intro h1181 b1181 g1181 ge1181 X1181 K1181 A1181
  have ne1182 : b1180 ≠ b1181 := Nat.ne_of_lt (Nat.lt_of_lt_of_eq A1180.lt g1181.symm)
  have A1181 : Ary _ _ b1181 .int [(.int (0 : Int32))] := A1181
  show W _ _ _ _ _ _ _ _ _ _ _ 2 1 176 #[.val (.int p0), .val (.int p1), .val (.int (0 : Int32)), .val (.int (0 : Int32)), .val (.int (0 : Int32)), .val (.int (0 : Int32)), .val (.int (0 : Int32)), .val (.int (0 : Int32)), .val (.int (0 : Int32)), .val (.int (0 : Int32)), .val (.int (0 : Int32)), .val (.int (0 : Int32)), .val (.int (0 : Int32)), .val (.int (0 : Int32)), .val (.int (0 : Int32)), .val (.int (0 : Int32)), .val (.ref b1180), .unset, .unset, .unset, .unset, .unset, .unset, .unset, .unset] [(.ref b1181)]
  refine W.astore 178 at_176 rfl rfl #[.val (.int p0), .val (.int p1), .val (.int (0 : Int32)), .val (.int (0 : Int32)), .val (.int (0 : Int32)), .val (.int (0 : Int32)), .val (.int (0 : Int32)), .val (.int (0 : Int32)), .val (.int (0 : Int32)), .val (.int (0 : Int32)), .val (.int (0 : Int32)), .val (.int (0 : Int32)), .val (.int (0 : Int32)), .val (.int (0 : Int32)), .val (.int (0 : Int32)), .val (.int (0 : Int32)), .val (.ref b1180), .val (.ref b1181), .unset, .unset, .unset, .unset, .unset, .unset, .unset] rfl ?_
  refine W.iloadN 179 at_178 rfl rfl ?_
  refine W.iconst 180 at_179 rfl (1 : Int32) rfl ?_
  refine W.icmp_lt 189 183 at_180 rfl rfl (fun _ => ?_) (fun hc => absurd (by decide) hc)
  refine W.iloadN 190 at_189 rfl rfl ?_
  refine W.iconst 191 at_190 rfl (2 : Int32) rfl ?_
  refine W.icmp_lt 203 194 at_191 rfl rfl (fun _ => ?_) (fun hc => absurd (by decide) hc)
  refine W.iloadN 204 at_203 rfl rfl ?_
  refine W.iconst 205 at_204 rfl (3 : Int32) rfl ?_
  refine W.icmp_lt 214 208 at_205 rfl rfl (fun _ => ?_) (fun hc => absurd (by decide) hc)
  refine W.iload 216 at_214 rfl rfl ?_
  refine W.newarray 218 at_216 rfl (wd_5 hw) rfl (by decide) 0 0 (by decide) (by decide) (by decide) (by decide) (by decide) rfl ?_
  intro h1183 b1183 g1183 ge1183 X1183 K1183 A1183
  have q1184 := (A1180.keep K1181 nin0)
  have ne1185 : b1180 ≠ b1183 := Nat.ne_of_lt (Nat.lt_of_lt_of_eq q1184.lt g1183.symm)
  have ne1186 : b1181 ≠ b1183 := Nat.ne_of_lt (Nat.lt_of_lt_of_eq A1181.lt g1183.symm)
  have A1183 : Ary _ _ b1183 .int [] := A1183
  show W _ _ _ _ _ _ _ _ _ _ _ 3 1 218 #[.val (.int p0), .val (.int p1), .val (.int (0 : Int32)), .val (.int (0 : Int32)), .val (.int (0 : Int32)), .val (.int (0 : Int32)), .val (.int (0 : Int32)), .val (.int (0 : Int32)), .val (.int (0 : Int32)), .val (.int (0 : Int32)), .val (.int (0 : Int32)), .val (.int (0 : Int32)), .val (.int (0 : Int32)), .val (.int (0 : Int32)), .val (.int (0 : Int32)), .val (.int (0 : Int32)), .val (.ref b1180), .val (.ref b1181), .unset, .unset, .unset, .unset, .unset, .unset, .unset] [(.ref b1183)]
  refine W.astore 220 at_218 rfl rfl #[.val (.int p0), .val (.int p1), .val (.int (0 : Int32)), .val (.int (0 : Int32)), .val (.int (0 : Int32)), .val (.int (0 : Int32)), .val (.int (0 : Int32)), .val (.int (0 : Int32)), .val (.int (0 : Int32)), .val (.int (0 : Int32)), .val (.int (0 : Int32)), .val (.int (0 : Int32)), .val (.int (0 : Int32)), .val (.int (0 : Int32)), .val (.int (0 : Int32)), .val (.int (0 : Int32)), .val (.ref b1180), .val (.ref b1181), .val (.ref b1183), .unset, .unset, .unset, .unset, .unset, .unset] rfl ?_
  refine W.iconst 221 at_220 rfl (0 : Int32) rfl ?_
  refine W.istore 223 at_221 rfl #[.val (.int p0), .val (.int p1), .val (.int (0 : Int32)), .val (.int (0 : Int32)), .val (.int (0 : Int32)), .val (.int (0 : Int32)), .val (.int (0 : Int32)), .val (.int (0 : Int32)), .val (.int (0 : Int32)), .val (.int (0 : Int32)), .val (.int (0 : Int32)), .val (.int (0 : Int32)), .val (.int (0 : Int32)), .val (.int (0 : Int32)), .val (.int (0 : Int32)), .val (.int (0 : Int32)), .val (.ref b1180), .val (.ref b1181), .val (.ref b1183), .val (.int (0 : Int32)), .unset, .unset, .unset, .unset, .unset] rfl ?_
  have q1187 := (q1184.keep K1183 nin0)
  have q1188 := (A1181.keep K1183 nin0)
  exact (t_223 l Z a0 hw p0 p1 (0 : Int32) (0 : Int32) (0 : Int32) (0 : Int32) (0 : Int32) (0 : Int32) (0 : Int32) (0 : Int32) (0 : Int32) (0 : Int32) (0 : Int32) (0 : Int32) (0 : Int32) (0 : Int32) (0 : Int32) b1180 b1181 b1183 _ _ _ _ n0 own_b0 own_b0 own_b0 own_b0 own_b0 own_b0 (by decide) (by decide) rfl rfl q1187 q1188 ge1180 A1183 (by decide) ge1183 ne1185 ne1186 (Or.inl ⟨rfl, rfl, rfl, rfl⟩) rfl).mono (by decide) (by decide)
set_option maxRecDepth 65536 in
set_option maxHeartbeats 40000000 in
theorem law_01 (l : Launch) (Z : State) (a0 : Array Value) (hw : ∀ d ∈ tables_1, d.before a0 Z = true) (p0 p1 : Int32) (h : Heap) (n0 : Nat) (hn : n0 ≤ h.size) (hN : (p0 &&& (3 : Int32)) = (0 : Int32)) (hD : (p0 &&& (4 : Int32)) = (4 : Int32)) : ConW tables_1 l Z x code maxLocals ret room_1 #[(.int p0), (.int p1)] h n0 (fun r _ => r = some (.int 1)) := by
  refine ConW.of_W (Ls := #[.val (.int p0), .val (.int p1), .unset, .unset, .unset, .unset, .unset, .unset, .unset, .unset, .unset, .unset, .unset, .unset, .unset, .unset, .unset, .unset, .unset, .unset, .unset, .unset, .unset, .unset, .unset]) (plainFor_of_name pn_0) hn (fun m => by first | (simp [entryFrame, mkF, argsToLocals, Value.category, maxLocals]; done) | rfl) ?_
  refine W.iloadN 1 at_0 rfl rfl ?_
  refine W.iconst 2 at_1 rfl (3 : Int32) rfl ?_
  refine W.iand 3 at_2 rfl (0 : Int32) hN ?_
  refine W.istoreN 4 at_3 rfl #[.val (.int p0), .val (.int p1), .val (.int (0 : Int32)), .unset, .unset, .unset, .unset, .unset, .unset, .unset, .unset, .unset, .unset, .unset, .unset, .unset, .unset, .unset, .unset, .unset, .unset, .unset, .unset, .unset, .unset] rfl ?_
  refine W.iloadN 5 at_4 rfl rfl ?_
  refine W.iconst 6 at_5 rfl (4 : Int32) rfl ?_
  refine W.iand 7 at_6 rfl (4 : Int32) hD ?_
  refine W.if_eq 14 10 at_7 rfl rfl (fun hc => absurd hc (by decide)) (fun _ => ?_)
  refine W.iconst 11 at_10 rfl (1 : Int32) rfl ?_
  refine W.goto 15 at_11 rfl ?_
  refine W.istoreN 16 at_15 rfl #[.val (.int p0), .val (.int p1), .val (.int (0 : Int32)), .val (.int (1 : Int32)), .unset, .unset, .unset, .unset, .unset, .unset, .unset, .unset, .unset, .unset, .unset, .unset, .unset, .unset, .unset, .unset, .unset, .unset, .unset, .unset, .unset] rfl ?_
  refine W.iloadN 17 at_16 rfl rfl ?_
  refine W.iconst 18 at_17 rfl (2 : Int32) rfl ?_
  refine W.icmp_lt 25 21 at_18 rfl rfl (fun _ => ?_) (fun hc => absurd (by decide) hc)
  refine W.iconst 26 at_25 rfl (0 : Int32) rfl ?_
  refine W.istore 28 at_26 rfl #[.val (.int p0), .val (.int p1), .val (.int (0 : Int32)), .val (.int (1 : Int32)), .val (.int (0 : Int32)), .unset, .unset, .unset, .unset, .unset, .unset, .unset, .unset, .unset, .unset, .unset, .unset, .unset, .unset, .unset, .unset, .unset, .unset, .unset, .unset] rfl ?_
  refine W.iloadN 29 at_28 rfl rfl ?_
  refine W.iconst 30 at_29 rfl (3 : Int32) rfl ?_
  refine W.icmp_lt 37 33 at_30 rfl rfl (fun _ => ?_) (fun hc => absurd (by decide) hc)
  refine W.iconst 38 at_37 rfl (0 : Int32) rfl ?_
  refine W.istore 40 at_38 rfl #[.val (.int p0), .val (.int p1), .val (.int (0 : Int32)), .val (.int (1 : Int32)), .val (.int (0 : Int32)), .val (.int (0 : Int32)), .unset, .unset, .unset, .unset, .unset, .unset, .unset, .unset, .unset, .unset, .unset, .unset, .unset, .unset, .unset, .unset, .unset, .unset, .unset] rfl ?_
  refine W.iloadN 41 at_40 rfl rfl ?_
  refine W.iconst 42 at_41 rfl (0 : Int32) rfl ?_
  refine W.iload 44 at_42 rfl rfl ?_
  refine W.callS (rest := []) (argsL := [(.int p1), (.int (0 : Int32)), (.int (0 : Int32))]) 47 at_44 rfl (fun hn => c_bit0 l Z a0 hw p1 (0 : Int32) _ n0 hn) (wd_0 hw) (wd_1 hw) (wd_2 hw) (wd_3 hw) (by decide) pd_2 rfl rfl rfl (by decide) 0 (Nat.le_of_ble_eq_true rfl) (by decide) (by decide) (by decide) ?_
  rintro v1189 h1189 ⟨rfl, rfl⟩
  show W _ _ _ _ _ _ _ _ _ _ _ 0 0 47 #[.val (.int p0), .val (.int p1), .val (.int (0 : Int32)), .val (.int (1 : Int32)), .val (.int (0 : Int32)), .val (.int (0 : Int32)), .unset, .unset, .unset, .unset, .unset, .unset, .unset, .unset, .unset, .unset, .unset, .unset, .unset, .unset, .unset, .unset, .unset, .unset, .unset] [(.int (0 : Int32))]
  refine W.istore 49 at_47 rfl #[.val (.int p0), .val (.int p1), .val (.int (0 : Int32)), .val (.int (1 : Int32)), .val (.int (0 : Int32)), .val (.int (0 : Int32)), .val (.int (0 : Int32)), .unset, .unset, .unset, .unset, .unset, .unset, .unset, .unset, .unset, .unset, .unset, .unset, .unset, .unset, .unset, .unset, .unset, .unset] rfl ?_
  refine W.iloadN 50 at_49 rfl rfl ?_
  refine W.iconst 51 at_50 rfl (1 : Int32) rfl ?_
  refine W.iload 53 at_51 rfl rfl ?_
  refine W.callS (rest := []) (argsL := [(.int p1), (.int (1 : Int32)), (.int (0 : Int32))]) 56 at_53 rfl (fun hn => c_bit0 l Z a0 hw p1 (1 : Int32) _ n0 hn) (wd_0 hw) (wd_1 hw) (wd_2 hw) (wd_3 hw) (by decide) pd_2 rfl rfl rfl (by decide) 0 (Nat.le_of_ble_eq_true rfl) (by decide) (by decide) (by decide) ?_
  rintro v1190 h1190 ⟨rfl, rfl⟩
  show W _ _ _ _ _ _ _ _ _ _ _ 0 0 56 #[.val (.int p0), .val (.int p1), .val (.int (0 : Int32)), .val (.int (1 : Int32)), .val (.int (0 : Int32)), .val (.int (0 : Int32)), .val (.int (0 : Int32)), .unset, .unset, .unset, .unset, .unset, .unset, .unset, .unset, .unset, .unset, .unset, .unset, .unset, .unset, .unset, .unset, .unset, .unset] [(.int (0 : Int32))]
  refine W.istore 58 at_56 rfl #[.val (.int p0), .val (.int p1), .val (.int (0 : Int32)), .val (.int (1 : Int32)), .val (.int (0 : Int32)), .val (.int (0 : Int32)), .val (.int (0 : Int32)), .val (.int (0 : Int32)), .unset, .unset, .unset, .unset, .unset, .unset, .unset, .unset, .unset, .unset, .unset, .unset, .unset, .unset, .unset, .unset, .unset] rfl ?_
  refine W.iloadN 59 at_58 rfl rfl ?_
  refine W.iconst 60 at_59 rfl (3 : Int32) rfl ?_
  refine W.iload 62 at_60 rfl rfl ?_
  refine W.callS (rest := []) (argsL := [(.int p1), (.int (3 : Int32)), (.int (0 : Int32))]) 65 at_62 rfl (fun hn => c_bit0 l Z a0 hw p1 (3 : Int32) _ n0 hn) (wd_0 hw) (wd_1 hw) (wd_2 hw) (wd_3 hw) (by decide) pd_2 rfl rfl rfl (by decide) 0 (Nat.le_of_ble_eq_true rfl) (by decide) (by decide) (by decide) ?_
  rintro v1191 h1191 ⟨rfl, rfl⟩
  show W _ _ _ _ _ _ _ _ _ _ _ 0 0 65 #[.val (.int p0), .val (.int p1), .val (.int (0 : Int32)), .val (.int (1 : Int32)), .val (.int (0 : Int32)), .val (.int (0 : Int32)), .val (.int (0 : Int32)), .val (.int (0 : Int32)), .unset, .unset, .unset, .unset, .unset, .unset, .unset, .unset, .unset, .unset, .unset, .unset, .unset, .unset, .unset, .unset, .unset] [(.int (0 : Int32))]
  refine W.istore 67 at_65 rfl #[.val (.int p0), .val (.int p1), .val (.int (0 : Int32)), .val (.int (1 : Int32)), .val (.int (0 : Int32)), .val (.int (0 : Int32)), .val (.int (0 : Int32)), .val (.int (0 : Int32)), .val (.int (0 : Int32)), .unset, .unset, .unset, .unset, .unset, .unset, .unset, .unset, .unset, .unset, .unset, .unset, .unset, .unset, .unset, .unset] rfl ?_
  refine W.iloadN 68 at_67 rfl rfl ?_
  refine W.if_eq 101 71 at_68 rfl rfl (fun hc => absurd hc (by decide)) (fun _ => ?_)
  refine W.iloadN 72 at_71 rfl rfl ?_
  refine W.iconst 73 at_72 rfl (2 : Int32) rfl ?_
  refine W.iload 75 at_73 rfl rfl ?_
  refine W.callS (rest := []) (argsL := [(.int p1), (.int (2 : Int32)), (.int (0 : Int32))]) 78 at_75 rfl (fun hn => c_bit0 l Z a0 hw p1 (2 : Int32) _ n0 hn) (wd_0 hw) (wd_1 hw) (wd_2 hw) (wd_3 hw) (by decide) pd_2 rfl rfl rfl (by decide) 0 (Nat.le_of_ble_eq_true rfl) (by decide) (by decide) (by decide) ?_
  rintro v1192 h1192 ⟨rfl, rfl⟩
  show W _ _ _ _ _ _ _ _ _ _ _ 0 0 78 #[.val (.int p0), .val (.int p1), .val (.int (0 : Int32)), .val (.int (1 : Int32)), .val (.int (0 : Int32)), .val (.int (0 : Int32)), .val (.int (0 : Int32)), .val (.int (0 : Int32)), .val (.int (0 : Int32)), .unset, .unset, .unset, .unset, .unset, .unset, .unset, .unset, .unset, .unset, .unset, .unset, .unset, .unset, .unset, .unset] [(.int (0 : Int32))]
  refine W.istore 80 at_78 rfl #[.val (.int p0), .val (.int p1), .val (.int (0 : Int32)), .val (.int (1 : Int32)), .val (.int (0 : Int32)), .val (.int (0 : Int32)), .val (.int (0 : Int32)), .val (.int (0 : Int32)), .val (.int (0 : Int32)), .val (.int (0 : Int32)), .unset, .unset, .unset, .unset, .unset, .unset, .unset, .unset, .unset, .unset, .unset, .unset, .unset, .unset, .unset] rfl ?_
  refine W.iloadN 81 at_80 rfl rfl ?_
  refine W.iconst 82 at_81 rfl (4 : Int32) rfl ?_
  refine W.iload 84 at_82 rfl rfl ?_
  refine W.callS (rest := []) (argsL := [(.int p1), (.int (4 : Int32)), (.int (0 : Int32))]) 87 at_84 rfl (fun hn => c_bit0 l Z a0 hw p1 (4 : Int32) _ n0 hn) (wd_0 hw) (wd_1 hw) (wd_2 hw) (wd_3 hw) (by decide) pd_2 rfl rfl rfl (by decide) 0 (Nat.le_of_ble_eq_true rfl) (by decide) (by decide) (by decide) ?_
  rintro v1193 h1193 ⟨rfl, rfl⟩
  show W _ _ _ _ _ _ _ _ _ _ _ 0 0 87 #[.val (.int p0), .val (.int p1), .val (.int (0 : Int32)), .val (.int (1 : Int32)), .val (.int (0 : Int32)), .val (.int (0 : Int32)), .val (.int (0 : Int32)), .val (.int (0 : Int32)), .val (.int (0 : Int32)), .val (.int (0 : Int32)), .unset, .unset, .unset, .unset, .unset, .unset, .unset, .unset, .unset, .unset, .unset, .unset, .unset, .unset, .unset] [(.int (0 : Int32))]
  refine W.istore 89 at_87 rfl #[.val (.int p0), .val (.int p1), .val (.int (0 : Int32)), .val (.int (1 : Int32)), .val (.int (0 : Int32)), .val (.int (0 : Int32)), .val (.int (0 : Int32)), .val (.int (0 : Int32)), .val (.int (0 : Int32)), .val (.int (0 : Int32)), .val (.int (0 : Int32)), .unset, .unset, .unset, .unset, .unset, .unset, .unset, .unset, .unset, .unset, .unset, .unset, .unset, .unset] rfl ?_
  refine W.iloadN 90 at_89 rfl rfl ?_
  refine W.iconst 91 at_90 rfl (5 : Int32) rfl ?_
  refine W.iload 93 at_91 rfl rfl ?_
  refine W.callS (rest := []) (argsL := [(.int p1), (.int (5 : Int32)), (.int (0 : Int32))]) 96 at_93 rfl (fun hn => c_bit0 l Z a0 hw p1 (5 : Int32) _ n0 hn) (wd_0 hw) (wd_1 hw) (wd_2 hw) (wd_3 hw) (by decide) pd_2 rfl rfl rfl (by decide) 0 (Nat.le_of_ble_eq_true rfl) (by decide) (by decide) (by decide) ?_
  rintro v1194 h1194 ⟨rfl, rfl⟩
  show W _ _ _ _ _ _ _ _ _ _ _ 0 0 96 #[.val (.int p0), .val (.int p1), .val (.int (0 : Int32)), .val (.int (1 : Int32)), .val (.int (0 : Int32)), .val (.int (0 : Int32)), .val (.int (0 : Int32)), .val (.int (0 : Int32)), .val (.int (0 : Int32)), .val (.int (0 : Int32)), .val (.int (0 : Int32)), .unset, .unset, .unset, .unset, .unset, .unset, .unset, .unset, .unset, .unset, .unset, .unset, .unset, .unset] [(.int (0 : Int32))]
  refine W.istore 98 at_96 rfl #[.val (.int p0), .val (.int p1), .val (.int (0 : Int32)), .val (.int (1 : Int32)), .val (.int (0 : Int32)), .val (.int (0 : Int32)), .val (.int (0 : Int32)), .val (.int (0 : Int32)), .val (.int (0 : Int32)), .val (.int (0 : Int32)), .val (.int (0 : Int32)), .val (.int (0 : Int32)), .unset, .unset, .unset, .unset, .unset, .unset, .unset, .unset, .unset, .unset, .unset, .unset, .unset] rfl ?_
  refine W.goto 113 at_98 rfl ?_
  refine W.iload 115 at_113 rfl rfl ?_
  refine W.iload 117 at_115 rfl rfl ?_
  refine W.iadd 118 at_117 rfl (0 : Int32) (by decide) ?_
  refine W.istore 120 at_118 rfl #[.val (.int p0), .val (.int p1), .val (.int (0 : Int32)), .val (.int (1 : Int32)), .val (.int (0 : Int32)), .val (.int (0 : Int32)), .val (.int (0 : Int32)), .val (.int (0 : Int32)), .val (.int (0 : Int32)), .val (.int (0 : Int32)), .val (.int (0 : Int32)), .val (.int (0 : Int32)), .val (.int (0 : Int32)), .unset, .unset, .unset, .unset, .unset, .unset, .unset, .unset, .unset, .unset, .unset, .unset] rfl ?_
  refine W.iload 122 at_120 rfl rfl ?_
  refine W.iload 124 at_122 rfl rfl ?_
  refine W.iadd 125 at_124 rfl (0 : Int32) (by decide) ?_
  refine W.istore 127 at_125 rfl #[.val (.int p0), .val (.int p1), .val (.int (0 : Int32)), .val (.int (1 : Int32)), .val (.int (0 : Int32)), .val (.int (0 : Int32)), .val (.int (0 : Int32)), .val (.int (0 : Int32)), .val (.int (0 : Int32)), .val (.int (0 : Int32)), .val (.int (0 : Int32)), .val (.int (0 : Int32)), .val (.int (0 : Int32)), .val (.int (0 : Int32)), .unset, .unset, .unset, .unset, .unset, .unset, .unset, .unset, .unset, .unset, .unset] rfl ?_
  refine W.iload 129 at_127 rfl rfl ?_
  refine W.iload 131 at_129 rfl rfl ?_
  refine W.iadd 132 at_131 rfl (0 : Int32) (by decide) ?_
  refine W.istore 134 at_132 rfl #[.val (.int p0), .val (.int p1), .val (.int (0 : Int32)), .val (.int (1 : Int32)), .val (.int (0 : Int32)), .val (.int (0 : Int32)), .val (.int (0 : Int32)), .val (.int (0 : Int32)), .val (.int (0 : Int32)), .val (.int (0 : Int32)), .val (.int (0 : Int32)), .val (.int (0 : Int32)), .val (.int (0 : Int32)), .val (.int (0 : Int32)), .val (.int (0 : Int32)), .unset, .unset, .unset, .unset, .unset, .unset, .unset, .unset, .unset, .unset] rfl ?_
  refine W.iload 136 at_134 rfl rfl ?_
  refine W.iload 138 at_136 rfl rfl ?_
  refine W.iadd 139 at_138 rfl (0 : Int32) (by decide) ?_
  refine W.iload 141 at_139 rfl rfl ?_
  refine W.iadd 142 at_141 rfl (0 : Int32) (by decide) ?_
  refine W.istore 144 at_142 rfl #[.val (.int p0), .val (.int p1), .val (.int (0 : Int32)), .val (.int (1 : Int32)), .val (.int (0 : Int32)), .val (.int (0 : Int32)), .val (.int (0 : Int32)), .val (.int (0 : Int32)), .val (.int (0 : Int32)), .val (.int (0 : Int32)), .val (.int (0 : Int32)), .val (.int (0 : Int32)), .val (.int (0 : Int32)), .val (.int (0 : Int32)), .val (.int (0 : Int32)), .val (.int (0 : Int32)), .unset, .unset, .unset, .unset, .unset, .unset, .unset, .unset, .unset] rfl ?_
  refine W.iloadN 145 at_144 rfl rfl ?_
  refine W.newarray 147 at_145 rfl (wd_4 hw) rfl (by decide) 0 0 (by decide) (by decide) (by decide) (by decide) (by decide) rfl ?_
  intro h1195 b1195 g1195 ge1195 X1195 K1195 A1195
  have A1195 : Ary _ _ b1195 .long [] := A1195
  show W _ _ _ _ _ _ _ _ _ _ _ 1 0 147 #[.val (.int p0), .val (.int p1), .val (.int (0 : Int32)), .val (.int (1 : Int32)), .val (.int (0 : Int32)), .val (.int (0 : Int32)), .val (.int (0 : Int32)), .val (.int (0 : Int32)), .val (.int (0 : Int32)), .val (.int (0 : Int32)), .val (.int (0 : Int32)), .val (.int (0 : Int32)), .val (.int (0 : Int32)), .val (.int (0 : Int32)), .val (.int (0 : Int32)), .val (.int (0 : Int32)), .unset, .unset, .unset, .unset, .unset, .unset, .unset, .unset, .unset] [(.ref b1195)]
  refine W.astore 149 at_147 rfl rfl #[.val (.int p0), .val (.int p1), .val (.int (0 : Int32)), .val (.int (1 : Int32)), .val (.int (0 : Int32)), .val (.int (0 : Int32)), .val (.int (0 : Int32)), .val (.int (0 : Int32)), .val (.int (0 : Int32)), .val (.int (0 : Int32)), .val (.int (0 : Int32)), .val (.int (0 : Int32)), .val (.int (0 : Int32)), .val (.int (0 : Int32)), .val (.int (0 : Int32)), .val (.int (0 : Int32)), .val (.ref b1195), .unset, .unset, .unset, .unset, .unset, .unset, .unset, .unset] rfl ?_
  refine W.iloadN 150 at_149 rfl rfl ?_
  refine W.iconst 151 at_150 rfl (2 : Int32) rfl ?_
  refine W.icmp_lt 159 154 at_151 rfl rfl (fun _ => ?_) (fun hc => absurd (by decide) hc)
  refine W.iloadN 160 at_159 rfl rfl ?_
  refine W.iconst 161 at_160 rfl (3 : Int32) rfl ?_
  refine W.icmp_lt 171 164 at_161 rfl rfl (fun _ => ?_) (fun hc => absurd (by decide) hc)
  refine W.iloadN 172 at_171 rfl rfl ?_
  refine W.iconst 173 at_172 rfl (1 : Int32) rfl ?_
  refine W.iadd 174 at_173 rfl (1 : Int32) (by decide) ?_
  refine W.newarray 176 at_174 rfl (wd_5 hw) rfl (by decide) 1 1 (by decide) (by decide) (by decide) (by decide) (by decide) rfl ?_
  intro h1196 b1196 g1196 ge1196 X1196 K1196 A1196
  have ne1197 : b1195 ≠ b1196 := Nat.ne_of_lt (Nat.lt_of_lt_of_eq A1195.lt g1196.symm)
  have A1196 : Ary _ _ b1196 .int [(.int (0 : Int32))] := A1196
  show W _ _ _ _ _ _ _ _ _ _ _ 2 1 176 #[.val (.int p0), .val (.int p1), .val (.int (0 : Int32)), .val (.int (1 : Int32)), .val (.int (0 : Int32)), .val (.int (0 : Int32)), .val (.int (0 : Int32)), .val (.int (0 : Int32)), .val (.int (0 : Int32)), .val (.int (0 : Int32)), .val (.int (0 : Int32)), .val (.int (0 : Int32)), .val (.int (0 : Int32)), .val (.int (0 : Int32)), .val (.int (0 : Int32)), .val (.int (0 : Int32)), .val (.ref b1195), .unset, .unset, .unset, .unset, .unset, .unset, .unset, .unset] [(.ref b1196)]
  refine W.astore 178 at_176 rfl rfl #[.val (.int p0), .val (.int p1), .val (.int (0 : Int32)), .val (.int (1 : Int32)), .val (.int (0 : Int32)), .val (.int (0 : Int32)), .val (.int (0 : Int32)), .val (.int (0 : Int32)), .val (.int (0 : Int32)), .val (.int (0 : Int32)), .val (.int (0 : Int32)), .val (.int (0 : Int32)), .val (.int (0 : Int32)), .val (.int (0 : Int32)), .val (.int (0 : Int32)), .val (.int (0 : Int32)), .val (.ref b1195), .val (.ref b1196), .unset, .unset, .unset, .unset, .unset, .unset, .unset] rfl ?_
  refine W.iloadN 179 at_178 rfl rfl ?_
  refine W.iconst 180 at_179 rfl (1 : Int32) rfl ?_
  refine W.icmp_lt 189 183 at_180 rfl rfl (fun _ => ?_) (fun hc => absurd (by decide) hc)
  refine W.iloadN 190 at_189 rfl rfl ?_
  refine W.iconst 191 at_190 rfl (2 : Int32) rfl ?_
  refine W.icmp_lt 203 194 at_191 rfl rfl (fun _ => ?_) (fun hc => absurd (by decide) hc)
  refine W.iloadN 204 at_203 rfl rfl ?_
  refine W.iconst 205 at_204 rfl (3 : Int32) rfl ?_
  refine W.icmp_lt 214 208 at_205 rfl rfl (fun _ => ?_) (fun hc => absurd (by decide) hc)
  refine W.iload 216 at_214 rfl rfl ?_
  refine W.newarray 218 at_216 rfl (wd_5 hw) rfl (by decide) 0 0 (by decide) (by decide) (by decide) (by decide) (by decide) rfl ?_
  intro h1198 b1198 g1198 ge1198 X1198 K1198 A1198
  have q1199 := (A1195.keep K1196 nin0)
  have ne1200 : b1195 ≠ b1198 := Nat.ne_of_lt (Nat.lt_of_lt_of_eq q1199.lt g1198.symm)
  have ne1201 : b1196 ≠ b1198 := Nat.ne_of_lt (Nat.lt_of_lt_of_eq A1196.lt g1198.symm)
  have A1198 : Ary _ _ b1198 .int [] := A1198
  show W _ _ _ _ _ _ _ _ _ _ _ 3 1 218 #[.val (.int p0), .val (.int p1), .val (.int (0 : Int32)), .val (.int (1 : Int32)), .val (.int (0 : Int32)), .val (.int (0 : Int32)), .val (.int (0 : Int32)), .val (.int (0 : Int32)), .val (.int (0 : Int32)), .val (.int (0 : Int32)), .val (.int (0 : Int32)), .val (.int (0 : Int32)), .val (.int (0 : Int32)), .val (.int (0 : Int32)), .val (.int (0 : Int32)), .val (.int (0 : Int32)), .val (.ref b1195), .val (.ref b1196), .unset, .unset, .unset, .unset, .unset, .unset, .unset] [(.ref b1198)]
  refine W.astore 220 at_218 rfl rfl #[.val (.int p0), .val (.int p1), .val (.int (0 : Int32)), .val (.int (1 : Int32)), .val (.int (0 : Int32)), .val (.int (0 : Int32)), .val (.int (0 : Int32)), .val (.int (0 : Int32)), .val (.int (0 : Int32)), .val (.int (0 : Int32)), .val (.int (0 : Int32)), .val (.int (0 : Int32)), .val (.int (0 : Int32)), .val (.int (0 : Int32)), .val (.int (0 : Int32)), .val (.int (0 : Int32)), .val (.ref b1195), .val (.ref b1196), .val (.ref b1198), .unset, .unset, .unset, .unset, .unset, .unset] rfl ?_
  refine W.iconst 221 at_220 rfl (0 : Int32) rfl ?_
  refine W.istore 223 at_221 rfl #[.val (.int p0), .val (.int p1), .val (.int (0 : Int32)), .val (.int (1 : Int32)), .val (.int (0 : Int32)), .val (.int (0 : Int32)), .val (.int (0 : Int32)), .val (.int (0 : Int32)), .val (.int (0 : Int32)), .val (.int (0 : Int32)), .val (.int (0 : Int32)), .val (.int (0 : Int32)), .val (.int (0 : Int32)), .val (.int (0 : Int32)), .val (.int (0 : Int32)), .val (.int (0 : Int32)), .val (.ref b1195), .val (.ref b1196), .val (.ref b1198), .val (.int (0 : Int32)), .unset, .unset, .unset, .unset, .unset] rfl ?_
  have q1202 := (q1199.keep K1198 nin0)
  have q1203 := (A1196.keep K1198 nin0)
  exact (t_223 l Z a0 hw p0 p1 (0 : Int32) (1 : Int32) (0 : Int32) (0 : Int32) (0 : Int32) (0 : Int32) (0 : Int32) (0 : Int32) (0 : Int32) (0 : Int32) (0 : Int32) (0 : Int32) (0 : Int32) (0 : Int32) (0 : Int32) b1195 b1196 b1198 _ _ _ _ n0 own_b0 own_b0 own_b0 own_b0 own_b0 own_b0 (by decide) (by decide) rfl rfl q1202 q1203 ge1195 A1198 (by decide) ge1198 ne1200 ne1201 (Or.inr rfl) rfl).mono (by decide) (by decide)
set_option maxRecDepth 65536 in
set_option maxHeartbeats 40000000 in
theorem law_10 (l : Launch) (Z : State) (a0 : Array Value) (hw : ∀ d ∈ tables_1, d.before a0 Z = true) (p0 p1 : Int32) (h : Heap) (n0 : Nat) (hn : n0 ≤ h.size) (hN : (p0 &&& (3 : Int32)) = (1 : Int32)) (hD : (p0 &&& (4 : Int32)) = (0 : Int32)) : ConW tables_1 l Z x code maxLocals ret room_1 #[(.int p0), (.int p1)] h n0 (fun r _ => r = some (.int 1)) := by
  refine ConW.of_W (Ls := #[.val (.int p0), .val (.int p1), .unset, .unset, .unset, .unset, .unset, .unset, .unset, .unset, .unset, .unset, .unset, .unset, .unset, .unset, .unset, .unset, .unset, .unset, .unset, .unset, .unset, .unset, .unset]) (plainFor_of_name pn_0) hn (fun m => by first | (simp [entryFrame, mkF, argsToLocals, Value.category, maxLocals]; done) | rfl) ?_
  refine W.iloadN 1 at_0 rfl rfl ?_
  refine W.iconst 2 at_1 rfl (3 : Int32) rfl ?_
  refine W.iand 3 at_2 rfl (1 : Int32) hN ?_
  refine W.istoreN 4 at_3 rfl #[.val (.int p0), .val (.int p1), .val (.int (1 : Int32)), .unset, .unset, .unset, .unset, .unset, .unset, .unset, .unset, .unset, .unset, .unset, .unset, .unset, .unset, .unset, .unset, .unset, .unset, .unset, .unset, .unset, .unset] rfl ?_
  refine W.iloadN 5 at_4 rfl rfl ?_
  refine W.iconst 6 at_5 rfl (4 : Int32) rfl ?_
  refine W.iand 7 at_6 rfl (0 : Int32) hD ?_
  refine W.if_eq 14 10 at_7 rfl rfl (fun _ => ?_) (fun hc => absurd (by decide) hc)
  refine W.iconst 15 at_14 rfl (0 : Int32) rfl ?_
  refine W.istoreN 16 at_15 rfl #[.val (.int p0), .val (.int p1), .val (.int (1 : Int32)), .val (.int (0 : Int32)), .unset, .unset, .unset, .unset, .unset, .unset, .unset, .unset, .unset, .unset, .unset, .unset, .unset, .unset, .unset, .unset, .unset, .unset, .unset, .unset, .unset] rfl ?_
  refine W.iloadN 17 at_16 rfl rfl ?_
  refine W.iconst 18 at_17 rfl (2 : Int32) rfl ?_
  refine W.icmp_lt 25 21 at_18 rfl rfl (fun _ => ?_) (fun hc => absurd (by decide) hc)
  refine W.iconst 26 at_25 rfl (0 : Int32) rfl ?_
  refine W.istore 28 at_26 rfl #[.val (.int p0), .val (.int p1), .val (.int (1 : Int32)), .val (.int (0 : Int32)), .val (.int (0 : Int32)), .unset, .unset, .unset, .unset, .unset, .unset, .unset, .unset, .unset, .unset, .unset, .unset, .unset, .unset, .unset, .unset, .unset, .unset, .unset, .unset] rfl ?_
  refine W.iloadN 29 at_28 rfl rfl ?_
  refine W.iconst 30 at_29 rfl (3 : Int32) rfl ?_
  refine W.icmp_lt 37 33 at_30 rfl rfl (fun _ => ?_) (fun hc => absurd (by decide) hc)
  refine W.iconst 38 at_37 rfl (0 : Int32) rfl ?_
  refine W.istore 40 at_38 rfl #[.val (.int p0), .val (.int p1), .val (.int (1 : Int32)), .val (.int (0 : Int32)), .val (.int (0 : Int32)), .val (.int (0 : Int32)), .unset, .unset, .unset, .unset, .unset, .unset, .unset, .unset, .unset, .unset, .unset, .unset, .unset, .unset, .unset, .unset, .unset, .unset, .unset] rfl ?_
  refine W.iloadN 41 at_40 rfl rfl ?_
  refine W.iconst 42 at_41 rfl (0 : Int32) rfl ?_
  refine W.iload 44 at_42 rfl rfl ?_
  refine W.callS (rest := []) (argsL := [(.int p1), (.int (0 : Int32)), (.int (0 : Int32))]) 47 at_44 rfl (fun hn => c_bit0 l Z a0 hw p1 (0 : Int32) _ n0 hn) (wd_0 hw) (wd_1 hw) (wd_2 hw) (wd_3 hw) (by decide) pd_2 rfl rfl rfl (by decide) 0 (Nat.le_of_ble_eq_true rfl) (by decide) (by decide) (by decide) ?_
  rintro v1204 h1204 ⟨rfl, rfl⟩
  show W _ _ _ _ _ _ _ _ _ _ _ 0 0 47 #[.val (.int p0), .val (.int p1), .val (.int (1 : Int32)), .val (.int (0 : Int32)), .val (.int (0 : Int32)), .val (.int (0 : Int32)), .unset, .unset, .unset, .unset, .unset, .unset, .unset, .unset, .unset, .unset, .unset, .unset, .unset, .unset, .unset, .unset, .unset, .unset, .unset] [(.int (0 : Int32))]
  refine W.istore 49 at_47 rfl #[.val (.int p0), .val (.int p1), .val (.int (1 : Int32)), .val (.int (0 : Int32)), .val (.int (0 : Int32)), .val (.int (0 : Int32)), .val (.int (0 : Int32)), .unset, .unset, .unset, .unset, .unset, .unset, .unset, .unset, .unset, .unset, .unset, .unset, .unset, .unset, .unset, .unset, .unset, .unset] rfl ?_
  refine W.iloadN 50 at_49 rfl rfl ?_
  refine W.iconst 51 at_50 rfl (1 : Int32) rfl ?_
  refine W.iload 53 at_51 rfl rfl ?_
  refine W.callS (rest := []) (argsL := [(.int p1), (.int (1 : Int32)), (.int (0 : Int32))]) 56 at_53 rfl (fun hn => c_bit0 l Z a0 hw p1 (1 : Int32) _ n0 hn) (wd_0 hw) (wd_1 hw) (wd_2 hw) (wd_3 hw) (by decide) pd_2 rfl rfl rfl (by decide) 0 (Nat.le_of_ble_eq_true rfl) (by decide) (by decide) (by decide) ?_
  rintro v1205 h1205 ⟨rfl, rfl⟩
  show W _ _ _ _ _ _ _ _ _ _ _ 0 0 56 #[.val (.int p0), .val (.int p1), .val (.int (1 : Int32)), .val (.int (0 : Int32)), .val (.int (0 : Int32)), .val (.int (0 : Int32)), .val (.int (0 : Int32)), .unset, .unset, .unset, .unset, .unset, .unset, .unset, .unset, .unset, .unset, .unset, .unset, .unset, .unset, .unset, .unset, .unset, .unset] [(.int (0 : Int32))]
  refine W.istore 58 at_56 rfl #[.val (.int p0), .val (.int p1), .val (.int (1 : Int32)), .val (.int (0 : Int32)), .val (.int (0 : Int32)), .val (.int (0 : Int32)), .val (.int (0 : Int32)), .val (.int (0 : Int32)), .unset, .unset, .unset, .unset, .unset, .unset, .unset, .unset, .unset, .unset, .unset, .unset, .unset, .unset, .unset, .unset, .unset] rfl ?_
  refine W.iloadN 59 at_58 rfl rfl ?_
  refine W.iconst 60 at_59 rfl (3 : Int32) rfl ?_
  refine W.iload 62 at_60 rfl rfl ?_
  refine W.callS (rest := []) (argsL := [(.int p1), (.int (3 : Int32)), (.int (0 : Int32))]) 65 at_62 rfl (fun hn => c_bit0 l Z a0 hw p1 (3 : Int32) _ n0 hn) (wd_0 hw) (wd_1 hw) (wd_2 hw) (wd_3 hw) (by decide) pd_2 rfl rfl rfl (by decide) 0 (Nat.le_of_ble_eq_true rfl) (by decide) (by decide) (by decide) ?_
  rintro v1206 h1206 ⟨rfl, rfl⟩
  show W _ _ _ _ _ _ _ _ _ _ _ 0 0 65 #[.val (.int p0), .val (.int p1), .val (.int (1 : Int32)), .val (.int (0 : Int32)), .val (.int (0 : Int32)), .val (.int (0 : Int32)), .val (.int (0 : Int32)), .val (.int (0 : Int32)), .unset, .unset, .unset, .unset, .unset, .unset, .unset, .unset, .unset, .unset, .unset, .unset, .unset, .unset, .unset, .unset, .unset] [(.int (0 : Int32))]
  refine W.istore 67 at_65 rfl #[.val (.int p0), .val (.int p1), .val (.int (1 : Int32)), .val (.int (0 : Int32)), .val (.int (0 : Int32)), .val (.int (0 : Int32)), .val (.int (0 : Int32)), .val (.int (0 : Int32)), .val (.int (0 : Int32)), .unset, .unset, .unset, .unset, .unset, .unset, .unset, .unset, .unset, .unset, .unset, .unset, .unset, .unset, .unset, .unset] rfl ?_
  refine W.iloadN 68 at_67 rfl rfl ?_
  refine W.if_eq 101 71 at_68 rfl rfl (fun _ => ?_) (fun hc => absurd (by decide) hc)
  refine W.iload 103 at_101 rfl rfl ?_
  refine W.istore 105 at_103 rfl #[.val (.int p0), .val (.int p1), .val (.int (1 : Int32)), .val (.int (0 : Int32)), .val (.int (0 : Int32)), .val (.int (0 : Int32)), .val (.int (0 : Int32)), .val (.int (0 : Int32)), .val (.int (0 : Int32)), .val (.int (0 : Int32)), .unset, .unset, .unset, .unset, .unset, .unset, .unset, .unset, .unset, .unset, .unset, .unset, .unset, .unset, .unset] rfl ?_
  refine W.iload 107 at_105 rfl rfl ?_
  refine W.istore 109 at_107 rfl #[.val (.int p0), .val (.int p1), .val (.int (1 : Int32)), .val (.int (0 : Int32)), .val (.int (0 : Int32)), .val (.int (0 : Int32)), .val (.int (0 : Int32)), .val (.int (0 : Int32)), .val (.int (0 : Int32)), .val (.int (0 : Int32)), .val (.int (0 : Int32)), .unset, .unset, .unset, .unset, .unset, .unset, .unset, .unset, .unset, .unset, .unset, .unset, .unset, .unset] rfl ?_
  refine W.iload 111 at_109 rfl rfl ?_
  refine W.istore 113 at_111 rfl #[.val (.int p0), .val (.int p1), .val (.int (1 : Int32)), .val (.int (0 : Int32)), .val (.int (0 : Int32)), .val (.int (0 : Int32)), .val (.int (0 : Int32)), .val (.int (0 : Int32)), .val (.int (0 : Int32)), .val (.int (0 : Int32)), .val (.int (0 : Int32)), .val (.int (0 : Int32)), .unset, .unset, .unset, .unset, .unset, .unset, .unset, .unset, .unset, .unset, .unset, .unset, .unset] rfl ?_
  refine W.iload 115 at_113 rfl rfl ?_
  refine W.iload 117 at_115 rfl rfl ?_
  refine W.iadd 118 at_117 rfl (0 : Int32) (by decide) ?_
  refine W.istore 120 at_118 rfl #[.val (.int p0), .val (.int p1), .val (.int (1 : Int32)), .val (.int (0 : Int32)), .val (.int (0 : Int32)), .val (.int (0 : Int32)), .val (.int (0 : Int32)), .val (.int (0 : Int32)), .val (.int (0 : Int32)), .val (.int (0 : Int32)), .val (.int (0 : Int32)), .val (.int (0 : Int32)), .val (.int (0 : Int32)), .unset, .unset, .unset, .unset, .unset, .unset, .unset, .unset, .unset, .unset, .unset, .unset] rfl ?_
  refine W.iload 122 at_120 rfl rfl ?_
  refine W.iload 124 at_122 rfl rfl ?_
  refine W.iadd 125 at_124 rfl (0 : Int32) (by decide) ?_
  refine W.istore 127 at_125 rfl #[.val (.int p0), .val (.int p1), .val (.int (1 : Int32)), .val (.int (0 : Int32)), .val (.int (0 : Int32)), .val (.int (0 : Int32)), .val (.int (0 : Int32)), .val (.int (0 : Int32)), .val (.int (0 : Int32)), .val (.int (0 : Int32)), .val (.int (0 : Int32)), .val (.int (0 : Int32)), .val (.int (0 : Int32)), .val (.int (0 : Int32)), .unset, .unset, .unset, .unset, .unset, .unset, .unset, .unset, .unset, .unset, .unset] rfl ?_
  refine W.iload 129 at_127 rfl rfl ?_
  refine W.iload 131 at_129 rfl rfl ?_
  refine W.iadd 132 at_131 rfl (0 : Int32) (by decide) ?_
  refine W.istore 134 at_132 rfl #[.val (.int p0), .val (.int p1), .val (.int (1 : Int32)), .val (.int (0 : Int32)), .val (.int (0 : Int32)), .val (.int (0 : Int32)), .val (.int (0 : Int32)), .val (.int (0 : Int32)), .val (.int (0 : Int32)), .val (.int (0 : Int32)), .val (.int (0 : Int32)), .val (.int (0 : Int32)), .val (.int (0 : Int32)), .val (.int (0 : Int32)), .val (.int (0 : Int32)), .unset, .unset, .unset, .unset, .unset, .unset, .unset, .unset, .unset, .unset] rfl ?_
  refine W.iload 136 at_134 rfl rfl ?_
  refine W.iload 138 at_136 rfl rfl ?_
  refine W.iadd 139 at_138 rfl (0 : Int32) (by decide) ?_
  refine W.iload 141 at_139 rfl rfl ?_
  refine W.iadd 142 at_141 rfl (0 : Int32) (by decide) ?_
  refine W.istore 144 at_142 rfl #[.val (.int p0), .val (.int p1), .val (.int (1 : Int32)), .val (.int (0 : Int32)), .val (.int (0 : Int32)), .val (.int (0 : Int32)), .val (.int (0 : Int32)), .val (.int (0 : Int32)), .val (.int (0 : Int32)), .val (.int (0 : Int32)), .val (.int (0 : Int32)), .val (.int (0 : Int32)), .val (.int (0 : Int32)), .val (.int (0 : Int32)), .val (.int (0 : Int32)), .val (.int (0 : Int32)), .unset, .unset, .unset, .unset, .unset, .unset, .unset, .unset, .unset] rfl ?_
  refine W.iloadN 145 at_144 rfl rfl ?_
  refine W.newarray 147 at_145 rfl (wd_4 hw) rfl (by decide) 1 1 (by decide) (by decide) (by decide) (by decide) (by decide) rfl ?_
  intro h1207 b1207 g1207 ge1207 X1207 K1207 A1207
  have A1207 : Ary _ _ b1207 .long [(.long (0 : Int64))] := A1207
  show W _ _ _ _ _ _ _ _ _ _ _ 1 1 147 #[.val (.int p0), .val (.int p1), .val (.int (1 : Int32)), .val (.int (0 : Int32)), .val (.int (0 : Int32)), .val (.int (0 : Int32)), .val (.int (0 : Int32)), .val (.int (0 : Int32)), .val (.int (0 : Int32)), .val (.int (0 : Int32)), .val (.int (0 : Int32)), .val (.int (0 : Int32)), .val (.int (0 : Int32)), .val (.int (0 : Int32)), .val (.int (0 : Int32)), .val (.int (0 : Int32)), .unset, .unset, .unset, .unset, .unset, .unset, .unset, .unset, .unset] [(.ref b1207)]
  refine W.astore 149 at_147 rfl rfl #[.val (.int p0), .val (.int p1), .val (.int (1 : Int32)), .val (.int (0 : Int32)), .val (.int (0 : Int32)), .val (.int (0 : Int32)), .val (.int (0 : Int32)), .val (.int (0 : Int32)), .val (.int (0 : Int32)), .val (.int (0 : Int32)), .val (.int (0 : Int32)), .val (.int (0 : Int32)), .val (.int (0 : Int32)), .val (.int (0 : Int32)), .val (.int (0 : Int32)), .val (.int (0 : Int32)), .val (.ref b1207), .unset, .unset, .unset, .unset, .unset, .unset, .unset, .unset] rfl ?_
  refine W.iloadN 150 at_149 rfl rfl ?_
  refine W.iconst 151 at_150 rfl (2 : Int32) rfl ?_
  refine W.icmp_lt 159 154 at_151 rfl rfl (fun _ => ?_) (fun hc => absurd (by decide) hc)
  refine W.iloadN 160 at_159 rfl rfl ?_
  refine W.iconst 161 at_160 rfl (3 : Int32) rfl ?_
  refine W.icmp_lt 171 164 at_161 rfl rfl (fun _ => ?_) (fun hc => absurd (by decide) hc)
  refine W.iloadN 172 at_171 rfl rfl ?_
  refine W.iconst 173 at_172 rfl (1 : Int32) rfl ?_
  refine W.iadd 174 at_173 rfl (2 : Int32) (by decide) ?_
  refine W.newarray 176 at_174 rfl (wd_5 hw) rfl (by decide) 2 2 (by decide) (by decide) (by decide) (by decide) (by decide) rfl ?_
  intro h1208 b1208 g1208 ge1208 X1208 K1208 A1208
  have ne1209 : b1207 ≠ b1208 := Nat.ne_of_lt (Nat.lt_of_lt_of_eq A1207.lt g1208.symm)
  have A1208 : Ary _ _ b1208 .int [(.int (0 : Int32)), (.int (0 : Int32))] := A1208
  show W _ _ _ _ _ _ _ _ _ _ _ 2 3 176 #[.val (.int p0), .val (.int p1), .val (.int (1 : Int32)), .val (.int (0 : Int32)), .val (.int (0 : Int32)), .val (.int (0 : Int32)), .val (.int (0 : Int32)), .val (.int (0 : Int32)), .val (.int (0 : Int32)), .val (.int (0 : Int32)), .val (.int (0 : Int32)), .val (.int (0 : Int32)), .val (.int (0 : Int32)), .val (.int (0 : Int32)), .val (.int (0 : Int32)), .val (.int (0 : Int32)), .val (.ref b1207), .unset, .unset, .unset, .unset, .unset, .unset, .unset, .unset] [(.ref b1208)]
  refine W.astore 178 at_176 rfl rfl #[.val (.int p0), .val (.int p1), .val (.int (1 : Int32)), .val (.int (0 : Int32)), .val (.int (0 : Int32)), .val (.int (0 : Int32)), .val (.int (0 : Int32)), .val (.int (0 : Int32)), .val (.int (0 : Int32)), .val (.int (0 : Int32)), .val (.int (0 : Int32)), .val (.int (0 : Int32)), .val (.int (0 : Int32)), .val (.int (0 : Int32)), .val (.int (0 : Int32)), .val (.int (0 : Int32)), .val (.ref b1207), .val (.ref b1208), .unset, .unset, .unset, .unset, .unset, .unset, .unset] rfl ?_
  refine W.iloadN 179 at_178 rfl rfl ?_
  refine W.iconst 180 at_179 rfl (1 : Int32) rfl ?_
  refine W.icmp_lt 189 183 at_180 rfl rfl (fun hc => absurd hc (by decide)) (fun _ => ?_)
  refine W.aload 185 at_183 rfl rfl rfl ?_
  refine W.iconst 186 at_185 rfl (1 : Int32) rfl ?_
  refine W.iload 188 at_186 rfl rfl ?_
  refine W.iastore 189 at_188 rfl A1208 1 (by decide) (by decide) (Nat.le_of_ble_eq_true rfl) ge1208 ?_
  intro h1210 W1210 K1210 A1210
  have A1210 : Ary _ _ b1208 .int [(.int (0 : Int32)), (.int (0 : Int32))] := A1210
  refine W.iloadN 190 at_189 rfl rfl ?_
  refine W.iconst 191 at_190 rfl (2 : Int32) rfl ?_
  refine W.icmp_lt 203 194 at_191 rfl rfl (fun _ => ?_) (fun hc => absurd (by decide) hc)
  refine W.iloadN 204 at_203 rfl rfl ?_
  refine W.iconst 205 at_204 rfl (3 : Int32) rfl ?_
  refine W.icmp_lt 214 208 at_205 rfl rfl (fun _ => ?_) (fun hc => absurd (by decide) hc)
  refine W.iload 216 at_214 rfl rfl ?_
  refine W.newarray 218 at_216 rfl (wd_5 hw) rfl (by decide) 0 0 (by decide) (by decide) (by decide) (by decide) (by decide) rfl ?_
  intro h1211 b1211 g1211 ge1211 X1211 K1211 A1211
  have q1212 := ((A1207.keep K1208 nin0).keep K1210 (ninS ne1209 nin0))
  have ne1213 : b1207 ≠ b1211 := Nat.ne_of_lt (Nat.lt_of_lt_of_eq q1212.lt g1211.symm)
  have ne1214 : b1208 ≠ b1211 := Nat.ne_of_lt (Nat.lt_of_lt_of_eq A1210.lt g1211.symm)
  have A1211 : Ary _ _ b1211 .int [] := A1211
  show W _ _ _ _ _ _ _ _ _ _ _ 3 3 218 #[.val (.int p0), .val (.int p1), .val (.int (1 : Int32)), .val (.int (0 : Int32)), .val (.int (0 : Int32)), .val (.int (0 : Int32)), .val (.int (0 : Int32)), .val (.int (0 : Int32)), .val (.int (0 : Int32)), .val (.int (0 : Int32)), .val (.int (0 : Int32)), .val (.int (0 : Int32)), .val (.int (0 : Int32)), .val (.int (0 : Int32)), .val (.int (0 : Int32)), .val (.int (0 : Int32)), .val (.ref b1207), .val (.ref b1208), .unset, .unset, .unset, .unset, .unset, .unset, .unset] [(.ref b1211)]
  refine W.astore 220 at_218 rfl rfl #[.val (.int p0), .val (.int p1), .val (.int (1 : Int32)), .val (.int (0 : Int32)), .val (.int (0 : Int32)), .val (.int (0 : Int32)), .val (.int (0 : Int32)), .val (.int (0 : Int32)), .val (.int (0 : Int32)), .val (.int (0 : Int32)), .val (.int (0 : Int32)), .val (.int (0 : Int32)), .val (.int (0 : Int32)), .val (.int (0 : Int32)), .val (.int (0 : Int32)), .val (.int (0 : Int32)), .val (.ref b1207), .val (.ref b1208), .val (.ref b1211), .unset, .unset, .unset, .unset, .unset, .unset] rfl ?_
  refine W.iconst 221 at_220 rfl (0 : Int32) rfl ?_
  refine W.istore 223 at_221 rfl #[.val (.int p0), .val (.int p1), .val (.int (1 : Int32)), .val (.int (0 : Int32)), .val (.int (0 : Int32)), .val (.int (0 : Int32)), .val (.int (0 : Int32)), .val (.int (0 : Int32)), .val (.int (0 : Int32)), .val (.int (0 : Int32)), .val (.int (0 : Int32)), .val (.int (0 : Int32)), .val (.int (0 : Int32)), .val (.int (0 : Int32)), .val (.int (0 : Int32)), .val (.int (0 : Int32)), .val (.ref b1207), .val (.ref b1208), .val (.ref b1211), .val (.int (0 : Int32)), .unset, .unset, .unset, .unset, .unset] rfl ?_
  have q1215 := (q1212.keep K1211 nin0)
  have q1216 := (A1210.keep K1211 nin0)
  exact (t_223 l Z a0 hw p0 p1 (1 : Int32) (0 : Int32) (0 : Int32) (0 : Int32) (0 : Int32) (0 : Int32) (0 : Int32) (0 : Int32) (0 : Int32) (0 : Int32) (0 : Int32) (0 : Int32) (0 : Int32) (0 : Int32) (0 : Int32) b1207 b1208 b1211 _ _ _ _ n0 own_b0 own_b0 own_b0 own_b0 own_b0 own_b0 (by decide) (by decide) rfl rfl q1215 q1216 ge1207 A1211 (by decide) ge1211 ne1213 ne1214 (Or.inl ⟨rfl, rfl, rfl, rfl⟩) rfl).mono (by decide) (by decide)
set_option maxRecDepth 65536 in
set_option maxHeartbeats 40000000 in
theorem law_11 (l : Launch) (Z : State) (a0 : Array Value) (hw : ∀ d ∈ tables_1, d.before a0 Z = true) (p0 p1 : Int32) (h : Heap) (n0 : Nat) (hn : n0 ≤ h.size) (hN : (p0 &&& (3 : Int32)) = (1 : Int32)) (hD : (p0 &&& (4 : Int32)) = (4 : Int32)) : ConW tables_1 l Z x code maxLocals ret room_1 #[(.int p0), (.int p1)] h n0 (fun r _ => r = some (.int 1)) := by
  refine ConW.of_W (Ls := #[.val (.int p0), .val (.int p1), .unset, .unset, .unset, .unset, .unset, .unset, .unset, .unset, .unset, .unset, .unset, .unset, .unset, .unset, .unset, .unset, .unset, .unset, .unset, .unset, .unset, .unset, .unset]) (plainFor_of_name pn_0) hn (fun m => by first | (simp [entryFrame, mkF, argsToLocals, Value.category, maxLocals]; done) | rfl) ?_
  refine W.iloadN 1 at_0 rfl rfl ?_
  refine W.iconst 2 at_1 rfl (3 : Int32) rfl ?_
  refine W.iand 3 at_2 rfl (1 : Int32) hN ?_
  refine W.istoreN 4 at_3 rfl #[.val (.int p0), .val (.int p1), .val (.int (1 : Int32)), .unset, .unset, .unset, .unset, .unset, .unset, .unset, .unset, .unset, .unset, .unset, .unset, .unset, .unset, .unset, .unset, .unset, .unset, .unset, .unset, .unset, .unset] rfl ?_
  refine W.iloadN 5 at_4 rfl rfl ?_
  refine W.iconst 6 at_5 rfl (4 : Int32) rfl ?_
  refine W.iand 7 at_6 rfl (4 : Int32) hD ?_
  refine W.if_eq 14 10 at_7 rfl rfl (fun hc => absurd hc (by decide)) (fun _ => ?_)
  refine W.iconst 11 at_10 rfl (1 : Int32) rfl ?_
  refine W.goto 15 at_11 rfl ?_
  refine W.istoreN 16 at_15 rfl #[.val (.int p0), .val (.int p1), .val (.int (1 : Int32)), .val (.int (1 : Int32)), .unset, .unset, .unset, .unset, .unset, .unset, .unset, .unset, .unset, .unset, .unset, .unset, .unset, .unset, .unset, .unset, .unset, .unset, .unset, .unset, .unset] rfl ?_
  refine W.iloadN 17 at_16 rfl rfl ?_
  refine W.iconst 18 at_17 rfl (2 : Int32) rfl ?_
  refine W.icmp_lt 25 21 at_18 rfl rfl (fun _ => ?_) (fun hc => absurd (by decide) hc)
  refine W.iconst 26 at_25 rfl (0 : Int32) rfl ?_
  refine W.istore 28 at_26 rfl #[.val (.int p0), .val (.int p1), .val (.int (1 : Int32)), .val (.int (1 : Int32)), .val (.int (0 : Int32)), .unset, .unset, .unset, .unset, .unset, .unset, .unset, .unset, .unset, .unset, .unset, .unset, .unset, .unset, .unset, .unset, .unset, .unset, .unset, .unset] rfl ?_
  refine W.iloadN 29 at_28 rfl rfl ?_
  refine W.iconst 30 at_29 rfl (3 : Int32) rfl ?_
  refine W.icmp_lt 37 33 at_30 rfl rfl (fun _ => ?_) (fun hc => absurd (by decide) hc)
  refine W.iconst 38 at_37 rfl (0 : Int32) rfl ?_
  refine W.istore 40 at_38 rfl #[.val (.int p0), .val (.int p1), .val (.int (1 : Int32)), .val (.int (1 : Int32)), .val (.int (0 : Int32)), .val (.int (0 : Int32)), .unset, .unset, .unset, .unset, .unset, .unset, .unset, .unset, .unset, .unset, .unset, .unset, .unset, .unset, .unset, .unset, .unset, .unset, .unset] rfl ?_
  refine W.iloadN 41 at_40 rfl rfl ?_
  refine W.iconst 42 at_41 rfl (0 : Int32) rfl ?_
  refine W.iload 44 at_42 rfl rfl ?_
  refine W.callS (rest := []) (argsL := [(.int p1), (.int (0 : Int32)), (.int (0 : Int32))]) 47 at_44 rfl (fun hn => c_bit0 l Z a0 hw p1 (0 : Int32) _ n0 hn) (wd_0 hw) (wd_1 hw) (wd_2 hw) (wd_3 hw) (by decide) pd_2 rfl rfl rfl (by decide) 0 (Nat.le_of_ble_eq_true rfl) (by decide) (by decide) (by decide) ?_
  rintro v1217 h1217 ⟨rfl, rfl⟩
  show W _ _ _ _ _ _ _ _ _ _ _ 0 0 47 #[.val (.int p0), .val (.int p1), .val (.int (1 : Int32)), .val (.int (1 : Int32)), .val (.int (0 : Int32)), .val (.int (0 : Int32)), .unset, .unset, .unset, .unset, .unset, .unset, .unset, .unset, .unset, .unset, .unset, .unset, .unset, .unset, .unset, .unset, .unset, .unset, .unset] [(.int (0 : Int32))]
  refine W.istore 49 at_47 rfl #[.val (.int p0), .val (.int p1), .val (.int (1 : Int32)), .val (.int (1 : Int32)), .val (.int (0 : Int32)), .val (.int (0 : Int32)), .val (.int (0 : Int32)), .unset, .unset, .unset, .unset, .unset, .unset, .unset, .unset, .unset, .unset, .unset, .unset, .unset, .unset, .unset, .unset, .unset, .unset] rfl ?_
  refine W.iloadN 50 at_49 rfl rfl ?_
  refine W.iconst 51 at_50 rfl (1 : Int32) rfl ?_
  refine W.iload 53 at_51 rfl rfl ?_
  refine W.callS (rest := []) (argsL := [(.int p1), (.int (1 : Int32)), (.int (0 : Int32))]) 56 at_53 rfl (fun hn => c_bit0 l Z a0 hw p1 (1 : Int32) _ n0 hn) (wd_0 hw) (wd_1 hw) (wd_2 hw) (wd_3 hw) (by decide) pd_2 rfl rfl rfl (by decide) 0 (Nat.le_of_ble_eq_true rfl) (by decide) (by decide) (by decide) ?_
  rintro v1218 h1218 ⟨rfl, rfl⟩
  show W _ _ _ _ _ _ _ _ _ _ _ 0 0 56 #[.val (.int p0), .val (.int p1), .val (.int (1 : Int32)), .val (.int (1 : Int32)), .val (.int (0 : Int32)), .val (.int (0 : Int32)), .val (.int (0 : Int32)), .unset, .unset, .unset, .unset, .unset, .unset, .unset, .unset, .unset, .unset, .unset, .unset, .unset, .unset, .unset, .unset, .unset, .unset] [(.int (0 : Int32))]
  refine W.istore 58 at_56 rfl #[.val (.int p0), .val (.int p1), .val (.int (1 : Int32)), .val (.int (1 : Int32)), .val (.int (0 : Int32)), .val (.int (0 : Int32)), .val (.int (0 : Int32)), .val (.int (0 : Int32)), .unset, .unset, .unset, .unset, .unset, .unset, .unset, .unset, .unset, .unset, .unset, .unset, .unset, .unset, .unset, .unset, .unset] rfl ?_
  refine W.iloadN 59 at_58 rfl rfl ?_
  refine W.iconst 60 at_59 rfl (3 : Int32) rfl ?_
  refine W.iload 62 at_60 rfl rfl ?_
  refine W.callS (rest := []) (argsL := [(.int p1), (.int (3 : Int32)), (.int (0 : Int32))]) 65 at_62 rfl (fun hn => c_bit0 l Z a0 hw p1 (3 : Int32) _ n0 hn) (wd_0 hw) (wd_1 hw) (wd_2 hw) (wd_3 hw) (by decide) pd_2 rfl rfl rfl (by decide) 0 (Nat.le_of_ble_eq_true rfl) (by decide) (by decide) (by decide) ?_
  rintro v1219 h1219 ⟨rfl, rfl⟩
  show W _ _ _ _ _ _ _ _ _ _ _ 0 0 65 #[.val (.int p0), .val (.int p1), .val (.int (1 : Int32)), .val (.int (1 : Int32)), .val (.int (0 : Int32)), .val (.int (0 : Int32)), .val (.int (0 : Int32)), .val (.int (0 : Int32)), .unset, .unset, .unset, .unset, .unset, .unset, .unset, .unset, .unset, .unset, .unset, .unset, .unset, .unset, .unset, .unset, .unset] [(.int (0 : Int32))]
  refine W.istore 67 at_65 rfl #[.val (.int p0), .val (.int p1), .val (.int (1 : Int32)), .val (.int (1 : Int32)), .val (.int (0 : Int32)), .val (.int (0 : Int32)), .val (.int (0 : Int32)), .val (.int (0 : Int32)), .val (.int (0 : Int32)), .unset, .unset, .unset, .unset, .unset, .unset, .unset, .unset, .unset, .unset, .unset, .unset, .unset, .unset, .unset, .unset] rfl ?_
  refine W.iloadN 68 at_67 rfl rfl ?_
  refine W.if_eq 101 71 at_68 rfl rfl (fun hc => absurd hc (by decide)) (fun _ => ?_)
  refine W.iloadN 72 at_71 rfl rfl ?_
  refine W.iconst 73 at_72 rfl (2 : Int32) rfl ?_
  refine W.iload 75 at_73 rfl rfl ?_
  refine W.callS (rest := []) (argsL := [(.int p1), (.int (2 : Int32)), (.int (0 : Int32))]) 78 at_75 rfl (fun hn => c_bit0 l Z a0 hw p1 (2 : Int32) _ n0 hn) (wd_0 hw) (wd_1 hw) (wd_2 hw) (wd_3 hw) (by decide) pd_2 rfl rfl rfl (by decide) 0 (Nat.le_of_ble_eq_true rfl) (by decide) (by decide) (by decide) ?_
  rintro v1220 h1220 ⟨rfl, rfl⟩
  show W _ _ _ _ _ _ _ _ _ _ _ 0 0 78 #[.val (.int p0), .val (.int p1), .val (.int (1 : Int32)), .val (.int (1 : Int32)), .val (.int (0 : Int32)), .val (.int (0 : Int32)), .val (.int (0 : Int32)), .val (.int (0 : Int32)), .val (.int (0 : Int32)), .unset, .unset, .unset, .unset, .unset, .unset, .unset, .unset, .unset, .unset, .unset, .unset, .unset, .unset, .unset, .unset] [(.int (0 : Int32))]
  refine W.istore 80 at_78 rfl #[.val (.int p0), .val (.int p1), .val (.int (1 : Int32)), .val (.int (1 : Int32)), .val (.int (0 : Int32)), .val (.int (0 : Int32)), .val (.int (0 : Int32)), .val (.int (0 : Int32)), .val (.int (0 : Int32)), .val (.int (0 : Int32)), .unset, .unset, .unset, .unset, .unset, .unset, .unset, .unset, .unset, .unset, .unset, .unset, .unset, .unset, .unset] rfl ?_
  refine W.iloadN 81 at_80 rfl rfl ?_
  refine W.iconst 82 at_81 rfl (4 : Int32) rfl ?_
  refine W.iload 84 at_82 rfl rfl ?_
  refine W.callS (rest := []) (argsL := [(.int p1), (.int (4 : Int32)), (.int (0 : Int32))]) 87 at_84 rfl (fun hn => c_bit0 l Z a0 hw p1 (4 : Int32) _ n0 hn) (wd_0 hw) (wd_1 hw) (wd_2 hw) (wd_3 hw) (by decide) pd_2 rfl rfl rfl (by decide) 0 (Nat.le_of_ble_eq_true rfl) (by decide) (by decide) (by decide) ?_
  rintro v1221 h1221 ⟨rfl, rfl⟩
  show W _ _ _ _ _ _ _ _ _ _ _ 0 0 87 #[.val (.int p0), .val (.int p1), .val (.int (1 : Int32)), .val (.int (1 : Int32)), .val (.int (0 : Int32)), .val (.int (0 : Int32)), .val (.int (0 : Int32)), .val (.int (0 : Int32)), .val (.int (0 : Int32)), .val (.int (0 : Int32)), .unset, .unset, .unset, .unset, .unset, .unset, .unset, .unset, .unset, .unset, .unset, .unset, .unset, .unset, .unset] [(.int (0 : Int32))]
  refine W.istore 89 at_87 rfl #[.val (.int p0), .val (.int p1), .val (.int (1 : Int32)), .val (.int (1 : Int32)), .val (.int (0 : Int32)), .val (.int (0 : Int32)), .val (.int (0 : Int32)), .val (.int (0 : Int32)), .val (.int (0 : Int32)), .val (.int (0 : Int32)), .val (.int (0 : Int32)), .unset, .unset, .unset, .unset, .unset, .unset, .unset, .unset, .unset, .unset, .unset, .unset, .unset, .unset] rfl ?_
  refine W.iloadN 90 at_89 rfl rfl ?_
  refine W.iconst 91 at_90 rfl (5 : Int32) rfl ?_
  refine W.iload 93 at_91 rfl rfl ?_
  refine W.callS (rest := []) (argsL := [(.int p1), (.int (5 : Int32)), (.int (0 : Int32))]) 96 at_93 rfl (fun hn => c_bit0 l Z a0 hw p1 (5 : Int32) _ n0 hn) (wd_0 hw) (wd_1 hw) (wd_2 hw) (wd_3 hw) (by decide) pd_2 rfl rfl rfl (by decide) 0 (Nat.le_of_ble_eq_true rfl) (by decide) (by decide) (by decide) ?_
  rintro v1222 h1222 ⟨rfl, rfl⟩
  show W _ _ _ _ _ _ _ _ _ _ _ 0 0 96 #[.val (.int p0), .val (.int p1), .val (.int (1 : Int32)), .val (.int (1 : Int32)), .val (.int (0 : Int32)), .val (.int (0 : Int32)), .val (.int (0 : Int32)), .val (.int (0 : Int32)), .val (.int (0 : Int32)), .val (.int (0 : Int32)), .val (.int (0 : Int32)), .unset, .unset, .unset, .unset, .unset, .unset, .unset, .unset, .unset, .unset, .unset, .unset, .unset, .unset] [(.int (0 : Int32))]
  refine W.istore 98 at_96 rfl #[.val (.int p0), .val (.int p1), .val (.int (1 : Int32)), .val (.int (1 : Int32)), .val (.int (0 : Int32)), .val (.int (0 : Int32)), .val (.int (0 : Int32)), .val (.int (0 : Int32)), .val (.int (0 : Int32)), .val (.int (0 : Int32)), .val (.int (0 : Int32)), .val (.int (0 : Int32)), .unset, .unset, .unset, .unset, .unset, .unset, .unset, .unset, .unset, .unset, .unset, .unset, .unset] rfl ?_
  refine W.goto 113 at_98 rfl ?_
  refine W.iload 115 at_113 rfl rfl ?_
  refine W.iload 117 at_115 rfl rfl ?_
  refine W.iadd 118 at_117 rfl (0 : Int32) (by decide) ?_
  refine W.istore 120 at_118 rfl #[.val (.int p0), .val (.int p1), .val (.int (1 : Int32)), .val (.int (1 : Int32)), .val (.int (0 : Int32)), .val (.int (0 : Int32)), .val (.int (0 : Int32)), .val (.int (0 : Int32)), .val (.int (0 : Int32)), .val (.int (0 : Int32)), .val (.int (0 : Int32)), .val (.int (0 : Int32)), .val (.int (0 : Int32)), .unset, .unset, .unset, .unset, .unset, .unset, .unset, .unset, .unset, .unset, .unset, .unset] rfl ?_
  refine W.iload 122 at_120 rfl rfl ?_
  refine W.iload 124 at_122 rfl rfl ?_
  refine W.iadd 125 at_124 rfl (0 : Int32) (by decide) ?_
  refine W.istore 127 at_125 rfl #[.val (.int p0), .val (.int p1), .val (.int (1 : Int32)), .val (.int (1 : Int32)), .val (.int (0 : Int32)), .val (.int (0 : Int32)), .val (.int (0 : Int32)), .val (.int (0 : Int32)), .val (.int (0 : Int32)), .val (.int (0 : Int32)), .val (.int (0 : Int32)), .val (.int (0 : Int32)), .val (.int (0 : Int32)), .val (.int (0 : Int32)), .unset, .unset, .unset, .unset, .unset, .unset, .unset, .unset, .unset, .unset, .unset] rfl ?_
  refine W.iload 129 at_127 rfl rfl ?_
  refine W.iload 131 at_129 rfl rfl ?_
  refine W.iadd 132 at_131 rfl (0 : Int32) (by decide) ?_
  refine W.istore 134 at_132 rfl #[.val (.int p0), .val (.int p1), .val (.int (1 : Int32)), .val (.int (1 : Int32)), .val (.int (0 : Int32)), .val (.int (0 : Int32)), .val (.int (0 : Int32)), .val (.int (0 : Int32)), .val (.int (0 : Int32)), .val (.int (0 : Int32)), .val (.int (0 : Int32)), .val (.int (0 : Int32)), .val (.int (0 : Int32)), .val (.int (0 : Int32)), .val (.int (0 : Int32)), .unset, .unset, .unset, .unset, .unset, .unset, .unset, .unset, .unset, .unset] rfl ?_
  refine W.iload 136 at_134 rfl rfl ?_
  refine W.iload 138 at_136 rfl rfl ?_
  refine W.iadd 139 at_138 rfl (0 : Int32) (by decide) ?_
  refine W.iload 141 at_139 rfl rfl ?_
  refine W.iadd 142 at_141 rfl (0 : Int32) (by decide) ?_
  refine W.istore 144 at_142 rfl #[.val (.int p0), .val (.int p1), .val (.int (1 : Int32)), .val (.int (1 : Int32)), .val (.int (0 : Int32)), .val (.int (0 : Int32)), .val (.int (0 : Int32)), .val (.int (0 : Int32)), .val (.int (0 : Int32)), .val (.int (0 : Int32)), .val (.int (0 : Int32)), .val (.int (0 : Int32)), .val (.int (0 : Int32)), .val (.int (0 : Int32)), .val (.int (0 : Int32)), .val (.int (0 : Int32)), .unset, .unset, .unset, .unset, .unset, .unset, .unset, .unset, .unset] rfl ?_
  refine W.iloadN 145 at_144 rfl rfl ?_
  refine W.newarray 147 at_145 rfl (wd_4 hw) rfl (by decide) 1 1 (by decide) (by decide) (by decide) (by decide) (by decide) rfl ?_
  intro h1223 b1223 g1223 ge1223 X1223 K1223 A1223
  have A1223 : Ary _ _ b1223 .long [(.long (0 : Int64))] := A1223
  show W _ _ _ _ _ _ _ _ _ _ _ 1 1 147 #[.val (.int p0), .val (.int p1), .val (.int (1 : Int32)), .val (.int (1 : Int32)), .val (.int (0 : Int32)), .val (.int (0 : Int32)), .val (.int (0 : Int32)), .val (.int (0 : Int32)), .val (.int (0 : Int32)), .val (.int (0 : Int32)), .val (.int (0 : Int32)), .val (.int (0 : Int32)), .val (.int (0 : Int32)), .val (.int (0 : Int32)), .val (.int (0 : Int32)), .val (.int (0 : Int32)), .unset, .unset, .unset, .unset, .unset, .unset, .unset, .unset, .unset] [(.ref b1223)]
  refine W.astore 149 at_147 rfl rfl #[.val (.int p0), .val (.int p1), .val (.int (1 : Int32)), .val (.int (1 : Int32)), .val (.int (0 : Int32)), .val (.int (0 : Int32)), .val (.int (0 : Int32)), .val (.int (0 : Int32)), .val (.int (0 : Int32)), .val (.int (0 : Int32)), .val (.int (0 : Int32)), .val (.int (0 : Int32)), .val (.int (0 : Int32)), .val (.int (0 : Int32)), .val (.int (0 : Int32)), .val (.int (0 : Int32)), .val (.ref b1223), .unset, .unset, .unset, .unset, .unset, .unset, .unset, .unset] rfl ?_
  refine W.iloadN 150 at_149 rfl rfl ?_
  refine W.iconst 151 at_150 rfl (2 : Int32) rfl ?_
  refine W.icmp_lt 159 154 at_151 rfl rfl (fun _ => ?_) (fun hc => absurd (by decide) hc)
  refine W.iloadN 160 at_159 rfl rfl ?_
  refine W.iconst 161 at_160 rfl (3 : Int32) rfl ?_
  refine W.icmp_lt 171 164 at_161 rfl rfl (fun _ => ?_) (fun hc => absurd (by decide) hc)
  refine W.iloadN 172 at_171 rfl rfl ?_
  refine W.iconst 173 at_172 rfl (1 : Int32) rfl ?_
  refine W.iadd 174 at_173 rfl (2 : Int32) (by decide) ?_
  refine W.newarray 176 at_174 rfl (wd_5 hw) rfl (by decide) 2 2 (by decide) (by decide) (by decide) (by decide) (by decide) rfl ?_
  intro h1224 b1224 g1224 ge1224 X1224 K1224 A1224
  have ne1225 : b1223 ≠ b1224 := Nat.ne_of_lt (Nat.lt_of_lt_of_eq A1223.lt g1224.symm)
  have A1224 : Ary _ _ b1224 .int [(.int (0 : Int32)), (.int (0 : Int32))] := A1224
  show W _ _ _ _ _ _ _ _ _ _ _ 2 3 176 #[.val (.int p0), .val (.int p1), .val (.int (1 : Int32)), .val (.int (1 : Int32)), .val (.int (0 : Int32)), .val (.int (0 : Int32)), .val (.int (0 : Int32)), .val (.int (0 : Int32)), .val (.int (0 : Int32)), .val (.int (0 : Int32)), .val (.int (0 : Int32)), .val (.int (0 : Int32)), .val (.int (0 : Int32)), .val (.int (0 : Int32)), .val (.int (0 : Int32)), .val (.int (0 : Int32)), .val (.ref b1223), .unset, .unset, .unset, .unset, .unset, .unset, .unset, .unset] [(.ref b1224)]
  refine W.astore 178 at_176 rfl rfl #[.val (.int p0), .val (.int p1), .val (.int (1 : Int32)), .val (.int (1 : Int32)), .val (.int (0 : Int32)), .val (.int (0 : Int32)), .val (.int (0 : Int32)), .val (.int (0 : Int32)), .val (.int (0 : Int32)), .val (.int (0 : Int32)), .val (.int (0 : Int32)), .val (.int (0 : Int32)), .val (.int (0 : Int32)), .val (.int (0 : Int32)), .val (.int (0 : Int32)), .val (.int (0 : Int32)), .val (.ref b1223), .val (.ref b1224), .unset, .unset, .unset, .unset, .unset, .unset, .unset] rfl ?_
  refine W.iloadN 179 at_178 rfl rfl ?_
  refine W.iconst 180 at_179 rfl (1 : Int32) rfl ?_
  refine W.icmp_lt 189 183 at_180 rfl rfl (fun hc => absurd hc (by decide)) (fun _ => ?_)
  refine W.aload 185 at_183 rfl rfl rfl ?_
  refine W.iconst 186 at_185 rfl (1 : Int32) rfl ?_
  refine W.iload 188 at_186 rfl rfl ?_
  refine W.iastore 189 at_188 rfl A1224 1 (by decide) (by decide) (Nat.le_of_ble_eq_true rfl) ge1224 ?_
  intro h1226 W1226 K1226 A1226
  have A1226 : Ary _ _ b1224 .int [(.int (0 : Int32)), (.int (0 : Int32))] := A1226
  refine W.iloadN 190 at_189 rfl rfl ?_
  refine W.iconst 191 at_190 rfl (2 : Int32) rfl ?_
  refine W.icmp_lt 203 194 at_191 rfl rfl (fun _ => ?_) (fun hc => absurd (by decide) hc)
  refine W.iloadN 204 at_203 rfl rfl ?_
  refine W.iconst 205 at_204 rfl (3 : Int32) rfl ?_
  refine W.icmp_lt 214 208 at_205 rfl rfl (fun _ => ?_) (fun hc => absurd (by decide) hc)
  refine W.iload 216 at_214 rfl rfl ?_
  refine W.newarray 218 at_216 rfl (wd_5 hw) rfl (by decide) 0 0 (by decide) (by decide) (by decide) (by decide) (by decide) rfl ?_
  intro h1227 b1227 g1227 ge1227 X1227 K1227 A1227
  have q1228 := ((A1223.keep K1224 nin0).keep K1226 (ninS ne1225 nin0))
  have ne1229 : b1223 ≠ b1227 := Nat.ne_of_lt (Nat.lt_of_lt_of_eq q1228.lt g1227.symm)
  have ne1230 : b1224 ≠ b1227 := Nat.ne_of_lt (Nat.lt_of_lt_of_eq A1226.lt g1227.symm)
  have A1227 : Ary _ _ b1227 .int [] := A1227
  show W _ _ _ _ _ _ _ _ _ _ _ 3 3 218 #[.val (.int p0), .val (.int p1), .val (.int (1 : Int32)), .val (.int (1 : Int32)), .val (.int (0 : Int32)), .val (.int (0 : Int32)), .val (.int (0 : Int32)), .val (.int (0 : Int32)), .val (.int (0 : Int32)), .val (.int (0 : Int32)), .val (.int (0 : Int32)), .val (.int (0 : Int32)), .val (.int (0 : Int32)), .val (.int (0 : Int32)), .val (.int (0 : Int32)), .val (.int (0 : Int32)), .val (.ref b1223), .val (.ref b1224), .unset, .unset, .unset, .unset, .unset, .unset, .unset] [(.ref b1227)]
  refine W.astore 220 at_218 rfl rfl #[.val (.int p0), .val (.int p1), .val (.int (1 : Int32)), .val (.int (1 : Int32)), .val (.int (0 : Int32)), .val (.int (0 : Int32)), .val (.int (0 : Int32)), .val (.int (0 : Int32)), .val (.int (0 : Int32)), .val (.int (0 : Int32)), .val (.int (0 : Int32)), .val (.int (0 : Int32)), .val (.int (0 : Int32)), .val (.int (0 : Int32)), .val (.int (0 : Int32)), .val (.int (0 : Int32)), .val (.ref b1223), .val (.ref b1224), .val (.ref b1227), .unset, .unset, .unset, .unset, .unset, .unset] rfl ?_
  refine W.iconst 221 at_220 rfl (0 : Int32) rfl ?_
  refine W.istore 223 at_221 rfl #[.val (.int p0), .val (.int p1), .val (.int (1 : Int32)), .val (.int (1 : Int32)), .val (.int (0 : Int32)), .val (.int (0 : Int32)), .val (.int (0 : Int32)), .val (.int (0 : Int32)), .val (.int (0 : Int32)), .val (.int (0 : Int32)), .val (.int (0 : Int32)), .val (.int (0 : Int32)), .val (.int (0 : Int32)), .val (.int (0 : Int32)), .val (.int (0 : Int32)), .val (.int (0 : Int32)), .val (.ref b1223), .val (.ref b1224), .val (.ref b1227), .val (.int (0 : Int32)), .unset, .unset, .unset, .unset, .unset] rfl ?_
  have q1231 := (q1228.keep K1227 nin0)
  have q1232 := (A1226.keep K1227 nin0)
  exact (t_223 l Z a0 hw p0 p1 (1 : Int32) (1 : Int32) (0 : Int32) (0 : Int32) (0 : Int32) (0 : Int32) (0 : Int32) (0 : Int32) (0 : Int32) (0 : Int32) (0 : Int32) (0 : Int32) (0 : Int32) (0 : Int32) (0 : Int32) b1223 b1224 b1227 _ _ _ _ n0 own_b0 own_b0 own_b0 own_b0 own_b0 own_b0 (by decide) (by decide) rfl rfl q1231 q1232 ge1223 A1227 (by decide) ge1227 ne1229 ne1230 (Or.inr rfl) rfl).mono (by decide) (by decide)
set_option maxRecDepth 65536 in
set_option maxHeartbeats 40000000 in
theorem law_20 (l : Launch) (Z : State) (a0 : Array Value) (hw : ∀ d ∈ tables_1, d.before a0 Z = true) (p0 p1 : Int32) (h : Heap) (n0 : Nat) (hn : n0 ≤ h.size) (hN : (p0 &&& (3 : Int32)) = (2 : Int32)) (hD : (p0 &&& (4 : Int32)) = (0 : Int32)) : ConW tables_1 l Z x code maxLocals ret room_1 #[(.int p0), (.int p1)] h n0 (fun r _ => r = some (.int 1)) := by
  refine ConW.of_W (Ls := #[.val (.int p0), .val (.int p1), .unset, .unset, .unset, .unset, .unset, .unset, .unset, .unset, .unset, .unset, .unset, .unset, .unset, .unset, .unset, .unset, .unset, .unset, .unset, .unset, .unset, .unset, .unset]) (plainFor_of_name pn_0) hn (fun m => by first | (simp [entryFrame, mkF, argsToLocals, Value.category, maxLocals]; done) | rfl) ?_
  refine W.iloadN 1 at_0 rfl rfl ?_
  refine W.iconst 2 at_1 rfl (3 : Int32) rfl ?_
  refine W.iand 3 at_2 rfl (2 : Int32) hN ?_
  refine W.istoreN 4 at_3 rfl #[.val (.int p0), .val (.int p1), .val (.int (2 : Int32)), .unset, .unset, .unset, .unset, .unset, .unset, .unset, .unset, .unset, .unset, .unset, .unset, .unset, .unset, .unset, .unset, .unset, .unset, .unset, .unset, .unset, .unset] rfl ?_
  refine W.iloadN 5 at_4 rfl rfl ?_
  refine W.iconst 6 at_5 rfl (4 : Int32) rfl ?_
  refine W.iand 7 at_6 rfl (0 : Int32) hD ?_
  refine W.if_eq 14 10 at_7 rfl rfl (fun _ => ?_) (fun hc => absurd (by decide) hc)
  refine W.iconst 15 at_14 rfl (0 : Int32) rfl ?_
  refine W.istoreN 16 at_15 rfl #[.val (.int p0), .val (.int p1), .val (.int (2 : Int32)), .val (.int (0 : Int32)), .unset, .unset, .unset, .unset, .unset, .unset, .unset, .unset, .unset, .unset, .unset, .unset, .unset, .unset, .unset, .unset, .unset, .unset, .unset, .unset, .unset] rfl ?_
  refine W.iloadN 17 at_16 rfl rfl ?_
  refine W.iconst 18 at_17 rfl (2 : Int32) rfl ?_
  refine W.icmp_lt 25 21 at_18 rfl rfl (fun hc => absurd hc (by decide)) (fun _ => ?_)
  refine W.iconst 22 at_21 rfl (1 : Int32) rfl ?_
  refine W.goto 26 at_22 rfl ?_
  refine W.istore 28 at_26 rfl #[.val (.int p0), .val (.int p1), .val (.int (2 : Int32)), .val (.int (0 : Int32)), .val (.int (1 : Int32)), .unset, .unset, .unset, .unset, .unset, .unset, .unset, .unset, .unset, .unset, .unset, .unset, .unset, .unset, .unset, .unset, .unset, .unset, .unset, .unset] rfl ?_
  refine W.iloadN 29 at_28 rfl rfl ?_
  refine W.iconst 30 at_29 rfl (3 : Int32) rfl ?_
  refine W.icmp_lt 37 33 at_30 rfl rfl (fun _ => ?_) (fun hc => absurd (by decide) hc)
  refine W.iconst 38 at_37 rfl (0 : Int32) rfl ?_
  refine W.istore 40 at_38 rfl #[.val (.int p0), .val (.int p1), .val (.int (2 : Int32)), .val (.int (0 : Int32)), .val (.int (1 : Int32)), .val (.int (0 : Int32)), .unset, .unset, .unset, .unset, .unset, .unset, .unset, .unset, .unset, .unset, .unset, .unset, .unset, .unset, .unset, .unset, .unset, .unset, .unset] rfl ?_
  refine W.iloadN 41 at_40 rfl rfl ?_
  refine W.iconst 42 at_41 rfl (0 : Int32) rfl ?_
  refine W.iload 44 at_42 rfl rfl ?_
  refine W.callS (rest := []) (argsL := [(.int p1), (.int (0 : Int32)), (.int (1 : Int32))]) 47 at_44 rfl (fun hn => c_bit1 l Z a0 hw p1 (0 : Int32) _ n0 hn) (wd_0 hw) (wd_1 hw) (wd_2 hw) (wd_3 hw) (by decide) pd_2 rfl rfl rfl (by decide) 0 (Nat.le_of_ble_eq_true rfl) (by decide) (by decide) (by decide) ?_
  rintro v1233 h1233 ⟨⟨z1233, rfl, hz1233⟩, rfl⟩
  show W _ _ _ _ _ _ _ _ _ _ _ 0 0 47 #[.val (.int p0), .val (.int p1), .val (.int (2 : Int32)), .val (.int (0 : Int32)), .val (.int (1 : Int32)), .val (.int (0 : Int32)), .unset, .unset, .unset, .unset, .unset, .unset, .unset, .unset, .unset, .unset, .unset, .unset, .unset, .unset, .unset, .unset, .unset, .unset, .unset] [(.int z1233)]
  refine W.istore 49 at_47 rfl #[.val (.int p0), .val (.int p1), .val (.int (2 : Int32)), .val (.int (0 : Int32)), .val (.int (1 : Int32)), .val (.int (0 : Int32)), .val (.int z1233), .unset, .unset, .unset, .unset, .unset, .unset, .unset, .unset, .unset, .unset, .unset, .unset, .unset, .unset, .unset, .unset, .unset, .unset] rfl ?_
  refine W.iloadN 50 at_49 rfl rfl ?_
  refine W.iconst 51 at_50 rfl (1 : Int32) rfl ?_
  refine W.iload 53 at_51 rfl rfl ?_
  refine W.callS (rest := []) (argsL := [(.int p1), (.int (1 : Int32)), (.int (0 : Int32))]) 56 at_53 rfl (fun hn => c_bit0 l Z a0 hw p1 (1 : Int32) _ n0 hn) (wd_0 hw) (wd_1 hw) (wd_2 hw) (wd_3 hw) (by decide) pd_2 rfl rfl rfl (by decide) 0 (Nat.le_of_ble_eq_true rfl) (by decide) (by decide) (by decide) ?_
  rintro v1234 h1234 ⟨rfl, rfl⟩
  show W _ _ _ _ _ _ _ _ _ _ _ 0 0 56 #[.val (.int p0), .val (.int p1), .val (.int (2 : Int32)), .val (.int (0 : Int32)), .val (.int (1 : Int32)), .val (.int (0 : Int32)), .val (.int z1233), .unset, .unset, .unset, .unset, .unset, .unset, .unset, .unset, .unset, .unset, .unset, .unset, .unset, .unset, .unset, .unset, .unset, .unset] [(.int (0 : Int32))]
  refine W.istore 58 at_56 rfl #[.val (.int p0), .val (.int p1), .val (.int (2 : Int32)), .val (.int (0 : Int32)), .val (.int (1 : Int32)), .val (.int (0 : Int32)), .val (.int z1233), .val (.int (0 : Int32)), .unset, .unset, .unset, .unset, .unset, .unset, .unset, .unset, .unset, .unset, .unset, .unset, .unset, .unset, .unset, .unset, .unset] rfl ?_
  refine W.iloadN 59 at_58 rfl rfl ?_
  refine W.iconst 60 at_59 rfl (3 : Int32) rfl ?_
  refine W.iload 62 at_60 rfl rfl ?_
  refine W.callS (rest := []) (argsL := [(.int p1), (.int (3 : Int32)), (.int (0 : Int32))]) 65 at_62 rfl (fun hn => c_bit0 l Z a0 hw p1 (3 : Int32) _ n0 hn) (wd_0 hw) (wd_1 hw) (wd_2 hw) (wd_3 hw) (by decide) pd_2 rfl rfl rfl (by decide) 0 (Nat.le_of_ble_eq_true rfl) (by decide) (by decide) (by decide) ?_
  rintro v1235 h1235 ⟨rfl, rfl⟩
  show W _ _ _ _ _ _ _ _ _ _ _ 0 0 65 #[.val (.int p0), .val (.int p1), .val (.int (2 : Int32)), .val (.int (0 : Int32)), .val (.int (1 : Int32)), .val (.int (0 : Int32)), .val (.int z1233), .val (.int (0 : Int32)), .unset, .unset, .unset, .unset, .unset, .unset, .unset, .unset, .unset, .unset, .unset, .unset, .unset, .unset, .unset, .unset, .unset] [(.int (0 : Int32))]
  refine W.istore 67 at_65 rfl #[.val (.int p0), .val (.int p1), .val (.int (2 : Int32)), .val (.int (0 : Int32)), .val (.int (1 : Int32)), .val (.int (0 : Int32)), .val (.int z1233), .val (.int (0 : Int32)), .val (.int (0 : Int32)), .unset, .unset, .unset, .unset, .unset, .unset, .unset, .unset, .unset, .unset, .unset, .unset, .unset, .unset, .unset, .unset] rfl ?_
  refine W.iloadN 68 at_67 rfl rfl ?_
  refine W.if_eq 101 71 at_68 rfl rfl (fun _ => ?_) (fun hc => absurd (by decide) hc)
  refine W.iload 103 at_101 rfl rfl ?_
  refine W.istore 105 at_103 rfl #[.val (.int p0), .val (.int p1), .val (.int (2 : Int32)), .val (.int (0 : Int32)), .val (.int (1 : Int32)), .val (.int (0 : Int32)), .val (.int z1233), .val (.int (0 : Int32)), .val (.int (0 : Int32)), .val (.int z1233), .unset, .unset, .unset, .unset, .unset, .unset, .unset, .unset, .unset, .unset, .unset, .unset, .unset, .unset, .unset] rfl ?_
  refine W.iload 107 at_105 rfl rfl ?_
  refine W.istore 109 at_107 rfl #[.val (.int p0), .val (.int p1), .val (.int (2 : Int32)), .val (.int (0 : Int32)), .val (.int (1 : Int32)), .val (.int (0 : Int32)), .val (.int z1233), .val (.int (0 : Int32)), .val (.int (0 : Int32)), .val (.int z1233), .val (.int (0 : Int32)), .unset, .unset, .unset, .unset, .unset, .unset, .unset, .unset, .unset, .unset, .unset, .unset, .unset, .unset] rfl ?_
  refine W.iload 111 at_109 rfl rfl ?_
  refine W.istore 113 at_111 rfl #[.val (.int p0), .val (.int p1), .val (.int (2 : Int32)), .val (.int (0 : Int32)), .val (.int (1 : Int32)), .val (.int (0 : Int32)), .val (.int z1233), .val (.int (0 : Int32)), .val (.int (0 : Int32)), .val (.int z1233), .val (.int (0 : Int32)), .val (.int (0 : Int32)), .unset, .unset, .unset, .unset, .unset, .unset, .unset, .unset, .unset, .unset, .unset, .unset, .unset] rfl ?_
  refine W.iload 115 at_113 rfl rfl ?_
  refine W.iload 117 at_115 rfl rfl ?_
  refine W.iadd 118 at_117 rfl (z1233 + (0 : Int32)) rfl ?_
  refine W.istore 120 at_118 rfl #[.val (.int p0), .val (.int p1), .val (.int (2 : Int32)), .val (.int (0 : Int32)), .val (.int (1 : Int32)), .val (.int (0 : Int32)), .val (.int z1233), .val (.int (0 : Int32)), .val (.int (0 : Int32)), .val (.int z1233), .val (.int (0 : Int32)), .val (.int (0 : Int32)), .val (.int (z1233 + (0 : Int32))), .unset, .unset, .unset, .unset, .unset, .unset, .unset, .unset, .unset, .unset, .unset, .unset] rfl ?_
  refine W.iload 122 at_120 rfl rfl ?_
  refine W.iload 124 at_122 rfl rfl ?_
  refine W.iadd 125 at_124 rfl (z1233 + (0 : Int32)) rfl ?_
  refine W.istore 127 at_125 rfl #[.val (.int p0), .val (.int p1), .val (.int (2 : Int32)), .val (.int (0 : Int32)), .val (.int (1 : Int32)), .val (.int (0 : Int32)), .val (.int z1233), .val (.int (0 : Int32)), .val (.int (0 : Int32)), .val (.int z1233), .val (.int (0 : Int32)), .val (.int (0 : Int32)), .val (.int (z1233 + (0 : Int32))), .val (.int (z1233 + (0 : Int32))), .unset, .unset, .unset, .unset, .unset, .unset, .unset, .unset, .unset, .unset, .unset] rfl ?_
  refine W.iload 129 at_127 rfl rfl ?_
  refine W.iload 131 at_129 rfl rfl ?_
  refine W.iadd 132 at_131 rfl (0 : Int32) (by decide) ?_
  refine W.istore 134 at_132 rfl #[.val (.int p0), .val (.int p1), .val (.int (2 : Int32)), .val (.int (0 : Int32)), .val (.int (1 : Int32)), .val (.int (0 : Int32)), .val (.int z1233), .val (.int (0 : Int32)), .val (.int (0 : Int32)), .val (.int z1233), .val (.int (0 : Int32)), .val (.int (0 : Int32)), .val (.int (z1233 + (0 : Int32))), .val (.int (z1233 + (0 : Int32))), .val (.int (0 : Int32)), .unset, .unset, .unset, .unset, .unset, .unset, .unset, .unset, .unset, .unset] rfl ?_
  refine W.iload 136 at_134 rfl rfl ?_
  refine W.iload 138 at_136 rfl rfl ?_
  refine W.iadd 139 at_138 rfl ((z1233 + (0 : Int32)) + (z1233 + (0 : Int32))) rfl ?_
  refine W.iload 141 at_139 rfl rfl ?_
  refine W.iadd 142 at_141 rfl (((z1233 + (0 : Int32)) + (z1233 + (0 : Int32))) + (0 : Int32)) rfl ?_
  refine W.istore 144 at_142 rfl #[.val (.int p0), .val (.int p1), .val (.int (2 : Int32)), .val (.int (0 : Int32)), .val (.int (1 : Int32)), .val (.int (0 : Int32)), .val (.int z1233), .val (.int (0 : Int32)), .val (.int (0 : Int32)), .val (.int z1233), .val (.int (0 : Int32)), .val (.int (0 : Int32)), .val (.int (z1233 + (0 : Int32))), .val (.int (z1233 + (0 : Int32))), .val (.int (0 : Int32)), .val (.int (((z1233 + (0 : Int32)) + (z1233 + (0 : Int32))) + (0 : Int32))), .unset, .unset, .unset, .unset, .unset, .unset, .unset, .unset, .unset] rfl ?_
  refine W.iloadN 145 at_144 rfl rfl ?_
  refine W.newarray 147 at_145 rfl (wd_4 hw) rfl (by decide) 2 2 (by decide) (by decide) (by decide) (by decide) (by decide) rfl ?_
  intro h1236 b1236 g1236 ge1236 X1236 K1236 A1236
  have A1236 : Ary _ _ b1236 .long [(.long (0 : Int64)), (.long (0 : Int64))] := A1236
  show W _ _ _ _ _ _ _ _ _ _ _ 1 2 147 #[.val (.int p0), .val (.int p1), .val (.int (2 : Int32)), .val (.int (0 : Int32)), .val (.int (1 : Int32)), .val (.int (0 : Int32)), .val (.int z1233), .val (.int (0 : Int32)), .val (.int (0 : Int32)), .val (.int z1233), .val (.int (0 : Int32)), .val (.int (0 : Int32)), .val (.int (z1233 + (0 : Int32))), .val (.int (z1233 + (0 : Int32))), .val (.int (0 : Int32)), .val (.int (((z1233 + (0 : Int32)) + (z1233 + (0 : Int32))) + (0 : Int32))), .unset, .unset, .unset, .unset, .unset, .unset, .unset, .unset, .unset] [(.ref b1236)]
  refine W.astore 149 at_147 rfl rfl #[.val (.int p0), .val (.int p1), .val (.int (2 : Int32)), .val (.int (0 : Int32)), .val (.int (1 : Int32)), .val (.int (0 : Int32)), .val (.int z1233), .val (.int (0 : Int32)), .val (.int (0 : Int32)), .val (.int z1233), .val (.int (0 : Int32)), .val (.int (0 : Int32)), .val (.int (z1233 + (0 : Int32))), .val (.int (z1233 + (0 : Int32))), .val (.int (0 : Int32)), .val (.int (((z1233 + (0 : Int32)) + (z1233 + (0 : Int32))) + (0 : Int32))), .val (.ref b1236), .unset, .unset, .unset, .unset, .unset, .unset, .unset, .unset] rfl ?_
  refine W.iloadN 150 at_149 rfl rfl ?_
  refine W.iconst 151 at_150 rfl (2 : Int32) rfl ?_
  refine W.icmp_lt 159 154 at_151 rfl rfl (fun hc => absurd hc (by decide)) (fun _ => ?_)
  refine W.aload 156 at_154 rfl rfl rfl ?_
  refine W.iconst 157 at_156 rfl (1 : Int32) rfl ?_
  refine W.lconst 158 at_157 rfl (1 : Int64) rfl ?_
  refine W.lastore 159 at_158 rfl A1236 1 (by decide) (by decide) (Nat.le_of_ble_eq_true rfl) ge1236 ?_
  intro h1237 W1237 K1237 A1237
  have A1237 : Ary _ _ b1236 .long [(.long (0 : Int64)), (.long (1 : Int64))] := A1237
  refine W.iloadN 160 at_159 rfl rfl ?_
  refine W.iconst 161 at_160 rfl (3 : Int32) rfl ?_
  refine W.icmp_lt 171 164 at_161 rfl rfl (fun _ => ?_) (fun hc => absurd (by decide) hc)
  refine W.iloadN 172 at_171 rfl rfl ?_
  refine W.iconst 173 at_172 rfl (1 : Int32) rfl ?_
  refine W.iadd 174 at_173 rfl (3 : Int32) (by decide) ?_
  refine W.newarray 176 at_174 rfl (wd_5 hw) rfl (by decide) 3 3 (by decide) (by decide) (by decide) (by decide) (by decide) rfl ?_
  intro h1238 b1238 g1238 ge1238 X1238 K1238 A1238
  have ne1239 : b1236 ≠ b1238 := Nat.ne_of_lt (Nat.lt_of_lt_of_eq A1237.lt g1238.symm)
  have A1238 : Ary _ _ b1238 .int [(.int (0 : Int32)), (.int (0 : Int32)), (.int (0 : Int32))] := A1238
  show W _ _ _ _ _ _ _ _ _ _ _ 2 5 176 #[.val (.int p0), .val (.int p1), .val (.int (2 : Int32)), .val (.int (0 : Int32)), .val (.int (1 : Int32)), .val (.int (0 : Int32)), .val (.int z1233), .val (.int (0 : Int32)), .val (.int (0 : Int32)), .val (.int z1233), .val (.int (0 : Int32)), .val (.int (0 : Int32)), .val (.int (z1233 + (0 : Int32))), .val (.int (z1233 + (0 : Int32))), .val (.int (0 : Int32)), .val (.int (((z1233 + (0 : Int32)) + (z1233 + (0 : Int32))) + (0 : Int32))), .val (.ref b1236), .unset, .unset, .unset, .unset, .unset, .unset, .unset, .unset] [(.ref b1238)]
  refine W.astore 178 at_176 rfl rfl #[.val (.int p0), .val (.int p1), .val (.int (2 : Int32)), .val (.int (0 : Int32)), .val (.int (1 : Int32)), .val (.int (0 : Int32)), .val (.int z1233), .val (.int (0 : Int32)), .val (.int (0 : Int32)), .val (.int z1233), .val (.int (0 : Int32)), .val (.int (0 : Int32)), .val (.int (z1233 + (0 : Int32))), .val (.int (z1233 + (0 : Int32))), .val (.int (0 : Int32)), .val (.int (((z1233 + (0 : Int32)) + (z1233 + (0 : Int32))) + (0 : Int32))), .val (.ref b1236), .val (.ref b1238), .unset, .unset, .unset, .unset, .unset, .unset, .unset] rfl ?_
  refine W.iloadN 179 at_178 rfl rfl ?_
  refine W.iconst 180 at_179 rfl (1 : Int32) rfl ?_
  refine W.icmp_lt 189 183 at_180 rfl rfl (fun hc => absurd hc (by decide)) (fun _ => ?_)
  refine W.aload 185 at_183 rfl rfl rfl ?_
  refine W.iconst 186 at_185 rfl (1 : Int32) rfl ?_
  refine W.iload 188 at_186 rfl rfl ?_
  refine W.iastore 189 at_188 rfl A1238 1 (by decide) (by decide) (Nat.le_of_ble_eq_true rfl) ge1238 ?_
  intro h1240 W1240 K1240 A1240
  have A1240 : Ary _ _ b1238 .int [(.int (0 : Int32)), (.int (z1233 + (0 : Int32))), (.int (0 : Int32))] := A1240
  refine W.iloadN 190 at_189 rfl rfl ?_
  refine W.iconst 191 at_190 rfl (2 : Int32) rfl ?_
  refine W.icmp_lt 203 194 at_191 rfl rfl (fun hc => absurd hc (by decide)) (fun _ => ?_)
  refine W.aload 196 at_194 rfl rfl rfl ?_
  refine W.iconst 197 at_196 rfl (2 : Int32) rfl ?_
  refine W.iload 199 at_197 rfl rfl ?_
  refine W.iload 201 at_199 rfl rfl ?_
  refine W.iadd 202 at_201 rfl ((z1233 + (0 : Int32)) + (z1233 + (0 : Int32))) rfl ?_
  refine W.iastore 203 at_202 rfl A1240 2 (by decide) (by decide) (Nat.le_of_ble_eq_true rfl) ge1238 ?_
  intro h1241 W1241 K1241 A1241
  have A1241 : Ary _ _ b1238 .int [(.int (0 : Int32)), (.int (z1233 + (0 : Int32))), (.int ((z1233 + (0 : Int32)) + (z1233 + (0 : Int32))))] := A1241
  refine W.iloadN 204 at_203 rfl rfl ?_
  refine W.iconst 205 at_204 rfl (3 : Int32) rfl ?_
  refine W.icmp_lt 214 208 at_205 rfl rfl (fun _ => ?_) (fun hc => absurd (by decide) hc)
  refine W.iload 216 at_214 rfl rfl ?_
  have htt := own_tot z1233 (0 : Int32) (0 : Int32) z1233 (0 : Int32) (0 : Int32) hz1233 own_b0 own_b0 hz1233 own_b0 own_b0
  have ett : ((z1233 + (0 : Int32)) + (z1233 + (0 : Int32)) + ((0 : Int32) + (0 : Int32))) = (((z1233 + (0 : Int32)) + (z1233 + (0 : Int32))) + (0 : Int32)) := by simp
  rw [ett] at htt
  refine W.newarray 218 at_216 rfl (wd_5 hw) rfl htt.1 ((((z1233 + (0 : Int32)) + (z1233 + (0 : Int32))) + (0 : Int32))).toNatClampNeg 6 rfl htt.2 (by decide) (by decide) (by decide) rfl ?_
  intro h1242 b1242 g1242 ge1242 X1242 K1242 A1242
  have q1243 := (((A1237.keep K1238 nin0).keep K1240 (ninS ne1239 nin0)).keep K1241 (ninS ne1239 nin0))
  have ne1244 : b1236 ≠ b1242 := Nat.ne_of_lt (Nat.lt_of_lt_of_eq q1243.lt g1242.symm)
  have ne1245 : b1238 ≠ b1242 := Nat.ne_of_lt (Nat.lt_of_lt_of_eq A1241.lt g1242.symm)
  show W _ _ _ _ _ _ _ _ _ _ _ 3 11 218 #[.val (.int p0), .val (.int p1), .val (.int (2 : Int32)), .val (.int (0 : Int32)), .val (.int (1 : Int32)), .val (.int (0 : Int32)), .val (.int z1233), .val (.int (0 : Int32)), .val (.int (0 : Int32)), .val (.int z1233), .val (.int (0 : Int32)), .val (.int (0 : Int32)), .val (.int (z1233 + (0 : Int32))), .val (.int (z1233 + (0 : Int32))), .val (.int (0 : Int32)), .val (.int (((z1233 + (0 : Int32)) + (z1233 + (0 : Int32))) + (0 : Int32))), .val (.ref b1236), .val (.ref b1238), .unset, .unset, .unset, .unset, .unset, .unset, .unset] [(.ref b1242)]
  refine W.astore 220 at_218 rfl rfl #[.val (.int p0), .val (.int p1), .val (.int (2 : Int32)), .val (.int (0 : Int32)), .val (.int (1 : Int32)), .val (.int (0 : Int32)), .val (.int z1233), .val (.int (0 : Int32)), .val (.int (0 : Int32)), .val (.int z1233), .val (.int (0 : Int32)), .val (.int (0 : Int32)), .val (.int (z1233 + (0 : Int32))), .val (.int (z1233 + (0 : Int32))), .val (.int (0 : Int32)), .val (.int (((z1233 + (0 : Int32)) + (z1233 + (0 : Int32))) + (0 : Int32))), .val (.ref b1236), .val (.ref b1238), .val (.ref b1242), .unset, .unset, .unset, .unset, .unset, .unset] rfl ?_
  refine W.iconst 221 at_220 rfl (0 : Int32) rfl ?_
  refine W.istore 223 at_221 rfl #[.val (.int p0), .val (.int p1), .val (.int (2 : Int32)), .val (.int (0 : Int32)), .val (.int (1 : Int32)), .val (.int (0 : Int32)), .val (.int z1233), .val (.int (0 : Int32)), .val (.int (0 : Int32)), .val (.int z1233), .val (.int (0 : Int32)), .val (.int (0 : Int32)), .val (.int (z1233 + (0 : Int32))), .val (.int (z1233 + (0 : Int32))), .val (.int (0 : Int32)), .val (.int (((z1233 + (0 : Int32)) + (z1233 + (0 : Int32))) + (0 : Int32))), .val (.ref b1236), .val (.ref b1238), .val (.ref b1242), .val (.int (0 : Int32)), .unset, .unset, .unset, .unset, .unset] rfl ?_
  have q1246 := (q1243.keep K1242 nin0)
  have q1247 := (A1241.keep K1242 nin0)
  exact (t_223 l Z a0 hw p0 p1 (2 : Int32) (0 : Int32) z1233 (0 : Int32) (0 : Int32) z1233 (0 : Int32) (0 : Int32) (z1233 + (0 : Int32)) (z1233 + (0 : Int32)) (0 : Int32) (((z1233 + (0 : Int32)) + (z1233 + (0 : Int32))) + (0 : Int32)) (1 : Int32) (0 : Int32) (0 : Int32) b1236 b1238 b1242 _ _ _ _ n0 hz1233 own_b0 own_b0 hz1233 own_b0 own_b0 ett.symm (by decide) rfl (show some (Value.int ((z1233 + (0 : Int32)) + (z1233 + (0 : Int32)))) = some (Value.int (((z1233 + (0 : Int32)) + (z1233 + (0 : Int32))) + (0 : Int32))) from by rw [show (((z1233 + (0 : Int32)) + (z1233 + (0 : Int32))) + (0 : Int32)) = ((z1233 + (0 : Int32)) + (z1233 + (0 : Int32))) from by simp]) q1246 q1247 ge1236 A1242 (by rw [List.length_replicate]) ge1242 ne1244 ne1245 (Or.inl ⟨rfl, rfl, rfl, rfl⟩) rfl).mono (by decide) (by decide)
set_option maxRecDepth 65536 in
set_option maxHeartbeats 40000000 in
theorem law_21 (l : Launch) (Z : State) (a0 : Array Value) (hw : ∀ d ∈ tables_1, d.before a0 Z = true) (p0 p1 : Int32) (h : Heap) (n0 : Nat) (hn : n0 ≤ h.size) (hN : (p0 &&& (3 : Int32)) = (2 : Int32)) (hD : (p0 &&& (4 : Int32)) = (4 : Int32)) : ConW tables_1 l Z x code maxLocals ret room_1 #[(.int p0), (.int p1)] h n0 (fun r _ => r = some (.int 1)) := by
  refine ConW.of_W (Ls := #[.val (.int p0), .val (.int p1), .unset, .unset, .unset, .unset, .unset, .unset, .unset, .unset, .unset, .unset, .unset, .unset, .unset, .unset, .unset, .unset, .unset, .unset, .unset, .unset, .unset, .unset, .unset]) (plainFor_of_name pn_0) hn (fun m => by first | (simp [entryFrame, mkF, argsToLocals, Value.category, maxLocals]; done) | rfl) ?_
  refine W.iloadN 1 at_0 rfl rfl ?_
  refine W.iconst 2 at_1 rfl (3 : Int32) rfl ?_
  refine W.iand 3 at_2 rfl (2 : Int32) hN ?_
  refine W.istoreN 4 at_3 rfl #[.val (.int p0), .val (.int p1), .val (.int (2 : Int32)), .unset, .unset, .unset, .unset, .unset, .unset, .unset, .unset, .unset, .unset, .unset, .unset, .unset, .unset, .unset, .unset, .unset, .unset, .unset, .unset, .unset, .unset] rfl ?_
  refine W.iloadN 5 at_4 rfl rfl ?_
  refine W.iconst 6 at_5 rfl (4 : Int32) rfl ?_
  refine W.iand 7 at_6 rfl (4 : Int32) hD ?_
  refine W.if_eq 14 10 at_7 rfl rfl (fun hc => absurd hc (by decide)) (fun _ => ?_)
  refine W.iconst 11 at_10 rfl (1 : Int32) rfl ?_
  refine W.goto 15 at_11 rfl ?_
  refine W.istoreN 16 at_15 rfl #[.val (.int p0), .val (.int p1), .val (.int (2 : Int32)), .val (.int (1 : Int32)), .unset, .unset, .unset, .unset, .unset, .unset, .unset, .unset, .unset, .unset, .unset, .unset, .unset, .unset, .unset, .unset, .unset, .unset, .unset, .unset, .unset] rfl ?_
  refine W.iloadN 17 at_16 rfl rfl ?_
  refine W.iconst 18 at_17 rfl (2 : Int32) rfl ?_
  refine W.icmp_lt 25 21 at_18 rfl rfl (fun hc => absurd hc (by decide)) (fun _ => ?_)
  refine W.iconst 22 at_21 rfl (1 : Int32) rfl ?_
  refine W.goto 26 at_22 rfl ?_
  refine W.istore 28 at_26 rfl #[.val (.int p0), .val (.int p1), .val (.int (2 : Int32)), .val (.int (1 : Int32)), .val (.int (1 : Int32)), .unset, .unset, .unset, .unset, .unset, .unset, .unset, .unset, .unset, .unset, .unset, .unset, .unset, .unset, .unset, .unset, .unset, .unset, .unset, .unset] rfl ?_
  refine W.iloadN 29 at_28 rfl rfl ?_
  refine W.iconst 30 at_29 rfl (3 : Int32) rfl ?_
  refine W.icmp_lt 37 33 at_30 rfl rfl (fun _ => ?_) (fun hc => absurd (by decide) hc)
  refine W.iconst 38 at_37 rfl (0 : Int32) rfl ?_
  refine W.istore 40 at_38 rfl #[.val (.int p0), .val (.int p1), .val (.int (2 : Int32)), .val (.int (1 : Int32)), .val (.int (1 : Int32)), .val (.int (0 : Int32)), .unset, .unset, .unset, .unset, .unset, .unset, .unset, .unset, .unset, .unset, .unset, .unset, .unset, .unset, .unset, .unset, .unset, .unset, .unset] rfl ?_
  refine W.iloadN 41 at_40 rfl rfl ?_
  refine W.iconst 42 at_41 rfl (0 : Int32) rfl ?_
  refine W.iload 44 at_42 rfl rfl ?_
  refine W.callS (rest := []) (argsL := [(.int p1), (.int (0 : Int32)), (.int (1 : Int32))]) 47 at_44 rfl (fun hn => c_bit1 l Z a0 hw p1 (0 : Int32) _ n0 hn) (wd_0 hw) (wd_1 hw) (wd_2 hw) (wd_3 hw) (by decide) pd_2 rfl rfl rfl (by decide) 0 (Nat.le_of_ble_eq_true rfl) (by decide) (by decide) (by decide) ?_
  rintro v1248 h1248 ⟨⟨z1248, rfl, hz1248⟩, rfl⟩
  show W _ _ _ _ _ _ _ _ _ _ _ 0 0 47 #[.val (.int p0), .val (.int p1), .val (.int (2 : Int32)), .val (.int (1 : Int32)), .val (.int (1 : Int32)), .val (.int (0 : Int32)), .unset, .unset, .unset, .unset, .unset, .unset, .unset, .unset, .unset, .unset, .unset, .unset, .unset, .unset, .unset, .unset, .unset, .unset, .unset] [(.int z1248)]
  refine W.istore 49 at_47 rfl #[.val (.int p0), .val (.int p1), .val (.int (2 : Int32)), .val (.int (1 : Int32)), .val (.int (1 : Int32)), .val (.int (0 : Int32)), .val (.int z1248), .unset, .unset, .unset, .unset, .unset, .unset, .unset, .unset, .unset, .unset, .unset, .unset, .unset, .unset, .unset, .unset, .unset, .unset] rfl ?_
  refine W.iloadN 50 at_49 rfl rfl ?_
  refine W.iconst 51 at_50 rfl (1 : Int32) rfl ?_
  refine W.iload 53 at_51 rfl rfl ?_
  refine W.callS (rest := []) (argsL := [(.int p1), (.int (1 : Int32)), (.int (0 : Int32))]) 56 at_53 rfl (fun hn => c_bit0 l Z a0 hw p1 (1 : Int32) _ n0 hn) (wd_0 hw) (wd_1 hw) (wd_2 hw) (wd_3 hw) (by decide) pd_2 rfl rfl rfl (by decide) 0 (Nat.le_of_ble_eq_true rfl) (by decide) (by decide) (by decide) ?_
  rintro v1249 h1249 ⟨rfl, rfl⟩
  show W _ _ _ _ _ _ _ _ _ _ _ 0 0 56 #[.val (.int p0), .val (.int p1), .val (.int (2 : Int32)), .val (.int (1 : Int32)), .val (.int (1 : Int32)), .val (.int (0 : Int32)), .val (.int z1248), .unset, .unset, .unset, .unset, .unset, .unset, .unset, .unset, .unset, .unset, .unset, .unset, .unset, .unset, .unset, .unset, .unset, .unset] [(.int (0 : Int32))]
  refine W.istore 58 at_56 rfl #[.val (.int p0), .val (.int p1), .val (.int (2 : Int32)), .val (.int (1 : Int32)), .val (.int (1 : Int32)), .val (.int (0 : Int32)), .val (.int z1248), .val (.int (0 : Int32)), .unset, .unset, .unset, .unset, .unset, .unset, .unset, .unset, .unset, .unset, .unset, .unset, .unset, .unset, .unset, .unset, .unset] rfl ?_
  refine W.iloadN 59 at_58 rfl rfl ?_
  refine W.iconst 60 at_59 rfl (3 : Int32) rfl ?_
  refine W.iload 62 at_60 rfl rfl ?_
  refine W.callS (rest := []) (argsL := [(.int p1), (.int (3 : Int32)), (.int (0 : Int32))]) 65 at_62 rfl (fun hn => c_bit0 l Z a0 hw p1 (3 : Int32) _ n0 hn) (wd_0 hw) (wd_1 hw) (wd_2 hw) (wd_3 hw) (by decide) pd_2 rfl rfl rfl (by decide) 0 (Nat.le_of_ble_eq_true rfl) (by decide) (by decide) (by decide) ?_
  rintro v1250 h1250 ⟨rfl, rfl⟩
  show W _ _ _ _ _ _ _ _ _ _ _ 0 0 65 #[.val (.int p0), .val (.int p1), .val (.int (2 : Int32)), .val (.int (1 : Int32)), .val (.int (1 : Int32)), .val (.int (0 : Int32)), .val (.int z1248), .val (.int (0 : Int32)), .unset, .unset, .unset, .unset, .unset, .unset, .unset, .unset, .unset, .unset, .unset, .unset, .unset, .unset, .unset, .unset, .unset] [(.int (0 : Int32))]
  refine W.istore 67 at_65 rfl #[.val (.int p0), .val (.int p1), .val (.int (2 : Int32)), .val (.int (1 : Int32)), .val (.int (1 : Int32)), .val (.int (0 : Int32)), .val (.int z1248), .val (.int (0 : Int32)), .val (.int (0 : Int32)), .unset, .unset, .unset, .unset, .unset, .unset, .unset, .unset, .unset, .unset, .unset, .unset, .unset, .unset, .unset, .unset] rfl ?_
  refine W.iloadN 68 at_67 rfl rfl ?_
  refine W.if_eq 101 71 at_68 rfl rfl (fun hc => absurd hc (by decide)) (fun _ => ?_)
  refine W.iloadN 72 at_71 rfl rfl ?_
  refine W.iconst 73 at_72 rfl (2 : Int32) rfl ?_
  refine W.iload 75 at_73 rfl rfl ?_
  refine W.callS (rest := []) (argsL := [(.int p1), (.int (2 : Int32)), (.int (1 : Int32))]) 78 at_75 rfl (fun hn => c_bit1 l Z a0 hw p1 (2 : Int32) _ n0 hn) (wd_0 hw) (wd_1 hw) (wd_2 hw) (wd_3 hw) (by decide) pd_2 rfl rfl rfl (by decide) 0 (Nat.le_of_ble_eq_true rfl) (by decide) (by decide) (by decide) ?_
  rintro v1251 h1251 ⟨⟨z1251, rfl, hz1251⟩, rfl⟩
  show W _ _ _ _ _ _ _ _ _ _ _ 0 0 78 #[.val (.int p0), .val (.int p1), .val (.int (2 : Int32)), .val (.int (1 : Int32)), .val (.int (1 : Int32)), .val (.int (0 : Int32)), .val (.int z1248), .val (.int (0 : Int32)), .val (.int (0 : Int32)), .unset, .unset, .unset, .unset, .unset, .unset, .unset, .unset, .unset, .unset, .unset, .unset, .unset, .unset, .unset, .unset] [(.int z1251)]
  refine W.istore 80 at_78 rfl #[.val (.int p0), .val (.int p1), .val (.int (2 : Int32)), .val (.int (1 : Int32)), .val (.int (1 : Int32)), .val (.int (0 : Int32)), .val (.int z1248), .val (.int (0 : Int32)), .val (.int (0 : Int32)), .val (.int z1251), .unset, .unset, .unset, .unset, .unset, .unset, .unset, .unset, .unset, .unset, .unset, .unset, .unset, .unset, .unset] rfl ?_
  refine W.iloadN 81 at_80 rfl rfl ?_
  refine W.iconst 82 at_81 rfl (4 : Int32) rfl ?_
  refine W.iload 84 at_82 rfl rfl ?_
  refine W.callS (rest := []) (argsL := [(.int p1), (.int (4 : Int32)), (.int (0 : Int32))]) 87 at_84 rfl (fun hn => c_bit0 l Z a0 hw p1 (4 : Int32) _ n0 hn) (wd_0 hw) (wd_1 hw) (wd_2 hw) (wd_3 hw) (by decide) pd_2 rfl rfl rfl (by decide) 0 (Nat.le_of_ble_eq_true rfl) (by decide) (by decide) (by decide) ?_
  rintro v1252 h1252 ⟨rfl, rfl⟩
  show W _ _ _ _ _ _ _ _ _ _ _ 0 0 87 #[.val (.int p0), .val (.int p1), .val (.int (2 : Int32)), .val (.int (1 : Int32)), .val (.int (1 : Int32)), .val (.int (0 : Int32)), .val (.int z1248), .val (.int (0 : Int32)), .val (.int (0 : Int32)), .val (.int z1251), .unset, .unset, .unset, .unset, .unset, .unset, .unset, .unset, .unset, .unset, .unset, .unset, .unset, .unset, .unset] [(.int (0 : Int32))]
  refine W.istore 89 at_87 rfl #[.val (.int p0), .val (.int p1), .val (.int (2 : Int32)), .val (.int (1 : Int32)), .val (.int (1 : Int32)), .val (.int (0 : Int32)), .val (.int z1248), .val (.int (0 : Int32)), .val (.int (0 : Int32)), .val (.int z1251), .val (.int (0 : Int32)), .unset, .unset, .unset, .unset, .unset, .unset, .unset, .unset, .unset, .unset, .unset, .unset, .unset, .unset] rfl ?_
  refine W.iloadN 90 at_89 rfl rfl ?_
  refine W.iconst 91 at_90 rfl (5 : Int32) rfl ?_
  refine W.iload 93 at_91 rfl rfl ?_
  refine W.callS (rest := []) (argsL := [(.int p1), (.int (5 : Int32)), (.int (0 : Int32))]) 96 at_93 rfl (fun hn => c_bit0 l Z a0 hw p1 (5 : Int32) _ n0 hn) (wd_0 hw) (wd_1 hw) (wd_2 hw) (wd_3 hw) (by decide) pd_2 rfl rfl rfl (by decide) 0 (Nat.le_of_ble_eq_true rfl) (by decide) (by decide) (by decide) ?_
  rintro v1253 h1253 ⟨rfl, rfl⟩
  show W _ _ _ _ _ _ _ _ _ _ _ 0 0 96 #[.val (.int p0), .val (.int p1), .val (.int (2 : Int32)), .val (.int (1 : Int32)), .val (.int (1 : Int32)), .val (.int (0 : Int32)), .val (.int z1248), .val (.int (0 : Int32)), .val (.int (0 : Int32)), .val (.int z1251), .val (.int (0 : Int32)), .unset, .unset, .unset, .unset, .unset, .unset, .unset, .unset, .unset, .unset, .unset, .unset, .unset, .unset] [(.int (0 : Int32))]
  refine W.istore 98 at_96 rfl #[.val (.int p0), .val (.int p1), .val (.int (2 : Int32)), .val (.int (1 : Int32)), .val (.int (1 : Int32)), .val (.int (0 : Int32)), .val (.int z1248), .val (.int (0 : Int32)), .val (.int (0 : Int32)), .val (.int z1251), .val (.int (0 : Int32)), .val (.int (0 : Int32)), .unset, .unset, .unset, .unset, .unset, .unset, .unset, .unset, .unset, .unset, .unset, .unset, .unset] rfl ?_
  refine W.goto 113 at_98 rfl ?_
  refine W.iload 115 at_113 rfl rfl ?_
  refine W.iload 117 at_115 rfl rfl ?_
  refine W.iadd 118 at_117 rfl (z1248 + (0 : Int32)) rfl ?_
  refine W.istore 120 at_118 rfl #[.val (.int p0), .val (.int p1), .val (.int (2 : Int32)), .val (.int (1 : Int32)), .val (.int (1 : Int32)), .val (.int (0 : Int32)), .val (.int z1248), .val (.int (0 : Int32)), .val (.int (0 : Int32)), .val (.int z1251), .val (.int (0 : Int32)), .val (.int (0 : Int32)), .val (.int (z1248 + (0 : Int32))), .unset, .unset, .unset, .unset, .unset, .unset, .unset, .unset, .unset, .unset, .unset, .unset] rfl ?_
  refine W.iload 122 at_120 rfl rfl ?_
  refine W.iload 124 at_122 rfl rfl ?_
  refine W.iadd 125 at_124 rfl (z1251 + (0 : Int32)) rfl ?_
  refine W.istore 127 at_125 rfl #[.val (.int p0), .val (.int p1), .val (.int (2 : Int32)), .val (.int (1 : Int32)), .val (.int (1 : Int32)), .val (.int (0 : Int32)), .val (.int z1248), .val (.int (0 : Int32)), .val (.int (0 : Int32)), .val (.int z1251), .val (.int (0 : Int32)), .val (.int (0 : Int32)), .val (.int (z1248 + (0 : Int32))), .val (.int (z1251 + (0 : Int32))), .unset, .unset, .unset, .unset, .unset, .unset, .unset, .unset, .unset, .unset, .unset] rfl ?_
  refine W.iload 129 at_127 rfl rfl ?_
  refine W.iload 131 at_129 rfl rfl ?_
  refine W.iadd 132 at_131 rfl (0 : Int32) (by decide) ?_
  refine W.istore 134 at_132 rfl #[.val (.int p0), .val (.int p1), .val (.int (2 : Int32)), .val (.int (1 : Int32)), .val (.int (1 : Int32)), .val (.int (0 : Int32)), .val (.int z1248), .val (.int (0 : Int32)), .val (.int (0 : Int32)), .val (.int z1251), .val (.int (0 : Int32)), .val (.int (0 : Int32)), .val (.int (z1248 + (0 : Int32))), .val (.int (z1251 + (0 : Int32))), .val (.int (0 : Int32)), .unset, .unset, .unset, .unset, .unset, .unset, .unset, .unset, .unset, .unset] rfl ?_
  refine W.iload 136 at_134 rfl rfl ?_
  refine W.iload 138 at_136 rfl rfl ?_
  refine W.iadd 139 at_138 rfl ((z1248 + (0 : Int32)) + (z1251 + (0 : Int32))) rfl ?_
  refine W.iload 141 at_139 rfl rfl ?_
  refine W.iadd 142 at_141 rfl (((z1248 + (0 : Int32)) + (z1251 + (0 : Int32))) + (0 : Int32)) rfl ?_
  refine W.istore 144 at_142 rfl #[.val (.int p0), .val (.int p1), .val (.int (2 : Int32)), .val (.int (1 : Int32)), .val (.int (1 : Int32)), .val (.int (0 : Int32)), .val (.int z1248), .val (.int (0 : Int32)), .val (.int (0 : Int32)), .val (.int z1251), .val (.int (0 : Int32)), .val (.int (0 : Int32)), .val (.int (z1248 + (0 : Int32))), .val (.int (z1251 + (0 : Int32))), .val (.int (0 : Int32)), .val (.int (((z1248 + (0 : Int32)) + (z1251 + (0 : Int32))) + (0 : Int32))), .unset, .unset, .unset, .unset, .unset, .unset, .unset, .unset, .unset] rfl ?_
  refine W.iloadN 145 at_144 rfl rfl ?_
  refine W.newarray 147 at_145 rfl (wd_4 hw) rfl (by decide) 2 2 (by decide) (by decide) (by decide) (by decide) (by decide) rfl ?_
  intro h1254 b1254 g1254 ge1254 X1254 K1254 A1254
  have A1254 : Ary _ _ b1254 .long [(.long (0 : Int64)), (.long (0 : Int64))] := A1254
  show W _ _ _ _ _ _ _ _ _ _ _ 1 2 147 #[.val (.int p0), .val (.int p1), .val (.int (2 : Int32)), .val (.int (1 : Int32)), .val (.int (1 : Int32)), .val (.int (0 : Int32)), .val (.int z1248), .val (.int (0 : Int32)), .val (.int (0 : Int32)), .val (.int z1251), .val (.int (0 : Int32)), .val (.int (0 : Int32)), .val (.int (z1248 + (0 : Int32))), .val (.int (z1251 + (0 : Int32))), .val (.int (0 : Int32)), .val (.int (((z1248 + (0 : Int32)) + (z1251 + (0 : Int32))) + (0 : Int32))), .unset, .unset, .unset, .unset, .unset, .unset, .unset, .unset, .unset] [(.ref b1254)]
  refine W.astore 149 at_147 rfl rfl #[.val (.int p0), .val (.int p1), .val (.int (2 : Int32)), .val (.int (1 : Int32)), .val (.int (1 : Int32)), .val (.int (0 : Int32)), .val (.int z1248), .val (.int (0 : Int32)), .val (.int (0 : Int32)), .val (.int z1251), .val (.int (0 : Int32)), .val (.int (0 : Int32)), .val (.int (z1248 + (0 : Int32))), .val (.int (z1251 + (0 : Int32))), .val (.int (0 : Int32)), .val (.int (((z1248 + (0 : Int32)) + (z1251 + (0 : Int32))) + (0 : Int32))), .val (.ref b1254), .unset, .unset, .unset, .unset, .unset, .unset, .unset, .unset] rfl ?_
  refine W.iloadN 150 at_149 rfl rfl ?_
  refine W.iconst 151 at_150 rfl (2 : Int32) rfl ?_
  refine W.icmp_lt 159 154 at_151 rfl rfl (fun hc => absurd hc (by decide)) (fun _ => ?_)
  refine W.aload 156 at_154 rfl rfl rfl ?_
  refine W.iconst 157 at_156 rfl (1 : Int32) rfl ?_
  refine W.lconst 158 at_157 rfl (1 : Int64) rfl ?_
  refine W.lastore 159 at_158 rfl A1254 1 (by decide) (by decide) (Nat.le_of_ble_eq_true rfl) ge1254 ?_
  intro h1255 W1255 K1255 A1255
  have A1255 : Ary _ _ b1254 .long [(.long (0 : Int64)), (.long (1 : Int64))] := A1255
  refine W.iloadN 160 at_159 rfl rfl ?_
  refine W.iconst 161 at_160 rfl (3 : Int32) rfl ?_
  refine W.icmp_lt 171 164 at_161 rfl rfl (fun _ => ?_) (fun hc => absurd (by decide) hc)
  refine W.iloadN 172 at_171 rfl rfl ?_
  refine W.iconst 173 at_172 rfl (1 : Int32) rfl ?_
  refine W.iadd 174 at_173 rfl (3 : Int32) (by decide) ?_
  refine W.newarray 176 at_174 rfl (wd_5 hw) rfl (by decide) 3 3 (by decide) (by decide) (by decide) (by decide) (by decide) rfl ?_
  intro h1256 b1256 g1256 ge1256 X1256 K1256 A1256
  have ne1257 : b1254 ≠ b1256 := Nat.ne_of_lt (Nat.lt_of_lt_of_eq A1255.lt g1256.symm)
  have A1256 : Ary _ _ b1256 .int [(.int (0 : Int32)), (.int (0 : Int32)), (.int (0 : Int32))] := A1256
  show W _ _ _ _ _ _ _ _ _ _ _ 2 5 176 #[.val (.int p0), .val (.int p1), .val (.int (2 : Int32)), .val (.int (1 : Int32)), .val (.int (1 : Int32)), .val (.int (0 : Int32)), .val (.int z1248), .val (.int (0 : Int32)), .val (.int (0 : Int32)), .val (.int z1251), .val (.int (0 : Int32)), .val (.int (0 : Int32)), .val (.int (z1248 + (0 : Int32))), .val (.int (z1251 + (0 : Int32))), .val (.int (0 : Int32)), .val (.int (((z1248 + (0 : Int32)) + (z1251 + (0 : Int32))) + (0 : Int32))), .val (.ref b1254), .unset, .unset, .unset, .unset, .unset, .unset, .unset, .unset] [(.ref b1256)]
  refine W.astore 178 at_176 rfl rfl #[.val (.int p0), .val (.int p1), .val (.int (2 : Int32)), .val (.int (1 : Int32)), .val (.int (1 : Int32)), .val (.int (0 : Int32)), .val (.int z1248), .val (.int (0 : Int32)), .val (.int (0 : Int32)), .val (.int z1251), .val (.int (0 : Int32)), .val (.int (0 : Int32)), .val (.int (z1248 + (0 : Int32))), .val (.int (z1251 + (0 : Int32))), .val (.int (0 : Int32)), .val (.int (((z1248 + (0 : Int32)) + (z1251 + (0 : Int32))) + (0 : Int32))), .val (.ref b1254), .val (.ref b1256), .unset, .unset, .unset, .unset, .unset, .unset, .unset] rfl ?_
  refine W.iloadN 179 at_178 rfl rfl ?_
  refine W.iconst 180 at_179 rfl (1 : Int32) rfl ?_
  refine W.icmp_lt 189 183 at_180 rfl rfl (fun hc => absurd hc (by decide)) (fun _ => ?_)
  refine W.aload 185 at_183 rfl rfl rfl ?_
  refine W.iconst 186 at_185 rfl (1 : Int32) rfl ?_
  refine W.iload 188 at_186 rfl rfl ?_
  refine W.iastore 189 at_188 rfl A1256 1 (by decide) (by decide) (Nat.le_of_ble_eq_true rfl) ge1256 ?_
  intro h1258 W1258 K1258 A1258
  have A1258 : Ary _ _ b1256 .int [(.int (0 : Int32)), (.int (z1248 + (0 : Int32))), (.int (0 : Int32))] := A1258
  refine W.iloadN 190 at_189 rfl rfl ?_
  refine W.iconst 191 at_190 rfl (2 : Int32) rfl ?_
  refine W.icmp_lt 203 194 at_191 rfl rfl (fun hc => absurd hc (by decide)) (fun _ => ?_)
  refine W.aload 196 at_194 rfl rfl rfl ?_
  refine W.iconst 197 at_196 rfl (2 : Int32) rfl ?_
  refine W.iload 199 at_197 rfl rfl ?_
  refine W.iload 201 at_199 rfl rfl ?_
  refine W.iadd 202 at_201 rfl ((z1248 + (0 : Int32)) + (z1251 + (0 : Int32))) rfl ?_
  refine W.iastore 203 at_202 rfl A1258 2 (by decide) (by decide) (Nat.le_of_ble_eq_true rfl) ge1256 ?_
  intro h1259 W1259 K1259 A1259
  have A1259 : Ary _ _ b1256 .int [(.int (0 : Int32)), (.int (z1248 + (0 : Int32))), (.int ((z1248 + (0 : Int32)) + (z1251 + (0 : Int32))))] := A1259
  refine W.iloadN 204 at_203 rfl rfl ?_
  refine W.iconst 205 at_204 rfl (3 : Int32) rfl ?_
  refine W.icmp_lt 214 208 at_205 rfl rfl (fun _ => ?_) (fun hc => absurd (by decide) hc)
  refine W.iload 216 at_214 rfl rfl ?_
  have htt := own_tot z1248 (0 : Int32) (0 : Int32) z1251 (0 : Int32) (0 : Int32) hz1248 own_b0 own_b0 hz1251 own_b0 own_b0
  have ett : ((z1248 + (0 : Int32)) + (z1251 + (0 : Int32)) + ((0 : Int32) + (0 : Int32))) = (((z1248 + (0 : Int32)) + (z1251 + (0 : Int32))) + (0 : Int32)) := by simp
  rw [ett] at htt
  refine W.newarray 218 at_216 rfl (wd_5 hw) rfl htt.1 ((((z1248 + (0 : Int32)) + (z1251 + (0 : Int32))) + (0 : Int32))).toNatClampNeg 6 rfl htt.2 (by decide) (by decide) (by decide) rfl ?_
  intro h1260 b1260 g1260 ge1260 X1260 K1260 A1260
  have q1261 := (((A1255.keep K1256 nin0).keep K1258 (ninS ne1257 nin0)).keep K1259 (ninS ne1257 nin0))
  have ne1262 : b1254 ≠ b1260 := Nat.ne_of_lt (Nat.lt_of_lt_of_eq q1261.lt g1260.symm)
  have ne1263 : b1256 ≠ b1260 := Nat.ne_of_lt (Nat.lt_of_lt_of_eq A1259.lt g1260.symm)
  show W _ _ _ _ _ _ _ _ _ _ _ 3 11 218 #[.val (.int p0), .val (.int p1), .val (.int (2 : Int32)), .val (.int (1 : Int32)), .val (.int (1 : Int32)), .val (.int (0 : Int32)), .val (.int z1248), .val (.int (0 : Int32)), .val (.int (0 : Int32)), .val (.int z1251), .val (.int (0 : Int32)), .val (.int (0 : Int32)), .val (.int (z1248 + (0 : Int32))), .val (.int (z1251 + (0 : Int32))), .val (.int (0 : Int32)), .val (.int (((z1248 + (0 : Int32)) + (z1251 + (0 : Int32))) + (0 : Int32))), .val (.ref b1254), .val (.ref b1256), .unset, .unset, .unset, .unset, .unset, .unset, .unset] [(.ref b1260)]
  refine W.astore 220 at_218 rfl rfl #[.val (.int p0), .val (.int p1), .val (.int (2 : Int32)), .val (.int (1 : Int32)), .val (.int (1 : Int32)), .val (.int (0 : Int32)), .val (.int z1248), .val (.int (0 : Int32)), .val (.int (0 : Int32)), .val (.int z1251), .val (.int (0 : Int32)), .val (.int (0 : Int32)), .val (.int (z1248 + (0 : Int32))), .val (.int (z1251 + (0 : Int32))), .val (.int (0 : Int32)), .val (.int (((z1248 + (0 : Int32)) + (z1251 + (0 : Int32))) + (0 : Int32))), .val (.ref b1254), .val (.ref b1256), .val (.ref b1260), .unset, .unset, .unset, .unset, .unset, .unset] rfl ?_
  refine W.iconst 221 at_220 rfl (0 : Int32) rfl ?_
  refine W.istore 223 at_221 rfl #[.val (.int p0), .val (.int p1), .val (.int (2 : Int32)), .val (.int (1 : Int32)), .val (.int (1 : Int32)), .val (.int (0 : Int32)), .val (.int z1248), .val (.int (0 : Int32)), .val (.int (0 : Int32)), .val (.int z1251), .val (.int (0 : Int32)), .val (.int (0 : Int32)), .val (.int (z1248 + (0 : Int32))), .val (.int (z1251 + (0 : Int32))), .val (.int (0 : Int32)), .val (.int (((z1248 + (0 : Int32)) + (z1251 + (0 : Int32))) + (0 : Int32))), .val (.ref b1254), .val (.ref b1256), .val (.ref b1260), .val (.int (0 : Int32)), .unset, .unset, .unset, .unset, .unset] rfl ?_
  have q1264 := (q1261.keep K1260 nin0)
  have q1265 := (A1259.keep K1260 nin0)
  exact (t_223 l Z a0 hw p0 p1 (2 : Int32) (1 : Int32) z1248 (0 : Int32) (0 : Int32) z1251 (0 : Int32) (0 : Int32) (z1248 + (0 : Int32)) (z1251 + (0 : Int32)) (0 : Int32) (((z1248 + (0 : Int32)) + (z1251 + (0 : Int32))) + (0 : Int32)) (1 : Int32) (0 : Int32) (0 : Int32) b1254 b1256 b1260 _ _ _ _ n0 hz1248 own_b0 own_b0 hz1251 own_b0 own_b0 ett.symm (by decide) rfl (show some (Value.int ((z1248 + (0 : Int32)) + (z1251 + (0 : Int32)))) = some (Value.int (((z1248 + (0 : Int32)) + (z1251 + (0 : Int32))) + (0 : Int32))) from by rw [show (((z1248 + (0 : Int32)) + (z1251 + (0 : Int32))) + (0 : Int32)) = ((z1248 + (0 : Int32)) + (z1251 + (0 : Int32))) from by simp]) q1264 q1265 ge1254 A1260 (by rw [List.length_replicate]) ge1260 ne1262 ne1263 (Or.inr rfl) rfl).mono (by decide) (by decide)
set_option maxRecDepth 65536 in
set_option maxHeartbeats 40000000 in
theorem law_30 (l : Launch) (Z : State) (a0 : Array Value) (hw : ∀ d ∈ tables_1, d.before a0 Z = true) (p0 p1 : Int32) (h : Heap) (n0 : Nat) (hn : n0 ≤ h.size) (hN : (p0 &&& (3 : Int32)) = (3 : Int32)) (hD : (p0 &&& (4 : Int32)) = (0 : Int32)) : ConW tables_1 l Z x code maxLocals ret room_1 #[(.int p0), (.int p1)] h n0 (fun r _ => r = some (.int 1)) := by
  refine ConW.of_W (Ls := #[.val (.int p0), .val (.int p1), .unset, .unset, .unset, .unset, .unset, .unset, .unset, .unset, .unset, .unset, .unset, .unset, .unset, .unset, .unset, .unset, .unset, .unset, .unset, .unset, .unset, .unset, .unset]) (plainFor_of_name pn_0) hn (fun m => by first | (simp [entryFrame, mkF, argsToLocals, Value.category, maxLocals]; done) | rfl) ?_
  refine W.iloadN 1 at_0 rfl rfl ?_
  refine W.iconst 2 at_1 rfl (3 : Int32) rfl ?_
  refine W.iand 3 at_2 rfl (3 : Int32) hN ?_
  refine W.istoreN 4 at_3 rfl #[.val (.int p0), .val (.int p1), .val (.int (3 : Int32)), .unset, .unset, .unset, .unset, .unset, .unset, .unset, .unset, .unset, .unset, .unset, .unset, .unset, .unset, .unset, .unset, .unset, .unset, .unset, .unset, .unset, .unset] rfl ?_
  refine W.iloadN 5 at_4 rfl rfl ?_
  refine W.iconst 6 at_5 rfl (4 : Int32) rfl ?_
  refine W.iand 7 at_6 rfl (0 : Int32) hD ?_
  refine W.if_eq 14 10 at_7 rfl rfl (fun _ => ?_) (fun hc => absurd (by decide) hc)
  refine W.iconst 15 at_14 rfl (0 : Int32) rfl ?_
  refine W.istoreN 16 at_15 rfl #[.val (.int p0), .val (.int p1), .val (.int (3 : Int32)), .val (.int (0 : Int32)), .unset, .unset, .unset, .unset, .unset, .unset, .unset, .unset, .unset, .unset, .unset, .unset, .unset, .unset, .unset, .unset, .unset, .unset, .unset, .unset, .unset] rfl ?_
  refine W.iloadN 17 at_16 rfl rfl ?_
  refine W.iconst 18 at_17 rfl (2 : Int32) rfl ?_
  refine W.icmp_lt 25 21 at_18 rfl rfl (fun hc => absurd hc (by decide)) (fun _ => ?_)
  refine W.iconst 22 at_21 rfl (1 : Int32) rfl ?_
  refine W.goto 26 at_22 rfl ?_
  refine W.istore 28 at_26 rfl #[.val (.int p0), .val (.int p1), .val (.int (3 : Int32)), .val (.int (0 : Int32)), .val (.int (1 : Int32)), .unset, .unset, .unset, .unset, .unset, .unset, .unset, .unset, .unset, .unset, .unset, .unset, .unset, .unset, .unset, .unset, .unset, .unset, .unset, .unset] rfl ?_
  refine W.iloadN 29 at_28 rfl rfl ?_
  refine W.iconst 30 at_29 rfl (3 : Int32) rfl ?_
  refine W.icmp_lt 37 33 at_30 rfl rfl (fun hc => absurd hc (by decide)) (fun _ => ?_)
  refine W.iconst 34 at_33 rfl (1 : Int32) rfl ?_
  refine W.goto 38 at_34 rfl ?_
  refine W.istore 40 at_38 rfl #[.val (.int p0), .val (.int p1), .val (.int (3 : Int32)), .val (.int (0 : Int32)), .val (.int (1 : Int32)), .val (.int (1 : Int32)), .unset, .unset, .unset, .unset, .unset, .unset, .unset, .unset, .unset, .unset, .unset, .unset, .unset, .unset, .unset, .unset, .unset, .unset, .unset] rfl ?_
  refine W.iloadN 41 at_40 rfl rfl ?_
  refine W.iconst 42 at_41 rfl (0 : Int32) rfl ?_
  refine W.iload 44 at_42 rfl rfl ?_
  refine W.callS (rest := []) (argsL := [(.int p1), (.int (0 : Int32)), (.int (1 : Int32))]) 47 at_44 rfl (fun hn => c_bit1 l Z a0 hw p1 (0 : Int32) _ n0 hn) (wd_0 hw) (wd_1 hw) (wd_2 hw) (wd_3 hw) (by decide) pd_2 rfl rfl rfl (by decide) 0 (Nat.le_of_ble_eq_true rfl) (by decide) (by decide) (by decide) ?_
  rintro v1266 h1266 ⟨⟨z1266, rfl, hz1266⟩, rfl⟩
  show W _ _ _ _ _ _ _ _ _ _ _ 0 0 47 #[.val (.int p0), .val (.int p1), .val (.int (3 : Int32)), .val (.int (0 : Int32)), .val (.int (1 : Int32)), .val (.int (1 : Int32)), .unset, .unset, .unset, .unset, .unset, .unset, .unset, .unset, .unset, .unset, .unset, .unset, .unset, .unset, .unset, .unset, .unset, .unset, .unset] [(.int z1266)]
  refine W.istore 49 at_47 rfl #[.val (.int p0), .val (.int p1), .val (.int (3 : Int32)), .val (.int (0 : Int32)), .val (.int (1 : Int32)), .val (.int (1 : Int32)), .val (.int z1266), .unset, .unset, .unset, .unset, .unset, .unset, .unset, .unset, .unset, .unset, .unset, .unset, .unset, .unset, .unset, .unset, .unset, .unset] rfl ?_
  refine W.iloadN 50 at_49 rfl rfl ?_
  refine W.iconst 51 at_50 rfl (1 : Int32) rfl ?_
  refine W.iload 53 at_51 rfl rfl ?_
  refine W.callS (rest := []) (argsL := [(.int p1), (.int (1 : Int32)), (.int (1 : Int32))]) 56 at_53 rfl (fun hn => c_bit1 l Z a0 hw p1 (1 : Int32) _ n0 hn) (wd_0 hw) (wd_1 hw) (wd_2 hw) (wd_3 hw) (by decide) pd_2 rfl rfl rfl (by decide) 0 (Nat.le_of_ble_eq_true rfl) (by decide) (by decide) (by decide) ?_
  rintro v1267 h1267 ⟨⟨z1267, rfl, hz1267⟩, rfl⟩
  show W _ _ _ _ _ _ _ _ _ _ _ 0 0 56 #[.val (.int p0), .val (.int p1), .val (.int (3 : Int32)), .val (.int (0 : Int32)), .val (.int (1 : Int32)), .val (.int (1 : Int32)), .val (.int z1266), .unset, .unset, .unset, .unset, .unset, .unset, .unset, .unset, .unset, .unset, .unset, .unset, .unset, .unset, .unset, .unset, .unset, .unset] [(.int z1267)]
  refine W.istore 58 at_56 rfl #[.val (.int p0), .val (.int p1), .val (.int (3 : Int32)), .val (.int (0 : Int32)), .val (.int (1 : Int32)), .val (.int (1 : Int32)), .val (.int z1266), .val (.int z1267), .unset, .unset, .unset, .unset, .unset, .unset, .unset, .unset, .unset, .unset, .unset, .unset, .unset, .unset, .unset, .unset, .unset] rfl ?_
  refine W.iloadN 59 at_58 rfl rfl ?_
  refine W.iconst 60 at_59 rfl (3 : Int32) rfl ?_
  refine W.iload 62 at_60 rfl rfl ?_
  refine W.callS (rest := []) (argsL := [(.int p1), (.int (3 : Int32)), (.int (1 : Int32))]) 65 at_62 rfl (fun hn => c_bit1 l Z a0 hw p1 (3 : Int32) _ n0 hn) (wd_0 hw) (wd_1 hw) (wd_2 hw) (wd_3 hw) (by decide) pd_2 rfl rfl rfl (by decide) 0 (Nat.le_of_ble_eq_true rfl) (by decide) (by decide) (by decide) ?_
  rintro v1268 h1268 ⟨⟨z1268, rfl, hz1268⟩, rfl⟩
  show W _ _ _ _ _ _ _ _ _ _ _ 0 0 65 #[.val (.int p0), .val (.int p1), .val (.int (3 : Int32)), .val (.int (0 : Int32)), .val (.int (1 : Int32)), .val (.int (1 : Int32)), .val (.int z1266), .val (.int z1267), .unset, .unset, .unset, .unset, .unset, .unset, .unset, .unset, .unset, .unset, .unset, .unset, .unset, .unset, .unset, .unset, .unset] [(.int z1268)]
  refine W.istore 67 at_65 rfl #[.val (.int p0), .val (.int p1), .val (.int (3 : Int32)), .val (.int (0 : Int32)), .val (.int (1 : Int32)), .val (.int (1 : Int32)), .val (.int z1266), .val (.int z1267), .val (.int z1268), .unset, .unset, .unset, .unset, .unset, .unset, .unset, .unset, .unset, .unset, .unset, .unset, .unset, .unset, .unset, .unset] rfl ?_
  refine W.iloadN 68 at_67 rfl rfl ?_
  refine W.if_eq 101 71 at_68 rfl rfl (fun _ => ?_) (fun hc => absurd (by decide) hc)
  refine W.iload 103 at_101 rfl rfl ?_
  refine W.istore 105 at_103 rfl #[.val (.int p0), .val (.int p1), .val (.int (3 : Int32)), .val (.int (0 : Int32)), .val (.int (1 : Int32)), .val (.int (1 : Int32)), .val (.int z1266), .val (.int z1267), .val (.int z1268), .val (.int z1266), .unset, .unset, .unset, .unset, .unset, .unset, .unset, .unset, .unset, .unset, .unset, .unset, .unset, .unset, .unset] rfl ?_
  refine W.iload 107 at_105 rfl rfl ?_
  refine W.istore 109 at_107 rfl #[.val (.int p0), .val (.int p1), .val (.int (3 : Int32)), .val (.int (0 : Int32)), .val (.int (1 : Int32)), .val (.int (1 : Int32)), .val (.int z1266), .val (.int z1267), .val (.int z1268), .val (.int z1266), .val (.int z1267), .unset, .unset, .unset, .unset, .unset, .unset, .unset, .unset, .unset, .unset, .unset, .unset, .unset, .unset] rfl ?_
  refine W.iload 111 at_109 rfl rfl ?_
  refine W.istore 113 at_111 rfl #[.val (.int p0), .val (.int p1), .val (.int (3 : Int32)), .val (.int (0 : Int32)), .val (.int (1 : Int32)), .val (.int (1 : Int32)), .val (.int z1266), .val (.int z1267), .val (.int z1268), .val (.int z1266), .val (.int z1267), .val (.int z1268), .unset, .unset, .unset, .unset, .unset, .unset, .unset, .unset, .unset, .unset, .unset, .unset, .unset] rfl ?_
  refine W.iload 115 at_113 rfl rfl ?_
  refine W.iload 117 at_115 rfl rfl ?_
  refine W.iadd 118 at_117 rfl (z1266 + z1267) rfl ?_
  refine W.istore 120 at_118 rfl #[.val (.int p0), .val (.int p1), .val (.int (3 : Int32)), .val (.int (0 : Int32)), .val (.int (1 : Int32)), .val (.int (1 : Int32)), .val (.int z1266), .val (.int z1267), .val (.int z1268), .val (.int z1266), .val (.int z1267), .val (.int z1268), .val (.int (z1266 + z1267)), .unset, .unset, .unset, .unset, .unset, .unset, .unset, .unset, .unset, .unset, .unset, .unset] rfl ?_
  refine W.iload 122 at_120 rfl rfl ?_
  refine W.iload 124 at_122 rfl rfl ?_
  refine W.iadd 125 at_124 rfl (z1266 + z1268) rfl ?_
  refine W.istore 127 at_125 rfl #[.val (.int p0), .val (.int p1), .val (.int (3 : Int32)), .val (.int (0 : Int32)), .val (.int (1 : Int32)), .val (.int (1 : Int32)), .val (.int z1266), .val (.int z1267), .val (.int z1268), .val (.int z1266), .val (.int z1267), .val (.int z1268), .val (.int (z1266 + z1267)), .val (.int (z1266 + z1268)), .unset, .unset, .unset, .unset, .unset, .unset, .unset, .unset, .unset, .unset, .unset] rfl ?_
  refine W.iload 129 at_127 rfl rfl ?_
  refine W.iload 131 at_129 rfl rfl ?_
  refine W.iadd 132 at_131 rfl (z1267 + z1268) rfl ?_
  refine W.istore 134 at_132 rfl #[.val (.int p0), .val (.int p1), .val (.int (3 : Int32)), .val (.int (0 : Int32)), .val (.int (1 : Int32)), .val (.int (1 : Int32)), .val (.int z1266), .val (.int z1267), .val (.int z1268), .val (.int z1266), .val (.int z1267), .val (.int z1268), .val (.int (z1266 + z1267)), .val (.int (z1266 + z1268)), .val (.int (z1267 + z1268)), .unset, .unset, .unset, .unset, .unset, .unset, .unset, .unset, .unset, .unset] rfl ?_
  refine W.iload 136 at_134 rfl rfl ?_
  refine W.iload 138 at_136 rfl rfl ?_
  refine W.iadd 139 at_138 rfl ((z1266 + z1267) + (z1266 + z1268)) rfl ?_
  refine W.iload 141 at_139 rfl rfl ?_
  refine W.iadd 142 at_141 rfl (((z1266 + z1267) + (z1266 + z1268)) + (z1267 + z1268)) rfl ?_
  refine W.istore 144 at_142 rfl #[.val (.int p0), .val (.int p1), .val (.int (3 : Int32)), .val (.int (0 : Int32)), .val (.int (1 : Int32)), .val (.int (1 : Int32)), .val (.int z1266), .val (.int z1267), .val (.int z1268), .val (.int z1266), .val (.int z1267), .val (.int z1268), .val (.int (z1266 + z1267)), .val (.int (z1266 + z1268)), .val (.int (z1267 + z1268)), .val (.int (((z1266 + z1267) + (z1266 + z1268)) + (z1267 + z1268))), .unset, .unset, .unset, .unset, .unset, .unset, .unset, .unset, .unset] rfl ?_
  refine W.iloadN 145 at_144 rfl rfl ?_
  refine W.newarray 147 at_145 rfl (wd_4 hw) rfl (by decide) 3 3 (by decide) (by decide) (by decide) (by decide) (by decide) rfl ?_
  intro h1269 b1269 g1269 ge1269 X1269 K1269 A1269
  have A1269 : Ary _ _ b1269 .long [(.long (0 : Int64)), (.long (0 : Int64)), (.long (0 : Int64))] := A1269
  show W _ _ _ _ _ _ _ _ _ _ _ 1 3 147 #[.val (.int p0), .val (.int p1), .val (.int (3 : Int32)), .val (.int (0 : Int32)), .val (.int (1 : Int32)), .val (.int (1 : Int32)), .val (.int z1266), .val (.int z1267), .val (.int z1268), .val (.int z1266), .val (.int z1267), .val (.int z1268), .val (.int (z1266 + z1267)), .val (.int (z1266 + z1268)), .val (.int (z1267 + z1268)), .val (.int (((z1266 + z1267) + (z1266 + z1268)) + (z1267 + z1268))), .unset, .unset, .unset, .unset, .unset, .unset, .unset, .unset, .unset] [(.ref b1269)]
  refine W.astore 149 at_147 rfl rfl #[.val (.int p0), .val (.int p1), .val (.int (3 : Int32)), .val (.int (0 : Int32)), .val (.int (1 : Int32)), .val (.int (1 : Int32)), .val (.int z1266), .val (.int z1267), .val (.int z1268), .val (.int z1266), .val (.int z1267), .val (.int z1268), .val (.int (z1266 + z1267)), .val (.int (z1266 + z1268)), .val (.int (z1267 + z1268)), .val (.int (((z1266 + z1267) + (z1266 + z1268)) + (z1267 + z1268))), .val (.ref b1269), .unset, .unset, .unset, .unset, .unset, .unset, .unset, .unset] rfl ?_
  refine W.iloadN 150 at_149 rfl rfl ?_
  refine W.iconst 151 at_150 rfl (2 : Int32) rfl ?_
  refine W.icmp_lt 159 154 at_151 rfl rfl (fun hc => absurd hc (by decide)) (fun _ => ?_)
  refine W.aload 156 at_154 rfl rfl rfl ?_
  refine W.iconst 157 at_156 rfl (1 : Int32) rfl ?_
  refine W.lconst 158 at_157 rfl (1 : Int64) rfl ?_
  refine W.lastore 159 at_158 rfl A1269 1 (by decide) (by decide) (Nat.le_of_ble_eq_true rfl) ge1269 ?_
  intro h1270 W1270 K1270 A1270
  have A1270 : Ary _ _ b1269 .long [(.long (0 : Int64)), (.long (1 : Int64)), (.long (0 : Int64))] := A1270
  refine W.iloadN 160 at_159 rfl rfl ?_
  refine W.iconst 161 at_160 rfl (3 : Int32) rfl ?_
  refine W.icmp_lt 171 164 at_161 rfl rfl (fun hc => absurd hc (by decide)) (fun _ => ?_)
  refine W.aload 166 at_164 rfl rfl rfl ?_
  refine W.iconst 167 at_166 rfl (2 : Int32) rfl ?_
  refine W.ldc2J 170 at_167 rfl (wd_32 hw) ?_
  refine W.lastore 171 at_170 rfl A1270 2 (by decide) (by decide) (Nat.le_of_ble_eq_true rfl) ge1269 ?_
  intro h1271 W1271 K1271 A1271
  have A1271 : Ary _ _ b1269 .long [(.long (0 : Int64)), (.long (1 : Int64)), (.long (2 : Int64))] := A1271
  refine W.iloadN 172 at_171 rfl rfl ?_
  refine W.iconst 173 at_172 rfl (1 : Int32) rfl ?_
  refine W.iadd 174 at_173 rfl (4 : Int32) (by decide) ?_
  refine W.newarray 176 at_174 rfl (wd_5 hw) rfl (by decide) 4 4 (by decide) (by decide) (by decide) (by decide) (by decide) rfl ?_
  intro h1272 b1272 g1272 ge1272 X1272 K1272 A1272
  have ne1273 : b1269 ≠ b1272 := Nat.ne_of_lt (Nat.lt_of_lt_of_eq A1271.lt g1272.symm)
  have A1272 : Ary _ _ b1272 .int [(.int (0 : Int32)), (.int (0 : Int32)), (.int (0 : Int32)), (.int (0 : Int32))] := A1272
  show W _ _ _ _ _ _ _ _ _ _ _ 2 7 176 #[.val (.int p0), .val (.int p1), .val (.int (3 : Int32)), .val (.int (0 : Int32)), .val (.int (1 : Int32)), .val (.int (1 : Int32)), .val (.int z1266), .val (.int z1267), .val (.int z1268), .val (.int z1266), .val (.int z1267), .val (.int z1268), .val (.int (z1266 + z1267)), .val (.int (z1266 + z1268)), .val (.int (z1267 + z1268)), .val (.int (((z1266 + z1267) + (z1266 + z1268)) + (z1267 + z1268))), .val (.ref b1269), .unset, .unset, .unset, .unset, .unset, .unset, .unset, .unset] [(.ref b1272)]
  refine W.astore 178 at_176 rfl rfl #[.val (.int p0), .val (.int p1), .val (.int (3 : Int32)), .val (.int (0 : Int32)), .val (.int (1 : Int32)), .val (.int (1 : Int32)), .val (.int z1266), .val (.int z1267), .val (.int z1268), .val (.int z1266), .val (.int z1267), .val (.int z1268), .val (.int (z1266 + z1267)), .val (.int (z1266 + z1268)), .val (.int (z1267 + z1268)), .val (.int (((z1266 + z1267) + (z1266 + z1268)) + (z1267 + z1268))), .val (.ref b1269), .val (.ref b1272), .unset, .unset, .unset, .unset, .unset, .unset, .unset] rfl ?_
  refine W.iloadN 179 at_178 rfl rfl ?_
  refine W.iconst 180 at_179 rfl (1 : Int32) rfl ?_
  refine W.icmp_lt 189 183 at_180 rfl rfl (fun hc => absurd hc (by decide)) (fun _ => ?_)
  refine W.aload 185 at_183 rfl rfl rfl ?_
  refine W.iconst 186 at_185 rfl (1 : Int32) rfl ?_
  refine W.iload 188 at_186 rfl rfl ?_
  refine W.iastore 189 at_188 rfl A1272 1 (by decide) (by decide) (Nat.le_of_ble_eq_true rfl) ge1272 ?_
  intro h1274 W1274 K1274 A1274
  have A1274 : Ary _ _ b1272 .int [(.int (0 : Int32)), (.int (z1266 + z1267)), (.int (0 : Int32)), (.int (0 : Int32))] := A1274
  refine W.iloadN 190 at_189 rfl rfl ?_
  refine W.iconst 191 at_190 rfl (2 : Int32) rfl ?_
  refine W.icmp_lt 203 194 at_191 rfl rfl (fun hc => absurd hc (by decide)) (fun _ => ?_)
  refine W.aload 196 at_194 rfl rfl rfl ?_
  refine W.iconst 197 at_196 rfl (2 : Int32) rfl ?_
  refine W.iload 199 at_197 rfl rfl ?_
  refine W.iload 201 at_199 rfl rfl ?_
  refine W.iadd 202 at_201 rfl ((z1266 + z1267) + (z1266 + z1268)) rfl ?_
  refine W.iastore 203 at_202 rfl A1274 2 (by decide) (by decide) (Nat.le_of_ble_eq_true rfl) ge1272 ?_
  intro h1275 W1275 K1275 A1275
  have A1275 : Ary _ _ b1272 .int [(.int (0 : Int32)), (.int (z1266 + z1267)), (.int ((z1266 + z1267) + (z1266 + z1268))), (.int (0 : Int32))] := A1275
  refine W.iloadN 204 at_203 rfl rfl ?_
  refine W.iconst 205 at_204 rfl (3 : Int32) rfl ?_
  refine W.icmp_lt 214 208 at_205 rfl rfl (fun hc => absurd hc (by decide)) (fun _ => ?_)
  refine W.aload 210 at_208 rfl rfl rfl ?_
  refine W.iconst 211 at_210 rfl (3 : Int32) rfl ?_
  refine W.iload 213 at_211 rfl rfl ?_
  refine W.iastore 214 at_213 rfl A1275 3 (by decide) (by decide) (Nat.le_of_ble_eq_true rfl) ge1272 ?_
  intro h1276 W1276 K1276 A1276
  have A1276 : Ary _ _ b1272 .int [(.int (0 : Int32)), (.int (z1266 + z1267)), (.int ((z1266 + z1267) + (z1266 + z1268))), (.int (((z1266 + z1267) + (z1266 + z1268)) + (z1267 + z1268)))] := A1276
  refine W.iload 216 at_214 rfl rfl ?_
  have htt := own_tot z1266 z1267 z1268 z1266 z1267 z1268 hz1266 hz1267 hz1268 hz1266 hz1267 hz1268
  have ett : ((z1266 + z1267) + (z1266 + z1268) + (z1267 + z1268)) = (((z1266 + z1267) + (z1266 + z1268)) + (z1267 + z1268)) := rfl
  rw [ett] at htt
  refine W.newarray 218 at_216 rfl (wd_5 hw) rfl htt.1 ((((z1266 + z1267) + (z1266 + z1268)) + (z1267 + z1268))).toNatClampNeg 6 rfl htt.2 (by decide) (by decide) (by decide) rfl ?_
  intro h1277 b1277 g1277 ge1277 X1277 K1277 A1277
  have q1278 := ((((A1271.keep K1272 nin0).keep K1274 (ninS ne1273 nin0)).keep K1275 (ninS ne1273 nin0)).keep K1276 (ninS ne1273 nin0))
  have ne1279 : b1269 ≠ b1277 := Nat.ne_of_lt (Nat.lt_of_lt_of_eq q1278.lt g1277.symm)
  have ne1280 : b1272 ≠ b1277 := Nat.ne_of_lt (Nat.lt_of_lt_of_eq A1276.lt g1277.symm)
  show W _ _ _ _ _ _ _ _ _ _ _ 3 13 218 #[.val (.int p0), .val (.int p1), .val (.int (3 : Int32)), .val (.int (0 : Int32)), .val (.int (1 : Int32)), .val (.int (1 : Int32)), .val (.int z1266), .val (.int z1267), .val (.int z1268), .val (.int z1266), .val (.int z1267), .val (.int z1268), .val (.int (z1266 + z1267)), .val (.int (z1266 + z1268)), .val (.int (z1267 + z1268)), .val (.int (((z1266 + z1267) + (z1266 + z1268)) + (z1267 + z1268))), .val (.ref b1269), .val (.ref b1272), .unset, .unset, .unset, .unset, .unset, .unset, .unset] [(.ref b1277)]
  refine W.astore 220 at_218 rfl rfl #[.val (.int p0), .val (.int p1), .val (.int (3 : Int32)), .val (.int (0 : Int32)), .val (.int (1 : Int32)), .val (.int (1 : Int32)), .val (.int z1266), .val (.int z1267), .val (.int z1268), .val (.int z1266), .val (.int z1267), .val (.int z1268), .val (.int (z1266 + z1267)), .val (.int (z1266 + z1268)), .val (.int (z1267 + z1268)), .val (.int (((z1266 + z1267) + (z1266 + z1268)) + (z1267 + z1268))), .val (.ref b1269), .val (.ref b1272), .val (.ref b1277), .unset, .unset, .unset, .unset, .unset, .unset] rfl ?_
  refine W.iconst 221 at_220 rfl (0 : Int32) rfl ?_
  refine W.istore 223 at_221 rfl #[.val (.int p0), .val (.int p1), .val (.int (3 : Int32)), .val (.int (0 : Int32)), .val (.int (1 : Int32)), .val (.int (1 : Int32)), .val (.int z1266), .val (.int z1267), .val (.int z1268), .val (.int z1266), .val (.int z1267), .val (.int z1268), .val (.int (z1266 + z1267)), .val (.int (z1266 + z1268)), .val (.int (z1267 + z1268)), .val (.int (((z1266 + z1267) + (z1266 + z1268)) + (z1267 + z1268))), .val (.ref b1269), .val (.ref b1272), .val (.ref b1277), .val (.int (0 : Int32)), .unset, .unset, .unset, .unset, .unset] rfl ?_
  have q1281 := (q1278.keep K1277 nin0)
  have q1282 := (A1276.keep K1277 nin0)
  exact (t_223 l Z a0 hw p0 p1 (3 : Int32) (0 : Int32) z1266 z1267 z1268 z1266 z1267 z1268 (z1266 + z1267) (z1266 + z1268) (z1267 + z1268) (((z1266 + z1267) + (z1266 + z1268)) + (z1267 + z1268)) (1 : Int32) (1 : Int32) (0 : Int32) b1269 b1272 b1277 _ _ _ _ n0 hz1266 hz1267 hz1268 hz1266 hz1267 hz1268 rfl (by decide) rfl rfl q1281 q1282 ge1269 A1277 (by rw [List.length_replicate]) ge1277 ne1279 ne1280 (Or.inl ⟨rfl, rfl, rfl, rfl⟩) rfl).mono (by decide) (by decide)
set_option maxRecDepth 65536 in
set_option maxHeartbeats 40000000 in
theorem law_31 (l : Launch) (Z : State) (a0 : Array Value) (hw : ∀ d ∈ tables_1, d.before a0 Z = true) (p0 p1 : Int32) (h : Heap) (n0 : Nat) (hn : n0 ≤ h.size) (hN : (p0 &&& (3 : Int32)) = (3 : Int32)) (hD : (p0 &&& (4 : Int32)) = (4 : Int32)) : ConW tables_1 l Z x code maxLocals ret room_1 #[(.int p0), (.int p1)] h n0 (fun r _ => r = some (.int 1)) := by
  refine ConW.of_W (Ls := #[.val (.int p0), .val (.int p1), .unset, .unset, .unset, .unset, .unset, .unset, .unset, .unset, .unset, .unset, .unset, .unset, .unset, .unset, .unset, .unset, .unset, .unset, .unset, .unset, .unset, .unset, .unset]) (plainFor_of_name pn_0) hn (fun m => by first | (simp [entryFrame, mkF, argsToLocals, Value.category, maxLocals]; done) | rfl) ?_
  refine W.iloadN 1 at_0 rfl rfl ?_
  refine W.iconst 2 at_1 rfl (3 : Int32) rfl ?_
  refine W.iand 3 at_2 rfl (3 : Int32) hN ?_
  refine W.istoreN 4 at_3 rfl #[.val (.int p0), .val (.int p1), .val (.int (3 : Int32)), .unset, .unset, .unset, .unset, .unset, .unset, .unset, .unset, .unset, .unset, .unset, .unset, .unset, .unset, .unset, .unset, .unset, .unset, .unset, .unset, .unset, .unset] rfl ?_
  refine W.iloadN 5 at_4 rfl rfl ?_
  refine W.iconst 6 at_5 rfl (4 : Int32) rfl ?_
  refine W.iand 7 at_6 rfl (4 : Int32) hD ?_
  refine W.if_eq 14 10 at_7 rfl rfl (fun hc => absurd hc (by decide)) (fun _ => ?_)
  refine W.iconst 11 at_10 rfl (1 : Int32) rfl ?_
  refine W.goto 15 at_11 rfl ?_
  refine W.istoreN 16 at_15 rfl #[.val (.int p0), .val (.int p1), .val (.int (3 : Int32)), .val (.int (1 : Int32)), .unset, .unset, .unset, .unset, .unset, .unset, .unset, .unset, .unset, .unset, .unset, .unset, .unset, .unset, .unset, .unset, .unset, .unset, .unset, .unset, .unset] rfl ?_
  refine W.iloadN 17 at_16 rfl rfl ?_
  refine W.iconst 18 at_17 rfl (2 : Int32) rfl ?_
  refine W.icmp_lt 25 21 at_18 rfl rfl (fun hc => absurd hc (by decide)) (fun _ => ?_)
  refine W.iconst 22 at_21 rfl (1 : Int32) rfl ?_
  refine W.goto 26 at_22 rfl ?_
  refine W.istore 28 at_26 rfl #[.val (.int p0), .val (.int p1), .val (.int (3 : Int32)), .val (.int (1 : Int32)), .val (.int (1 : Int32)), .unset, .unset, .unset, .unset, .unset, .unset, .unset, .unset, .unset, .unset, .unset, .unset, .unset, .unset, .unset, .unset, .unset, .unset, .unset, .unset] rfl ?_
  refine W.iloadN 29 at_28 rfl rfl ?_
  refine W.iconst 30 at_29 rfl (3 : Int32) rfl ?_
  refine W.icmp_lt 37 33 at_30 rfl rfl (fun hc => absurd hc (by decide)) (fun _ => ?_)
  refine W.iconst 34 at_33 rfl (1 : Int32) rfl ?_
  refine W.goto 38 at_34 rfl ?_
  refine W.istore 40 at_38 rfl #[.val (.int p0), .val (.int p1), .val (.int (3 : Int32)), .val (.int (1 : Int32)), .val (.int (1 : Int32)), .val (.int (1 : Int32)), .unset, .unset, .unset, .unset, .unset, .unset, .unset, .unset, .unset, .unset, .unset, .unset, .unset, .unset, .unset, .unset, .unset, .unset, .unset] rfl ?_
  refine W.iloadN 41 at_40 rfl rfl ?_
  refine W.iconst 42 at_41 rfl (0 : Int32) rfl ?_
  refine W.iload 44 at_42 rfl rfl ?_
  refine W.callS (rest := []) (argsL := [(.int p1), (.int (0 : Int32)), (.int (1 : Int32))]) 47 at_44 rfl (fun hn => c_bit1 l Z a0 hw p1 (0 : Int32) _ n0 hn) (wd_0 hw) (wd_1 hw) (wd_2 hw) (wd_3 hw) (by decide) pd_2 rfl rfl rfl (by decide) 0 (Nat.le_of_ble_eq_true rfl) (by decide) (by decide) (by decide) ?_
  rintro v1283 h1283 ⟨⟨z1283, rfl, hz1283⟩, rfl⟩
  show W _ _ _ _ _ _ _ _ _ _ _ 0 0 47 #[.val (.int p0), .val (.int p1), .val (.int (3 : Int32)), .val (.int (1 : Int32)), .val (.int (1 : Int32)), .val (.int (1 : Int32)), .unset, .unset, .unset, .unset, .unset, .unset, .unset, .unset, .unset, .unset, .unset, .unset, .unset, .unset, .unset, .unset, .unset, .unset, .unset] [(.int z1283)]
  refine W.istore 49 at_47 rfl #[.val (.int p0), .val (.int p1), .val (.int (3 : Int32)), .val (.int (1 : Int32)), .val (.int (1 : Int32)), .val (.int (1 : Int32)), .val (.int z1283), .unset, .unset, .unset, .unset, .unset, .unset, .unset, .unset, .unset, .unset, .unset, .unset, .unset, .unset, .unset, .unset, .unset, .unset] rfl ?_
  refine W.iloadN 50 at_49 rfl rfl ?_
  refine W.iconst 51 at_50 rfl (1 : Int32) rfl ?_
  refine W.iload 53 at_51 rfl rfl ?_
  refine W.callS (rest := []) (argsL := [(.int p1), (.int (1 : Int32)), (.int (1 : Int32))]) 56 at_53 rfl (fun hn => c_bit1 l Z a0 hw p1 (1 : Int32) _ n0 hn) (wd_0 hw) (wd_1 hw) (wd_2 hw) (wd_3 hw) (by decide) pd_2 rfl rfl rfl (by decide) 0 (Nat.le_of_ble_eq_true rfl) (by decide) (by decide) (by decide) ?_
  rintro v1284 h1284 ⟨⟨z1284, rfl, hz1284⟩, rfl⟩
  show W _ _ _ _ _ _ _ _ _ _ _ 0 0 56 #[.val (.int p0), .val (.int p1), .val (.int (3 : Int32)), .val (.int (1 : Int32)), .val (.int (1 : Int32)), .val (.int (1 : Int32)), .val (.int z1283), .unset, .unset, .unset, .unset, .unset, .unset, .unset, .unset, .unset, .unset, .unset, .unset, .unset, .unset, .unset, .unset, .unset, .unset] [(.int z1284)]
  refine W.istore 58 at_56 rfl #[.val (.int p0), .val (.int p1), .val (.int (3 : Int32)), .val (.int (1 : Int32)), .val (.int (1 : Int32)), .val (.int (1 : Int32)), .val (.int z1283), .val (.int z1284), .unset, .unset, .unset, .unset, .unset, .unset, .unset, .unset, .unset, .unset, .unset, .unset, .unset, .unset, .unset, .unset, .unset] rfl ?_
  refine W.iloadN 59 at_58 rfl rfl ?_
  refine W.iconst 60 at_59 rfl (3 : Int32) rfl ?_
  refine W.iload 62 at_60 rfl rfl ?_
  refine W.callS (rest := []) (argsL := [(.int p1), (.int (3 : Int32)), (.int (1 : Int32))]) 65 at_62 rfl (fun hn => c_bit1 l Z a0 hw p1 (3 : Int32) _ n0 hn) (wd_0 hw) (wd_1 hw) (wd_2 hw) (wd_3 hw) (by decide) pd_2 rfl rfl rfl (by decide) 0 (Nat.le_of_ble_eq_true rfl) (by decide) (by decide) (by decide) ?_
  rintro v1285 h1285 ⟨⟨z1285, rfl, hz1285⟩, rfl⟩
  show W _ _ _ _ _ _ _ _ _ _ _ 0 0 65 #[.val (.int p0), .val (.int p1), .val (.int (3 : Int32)), .val (.int (1 : Int32)), .val (.int (1 : Int32)), .val (.int (1 : Int32)), .val (.int z1283), .val (.int z1284), .unset, .unset, .unset, .unset, .unset, .unset, .unset, .unset, .unset, .unset, .unset, .unset, .unset, .unset, .unset, .unset, .unset] [(.int z1285)]
  refine W.istore 67 at_65 rfl #[.val (.int p0), .val (.int p1), .val (.int (3 : Int32)), .val (.int (1 : Int32)), .val (.int (1 : Int32)), .val (.int (1 : Int32)), .val (.int z1283), .val (.int z1284), .val (.int z1285), .unset, .unset, .unset, .unset, .unset, .unset, .unset, .unset, .unset, .unset, .unset, .unset, .unset, .unset, .unset, .unset] rfl ?_
  refine W.iloadN 68 at_67 rfl rfl ?_
  refine W.if_eq 101 71 at_68 rfl rfl (fun hc => absurd hc (by decide)) (fun _ => ?_)
  refine W.iloadN 72 at_71 rfl rfl ?_
  refine W.iconst 73 at_72 rfl (2 : Int32) rfl ?_
  refine W.iload 75 at_73 rfl rfl ?_
  refine W.callS (rest := []) (argsL := [(.int p1), (.int (2 : Int32)), (.int (1 : Int32))]) 78 at_75 rfl (fun hn => c_bit1 l Z a0 hw p1 (2 : Int32) _ n0 hn) (wd_0 hw) (wd_1 hw) (wd_2 hw) (wd_3 hw) (by decide) pd_2 rfl rfl rfl (by decide) 0 (Nat.le_of_ble_eq_true rfl) (by decide) (by decide) (by decide) ?_
  rintro v1286 h1286 ⟨⟨z1286, rfl, hz1286⟩, rfl⟩
  show W _ _ _ _ _ _ _ _ _ _ _ 0 0 78 #[.val (.int p0), .val (.int p1), .val (.int (3 : Int32)), .val (.int (1 : Int32)), .val (.int (1 : Int32)), .val (.int (1 : Int32)), .val (.int z1283), .val (.int z1284), .val (.int z1285), .unset, .unset, .unset, .unset, .unset, .unset, .unset, .unset, .unset, .unset, .unset, .unset, .unset, .unset, .unset, .unset] [(.int z1286)]
  refine W.istore 80 at_78 rfl #[.val (.int p0), .val (.int p1), .val (.int (3 : Int32)), .val (.int (1 : Int32)), .val (.int (1 : Int32)), .val (.int (1 : Int32)), .val (.int z1283), .val (.int z1284), .val (.int z1285), .val (.int z1286), .unset, .unset, .unset, .unset, .unset, .unset, .unset, .unset, .unset, .unset, .unset, .unset, .unset, .unset, .unset] rfl ?_
  refine W.iloadN 81 at_80 rfl rfl ?_
  refine W.iconst 82 at_81 rfl (4 : Int32) rfl ?_
  refine W.iload 84 at_82 rfl rfl ?_
  refine W.callS (rest := []) (argsL := [(.int p1), (.int (4 : Int32)), (.int (1 : Int32))]) 87 at_84 rfl (fun hn => c_bit1 l Z a0 hw p1 (4 : Int32) _ n0 hn) (wd_0 hw) (wd_1 hw) (wd_2 hw) (wd_3 hw) (by decide) pd_2 rfl rfl rfl (by decide) 0 (Nat.le_of_ble_eq_true rfl) (by decide) (by decide) (by decide) ?_
  rintro v1287 h1287 ⟨⟨z1287, rfl, hz1287⟩, rfl⟩
  show W _ _ _ _ _ _ _ _ _ _ _ 0 0 87 #[.val (.int p0), .val (.int p1), .val (.int (3 : Int32)), .val (.int (1 : Int32)), .val (.int (1 : Int32)), .val (.int (1 : Int32)), .val (.int z1283), .val (.int z1284), .val (.int z1285), .val (.int z1286), .unset, .unset, .unset, .unset, .unset, .unset, .unset, .unset, .unset, .unset, .unset, .unset, .unset, .unset, .unset] [(.int z1287)]
  refine W.istore 89 at_87 rfl #[.val (.int p0), .val (.int p1), .val (.int (3 : Int32)), .val (.int (1 : Int32)), .val (.int (1 : Int32)), .val (.int (1 : Int32)), .val (.int z1283), .val (.int z1284), .val (.int z1285), .val (.int z1286), .val (.int z1287), .unset, .unset, .unset, .unset, .unset, .unset, .unset, .unset, .unset, .unset, .unset, .unset, .unset, .unset] rfl ?_
  refine W.iloadN 90 at_89 rfl rfl ?_
  refine W.iconst 91 at_90 rfl (5 : Int32) rfl ?_
  refine W.iload 93 at_91 rfl rfl ?_
  refine W.callS (rest := []) (argsL := [(.int p1), (.int (5 : Int32)), (.int (1 : Int32))]) 96 at_93 rfl (fun hn => c_bit1 l Z a0 hw p1 (5 : Int32) _ n0 hn) (wd_0 hw) (wd_1 hw) (wd_2 hw) (wd_3 hw) (by decide) pd_2 rfl rfl rfl (by decide) 0 (Nat.le_of_ble_eq_true rfl) (by decide) (by decide) (by decide) ?_
  rintro v1288 h1288 ⟨⟨z1288, rfl, hz1288⟩, rfl⟩
  show W _ _ _ _ _ _ _ _ _ _ _ 0 0 96 #[.val (.int p0), .val (.int p1), .val (.int (3 : Int32)), .val (.int (1 : Int32)), .val (.int (1 : Int32)), .val (.int (1 : Int32)), .val (.int z1283), .val (.int z1284), .val (.int z1285), .val (.int z1286), .val (.int z1287), .unset, .unset, .unset, .unset, .unset, .unset, .unset, .unset, .unset, .unset, .unset, .unset, .unset, .unset] [(.int z1288)]
  refine W.istore 98 at_96 rfl #[.val (.int p0), .val (.int p1), .val (.int (3 : Int32)), .val (.int (1 : Int32)), .val (.int (1 : Int32)), .val (.int (1 : Int32)), .val (.int z1283), .val (.int z1284), .val (.int z1285), .val (.int z1286), .val (.int z1287), .val (.int z1288), .unset, .unset, .unset, .unset, .unset, .unset, .unset, .unset, .unset, .unset, .unset, .unset, .unset] rfl ?_
  refine W.goto 113 at_98 rfl ?_
  refine W.iload 115 at_113 rfl rfl ?_
  refine W.iload 117 at_115 rfl rfl ?_
  refine W.iadd 118 at_117 rfl (z1283 + z1284) rfl ?_
  refine W.istore 120 at_118 rfl #[.val (.int p0), .val (.int p1), .val (.int (3 : Int32)), .val (.int (1 : Int32)), .val (.int (1 : Int32)), .val (.int (1 : Int32)), .val (.int z1283), .val (.int z1284), .val (.int z1285), .val (.int z1286), .val (.int z1287), .val (.int z1288), .val (.int (z1283 + z1284)), .unset, .unset, .unset, .unset, .unset, .unset, .unset, .unset, .unset, .unset, .unset, .unset] rfl ?_
  refine W.iload 122 at_120 rfl rfl ?_
  refine W.iload 124 at_122 rfl rfl ?_
  refine W.iadd 125 at_124 rfl (z1286 + z1285) rfl ?_
  refine W.istore 127 at_125 rfl #[.val (.int p0), .val (.int p1), .val (.int (3 : Int32)), .val (.int (1 : Int32)), .val (.int (1 : Int32)), .val (.int (1 : Int32)), .val (.int z1283), .val (.int z1284), .val (.int z1285), .val (.int z1286), .val (.int z1287), .val (.int z1288), .val (.int (z1283 + z1284)), .val (.int (z1286 + z1285)), .unset, .unset, .unset, .unset, .unset, .unset, .unset, .unset, .unset, .unset, .unset] rfl ?_
  refine W.iload 129 at_127 rfl rfl ?_
  refine W.iload 131 at_129 rfl rfl ?_
  refine W.iadd 132 at_131 rfl (z1287 + z1288) rfl ?_
  refine W.istore 134 at_132 rfl #[.val (.int p0), .val (.int p1), .val (.int (3 : Int32)), .val (.int (1 : Int32)), .val (.int (1 : Int32)), .val (.int (1 : Int32)), .val (.int z1283), .val (.int z1284), .val (.int z1285), .val (.int z1286), .val (.int z1287), .val (.int z1288), .val (.int (z1283 + z1284)), .val (.int (z1286 + z1285)), .val (.int (z1287 + z1288)), .unset, .unset, .unset, .unset, .unset, .unset, .unset, .unset, .unset, .unset] rfl ?_
  refine W.iload 136 at_134 rfl rfl ?_
  refine W.iload 138 at_136 rfl rfl ?_
  refine W.iadd 139 at_138 rfl ((z1283 + z1284) + (z1286 + z1285)) rfl ?_
  refine W.iload 141 at_139 rfl rfl ?_
  refine W.iadd 142 at_141 rfl (((z1283 + z1284) + (z1286 + z1285)) + (z1287 + z1288)) rfl ?_
  refine W.istore 144 at_142 rfl #[.val (.int p0), .val (.int p1), .val (.int (3 : Int32)), .val (.int (1 : Int32)), .val (.int (1 : Int32)), .val (.int (1 : Int32)), .val (.int z1283), .val (.int z1284), .val (.int z1285), .val (.int z1286), .val (.int z1287), .val (.int z1288), .val (.int (z1283 + z1284)), .val (.int (z1286 + z1285)), .val (.int (z1287 + z1288)), .val (.int (((z1283 + z1284) + (z1286 + z1285)) + (z1287 + z1288))), .unset, .unset, .unset, .unset, .unset, .unset, .unset, .unset, .unset] rfl ?_
  refine W.iloadN 145 at_144 rfl rfl ?_
  refine W.newarray 147 at_145 rfl (wd_4 hw) rfl (by decide) 3 3 (by decide) (by decide) (by decide) (by decide) (by decide) rfl ?_
  intro h1289 b1289 g1289 ge1289 X1289 K1289 A1289
  have A1289 : Ary _ _ b1289 .long [(.long (0 : Int64)), (.long (0 : Int64)), (.long (0 : Int64))] := A1289
  show W _ _ _ _ _ _ _ _ _ _ _ 1 3 147 #[.val (.int p0), .val (.int p1), .val (.int (3 : Int32)), .val (.int (1 : Int32)), .val (.int (1 : Int32)), .val (.int (1 : Int32)), .val (.int z1283), .val (.int z1284), .val (.int z1285), .val (.int z1286), .val (.int z1287), .val (.int z1288), .val (.int (z1283 + z1284)), .val (.int (z1286 + z1285)), .val (.int (z1287 + z1288)), .val (.int (((z1283 + z1284) + (z1286 + z1285)) + (z1287 + z1288))), .unset, .unset, .unset, .unset, .unset, .unset, .unset, .unset, .unset] [(.ref b1289)]
  refine W.astore 149 at_147 rfl rfl #[.val (.int p0), .val (.int p1), .val (.int (3 : Int32)), .val (.int (1 : Int32)), .val (.int (1 : Int32)), .val (.int (1 : Int32)), .val (.int z1283), .val (.int z1284), .val (.int z1285), .val (.int z1286), .val (.int z1287), .val (.int z1288), .val (.int (z1283 + z1284)), .val (.int (z1286 + z1285)), .val (.int (z1287 + z1288)), .val (.int (((z1283 + z1284) + (z1286 + z1285)) + (z1287 + z1288))), .val (.ref b1289), .unset, .unset, .unset, .unset, .unset, .unset, .unset, .unset] rfl ?_
  refine W.iloadN 150 at_149 rfl rfl ?_
  refine W.iconst 151 at_150 rfl (2 : Int32) rfl ?_
  refine W.icmp_lt 159 154 at_151 rfl rfl (fun hc => absurd hc (by decide)) (fun _ => ?_)
  refine W.aload 156 at_154 rfl rfl rfl ?_
  refine W.iconst 157 at_156 rfl (1 : Int32) rfl ?_
  refine W.lconst 158 at_157 rfl (1 : Int64) rfl ?_
  refine W.lastore 159 at_158 rfl A1289 1 (by decide) (by decide) (Nat.le_of_ble_eq_true rfl) ge1289 ?_
  intro h1290 W1290 K1290 A1290
  have A1290 : Ary _ _ b1289 .long [(.long (0 : Int64)), (.long (1 : Int64)), (.long (0 : Int64))] := A1290
  refine W.iloadN 160 at_159 rfl rfl ?_
  refine W.iconst 161 at_160 rfl (3 : Int32) rfl ?_
  refine W.icmp_lt 171 164 at_161 rfl rfl (fun hc => absurd hc (by decide)) (fun _ => ?_)
  refine W.aload 166 at_164 rfl rfl rfl ?_
  refine W.iconst 167 at_166 rfl (2 : Int32) rfl ?_
  refine W.ldc2J 170 at_167 rfl (wd_32 hw) ?_
  refine W.lastore 171 at_170 rfl A1290 2 (by decide) (by decide) (Nat.le_of_ble_eq_true rfl) ge1289 ?_
  intro h1291 W1291 K1291 A1291
  have A1291 : Ary _ _ b1289 .long [(.long (0 : Int64)), (.long (1 : Int64)), (.long (2 : Int64))] := A1291
  refine W.iloadN 172 at_171 rfl rfl ?_
  refine W.iconst 173 at_172 rfl (1 : Int32) rfl ?_
  refine W.iadd 174 at_173 rfl (4 : Int32) (by decide) ?_
  refine W.newarray 176 at_174 rfl (wd_5 hw) rfl (by decide) 4 4 (by decide) (by decide) (by decide) (by decide) (by decide) rfl ?_
  intro h1292 b1292 g1292 ge1292 X1292 K1292 A1292
  have ne1293 : b1289 ≠ b1292 := Nat.ne_of_lt (Nat.lt_of_lt_of_eq A1291.lt g1292.symm)
  have A1292 : Ary _ _ b1292 .int [(.int (0 : Int32)), (.int (0 : Int32)), (.int (0 : Int32)), (.int (0 : Int32))] := A1292
  show W _ _ _ _ _ _ _ _ _ _ _ 2 7 176 #[.val (.int p0), .val (.int p1), .val (.int (3 : Int32)), .val (.int (1 : Int32)), .val (.int (1 : Int32)), .val (.int (1 : Int32)), .val (.int z1283), .val (.int z1284), .val (.int z1285), .val (.int z1286), .val (.int z1287), .val (.int z1288), .val (.int (z1283 + z1284)), .val (.int (z1286 + z1285)), .val (.int (z1287 + z1288)), .val (.int (((z1283 + z1284) + (z1286 + z1285)) + (z1287 + z1288))), .val (.ref b1289), .unset, .unset, .unset, .unset, .unset, .unset, .unset, .unset] [(.ref b1292)]
  refine W.astore 178 at_176 rfl rfl #[.val (.int p0), .val (.int p1), .val (.int (3 : Int32)), .val (.int (1 : Int32)), .val (.int (1 : Int32)), .val (.int (1 : Int32)), .val (.int z1283), .val (.int z1284), .val (.int z1285), .val (.int z1286), .val (.int z1287), .val (.int z1288), .val (.int (z1283 + z1284)), .val (.int (z1286 + z1285)), .val (.int (z1287 + z1288)), .val (.int (((z1283 + z1284) + (z1286 + z1285)) + (z1287 + z1288))), .val (.ref b1289), .val (.ref b1292), .unset, .unset, .unset, .unset, .unset, .unset, .unset] rfl ?_
  refine W.iloadN 179 at_178 rfl rfl ?_
  refine W.iconst 180 at_179 rfl (1 : Int32) rfl ?_
  refine W.icmp_lt 189 183 at_180 rfl rfl (fun hc => absurd hc (by decide)) (fun _ => ?_)
  refine W.aload 185 at_183 rfl rfl rfl ?_
  refine W.iconst 186 at_185 rfl (1 : Int32) rfl ?_
  refine W.iload 188 at_186 rfl rfl ?_
  refine W.iastore 189 at_188 rfl A1292 1 (by decide) (by decide) (Nat.le_of_ble_eq_true rfl) ge1292 ?_
  intro h1294 W1294 K1294 A1294
  have A1294 : Ary _ _ b1292 .int [(.int (0 : Int32)), (.int (z1283 + z1284)), (.int (0 : Int32)), (.int (0 : Int32))] := A1294
  refine W.iloadN 190 at_189 rfl rfl ?_
  refine W.iconst 191 at_190 rfl (2 : Int32) rfl ?_
  refine W.icmp_lt 203 194 at_191 rfl rfl (fun hc => absurd hc (by decide)) (fun _ => ?_)
  refine W.aload 196 at_194 rfl rfl rfl ?_
  refine W.iconst 197 at_196 rfl (2 : Int32) rfl ?_
  refine W.iload 199 at_197 rfl rfl ?_
  refine W.iload 201 at_199 rfl rfl ?_
  refine W.iadd 202 at_201 rfl ((z1283 + z1284) + (z1286 + z1285)) rfl ?_
  refine W.iastore 203 at_202 rfl A1294 2 (by decide) (by decide) (Nat.le_of_ble_eq_true rfl) ge1292 ?_
  intro h1295 W1295 K1295 A1295
  have A1295 : Ary _ _ b1292 .int [(.int (0 : Int32)), (.int (z1283 + z1284)), (.int ((z1283 + z1284) + (z1286 + z1285))), (.int (0 : Int32))] := A1295
  refine W.iloadN 204 at_203 rfl rfl ?_
  refine W.iconst 205 at_204 rfl (3 : Int32) rfl ?_
  refine W.icmp_lt 214 208 at_205 rfl rfl (fun hc => absurd hc (by decide)) (fun _ => ?_)
  refine W.aload 210 at_208 rfl rfl rfl ?_
  refine W.iconst 211 at_210 rfl (3 : Int32) rfl ?_
  refine W.iload 213 at_211 rfl rfl ?_
  refine W.iastore 214 at_213 rfl A1295 3 (by decide) (by decide) (Nat.le_of_ble_eq_true rfl) ge1292 ?_
  intro h1296 W1296 K1296 A1296
  have A1296 : Ary _ _ b1292 .int [(.int (0 : Int32)), (.int (z1283 + z1284)), (.int ((z1283 + z1284) + (z1286 + z1285))), (.int (((z1283 + z1284) + (z1286 + z1285)) + (z1287 + z1288)))] := A1296
  refine W.iload 216 at_214 rfl rfl ?_
  have htt := own_tot z1283 z1284 z1285 z1286 z1287 z1288 hz1283 hz1284 hz1285 hz1286 hz1287 hz1288
  have ett : ((z1283 + z1284) + (z1286 + z1285) + (z1287 + z1288)) = (((z1283 + z1284) + (z1286 + z1285)) + (z1287 + z1288)) := rfl
  rw [ett] at htt
  refine W.newarray 218 at_216 rfl (wd_5 hw) rfl htt.1 ((((z1283 + z1284) + (z1286 + z1285)) + (z1287 + z1288))).toNatClampNeg 6 rfl htt.2 (by decide) (by decide) (by decide) rfl ?_
  intro h1297 b1297 g1297 ge1297 X1297 K1297 A1297
  have q1298 := ((((A1291.keep K1292 nin0).keep K1294 (ninS ne1293 nin0)).keep K1295 (ninS ne1293 nin0)).keep K1296 (ninS ne1293 nin0))
  have ne1299 : b1289 ≠ b1297 := Nat.ne_of_lt (Nat.lt_of_lt_of_eq q1298.lt g1297.symm)
  have ne1300 : b1292 ≠ b1297 := Nat.ne_of_lt (Nat.lt_of_lt_of_eq A1296.lt g1297.symm)
  show W _ _ _ _ _ _ _ _ _ _ _ 3 13 218 #[.val (.int p0), .val (.int p1), .val (.int (3 : Int32)), .val (.int (1 : Int32)), .val (.int (1 : Int32)), .val (.int (1 : Int32)), .val (.int z1283), .val (.int z1284), .val (.int z1285), .val (.int z1286), .val (.int z1287), .val (.int z1288), .val (.int (z1283 + z1284)), .val (.int (z1286 + z1285)), .val (.int (z1287 + z1288)), .val (.int (((z1283 + z1284) + (z1286 + z1285)) + (z1287 + z1288))), .val (.ref b1289), .val (.ref b1292), .unset, .unset, .unset, .unset, .unset, .unset, .unset] [(.ref b1297)]
  refine W.astore 220 at_218 rfl rfl #[.val (.int p0), .val (.int p1), .val (.int (3 : Int32)), .val (.int (1 : Int32)), .val (.int (1 : Int32)), .val (.int (1 : Int32)), .val (.int z1283), .val (.int z1284), .val (.int z1285), .val (.int z1286), .val (.int z1287), .val (.int z1288), .val (.int (z1283 + z1284)), .val (.int (z1286 + z1285)), .val (.int (z1287 + z1288)), .val (.int (((z1283 + z1284) + (z1286 + z1285)) + (z1287 + z1288))), .val (.ref b1289), .val (.ref b1292), .val (.ref b1297), .unset, .unset, .unset, .unset, .unset, .unset] rfl ?_
  refine W.iconst 221 at_220 rfl (0 : Int32) rfl ?_
  refine W.istore 223 at_221 rfl #[.val (.int p0), .val (.int p1), .val (.int (3 : Int32)), .val (.int (1 : Int32)), .val (.int (1 : Int32)), .val (.int (1 : Int32)), .val (.int z1283), .val (.int z1284), .val (.int z1285), .val (.int z1286), .val (.int z1287), .val (.int z1288), .val (.int (z1283 + z1284)), .val (.int (z1286 + z1285)), .val (.int (z1287 + z1288)), .val (.int (((z1283 + z1284) + (z1286 + z1285)) + (z1287 + z1288))), .val (.ref b1289), .val (.ref b1292), .val (.ref b1297), .val (.int (0 : Int32)), .unset, .unset, .unset, .unset, .unset] rfl ?_
  have q1301 := (q1298.keep K1297 nin0)
  have q1302 := (A1296.keep K1297 nin0)
  exact (t_223 l Z a0 hw p0 p1 (3 : Int32) (1 : Int32) z1283 z1284 z1285 z1286 z1287 z1288 (z1283 + z1284) (z1286 + z1285) (z1287 + z1288) (((z1283 + z1284) + (z1286 + z1285)) + (z1287 + z1288)) (1 : Int32) (1 : Int32) (0 : Int32) b1289 b1292 b1297 _ _ _ _ n0 hz1283 hz1284 hz1285 hz1286 hz1287 hz1288 rfl (by decide) rfl rfl q1301 q1302 ge1289 A1297 (by rw [List.length_replicate]) ge1297 ne1299 ne1300 (Or.inr rfl) rfl).mono (by decide) (by decide)
theorem own_and3 (x : Int32) : x &&& 3 = 0 ∨ x &&& 3 = 1 ∨ x &&& 3 = 2 ∨ x &&& 3 = 3 := by
  have h1 := c_mask x 3 2 (by decide) (by decide)
  have e0 : (0 : Int32).toInt = 0 := rfl
  have e1 : (1 : Int32).toInt = 1 := rfl
  have e2 : (2 : Int32).toInt = 2 := rfl
  have e3 : (3 : Int32).toInt = 3 := rfl
  simp only [← Int32.toInt_inj]
  omega
theorem own_and4 (x : Int32) : x &&& 4 = 0 ∨ x &&& 4 = 4 := by
  have h := own_and7 x
  have e : x &&& 4 = (x &&& 7) &&& 4 := by rw [Int32.and_assoc]; rfl
  rw [e]
  rcases h with h | h | h | h | h | h | h | h <;> rw [h] <;> decide
theorem law_ok (l : Launch) (Z : State) (a0 : Array Value) (hw : ∀ d ∈ tables_1, d.before a0 Z = true) (p0 p1 : Int32) (h : Heap) (n0 : Nat) (hn : n0 ≤ h.size) : ConW tables_1 l Z x code maxLocals ret room_1 #[(.int p0), (.int p1)] h n0 (fun r _ => r = some (.int 1)) := by
  rcases own_and3 p0 with q | q | q | q <;> rcases own_and4 p0 with r | r
  · exact law_00 l Z a0 hw p0 p1 h n0 hn q r
  · exact law_01 l Z a0 hw p0 p1 h n0 hn q r
  · exact law_10 l Z a0 hw p0 p1 h n0 hn q r
  · exact law_11 l Z a0 hw p0 p1 h n0 hn q r
  · exact law_20 l Z a0 hw p0 p1 h n0 hn q r
  · exact law_21 l Z a0 hw p0 p1 h n0 hn q r
  · exact law_30 l Z a0 hw p0 p1 h n0 hn q r
  · exact law_31 l Z a0 hw p0 p1 h n0 hn q r
set_option maxRecDepth 65536 in
set_option maxHeartbeats 40000000 in
theorem comes_1 {Post : Tables → Env → Array Value → State → Outcome → State → Prop} (hpost : ∀ tb e args s v u, (limb_1_1.after args s (.returned v) u = true ∧ limb_1_2.after args s (.returned v) u = true ∧ True) → FrameEnd s (.returned v) u (Jvm.fieldLocs frame_1_writes args s ++ Jvm.arrayLocs frame_1_arrays args s ++ Jvm.staticLocs frame_1_statics s) 24 128 → Post tb e args s (.returned v) u) :
    ArmFor flags0 classFile x code maxLocals ret World_1 tables_1 room_1 Calls_1 rest_1 Pre_1 Post := by
  intro l hfl _ _ p e ha hc hk s m args below hf hA hF happ hP
  obtain ⟨hcalls, hrest, hpre⟩ := hP
  obtain ⟨-, -, -, hnamed, -, -, -, hat⟩ := (Spec.applies_iff hf).mp happ
  obtain ⟨hg, hn⟩ := and_e (Cond.before_iff.mp (show (Jvm.Cond.and given_1 narrow_1).before args s = true from hpre))
  obtain ⟨hcnt, hg1⟩ := and_e hg
  obtain ⟨k0, hh0⟩ := and_e hg1
  have k1 := hh0
  obtain ⟨w0, w1, rfl⟩ : ∃ w0 w1 : Value, args = #[w0, w1] := by
    have hs : args.size = 2 := by simpa [Cond.value, given_1] using hcnt
    obtain ⟨L⟩ := args
    match L, hs with
    | [w0, w1], _ => exact ⟨w0, w1, rfl⟩
  have hw := fun d (hd : d ∈ tables_1) => atoms_spec (ws := Jvm.Cond.code x code maxLocals ret :: tables_1) hat d (List.mem_cons_of_mem _ hd)
  have hfit : Fit s := fun {y c} hc i hi => by
    obtain ⟨ha, rfl⟩ := Array.getElem?_eq_some_iff.mp hc
    have q := List.all_eq_true.mp ((Array.all_eq_true_iff_forall_mem.mp hF) _ (Array.getElem_mem ha)) i (List.mem_range.mpr hi)
    simpa [Array.getElem?_eq_getElem hi] using q
  obtain ⟨i0, ei0⟩ := is_v k0
  obtain rfl : w0 = (.int i0) := Option.some.inj ei0
  obtain ⟨i1, ei1⟩ := is_v k1
  obtain rfl : w1 = (.int i1) := Option.some.inj ei1
  obtain ⟨n, o, h1, h2, h3, _, L, rfl, ⟨rfl, N⟩, hq⟩ := law_ok l s _ hw i0 i1 s.heap s.heap.size (Nat.le_refl _) p e ha hc hk s m _ below hf ((Spec.applies_iff_loose hf).mp happ).1 ⟨rfl, State.Warmed39.refl s, rfl⟩ trivial
  refine ⟨n, _, h1, h2, h3, hpost _ _ _ _ _ _ ⟨Cond.after_iff.mpr rfl, Cond.after_iff.mpr (eq_i res_at (Term.int_eval (1)) rfl), trivial⟩ ⟨hq.1, hq.2.1, (hq.2.2.sift fun y hy => Or.inr (N y hy)).mono (by decide) (by decide)⟩⟩
theorem main_1_1 : Claimed_1_1 := comes_1 fun _ _ _ _ _ _ h hF => ⟨h.1, hF⟩
theorem main_1_2 : Claimed_1_2 := comes_1 fun _ _ _ _ _ _ h hF => ⟨h.2.1, hF⟩
end Jvm.Pilot.@@N@@
namespace Jvm.Pilot.@@N@@
open Jvm Jvm.ClassFile Sem Op Lib Jvm.Free Jvm.Stand Jvm.Pilot.@@N@@.Jvm.D
/-! MADE BY PROGRAM (witnessworld.py) out of the Statement's table words and the real class files: 11 classes; the members and pool entries that the words name. The judged class is class 1, her method 2. -/
namespace start1
open Jvm.ClassFile
def u (s : String) : CpInfo := .utf8 (stringToUtf16 s)
/-- a pool by its gaps: so many unusable entries, then the entry; so many at the end -/
def gap : Nat → List CpInfo → List CpInfo
  | 0, r => r
  | n + 1, r => .unusable :: gap n r
def poolList (es : List (Nat × CpInfo)) (last : Nat) : List CpInfo := es.foldr (fun e r => gap e.1 (e.2 :: r)) (gap last [])
def pool (es : List (Nat × CpInfo)) (last : Nat) : Array CpInfo := ⟨poolList es last⟩
def fileOf (pool : Array CpInfo) (this : Nat) (attrs : Array Attribute := #[]) (ms : Array MethodInfo := #[]) (fl : Nat := 33) (sup : Nat := 0) (ifs : Array Nat := #[]) (fds : Array FieldInfo := #[]) : ClassFile where
  minorVersion := 0
  majorVersion := 65
  constantPool := pool
  accessFlags := fl
  thisClass := this
  superClass := sup
  interfaces := ifs
  fields := fds
  methods := ms
  attributes := attrs
def plain (name : String) (sup : Option ClassId) : Class where
  name := name
  kind := .ordinary
  loader := none
  accessFlags := 33
  super := sup
  interfaces := #[]
  cf := none
  fields := #[]
  methods := #[]
  instanceTypes := #[]
  staticTypes := #[]
  resolved := #[]
  callSites := []
  init := .initialized
  statics := none
  mirror := none

def pool0 : Array CpInfo := pool [(5, u "<init>"), (0, u "()V"), (1, .class_ 10), (1, u "java/lang/Object")] 113

def k0c0 : Code := { maxStack := 0, maxLocals := 1, code := object_method_1_code, exceptionTable := #[], attributes := #[] }
def k0m0 : Method := { name := "<init>", desc := "()V", sig := { parameters := [], returnType := none }, accessFlags := 1, code := some k0c0 }
/-- java/lang/Object -/
def k0 : Class := { plain "java/lang/Object" none with
  accessFlags := 33
  interfaces := #[]
  cf := some (fileOf pool0 8 #[] #[{ accessFlags := 1, nameIndex := 5, descriptorIndex := 6, attributes := #[] }] 33 0 #[] #[])
  fields := #[]
  methods := #[k0m0]
  instanceTypes := #[]
  staticTypes := #[]
  resolved := Array.replicate 124 none
  statics := none }

def pool1 : Array CpInfo := pool [(2, .class_ 4), (1, u "java/lang/Object"), (0, u "<init>"), (0, u "()V"), (0, .methodref 8 9), (0, .class_ 10), (0, .nameAndType 11 12), (0, u "com/example/eccentra/eccentra/GraphEdgeCountPinLaw"), (0, u "bit"), (0, u "(IIZ)I"), (0, .long 2), (1, .class_ 16), (0, u "com/example/eccentra/eccentra/Graph"), (0, .methodref 15 18), (0, .nameAndType 5 19), (0, u "([JZ[I[I[I[I)V"), (0, .methodref 15 21), (0, .nameAndType 22 23), (0, u "edgeCount"), (0, u "()I"), (3, u "law"), (0, u "(II)Z")] 6

def k1m0 : Method := { name := "<init>", desc := "()V", sig := { parameters := [], returnType := none }, accessFlags := 1, code := none }
def k1c1 : Code := { maxStack := 2, maxLocals := 3, code := method_2_code, exceptionTable := #[], attributes := #[] }
def k1m1 : Method := { name := "bit", desc := "(IIZ)I", sig := { parameters := [.int, .int, .boolean], returnType := some .int }, accessFlags := 10, code := some k1c1 }
def k1c2 : Code := { maxStack := 8, maxLocals := 25, code := code, exceptionTable := #[], attributes := #[] }
def k1m2 : Method := { name := "law", desc := "(II)Z", sig := { parameters := [.int, .int], returnType := some .boolean }, accessFlags := 9, code := some k1c2 }
/-- com/example/eccentra/eccentra/GraphEdgeCountPinLaw -/
def k1 : Class := { plain "com/example/eccentra/eccentra/GraphEdgeCountPinLaw" (some 0) with
  accessFlags := 49
  interfaces := #[]
  cf := some (fileOf pool1 8 #[] #[{ accessFlags := 1, nameIndex := 5, descriptorIndex := 6, attributes := #[] }, { accessFlags := 10, nameIndex := 11, descriptorIndex := 12, attributes := #[] }, { accessFlags := 9, nameIndex := 27, descriptorIndex := 28, attributes := #[] }] 49 2 #[] #[])
  fields := #[]
  methods := #[k1m0, k1m1, k1m2]
  instanceTypes := #[]
  staticTypes := #[]
  resolved := Array.replicate 35 none
  statics := none }

def pool2 : Array CpInfo := pool [(1, .methodref 2 3), (0, .class_ 4), (0, .nameAndType 5 6), (0, u "java/lang/Object"), (0, u "<init>"), (0, u "()V"), (0, .fieldref 8 9), (0, .class_ 10), (0, .nameAndType 11 12), (0, u "com/example/eccentra/eccentra/Graph"), (0, u "labels"), (0, u "[J"), (0, .fieldref 8 14), (0, .nameAndType 15 16), (0, u "directed"), (0, u "Z"), (0, .fieldref 8 18), (0, .nameAndType 19 20), (0, u "outOffsets"), (0, u "[I"), (0, .fieldref 8 22), (0, .nameAndType 23 20), (0, u "outTargets"), (0, .fieldref 8 25), (0, .nameAndType 26 20), (0, u "inOffsets"), (0, .fieldref 8 28), (0, .nameAndType 29 20), (0, u "inSources"), (27, u "([JZ[I[I[I[I)V"), (0, u "DROPPED"), (0, u "I"), (5, u "()I"), (2, u "edgeCount")] 34

def k2c0 : Code := { maxStack := 2, maxLocals := 7, code := prog_7_method_1_code, exceptionTable := #[], attributes := #[] }
def k2m0 : Method := { name := "<init>", desc := "([JZ[I[I[I[I)V", sig := { parameters := [(.array .long), .boolean, (.array .int), (.array .int), (.array .int), (.array .int)], returnType := none }, accessFlags := 0, code := some k2c0 }
def k2c1 : Code := { maxStack := 2, maxLocals := 2, code := prog_7_method_4_code, exceptionTable := #[], attributes := #[] }
def k2m1 : Method := { name := "edgeCount", desc := "()I", sig := { parameters := [], returnType := some .int }, accessFlags := 1, code := some k2c1 }
/-- com/example/eccentra/eccentra/Graph -/
def k2 : Class := { plain "com/example/eccentra/eccentra/Graph" (some 0) with
  accessFlags := 49
  interfaces := #[]
  cf := some (fileOf pool2 8 #[] #[{ accessFlags := 0, nameIndex := 5, descriptorIndex := 57, attributes := #[] }, { accessFlags := 1, nameIndex := 68, descriptorIndex := 65, attributes := #[] }] 49 2 #[] #[{ accessFlags := 26, nameIndex := 58, descriptorIndex := 59, attributes := #[] }, { accessFlags := 18, nameIndex := 11, descriptorIndex := 12, attributes := #[] }, { accessFlags := 18, nameIndex := 15, descriptorIndex := 16, attributes := #[] }, { accessFlags := 18, nameIndex := 19, descriptorIndex := 20, attributes := #[] }, { accessFlags := 18, nameIndex := 23, descriptorIndex := 20, attributes := #[] }, { accessFlags := 18, nameIndex := 26, descriptorIndex := 20, attributes := #[] }, { accessFlags := 18, nameIndex := 29, descriptorIndex := 20, attributes := #[] }])
  fields := #[{ name := "DROPPED", type := .int, accessFlags := 26, slot := 0, constantValue := 0 }, { name := "labels", type := (.array .long), accessFlags := 18, slot := 0, constantValue := 0 }, { name := "directed", type := .boolean, accessFlags := 18, slot := 1, constantValue := 0 }, { name := "outOffsets", type := (.array .int), accessFlags := 18, slot := 2, constantValue := 0 }, { name := "outTargets", type := (.array .int), accessFlags := 18, slot := 3, constantValue := 0 }, { name := "inOffsets", type := (.array .int), accessFlags := 18, slot := 4, constantValue := 0 }, { name := "inSources", type := (.array .int), accessFlags := 18, slot := 5, constantValue := 0 }]
  methods := #[k2m0, k2m1]
  instanceTypes := #[(.array .long), .boolean, (.array .int), (.array .int), (.array .int), (.array .int)]
  staticTypes := #[.int]
  resolved := Array.replicate 103 none
  statics := none }

def pool3 : Array CpInfo := pool [(1, u "java/lang/Cloneable"), (0, .class_ 1), (0, u "java/lang/Object"), (0, .class_ 3)] 3

/-- java/lang/Cloneable -/
def k3 : Class := { plain "java/lang/Cloneable" (some 0) with
  accessFlags := 1537
  interfaces := #[]
  cf := some (fileOf pool3 2 #[] #[] 1537 4 #[] #[])
  fields := #[]
  methods := #[]
  instanceTypes := #[]
  staticTypes := #[]
  resolved := Array.replicate 8 none
  statics := none }

def pool4 : Array CpInfo := pool [(1, u "java/io/Serializable"), (0, .class_ 1), (0, u "java/lang/Object"), (0, .class_ 3)] 3

/-- java/io/Serializable -/
def k4 : Class := { plain "java/io/Serializable" (some 0) with
  accessFlags := 1537
  interfaces := #[]
  cf := some (fileOf pool4 2 #[] #[] 1537 4 #[] #[])
  fields := #[]
  methods := #[]
  instanceTypes := #[]
  staticTypes := #[]
  resolved := Array.replicate 8 none
  statics := none }

/-- the primitive byte -/
def k5 : Class := { plain "byte" none with kind := .primitive 'B', accessFlags := 0x411 }
/-- [B -/
def k6 : Class := { plain "[B" (some 0) with kind := .array 5 .byte, interfaces := #[3, 4], accessFlags := 1041 }

/-- the primitive int -/
def k7 : Class := { plain "int" none with kind := .primitive 'I', accessFlags := 0x411 }
/-- [I -/
def k8 : Class := { plain "[I" (some 0) with kind := .array 7 .int, interfaces := #[3, 4], accessFlags := 1041 }

/-- the primitive long -/
def k9 : Class := { plain "long" none with kind := .primitive 'J', accessFlags := 0x411 }
/-- [J -/
def k10 : Class := { plain "[J" (some 0) with kind := .array 9 .long, interfaces := #[3, 4], accessFlags := 1041 }

def heap : Heap := #[]
def classes : Array Class := #[k0, k1, k2, k3, k4, k5, k6, k7, k8, k9, k10]
def interned : List (Array UInt16 × Addr) := []
def slotsUsed : Nat := 0
def theMethod : MethodId := ⟨1, 2⟩
def args0 : Array Value := #[.int 7, .int 9]
def aboutOver (below : List Frame) : State where
  vm := { classes := classes, interned := interned.toArray }
  heap := heap
  slotsUsed := slotsUsed
  threads := #[{ frames := .invoking theMethod args0 :: below }]
def below0 : List Frame := [.native { method := ⟨0, 0⟩, args := #[] }]
def about1 : State := aboutOver below0
def p0 : Program := .bare "" "" ""
def e0 : Env := launch0.env 0 0 0
theorem w_frames : about1.frames = Frame.invoking theMethod args0 :: below0 := rfl
set_option maxRecDepth 65536 in
theorem w_args : argsFit about1.vm theMethod args0 = true := by decide +kernel
set_option maxRecDepth 65536 in
theorem w_heap : heapFits about1 = true := by decide +kernel
set_option maxRecDepth 65536 in
theorem w_runnable : about1.curStatus? = some .runnable := by decide +kernel
set_option maxRecDepth 65536 in
theorem w_alone : about1.alone = true := by decide +kernel
set_option maxRecDepth 65536 in
theorem w_named : about1.methodNamed? x = some theMethod := by decide +kernel
set_option maxRecDepth 65536 in
theorem w_hears : about1.hears theMethod below0 = true := by decide +kernel
set_option maxRecDepth 65536 in
theorem w_ripe : about1.ripe theMethod args0 below0 = true := by decide +kernel
theorem w_running : about1.status = .running := rfl
set_option maxRecDepth 65536 in
theorem w_room : about1.hasRoom e0.platform room_1 = true :=
  launch0.hasRoom_least _ room_1 (by decide +kernel) (by decide +kernel) (by decide +kernel) (by decide +kernel) (by decide +kernel) (by decide +kernel)
theorem allAtoms_all (ts : List Jvm.Cond) (a : Array Jvm.Value) (st : Jvm.State) : (allAtoms ts).before a st = ts.all (fun c => c.before a st) := by
  induction ts with
  | nil => rfl
  | cons c t ih =>
    show (Jvm.Cond.and c (allAtoms t)).before a st = _
    rw [Jvm.Cond.before_and, ih, List.all_cons]
def words1 : List Jvm.Cond := Jvm.Cond.code x code maxLocals ret :: tables_1
/-- a 'code' word, met by the world's own term for the bytes: nothing is compared byte by byte -/
theorem code_word {y : MethodName} {bytes : ByteArray} {mx : Nat} {rt : Option FieldType} {a : Array Value} {s : State} {m : MethodId} {meth : Method} {c : Code} (h1 : s.methodNamed? y = some m) (h2 : s.vm.method? m = some meth) (h3 : meth.code = some c) (h4 : c.code = bytes)
    (h5 : (c.maxLocals == mx && c.exceptionTable.isEmpty && decide (c.maxStack ≤ mostOperands) && decide (meth.sig.returnType = rt) && !meth.locks && decide (parseMethodDescriptor y.desc = some meth.sig)) = true) : (Jvm.Cond.code y bytes mx rt).before a s = true := by
  simp only [Bool.and_eq_true, beq_iff_eq, Bool.not_eq_true', decide_eq_true_eq] at h5
  obtain ⟨⟨⟨⟨⟨g1, g2⟩, g3⟩, g4⟩, g5⟩, g6⟩ := h5
  simp [Cond.before, Cond.holds, Cond.value, h1, h2, h3, h4, g1, g2, g3, g4, g5, g6]
def isCode : Jvm.Cond → Bool
  | .code _ _ _ _ => true
  | _ => false
theorem all_split {L : List Jvm.Cond} {P : Jvm.Cond → Bool} (h1 : L.all (fun c => isCode c || P c) = true) (h2 : ∀ c ∈ L.filter isCode, P c = true) : L.all P = true := by
  refine List.all_eq_true.mpr fun c hc => ?_
  have h := List.all_eq_true.mp h1 c hc
  rcases Bool.eq_false_or_eq_true (isCode c) with hi | hi
  · exact h2 c (List.mem_filter.mpr ⟨hc, hi⟩)
  · simpa [hi] using h
set_option maxRecDepth 65536 in
theorem w_c0 : (Jvm.Cond.code x code maxLocals ret).before args0 about1 = true := code_word (m := ⟨1, 2⟩) (meth := k1m2) (c := k1c2) (by decide +kernel) rfl rfl rfl (by decide +kernel)
set_option maxRecDepth 65536 in
theorem w_c1 : (Jvm.Cond.code ({ cls := "com/example/eccentra/eccentra/GraphEdgeCountPinLaw", name := "bit", desc := "(IIZ)I" } : Jvm.MethodName) method_2_code (3 : Nat) (Option.some Jvm.ClassFile.FieldType.int)).before args0 about1 = true := code_word (m := ⟨1, 1⟩) (meth := k1m1) (c := k1c1) (by decide +kernel) rfl rfl rfl (by decide +kernel)
set_option maxRecDepth 65536 in
theorem w_c2 : (Jvm.Cond.code ({ cls := "com/example/eccentra/eccentra/Graph", name := "<init>", desc := "([JZ[I[I[I[I)V" } : Jvm.MethodName) prog_7_method_1_code (7 : Nat) (Option.none : Option Jvm.ClassFile.FieldType)).before args0 about1 = true := code_word (m := ⟨2, 0⟩) (meth := k2m0) (c := k2c0) (by decide +kernel) rfl rfl rfl (by decide +kernel)
set_option maxRecDepth 65536 in
theorem w_c3 : (Jvm.Cond.code ({ cls := "java/lang/Object", name := "<init>", desc := "()V" } : Jvm.MethodName) object_method_1_code (1 : Nat) (Option.none : Option Jvm.ClassFile.FieldType)).before args0 about1 = true := code_word (m := ⟨0, 0⟩) (meth := k0m0) (c := k0c0) (by decide +kernel) rfl rfl rfl (by decide +kernel)
set_option maxRecDepth 65536 in
theorem w_c4 : (Jvm.Cond.code ({ cls := "com/example/eccentra/eccentra/Graph", name := "edgeCount", desc := "()I" } : Jvm.MethodName) prog_7_method_4_code (2 : Nat) (Option.some Jvm.ClassFile.FieldType.int)).before args0 about1 = true := code_word (m := ⟨2, 1⟩) (meth := k2m1) (c := k2c1) (by decide +kernel) rfl rfl rfl (by decide +kernel)
def codes1 : List Jvm.Cond := [Jvm.Cond.code x code maxLocals ret, Jvm.Cond.code ({ cls := "com/example/eccentra/eccentra/GraphEdgeCountPinLaw", name := "bit", desc := "(IIZ)I" } : Jvm.MethodName) method_2_code (3 : Nat) (Option.some Jvm.ClassFile.FieldType.int), Jvm.Cond.code ({ cls := "com/example/eccentra/eccentra/Graph", name := "<init>", desc := "([JZ[I[I[I[I)V" } : Jvm.MethodName) prog_7_method_1_code (7 : Nat) (Option.none : Option Jvm.ClassFile.FieldType), Jvm.Cond.code ({ cls := "java/lang/Object", name := "<init>", desc := "()V" } : Jvm.MethodName) object_method_1_code (1 : Nat) (Option.none : Option Jvm.ClassFile.FieldType), Jvm.Cond.code ({ cls := "com/example/eccentra/eccentra/Graph", name := "edgeCount", desc := "()I" } : Jvm.MethodName) prog_7_method_4_code (2 : Nat) (Option.some Jvm.ClassFile.FieldType.int)]
set_option maxRecDepth 65536 in
theorem codes_eq : words1.filter isCode = codes1 := rfl
theorem w_codes : ∀ c ∈ words1.filter isCode, c.before args0 about1 = true := by
  rw [codes_eq]
  intro c hc
  simp only [codes1, List.mem_cons, List.not_mem_nil, or_false] at hc
  rcases hc with rfl | rfl | rfl | rfl | rfl
  · exact w_c0
  · exact w_c1
  · exact w_c2
  · exact w_c3
  · exact w_c4
set_option maxRecDepth 65536 in
theorem w_t1 : (words1.take 24).all (fun c => isCode c || c.before args0 about1) = true := by decide +kernel
set_option maxRecDepth 65536 in
theorem w_t2 : (words1.drop 24).all (fun c => isCode c || c.before args0 about1) = true := by decide +kernel
theorem w_tables : (allAtoms (Jvm.Cond.code x code maxLocals ret :: tables_1)).before args0 about1 = true := by
  rw [allAtoms_all]
  show words1.all (fun c => c.before args0 about1) = true
  refine all_split ?_ w_codes
  rw [← List.take_append_drop 24 words1, List.all_append, w_t1, w_t2]
  rfl
set_option maxRecDepth 65536 in
theorem w_case : (Jvm.Cond.and given_1 narrow_1).before args0 about1 = true := by decide +kernel
theorem w_applies : (headSpec (Jvm.Cond.code x code maxLocals ret :: tables_1) room_1).applies x e0.platform about1 = true :=
  (Spec.applies_iff w_frames).mpr ⟨w_running, w_runnable, w_alone, w_named, w_hears, w_ripe, w_room, w_tables⟩
theorem atStart : AtStart classFile x code maxLocals ret World_1 tables_1 room_1 Calls_1 rest_1 Pre_1 launch0 p0 e0 about1 theMethod args0 below0 :=
  ⟨lists_1, trivial, launch0.admits_env _ _ _, launch0.least_env, fairChoices_fair.cas, fairChoices_fair.clock, w_frames, w_args, w_heap, w_applies, trivial, trivial, w_case⟩
end start1
theorem witness_1 : WitnessClaimed_1 := ⟨start1.p0, start1.e0, start1.about1, start1.theMethod, start1.args0, start1.below0, start1.atStart⟩
end Jvm.Pilot.@@N@@
