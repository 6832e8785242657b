import JvmDerived
import JvmDerived.Pilot.@@N@@Statement
import JvmDerived.Pilot.@@N@@Code
set_option linter.unusedVariables false
set_option linter.unusedSimpArgs false
namespace Jvm.Wk
abbrev F4 := Fin 4
abbrev F2 := Fin 2
open Sem ClassFile Op Lib Jvm.Stand Jvm.Free Jvm.LawKit Jvm.RoadKit
/-- the array at a holds just these values -/
def Ary (Z : State) (h : Heap) (a : Addr) (ty : FieldType) (vs : List Value) : Prop :=
  ∃ c : Cell, Arr Z h a c ty ∧ c.slots.toList = vs ∧ (∀ v ∈ vs, fits ty v = true) ∧ vs.length < 2 ^ 31
def Endz (p : Program) (e : Env) (below : List Frame) (s : State) (R : Room) (n0 : Nat) (P : Option Value → Heap → Prop) (T : State) (g : JFrame) : Prop :=
  ∃ s₂ o, Steps p.tables e below (T.setTop g) s₂ ∧ s₂.status = .running ∧ Ended s₂ below o ∧ ∃ v L, o = .returned v ∧ (P v s₂.heap ∧ Fr n0 L) ∧ FrameEnd s o s₂ L R.cells R.slots
/-- from pc, with these locals, this stack and this heap, the body comes to its end, and P holds there -/
def W (l : Launch) (R : Room) (Z : State) (own nm : String) (bytes : ByteArray) (maxL : Nat) (ret : Option FieldType) (n0 : Nat) (P : Option Value → Heap → Prop) (h : Heap) (cells slots pc : Nat) (Ls : Array Slot) (st : List Value) : Prop :=
  ∀ (p : Program) (e : Env) (s : State) (m : MethodId) (args : Array Value) (below : List Frame) (meth : Method) (c : Code) (T : State) (locs : List Loc),
    p.tables.exec = Jvm.exec → Z.Warmed39 s.vm → c.code = bytes → c.maxLocals = maxL → s.vm.findClass own = some m.cls → meth.sig.returnType = ret → meth.locks = false → meth.name = nm → n0 ≤ s.heap.size →
    Stand p l e R s m args below meth c T locs cells slots → T.heap = h → Fr n0 locs → Endz p e below s R n0 P T (mkF m pc Ls st)
/-- a method's contract where it is called with these arguments over this heap -/
def ConW (ws : List Jvm.Cond) (l : Launch) (Z : State) (y : MethodName) (bytes : ByteArray) (maxL : Nat) (ret : Option FieldType) (rm : Room) (as : Array Value) (h : Heap) (n0 : Nat) (P : Option Value → Heap → Prop) : Prop :=
  MetFree l y (head1 (Jvm.Cond.code y bytes maxL ret :: ws) rm) (fun a U => a = as ∧ Z.Warmed39 U.vm ∧ U.heap = h) (fun _ _ _ _ _ => True) (fun _ U o U' => ∃ v L, o = .returned v ∧ (P v U'.heap ∧ Fr n0 L) ∧ FrameEnd U o U' L rm.cells rm.slots)
abbrev Con := ConW []
section Rules
variable {l : Launch} {R : Room} {Z : State} {own nm : String} {bytes : ByteArray} {maxL : Nat} {ret : Option FieldType} {n0 : Nat} {P : Option Value → Heap → Prop} {h : Heap} {cells slots pc : Nat} {Ls : Array Slot} {st : List Value} {a0 : Array Value}
theorem Endz.step {p : Program} {e : Env} {below : List Frame} {s : State} {T T' : State} {g g' : JFrame} (k : Endz p e below s R n0 P T' g') (f : ∀ t, Steps p.tables e below (T'.setTop g') t → Steps p.tables e below (T.setTop g) t) : Endz p e below s R n0 P T g := by
  obtain ⟨s₂, o, h1, h2⟩ := k
  exact ⟨s₂, o, f _ h1, h2⟩
theorem W.step {pc' : Nat} {Ls' : Array Slot} {st' : List Value} (k : W l R Z own nm bytes maxL ret n0 P h cells slots pc' Ls' st')
    (f : ∀ (p : Program) (e : Env) (s : State) (m : MethodId) (args : Array Value) (below : List Frame) (meth : Method) (c : Code) (T : State) (locs : List Loc), p.tables.exec = Jvm.exec → Z.Warmed39 s.vm → c.code = bytes → s.vm.findClass own = some m.cls → Stand p l e R s m args below meth c T locs cells slots → T.heap = h →
      ∀ t, Steps p.tables e below (T.setTop (mkF m pc' Ls' st')) t → Steps p.tables e below (T.setTop (mkF m pc Ls st)) t) : W l R Z own nm bytes maxL ret n0 P h cells slots pc Ls st := by
  intro p e s m args below meth c T locs hx hZ hby hml hown hret hlk hnm hn0 X eT N
  exact (k p e s m args below meth c T locs hx hZ hby hml hown hret hlk hnm hn0 X eT N).step (f p e s m args below meth c T locs hx hZ hby hown X eT)
theorem W.post {P' : Option Value → Heap → Prop} (k : W l R Z own nm bytes maxL ret n0 P' h cells slots pc Ls st) (f : ∀ v h', P' v h' → P v h') : W l R Z own nm bytes maxL ret n0 P h cells slots pc Ls st := by
  intro p e s m args below meth c T locs hx hZ hby hml hown hret hlk hnm hn0 X eT N
  obtain ⟨s₂, o, h1, h2, h3, v, L, h4, h5, h6⟩ := k p e s m args below meth c T locs hx hZ hby hml hown hret hlk hnm hn0 X eT N
  exact ⟨s₂, o, h1, h2, h3, v, L, h4, ⟨f _ _ h5.1, h5.2⟩, h6⟩
theorem W.mono {cells' slots' : Nat} (k : W l R Z own nm bytes maxL ret n0 P h cells' slots' pc Ls st) (hc : cells ≤ cells') (hs : slots ≤ slots') : W l R Z own nm bytes maxL ret n0 P h cells slots pc Ls st := by
  intro p e s m args below meth c T locs hx hZ hby hml hown hret hlk hnm hn0 X eT N
  exact k p e s m args below meth c T locs hx hZ hby hml hown hret hlk hnm hn0 { X with same := X.same.mono hc hs } eT N
theorem ConW.post {ws : List Jvm.Cond} {y : MethodName} {rm : Room} {as : Array Value} {P' : Option Value → Heap → Prop} (k : ConW ws l Z y bytes maxL ret rm as h n0 P') (f : ∀ v h', P' v h' → P v h') : ConW ws l Z y bytes maxL ret rm as h n0 P := by
  intro p e ha hc hk s m args below hf happ hP hK
  obtain ⟨n, o, h1, h2, h3, v, L, h4, h5, h6⟩ := k p e ha hc hk s m args below hf happ hP hK
  exact ⟨n, o, h1, h2, h3, v, L, h4, ⟨f _ _ h5.1, h5.2⟩, h6⟩
theorem ConW.of_W {ws : List Jvm.Cond} {y : MethodName} {rm : Room} {as : Array Value} (hy : plainFor y = true) (hn : n0 ≤ h.size) (hef : ∀ m, entryFrame m as maxL = mkF m 0 Ls []) (k : W l rm Z y.cls y.name bytes maxL ret n0 P h 0 0 0 Ls []) : ConW ws l Z y bytes maxL ret rm as h n0 P := by
  refine MetFree.of_bodySF hy hisR ?_
  intro p e s m args below meth c s₁ Bd hml0 hP hK
  obtain ⟨rfl, hZ, hh⟩ := hP
  have hown : s.vm.findClass y.cls = some m.cls := findClass_of_methodNamed Bd.named
  have hnm := (name_of_methodNamed Bd.named Bd.method).1
  have X0 : Stand p l e rm s m _ below meth c s₁ [] 0 0 := Stand.of_body Bd
  have e0 : s₁.heap = h := by rw [← hh, Bd.state]; rfl
  obtain ⟨s₂, o, h1, h2⟩ := k p e s m _ below meth c s₁ [] Bd.exec hZ Bd.bytes hml0 hown Bd.returns (BodyLoose.notSynchronized Bd) hnm (by rw [hh]; exact hn) X0 e0 (Fr.nil n0)
  exact ⟨s₂, o, castTop (hef m) h1, h2⟩
/-! pure steps -/
theorem W.iadd {x y : Int32} (n : Nat) (hd : decode bytes pc = .ok (.iadd, 1)) (hn : pc + 1 = n) (v : Int32) (hv : x + y = v) (k : W l R Z own nm bytes maxL ret n0 P h cells slots n Ls (.int v :: st)) : W l R Z own nm bytes maxL ret n0 P h cells slots pc Ls (.int y :: .int x :: st) := by
  subst hn
  exact k.step fun p e s m args below meth c T locs hx hZ hby hown X eT t q => XS.iadd X.here hx rfl (hb hby hd) rfl (hv ▸ q)
theorem W.ladd {x y : Int64} (n : Nat) (hd : decode bytes pc = .ok (.ladd, 1)) (hn : pc + 1 = n) (v : Int64) (hv : x + y = v) (k : W l R Z own nm bytes maxL ret n0 P h cells slots n Ls (.long v :: st)) : W l R Z own nm bytes maxL ret n0 P h cells slots pc Ls (.long y :: .long x :: st) := by
  subst hn
  exact k.step fun p e s m args below meth c T locs hx hZ hby hown X eT t q => XS.ladd X.here hx rfl (hb hby hd) rfl (hv ▸ q)
theorem W.isub {x y : Int32} (n : Nat) (hd : decode bytes pc = .ok (.isub, 1)) (hn : pc + 1 = n) (v : Int32) (hv : x - y = v) (k : W l R Z own nm bytes maxL ret n0 P h cells slots n Ls (.int v :: st)) : W l R Z own nm bytes maxL ret n0 P h cells slots pc Ls (.int y :: .int x :: st) := by
  subst hn
  exact k.step fun p e s m args below meth c T locs hx hZ hby hown X eT t q => XS.isub X.here hx rfl (hb hby hd) rfl (hv ▸ q)
theorem W.lsub {x y : Int64} (n : Nat) (hd : decode bytes pc = .ok (.lsub, 1)) (hn : pc + 1 = n) (v : Int64) (hv : x - y = v) (k : W l R Z own nm bytes maxL ret n0 P h cells slots n Ls (.long v :: st)) : W l R Z own nm bytes maxL ret n0 P h cells slots pc Ls (.long y :: .long x :: st) := by
  subst hn
  exact k.step fun p e s m args below meth c T locs hx hZ hby hown X eT t q => XS.lsub X.here hx rfl (hb hby hd) rfl (hv ▸ q)
theorem W.imul {x y : Int32} (n : Nat) (hd : decode bytes pc = .ok (.imul, 1)) (hn : pc + 1 = n) (v : Int32) (hv : x * y = v) (k : W l R Z own nm bytes maxL ret n0 P h cells slots n Ls (.int v :: st)) : W l R Z own nm bytes maxL ret n0 P h cells slots pc Ls (.int y :: .int x :: st) := by
  subst hn
  exact k.step fun p e s m args below meth c T locs hx hZ hby hown X eT t q => XS.imul X.here hx rfl (hb hby hd) rfl (hv ▸ q)
theorem W.lmul {x y : Int64} (n : Nat) (hd : decode bytes pc = .ok (.lmul, 1)) (hn : pc + 1 = n) (v : Int64) (hv : x * y = v) (k : W l R Z own nm bytes maxL ret n0 P h cells slots n Ls (.long v :: st)) : W l R Z own nm bytes maxL ret n0 P h cells slots pc Ls (.long y :: .long x :: st) := by
  subst hn
  exact k.step fun p e s m args below meth c T locs hx hZ hby hown X eT t q => XS.lmul X.here hx rfl (hb hby hd) rfl (hv ▸ q)
theorem W.iand {x y : Int32} (n : Nat) (hd : decode bytes pc = .ok (.iand, 1)) (hn : pc + 1 = n) (v : Int32) (hv : x &&& y = v) (k : W l R Z own nm bytes maxL ret n0 P h cells slots n Ls (.int v :: st)) : W l R Z own nm bytes maxL ret n0 P h cells slots pc Ls (.int y :: .int x :: st) := by
  subst hn
  exact k.step fun p e s m args below meth c T locs hx hZ hby hown X eT t q => XS.iand X.here hx rfl (hb hby hd) rfl (hv ▸ q)
theorem W.land {x y : Int64} (n : Nat) (hd : decode bytes pc = .ok (.land, 1)) (hn : pc + 1 = n) (v : Int64) (hv : x &&& y = v) (k : W l R Z own nm bytes maxL ret n0 P h cells slots n Ls (.long v :: st)) : W l R Z own nm bytes maxL ret n0 P h cells slots pc Ls (.long y :: .long x :: st) := by
  subst hn
  exact k.step fun p e s m args below meth c T locs hx hZ hby hown X eT t q => XS.land X.here hx rfl (hb hby hd) rfl (hv ▸ q)
theorem W.ior {x y : Int32} (n : Nat) (hd : decode bytes pc = .ok (.ior, 1)) (hn : pc + 1 = n) (v : Int32) (hv : x ||| y = v) (k : W l R Z own nm bytes maxL ret n0 P h cells slots n Ls (.int v :: st)) : W l R Z own nm bytes maxL ret n0 P h cells slots pc Ls (.int y :: .int x :: st) := by
  subst hn
  exact k.step fun p e s m args below meth c T locs hx hZ hby hown X eT t q => XS.ior X.here hx rfl (hb hby hd) rfl (hv ▸ q)
theorem W.lor {x y : Int64} (n : Nat) (hd : decode bytes pc = .ok (.lor, 1)) (hn : pc + 1 = n) (v : Int64) (hv : x ||| y = v) (k : W l R Z own nm bytes maxL ret n0 P h cells slots n Ls (.long v :: st)) : W l R Z own nm bytes maxL ret n0 P h cells slots pc Ls (.long y :: .long x :: st) := by
  subst hn
  exact k.step fun p e s m args below meth c T locs hx hZ hby hown X eT t q => XS.lor X.here hx rfl (hb hby hd) rfl (hv ▸ q)
theorem W.ixor {x y : Int32} (n : Nat) (hd : decode bytes pc = .ok (.ixor, 1)) (hn : pc + 1 = n) (v : Int32) (hv : x ^^^ y = v) (k : W l R Z own nm bytes maxL ret n0 P h cells slots n Ls (.int v :: st)) : W l R Z own nm bytes maxL ret n0 P h cells slots pc Ls (.int y :: .int x :: st) := by
  subst hn
  exact k.step fun p e s m args below meth c T locs hx hZ hby hown X eT t q => XS.ixor X.here hx rfl (hb hby hd) rfl (hv ▸ q)
theorem W.lxor {x y : Int64} (n : Nat) (hd : decode bytes pc = .ok (.lxor, 1)) (hn : pc + 1 = n) (v : Int64) (hv : x ^^^ y = v) (k : W l R Z own nm bytes maxL ret n0 P h cells slots n Ls (.long v :: st)) : W l R Z own nm bytes maxL ret n0 P h cells slots pc Ls (.long y :: .long x :: st) := by
  subst hn
  exact k.step fun p e s m args below meth c T locs hx hZ hby hown X eT t q => XS.lxor X.here hx rfl (hb hby hd) rfl (hv ▸ q)
theorem W.idiv {x y : Int32} (n : Nat) (hd : decode bytes pc = .ok (.idiv, 1)) (hn : pc + 1 = n) (hy : y ≠ 0) (v : Int32) (hv : x / y = v) (k : W l R Z own nm bytes maxL ret n0 P h cells slots n Ls (.int v :: st)) : W l R Z own nm bytes maxL ret n0 P h cells slots pc Ls (.int y :: .int x :: st) := by
  subst hn
  exact k.step fun p e s m args below meth c T locs hx hZ hby hown X eT t q => XS.idiv X.here hx rfl (hb hby hd) rfl hy (hv ▸ q)
theorem W.irem {x y : Int32} (n : Nat) (hd : decode bytes pc = .ok (.irem, 1)) (hn : pc + 1 = n) (hy : y ≠ 0) (v : Int32) (hv : x % y = v) (k : W l R Z own nm bytes maxL ret n0 P h cells slots n Ls (.int v :: st)) : W l R Z own nm bytes maxL ret n0 P h cells slots pc Ls (.int y :: .int x :: st) := by
  subst hn
  exact k.step fun p e s m args below meth c T locs hx hZ hby hown X eT t q => iremM X hx rfl (hb hby hd) rfl hy (hv ▸ q)
theorem W.ldiv {x y : Int64} (n : Nat) (hd : decode bytes pc = .ok (.ldiv, 1)) (hn : pc + 1 = n) (hy : y ≠ 0) (v : Int64) (hv : x / y = v) (k : W l R Z own nm bytes maxL ret n0 P h cells slots n Ls (.long v :: st)) : W l R Z own nm bytes maxL ret n0 P h cells slots pc Ls (.long y :: .long x :: st) := by
  subst hn
  exact k.step fun p e s m args below meth c T locs hx hZ hby hown X eT t q => XS.ldiv X.here hx rfl (hb hby hd) rfl hy (hv ▸ q)
theorem W.lrem {x y : Int64} (n : Nat) (hd : decode bytes pc = .ok (.lrem, 1)) (hn : pc + 1 = n) (hy : y ≠ 0) (v : Int64) (hv : x % y = v) (k : W l R Z own nm bytes maxL ret n0 P h cells slots n Ls (.long v :: st)) : W l R Z own nm bytes maxL ret n0 P h cells slots pc Ls (.long y :: .long x :: st) := by
  subst hn
  exact k.step fun p e s m args below meth c T locs hx hZ hby hown X eT t q => XS.lrem X.here hx rfl (hb hby hd) rfl hy ((lrem_mod x y).trans hv ▸ q)
theorem W.ishl {x y : Int32} (n : Nat) (hd : decode bytes pc = .ok (.ishl, 1)) (hn : pc + 1 = n) (v : Int32) (hv : x <<< (y &&& 31) = v) (k : W l R Z own nm bytes maxL ret n0 P h cells slots n Ls (.int v :: st)) : W l R Z own nm bytes maxL ret n0 P h cells slots pc Ls (.int y :: .int x :: st) := by
  subst hn
  exact k.step fun p e s m args below meth c T locs hx hZ hby hown X eT t q => XS.ishl X.here hx rfl (hb hby hd) rfl (hv ▸ q)
theorem W.ishr {x y : Int32} (n : Nat) (hd : decode bytes pc = .ok (.ishr, 1)) (hn : pc + 1 = n) (v : Int32) (hv : x >>> (y &&& 31) = v) (k : W l R Z own nm bytes maxL ret n0 P h cells slots n Ls (.int v :: st)) : W l R Z own nm bytes maxL ret n0 P h cells slots pc Ls (.int y :: .int x :: st) := by
  subst hn
  exact k.step fun p e s m args below meth c T locs hx hZ hby hown X eT t q => XS.ishr X.here hx rfl (hb hby hd) rfl (hv ▸ q)
theorem W.iushr {x y : Int32} (n : Nat) (hd : decode bytes pc = .ok (.iushr, 1)) (hn : pc + 1 = n) (v : Int32) (hv : (x.toUInt32 >>> (y &&& 31).toUInt32).toInt32 = v) (k : W l R Z own nm bytes maxL ret n0 P h cells slots n Ls (.int v :: st)) : W l R Z own nm bytes maxL ret n0 P h cells slots pc Ls (.int y :: .int x :: st) := by
  subst hn
  exact k.step fun p e s m args below meth c T locs hx hZ hby hown X eT t q => XS.iushr X.here hx rfl (hb hby hd) rfl (hv ▸ q)
theorem W.lshl {x : Int64} {y : Int32} (n : Nat) (hd : decode bytes pc = .ok (.lshl, 1)) (hn : pc + 1 = n) (v : Int64) (hv : x <<< (y &&& 0x3f).toInt64 = v) (k : W l R Z own nm bytes maxL ret n0 P h cells slots n Ls (.long v :: st)) : W l R Z own nm bytes maxL ret n0 P h cells slots pc Ls (.int y :: .long x :: st) := by
  subst hn
  exact k.step fun p e s m args below meth c T locs hx hZ hby hown X eT t q => XS.lshl X.here hx rfl (hb hby hd) rfl (hv ▸ q)
theorem W.lshr {x : Int64} {y : Int32} (n : Nat) (hd : decode bytes pc = .ok (.lshr, 1)) (hn : pc + 1 = n) (v : Int64) (hv : x >>> (y &&& 0x3f).toInt64 = v) (k : W l R Z own nm bytes maxL ret n0 P h cells slots n Ls (.long v :: st)) : W l R Z own nm bytes maxL ret n0 P h cells slots pc Ls (.int y :: .long x :: st) := by
  subst hn
  exact k.step fun p e s m args below meth c T locs hx hZ hby hown X eT t q => XS.lshr X.here hx rfl (hb hby hd) rfl (hv ▸ q)
theorem W.lushr {x : Int64} {y : Int32} (n : Nat) (hd : decode bytes pc = .ok (.lushr, 1)) (hn : pc + 1 = n) (v : Int64) (hv : (x.toUInt64 >>> (y &&& 0x3f).toInt64.toUInt64).toInt64 = v) (k : W l R Z own nm bytes maxL ret n0 P h cells slots n Ls (.long v :: st)) : W l R Z own nm bytes maxL ret n0 P h cells slots pc Ls (.int y :: .long x :: st) := by
  subst hn
  exact k.step fun p e s m args below meth c T locs hx hZ hby hown X eT t q => XS.lushr X.here hx rfl (hb hby hd) rfl (hv ▸ q)
theorem W.ineg {x : Int32} (n : Nat) (hd : decode bytes pc = .ok (.ineg, 1)) (hn : pc + 1 = n) (v : Int32) (hv : -x = v) (k : W l R Z own nm bytes maxL ret n0 P h cells slots n Ls (.int v :: st)) : W l R Z own nm bytes maxL ret n0 P h cells slots pc Ls (.int x :: st) := by
  subst hn
  exact k.step fun p e s m args below meth c T locs hx hZ hby hown X eT t q => XS.ineg X.here hx rfl (hb hby hd) rfl (hv ▸ q)
theorem W.lneg {x : Int64} (n : Nat) (hd : decode bytes pc = .ok (.lneg, 1)) (hn : pc + 1 = n) (v : Int64) (hv : -x = v) (k : W l R Z own nm bytes maxL ret n0 P h cells slots n Ls (.long v :: st)) : W l R Z own nm bytes maxL ret n0 P h cells slots pc Ls (.long x :: st) := by
  subst hn
  exact k.step fun p e s m args below meth c T locs hx hZ hby hown X eT t q => XS.lneg X.here hx rfl (hb hby hd) rfl (hv ▸ q)
theorem W.i2l {x : Int32} (n : Nat) (hd : decode bytes pc = .ok (.i2l, 1)) (hn : pc + 1 = n) (v : Int64) (hv : x.toInt64 = v) (k : W l R Z own nm bytes maxL ret n0 P h cells slots n Ls (.long v :: st)) : W l R Z own nm bytes maxL ret n0 P h cells slots pc Ls (.int x :: st) := by
  subst hn
  exact k.step fun p e s m args below meth c T locs hx hZ hby hown X eT t q => XS.i2l X.here hx rfl (hb hby hd) rfl (hv ▸ q)
theorem W.l2i {x : Int64} (n : Nat) (hd : decode bytes pc = .ok (.l2i, 1)) (hn : pc + 1 = n) (v : Int32) (hv : x.toInt32 = v) (k : W l R Z own nm bytes maxL ret n0 P h cells slots n Ls (.int v :: st)) : W l R Z own nm bytes maxL ret n0 P h cells slots pc Ls (.long x :: st) := by
  subst hn
  exact k.step fun p e s m args below meth c T locs hx hZ hby hown X eT t q => XS.l2i X.here hx rfl (hb hby hd) rfl (hv ▸ q)
theorem W.i2b {x : Int32} (n : Nat) (hd : decode bytes pc = .ok (.i2b, 1)) (hn : pc + 1 = n) (v : Int32) (hv : x.toInt8.toInt32 = v) (k : W l R Z own nm bytes maxL ret n0 P h cells slots n Ls (.int v :: st)) : W l R Z own nm bytes maxL ret n0 P h cells slots pc Ls (.int x :: st) := by
  subst hn
  exact k.step fun p e s m args below meth c T locs hx hZ hby hown X eT t q => XS.i2b X.here hx rfl (hb hby hd) rfl (hv ▸ q)
theorem W.i2s {x : Int32} (n : Nat) (hd : decode bytes pc = .ok (.i2s, 1)) (hn : pc + 1 = n) (v : Int32) (hv : x.toInt16.toInt32 = v) (k : W l R Z own nm bytes maxL ret n0 P h cells slots n Ls (.int v :: st)) : W l R Z own nm bytes maxL ret n0 P h cells slots pc Ls (.int x :: st) := by
  subst hn
  exact k.step fun p e s m args below meth c T locs hx hZ hby hown X eT t q => XS.i2s X.here hx rfl (hb hby hd) rfl (hv ▸ q)
theorem W.i2c {x : Int32} (n : Nat) (hd : decode bytes pc = .ok (.i2c, 1)) (hn : pc + 1 = n) (v : Int32) (hv : x.toUInt32.toUInt16.toUInt32.toInt32 = v) (k : W l R Z own nm bytes maxL ret n0 P h cells slots n Ls (.int v :: st)) : W l R Z own nm bytes maxL ret n0 P h cells slots pc Ls (.int x :: st) := by
  subst hn
  exact k.step fun p e s m args below meth c T locs hx hZ hby hown X eT t q => XS.i2c X.here hx rfl (hb hby hd) rfl (hv ▸ q)
theorem W.lcmp {x y : Int64} (n : Nat) (hd : decode bytes pc = .ok (.lcmp, 1)) (hn : pc + 1 = n) (v : Int32) (hv : lcmpW x y = v) (k : W l R Z own nm bytes maxL ret n0 P h cells slots n Ls (.int v :: st)) : W l R Z own nm bytes maxL ret n0 P h cells slots pc Ls (.long y :: .long x :: st) := by
  subst hn
  exact k.step fun p e s m args below meth c T locs hx hZ hby hown X eT t q => XS.lcmp X.here hx rfl (hb hby hd) rfl ((show (if x > y then 1 else if x = y then 0 else -1) = v from hv) ▸ q)
theorem W.iconst {i : Int} (n : Nat) (hd : decode bytes pc = .ok (.iconst i, 1)) (hn : pc + 1 = n) (v : Int32) (hv : Int32.ofInt i = v) (k : W l R Z own nm bytes maxL ret n0 P h cells slots n Ls (.int v :: st)) : W l R Z own nm bytes maxL ret n0 P h cells slots pc Ls st := by
  subst hn
  exact k.step fun p e s m args below meth c T locs hx hZ hby hown X eT t q => XS.iconst X.here hx rfl (hb hby hd) (hv ▸ q)
theorem W.bipush {i : Int} (n : Nat) (hd : decode bytes pc = .ok (.bipush i, 2)) (hn : pc + 2 = n) (v : Int32) (hv : (Int8.ofInt i).toInt32 = v) (k : W l R Z own nm bytes maxL ret n0 P h cells slots n Ls (.int v :: st)) : W l R Z own nm bytes maxL ret n0 P h cells slots pc Ls st := by
  subst hn
  exact k.step fun p e s m args below meth c T locs hx hZ hby hown X eT t q => XS.bipush X.here hx rfl (hb hby hd) (hv ▸ q)
theorem W.sipush {i : Int} (n : Nat) (hd : decode bytes pc = .ok (.sipush i, 3)) (hn : pc + 3 = n) (v : Int32) (hv : (Int16.ofInt i).toInt32 = v) (k : W l R Z own nm bytes maxL ret n0 P h cells slots n Ls (.int v :: st)) : W l R Z own nm bytes maxL ret n0 P h cells slots pc Ls st := by
  subst hn
  exact k.step fun p e s m args below meth c T locs hx hZ hby hown X eT t q => XS.sipush X.here hx rfl (hb hby hd) (hv ▸ q)
theorem W.lconst {i : F2} (n : Nat) (hd : decode bytes pc = .ok (.lconst i, 1)) (hn : pc + 1 = n) (v : Int64) (hv : Int64.ofNat i = v) (k : W l R Z own nm bytes maxL ret n0 P h cells slots n Ls (.long v :: st)) : W l R Z own nm bytes maxL ret n0 P h cells slots pc Ls st := by
  subst hn
  exact k.step fun p e s m args below meth c T locs hx hZ hby hown X eT t q => XS.lconst X.here hx rfl (hb hby hd) (hv ▸ q)
theorem W.aconst_null (n : Nat) (hd : decode bytes pc = .ok (.aconst_null, 1)) (hn : pc + 1 = n) (k : W l R Z own nm bytes maxL ret n0 P h cells slots n Ls (.null :: st)) : W l R Z own nm bytes maxL ret n0 P h cells slots pc Ls st := by
  subst hn
  exact k.step fun p e s m args below meth c T locs hx hZ hby hown X eT t q => XS.aconstNull X.here hx rfl (hb hby hd) q
theorem W.ldcI {i : Nat} {v : Int32} (n : Nat) (hd : decode bytes pc = .ok (.ldc i, 2)) (hn : pc + 2 = n) (w : (Jvm.Cond.constant own i v).before a0 Z = true) (k : W l R Z own nm bytes maxL ret n0 P h cells slots n Ls (.int v :: st)) : W l R Z own nm bytes maxL ret n0 P h cells slots pc Ls st := by
  subst hn
  exact k.step fun p e s m args below meth c T locs hx hZ hby hown X eT t q => X.ldcI hx hown (mvT hZ w) rfl (hb hby hd) q
theorem W.ldcWI {i : Nat} {v : Int32} (n : Nat) (hd : decode bytes pc = .ok (.ldc_w i, 3)) (hn : pc + 3 = n) (w : (Jvm.Cond.constant own i v).before a0 Z = true) (k : W l R Z own nm bytes maxL ret n0 P h cells slots n Ls (.int v :: st)) : W l R Z own nm bytes maxL ret n0 P h cells slots pc Ls st := by
  subst hn
  exact k.step fun p e s m args below meth c T locs hx hZ hby hown X eT t q => X.ldcWI hx hown (mvT hZ w) rfl (hb hby hd) q
theorem W.ldc2J {i : Nat} {v : Int64} (n : Nat) (hd : decode bytes pc = .ok (.ldc2_w i, 3)) (hn : pc + 3 = n) (w : (Jvm.Cond.constantLong own i v).before a0 Z = true) (k : W l R Z own nm bytes maxL ret n0 P h cells slots n Ls (.long v :: st)) : W l R Z own nm bytes maxL ret n0 P h cells slots pc Ls st := by
  subst hn
  exact k.step fun p e s m args below meth c T locs hx hZ hby hown X eT t q => X.ldc2J hx hown (mvT hZ w) rfl (hb hby hd) q
theorem W.ldcF {i : Nat} {v : UInt32} (n : Nat) (hd : decode bytes pc = .ok (.ldc i, 2)) (hn : pc + 2 = n) (w : (Jvm.Cond.constantFloat own i v).before a0 Z = true) (k : W l R Z own nm bytes maxL ret n0 P h cells slots n Ls (.float v :: st)) : W l R Z own nm bytes maxL ret n0 P h cells slots pc Ls st := by
  subst hn
  exact k.step fun p e s m args below meth c T locs hx hZ hby hown X eT t q => X.ldcFloatC hx hown (mvT hZ w) (g := mkF m pc Ls st) rfl (hb hby hd) t q
theorem W.ldcR {i : Nat} {text : String} {a : Addr} (n : Nat) (hd : decode bytes pc = .ok (.ldc i, 2)) (hn : pc + 2 = n) (w : (Jvm.Cond.stringRef own i text).before a0 Z = true) (L : RoadKit.Lit Z own i a) (k : W l R Z own nm bytes maxL ret n0 P h cells slots n Ls (.ref a :: st)) : W l R Z own nm bytes maxL ret n0 P h cells slots pc Ls st := by
  subst hn
  exact k.step fun p e s m args below meth c T locs hx hZ hby hown X eT t q => RoadKit.ldcR X hx hZ hown w L (g := mkF m pc Ls st) rfl (hb hby hd) t q
theorem W.iload {i : Nat} {v : Int32} (n : Nat) (hd : decode bytes pc = .ok (.iload i, 2)) (hn : pc + 2 = n) (hl : Ls[i]? = some (.val (.int v))) (k : W l R Z own nm bytes maxL ret n0 P h cells slots n Ls (.int v :: st)) : W l R Z own nm bytes maxL ret n0 P h cells slots pc Ls st := by
  subst hn
  exact k.step fun p e s m args below meth c T locs hx hZ hby hown X eT t q => XS.iload X.here hx rfl (hb hby hd) hl q
theorem W.iloadN {i : F4} {v : Int32} (n : Nat) (hd : decode bytes pc = .ok (.iload_n i, 1)) (hn : pc + 1 = n) (hl : Ls[i.val]? = some (.val (.int v))) (k : W l R Z own nm bytes maxL ret n0 P h cells slots n Ls (.int v :: st)) : W l R Z own nm bytes maxL ret n0 P h cells slots pc Ls st := by
  subst hn
  exact k.step fun p e s m args below meth c T locs hx hZ hby hown X eT t q => XS.iloadN X.here hx rfl (hb hby hd) hl q
theorem W.lload {i : Nat} {v : Int64} (n : Nat) (hd : decode bytes pc = .ok (.lload i, 2)) (hn : pc + 2 = n) (hl : Ls[i]? = some (.val (.long v))) (k : W l R Z own nm bytes maxL ret n0 P h cells slots n Ls (.long v :: st)) : W l R Z own nm bytes maxL ret n0 P h cells slots pc Ls st := by
  subst hn
  exact k.step fun p e s m args below meth c T locs hx hZ hby hown X eT t q => XS.lload X.here hx rfl (hb hby hd) hl q
theorem W.lloadN {i : F4} {v : Int64} (n : Nat) (hd : decode bytes pc = .ok (.lload_n i, 1)) (hn : pc + 1 = n) (hl : Ls[i.val]? = some (.val (.long v))) (k : W l R Z own nm bytes maxL ret n0 P h cells slots n Ls (.long v :: st)) : W l R Z own nm bytes maxL ret n0 P h cells slots pc Ls st := by
  subst hn
  exact k.step fun p e s m args below meth c T locs hx hZ hby hown X eT t q => XS.lloadN X.here hx rfl (hb hby hd) hl q
theorem W.aload {i : Nat} {v : Value} (n : Nat) (hd : decode bytes pc = .ok (.aload i, 2)) (hn : pc + 2 = n) (hl : Ls[i]? = some (.val v)) (hv : v.isRef = true) (k : W l R Z own nm bytes maxL ret n0 P h cells slots n Ls (v :: st)) : W l R Z own nm bytes maxL ret n0 P h cells slots pc Ls st := by
  subst hn
  exact k.step fun p e s m args below meth c T locs hx hZ hby hown X eT t q => XS.aload X.here hx rfl (hb hby hd) hl hv q
theorem W.aloadN {i : F4} {v : Value} (n : Nat) (hd : decode bytes pc = .ok (.aload_n i, 1)) (hn : pc + 1 = n) (hl : Ls[i.val]? = some (.val v)) (hv : v.isRef = true) (k : W l R Z own nm bytes maxL ret n0 P h cells slots n Ls (v :: st)) : W l R Z own nm bytes maxL ret n0 P h cells slots pc Ls st := by
  subst hn
  exact k.step fun p e s m args below meth c T locs hx hZ hby hown X eT t q => XS.aloadN X.here hx rfl (hb hby hd) hl hv q
theorem W.istore {i : Nat} {v : Int32} (n : Nat) (hd : decode bytes pc = .ok (.istore i, 2)) (hn : pc + 2 = n) (Ls' : Array Slot) (hl : storeLocals Ls i (.int v) = some Ls') (k : W l R Z own nm bytes maxL ret n0 P h cells slots n Ls' st) : W l R Z own nm bytes maxL ret n0 P h cells slots pc Ls (.int v :: st) := by
  subst hn
  exact k.step fun p e s m args below meth c T locs hx hZ hby hown X eT t q => XS.istore X.here hx rfl (hb hby hd) rfl hl q
theorem W.istoreN {i : F4} {v : Int32} (n : Nat) (hd : decode bytes pc = .ok (.istore_n i, 1)) (hn : pc + 1 = n) (Ls' : Array Slot) (hl : storeLocals Ls i.val (.int v) = some Ls') (k : W l R Z own nm bytes maxL ret n0 P h cells slots n Ls' st) : W l R Z own nm bytes maxL ret n0 P h cells slots pc Ls (.int v :: st) := by
  subst hn
  exact k.step fun p e s m args below meth c T locs hx hZ hby hown X eT t q => XS.istoreN X.here hx rfl (hb hby hd) rfl hl q
theorem W.lstore {i : Nat} {v : Int64} (n : Nat) (hd : decode bytes pc = .ok (.lstore i, 2)) (hn : pc + 2 = n) (Ls' : Array Slot) (hl : storeLocals Ls i (.long v) = some Ls') (k : W l R Z own nm bytes maxL ret n0 P h cells slots n Ls' st) : W l R Z own nm bytes maxL ret n0 P h cells slots pc Ls (.long v :: st) := by
  subst hn
  exact k.step fun p e s m args below meth c T locs hx hZ hby hown X eT t q => XS.lstore X.here hx rfl (hb hby hd) rfl hl q
theorem W.lstoreN {i : F4} {v : Int64} (n : Nat) (hd : decode bytes pc = .ok (.lstore_n i, 1)) (hn : pc + 1 = n) (Ls' : Array Slot) (hl : storeLocals Ls i.val (.long v) = some Ls') (k : W l R Z own nm bytes maxL ret n0 P h cells slots n Ls' st) : W l R Z own nm bytes maxL ret n0 P h cells slots pc Ls (.long v :: st) := by
  subst hn
  exact k.step fun p e s m args below meth c T locs hx hZ hby hown X eT t q => XS.lstoreN X.here hx rfl (hb hby hd) rfl hl q
theorem W.astore {i : Nat} {v : Value} (n : Nat) (hd : decode bytes pc = .ok (.astore i, 2)) (hn : pc + 2 = n) (hv : v.isRef = true) (Ls' : Array Slot) (hl : storeLocals Ls i v = some Ls') (k : W l R Z own nm bytes maxL ret n0 P h cells slots n Ls' st) : W l R Z own nm bytes maxL ret n0 P h cells slots pc Ls (v :: st) := by
  subst hn
  exact k.step fun p e s m args below meth c T locs hx hZ hby hown X eT t q => XS.astore X.here hx rfl (hb hby hd) rfl hv hl q
theorem W.astoreN {i : F4} {v : Value} (n : Nat) (hd : decode bytes pc = .ok (.astore_n i, 1)) (hn : pc + 1 = n) (hv : v.isRef = true) (Ls' : Array Slot) (hl : storeLocals Ls i.val v = some Ls') (k : W l R Z own nm bytes maxL ret n0 P h cells slots n Ls' st) : W l R Z own nm bytes maxL ret n0 P h cells slots pc Ls (v :: st) := by
  subst hn
  exact k.step fun p e s m args below meth c T locs hx hZ hby hown X eT t q => XS.astoreN X.here hx rfl (hb hby hd) rfl hv hl q
theorem W.iinc {i : Nat} {cst : Int} {x : Int32} (n : Nat) (hd : decode bytes pc = .ok (.iinc i cst, 3)) (hn : pc + 3 = n) (hx0 : Ls[i]? = some (.val (.int x))) (v : Int32) (hv : x + Int32.ofInt cst = v) (Ls' : Array Slot) (hl : storeLocals Ls i (.int v) = some Ls') (k : W l R Z own nm bytes maxL ret n0 P h cells slots n Ls' st) : W l R Z own nm bytes maxL ret n0 P h cells slots pc Ls st := by
  subst hn
  exact k.step fun p e s m args below meth c T locs hx hZ hby hown X eT t q => XS.iinc X.here hx rfl (hb hby hd) hx0 (hv ▸ hl) q
theorem W.dup {v : Value} (n : Nat) (hd : decode bytes pc = .ok (.dup, 1)) (hn : pc + 1 = n) (hc : v.category = 1) (k : W l R Z own nm bytes maxL ret n0 P h cells slots n Ls (v :: v :: st)) : W l R Z own nm bytes maxL ret n0 P h cells slots pc Ls (v :: st) := by
  subst hn
  exact k.step fun p e s m args below meth c T locs hx hZ hby hown X eT t q => XS.dup X.here hx rfl (hb hby hd) rfl hc q
theorem W.pop1 {v : Value} (n : Nat) (hd : decode bytes pc = .ok (.pop, 1)) (hn : pc + 1 = n) (hc : v.category = 1) (k : W l R Z own nm bytes maxL ret n0 P h cells slots n Ls st) : W l R Z own nm bytes maxL ret n0 P h cells slots pc Ls (v :: st) := by
  subst hn
  exact k.step fun p e s m args below meth c T locs hx hZ hby hown X eT t q => XS.pop X.here hx rfl (hb hby hd) rfl hc q
theorem W.dup_x1 {v w : Value} (n : Nat) (hd : decode bytes pc = .ok (.dup_x1, 1)) (hn : pc + 1 = n) (hc : v.category = 1) (hc' : w.category = 1) (k : W l R Z own nm bytes maxL ret n0 P h cells slots n Ls (v :: w :: v :: st)) : W l R Z own nm bytes maxL ret n0 P h cells slots pc Ls (v :: w :: st) := by
  subst hn
  exact k.step fun p e s m args below meth c T locs hx hZ hby hown X eT t q => XS.dupX1 X.here hx rfl (hb hby hd) rfl hc hc' q
theorem W.dup2 {v w : Value} (n : Nat) (hd : decode bytes pc = .ok (.dup2, 1)) (hn : pc + 1 = n) (hc : v.category = 1) (hc' : w.category = 1) (k : W l R Z own nm bytes maxL ret n0 P h cells slots n Ls (v :: w :: v :: w :: st)) : W l R Z own nm bytes maxL ret n0 P h cells slots pc Ls (v :: w :: st) := by
  subst hn
  exact k.step fun p e s m args below meth c T locs hx hZ hby hown X eT t q => XT.dup2 X.here hx rfl (hb hby hd) rfl hc hc' q
theorem W.goto {o : Int} (n : Nat) (hd : decode bytes pc = .ok (.goto o, 3)) (hn : (pc : Int) + o = (n : Int)) (k : W l R Z own nm bytes maxL ret n0 P h cells slots n Ls st) : W l R Z own nm bytes maxL ret n0 P h cells slots pc Ls st :=
  k.step fun p e s m args below meth c T locs hx hZ hby hown X eT t q => XS.goto X.here hx rfl (pc0 := pc) (pc' := n) rfl (hb hby hd) (by omega) (by omega) q
theorem W.icmp_lt {x y : Int32} {o : Int} (n n' : Nat) (hd : decode bytes pc = .ok (.if_icmp .lt o, 3)) (hn : (pc : Int) + o = (n : Int)) (hn' : pc + 3 = n') (k : x < y → W l R Z own nm bytes maxL ret n0 P h cells slots n Ls st) (k' : ¬ x < y → W l R Z own nm bytes maxL ret n0 P h cells slots n' Ls st) : W l R Z own nm bytes maxL ret n0 P h cells slots pc Ls (.int y :: .int x :: st) := by
  subst hn'
  by_cases hc : x < y
  · exact (k hc).step fun p e s m args below meth c T locs hx hZ hby hown X eT t q => XS.icmpYes X.here hx rfl (pc0 := pc) (pc' := n) rfl (hb hby hd) rfl (tlt hc).1 (by omega) (by omega) q
  · exact (k' hc).step fun p e s m args below meth c T locs hx hZ hby hown X eT t q => XS.icmpNo X.here hx rfl (hb hby hd) rfl (flt hc).1 q
theorem W.if_lt {x : Int32} {o : Int} (n n' : Nat) (hd : decode bytes pc = .ok (.ifCond .lt o, 3)) (hn : (pc : Int) + o = (n : Int)) (hn' : pc + 3 = n') (k : x < (0 : Int32) → W l R Z own nm bytes maxL ret n0 P h cells slots n Ls st) (k' : ¬ x < (0 : Int32) → W l R Z own nm bytes maxL ret n0 P h cells slots n' Ls st) : W l R Z own nm bytes maxL ret n0 P h cells slots pc Ls (.int x :: st) := by
  subst hn'
  by_cases hc : x < (0 : Int32)
  · exact (k hc).step fun p e s m args below meth c T locs hx hZ hby hown X eT t q => XS.ifYes X.here hx rfl (pc0 := pc) (pc' := n) rfl (hb hby hd) rfl ((if0 _ _).trans (tlt hc).1) (by omega) (by omega) q
  · exact (k' hc).step fun p e s m args below meth c T locs hx hZ hby hown X eT t q => XS.ifNo X.here hx rfl (hb hby hd) rfl ((if0 _ _).trans (flt hc).1) q
theorem W.icmp_ge {x y : Int32} {o : Int} (n n' : Nat) (hd : decode bytes pc = .ok (.if_icmp .ge o, 3)) (hn : (pc : Int) + o = (n : Int)) (hn' : pc + 3 = n') (k : ¬ x < y → W l R Z own nm bytes maxL ret n0 P h cells slots n Ls st) (k' : x < y → W l R Z own nm bytes maxL ret n0 P h cells slots n' Ls st) : W l R Z own nm bytes maxL ret n0 P h cells slots pc Ls (.int y :: .int x :: st) := by
  subst hn'
  by_cases hc : x < y
  · exact (k' hc).step fun p e s m args below meth c T locs hx hZ hby hown X eT t q => XS.icmpNo X.here hx rfl (hb hby hd) rfl (tlt hc).2.1 q
  · exact (k hc).step fun p e s m args below meth c T locs hx hZ hby hown X eT t q => XS.icmpYes X.here hx rfl (pc0 := pc) (pc' := n) rfl (hb hby hd) rfl (flt hc).2.1 (by omega) (by omega) q
theorem W.if_ge {x : Int32} {o : Int} (n n' : Nat) (hd : decode bytes pc = .ok (.ifCond .ge o, 3)) (hn : (pc : Int) + o = (n : Int)) (hn' : pc + 3 = n') (k : ¬ x < (0 : Int32) → W l R Z own nm bytes maxL ret n0 P h cells slots n Ls st) (k' : x < (0 : Int32) → W l R Z own nm bytes maxL ret n0 P h cells slots n' Ls st) : W l R Z own nm bytes maxL ret n0 P h cells slots pc Ls (.int x :: st) := by
  subst hn'
  by_cases hc : x < (0 : Int32)
  · exact (k' hc).step fun p e s m args below meth c T locs hx hZ hby hown X eT t q => XS.ifNo X.here hx rfl (hb hby hd) rfl ((if0 _ _).trans (tlt hc).2.1) q
  · exact (k hc).step fun p e s m args below meth c T locs hx hZ hby hown X eT t q => XS.ifYes X.here hx rfl (pc0 := pc) (pc' := n) rfl (hb hby hd) rfl ((if0 _ _).trans (flt hc).2.1) (by omega) (by omega) q
theorem W.icmp_gt {x y : Int32} {o : Int} (n n' : Nat) (hd : decode bytes pc = .ok (.if_icmp .gt o, 3)) (hn : (pc : Int) + o = (n : Int)) (hn' : pc + 3 = n') (k : y < x → W l R Z own nm bytes maxL ret n0 P h cells slots n Ls st) (k' : ¬ y < x → W l R Z own nm bytes maxL ret n0 P h cells slots n' Ls st) : W l R Z own nm bytes maxL ret n0 P h cells slots pc Ls (.int y :: .int x :: st) := by
  subst hn'
  by_cases hc : y < x
  · exact (k hc).step fun p e s m args below meth c T locs hx hZ hby hown X eT t q => XS.icmpYes X.here hx rfl (pc0 := pc) (pc' := n) rfl (hb hby hd) rfl (tlt hc).2.2.1 (by omega) (by omega) q
  · exact (k' hc).step fun p e s m args below meth c T locs hx hZ hby hown X eT t q => XS.icmpNo X.here hx rfl (hb hby hd) rfl (flt hc).2.2.1 q
theorem W.if_gt {x : Int32} {o : Int} (n n' : Nat) (hd : decode bytes pc = .ok (.ifCond .gt o, 3)) (hn : (pc : Int) + o = (n : Int)) (hn' : pc + 3 = n') (k : (0 : Int32) < x → W l R Z own nm bytes maxL ret n0 P h cells slots n Ls st) (k' : ¬ (0 : Int32) < x → W l R Z own nm bytes maxL ret n0 P h cells slots n' Ls st) : W l R Z own nm bytes maxL ret n0 P h cells slots pc Ls (.int x :: st) := by
  subst hn'
  by_cases hc : (0 : Int32) < x
  · exact (k hc).step fun p e s m args below meth c T locs hx hZ hby hown X eT t q => XS.ifYes X.here hx rfl (pc0 := pc) (pc' := n) rfl (hb hby hd) rfl ((if0 _ _).trans (tlt hc).2.2.1) (by omega) (by omega) q
  · exact (k' hc).step fun p e s m args below meth c T locs hx hZ hby hown X eT t q => XS.ifNo X.here hx rfl (hb hby hd) rfl ((if0 _ _).trans (flt hc).2.2.1) q
theorem W.icmp_le {x y : Int32} {o : Int} (n n' : Nat) (hd : decode bytes pc = .ok (.if_icmp .le o, 3)) (hn : (pc : Int) + o = (n : Int)) (hn' : pc + 3 = n') (k : ¬ y < x → W l R Z own nm bytes maxL ret n0 P h cells slots n Ls st) (k' : y < x → W l R Z own nm bytes maxL ret n0 P h cells slots n' Ls st) : W l R Z own nm bytes maxL ret n0 P h cells slots pc Ls (.int y :: .int x :: st) := by
  subst hn'
  by_cases hc : y < x
  · exact (k' hc).step fun p e s m args below meth c T locs hx hZ hby hown X eT t q => XS.icmpNo X.here hx rfl (hb hby hd) rfl (tlt hc).2.2.2 q
  · exact (k hc).step fun p e s m args below meth c T locs hx hZ hby hown X eT t q => XS.icmpYes X.here hx rfl (pc0 := pc) (pc' := n) rfl (hb hby hd) rfl (flt hc).2.2.2 (by omega) (by omega) q
theorem W.if_le {x : Int32} {o : Int} (n n' : Nat) (hd : decode bytes pc = .ok (.ifCond .le o, 3)) (hn : (pc : Int) + o = (n : Int)) (hn' : pc + 3 = n') (k : ¬ (0 : Int32) < x → W l R Z own nm bytes maxL ret n0 P h cells slots n Ls st) (k' : (0 : Int32) < x → W l R Z own nm bytes maxL ret n0 P h cells slots n' Ls st) : W l R Z own nm bytes maxL ret n0 P h cells slots pc Ls (.int x :: st) := by
  subst hn'
  by_cases hc : (0 : Int32) < x
  · exact (k' hc).step fun p e s m args below meth c T locs hx hZ hby hown X eT t q => XS.ifNo X.here hx rfl (hb hby hd) rfl ((if0 _ _).trans (tlt hc).2.2.2) q
  · exact (k hc).step fun p e s m args below meth c T locs hx hZ hby hown X eT t q => XS.ifYes X.here hx rfl (pc0 := pc) (pc' := n) rfl (hb hby hd) rfl ((if0 _ _).trans (flt hc).2.2.2) (by omega) (by omega) q
theorem W.icmp_eq {x y : Int32} {o : Int} (n n' : Nat) (hd : decode bytes pc = .ok (.if_icmp .eq o, 3)) (hn : (pc : Int) + o = (n : Int)) (hn' : pc + 3 = n') (k : x = y → W l R Z own nm bytes maxL ret n0 P h cells slots n Ls st) (k' : ¬ x = y → W l R Z own nm bytes maxL ret n0 P h cells slots n' Ls st) : W l R Z own nm bytes maxL ret n0 P h cells slots pc Ls (.int y :: .int x :: st) := by
  subst hn'
  by_cases hc : x = y
  · exact (k hc).step fun p e s m args below meth c T locs hx hZ hby hown X eT t q => XS.icmpYes X.here hx rfl (pc0 := pc) (pc' := n) rfl (hb hby hd) rfl (teq hc).1 (by omega) (by omega) q
  · exact (k' hc).step fun p e s m args below meth c T locs hx hZ hby hown X eT t q => XS.icmpNo X.here hx rfl (hb hby hd) rfl (feq hc).1 q
theorem W.if_eq {x : Int32} {o : Int} (n n' : Nat) (hd : decode bytes pc = .ok (.ifCond .eq o, 3)) (hn : (pc : Int) + o = (n : Int)) (hn' : pc + 3 = n') (k : x = (0 : Int32) → W l R Z own nm bytes maxL ret n0 P h cells slots n Ls st) (k' : ¬ x = (0 : Int32) → W l R Z own nm bytes maxL ret n0 P h cells slots n' Ls st) : W l R Z own nm bytes maxL ret n0 P h cells slots pc Ls (.int x :: st) := by
  subst hn'
  by_cases hc : x = (0 : Int32)
  · exact (k hc).step fun p e s m args below meth c T locs hx hZ hby hown X eT t q => XS.ifYes X.here hx rfl (pc0 := pc) (pc' := n) rfl (hb hby hd) rfl ((if0 _ _).trans (teq hc).1) (by omega) (by omega) q
  · exact (k' hc).step fun p e s m args below meth c T locs hx hZ hby hown X eT t q => XS.ifNo X.here hx rfl (hb hby hd) rfl ((if0 _ _).trans (feq hc).1) q
theorem W.icmp_ne {x y : Int32} {o : Int} (n n' : Nat) (hd : decode bytes pc = .ok (.if_icmp .ne o, 3)) (hn : (pc : Int) + o = (n : Int)) (hn' : pc + 3 = n') (k : ¬ x = y → W l R Z own nm bytes maxL ret n0 P h cells slots n Ls st) (k' : x = y → W l R Z own nm bytes maxL ret n0 P h cells slots n' Ls st) : W l R Z own nm bytes maxL ret n0 P h cells slots pc Ls (.int y :: .int x :: st) := by
  subst hn'
  by_cases hc : x = y
  · exact (k' hc).step fun p e s m args below meth c T locs hx hZ hby hown X eT t q => XS.icmpNo X.here hx rfl (hb hby hd) rfl (teq hc).2 q
  · exact (k hc).step fun p e s m args below meth c T locs hx hZ hby hown X eT t q => XS.icmpYes X.here hx rfl (pc0 := pc) (pc' := n) rfl (hb hby hd) rfl (feq hc).2 (by omega) (by omega) q
theorem W.if_ne {x : Int32} {o : Int} (n n' : Nat) (hd : decode bytes pc = .ok (.ifCond .ne o, 3)) (hn : (pc : Int) + o = (n : Int)) (hn' : pc + 3 = n') (k : ¬ x = (0 : Int32) → W l R Z own nm bytes maxL ret n0 P h cells slots n Ls st) (k' : x = (0 : Int32) → W l R Z own nm bytes maxL ret n0 P h cells slots n' Ls st) : W l R Z own nm bytes maxL ret n0 P h cells slots pc Ls (.int x :: st) := by
  subst hn'
  by_cases hc : x = (0 : Int32)
  · exact (k' hc).step fun p e s m args below meth c T locs hx hZ hby hown X eT t q => XS.ifNo X.here hx rfl (hb hby hd) rfl ((if0 _ _).trans (teq hc).2) q
  · exact (k hc).step fun p e s m args below meth c T locs hx hZ hby hown X eT t q => XS.ifYes X.here hx rfl (pc0 := pc) (pc' := n) rfl (hb hby hd) rfl ((if0 _ _).trans (feq hc).2) (by omega) (by omega) q
theorem W.ifnull_null {o : Int} (n : Nat) (hd : decode bytes pc = .ok (.ifnull o, 3)) (hn : (pc : Int) + o = (n : Int)) (k : W l R Z own nm bytes maxL ret n0 P h cells slots n Ls st) : W l R Z own nm bytes maxL ret n0 P h cells slots pc Ls (.null :: st) := by
  exact k.step fun p e s m args below meth c T locs hx hZ hby hown X eT t q => XS.ifnullYes X.here hx rfl (pc0 := pc) (pc' := n) rfl (hb hby hd) rfl (by omega) (by omega) q
theorem W.ifnull_ref {o : Int} {a : Addr} (n : Nat) (hd : decode bytes pc = .ok (.ifnull o, 3)) (hn : pc + 3 = n) (k : W l R Z own nm bytes maxL ret n0 P h cells slots n Ls st) : W l R Z own nm bytes maxL ret n0 P h cells slots pc Ls (.ref a :: st) := by
  subst hn
  exact k.step fun p e s m args below meth c T locs hx hZ hby hown X eT t q => XS.ifnullNo X.here hx rfl (hb hby hd) rfl q
theorem W.ifnonnull_null {o : Int} (n : Nat) (hd : decode bytes pc = .ok (.ifnonnull o, 3)) (hn : pc + 3 = n) (k : W l R Z own nm bytes maxL ret n0 P h cells slots n Ls st) : W l R Z own nm bytes maxL ret n0 P h cells slots pc Ls (.null :: st) := by
  subst hn
  exact k.step fun p e s m args below meth c T locs hx hZ hby hown X eT t q => XS.ifnonnullNo X.here hx rfl (hb hby hd) rfl q
theorem W.ifnonnull_ref {o : Int} {a : Addr} (n : Nat) (hd : decode bytes pc = .ok (.ifnonnull o, 3)) (hn : (pc : Int) + o = (n : Int)) (k : W l R Z own nm bytes maxL ret n0 P h cells slots n Ls st) : W l R Z own nm bytes maxL ret n0 P h cells slots pc Ls (.ref a :: st) := by
  exact k.step fun p e s m args below meth c T locs hx hZ hby hown X eT t q => XS.ifnonnullYes X.here hx rfl (pc0 := pc) (pc' := n) rfl (hb hby hd) rfl (by omega) (by omega) q
theorem W.acmp_eq {x y : Value} {o : Int} (n n' : Nat) (hd : decode bytes pc = .ok (.if_acmp .eq o, 3)) (hn : (pc : Int) + o = (n : Int)) (hn' : pc + 3 = n') (h1 : x.isRef = true) (h2 : y.isRef = true) (k : x = y → W l R Z own nm bytes maxL ret n0 P h cells slots n Ls st) (k' : ¬ x = y → W l R Z own nm bytes maxL ret n0 P h cells slots n' Ls st) : W l R Z own nm bytes maxL ret n0 P h cells slots pc Ls (y :: x :: st) := by
  subst hn'
  by_cases hc : x = y
  · exact (k hc).step fun p e s m args below meth c T locs hx hZ hby hown X eT t q => RoadKit.acmp X hx rfl h1 h2 (pc0 := pc) (pc' := n) (same := true) rfl (hb hby hd) rfl (decide_eq_true hc) (by omega) (by simp [acV]; try omega) q
  · exact (k' hc).step fun p e s m args below meth c T locs hx hZ hby hown X eT t q => RoadKit.acmp X hx rfl h1 h2 (pc0 := pc) (pc' := pc + 3) (same := false) rfl (hb hby hd) rfl (decide_eq_false hc) (by omega) (by simp [acV]; try omega) q
theorem W.acmp_ne {x y : Value} {o : Int} (n n' : Nat) (hd : decode bytes pc = .ok (.if_acmp .ne o, 3)) (hn : (pc : Int) + o = (n : Int)) (hn' : pc + 3 = n') (h1 : x.isRef = true) (h2 : y.isRef = true) (k : ¬ x = y → W l R Z own nm bytes maxL ret n0 P h cells slots n Ls st) (k' : x = y → W l R Z own nm bytes maxL ret n0 P h cells slots n' Ls st) : W l R Z own nm bytes maxL ret n0 P h cells slots pc Ls (y :: x :: st) := by
  subst hn'
  by_cases hc : x = y
  · exact (k' hc).step fun p e s m args below meth c T locs hx hZ hby hown X eT t q => RoadKit.acmp X hx rfl h1 h2 (pc0 := pc) (pc' := pc + 3) (same := true) rfl (hb hby hd) rfl (decide_eq_true hc) (by omega) (by simp [acV]; try omega) q
  · exact (k hc).step fun p e s m args below meth c T locs hx hZ hby hown X eT t q => RoadKit.acmp X hx rfl h1 h2 (pc0 := pc) (pc' := n) (same := false) rfl (hb hby hd) rfl (decide_eq_false hc) (by omega) (by simp [acV]; try omega) q
theorem W.lookup {d : Int} {ps : Array (Int × Int)} {len : Nat} {x : Int32} (o : Int) (n : Nat) (hd : decode bytes pc = .ok (.lookupswitch d ps, len)) (hsort : (ps.toList.zip (ps.toList.drop 1)).all (fun (a, next) => a.1 < next.1) = true) (ho : Op.lookupswitch.offset ps.toList d x.toInt = o) (hn : (pc : Int) + o = (n : Int)) (k : W l R Z own nm bytes maxL ret n0 P h cells slots n Ls st) : W l R Z own nm bytes maxL ret n0 P h cells slots pc Ls (.int x :: st) := by
  refine k.step fun p e s m args below meth c T locs hx hZ hby hown X eT t q => ?_
  have hd' := hb hby hd
  have ho' : 0 ≤ (pc : Int) + o := by omega
  have hp : ((pc : Int) + o).toNat = n := by omega
  jvm_step X.here [X.here.top, hx, hd', Op.lookupswitch.wp_chain, hsort, ho, ho', hp]
  exact ⟨by simpa using hsort, q⟩
/-! the heap -/
theorem Fr.one {k : Nat} {L : List Loc} {a : Addr} {sl : Nat} (N : Fr k L) (q : k ≤ a) : Fr k (L ++ [⟨a, sl⟩]) := N.app fun y hy => by cases List.mem_singleton.mp hy; exact q
theorem Keep.of_ext {h h' : Heap} (E : Ext h h') : Keep h h' [] := (Keep.refl h []).ext E
theorem size_le {p : Program} {e : Env} {s : State} {m : MethodId} {args : Array Value} {below : List Frame} {meth : Method} {c : Code} {T : State} {locs : List Loc} (X : Stand p l e R s m args below meth c T locs cells slots) : s.heap.size ≤ T.heap.size := X.same.2.1
theorem W.getfield {i : Nat} {R0 O f d host : String} {a : Addr} {v : Value} (n : Nat) (hd : decode bytes pc = .ok (.getfield i, 3)) (hn : pc + 3 = n) (w : (Jvm.Cond.fieldLink own i R0 f d).before a0 Z = true ∨ (Jvm.Cond.fieldLinkNest own i R0 f d host).before a0 Z = true) (via : Via Z R0 O f d) (F : Fld Z h a O f d v) (k : W l R Z own nm bytes maxL ret n0 P h cells slots n Ls (v :: st)) : W l R Z own nm bytes maxL ret n0 P h cells slots pc Ls (.ref a :: st) := by
  subst hn
  intro p e s m args below meth c T locs hx hZ hby hml hown hret hlk hnm hn0 X eT N
  obtain ⟨T', X', e', st'⟩ := getF X hx hZ hown w via eT F (g := mkF m pc Ls (.ref a :: st)) rfl rfl (hb hby hd)
  exact (k p e s m args below meth c T' locs hx hZ hby hml hown hret hlk hnm hn0 X' e' N).step st'
theorem W.getstatic {i : Nat} {R0 O f d host : String} {v : Value} (n : Nat) (hd : decode bytes pc = .ok (.getstatic i, 3)) (hn : pc + 3 = n) (w : (Jvm.Cond.fieldLink own i R0 f d).before a0 Z = true ∨ (Jvm.Cond.fieldLinkNest own i R0 f d host).before a0 Z = true) (via : Via Z R0 O f d) (F : Sta Z h O f d v) (k : W l R Z own nm bytes maxL ret n0 P h cells slots n Ls (v :: st)) : W l R Z own nm bytes maxL ret n0 P h cells slots pc Ls st := by
  subst hn
  intro p e s m args below meth c T locs hx hZ hby hml hown hret hlk hnm hn0 X eT N
  obtain ⟨T', X', e', st'⟩ := getS2 X hx hZ hown w via eT F (g := mkF m pc Ls st) rfl (hb hby hd)
  exact (k p e s m args below meth c T' locs hx hZ hby hml hown hret hlk hnm hn0 X' e' N).step st'
theorem W.putfield {i kk : Nat} {R0 O f d host C : String} {ty : FieldType} {a : Addr} {v old : Value} (n : Nat) (hd : decode bytes pc = .ok (.putfield i, 3)) (hn : pc + 3 = n) (w : (Jvm.Cond.fieldLink own i R0 f d).before a0 Z = true ∨ (Jvm.Cond.fieldLinkNest own i R0 f d host).before a0 Z = true) (via : Via Z R0 O f d) (F : Fld Z h a O f d old) (E : Exa Z h a C)
    (L : (Jvm.Cond.lays C O f d).before a0 Z = true ∨ ((Jvm.Cond.laysFinal C O f d).before a0 Z = true ∧ own = O ∧ nm = "<init>")) (wi : (Jvm.Cond.instantiable C kk).before a0 Z = true) (hty : parseFieldDescriptor d = some ty) (hv : narrow ty v = v) (hf : fits ty v = true) (ge : n0 ≤ a)
    (k : ∀ h', Wr h h' a (RoadKit.slotOf Z O f d) v → Fld Z h' a O f d v → Exa Z h' a C → Keep h h' [a] → W l R Z own nm bytes maxL ret n0 P h' cells slots n Ls st) : W l R Z own nm bytes maxL ret n0 P h cells slots pc Ls (v :: .ref a :: st) := by
  subst hn
  intro p e s m args below meth c T locs hx hZ hby hml hown hret hlk hnm hn0 X eT N
  obtain ⟨T', h', X', e', W', st'⟩ := putF X hx hZ hown w via eT F E (L.imp id fun q => ⟨q.1, q.2.1, hnm.trans q.2.2⟩) wi hty hv hf (g := mkF m pc Ls (v :: .ref a :: st)) rfl rfl (hb hby hd)
  exact (k h' W' (F.same W') (E.wr W') (Keep.of_wr W') p e s m args below meth c T' _ hx hZ hby hml hown hret hlk hnm hn0 X' e' (Fr.one N ge)).step st'
theorem W.putfieldN {i kk : Nat} {R0 O f d C : String} {ty : FieldType} {a : Addr} {v old : Value} (n : Nat) (hd : decode bytes pc = .ok (.putfield i, 3)) (hn : pc + 3 = n) (w : (Jvm.Cond.fieldLink own i R0 f d).before a0 Z = true) (via : Via Z R0 O f d) (F : Fld Z h a O f d old) (E : Exa Z h a C)
    (L : (Jvm.Cond.lays C O f d).before a0 Z = true ∨ ((Jvm.Cond.laysFinal C O f d).before a0 Z = true ∧ own = O ∧ nm = "<init>")) (wi : (Jvm.Cond.instantiable C kk).before a0 Z = true) (hty : parseFieldDescriptor d = some ty) (v' : Value) (hv : narrow ty v = v') (hf : fits ty v' = true) (ge : n0 ≤ a)
    (k : ∀ h', Wr h h' a (RoadKit.slotOf Z O f d) v' → Fld Z h' a O f d v' → Exa Z h' a C → Keep h h' [a] → W l R Z own nm bytes maxL ret n0 P h' cells slots n Ls st) : W l R Z own nm bytes maxL ret n0 P h cells slots pc Ls (v :: .ref a :: st) := by
  subst hn
  intro p e s m args below meth c T locs hx hZ hby hml hown hret hlk hnm hn0 X eT N
  obtain ⟨T', h', X', e', W', st'⟩ := putFN X hx hZ hown w via eT F E (L.imp id fun q => ⟨q.1, q.2.1, hnm.trans q.2.2⟩) wi hty hv hf (g := mkF m pc Ls (v :: .ref a :: st)) rfl rfl (hb hby hd)
  exact (k h' W' (F.same W') (E.wr W') (Keep.of_wr W') p e s m args below meth c T' _ hx hZ hby hml hown hret hlk hnm hn0 X' e' (Fr.one N ge)).step st'
theorem W.new {i ns : Nat} {C : String} (n : Nat) (hd : decode bytes pc = .ok (.new i, 3)) (hn : pc + 3 = n) (w : (Jvm.Cond.classLink own i C).before a0 Z = true) (wi : (Jvm.Cond.instantiable C ns).before a0 Z = true) (wz : (Jvm.Cond.initialized C).before a0 Z = true) (hc : cells + 1 ≤ R.cells) (hs : slots + ns ≤ R.slots)
    (k : ∀ h' b, b = h.size → n0 ≤ b → Ext h h' → Keep h h' [] → Exa Z h' b C → (∀ {O f d : String} {ty : FieldType}, Laid Z a0 C O f d → parseFieldDescriptor d = some ty → Fld Z h' b O f d (defaultValue ty)) → W l R Z own nm bytes maxL ret n0 P h' (cells + 1) (slots + ns) n Ls (.ref b :: st)) : W l R Z own nm bytes maxL ret n0 P h cells slots pc Ls st := by
  subst hn
  intro p e s m args below meth c T locs hx hZ hby hml hown hret hlk hnm hn0 X eT N
  obtain ⟨T', h', X', e', E', A', D', -, st'⟩ := newO X hx hZ hown w wi wz eT (g := mkF m pc Ls st) rfl (hb hby hd) hc hs
  have hb0 : n0 ≤ h.size := Nat.le_trans hn0 (eT ▸ size_le X)
  exact (k h' h.size rfl hb0 E' (Keep.of_ext E') A' D' p e s m args below meth c T' _ hx hZ hby hml hown hret hlk hnm hn0 X' e' N).step st'
theorem Ary.lt {a : Addr} {ty : FieldType} {vs : List Value} (A : Ary Z h a ty vs) : a < h.size := by obtain ⟨c, A, -⟩ := A; exact A.lt
theorem Ary.keep {h' : Heap} {ws : List Addr} {a : Addr} {ty : FieldType} {vs : List Value} (A : Ary Z h a ty vs) (K : Keep h h' ws) (q : a ∉ ws) : Ary Z h' a ty vs := by obtain ⟨c, A, r⟩ := A; exact ⟨c, ⟨K.2.1 a c A.1 q, A.2⟩, r⟩
theorem Ary.new {k : ClassId} {a : Addr} {ty : FieldType} {z : Int32} (A : Arr Z h a (newA k ty z) ty) (hf : fits ty (defaultValue ty) = true) : Ary Z h a ty (List.replicate z.toNatClampNeg (defaultValue ty)) :=
  ⟨_, A, by simp [newA], fun v hv => by rw [(List.mem_replicate.mp hv).2]; exact hf, by rw [List.length_replicate]; have := Int32.toInt_lt z; simp only [Int32.toNatClampNeg]; omega⟩
theorem Ary.set {h' : Heap} {a : Addr} {ty : FieldType} {vs : List Value} {i : Nat} {v : Value} (A : Ary Z h a ty vs) (W' : Wr h h' a i v) (hf : fits ty v = true) : Ary Z h' a ty (vs.set i v) := by
  obtain ⟨c, A, rfl, F, S⟩ := A
  exact ⟨_, A.same W', by simp [Cell.setSlot], fun w hw => (List.mem_or_eq_of_mem_set hw).elim (fun q => F w q) (fun q => q ▸ hf), by simpa using S⟩
theorem Ary.arv {a : Addr} {ty : FieldType} {vs : List Value} (A : Ary Z h a ty vs) (d : Value) : ∃ k, Arv Z h a k ty vs.length.toInt32 vs d := by
  obtain ⟨c, A, rfl, F, S⟩ := A
  have hz : (c.slots.toList.length.toInt32).toInt = c.slots.toList.length := Int32.toInt_ofNat_small S
  have hn : (c.slots.toList.length.toInt32).toNatClampNeg = c.slots.size := by simp only [Int32.toNatClampNeg]; rw [hz]; simp
  refine ⟨c.cls, c, A, rfl, hn.symm, fun q => ?_, fun i hi => ?_, fun i hi => ?_⟩
  · have := Int32.lt_iff_toInt_lt.mp q; rw [hz] at this; have e0 : (0 : Int32).toInt = 0 := rfl; omega
  · rw [List.getD_eq_getElem?_getD]; simp [hi]
  · rw [List.getD_eq_getElem?_getD]; exact F _ (by simp [hi])
theorem Ary.of_arv {a : Addr} {k : ClassId} {ty : FieldType} {vs : List Value} {z : Int32} {d : Value} (A : Arv Z h a k ty z vs d) (hz : z.toNatClampNeg = vs.length) : Ary Z h a ty vs := by
  obtain ⟨c, A, q1, q2, q3, H, G⟩ := A
  have hl : c.slots.toList = vs := by
    apply List.ext_getElem?
    intro i
    by_cases hi : i < c.slots.size
    · have := H i hi
      rw [List.getD_eq_getElem?_getD, List.getElem?_eq_getElem (by omega)] at this
      rw [List.getElem?_eq_getElem (l := vs) (by omega)]
      simpa using this
    · rw [List.getElem?_eq_none (by simpa using hi), List.getElem?_eq_none (by omega)]
  refine ⟨c, A, hl, fun v hv => ?_, ?_⟩
  · obtain ⟨i, hi, rfl⟩ := List.getElem_of_mem hv
    have := G i (by omega)
    rwa [List.getD_eq_getElem?_getD, List.getElem?_eq_getElem hi] at this
  · have := Int32.toInt_lt z; simp only [Int32.toNatClampNeg] at hz; omega
theorem W.newarray {aty : ArrayType} {ty : FieldType} {x : Int32} (n : Nat) (hd : decode bytes pc = .ok (.newarray aty, 2)) (hn : pc + 2 = n) (w : (Jvm.Cond.arrayClass ty).before a0 Z = true) (hty : newarray.typeOf aty = ty) (hx0 : ¬ x < 0) (len cap : Nat) (hlen : x.toNatClampNeg = len) (hcap : len ≤ cap) (hb8 : cap * 8 ≤ 536870912) (hc : cells + 1 ≤ R.cells) (hs : slots + cap ≤ R.slots) (hfd : fits ty (defaultValue ty) = true)
    (k : ∀ h' b, b = h.size → n0 ≤ b → Ext h h' → Keep h h' [] → Ary Z h' b ty (List.replicate len (defaultValue ty)) → W l R Z own nm bytes maxL ret n0 P h' (cells + 1) (slots + cap) n Ls (.ref b :: st)) : W l R Z own nm bytes maxL ret n0 P h cells slots pc Ls (.int x :: st) := by
  subst hn hty hlen
  intro p e s m args below meth c T locs hx hZ hby hml hown hret hlk hnm hn0 X eT N
  obtain ⟨T', h', cA, X', e', E', A', st'⟩ := newP X hx hZ w eT (g := mkF m pc Ls (.int x :: st)) rfl (hb hby hd) rfl hx0 hcap hb8 hc hs
  have hb0 : n0 ≤ h.size := Nat.le_trans hn0 (eT ▸ size_le X)
  exact (k h' h.size rfl hb0 E' (Keep.of_ext E') (Ary.new A' hfd) p e s m args below meth c T' _ hx hZ hby hml hown hret hlk hnm hn0 X' e' N).step st'
theorem W.newarrayE {aty : ArrayType} {ty : FieldType} {x : Int32} {ad : String} (n : Nat) (hd : decode bytes pc = .ok (.newarray aty, 2)) (hn : pc + 2 = n) (w : (Jvm.Cond.arrayClass ty).before a0 Z = true) (hty : newarray.typeOf aty = ty) (had : "[" ++ ty.toString = ad) (hx0 : ¬ x < 0) (len cap : Nat) (hlen : x.toNatClampNeg = len) (hcap : len ≤ cap) (hb8 : cap * 8 ≤ 536870912) (hc : cells + 1 ≤ R.cells) (hs : slots + cap ≤ R.slots) (hfd : fits ty (defaultValue ty) = true)
    (k : ∀ h' b, b = h.size → n0 ≤ b → Ext h h' → Keep h h' [] → Ary Z h' b ty (List.replicate len (defaultValue ty)) → Exa Z h' b ad → W l R Z own nm bytes maxL ret n0 P h' (cells + 1) (slots + cap) n Ls (.ref b :: st)) : W l R Z own nm bytes maxL ret n0 P h cells slots pc Ls (.int x :: st) := by
  subst hn hty hlen
  intro p e s m args below meth c T locs hx hZ hby hml hown hret hlk hnm hn0 X eT N
  obtain ⟨T', h', cA, X', e', E', A', B', st'⟩ := newPE X hx hZ w eT (g := mkF m pc Ls (.int x :: st)) rfl (hb hby hd) rfl hx0 hcap hb8 hc hs had
  have hb0 : n0 ≤ h.size := Nat.le_trans hn0 (eT ▸ size_le X)
  exact (k h' h.size rfl hb0 E' (Keep.of_ext E') (Ary.new A' hfd) B' p e s m args below meth c T' _ hx hZ hby hml hown hret hlk hnm hn0 X' e' N).step st'
theorem ary_in {c : Cell} {vs : List Value} {j : Int32} {i : Nat} (hc : c.slots.toList = vs) (hj : j.toNatClampNeg = i) (h0 : ¬ j < 0) (hi : i < vs.length) : ¬ (j < 0 ∨ c.slots.size ≤ j.toNatClampNeg) := by
  subst hc hj; rintro (q | q)
  · exact h0 q
  · exact absurd hi (by simpa using q)
theorem W.arraylength {a : Addr} {ty : FieldType} {vs : List Value} (n : Nat) (hd : decode bytes pc = .ok (.arraylength, 1)) (hn : pc + 1 = n) (A : Ary Z h a ty vs) (v : Int32) (hv : vs.length.toInt32 = v) (k : W l R Z own nm bytes maxL ret n0 P h cells slots n Ls (.int v :: st)) : W l R Z own nm bytes maxL ret n0 P h cells slots pc Ls (.ref a :: st) := by
  subst hn
  obtain ⟨c, A, rfl, F, S⟩ := A
  have e : c.slots.size.toInt32 = v := by rw [← hv]; simp
  exact k.step fun p e' s m args below meth c' T locs hx hZ hby hown X eT t q => X.arraylength hx (by rw [eT]; exact A.1) (State.isArrayOf_alike hZ.alike A.2.1) (g := mkF m pc Ls (.ref a :: st)) rfl rfl (hb hby hd) t (e ▸ q)

theorem W.iaload {a : Addr} {vs : List Value} {j : Int32} (n : Nat) (hd : decode bytes pc = .ok (.iaload, 1)) (hn : pc + 1 = n) (A : Ary Z h a .int vs) (i : Nat) (hj : j.toNatClampNeg = i) (h0 : ¬ j < 0) (v : Value) (hv : vs[i]? = some v) (k : W l R Z own nm bytes maxL ret n0 P h cells slots n Ls (v :: st)) : W l R Z own nm bytes maxL ret n0 P h cells slots pc Ls (.int j :: .ref a :: st) := by
  subst hn
  obtain ⟨c, A, hc, F, S⟩ := A
  have hi : i < vs.length := (List.getElem?_eq_some_iff.mp hv).1
  have hin := ary_in hc hj h0 hi
  have hat : c.slots[j.toNatClampNeg]? = some v := by rw [hj, ← hv, ← hc]; simp
  exact k.step fun p e' s m args below meth c' T locs hx hZ hby hown X eT t q => X.iaload hx (j := j) (v := v) (by rw [eT]; exact A.1) (State.isArrayOf_alike hZ.alike A.2.1) A.2.2 hin hat (g := mkF m pc Ls (.int j :: .ref a :: st)) rfl rfl (hb hby hd) t q
theorem W.laload {a : Addr} {vs : List Value} {j : Int32} (n : Nat) (hd : decode bytes pc = .ok (.laload, 1)) (hn : pc + 1 = n) (A : Ary Z h a .long vs) (i : Nat) (hj : j.toNatClampNeg = i) (h0 : ¬ j < 0) (v : Value) (hv : vs[i]? = some v) (k : W l R Z own nm bytes maxL ret n0 P h cells slots n Ls (v :: st)) : W l R Z own nm bytes maxL ret n0 P h cells slots pc Ls (.int j :: .ref a :: st) := by
  subst hn
  obtain ⟨c, A, hc, F, S⟩ := A
  have hi : i < vs.length := (List.getElem?_eq_some_iff.mp hv).1
  have hin := ary_in hc hj h0 hi
  have hat : c.slots[j.toNatClampNeg]? = some v := by rw [hj, ← hv, ← hc]; simp
  exact k.step fun p e' s m args below meth c' T locs hx hZ hby hown X eT t q => X.laload hx (j := j) (v := v) (by rw [eT]; exact A.1) (State.isArrayOf_alike hZ.alike A.2.1) A.2.2 hin hat (g := mkF m pc Ls (.int j :: .ref a :: st)) rfl rfl (hb hby hd) t q
theorem W.caload {a : Addr} {vs : List Value} {j : Int32} (n : Nat) (hd : decode bytes pc = .ok (.caload, 1)) (hn : pc + 1 = n) (A : Ary Z h a .char vs) (i : Nat) (hj : j.toNatClampNeg = i) (h0 : ¬ j < 0) (v : Value) (hv : vs[i]? = some v) (k : W l R Z own nm bytes maxL ret n0 P h cells slots n Ls (v :: st)) : W l R Z own nm bytes maxL ret n0 P h cells slots pc Ls (.int j :: .ref a :: st) := by
  subst hn
  obtain ⟨c, A, hc, F, S⟩ := A
  have hi : i < vs.length := (List.getElem?_eq_some_iff.mp hv).1
  have hin := ary_in hc hj h0 hi
  have hat : c.slots[j.toNatClampNeg]? = some v := by rw [hj, ← hv, ← hc]; simp
  exact k.step fun p e' s m args below meth c' T locs hx hZ hby hown X eT t q => X.caload hx (j := j) (v := v) (by rw [eT]; exact A.1) (State.isArrayOf_alike hZ.alike A.2.1) A.2.2 hin hat (g := mkF m pc Ls (.int j :: .ref a :: st)) rfl rfl (hb hby hd) t q
theorem W.baload {a : Addr} {vs : List Value} {j : Int32} (n : Nat) (hd : decode bytes pc = .ok (.baload, 1)) (hn : pc + 1 = n) (A : Ary Z h a .byte vs) (i : Nat) (hj : j.toNatClampNeg = i) (h0 : ¬ j < 0) (v : Value) (hv : vs[i]? = some v) (k : W l R Z own nm bytes maxL ret n0 P h cells slots n Ls (v :: st)) : W l R Z own nm bytes maxL ret n0 P h cells slots pc Ls (.int j :: .ref a :: st) := by
  subst hn
  obtain ⟨c, A, hc, F, S⟩ := A
  have hi : i < vs.length := (List.getElem?_eq_some_iff.mp hv).1
  have hin := ary_in hc hj h0 hi
  have hat : c.slots[j.toNatClampNeg]? = some v := by rw [hj, ← hv, ← hc]; simp
  exact k.step fun p e' s m args below meth c' T locs hx hZ hby hown X eT t q => X.baloadBytes hx (j := j) (v := v) (by rw [eT]; exact A.1) (State.isArrayOf_alike hZ.alike A.2.1) A.2.2 hin hat (g := mkF m pc Ls (.int j :: .ref a :: st)) rfl rfl (hb hby hd) t q
theorem W.aaload {a : Addr} {vs : List Value} {j : Int32} {ty : FieldType} (n : Nat) (hd : decode bytes pc = .ok (.aaload, 1)) (hn : pc + 1 = n) (A : Ary Z h a ty vs) (hty : ty.isReference = true) (i : Nat) (hj : j.toNatClampNeg = i) (h0 : ¬ j < 0) (v : Value) (hv : vs[i]? = some v) (k : W l R Z own nm bytes maxL ret n0 P h cells slots n Ls (v :: st)) : W l R Z own nm bytes maxL ret n0 P h cells slots pc Ls (.int j :: .ref a :: st) := by
  subst hn
  obtain ⟨c, A, hc, F, S⟩ := A
  have hi : i < vs.length := (List.getElem?_eq_some_iff.mp hv).1
  have hin := ary_in hc hj h0 hi
  have hat : c.slots[j.toNatClampNeg]? = some v := by rw [hj, ← hv, ← hc]; simp
  exact k.step fun p e' s m args below meth c' T locs hx hZ hby hown X eT t q => X.aaload hx (j := j) (v := v) (by rw [eT]; exact A.1) (State.isArrayOf_alike hZ.alike A.2.1) hty A.2.2 hin hat (g := mkF m pc Ls (.int j :: .ref a :: st)) rfl rfl (hb hby hd) t q
theorem W.iastore {a : Addr} {vs : List Value} {j : Int32} {x : Int32} (n : Nat) (hd : decode bytes pc = .ok (.iastore, 1)) (hn : pc + 1 = n) (A : Ary Z h a .int vs) (i : Nat) (hj : j.toNatClampNeg = i) (h0 : ¬ j < 0) (hi : i < vs.length) (ge : n0 ≤ a)
    (k : ∀ h', Wr h h' a i (.int x) → Keep h h' [a] → Ary Z h' a .int (vs.set i (.int x)) → W l R Z own nm bytes maxL ret n0 P h' cells slots n Ls st) : W l R Z own nm bytes maxL ret n0 P h cells slots pc Ls (.int x :: .int j :: .ref a :: st) := by
  subst hn
  intro p e s m args below meth c T locs hx hZ hby hml hown hret hlk hnm hn0 X eT N
  have A0 := A
  obtain ⟨cl, A, hc, F, S⟩ := A
  obtain ⟨T', h', X', e', W', st'⟩ := stI X hx hZ eT A (ary_in hc hj h0 hi) (g := mkF m pc Ls (.int x :: .int j :: .ref a :: st)) rfl rfl (hb hby hd)
  subst hj
  exact (k h' W' (Keep.of_wr W') (A0.set W' rfl) p e s m args below meth c T' _ hx hZ hby hml hown hret hlk hnm hn0 X' e' (Fr.one N ge)).step st'

theorem W.lastore {a : Addr} {vs : List Value} {j : Int32} {x : Int64} (n : Nat) (hd : decode bytes pc = .ok (.lastore, 1)) (hn : pc + 1 = n) (A : Ary Z h a .long vs) (i : Nat) (hj : j.toNatClampNeg = i) (h0 : ¬ j < 0) (hi : i < vs.length) (ge : n0 ≤ a)
    (k : ∀ h', Wr h h' a i (.long x) → Keep h h' [a] → Ary Z h' a .long (vs.set i (.long x)) → W l R Z own nm bytes maxL ret n0 P h' cells slots n Ls st) : W l R Z own nm bytes maxL ret n0 P h cells slots pc Ls (.long x :: .int j :: .ref a :: st) := by
  subst hn
  intro p e s m args below meth c T locs hx hZ hby hml hown hret hlk hnm hn0 X eT N
  have A0 := A
  obtain ⟨cl, A, hc, F, S⟩ := A
  obtain ⟨T', h', X', e', W', st'⟩ := stJ X hx hZ eT A (ary_in hc hj h0 hi) (g := mkF m pc Ls (.long x :: .int j :: .ref a :: st)) rfl rfl (hb hby hd)
  subst hj
  exact (k h' W' (Keep.of_wr W') (A0.set W' rfl) p e s m args below meth c T' _ hx hZ hby hml hown hret hlk hnm hn0 X' e' (Fr.one N ge)).step st'

theorem W.castore {a : Addr} {vs : List Value} {j : Int32} {x : Int32} (n : Nat) (hd : decode bytes pc = .ok (.castore, 1)) (hn : pc + 1 = n) (A : Ary Z h a .char vs) (i : Nat) (hj : j.toNatClampNeg = i) (h0 : ¬ j < 0) (hi : i < vs.length) (x' : Int32) (hx' : nar .char x = x') (ge : n0 ≤ a)
    (k : ∀ h', Wr h h' a i (.int x') → Keep h h' [a] → Ary Z h' a .char (vs.set i (.int x')) → W l R Z own nm bytes maxL ret n0 P h' cells slots n Ls st) : W l R Z own nm bytes maxL ret n0 P h cells slots pc Ls (.int x :: .int j :: .ref a :: st) := by
  subst hn hx'
  intro p e s m args below meth c T locs hx hZ hby hml hown hret hlk hnm hn0 X eT N
  have A0 := A
  obtain ⟨cl, A, hc, F, S⟩ := A
  obtain ⟨T', h', X', e', W', st'⟩ := stC X hx hZ eT A (ary_in hc hj h0 hi) (g := mkF m pc Ls (.int x :: .int j :: .ref a :: st)) rfl rfl (hb hby hd)
  subst hj
  exact (k h' W' (Keep.of_wr W') (A0.set W' (fits_nar_char _)) p e s m args below meth c T' _ hx hZ hby hml hown hret hlk hnm hn0 X' e' (Fr.one N ge)).step st'

theorem W.bastore {a : Addr} {vs : List Value} {j : Int32} {x : Int32} (n : Nat) (hd : decode bytes pc = .ok (.bastore, 1)) (hn : pc + 1 = n) (A : Ary Z h a .byte vs) (i : Nat) (hj : j.toNatClampNeg = i) (h0 : ¬ j < 0) (hi : i < vs.length) (x' : Int32) (hx' : nar .byte x = x') (ge : n0 ≤ a)
    (k : ∀ h', Wr h h' a i (.int x') → Keep h h' [a] → Ary Z h' a .byte (vs.set i (.int x')) → W l R Z own nm bytes maxL ret n0 P h' cells slots n Ls st) : W l R Z own nm bytes maxL ret n0 P h cells slots pc Ls (.int x :: .int j :: .ref a :: st) := by
  subst hn hx'
  intro p e s m args below meth c T locs hx hZ hby hml hown hret hlk hnm hn0 X eT N
  have A0 := A
  obtain ⟨cl, A, hc, F, S⟩ := A
  obtain ⟨T', h', X', e', W', st'⟩ := stB X hx hZ eT A (ary_in hc hj h0 hi) (g := mkF m pc Ls (.int x :: .int j :: .ref a :: st)) rfl rfl (hb hby hd)
  subst hj
  exact (k h' W' (Keep.of_wr W') (A0.set W' (fits_nar_byte _)) p e s m args below meth c T' _ hx hZ hby hml hown hret hlk hnm hn0 X' e' (Fr.one N ge)).step st'

theorem W.bastoreZ {a : Addr} {vs : List Value} {j : Int32} {x : Int32} (n : Nat) (hd : decode bytes pc = .ok (.bastore, 1)) (hn : pc + 1 = n) (A : Ary Z h a .boolean vs) (i : Nat) (hj : j.toNatClampNeg = i) (h0 : ¬ j < 0) (hi : i < vs.length) (x' : Int32) (hx' : nar .boolean x = x') (ge : n0 ≤ a)
    (k : ∀ h', Wr h h' a i (.int x') → Keep h h' [a] → Ary Z h' a .boolean (vs.set i (.int x')) → W l R Z own nm bytes maxL ret n0 P h' cells slots n Ls st) : W l R Z own nm bytes maxL ret n0 P h cells slots pc Ls (.int x :: .int j :: .ref a :: st) := by
  subst hn hx'
  intro p e s m args below meth c T locs hx hZ hby hml hown hret hlk hnm hn0 X eT N
  have A0 := A
  obtain ⟨cl, A, hc, F, S⟩ := A
  obtain ⟨T', h', X', e', W', st'⟩ := stZ X hx hZ eT A (ary_in hc hj h0 hi) (g := mkF m pc Ls (.int x :: .int j :: .ref a :: st)) rfl rfl (hb hby hd)
  subst hj
  exact (k h' W' (Keep.of_wr W') (A0.set W' (fits_nar_bool _)) p e s m args below meth c T' _ hx hZ hby hml hown hret hlk hnm hn0 X' e' (Fr.one N ge)).step st'

theorem Sta.keep0 {h' : Heap} {C f d : String} {v : Value} (K : Keep h h' []) (F : Sta Z h C f d v) : Sta Z h' C f d v := by
  obtain ⟨cf, i, k, fd, st, cell, h1, h2, h3, h4, h5, r⟩ := F; exact ⟨cf, i, k, fd, st, cell, h1, h2, h3, h4, K.2.1 _ _ h5 nin0, r⟩
/-- an array of references, and what may lie in it -/
def AryO (Z : State) (h : Heap) (a : Addr) (C : String) (vs : List Value) : Prop :=
  ∃ c : Cell, Arr Z h a c (.object C) ∧ Ovr Z c.cls C ∧ c.slots.toList = vs ∧ (∀ v ∈ vs, fits (.object C) v = true) ∧ vs.length < 2 ^ 31
theorem AryO.ary {a : Addr} {C : String} {vs : List Value} (A : AryO Z h a C vs) : Ary Z h a (.object C) vs := by obtain ⟨c, A, -, r⟩ := A; exact ⟨c, A, r⟩
theorem AryO.lt {a : Addr} {C : String} {vs : List Value} (A : AryO Z h a C vs) : a < h.size := A.ary.lt
theorem AryO.keep {h' : Heap} {ws : List Addr} {a : Addr} {C : String} {vs : List Value} (A : AryO Z h a C vs) (K : Keep h h' ws) (q : a ∉ ws) : AryO Z h' a C vs := by obtain ⟨c, A, r⟩ := A; exact ⟨c, ⟨K.2.1 a c A.1 q, A.2⟩, r⟩
theorem W.anewarray {i : Nat} {C : String} {x : Int32} (n : Nat) (hd : decode bytes pc = .ok (.anewarray i, 3)) (hn : pc + 3 = n) (w1 : (Jvm.Cond.classLink own i C).before a0 Z = true) (w2 : (Jvm.Cond.arrayOver (.object C)).before a0 Z = true) (hx0 : ¬ x < 0) (len cap : Nat) (hlen : x.toNatClampNeg = len) (hcap : len ≤ cap) (hb8 : cap * 8 ≤ 536870912) (hc : cells + 1 ≤ R.cells) (hs : slots + cap ≤ R.slots)
    (k : ∀ h' b, b = h.size → n0 ≤ b → Ext h h' → Keep h h' [] → AryO Z h' b C (List.replicate len .null) → W l R Z own nm bytes maxL ret n0 P h' (cells + 1) (slots + cap) n Ls (.ref b :: st)) : W l R Z own nm bytes maxL ret n0 P h cells slots pc Ls (.int x :: st) := by
  subst hn hlen
  intro p e s m args below meth c T locs hx hZ hby hml hown hret hlk hnm hn0 X eT N
  obtain ⟨T', h', cA, X', e', E', A', O', st'⟩ := newR X hx hZ hown w1 w2 eT (g := mkF m pc Ls (.int x :: st)) rfl (hb hby hd) rfl hx0 hcap hb8 hc hs
  have hb0 : n0 ≤ h.size := Nat.le_trans hn0 (eT ▸ size_le X)
  obtain ⟨cc, B1, B2⟩ := Ary.new A' rfl
  refine (k h' h.size rfl hb0 E' (Keep.of_ext E') ⟨_, A', O', ?_, ?_, ?_⟩ p e s m args below meth c T' _ hx hZ hby hml hown hret hlk hnm hn0 X' e' N).step st'
  · simp [newA, defaultValue]
  · intro v hv; rw [(List.mem_replicate.mp hv).2]; rfl
  · rw [List.length_replicate]; have := Int32.toInt_lt x; simp only [Int32.toNatClampNeg]; omega
theorem W.aastore {a y : Addr} {C : String} {vs : List Value} {j : Int32} (n : Nat) (hd : decode bytes pc = .ok (.aastore, 1)) (hn : pc + 1 = n) (A : AryO Z h a C vs) (I : Ins Z h y C true) (i : Nat) (hj : j.toNatClampNeg = i) (h0 : ¬ j < 0) (hi : i < vs.length) (ge : n0 ≤ a)
    (k : ∀ h', Wr h h' a i (.ref y) → Keep h h' [a] → AryO Z h' a C (vs.set i (.ref y)) → W l R Z own nm bytes maxL ret n0 P h' cells slots n Ls st) : W l R Z own nm bytes maxL ret n0 P h cells slots pc Ls (.ref y :: .int j :: .ref a :: st) := by
  subst hn
  intro p e s m args below meth c T locs hx hZ hby hml hown hret hlk hnm hn0 X eT N
  obtain ⟨cl, A, O, hc, F, S⟩ := A
  obtain ⟨T', h', X', e', W', st'⟩ := stR X hx hZ eT A (ary_in hc hj h0 hi) rfl (Sto.of A O I) (g := mkF m pc Ls (.ref y :: .int j :: .ref a :: st)) rfl rfl (hb hby hd)
  subst hj
  refine (k h' W' (Keep.of_wr W') ⟨_, A.same W', O, ?_, ?_, ?_⟩ p e s m args below meth c T' _ hx hZ hby hml hown hret hlk hnm hn0 X' e' (Fr.one N ge)).step st'
  · simp [Cell.setSlot, hc]
  · exact fun w hw => (List.mem_or_eq_of_mem_set hw).elim (fun q => F w q) (fun q => q ▸ rfl)
  · simpa using S
/-! calls and returns -/
theorem W.initObj {i : Nat} {a : Addr} (n : Nat) (hd : decode bytes pc = .ok (.invokespecial i, 3)) (hn : pc + 3 = n) (w1 : (Jvm.Cond.methodLink own i Lib.objectInit).before a0 Z = true) (w2 : (Jvm.Cond.instanceMethod Lib.objectInit).before a0 Z = true) (w3 : (Jvm.Cond.code Lib.objectInit ⟨#[0xb1]⟩ 1 none).before a0 Z = true) (hsz : Ls.size = maxL) (hf : 1 ≤ R.frames) (W0 : Nat) (hW : (st.map fun v => v.category).sum ≤ W0) (hl : W0 + 12 ≤ R.locals)
    (k : W l R Z own nm bytes maxL ret n0 P h cells slots n Ls st) : W l R Z own nm bytes maxL ret n0 P h cells slots pc Ls (.ref a :: st) := by
  subst hn
  intro p e s m args below meth c T locs hx hZ hby hml hown hret hlk hnm hn0 X eT N
  obtain ⟨T', X', e', st'⟩ := initO X hx hZ hown w1 w2 w3 eT (g := mkF m pc Ls (.ref a :: st)) rfl (by rw [hml]; exact hsz) rfl (hb hby hd) hf (W := W0) (by show 2 * 0 + _ ≤ _; omega) hl
  exact (k p e s m args below meth c T' locs hx hZ hby hml hown hret hlk hnm hn0 X' e' N).step st'
section Calls
variable {y : MethodName} {bytes' : ByteArray} {maxL' : Nat} {ret' : Option FieldType} {rm : Room} {P' : Option Value → Heap → Prop} {rest argsL : List Value} {i : Nat}
theorem W.callS (n : Nat) (hd : decode bytes pc = .ok (.invokestatic i, 3)) (hn : pc + 3 = n) (C : n0 ≤ h.size → Con l Z y bytes' maxL' ret' rm argsL.toArray h n0 P') (w1 : (Jvm.Cond.methodLink own i y).before a0 Z = true) (w2 : (Jvm.Cond.static y).before a0 Z = true) (w3 : (Jvm.Cond.initialized y.cls).before a0 Z = true) (w4 : (Jvm.Cond.code y bytes' maxL' ret').before a0 Z = true)
    (hy : y.cls ≠ "java/lang/invoke/MethodHandle" ∧ y.cls ≠ "java/lang/invoke/VarHandle") {ps : List FieldType} {r : Option FieldType} (hpd : parseMethodDescriptor y.desc = some ⟨ps, r⟩) (hlen : argsL.length = ps.length) (hst : st = argsL.reverse ++ rest) (hsz : Ls.size = maxL) (hf : rm.frames + 1 ≤ R.frames) (W0 : Nat) (hW : (rest.map fun v => v.category).sum ≤ W0) (hl : W0 + (maxL' + 11) + rm.locals ≤ R.locals) (hc : cells + rm.cells ≤ R.cells) (hs : slots + rm.slots ≤ R.slots)
    (k : ∀ v h', P' v h' → W l R Z own nm bytes maxL ret n0 P h' (cells + rm.cells) (slots + rm.slots) n Ls (v.toList ++ rest)) : W l R Z own nm bytes maxL ret n0 P h cells slots pc Ls st := by
  subst hn hst
  intro p e s m args below meth c T locs hx hZ hby hml hown hret hlk hnm hn0 X eT N
  obtain ⟨v, _, ⟨T', L', c', n'⟩, -, X', ⟨Lc, hQ, l', y', z'⟩, st'⟩ := Jvm.LawKit.callS X hx (y := y) hown (mvT hZ w1) (mvT hZ w2) (mvT hZ w3) (mvT hZ w4) hy (backOf (W := W0) (Z := Z) (h := h) (bytes := bytes') (maxL := maxL') (rm := rm) (Q := fun v h' L => P' v h' ∧ Fr n0 L) (C (Nat.le_trans hn0 (eT ▸ size_le X))) hZ w4 w3 hf hl) (g := mkF m pc Ls (argsL.reverse ++ rest)) rfl (by rw [hml]; exact hsz) (argsL := argsL) (rest := rest) (lenOf hpd hlen) rfl (by show 2 * 0 + _ ≤ _; omega) (hb hby hd) (fun _ _ => ⟨rfl, eT, hc, hs⟩)
  dsimp only [Pt.U, Pt.locs, Pt.cells, Pt.slots] at X' l' y' z' st' hQ
  subst l' y' z'
  exact (k v T'.heap hQ.1 p e s m args below meth c T' _ hx hZ hby hml hown hret hlk hnm hn0 X' rfl (Fr.app N hQ.2)).step st'
theorem W.callInit {a : Addr} (n : Nat) (hd : decode bytes pc = .ok (.invokespecial i, 3)) (hn : pc + 3 = n) (C : n0 ≤ h.size → Con l Z y bytes' maxL' none rm (.ref a :: argsL).toArray h n0 P') (hi : y.name = "<init>") (w1 : (Jvm.Cond.methodLink own i y).before a0 Z = true) (w2 : (Jvm.Cond.instanceMethod y).before a0 Z = true) (w3 : (Jvm.Cond.initialized y.cls).before a0 Z = true) (w4 : (Jvm.Cond.code y bytes' maxL' none).before a0 Z = true)
    (hy : y.cls ≠ "java/lang/invoke/MethodHandle" ∧ y.cls ≠ "java/lang/invoke/VarHandle") {ps : List FieldType} {r : Option FieldType} (hpd : parseMethodDescriptor y.desc = some ⟨ps, r⟩) (hlen : argsL.length = ps.length) (hst : st = argsL.reverse ++ .ref a :: rest) (hsz : Ls.size = maxL) (hf : rm.frames + 1 ≤ R.frames) (W0 : Nat) (hW : (rest.map fun v => v.category).sum ≤ W0) (hl : W0 + (maxL' + 11) + rm.locals ≤ R.locals) (hc : cells + rm.cells ≤ R.cells) (hs : slots + rm.slots ≤ R.slots)
    (k : ∀ v h', P' v h' → W l R Z own nm bytes maxL ret n0 P h' (cells + rm.cells) (slots + rm.slots) n Ls (v.toList ++ rest)) : W l R Z own nm bytes maxL ret n0 P h cells slots pc Ls st := by
  subst hn hst
  intro p e s m args below meth c T locs hx hZ hby hml hown hret hlk hnm hn0 X eT N
  obtain ⟨v, _, ⟨T', L', c', n'⟩, -, X', ⟨Lc, hQ, l', y', z'⟩, st'⟩ := X.specialBack hx (y := y) hi hown (mvT hZ w1) (mvT hZ w2) (mvT hZ w4) hy (backOf (W := W0) (Z := Z) (h := h) (bytes := bytes') (maxL := maxL') (rm := rm) (Q := fun v h' L => P' v h' ∧ Fr n0 L) (C (Nat.le_trans hn0 (eT ▸ size_le X))) hZ w4 w3 hf hl) (g := mkF m pc Ls (argsL.reverse ++ .ref a :: rest)) rfl (by rw [hml]; exact hsz) (Steps.refl _) (a := a) (argsL := argsL) (rest := rest) (lenOf hpd hlen) rfl (by show 2 * 0 + _ ≤ _; omega) (hb hby hd) (fun _ _ => ⟨rfl, eT, hc, hs⟩)
  dsimp only [Pt.U, Pt.locs, Pt.cells, Pt.slots] at X' l' y' z' st' hQ
  subst l' y' z'
  exact (k v T'.heap hQ.1 p e s m args below meth c T' _ hx hZ hby hml hown hret hlk hnm hn0 X' rfl (Fr.app N hQ.2)).step fun t q => st'.trans q
theorem W.callV {C0 : String} {a : Addr} (n : Nat) (hd : decode bytes pc = .ok (.invokevirtual i, 3)) (hn : pc + 3 = n) (C : n0 ≤ h.size → Con l Z y bytes' maxL' ret' rm (.ref a :: argsL).toArray h n0 P') (E : Exa Z h a C0) (w1 : (Jvm.Cond.methodLink own i y).before a0 Z = true) (w2 : (Jvm.Cond.declares y).before a0 Z = true) (w5 : (Jvm.Cond.selects C0 y y).before a0 Z = true) (hcy : C0 = y.cls) (w6 : (Jvm.Cond.instanceMethod y).before a0 Z = true) (w3 : (Jvm.Cond.initialized y.cls).before a0 Z = true) (w4 : (Jvm.Cond.code y bytes' maxL' ret').before a0 Z = true)
    (hy : y.cls ≠ "java/lang/invoke/MethodHandle" ∧ y.cls ≠ "java/lang/invoke/VarHandle") {ps : List FieldType} {r : Option FieldType} (hpd : parseMethodDescriptor y.desc = some ⟨ps, r⟩) (hlen : argsL.length = ps.length) (hst : st = argsL.reverse ++ .ref a :: rest) (hsz : Ls.size = maxL) (hf : rm.frames + 1 ≤ R.frames) (W0 : Nat) (hW : (rest.map fun v => v.category).sum ≤ W0) (hl : W0 + (maxL' + 11) + rm.locals ≤ R.locals) (hc : cells + rm.cells ≤ R.cells) (hs : slots + rm.slots ≤ R.slots)
    (k : ∀ v h', P' v h' → W l R Z own nm bytes maxL ret n0 P h' (cells + rm.cells) (slots + rm.slots) n Ls (v.toList ++ rest)) : W l R Z own nm bytes maxL ret n0 P h cells slots pc Ls st := by
  subst hn hst hcy
  intro p e s m args below meth c T locs hx hZ hby hml hown hret hlk hnm hn0 X eT N
  obtain ⟨cq, kq, qa, qb, qc⟩ := isOf hZ eT E
  obtain ⟨v, _, ⟨T', L', c', n'⟩, -, X', ⟨Lc, hQ, l', y', z'⟩, st'⟩ := X.virtualBack hx (y := y) (z := y) hown (mvT hZ w1) (mvT hZ w2) (notFace_of_selects (args := #[]) (mvT hZ w5)) (mvT hZ w5) (mvT hZ w6) hy (backOf (W := W0) (Z := Z) (h := h) (bytes := bytes') (maxL := maxL') (rm := rm) (Q := fun v h' L => P' v h' ∧ Fr n0 L) (C (Nat.le_trans hn0 (eT ▸ size_le X))) hZ w4 w3 hf hl) qa qc (g := mkF m pc Ls (argsL.reverse ++ .ref a :: rest)) rfl (by rw [hml]; exact hsz) (Steps.refl _) (argsL := argsL) (rest := rest) (lenOf hpd hlen) rfl (by show 2 * 0 + _ ≤ _; omega) (hb hby hd) (fun _ _ => ⟨rfl, eT, hc, hs⟩)
  dsimp only [Pt.U, Pt.locs, Pt.cells, Pt.slots] at X' l' y' z' st' hQ
  subst l' y' z'
  exact (k v T'.heap hQ.1 p e s m args below meth c T' _ hx hZ hby hml hown hret hlk hnm hn0 X' rfl (Fr.app N hQ.2)).step fun t q => st'.trans q
theorem W.callP {C0 : String} {a : Addr} {kk : Nat} (n : Nat) (hd : decode bytes pc = .ok (.invokevirtual i, 3)) (hn : pc + 3 = n) (C : n0 ≤ h.size → Con l Z y bytes' maxL' ret' rm (.ref a :: argsL).toArray h n0 P') (E : Exa Z h a C0) (w1 : (Jvm.Cond.methodLink own i y).before a0 Z = true) (wp : (Jvm.Cond.privateMethod y).before a0 Z = true) (wi : (Jvm.Cond.instantiable y.cls kk).before a0 Z = true) (w6 : (Jvm.Cond.instanceMethod y).before a0 Z = true) (w3 : (Jvm.Cond.initialized y.cls).before a0 Z = true) (w4 : (Jvm.Cond.code y bytes' maxL' ret').before a0 Z = true)
    (hy : y.cls ≠ "java/lang/invoke/MethodHandle" ∧ y.cls ≠ "java/lang/invoke/VarHandle") {ps : List FieldType} {r : Option FieldType} (hpd : parseMethodDescriptor y.desc = some ⟨ps, r⟩) (hlen : argsL.length = ps.length) (hst : st = argsL.reverse ++ .ref a :: rest) (hsz : Ls.size = maxL) (hf : rm.frames + 1 ≤ R.frames) (W0 : Nat) (hW : (rest.map fun v => v.category).sum ≤ W0) (hl : W0 + (maxL' + 11) + rm.locals ≤ R.locals) (hc : cells + rm.cells ≤ R.cells) (hs : slots + rm.slots ≤ R.slots)
    (k : ∀ v h', P' v h' → W l R Z own nm bytes maxL ret n0 P h' (cells + rm.cells) (slots + rm.slots) n Ls (v.toList ++ rest)) : W l R Z own nm bytes maxL ret n0 P h cells slots pc Ls st := by
  subst hn hst
  intro p e s m args below meth c T locs hx hZ hby hml hown hret hlk hnm hn0 X eT N
  obtain ⟨cI, kI, i1, i2, i3, i4, -⟩ := Cond.instantiable_spec (mvT (args := args) hZ wi)
  have hni : kI.isInterface = false := by cases hi : kI.isInterface <;> simp [hi] at i4 ⊢
  have hpriv := Cond.privateMethod_at (mvP hZ wp (args := args))
  have hsel := selects_self_of_private i1 i2 hni hpriv (mvT (args := args) hZ w6) hy
  obtain ⟨cell, hc1, hc2⟩ := E.cell
  obtain ⟨v, _, ⟨T', L', c', n'⟩, -, X', ⟨Lc, hQ, l', y', z'⟩, st'⟩ := X.privateBack hx (y := y) hown (mvT hZ w1) (mvT hZ w6) hsel hpriv (mvT hZ w4) hy (backOf (W := W0) (Z := Z) (h := h) (bytes := bytes') (maxL := maxL') (rm := rm) (Q := fun v h' L => P' v h' ∧ Fr n0 L) (C (Nat.le_trans hn0 (eT ▸ size_le X))) hZ w4 w3 hf hl) (g := mkF m pc Ls (argsL.reverse ++ .ref a :: rest)) rfl (by rw [hml]; exact hsz) (Steps.refl _) (a := a) (cell := cell) (by rw [eT]; exact hc1) hc2 (argsL := argsL) (rest := rest) (lenOf hpd hlen) rfl (by show 2 * 0 + _ ≤ _; omega) (hb hby hd) (fun _ _ => ⟨rfl, eT, hc, hs⟩)
  dsimp only [Pt.U, Pt.locs, Pt.cells, Pt.slots] at X' l' y' z' st' hQ
  subst l' y' z'
  exact (k v T'.heap hQ.1 p e s m args below meth c T' _ hx hZ hby hml hown hret hlk hnm hn0 X' rfl (Fr.app N hQ.2)).step fun t q => st'.trans q
theorem W.callI {xi : MethodName} {C0 : String} {a : Addr} {cnt : Nat} (n : Nat) (hd : decode bytes pc = .ok (.invokeinterface i cnt, 5)) (hn : pc + 5 = n) (C : n0 ≤ h.size → Con l Z y bytes' maxL' ret' rm (.ref a :: argsL).toArray h n0 P') (E : Exa Z h a C0) (w1 : (Jvm.Cond.methodLink own i xi).before a0 Z = true) (w2 : (Jvm.Cond.declares xi).before a0 Z = true) (wf : (Jvm.Cond.interfaceMethod xi.cls xi.cls xi.name xi.desc).before a0 Z = true) (w5 : (Jvm.Cond.selects C0 xi y).before a0 Z = true) (w6 : (Jvm.Cond.instanceMethod y).before a0 Z = true) (wp : (Jvm.Cond.publicMethod y).before a0 Z = true) (wu : (Jvm.Cond.unhidden C0 xi.name xi.desc).before a0 Z = true) (wk : (Jvm.Cond.castable C0 xi.cls).before a0 Z = true) (w3 : (Jvm.Cond.initialized y.cls).before a0 Z = true) (w4 : (Jvm.Cond.code y bytes' maxL' ret').before a0 Z = true)
    (hy : xi.cls ≠ "java/lang/invoke/MethodHandle" ∧ xi.cls ≠ "java/lang/invoke/VarHandle") {ps : List FieldType} {r : Option FieldType} (hpd : parseMethodDescriptor xi.desc = some ⟨ps, r⟩) (hlen : argsL.length = ps.length) (hst : st = argsL.reverse ++ .ref a :: rest) (hsz : Ls.size = maxL) (hf : rm.frames + 1 ≤ R.frames) (W0 : Nat) (hW : (rest.map fun v => v.category).sum ≤ W0) (hl : W0 + (maxL' + 11) + rm.locals ≤ R.locals) (hc : cells + rm.cells ≤ R.cells) (hs : slots + rm.slots ≤ R.slots)
    (k : ∀ v h', P' v h' → W l R Z own nm bytes maxL ret n0 P h' (cells + rm.cells) (slots + rm.slots) n Ls (v.toList ++ rest)) : W l R Z own nm bytes maxL ret n0 P h cells slots pc Ls st := by
  subst hn hst
  intro p e s m args below meth c T locs hx hZ hby hml hown hret hlk hnm hn0 X eT N
  obtain ⟨cq, kq, qa, qb, qc⟩ := isOf hZ eT E
  obtain ⟨v, _, ⟨T', L', c', n'⟩, -, X', ⟨Lc, hQ, l', y', z'⟩, st'⟩ := X.interfaceBack hx (xi := xi) (y := y) hown (mvT hZ w1) (mvT hZ w2) (mvT hZ wf (by simp [Jvm.Cond.onTables, Jvm.Cond.keepsFace, Jvm.Cond.keeps, Jvm.Cond.steady, Jvm.Cond.faceAtom, hy])) (mvT hZ w5) (mvT hZ w6) (mvT hZ wp) (mvT hZ wu) (mvT hZ wk) hy (backOf (W := W0) (Z := Z) (h := h) (bytes := bytes') (maxL := maxL') (rm := rm) (Q := fun v h' L => P' v h' ∧ Fr n0 L) (C (Nat.le_trans hn0 (eT ▸ size_le X))) hZ w4 w3 hf hl) qa qb qc (g := mkF m pc Ls (argsL.reverse ++ .ref a :: rest)) rfl (by rw [hml]; exact hsz) (Steps.refl _) (argsL := argsL) (rest := rest) (lenOf hpd hlen) rfl (by show 2 * 0 + _ ≤ _; omega) (hb hby hd) (fun _ _ => ⟨rfl, eT, hc, hs⟩)
  dsimp only [Pt.U, Pt.locs, Pt.cells, Pt.slots] at X' l' y' z' st' hQ
  subst l' y' z'
  exact (k v T'.heap hQ.1 p e s m args below meth c T' _ hx hZ hby hml hown hret hlk hnm hn0 X' rfl (Fr.app N hQ.2)).step fun t q => st'.trans q
end Calls
theorem W.checkcast {i : Nat} {K : String} {a : Addr} (n : Nat) (hd : decode bytes pc = .ok (.checkcast i, 3)) (hn : pc + 3 = n) (w : (Jvm.Cond.classLink own i K).before a0 Z = true) (F : Ins Z h a K true) (k : W l R Z own nm bytes maxL ret n0 P h cells slots n Ls (.ref a :: st)) : W l R Z own nm bytes maxL ret n0 P h cells slots pc Ls (.ref a :: st) := by
  subst hn
  intro p e s m args below meth c T locs hx hZ hby hml hown hret hlk hnm hn0 X eT N
  obtain ⟨T', X', e', st'⟩ := castY X hx hZ hown w eT F (g := mkF m pc Ls (.ref a :: st)) rfl rfl (hb hby hd)
  exact (k p e s m args below meth c T' locs hx hZ hby hml hown hret hlk hnm hn0 X' e' N).step st'
theorem W.instYes {i : Nat} {K : String} {a : Addr} (n : Nat) (hd : decode bytes pc = .ok (.instanceof i, 3)) (hn : pc + 3 = n) (w : (Jvm.Cond.classLink own i K).before a0 Z = true) (F : Ins Z h a K true) (k : W l R Z own nm bytes maxL ret n0 P h cells slots n Ls (.int 1 :: st)) : W l R Z own nm bytes maxL ret n0 P h cells slots pc Ls (.ref a :: st) := by
  subst hn
  intro p e s m args below meth c T locs hx hZ hby hml hown hret hlk hnm hn0 X eT N
  obtain ⟨T', X', e', st'⟩ := instY X hx hZ hown w eT F (g := mkF m pc Ls (.ref a :: st)) rfl rfl (hb hby hd)
  exact (k p e s m args below meth c T' locs hx hZ hby hml hown hret hlk hnm hn0 X' e' N).step st'
theorem W.instNo {i : Nat} {K C : String} {a : Addr} (n : Nat) (hd : decode bytes pc = .ok (.instanceof i, 3)) (hn : pc + 3 = n) (w : (Jvm.Cond.classLink own i K).before a0 Z = true) (E : Exa Z h a C) (F : ∃ c t, Z.vm.findClass C = some c ∧ Z.vm.findClass K = some t ∧ Z.vm.assignable c t = false) (k : W l R Z own nm bytes maxL ret n0 P h cells slots n Ls (.int 0 :: st)) : W l R Z own nm bytes maxL ret n0 P h cells slots pc Ls (.ref a :: st) := by
  subst hn
  intro p e s m args below meth c T locs hx hZ hby hml hown hret hlk hnm hn0 X eT N
  obtain ⟨T', X', e', st'⟩ := RoadKit.instNo X hx hZ hown w eT E F (g := mkF m pc Ls (.ref a :: st)) rfl rfl (hb hby hd)
  exact (k p e s m args below meth c T' locs hx hZ hby hml hown hret hlk hnm hn0 X' e' N).step st'
theorem W.instNull {i : Nat} (n : Nat) (hd : decode bytes pc = .ok (.instanceof i, 3)) (hn : pc + 3 = n) (k : W l R Z own nm bytes maxL ret n0 P h cells slots n Ls (.int 0 :: st)) : W l R Z own nm bytes maxL ret n0 P h cells slots pc Ls (.null :: st) := by
  subst hn
  exact k.step fun p e s m args below meth c T locs hx hZ hby hown X eT t q => X.instanceofNull hx (g := mkF m pc Ls (.null :: st)) rfl rfl (hb hby hd) t q
theorem ary_us {vs : List Value} {d : Value} (i k : Nat) (hs : i + k ≤ vs.length) : (List.range k).map (fun j => vs.getD (i + j) d) = (vs.drop i).take k := by
  apply List.ext_getElem?
  intro j
  by_cases hj : j < k
  · simp [hj, List.getD_eq_getElem?_getD, List.getElem?_eq_getElem (show i + j < vs.length by omega)]
  · simp [hj]; omega
theorem W.arraycopy {i : Nat} {a b : Addr} {ty : FieldType} {vs vd : List Value} {sp dp nn : Int32} (n : Nat) (hd : decode bytes pc = .ok (.invokestatic i, 3)) (hn : pc + 3 = n) (w1 : (Jvm.Cond.methodLink own i Jvm.Stand.acN).before a0 Z = true) (w2 : (Jvm.Cond.native Jvm.Stand.acN).before a0 Z = true) (w3 : (Jvm.Cond.static Jvm.Stand.acN).before a0 Z = true) (w4 : (Jvm.Cond.initialized "java/lang/System").before a0 Z = true)
    (A : Ary Z h a ty vs) (B : Ary Z h b ty vd) (hk : refKind ty = false) (si di ni : Nat) (h1 : sp.toNatClampNeg = si) (h1' : ¬ sp < 0) (h2 : dp.toNatClampNeg = di) (h2' : ¬ dp < 0) (h3 : nn.toNatClampNeg = ni) (h3' : ¬ nn < 0) (hs : si + ni ≤ vs.length) (hdl : di + ni ≤ vd.length) (ge : n0 ≤ b) (hsz : Ls.size = maxL) (hf : 1 ≤ R.frames) (W0 : Nat) (hW : (st.map fun v => v.category).sum ≤ W0) (hl : W0 + (nativeFrameWords "java/lang/System" "arraycopy" 5 + 11) ≤ R.locals)
    (k : ∀ h', Keep h h' [b] → Ary Z h' b ty (vd.take di ++ (vs.drop si).take ni ++ vd.drop (di + ni)) → W l R Z own nm bytes maxL ret n0 P h' cells slots n Ls st) : W l R Z own nm bytes maxL ret n0 P h cells slots pc Ls (.int nn :: .int dp :: .ref b :: .int sp :: .ref a :: st) := by
  subst hn h1 h2 h3
  intro p e s m args below meth c T locs hx hZ hby hml hown hret hlk hnm hn0 X eT N
  have za : vs.length.toInt32.toNatClampNeg = vs.length := by
    have S : vs.length < 2 ^ 31 := by obtain ⟨_, _, _, _, S⟩ := A; exact S
    have hz : (vs.length.toInt32).toInt = vs.length := Int32.toInt_ofNat_small S
    simp only [Int32.toNatClampNeg]; rw [hz]; simp
  have zb : vd.length.toInt32.toNatClampNeg = vd.length := by
    have S : vd.length < 2 ^ 31 := by obtain ⟨_, _, _, _, S⟩ := B; exact S
    have hz : (vd.length.toInt32).toInt = vd.length := Int32.toInt_ofNat_small S
    simp only [Int32.toNatClampNeg]; rw [hz]; simp
  obtain ⟨ka, A'⟩ := A.arv .null
  obtain ⟨kb, B'⟩ := B.arv .null
  obtain ⟨T', h', L', X', e', N', K', C', st'⟩ := cpA X hx hZ hown w1 w2 w3 w4 eT A' B' (Or.inl ⟨rfl, hk⟩) h1' h2' h3' (by rw [za]; exact hs) (by rw [zb]; exact hdl) rfl hdl N ge (g := mkF m pc Ls (.int nn :: .int dp :: .ref b :: .int sp :: .ref a :: st)) rfl (by rw [hml]; exact hsz) rfl (hb hby hd) hf (W := W0) (by show 2 * 0 + _ ≤ _; omega) hl
  rw [ary_us _ _ hs] at C'
  have hlen : vd.length.toInt32.toNatClampNeg = (vd.take dp.toNatClampNeg ++ (vs.drop sp.toNatClampNeg).take nn.toNatClampNeg ++ vd.drop (dp.toNatClampNeg + nn.toNatClampNeg)).length := by
    rw [zb]; simp only [List.length_append, List.length_take, List.length_drop]; omega
  exact (k h' K' (Ary.of_arv C' hlen) p e s m args below meth c T' L' hx hZ hby hml hown hret hlk hnm hn0 X' e' N').step st'
theorem W.cloneArr {i : Nat} {a : Addr} {ty : FieldType} {vs : List Value} {ad : String} (n : Nat) (hd : decode bytes pc = .ok (.invokevirtual i, 3)) (hn : pc + 3 = n) (w1 : (Jvm.Cond.methodLink own i ⟨ad, "clone", "()Ljava/lang/Object;"⟩).before a0 Z = true) (w2 : (Jvm.Cond.sameMethod ad "java/lang/Object" "clone" "()Ljava/lang/Object;").before a0 Z = true) (w3 : (Jvm.Cond.native ⟨"java/lang/Object", "clone", "()Ljava/lang/Object;"⟩).before a0 Z = true)
    (w4 : (Jvm.Cond.instanceMethod ⟨"java/lang/Object", "clone", "()Ljava/lang/Object;"⟩).before a0 Z = true) (w5 : (Jvm.Cond.selects ad ⟨ad, "clone", "()Ljava/lang/Object;"⟩ ⟨"java/lang/Object", "clone", "()Ljava/lang/Object;"⟩).before a0 Z = true) (w6 : (Jvm.Cond.castable ad "java/lang/Cloneable").before a0 Z = true)
    (A : Ary Z h a ty vs) (E : Exa Z h a ad) (hsz : Ls.size = maxL) (hf : 1 ≤ R.frames) (W0 cap : Nat) (hW : (st.map fun v => v.category).sum ≤ W0) (hl : W0 + 14 ≤ R.locals) (hcap : vs.length ≤ cap) (hc : cells + 1 ≤ R.cells) (hs : slots + cap ≤ R.slots)
    (k : ∀ h' b, b = h.size → n0 ≤ b → Ext h h' → Keep h h' [] → Ary Z h' b ty vs → Exa Z h' b ad → W l R Z own nm bytes maxL ret n0 P h' (cells + 1) (slots + cap) n Ls (.ref b :: st)) : W l R Z own nm bytes maxL ret n0 P h cells slots pc Ls (.ref a :: st) := by
  subst hn
  intro p e s m args below meth c T locs hx hZ hby hml hown hret hlk hnm hn0 X eT N
  have za : vs.length.toInt32.toNatClampNeg = vs.length := by
    have S : vs.length < 2 ^ 31 := by obtain ⟨_, _, _, _, S⟩ := A; exact S
    have hz : (vs.length.toInt32).toInt = vs.length := Int32.toInt_ofNat_small S
    simp only [Int32.toNatClampNeg]; rw [hz]; simp
  obtain ⟨ka, A'⟩ := A.arv .null
  obtain ⟨T', h', X', e', E', B', C', st'⟩ := cloneH X hx hZ hown w1 w2 w3 w4 w5 w6 eT A'.arh E (g := mkF m pc Ls (.ref a :: st)) rfl (by rw [hml]; exact hsz) rfl (hb hby hd) hf (W := W0) (cap := cap) (by show 2 * 0 + _ ≤ _; omega) hl (by rw [za]; exact hcap) hc hs
  have hb0 : n0 ≤ h.size := Nat.le_trans hn0 (eT ▸ size_le X)
  exact (k h' h.size rfl hb0 E' (Keep.of_ext E') (Ary.of_arv (show Arv Z h' h.size ka ty vs.length.toInt32 vs .null from B') za) C' p e s m args below meth c T' _ hx hZ hby hml hown hret hlk hnm hn0 X' e' N).step st'
theorem W.ireturn {x : Int32} (hd : decode bytes pc = .ok (.ireturn, 1)) (hr : ret = some .int) (hp : P (some (.int x)) h) (hc : cells ≤ R.cells) (hs : slots ≤ R.slots) : W l R Z own nm bytes maxL ret n0 P h cells slots pc Ls (.int x :: st) := by
  intro p e s m args below meth c T locs hx hZ hby hml hown hret hlk hnm hn0 X eT N
  obtain ⟨fs, hr', hrun, hended, hW, hsame⟩ := X.leave (v := some (.int x)) (fun q => by rw [hret, hr] at q; cases q) hlk
  exact ⟨_, _, retOut X hx (t := .int) (i := .ireturn) (hret.trans hr) rfl (Or.inl ⟨rfl, Or.inl rfl, _, rfl⟩) (hb hby hd) hr', hrun, hended, _, _, rfl, ⟨by show P _ T.heap; rw [eT]; exact hp, N⟩, ⟨_, rfl⟩, hW, hsame.mono hc hs⟩
theorem W.ireturnN {x : Int32} {t : FieldType} (hd : decode bytes pc = .ok (.ireturn, 1)) (hr : ret = some t) (ht : t = .boolean ∨ t = .byte ∨ t = .char ∨ t = .short) (x' : Int32) (hx' : nar t x = x') (hp : P (some (.int x')) h) (hc : cells ≤ R.cells) (hs : slots ≤ R.slots) : W l R Z own nm bytes maxL ret n0 P h cells slots pc Ls (.int x :: st) := by
  subst hx'
  intro p e s m args below meth c T locs hx hZ hby hml hown hret hlk hnm hn0 X eT N
  obtain ⟨fs, hr', hrun, hended, hW, hsame⟩ := X.leave (v := some (.int (nar t x))) (fun q => by rw [hret, hr] at q; cases q) hlk
  exact ⟨_, _, retN X hx (hret.trans hr) ht (hb hby hd) hr', hrun, hended, _, _, rfl, ⟨by show P _ T.heap; rw [eT]; exact hp, N⟩, ⟨_, rfl⟩, hW, hsame.mono hc hs⟩
theorem W.lreturn {x : Int64} (hd : decode bytes pc = .ok (.lreturn, 1)) (hr : ret = some .long) (hp : P (some (.long x)) h) (hc : cells ≤ R.cells) (hs : slots ≤ R.slots) : W l R Z own nm bytes maxL ret n0 P h cells slots pc Ls (.long x :: st) := by
  intro p e s m args below meth c T locs hx hZ hby hml hown hret hlk hnm hn0 X eT N
  obtain ⟨fs, hr', hrun, hended, hW, hsame⟩ := X.leave (v := some (.long x)) (fun q => by rw [hret, hr] at q; cases q) hlk
  exact ⟨_, _, retOut X hx (t := .long) (i := .lreturn) (hret.trans hr) rfl (Or.inr (Or.inl ⟨rfl, rfl, _, rfl⟩)) (hb hby hd) hr', hrun, hended, _, _, rfl, ⟨by show P _ T.heap; rw [eT]; exact hp, N⟩, ⟨_, rfl⟩, hW, hsame.mono hc hs⟩
theorem W.areturn {v : Value} {t : FieldType} (hd : decode bytes pc = .ok (.areturn, 1)) (hr : ret = some t) (ht : t.isReference = true) (hv : v.isRef = true) (hn : narrow t v = v) (hp : P (some v) h) (hc : cells ≤ R.cells) (hs : slots ≤ R.slots) : W l R Z own nm bytes maxL ret n0 P h cells slots pc Ls (v :: st) := by
  intro p e s m args below meth c T locs hx hZ hby hml hown hret hlk hnm hn0 X eT N
  obtain ⟨fs, hr', hrun, hended, hW, hsame⟩ := X.leave (v := some v) (fun q => by rw [hret, hr] at q; cases q) hlk
  exact ⟨_, _, retOut X hx (t := t) (i := .areturn) (hret.trans hr) hn (Or.inr (Or.inr (Or.inr (Or.inr ⟨rfl, ht, hv⟩)))) (hb hby hd) hr', hrun, hended, _, _, rfl, ⟨by show P _ T.heap; rw [eT]; exact hp, N⟩, ⟨_, rfl⟩, hW, hsame.mono hc hs⟩
theorem W.return_ (hd : decode bytes pc = .ok (.return_, 1)) (hr : ret = none) (hp : P none h) (hc : cells ≤ R.cells) (hs : slots ≤ R.slots) : W l R Z own nm bytes maxL ret n0 P h cells slots pc Ls [] := by
  intro p e s m args below meth c T locs hx hZ hby hml hown hret hlk hnm hn0 X eT N
  obtain ⟨fs, hr', hrun, hended, hW, hsame⟩ := X.leave (v := none) (fun q => rfl) hlk
  exact ⟨_, _, X.returnOut hx (hret.trans hr) (hb hby hd) hr', hrun, hended, _, _, rfl, ⟨by show P _ T.heap; rw [eT]; exact hp, N⟩, ⟨_, rfl⟩, hW, hsame.mono hc hs⟩
end Rules
end Jvm.Wk

namespace Jvm.Pilot.@@N@@
open Jvm Jvm.ClassFile Sem Op Lib Jvm.Free Jvm.Stand Jvm.LawKit Jvm.RoadKit Jvm.Wk Bundle Jvm.Pilot.@@N@@.Jvm.D
theorem d_jdk_65_method_103_0 : decode jdk_65_method_103_code 0 = .ok (.iconst 0, 1) := by decide +kernel
theorem d_jdk_65_method_103_1 : decode jdk_65_method_103_code 1 = .ok (.istore_n 2, 1) := by decide +kernel
theorem d_jdk_65_method_103_2 : decode jdk_65_method_103_code 2 = .ok (.aload_n 0, 1) := by decide +kernel
theorem d_jdk_65_method_103_3 : decode jdk_65_method_103_code 3 = .ok (.arraylength, 1) := by decide +kernel
theorem d_jdk_65_method_103_4 : decode jdk_65_method_103_code 4 = .ok (.istore_n 3, 1) := by decide +kernel
theorem d_jdk_65_method_103_5 : decode jdk_65_method_103_code 5 = .ok (.iload_n 2, 1) := by decide +kernel
theorem d_jdk_65_method_103_6 : decode jdk_65_method_103_code 6 = .ok (.iload_n 3, 1) := by decide +kernel
theorem d_jdk_65_method_103_7 : decode jdk_65_method_103_code 7 = .ok (.if_icmp .ge 13, 3) := by decide +kernel
theorem d_jdk_65_method_103_10 : decode jdk_65_method_103_code 10 = .ok (.aload_n 0, 1) := by decide +kernel
theorem d_jdk_65_method_103_11 : decode jdk_65_method_103_code 11 = .ok (.iload_n 2, 1) := by decide +kernel
theorem d_jdk_65_method_103_12 : decode jdk_65_method_103_code 12 = .ok (.iload_n 1, 1) := by decide +kernel
theorem d_jdk_65_method_103_13 : decode jdk_65_method_103_code 13 = .ok (.iastore, 1) := by decide +kernel
theorem d_jdk_65_method_103_14 : decode jdk_65_method_103_code 14 = .ok (.iinc 2 1, 3) := by decide +kernel
theorem d_jdk_65_method_103_17 : decode jdk_65_method_103_code 17 = .ok (.goto (-12), 3) := by decide +kernel
theorem d_jdk_65_method_103_20 : decode jdk_65_method_103_code 20 = .ok (.return_, 1) := by decide +kernel
theorem pn_0 : plainName "java/util/Arrays" = true := by first | (simp [plainName, overriddenIn]; done) | decide +kernel
theorem d_prog_30_method_10_0 : decode prog_30_method_10_code 0 = .ok (.iload_n 0, 1) := by decide +kernel
theorem d_prog_30_method_10_1 : decode prog_30_method_10_code 1 = .ok (.newarray .int, 2) := by decide +kernel
theorem wd_10 {Z : State} {a0 : Array Value} (hw : ∀ d ∈ tables_1, d.before a0 Z = true) : (Jvm.Cond.arrayClass Jvm.ClassFile.FieldType.int).before a0 Z = true := hw _ (List.mem_of_getElem? (i := 10) rfl)
theorem d_prog_30_method_10_3 : decode prog_30_method_10_code 3 = .ok (.astore_n 1, 1) := by decide +kernel
theorem d_prog_30_method_10_4 : decode prog_30_method_10_code 4 = .ok (.aload_n 1, 1) := by decide +kernel
theorem d_prog_30_method_10_5 : decode prog_30_method_10_code 5 = .ok (.iconst (-1), 1) := by decide +kernel
theorem d_prog_30_method_10_6 : decode prog_30_method_10_code 6 = .ok (.invokestatic 96, 3) := by decide +kernel
theorem wd_16 {Z : State} {a0 : Array Value} (hw : ∀ d ∈ tables_1, d.before a0 Z = true) : (Jvm.Cond.methodLink "com/example/pathweave/pathweave/eval/Relation" (96 : Nat) ({ cls := "java/util/Arrays", name := "fill", desc := "([II)V" } : Jvm.MethodName)).before a0 Z = true := hw _ (List.mem_of_getElem? (i := 16) rfl)
theorem wd_19 {Z : State} {a0 : Array Value} (hw : ∀ d ∈ tables_1, d.before a0 Z = true) : (Jvm.Cond.code ({ cls := "java/util/Arrays", name := "fill", desc := "([II)V" } : Jvm.MethodName) jdk_65_method_103_code (4 : Nat) (Option.none : Option Jvm.ClassFile.FieldType)).before a0 Z = true := hw _ (List.mem_of_getElem? (i := 19) rfl)
theorem pd_0 : parseMethodDescriptor "([II)V" = some ⟨[(.array .int), .int], none⟩ := by decide +kernel
theorem wd_17 {Z : State} {a0 : Array Value} (hw : ∀ d ∈ tables_1, d.before a0 Z = true) : (Jvm.Cond.static ({ cls := "java/util/Arrays", name := "fill", desc := "([II)V" } : Jvm.MethodName)).before a0 Z = true := hw _ (List.mem_of_getElem? (i := 17) rfl)
theorem wd_18 {Z : State} {a0 : Array Value} (hw : ∀ d ∈ tables_1, d.before a0 Z = true) : (Jvm.Cond.initialized "java/util/Arrays").before a0 Z = true := hw _ (List.mem_of_getElem? (i := 18) rfl)
theorem d_prog_30_method_10_9 : decode prog_30_method_10_code 9 = .ok (.aload_n 1, 1) := by decide +kernel
theorem d_prog_30_method_10_10 : decode prog_30_method_10_code 10 = .ok (.areturn, 1) := by decide +kernel
theorem pn_1 : plainName "com/example/pathweave/pathweave/eval/Relation" = true := by first | (simp [plainName, overriddenIn]; done) | decide +kernel
theorem d_jdk_71_method_1_0 : decode jdk_71_method_1_code 0 = .ok (.aload_n 0, 1) := by decide +kernel
theorem d_jdk_71_method_1_1 : decode jdk_71_method_1_code 1 = .ok (.invokespecial 1, 3) := by decide +kernel
theorem wd_34 {Z : State} {a0 : Array Value} (hw : ∀ d ∈ tables_1, d.before a0 Z = true) : (Jvm.Cond.methodLink "java/util/AbstractMap" (1 : Nat) ({ cls := "java/lang/Object", name := "<init>", desc := "()V" } : Jvm.MethodName)).before a0 Z = true := hw _ (List.mem_of_getElem? (i := 34) rfl)
theorem wd_9 {Z : State} {a0 : Array Value} (hw : ∀ d ∈ tables_1, d.before a0 Z = true) : (Jvm.Cond.code ({ cls := "java/lang/Object", name := "<init>", desc := "()V" } : Jvm.MethodName) object_method_1_code (1 : Nat) (Option.none : Option Jvm.ClassFile.FieldType)).before a0 Z = true := hw _ (List.mem_of_getElem? (i := 9) rfl)
theorem wd_8 {Z : State} {a0 : Array Value} (hw : ∀ d ∈ tables_1, d.before a0 Z = true) : (Jvm.Cond.instanceMethod ({ cls := "java/lang/Object", name := "<init>", desc := "()V" } : Jvm.MethodName)).before a0 Z = true := hw _ (List.mem_of_getElem? (i := 8) rfl)
theorem d_jdk_71_method_1_4 : decode jdk_71_method_1_code 4 = .ok (.return_, 1) := by decide +kernel
theorem pn_2 : plainName "java/util/AbstractMap" = true := by first | (simp [plainName, overriddenIn]; done) | decide +kernel
theorem d_jdk_69_method_7_0 : decode jdk_69_method_7_code 0 = .ok (.aload_n 0, 1) := by decide +kernel
theorem d_jdk_69_method_7_1 : decode jdk_69_method_7_code 1 = .ok (.invokespecial 43, 3) := by decide +kernel
theorem wd_28 {Z : State} {a0 : Array Value} (hw : ∀ d ∈ tables_1, d.before a0 Z = true) : (Jvm.Cond.methodLink "java/util/HashMap" (43 : Nat) ({ cls := "java/util/AbstractMap", name := "<init>", desc := "()V" } : Jvm.MethodName)).before a0 Z = true := hw _ (List.mem_of_getElem? (i := 28) rfl)
theorem wd_33 {Z : State} {a0 : Array Value} (hw : ∀ d ∈ tables_1, d.before a0 Z = true) : (Jvm.Cond.code ({ cls := "java/util/AbstractMap", name := "<init>", desc := "()V" } : Jvm.MethodName) jdk_71_method_1_code (1 : Nat) (Option.none : Option Jvm.ClassFile.FieldType)).before a0 Z = true := hw _ (List.mem_of_getElem? (i := 33) rfl)
theorem pd_1 : parseMethodDescriptor "()V" = some ⟨[], none⟩ := by decide +kernel
theorem wd_29 {Z : State} {a0 : Array Value} (hw : ∀ d ∈ tables_1, d.before a0 Z = true) : (Jvm.Cond.instanceMethod ({ cls := "java/util/AbstractMap", name := "<init>", desc := "()V" } : Jvm.MethodName)).before a0 Z = true := hw _ (List.mem_of_getElem? (i := 29) rfl)
theorem wd_32 {Z : State} {a0 : Array Value} (hw : ∀ d ∈ tables_1, d.before a0 Z = true) : (Jvm.Cond.initialized "java/util/AbstractMap").before a0 Z = true := hw _ (List.mem_of_getElem? (i := 32) rfl)
theorem d_jdk_69_method_7_4 : decode jdk_69_method_7_code 4 = .ok (.aload_n 0, 1) := by decide +kernel
theorem d_jdk_69_method_7_5 : decode jdk_69_method_7_code 5 = .ok (.ldc 92, 2) := by decide +kernel
theorem wd_35 {Z : State} {a0 : Array Value} (hw : ∀ d ∈ tables_1, d.before a0 Z = true) : (Jvm.Cond.constantFloat "java/util/HashMap" (92 : Nat) (1061158912 : UInt32)).before a0 Z = true := hw _ (List.mem_of_getElem? (i := 35) rfl)
theorem d_jdk_69_method_7_7 : decode jdk_69_method_7_code 7 = .ok (.putfield 81, 3) := by decide +kernel
theorem wd_36 {Z : State} {a0 : Array Value} (hw : ∀ d ∈ tables_1, d.before a0 Z = true) : (Jvm.Cond.fieldLink "java/util/HashMap" (81 : Nat) "java/util/HashMap" "loadFactor" "F").before a0 Z = true := hw _ (List.mem_of_getElem? (i := 36) rfl)
theorem wd_37 {Z : State} {a0 : Array Value} (hw : ∀ d ∈ tables_1, d.before a0 Z = true) : (Jvm.Cond.laysFinal "java/util/HashMap" "java/util/HashMap" "loadFactor" "F").before a0 Z = true := hw _ (List.mem_of_getElem? (i := 37) rfl)
theorem wd_23 {Z : State} {a0 : Array Value} (hw : ∀ d ∈ tables_1, d.before a0 Z = true) : (Jvm.Cond.instantiable "java/util/HashMap" (8 : Nat)).before a0 Z = true := hw _ (List.mem_of_getElem? (i := 23) rfl)
theorem d_jdk_69_method_7_10 : decode jdk_69_method_7_code 10 = .ok (.return_, 1) := by decide +kernel
theorem wd_71 {Z : State} {a0 : Array Value} (hw : ∀ d ∈ tables_1, d.before a0 Z = true) : (Jvm.Cond.lays "java/util/HashMap" "java/util/HashMap" "modCount" "I").before a0 Z = true := hw _ (List.mem_of_getElem? (i := 71) rfl)
theorem sne_0 {Z : State} {a0 : Array Value} (hw : ∀ d ∈ tables_1, d.before a0 Z = true) : RoadKit.slotOf Z "java/util/HashMap" "modCount" "I" ≠ RoadKit.slotOf Z "java/util/HashMap" "loadFactor" "F" := slot_ne (C := "java/util/HashMap") (Or.inl (wd_71 hw)) (Or.inr (wd_37 hw)) (by decide) (t := .int) (t' := .float) (by decide) (by decide)
theorem wd_73 {Z : State} {a0 : Array Value} (hw : ∀ d ∈ tables_1, d.before a0 Z = true) : (Jvm.Cond.lays "java/util/HashMap" "java/util/HashMap" "table" "[Ljava/util/HashMap$Node;").before a0 Z = true := hw _ (List.mem_of_getElem? (i := 73) rfl)
theorem sne_1 {Z : State} {a0 : Array Value} (hw : ∀ d ∈ tables_1, d.before a0 Z = true) : RoadKit.slotOf Z "java/util/HashMap" "table" "[Ljava/util/HashMap$Node;" ≠ RoadKit.slotOf Z "java/util/HashMap" "loadFactor" "F" := slot_ne (C := "java/util/HashMap") (Or.inl (wd_73 hw)) (Or.inr (wd_37 hw)) (by decide) (t := (.array (.object "java/util/HashMap$Node"))) (t' := .float) (by decide) (by decide)
theorem pn_3 : plainName "java/util/HashMap" = true := by first | (simp [plainName, overriddenIn]; done) | decide +kernel
theorem d_jdk_69_method_22_0 : decode jdk_69_method_22_code 0 = .ok (.aload_n 0, 1) := by decide +kernel
theorem d_jdk_69_method_22_1 : decode jdk_69_method_22_code 1 = .ok (.dup, 1) := by decide +kernel
theorem d_jdk_69_method_22_2 : decode jdk_69_method_22_code 2 = .ok (.getfield 202, 3) := by decide +kernel
theorem wd_70 {Z : State} {a0 : Array Value} (hw : ∀ d ∈ tables_1, d.before a0 Z = true) : (Jvm.Cond.fieldLink "java/util/HashMap" (202 : Nat) "java/util/HashMap" "modCount" "I").before a0 Z = true := hw _ (List.mem_of_getElem? (i := 70) rfl)
theorem d_jdk_69_method_22_5 : decode jdk_69_method_22_code 5 = .ok (.iconst 1, 1) := by decide +kernel
theorem d_jdk_69_method_22_6 : decode jdk_69_method_22_code 6 = .ok (.iadd, 1) := by decide +kernel
theorem d_jdk_69_method_22_7 : decode jdk_69_method_22_code 7 = .ok (.putfield 202, 3) := by decide +kernel
theorem d_jdk_69_method_22_10 : decode jdk_69_method_22_code 10 = .ok (.aload_n 0, 1) := by decide +kernel
theorem d_jdk_69_method_22_11 : decode jdk_69_method_22_code 11 = .ok (.getfield 105, 3) := by decide +kernel
theorem wd_72 {Z : State} {a0 : Array Value} (hw : ∀ d ∈ tables_1, d.before a0 Z = true) : (Jvm.Cond.fieldLink "java/util/HashMap" (105 : Nat) "java/util/HashMap" "table" "[Ljava/util/HashMap$Node;").before a0 Z = true := hw _ (List.mem_of_getElem? (i := 72) rfl)
theorem sne_2 {Z : State} {a0 : Array Value} (hw : ∀ d ∈ tables_1, d.before a0 Z = true) : RoadKit.slotOf Z "java/util/HashMap" "table" "[Ljava/util/HashMap$Node;" ≠ RoadKit.slotOf Z "java/util/HashMap" "modCount" "I" := slot_ne (C := "java/util/HashMap") (Or.inl (wd_73 hw)) (Or.inl (wd_71 hw)) (by decide) (t := (.array (.object "java/util/HashMap$Node"))) (t' := .int) (by decide) (by decide)
theorem d_jdk_69_method_22_14 : decode jdk_69_method_22_code 14 = .ok (.dup, 1) := by decide +kernel
theorem d_jdk_69_method_22_15 : decode jdk_69_method_22_code 15 = .ok (.astore_n 1, 1) := by decide +kernel
theorem d_jdk_69_method_22_16 : decode jdk_69_method_22_code 16 = .ok (.ifnull 33, 3) := by decide +kernel
theorem d_jdk_69_method_22_49 : decode jdk_69_method_22_code 49 = .ok (.return_, 1) := by decide +kernel
theorem d_prog_30_method_1_0 : decode prog_30_method_1_code 0 = .ok (.aload_n 0, 1) := by decide +kernel
theorem d_prog_30_method_1_1 : decode prog_30_method_1_code 1 = .ok (.invokespecial 1, 3) := by decide +kernel
theorem wd_7 {Z : State} {a0 : Array Value} (hw : ∀ d ∈ tables_1, d.before a0 Z = true) : (Jvm.Cond.methodLink "com/example/pathweave/pathweave/eval/Relation" (1 : Nat) ({ cls := "java/lang/Object", name := "<init>", desc := "()V" } : Jvm.MethodName)).before a0 Z = true := hw _ (List.mem_of_getElem? (i := 7) rfl)
theorem d_prog_30_method_1_4 : decode prog_30_method_1_code 4 = .ok (.aload_n 0, 1) := by decide +kernel
theorem d_prog_30_method_1_5 : decode prog_30_method_1_code 5 = .ok (.bipush 16, 2) := by decide +kernel
theorem d_prog_30_method_1_7 : decode prog_30_method_1_code 7 = .ok (.newarray .int, 2) := by decide +kernel
theorem d_prog_30_method_1_9 : decode prog_30_method_1_code 9 = .ok (.putfield 7, 3) := by decide +kernel
theorem wd_11 {Z : State} {a0 : Array Value} (hw : ∀ d ∈ tables_1, d.before a0 Z = true) : (Jvm.Cond.fieldLink "com/example/pathweave/pathweave/eval/Relation" (7 : Nat) "com/example/pathweave/pathweave/eval/Relation" "values" "[I").before a0 Z = true := hw _ (List.mem_of_getElem? (i := 11) rfl)
theorem wd_12 {Z : State} {a0 : Array Value} (hw : ∀ d ∈ tables_1, d.before a0 Z = true) : (Jvm.Cond.lays "com/example/pathweave/pathweave/eval/Relation" "com/example/pathweave/pathweave/eval/Relation" "values" "[I").before a0 Z = true := hw _ (List.mem_of_getElem? (i := 12) rfl)
theorem wd_2 {Z : State} {a0 : Array Value} (hw : ∀ d ∈ tables_1, d.before a0 Z = true) : (Jvm.Cond.instantiable "com/example/pathweave/pathweave/eval/Relation" (5 : Nat)).before a0 Z = true := hw _ (List.mem_of_getElem? (i := 2) rfl)
theorem d_prog_30_method_1_12 : decode prog_30_method_1_code 12 = .ok (.aload_n 0, 1) := by decide +kernel
theorem d_prog_30_method_1_13 : decode prog_30_method_1_code 13 = .ok (.bipush 16, 2) := by decide +kernel
theorem d_prog_30_method_1_15 : decode prog_30_method_1_code 15 = .ok (.invokestatic 13, 3) := by decide +kernel
theorem wd_13 {Z : State} {a0 : Array Value} (hw : ∀ d ∈ tables_1, d.before a0 Z = true) : (Jvm.Cond.methodLink "com/example/pathweave/pathweave/eval/Relation" (13 : Nat) ({ cls := "com/example/pathweave/pathweave/eval/Relation", name := "emptySlots", desc := "(I)[I" } : Jvm.MethodName)).before a0 Z = true := hw _ (List.mem_of_getElem? (i := 13) rfl)
theorem wd_15 {Z : State} {a0 : Array Value} (hw : ∀ d ∈ tables_1, d.before a0 Z = true) : (Jvm.Cond.code ({ cls := "com/example/pathweave/pathweave/eval/Relation", name := "emptySlots", desc := "(I)[I" } : Jvm.MethodName) prog_30_method_10_code (2 : Nat) (Option.some (Jvm.ClassFile.FieldType.array Jvm.ClassFile.FieldType.int))).before a0 Z = true := hw _ (List.mem_of_getElem? (i := 15) rfl)
theorem pd_2 : parseMethodDescriptor "(I)[I" = some ⟨[.int], some (.array .int)⟩ := by decide +kernel
theorem wd_14 {Z : State} {a0 : Array Value} (hw : ∀ d ∈ tables_1, d.before a0 Z = true) : (Jvm.Cond.static ({ cls := "com/example/pathweave/pathweave/eval/Relation", name := "emptySlots", desc := "(I)[I" } : Jvm.MethodName)).before a0 Z = true := hw _ (List.mem_of_getElem? (i := 14) rfl)
theorem wd_3 {Z : State} {a0 : Array Value} (hw : ∀ d ∈ tables_1, d.before a0 Z = true) : (Jvm.Cond.initialized "com/example/pathweave/pathweave/eval/Relation").before a0 Z = true := hw _ (List.mem_of_getElem? (i := 3) rfl)
theorem d_prog_30_method_1_18 : decode prog_30_method_1_code 18 = .ok (.putfield 17, 3) := by decide +kernel
theorem wd_20 {Z : State} {a0 : Array Value} (hw : ∀ d ∈ tables_1, d.before a0 Z = true) : (Jvm.Cond.fieldLink "com/example/pathweave/pathweave/eval/Relation" (17 : Nat) "com/example/pathweave/pathweave/eval/Relation" "slots" "[I").before a0 Z = true := hw _ (List.mem_of_getElem? (i := 20) rfl)
theorem wd_21 {Z : State} {a0 : Array Value} (hw : ∀ d ∈ tables_1, d.before a0 Z = true) : (Jvm.Cond.lays "com/example/pathweave/pathweave/eval/Relation" "com/example/pathweave/pathweave/eval/Relation" "slots" "[I").before a0 Z = true := hw _ (List.mem_of_getElem? (i := 21) rfl)
theorem sne_3 {Z : State} {a0 : Array Value} (hw : ∀ d ∈ tables_1, d.before a0 Z = true) : RoadKit.slotOf Z "com/example/pathweave/pathweave/eval/Relation" "slots" "[I" ≠ RoadKit.slotOf Z "com/example/pathweave/pathweave/eval/Relation" "values" "[I" := slot_ne (C := "com/example/pathweave/pathweave/eval/Relation") (Or.inl (wd_21 hw)) (Or.inl (wd_12 hw)) (by decide) (t := (.array .int)) (t' := (.array .int)) (by decide) (by decide)
theorem d_prog_30_method_1_21 : decode prog_30_method_1_code 21 = .ok (.aload_n 0, 1) := by decide +kernel
theorem d_prog_30_method_1_22 : decode prog_30_method_1_code 22 = .ok (.new 20, 3) := by decide +kernel
theorem wd_22 {Z : State} {a0 : Array Value} (hw : ∀ d ∈ tables_1, d.before a0 Z = true) : (Jvm.Cond.classLink "com/example/pathweave/pathweave/eval/Relation" (20 : Nat) "java/util/HashMap").before a0 Z = true := hw _ (List.mem_of_getElem? (i := 22) rfl)
theorem wd_24 {Z : State} {a0 : Array Value} (hw : ∀ d ∈ tables_1, d.before a0 Z = true) : (Jvm.Cond.initialized "java/util/HashMap").before a0 Z = true := hw _ (List.mem_of_getElem? (i := 24) rfl)
theorem d_prog_30_method_1_25 : decode prog_30_method_1_code 25 = .ok (.dup, 1) := by decide +kernel
theorem d_prog_30_method_1_26 : decode prog_30_method_1_code 26 = .ok (.invokespecial 22, 3) := by decide +kernel
theorem wd_25 {Z : State} {a0 : Array Value} (hw : ∀ d ∈ tables_1, d.before a0 Z = true) : (Jvm.Cond.methodLink "com/example/pathweave/pathweave/eval/Relation" (22 : Nat) ({ cls := "java/util/HashMap", name := "<init>", desc := "()V" } : Jvm.MethodName)).before a0 Z = true := hw _ (List.mem_of_getElem? (i := 25) rfl)
theorem wd_27 {Z : State} {a0 : Array Value} (hw : ∀ d ∈ tables_1, d.before a0 Z = true) : (Jvm.Cond.code ({ cls := "java/util/HashMap", name := "<init>", desc := "()V" } : Jvm.MethodName) jdk_69_method_7_code (1 : Nat) (Option.none : Option Jvm.ClassFile.FieldType)).before a0 Z = true := hw _ (List.mem_of_getElem? (i := 27) rfl)
theorem wd_26 {Z : State} {a0 : Array Value} (hw : ∀ d ∈ tables_1, d.before a0 Z = true) : (Jvm.Cond.instanceMethod ({ cls := "java/util/HashMap", name := "<init>", desc := "()V" } : Jvm.MethodName)).before a0 Z = true := hw _ (List.mem_of_getElem? (i := 26) rfl)
theorem d_prog_30_method_1_29 : decode prog_30_method_1_code 29 = .ok (.putfield 23, 3) := by decide +kernel
theorem wd_38 {Z : State} {a0 : Array Value} (hw : ∀ d ∈ tables_1, d.before a0 Z = true) : (Jvm.Cond.fieldLink "com/example/pathweave/pathweave/eval/Relation" (23 : Nat) "com/example/pathweave/pathweave/eval/Relation" "indexes" "Ljava/util/Map;").before a0 Z = true := hw _ (List.mem_of_getElem? (i := 38) rfl)
theorem wd_39 {Z : State} {a0 : Array Value} (hw : ∀ d ∈ tables_1, d.before a0 Z = true) : (Jvm.Cond.laysFinal "com/example/pathweave/pathweave/eval/Relation" "com/example/pathweave/pathweave/eval/Relation" "indexes" "Ljava/util/Map;").before a0 Z = true := hw _ (List.mem_of_getElem? (i := 39) rfl)
theorem sne_4 {Z : State} {a0 : Array Value} (hw : ∀ d ∈ tables_1, d.before a0 Z = true) : RoadKit.slotOf Z "com/example/pathweave/pathweave/eval/Relation" "indexes" "Ljava/util/Map;" ≠ RoadKit.slotOf Z "com/example/pathweave/pathweave/eval/Relation" "values" "[I" := slot_ne (C := "com/example/pathweave/pathweave/eval/Relation") (Or.inr (wd_39 hw)) (Or.inl (wd_12 hw)) (by decide) (t := (.object "java/util/Map")) (t' := (.array .int)) (by decide) (by decide)
theorem sne_5 {Z : State} {a0 : Array Value} (hw : ∀ d ∈ tables_1, d.before a0 Z = true) : RoadKit.slotOf Z "com/example/pathweave/pathweave/eval/Relation" "indexes" "Ljava/util/Map;" ≠ RoadKit.slotOf Z "com/example/pathweave/pathweave/eval/Relation" "slots" "[I" := slot_ne (C := "com/example/pathweave/pathweave/eval/Relation") (Or.inr (wd_39 hw)) (Or.inl (wd_21 hw)) (by decide) (t := (.object "java/util/Map")) (t' := (.array .int)) (by decide) (by decide)
theorem d_prog_30_method_1_32 : decode prog_30_method_1_code 32 = .ok (.aload_n 0, 1) := by decide +kernel
theorem d_prog_30_method_1_33 : decode prog_30_method_1_code 33 = .ok (.iload_n 1, 1) := by decide +kernel
theorem d_prog_30_method_1_34 : decode prog_30_method_1_code 34 = .ok (.putfield 27, 3) := by decide +kernel
theorem wd_40 {Z : State} {a0 : Array Value} (hw : ∀ d ∈ tables_1, d.before a0 Z = true) : (Jvm.Cond.fieldLink "com/example/pathweave/pathweave/eval/Relation" (27 : Nat) "com/example/pathweave/pathweave/eval/Relation" "arity" "I").before a0 Z = true := hw _ (List.mem_of_getElem? (i := 40) rfl)
theorem wd_41 {Z : State} {a0 : Array Value} (hw : ∀ d ∈ tables_1, d.before a0 Z = true) : (Jvm.Cond.laysFinal "com/example/pathweave/pathweave/eval/Relation" "com/example/pathweave/pathweave/eval/Relation" "arity" "I").before a0 Z = true := hw _ (List.mem_of_getElem? (i := 41) rfl)
theorem sne_6 {Z : State} {a0 : Array Value} (hw : ∀ d ∈ tables_1, d.before a0 Z = true) : RoadKit.slotOf Z "com/example/pathweave/pathweave/eval/Relation" "arity" "I" ≠ RoadKit.slotOf Z "com/example/pathweave/pathweave/eval/Relation" "values" "[I" := slot_ne (C := "com/example/pathweave/pathweave/eval/Relation") (Or.inr (wd_41 hw)) (Or.inl (wd_12 hw)) (by decide) (t := .int) (t' := (.array .int)) (by decide) (by decide)
theorem sne_7 {Z : State} {a0 : Array Value} (hw : ∀ d ∈ tables_1, d.before a0 Z = true) : RoadKit.slotOf Z "com/example/pathweave/pathweave/eval/Relation" "arity" "I" ≠ RoadKit.slotOf Z "com/example/pathweave/pathweave/eval/Relation" "slots" "[I" := slot_ne (C := "com/example/pathweave/pathweave/eval/Relation") (Or.inr (wd_41 hw)) (Or.inl (wd_21 hw)) (by decide) (t := .int) (t' := (.array .int)) (by decide) (by decide)
theorem sne_8 {Z : State} {a0 : Array Value} (hw : ∀ d ∈ tables_1, d.before a0 Z = true) : RoadKit.slotOf Z "com/example/pathweave/pathweave/eval/Relation" "arity" "I" ≠ RoadKit.slotOf Z "com/example/pathweave/pathweave/eval/Relation" "indexes" "Ljava/util/Map;" := slot_ne (C := "com/example/pathweave/pathweave/eval/Relation") (Or.inr (wd_41 hw)) (Or.inr (wd_39 hw)) (by decide) (t := .int) (t' := (.object "java/util/Map")) (by decide) (by decide)
theorem d_prog_30_method_1_37 : decode prog_30_method_1_code 37 = .ok (.return_, 1) := by decide +kernel
theorem sne_9 {Z : State} {a0 : Array Value} (hw : ∀ d ∈ tables_1, d.before a0 Z = true) : RoadKit.slotOf Z "com/example/pathweave/pathweave/eval/Relation" "values" "[I" ≠ RoadKit.slotOf Z "com/example/pathweave/pathweave/eval/Relation" "slots" "[I" := slot_ne (C := "com/example/pathweave/pathweave/eval/Relation") (Or.inl (wd_12 hw)) (Or.inl (wd_21 hw)) (by decide) (t := (.array .int)) (t' := (.array .int)) (by decide) (by decide)
theorem sne_10 {Z : State} {a0 : Array Value} (hw : ∀ d ∈ tables_1, d.before a0 Z = true) : RoadKit.slotOf Z "com/example/pathweave/pathweave/eval/Relation" "values" "[I" ≠ RoadKit.slotOf Z "com/example/pathweave/pathweave/eval/Relation" "indexes" "Ljava/util/Map;" := slot_ne (C := "com/example/pathweave/pathweave/eval/Relation") (Or.inl (wd_12 hw)) (Or.inr (wd_39 hw)) (by decide) (t := (.array .int)) (t' := (.object "java/util/Map")) (by decide) (by decide)
theorem sne_11 {Z : State} {a0 : Array Value} (hw : ∀ d ∈ tables_1, d.before a0 Z = true) : RoadKit.slotOf Z "com/example/pathweave/pathweave/eval/Relation" "values" "[I" ≠ RoadKit.slotOf Z "com/example/pathweave/pathweave/eval/Relation" "arity" "I" := slot_ne (C := "com/example/pathweave/pathweave/eval/Relation") (Or.inl (wd_12 hw)) (Or.inr (wd_41 hw)) (by decide) (t := (.array .int)) (t' := .int) (by decide) (by decide)
theorem sne_12 {Z : State} {a0 : Array Value} (hw : ∀ d ∈ tables_1, d.before a0 Z = true) : RoadKit.slotOf Z "com/example/pathweave/pathweave/eval/Relation" "slots" "[I" ≠ RoadKit.slotOf Z "com/example/pathweave/pathweave/eval/Relation" "indexes" "Ljava/util/Map;" := slot_ne (C := "com/example/pathweave/pathweave/eval/Relation") (Or.inl (wd_21 hw)) (Or.inr (wd_39 hw)) (by decide) (t := (.array .int)) (t' := (.object "java/util/Map")) (by decide) (by decide)
theorem sne_13 {Z : State} {a0 : Array Value} (hw : ∀ d ∈ tables_1, d.before a0 Z = true) : RoadKit.slotOf Z "com/example/pathweave/pathweave/eval/Relation" "slots" "[I" ≠ RoadKit.slotOf Z "com/example/pathweave/pathweave/eval/Relation" "arity" "I" := slot_ne (C := "com/example/pathweave/pathweave/eval/Relation") (Or.inl (wd_21 hw)) (Or.inr (wd_41 hw)) (by decide) (t := (.array .int)) (t' := .int) (by decide) (by decide)
theorem sne_14 {Z : State} {a0 : Array Value} (hw : ∀ d ∈ tables_1, d.before a0 Z = true) : RoadKit.slotOf Z "com/example/pathweave/pathweave/eval/Relation" "indexes" "Ljava/util/Map;" ≠ RoadKit.slotOf Z "com/example/pathweave/pathweave/eval/Relation" "arity" "I" := slot_ne (C := "com/example/pathweave/pathweave/eval/Relation") (Or.inr (wd_39 hw)) (Or.inr (wd_41 hw)) (by decide) (t := (.object "java/util/Map")) (t' := .int) (by decide) (by decide)
theorem wd_56 {Z : State} {a0 : Array Value} (hw : ∀ d ∈ tables_1, d.before a0 Z = true) : (Jvm.Cond.lays "com/example/pathweave/pathweave/eval/Relation" "com/example/pathweave/pathweave/eval/Relation" "size" "I").before a0 Z = true := hw _ (List.mem_of_getElem? (i := 56) rfl)
theorem sne_15 {Z : State} {a0 : Array Value} (hw : ∀ d ∈ tables_1, d.before a0 Z = true) : RoadKit.slotOf Z "com/example/pathweave/pathweave/eval/Relation" "size" "I" ≠ RoadKit.slotOf Z "com/example/pathweave/pathweave/eval/Relation" "values" "[I" := slot_ne (C := "com/example/pathweave/pathweave/eval/Relation") (Or.inl (wd_56 hw)) (Or.inl (wd_12 hw)) (by decide) (t := .int) (t' := (.array .int)) (by decide) (by decide)
theorem sne_16 {Z : State} {a0 : Array Value} (hw : ∀ d ∈ tables_1, d.before a0 Z = true) : RoadKit.slotOf Z "com/example/pathweave/pathweave/eval/Relation" "size" "I" ≠ RoadKit.slotOf Z "com/example/pathweave/pathweave/eval/Relation" "slots" "[I" := slot_ne (C := "com/example/pathweave/pathweave/eval/Relation") (Or.inl (wd_56 hw)) (Or.inl (wd_21 hw)) (by decide) (t := .int) (t' := (.array .int)) (by decide) (by decide)
theorem sne_17 {Z : State} {a0 : Array Value} (hw : ∀ d ∈ tables_1, d.before a0 Z = true) : RoadKit.slotOf Z "com/example/pathweave/pathweave/eval/Relation" "size" "I" ≠ RoadKit.slotOf Z "com/example/pathweave/pathweave/eval/Relation" "indexes" "Ljava/util/Map;" := slot_ne (C := "com/example/pathweave/pathweave/eval/Relation") (Or.inl (wd_56 hw)) (Or.inr (wd_39 hw)) (by decide) (t := .int) (t' := (.object "java/util/Map")) (by decide) (by decide)
theorem sne_18 {Z : State} {a0 : Array Value} (hw : ∀ d ∈ tables_1, d.before a0 Z = true) : RoadKit.slotOf Z "com/example/pathweave/pathweave/eval/Relation" "size" "I" ≠ RoadKit.slotOf Z "com/example/pathweave/pathweave/eval/Relation" "arity" "I" := slot_ne (C := "com/example/pathweave/pathweave/eval/Relation") (Or.inl (wd_56 hw)) (Or.inr (wd_41 hw)) (by decide) (t := .int) (t' := .int) (by decide) (by decide)
theorem d_prog_30_method_11_0 : decode prog_30_method_11_code 0 = .ok (.iconst 1, 1) := by decide +kernel
theorem d_prog_30_method_11_1 : decode prog_30_method_11_code 1 = .ok (.istore_n 3, 1) := by decide +kernel
theorem d_prog_30_method_11_2 : decode prog_30_method_11_code 2 = .ok (.iload_n 1, 1) := by decide +kernel
theorem d_prog_30_method_11_3 : decode prog_30_method_11_code 3 = .ok (.istore 4, 2) := by decide +kernel
theorem d_prog_30_method_11_5 : decode prog_30_method_11_code 5 = .ok (.iload 4, 2) := by decide +kernel
theorem d_prog_30_method_11_7 : decode prog_30_method_11_code 7 = .ok (.iload_n 1, 1) := by decide +kernel
theorem d_prog_30_method_11_8 : decode prog_30_method_11_code 8 = .ok (.iload_n 2, 1) := by decide +kernel
theorem d_prog_30_method_11_9 : decode prog_30_method_11_code 9 = .ok (.iadd, 1) := by decide +kernel
theorem d_prog_30_method_11_10 : decode prog_30_method_11_code 10 = .ok (.if_icmp .ge 19, 3) := by decide +kernel
theorem d_prog_30_method_11_13 : decode prog_30_method_11_code 13 = .ok (.bipush 31, 2) := by decide +kernel
theorem d_prog_30_method_11_15 : decode prog_30_method_11_code 15 = .ok (.iload_n 3, 1) := by decide +kernel
theorem d_prog_30_method_11_16 : decode prog_30_method_11_code 16 = .ok (.imul, 1) := by decide +kernel
theorem d_prog_30_method_11_17 : decode prog_30_method_11_code 17 = .ok (.aload_n 0, 1) := by decide +kernel
theorem d_prog_30_method_11_18 : decode prog_30_method_11_code 18 = .ok (.iload 4, 2) := by decide +kernel
theorem d_prog_30_method_11_20 : decode prog_30_method_11_code 20 = .ok (.iaload, 1) := by decide +kernel
theorem d_prog_30_method_11_21 : decode prog_30_method_11_code 21 = .ok (.iadd, 1) := by decide +kernel
theorem d_prog_30_method_11_22 : decode prog_30_method_11_code 22 = .ok (.istore_n 3, 1) := by decide +kernel
theorem d_prog_30_method_11_23 : decode prog_30_method_11_code 23 = .ok (.iinc 4 1, 3) := by decide +kernel
theorem d_prog_30_method_11_26 : decode prog_30_method_11_code 26 = .ok (.goto (-21), 3) := by decide +kernel
theorem d_prog_30_method_11_29 : decode prog_30_method_11_code 29 = .ok (.iload_n 3, 1) := by decide +kernel
theorem d_prog_30_method_11_30 : decode prog_30_method_11_code 30 = .ok (.iload_n 3, 1) := by decide +kernel
theorem d_prog_30_method_11_31 : decode prog_30_method_11_code 31 = .ok (.bipush 16, 2) := by decide +kernel
theorem d_prog_30_method_11_33 : decode prog_30_method_11_code 33 = .ok (.iushr, 1) := by decide +kernel
theorem d_prog_30_method_11_34 : decode prog_30_method_11_code 34 = .ok (.ixor, 1) := by decide +kernel
theorem d_prog_30_method_11_35 : decode prog_30_method_11_code 35 = .ok (.istore_n 3, 1) := by decide +kernel
theorem d_prog_30_method_11_36 : decode prog_30_method_11_code 36 = .ok (.iload_n 3, 1) := by decide +kernel
theorem d_prog_30_method_11_37 : decode prog_30_method_11_code 37 = .ok (.ldc 100, 2) := by decide +kernel
theorem wd_54 {Z : State} {a0 : Array Value} (hw : ∀ d ∈ tables_1, d.before a0 Z = true) : (Jvm.Cond.constant "com/example/pathweave/pathweave/eval/Relation" (100 : Nat) (-2048144789 : Int32)).before a0 Z = true := hw _ (List.mem_of_getElem? (i := 54) rfl)
theorem d_prog_30_method_11_39 : decode prog_30_method_11_code 39 = .ok (.imul, 1) := by decide +kernel
theorem d_prog_30_method_11_40 : decode prog_30_method_11_code 40 = .ok (.istore_n 3, 1) := by decide +kernel
theorem d_prog_30_method_11_41 : decode prog_30_method_11_code 41 = .ok (.iload_n 3, 1) := by decide +kernel
theorem d_prog_30_method_11_42 : decode prog_30_method_11_code 42 = .ok (.iload_n 3, 1) := by decide +kernel
theorem d_prog_30_method_11_43 : decode prog_30_method_11_code 43 = .ok (.bipush 13, 2) := by decide +kernel
theorem d_prog_30_method_11_45 : decode prog_30_method_11_code 45 = .ok (.iushr, 1) := by decide +kernel
theorem d_prog_30_method_11_46 : decode prog_30_method_11_code 46 = .ok (.ixor, 1) := by decide +kernel
theorem d_prog_30_method_11_47 : decode prog_30_method_11_code 47 = .ok (.ireturn, 1) := by decide +kernel
theorem d_prog_30_method_7_0 : decode prog_30_method_7_code 0 = .ok (.iconst 0, 1) := by decide +kernel
theorem d_prog_30_method_7_1 : decode prog_30_method_7_code 1 = .ok (.istore_n 3, 1) := by decide +kernel
theorem d_prog_30_method_7_2 : decode prog_30_method_7_code 2 = .ok (.iload_n 3, 1) := by decide +kernel
theorem d_prog_30_method_7_3 : decode prog_30_method_7_code 3 = .ok (.aload_n 0, 1) := by decide +kernel
theorem d_prog_30_method_7_4 : decode prog_30_method_7_code 4 = .ok (.getfield 27, 3) := by decide +kernel
theorem d_prog_30_method_7_7 : decode prog_30_method_7_code 7 = .ok (.if_icmp .ge 30, 3) := by decide +kernel
theorem d_prog_30_method_7_10 : decode prog_30_method_7_code 10 = .ok (.aload_n 0, 1) := by decide +kernel
theorem d_prog_30_method_7_11 : decode prog_30_method_7_code 11 = .ok (.getfield 7, 3) := by decide +kernel
theorem d_prog_30_method_7_14 : decode prog_30_method_7_code 14 = .ok (.iload_n 1, 1) := by decide +kernel
theorem d_prog_30_method_7_15 : decode prog_30_method_7_code 15 = .ok (.aload_n 0, 1) := by decide +kernel
theorem d_prog_30_method_7_16 : decode prog_30_method_7_code 16 = .ok (.getfield 27, 3) := by decide +kernel
theorem d_prog_30_method_7_19 : decode prog_30_method_7_code 19 = .ok (.imul, 1) := by decide +kernel
theorem d_prog_30_method_7_20 : decode prog_30_method_7_code 20 = .ok (.iload_n 3, 1) := by decide +kernel
theorem d_prog_30_method_7_21 : decode prog_30_method_7_code 21 = .ok (.iadd, 1) := by decide +kernel
theorem d_prog_30_method_7_22 : decode prog_30_method_7_code 22 = .ok (.iaload, 1) := by decide +kernel
theorem d_prog_30_method_7_23 : decode prog_30_method_7_code 23 = .ok (.aload_n 2, 1) := by decide +kernel
theorem d_prog_30_method_7_24 : decode prog_30_method_7_code 24 = .ok (.iload_n 3, 1) := by decide +kernel
theorem d_prog_30_method_7_25 : decode prog_30_method_7_code 25 = .ok (.iaload, 1) := by decide +kernel
theorem d_prog_30_method_7_26 : decode prog_30_method_7_code 26 = .ok (.if_icmp .eq 5, 3) := by decide +kernel
theorem d_prog_30_method_7_31 : decode prog_30_method_7_code 31 = .ok (.iinc 3 1, 3) := by decide +kernel
theorem d_prog_30_method_7_34 : decode prog_30_method_7_code 34 = .ok (.goto (-32), 3) := by decide +kernel
theorem d_prog_30_method_7_37 : decode prog_30_method_7_code 37 = .ok (.iconst 1, 1) := by decide +kernel
theorem d_prog_30_method_7_38 : decode prog_30_method_7_code 38 = .ok (.ireturn, 1) := by decide +kernel
theorem d_prog_30_method_7_29 : decode prog_30_method_7_code 29 = .ok (.iconst 0, 1) := by decide +kernel
theorem d_prog_30_method_7_30 : decode prog_30_method_7_code 30 = .ok (.ireturn, 1) := by decide +kernel
theorem d_prog_30_method_6_0 : decode prog_30_method_6_code 0 = .ok (.aload_n 0, 1) := by decide +kernel
theorem d_prog_30_method_6_1 : decode prog_30_method_6_code 1 = .ok (.getfield 17, 3) := by decide +kernel
theorem d_prog_30_method_6_4 : decode prog_30_method_6_code 4 = .ok (.arraylength, 1) := by decide +kernel
theorem d_prog_30_method_6_5 : decode prog_30_method_6_code 5 = .ok (.iconst 1, 1) := by decide +kernel
theorem d_prog_30_method_6_6 : decode prog_30_method_6_code 6 = .ok (.isub, 1) := by decide +kernel
theorem d_prog_30_method_6_7 : decode prog_30_method_6_code 7 = .ok (.istore_n 2, 1) := by decide +kernel
theorem d_prog_30_method_6_8 : decode prog_30_method_6_code 8 = .ok (.aload_n 1, 1) := by decide +kernel
theorem d_prog_30_method_6_9 : decode prog_30_method_6_code 9 = .ok (.iconst 0, 1) := by decide +kernel
theorem d_prog_30_method_6_10 : decode prog_30_method_6_code 10 = .ok (.aload_n 0, 1) := by decide +kernel
theorem d_prog_30_method_6_11 : decode prog_30_method_6_code 11 = .ok (.getfield 27, 3) := by decide +kernel
theorem d_prog_30_method_6_14 : decode prog_30_method_6_code 14 = .ok (.invokestatic 64, 3) := by decide +kernel
theorem wd_51 {Z : State} {a0 : Array Value} (hw : ∀ d ∈ tables_1, d.before a0 Z = true) : (Jvm.Cond.methodLink "com/example/pathweave/pathweave/eval/Relation" (64 : Nat) ({ cls := "com/example/pathweave/pathweave/eval/Relation", name := "hash", desc := "([III)I" } : Jvm.MethodName)).before a0 Z = true := hw _ (List.mem_of_getElem? (i := 51) rfl)
theorem wd_53 {Z : State} {a0 : Array Value} (hw : ∀ d ∈ tables_1, d.before a0 Z = true) : (Jvm.Cond.code ({ cls := "com/example/pathweave/pathweave/eval/Relation", name := "hash", desc := "([III)I" } : Jvm.MethodName) prog_30_method_11_code (5 : Nat) (Option.some Jvm.ClassFile.FieldType.int)).before a0 Z = true := hw _ (List.mem_of_getElem? (i := 53) rfl)
theorem pd_3 : parseMethodDescriptor "([III)I" = some ⟨[(.array .int), .int, .int], some .int⟩ := by decide +kernel
theorem wd_52 {Z : State} {a0 : Array Value} (hw : ∀ d ∈ tables_1, d.before a0 Z = true) : (Jvm.Cond.static ({ cls := "com/example/pathweave/pathweave/eval/Relation", name := "hash", desc := "([III)I" } : Jvm.MethodName)).before a0 Z = true := hw _ (List.mem_of_getElem? (i := 52) rfl)
theorem d_prog_30_method_6_17 : decode prog_30_method_6_code 17 = .ok (.iload_n 2, 1) := by decide +kernel
theorem d_prog_30_method_6_18 : decode prog_30_method_6_code 18 = .ok (.iand, 1) := by decide +kernel
theorem d_prog_30_method_6_19 : decode prog_30_method_6_code 19 = .ok (.istore_n 3, 1) := by decide +kernel
theorem d_prog_30_method_6_20 : decode prog_30_method_6_code 20 = .ok (.aload_n 0, 1) := by decide +kernel
theorem d_prog_30_method_6_21 : decode prog_30_method_6_code 21 = .ok (.getfield 17, 3) := by decide +kernel
theorem d_prog_30_method_6_24 : decode prog_30_method_6_code 24 = .ok (.iload_n 3, 1) := by decide +kernel
theorem d_prog_30_method_6_25 : decode prog_30_method_6_code 25 = .ok (.iaload, 1) := by decide +kernel
theorem d_prog_30_method_6_26 : decode prog_30_method_6_code 26 = .ok (.iconst (-1), 1) := by decide +kernel
theorem d_prog_30_method_6_27 : decode prog_30_method_6_code 27 = .ok (.if_icmp .eq 26, 3) := by decide +kernel
theorem d_prog_30_method_6_53 : decode prog_30_method_6_code 53 = .ok (.iload_n 3, 1) := by decide +kernel
theorem d_prog_30_method_6_54 : decode prog_30_method_6_code 54 = .ok (.ireturn, 1) := by decide +kernel
theorem d_prog_30_method_6_30 : decode prog_30_method_6_code 30 = .ok (.aload_n 0, 1) := by decide +kernel
theorem d_prog_30_method_6_31 : decode prog_30_method_6_code 31 = .ok (.aload_n 0, 1) := by decide +kernel
theorem d_prog_30_method_6_32 : decode prog_30_method_6_code 32 = .ok (.getfield 17, 3) := by decide +kernel
theorem d_prog_30_method_6_35 : decode prog_30_method_6_code 35 = .ok (.iload_n 3, 1) := by decide +kernel
theorem d_prog_30_method_6_36 : decode prog_30_method_6_code 36 = .ok (.iaload, 1) := by decide +kernel
theorem d_prog_30_method_6_37 : decode prog_30_method_6_code 37 = .ok (.aload_n 1, 1) := by decide +kernel
theorem d_prog_30_method_6_38 : decode prog_30_method_6_code 38 = .ok (.invokevirtual 68, 3) := by decide +kernel
theorem wd_84 {Z : State} {a0 : Array Value} (hw : ∀ d ∈ tables_1, d.before a0 Z = true) : (Jvm.Cond.methodLink "com/example/pathweave/pathweave/eval/Relation" (68 : Nat) ({ cls := "com/example/pathweave/pathweave/eval/Relation", name := "same", desc := "(I[I)Z" } : Jvm.MethodName)).before a0 Z = true := hw _ (List.mem_of_getElem? (i := 84) rfl)
theorem wd_87 {Z : State} {a0 : Array Value} (hw : ∀ d ∈ tables_1, d.before a0 Z = true) : (Jvm.Cond.code ({ cls := "com/example/pathweave/pathweave/eval/Relation", name := "same", desc := "(I[I)Z" } : Jvm.MethodName) prog_30_method_7_code (4 : Nat) (Option.some Jvm.ClassFile.FieldType.boolean)).before a0 Z = true := hw _ (List.mem_of_getElem? (i := 87) rfl)
theorem pd_4 : parseMethodDescriptor "(I[I)Z" = some ⟨[.int, (.array .int)], some .boolean⟩ := by decide +kernel
theorem wd_86 {Z : State} {a0 : Array Value} (hw : ∀ d ∈ tables_1, d.before a0 Z = true) : (Jvm.Cond.privateMethod ({ cls := "com/example/pathweave/pathweave/eval/Relation", name := "same", desc := "(I[I)Z" } : Jvm.MethodName)).before a0 Z = true := hw _ (List.mem_of_getElem? (i := 86) rfl)
theorem wd_85 {Z : State} {a0 : Array Value} (hw : ∀ d ∈ tables_1, d.before a0 Z = true) : (Jvm.Cond.instanceMethod ({ cls := "com/example/pathweave/pathweave/eval/Relation", name := "same", desc := "(I[I)Z" } : Jvm.MethodName)).before a0 Z = true := hw _ (List.mem_of_getElem? (i := 85) rfl)
theorem d_prog_30_method_6_41 : decode prog_30_method_6_code 41 = .ok (.ifCond .ne 12, 3) := by decide +kernel
theorem d_prog_30_method_6_44 : decode prog_30_method_6_code 44 = .ok (.iload_n 3, 1) := by decide +kernel
theorem d_prog_30_method_6_45 : decode prog_30_method_6_code 45 = .ok (.iconst 1, 1) := by decide +kernel
theorem d_prog_30_method_6_46 : decode prog_30_method_6_code 46 = .ok (.iadd, 1) := by decide +kernel
theorem d_prog_30_method_6_47 : decode prog_30_method_6_code 47 = .ok (.iload_n 2, 1) := by decide +kernel
theorem d_prog_30_method_6_48 : decode prog_30_method_6_code 48 = .ok (.iand, 1) := by decide +kernel
theorem d_prog_30_method_6_49 : decode prog_30_method_6_code 49 = .ok (.istore_n 3, 1) := by decide +kernel
theorem d_prog_30_method_6_50 : decode prog_30_method_6_code 50 = .ok (.goto (-30), 3) := by decide +kernel
theorem d_prog_30_method_5_0 : decode prog_30_method_5_code 0 = .ok (.aload_n 0, 1) := by decide +kernel
theorem d_prog_30_method_5_1 : decode prog_30_method_5_code 1 = .ok (.aload_n 1, 1) := by decide +kernel
theorem d_prog_30_method_5_2 : decode prog_30_method_5_code 2 = .ok (.invokevirtual 34, 3) := by decide +kernel
theorem wd_47 {Z : State} {a0 : Array Value} (hw : ∀ d ∈ tables_1, d.before a0 Z = true) : (Jvm.Cond.methodLink "com/example/pathweave/pathweave/eval/Relation" (34 : Nat) ({ cls := "com/example/pathweave/pathweave/eval/Relation", name := "find", desc := "([I)I" } : Jvm.MethodName)).before a0 Z = true := hw _ (List.mem_of_getElem? (i := 47) rfl)
theorem wd_50 {Z : State} {a0 : Array Value} (hw : ∀ d ∈ tables_1, d.before a0 Z = true) : (Jvm.Cond.code ({ cls := "com/example/pathweave/pathweave/eval/Relation", name := "find", desc := "([I)I" } : Jvm.MethodName) prog_30_method_6_code (4 : Nat) (Option.some Jvm.ClassFile.FieldType.int)).before a0 Z = true := hw _ (List.mem_of_getElem? (i := 50) rfl)
theorem pd_5 : parseMethodDescriptor "([I)I" = some ⟨[(.array .int)], some .int⟩ := by decide +kernel
theorem wd_49 {Z : State} {a0 : Array Value} (hw : ∀ d ∈ tables_1, d.before a0 Z = true) : (Jvm.Cond.privateMethod ({ cls := "com/example/pathweave/pathweave/eval/Relation", name := "find", desc := "([I)I" } : Jvm.MethodName)).before a0 Z = true := hw _ (List.mem_of_getElem? (i := 49) rfl)
theorem wd_48 {Z : State} {a0 : Array Value} (hw : ∀ d ∈ tables_1, d.before a0 Z = true) : (Jvm.Cond.instanceMethod ({ cls := "com/example/pathweave/pathweave/eval/Relation", name := "find", desc := "([I)I" } : Jvm.MethodName)).before a0 Z = true := hw _ (List.mem_of_getElem? (i := 48) rfl)
theorem d_prog_30_method_5_5 : decode prog_30_method_5_code 5 = .ok (.istore_n 2, 1) := by decide +kernel
theorem d_prog_30_method_5_6 : decode prog_30_method_5_code 6 = .ok (.aload_n 0, 1) := by decide +kernel
theorem d_prog_30_method_5_7 : decode prog_30_method_5_code 7 = .ok (.getfield 17, 3) := by decide +kernel
theorem d_prog_30_method_5_10 : decode prog_30_method_5_code 10 = .ok (.iload_n 2, 1) := by decide +kernel
theorem d_prog_30_method_5_11 : decode prog_30_method_5_code 11 = .ok (.iaload, 1) := by decide +kernel
theorem d_prog_30_method_5_12 : decode prog_30_method_5_code 12 = .ok (.iconst (-1), 1) := by decide +kernel
theorem d_prog_30_method_5_13 : decode prog_30_method_5_code 13 = .ok (.if_icmp .eq 5, 3) := by decide +kernel
theorem d_prog_30_method_5_18 : decode prog_30_method_5_code 18 = .ok (.aload_n 0, 1) := by decide +kernel
theorem d_prog_30_method_5_19 : decode prog_30_method_5_code 19 = .ok (.getfield 31, 3) := by decide +kernel
theorem wd_55 {Z : State} {a0 : Array Value} (hw : ∀ d ∈ tables_1, d.before a0 Z = true) : (Jvm.Cond.fieldLink "com/example/pathweave/pathweave/eval/Relation" (31 : Nat) "com/example/pathweave/pathweave/eval/Relation" "size" "I").before a0 Z = true := hw _ (List.mem_of_getElem? (i := 55) rfl)
theorem d_prog_30_method_5_22 : decode prog_30_method_5_code 22 = .ok (.iconst 1, 1) := by decide +kernel
theorem d_prog_30_method_5_23 : decode prog_30_method_5_code 23 = .ok (.iadd, 1) := by decide +kernel
theorem d_prog_30_method_5_24 : decode prog_30_method_5_code 24 = .ok (.aload_n 0, 1) := by decide +kernel
theorem d_prog_30_method_5_25 : decode prog_30_method_5_code 25 = .ok (.getfield 27, 3) := by decide +kernel
theorem d_prog_30_method_5_28 : decode prog_30_method_5_code 28 = .ok (.imul, 1) := by decide +kernel
theorem d_prog_30_method_5_29 : decode prog_30_method_5_code 29 = .ok (.aload_n 0, 1) := by decide +kernel
theorem d_prog_30_method_5_30 : decode prog_30_method_5_code 30 = .ok (.getfield 7, 3) := by decide +kernel
theorem d_prog_30_method_5_33 : decode prog_30_method_5_code 33 = .ok (.arraylength, 1) := by decide +kernel
theorem d_prog_30_method_5_34 : decode prog_30_method_5_code 34 = .ok (.if_icmp .le 35, 3) := by decide +kernel
theorem d_prog_30_method_5_69 : decode prog_30_method_5_code 69 = .ok (.aload_n 1, 1) := by decide +kernel
theorem d_prog_30_method_5_70 : decode prog_30_method_5_code 70 = .ok (.iconst 0, 1) := by decide +kernel
theorem d_prog_30_method_5_71 : decode prog_30_method_5_code 71 = .ok (.aload_n 0, 1) := by decide +kernel
theorem d_prog_30_method_5_72 : decode prog_30_method_5_code 72 = .ok (.getfield 7, 3) := by decide +kernel
theorem d_prog_30_method_5_75 : decode prog_30_method_5_code 75 = .ok (.aload_n 0, 1) := by decide +kernel
theorem d_prog_30_method_5_76 : decode prog_30_method_5_code 76 = .ok (.getfield 31, 3) := by decide +kernel
theorem d_prog_30_method_5_79 : decode prog_30_method_5_code 79 = .ok (.aload_n 0, 1) := by decide +kernel
theorem d_prog_30_method_5_80 : decode prog_30_method_5_code 80 = .ok (.getfield 27, 3) := by decide +kernel
theorem d_prog_30_method_5_83 : decode prog_30_method_5_code 83 = .ok (.imul, 1) := by decide +kernel
theorem d_prog_30_method_5_84 : decode prog_30_method_5_code 84 = .ok (.aload_n 0, 1) := by decide +kernel
theorem d_prog_30_method_5_85 : decode prog_30_method_5_code 85 = .ok (.getfield 27, 3) := by decide +kernel
theorem d_prog_30_method_5_88 : decode prog_30_method_5_code 88 = .ok (.invokestatic 50, 3) := by decide +kernel
theorem wd_57 {Z : State} {a0 : Array Value} (hw : ∀ d ∈ tables_1, d.before a0 Z = true) : (Jvm.Cond.methodLink "com/example/pathweave/pathweave/eval/Relation" (50 : Nat) ({ cls := "java/lang/System", name := "arraycopy", desc := "(Ljava/lang/Object;ILjava/lang/Object;II)V" } : Jvm.MethodName)).before a0 Z = true := hw _ (List.mem_of_getElem? (i := 57) rfl)
theorem wd_60 {Z : State} {a0 : Array Value} (hw : ∀ d ∈ tables_1, d.before a0 Z = true) : (Jvm.Cond.native ({ cls := "java/lang/System", name := "arraycopy", desc := "(Ljava/lang/Object;ILjava/lang/Object;II)V" } : Jvm.MethodName)).before a0 Z = true := hw _ (List.mem_of_getElem? (i := 60) rfl)
theorem wd_58 {Z : State} {a0 : Array Value} (hw : ∀ d ∈ tables_1, d.before a0 Z = true) : (Jvm.Cond.static ({ cls := "java/lang/System", name := "arraycopy", desc := "(Ljava/lang/Object;ILjava/lang/Object;II)V" } : Jvm.MethodName)).before a0 Z = true := hw _ (List.mem_of_getElem? (i := 58) rfl)
theorem wd_59 {Z : State} {a0 : Array Value} (hw : ∀ d ∈ tables_1, d.before a0 Z = true) : (Jvm.Cond.initialized "java/lang/System").before a0 Z = true := hw _ (List.mem_of_getElem? (i := 59) rfl)
theorem d_prog_30_method_5_91 : decode prog_30_method_5_code 91 = .ok (.aload_n 0, 1) := by decide +kernel
theorem d_prog_30_method_5_92 : decode prog_30_method_5_code 92 = .ok (.getfield 17, 3) := by decide +kernel
theorem d_prog_30_method_5_95 : decode prog_30_method_5_code 95 = .ok (.iload_n 2, 1) := by decide +kernel
theorem d_prog_30_method_5_96 : decode prog_30_method_5_code 96 = .ok (.aload_n 0, 1) := by decide +kernel
theorem d_prog_30_method_5_97 : decode prog_30_method_5_code 97 = .ok (.dup, 1) := by decide +kernel
theorem d_prog_30_method_5_98 : decode prog_30_method_5_code 98 = .ok (.getfield 31, 3) := by decide +kernel
theorem d_prog_30_method_5_101 : decode prog_30_method_5_code 101 = .ok (.dup_x1, 1) := by decide +kernel
theorem d_prog_30_method_5_102 : decode prog_30_method_5_code 102 = .ok (.iconst 1, 1) := by decide +kernel
theorem d_prog_30_method_5_103 : decode prog_30_method_5_code 103 = .ok (.iadd, 1) := by decide +kernel
theorem d_prog_30_method_5_104 : decode prog_30_method_5_code 104 = .ok (.putfield 31, 3) := by decide +kernel
theorem d_prog_30_method_5_107 : decode prog_30_method_5_code 107 = .ok (.iastore, 1) := by decide +kernel
theorem d_prog_30_method_5_108 : decode prog_30_method_5_code 108 = .ok (.iconst 2, 1) := by decide +kernel
theorem d_prog_30_method_5_109 : decode prog_30_method_5_code 109 = .ok (.aload_n 0, 1) := by decide +kernel
theorem d_prog_30_method_5_110 : decode prog_30_method_5_code 110 = .ok (.getfield 31, 3) := by decide +kernel
theorem d_prog_30_method_5_113 : decode prog_30_method_5_code 113 = .ok (.imul, 1) := by decide +kernel
theorem d_prog_30_method_5_114 : decode prog_30_method_5_code 114 = .ok (.aload_n 0, 1) := by decide +kernel
theorem d_prog_30_method_5_115 : decode prog_30_method_5_code 115 = .ok (.getfield 17, 3) := by decide +kernel
theorem sne_19 {Z : State} {a0 : Array Value} (hw : ∀ d ∈ tables_1, d.before a0 Z = true) : RoadKit.slotOf Z "com/example/pathweave/pathweave/eval/Relation" "slots" "[I" ≠ RoadKit.slotOf Z "com/example/pathweave/pathweave/eval/Relation" "size" "I" := slot_ne (C := "com/example/pathweave/pathweave/eval/Relation") (Or.inl (wd_21 hw)) (Or.inl (wd_56 hw)) (by decide) (t := (.array .int)) (t' := .int) (by decide) (by decide)
theorem d_prog_30_method_5_118 : decode prog_30_method_5_code 118 = .ok (.arraylength, 1) := by decide +kernel
theorem d_prog_30_method_5_119 : decode prog_30_method_5_code 119 = .ok (.if_icmp .le 7, 3) := by decide +kernel
theorem d_prog_30_method_5_126 : decode prog_30_method_5_code 126 = .ok (.aload_n 0, 1) := by decide +kernel
theorem d_prog_30_method_5_127 : decode prog_30_method_5_code 127 = .ok (.getfield 23, 3) := by decide +kernel
theorem sne_20 {Z : State} {a0 : Array Value} (hw : ∀ d ∈ tables_1, d.before a0 Z = true) : RoadKit.slotOf Z "com/example/pathweave/pathweave/eval/Relation" "indexes" "Ljava/util/Map;" ≠ RoadKit.slotOf Z "com/example/pathweave/pathweave/eval/Relation" "size" "I" := slot_ne (C := "com/example/pathweave/pathweave/eval/Relation") (Or.inr (wd_39 hw)) (Or.inl (wd_56 hw)) (by decide) (t := (.object "java/util/Map")) (t' := .int) (by decide) (by decide)
theorem d_prog_30_method_5_130 : decode prog_30_method_5_code 130 = .ok (.invokeinterface 59 1, 5) := by decide +kernel
theorem wd_61 {Z : State} {a0 : Array Value} (hw : ∀ d ∈ tables_1, d.before a0 Z = true) : (Jvm.Cond.methodLink "com/example/pathweave/pathweave/eval/Relation" (59 : Nat) ({ cls := "java/util/Map", name := "clear", desc := "()V" } : Jvm.MethodName)).before a0 Z = true := hw _ (List.mem_of_getElem? (i := 61) rfl)
theorem wd_64 {Z : State} {a0 : Array Value} (hw : ∀ d ∈ tables_1, d.before a0 Z = true) : (Jvm.Cond.selects "java/util/HashMap" ({ cls := "java/util/Map", name := "clear", desc := "()V" } : Jvm.MethodName) ({ cls := "java/util/HashMap", name := "clear", desc := "()V" } : Jvm.MethodName)).before a0 Z = true := hw _ (List.mem_of_getElem? (i := 64) rfl)
theorem wd_69 {Z : State} {a0 : Array Value} (hw : ∀ d ∈ tables_1, d.before a0 Z = true) : (Jvm.Cond.code ({ cls := "java/util/HashMap", name := "clear", desc := "()V" } : Jvm.MethodName) jdk_69_method_22_code (3 : Nat) (Option.none : Option Jvm.ClassFile.FieldType)).before a0 Z = true := hw _ (List.mem_of_getElem? (i := 69) rfl)
theorem wd_62 {Z : State} {a0 : Array Value} (hw : ∀ d ∈ tables_1, d.before a0 Z = true) : (Jvm.Cond.declares ({ cls := "java/util/Map", name := "clear", desc := "()V" } : Jvm.MethodName)).before a0 Z = true := hw _ (List.mem_of_getElem? (i := 62) rfl)
theorem wd_63 {Z : State} {a0 : Array Value} (hw : ∀ d ∈ tables_1, d.before a0 Z = true) : (Jvm.Cond.interfaceMethod "java/util/Map" "java/util/Map" "clear" "()V").before a0 Z = true := hw _ (List.mem_of_getElem? (i := 63) rfl)
theorem wd_65 {Z : State} {a0 : Array Value} (hw : ∀ d ∈ tables_1, d.before a0 Z = true) : (Jvm.Cond.instanceMethod ({ cls := "java/util/HashMap", name := "clear", desc := "()V" } : Jvm.MethodName)).before a0 Z = true := hw _ (List.mem_of_getElem? (i := 65) rfl)
theorem wd_66 {Z : State} {a0 : Array Value} (hw : ∀ d ∈ tables_1, d.before a0 Z = true) : (Jvm.Cond.publicMethod ({ cls := "java/util/HashMap", name := "clear", desc := "()V" } : Jvm.MethodName)).before a0 Z = true := hw _ (List.mem_of_getElem? (i := 66) rfl)
theorem wd_67 {Z : State} {a0 : Array Value} (hw : ∀ d ∈ tables_1, d.before a0 Z = true) : (Jvm.Cond.unhidden "java/util/HashMap" "clear" "()V").before a0 Z = true := hw _ (List.mem_of_getElem? (i := 67) rfl)
theorem wd_68 {Z : State} {a0 : Array Value} (hw : ∀ d ∈ tables_1, d.before a0 Z = true) : (Jvm.Cond.castable "java/util/HashMap" "java/util/Map").before a0 Z = true := hw _ (List.mem_of_getElem? (i := 68) rfl)
theorem d_prog_30_method_5_135 : decode prog_30_method_5_code 135 = .ok (.iconst 1, 1) := by decide +kernel
theorem d_prog_30_method_5_136 : decode prog_30_method_5_code 136 = .ok (.ireturn, 1) := by decide +kernel
theorem sne_21 {Z : State} {a0 : Array Value} (hw : ∀ d ∈ tables_1, d.before a0 Z = true) : RoadKit.slotOf Z "com/example/pathweave/pathweave/eval/Relation" "values" "[I" ≠ RoadKit.slotOf Z "com/example/pathweave/pathweave/eval/Relation" "size" "I" := slot_ne (C := "com/example/pathweave/pathweave/eval/Relation") (Or.inl (wd_12 hw)) (Or.inl (wd_56 hw)) (by decide) (t := (.array .int)) (t' := .int) (by decide) (by decide)
theorem sne_22 {Z : State} {a0 : Array Value} (hw : ∀ d ∈ tables_1, d.before a0 Z = true) : RoadKit.slotOf Z "com/example/pathweave/pathweave/eval/Relation" "arity" "I" ≠ RoadKit.slotOf Z "com/example/pathweave/pathweave/eval/Relation" "size" "I" := slot_ne (C := "com/example/pathweave/pathweave/eval/Relation") (Or.inr (wd_41 hw)) (Or.inl (wd_56 hw)) (by decide) (t := .int) (t' := .int) (by decide) (by decide)
theorem d_prog_30_method_5_16 : decode prog_30_method_5_code 16 = .ok (.iconst 0, 1) := by decide +kernel
theorem d_prog_30_method_5_17 : decode prog_30_method_5_code 17 = .ok (.ireturn, 1) := by decide +kernel
theorem d_prog_30_method_3_0 : decode prog_30_method_3_code 0 = .ok (.aload_n 0, 1) := by decide +kernel
theorem d_prog_30_method_3_1 : decode prog_30_method_3_code 1 = .ok (.getfield 31, 3) := by decide +kernel
theorem d_prog_30_method_3_4 : decode prog_30_method_3_code 4 = .ok (.ireturn, 1) := by decide +kernel
theorem d_prog_30_method_4_0 : decode prog_30_method_4_code 0 = .ok (.aload_n 0, 1) := by decide +kernel
theorem d_prog_30_method_4_1 : decode prog_30_method_4_code 1 = .ok (.getfield 7, 3) := by decide +kernel
theorem d_prog_30_method_4_4 : decode prog_30_method_4_code 4 = .ok (.iload_n 1, 1) := by decide +kernel
theorem d_prog_30_method_4_5 : decode prog_30_method_4_code 5 = .ok (.aload_n 0, 1) := by decide +kernel
theorem d_prog_30_method_4_6 : decode prog_30_method_4_code 6 = .ok (.getfield 27, 3) := by decide +kernel
theorem d_prog_30_method_4_9 : decode prog_30_method_4_code 9 = .ok (.imul, 1) := by decide +kernel
theorem d_prog_30_method_4_10 : decode prog_30_method_4_code 10 = .ok (.iload_n 2, 1) := by decide +kernel
theorem d_prog_30_method_4_11 : decode prog_30_method_4_code 11 = .ok (.iadd, 1) := by decide +kernel
theorem d_prog_30_method_4_12 : decode prog_30_method_4_code 12 = .ok (.iaload, 1) := by decide +kernel
theorem d_prog_30_method_4_13 : decode prog_30_method_4_code 13 = .ok (.ireturn, 1) := by decide +kernel
theorem wd_0 {Z : State} {a0 : Array Value} (hw : ∀ d ∈ tables_1, d.before a0 Z = true) : (Jvm.Cond.constant "com/example/pathweave/pathweave/eval/RelationValuePinLaw" (7 : Nat) (2147483647 : Int32)).before a0 Z = true := hw _ (List.mem_of_getElem? (i := 0) rfl)
theorem wd_1 {Z : State} {a0 : Array Value} (hw : ∀ d ∈ tables_1, d.before a0 Z = true) : (Jvm.Cond.classLink "com/example/pathweave/pathweave/eval/RelationValuePinLaw" (8 : Nat) "com/example/pathweave/pathweave/eval/Relation").before a0 Z = true := hw _ (List.mem_of_getElem? (i := 1) rfl)
theorem wd_4 {Z : State} {a0 : Array Value} (hw : ∀ d ∈ tables_1, d.before a0 Z = true) : (Jvm.Cond.methodLink "com/example/pathweave/pathweave/eval/RelationValuePinLaw" (10 : Nat) ({ cls := "com/example/pathweave/pathweave/eval/Relation", name := "<init>", desc := "(I)V" } : Jvm.MethodName)).before a0 Z = true := hw _ (List.mem_of_getElem? (i := 4) rfl)
theorem wd_6 {Z : State} {a0 : Array Value} (hw : ∀ d ∈ tables_1, d.before a0 Z = true) : (Jvm.Cond.code ({ cls := "com/example/pathweave/pathweave/eval/Relation", name := "<init>", desc := "(I)V" } : Jvm.MethodName) prog_30_method_1_code (2 : Nat) (Option.none : Option Jvm.ClassFile.FieldType)).before a0 Z = true := hw _ (List.mem_of_getElem? (i := 6) rfl)
theorem pd_6 : parseMethodDescriptor "(I)V" = some ⟨[.int], none⟩ := by decide +kernel
theorem wd_5 {Z : State} {a0 : Array Value} (hw : ∀ d ∈ tables_1, d.before a0 Z = true) : (Jvm.Cond.instanceMethod ({ cls := "com/example/pathweave/pathweave/eval/Relation", name := "<init>", desc := "(I)V" } : Jvm.MethodName)).before a0 Z = true := hw _ (List.mem_of_getElem? (i := 5) rfl)
theorem wd_42 {Z : State} {a0 : Array Value} (hw : ∀ d ∈ tables_1, d.before a0 Z = true) : (Jvm.Cond.methodLink "com/example/pathweave/pathweave/eval/RelationValuePinLaw" (13 : Nat) ({ cls := "com/example/pathweave/pathweave/eval/Relation", name := "add", desc := "([I)Z" } : Jvm.MethodName)).before a0 Z = true := hw _ (List.mem_of_getElem? (i := 42) rfl)
theorem wd_45 {Z : State} {a0 : Array Value} (hw : ∀ d ∈ tables_1, d.before a0 Z = true) : (Jvm.Cond.selects "com/example/pathweave/pathweave/eval/Relation" ({ cls := "com/example/pathweave/pathweave/eval/Relation", name := "add", desc := "([I)Z" } : Jvm.MethodName) ({ cls := "com/example/pathweave/pathweave/eval/Relation", name := "add", desc := "([I)Z" } : Jvm.MethodName)).before a0 Z = true := hw _ (List.mem_of_getElem? (i := 45) rfl)
theorem wd_46 {Z : State} {a0 : Array Value} (hw : ∀ d ∈ tables_1, d.before a0 Z = true) : (Jvm.Cond.code ({ cls := "com/example/pathweave/pathweave/eval/Relation", name := "add", desc := "([I)Z" } : Jvm.MethodName) prog_30_method_5_code (3 : Nat) (Option.some Jvm.ClassFile.FieldType.boolean)).before a0 Z = true := hw _ (List.mem_of_getElem? (i := 46) rfl)
theorem pd_7 : parseMethodDescriptor "([I)Z" = some ⟨[(.array .int)], some .boolean⟩ := by decide +kernel
theorem wd_43 {Z : State} {a0 : Array Value} (hw : ∀ d ∈ tables_1, d.before a0 Z = true) : (Jvm.Cond.declares ({ cls := "com/example/pathweave/pathweave/eval/Relation", name := "add", desc := "([I)Z" } : Jvm.MethodName)).before a0 Z = true := hw _ (List.mem_of_getElem? (i := 43) rfl)
theorem wd_44 {Z : State} {a0 : Array Value} (hw : ∀ d ∈ tables_1, d.before a0 Z = true) : (Jvm.Cond.instanceMethod ({ cls := "com/example/pathweave/pathweave/eval/Relation", name := "add", desc := "([I)Z" } : Jvm.MethodName)).before a0 Z = true := hw _ (List.mem_of_getElem? (i := 44) rfl)
theorem wd_74 {Z : State} {a0 : Array Value} (hw : ∀ d ∈ tables_1, d.before a0 Z = true) : (Jvm.Cond.methodLink "com/example/pathweave/pathweave/eval/RelationValuePinLaw" (17 : Nat) ({ cls := "com/example/pathweave/pathweave/eval/Relation", name := "size", desc := "()I" } : Jvm.MethodName)).before a0 Z = true := hw _ (List.mem_of_getElem? (i := 74) rfl)
theorem wd_77 {Z : State} {a0 : Array Value} (hw : ∀ d ∈ tables_1, d.before a0 Z = true) : (Jvm.Cond.selects "com/example/pathweave/pathweave/eval/Relation" ({ cls := "com/example/pathweave/pathweave/eval/Relation", name := "size", desc := "()I" } : Jvm.MethodName) ({ cls := "com/example/pathweave/pathweave/eval/Relation", name := "size", desc := "()I" } : Jvm.MethodName)).before a0 Z = true := hw _ (List.mem_of_getElem? (i := 77) rfl)
theorem wd_78 {Z : State} {a0 : Array Value} (hw : ∀ d ∈ tables_1, d.before a0 Z = true) : (Jvm.Cond.code ({ cls := "com/example/pathweave/pathweave/eval/Relation", name := "size", desc := "()I" } : Jvm.MethodName) prog_30_method_3_code (1 : Nat) (Option.some Jvm.ClassFile.FieldType.int)).before a0 Z = true := hw _ (List.mem_of_getElem? (i := 78) rfl)
theorem pd_8 : parseMethodDescriptor "()I" = some ⟨[], some .int⟩ := by decide +kernel
theorem wd_75 {Z : State} {a0 : Array Value} (hw : ∀ d ∈ tables_1, d.before a0 Z = true) : (Jvm.Cond.declares ({ cls := "com/example/pathweave/pathweave/eval/Relation", name := "size", desc := "()I" } : Jvm.MethodName)).before a0 Z = true := hw _ (List.mem_of_getElem? (i := 75) rfl)
theorem wd_76 {Z : State} {a0 : Array Value} (hw : ∀ d ∈ tables_1, d.before a0 Z = true) : (Jvm.Cond.instanceMethod ({ cls := "com/example/pathweave/pathweave/eval/Relation", name := "size", desc := "()I" } : Jvm.MethodName)).before a0 Z = true := hw _ (List.mem_of_getElem? (i := 76) rfl)
theorem wd_79 {Z : State} {a0 : Array Value} (hw : ∀ d ∈ tables_1, d.before a0 Z = true) : (Jvm.Cond.methodLink "com/example/pathweave/pathweave/eval/RelationValuePinLaw" (21 : Nat) ({ cls := "com/example/pathweave/pathweave/eval/Relation", name := "value", desc := "(II)I" } : Jvm.MethodName)).before a0 Z = true := hw _ (List.mem_of_getElem? (i := 79) rfl)
theorem wd_82 {Z : State} {a0 : Array Value} (hw : ∀ d ∈ tables_1, d.before a0 Z = true) : (Jvm.Cond.selects "com/example/pathweave/pathweave/eval/Relation" ({ cls := "com/example/pathweave/pathweave/eval/Relation", name := "value", desc := "(II)I" } : Jvm.MethodName) ({ cls := "com/example/pathweave/pathweave/eval/Relation", name := "value", desc := "(II)I" } : Jvm.MethodName)).before a0 Z = true := hw _ (List.mem_of_getElem? (i := 82) rfl)
theorem wd_83 {Z : State} {a0 : Array Value} (hw : ∀ d ∈ tables_1, d.before a0 Z = true) : (Jvm.Cond.code ({ cls := "com/example/pathweave/pathweave/eval/Relation", name := "value", desc := "(II)I" } : Jvm.MethodName) prog_30_method_4_code (3 : Nat) (Option.some Jvm.ClassFile.FieldType.int)).before a0 Z = true := hw _ (List.mem_of_getElem? (i := 83) rfl)
theorem pd_9 : parseMethodDescriptor "(II)I" = some ⟨[.int, .int], some .int⟩ := by decide +kernel
theorem wd_80 {Z : State} {a0 : Array Value} (hw : ∀ d ∈ tables_1, d.before a0 Z = true) : (Jvm.Cond.declares ({ cls := "com/example/pathweave/pathweave/eval/Relation", name := "value", desc := "(II)I" } : Jvm.MethodName)).before a0 Z = true := hw _ (List.mem_of_getElem? (i := 80) rfl)
theorem wd_81 {Z : State} {a0 : Array Value} (hw : ∀ d ∈ tables_1, d.before a0 Z = true) : (Jvm.Cond.instanceMethod ({ cls := "com/example/pathweave/pathweave/eval/Relation", name := "value", desc := "(II)I" } : Jvm.MethodName)).before a0 Z = true := hw _ (List.mem_of_getElem? (i := 81) rfl)
theorem pn_4 : plainName "com/example/pathweave/pathweave/eval/RelationValuePinLaw" = true := by first | (simp [plainName, overriddenIn]; done) | decide +kernel
set_option maxRecDepth 65536 in
set_option maxHeartbeats 40000000 in
theorem c_fill (l : Launch) (Z : State) (a0 : Array Value) (hw : ∀ d ∈ tables_1, d.before a0 Z = true) (a : Addr) (h : Heap) (n0 : Nat) (hn : n0 ≤ h.size) (ga : n0 ≤ a) (A : Ary Z h a .int [(.int (0 : Int32)), (.int (0 : Int32)), (.int (0 : Int32)), (.int (0 : Int32)), (.int (0 : Int32)), (.int (0 : Int32)), (.int (0 : Int32)), (.int (0 : Int32)), (.int (0 : Int32)), (.int (0 : Int32)), (.int (0 : Int32)), (.int (0 : Int32)), (.int (0 : Int32)), (.int (0 : Int32)), (.int (0 : Int32)), (.int (0 : Int32))]) : Con l Z (⟨"java/util/Arrays", "fill", "([II)V"⟩ : MethodName) jdk_65_method_103_code 4 none ({ frames := 0, cells := 0, slots := 0, locals := 0 } : Room) #[(.ref a), (.int (-1 : Int32))] h n0 (fun r h' => r = none ∧ Keep h h' [a] ∧ Ary Z h' a .int (List.replicate 16 (.int (-1 : Int32)))) := by
  refine ConW.of_W (Ls := #[.val (.ref a), .val (.int (-1 : Int32)), .unset, .unset]) (plainFor_of_name pn_0) hn (fun m => by first | (simp [entryFrame, mkF, argsToLocals, Value.category]; done) | rfl) ?_
  refine W.iconst 1 d_jdk_65_method_103_0 rfl (0 : Int32) rfl ?_
  refine W.istoreN 2 d_jdk_65_method_103_1 rfl #[.val (.ref a), .val (.int (-1 : Int32)), .val (.int (0 : Int32)), .unset] rfl ?_
  refine W.aloadN 3 d_jdk_65_method_103_2 rfl rfl rfl ?_
  refine W.arraylength 4 d_jdk_65_method_103_3 rfl A (16 : Int32) rfl ?_
  refine W.istoreN 5 d_jdk_65_method_103_4 rfl #[.val (.ref a), .val (.int (-1 : Int32)), .val (.int (0 : Int32)), .val (.int (16 : Int32))] rfl ?_
  refine W.iloadN 6 d_jdk_65_method_103_5 rfl rfl ?_
  refine W.iloadN 7 d_jdk_65_method_103_6 rfl rfl ?_
  refine W.icmp_ge 20 10 d_jdk_65_method_103_7 rfl rfl (fun hc => absurd (by decide) hc) (fun _ => ?_)
  refine W.aloadN 11 d_jdk_65_method_103_10 rfl rfl rfl ?_
  refine W.iloadN 12 d_jdk_65_method_103_11 rfl rfl ?_
  refine W.iloadN 13 d_jdk_65_method_103_12 rfl rfl ?_
  refine W.iastore 14 d_jdk_65_method_103_13 rfl A 0 (by decide) (by decide) (Nat.le_of_ble_eq_true rfl) ga ?_
  intro h1001 W1001 K1001 A1001
  have kc1002 := Keep.trans (ws := [a]) (Keep.refl _ [a]) K1001 (allS (Or.inl (List.mem_of_getElem? (i := 0) rfl)) all0)
  have A1001 : Ary _ _ a .int [(.int (-1 : Int32)), (.int (0 : Int32)), (.int (0 : Int32)), (.int (0 : Int32)), (.int (0 : Int32)), (.int (0 : Int32)), (.int (0 : Int32)), (.int (0 : Int32)), (.int (0 : Int32)), (.int (0 : Int32)), (.int (0 : Int32)), (.int (0 : Int32)), (.int (0 : Int32)), (.int (0 : Int32)), (.int (0 : Int32)), (.int (0 : Int32))] := A1001
  refine W.iinc 17 d_jdk_65_method_103_14 rfl rfl (1 : Int32) (by decide) #[.val (.ref a), .val (.int (-1 : Int32)), .val (.int (1 : Int32)), .val (.int (16 : Int32))] rfl ?_
  refine W.goto 5 d_jdk_65_method_103_17 rfl ?_
  refine W.iloadN 6 d_jdk_65_method_103_5 rfl rfl ?_
  refine W.iloadN 7 d_jdk_65_method_103_6 rfl rfl ?_
  refine W.icmp_ge 20 10 d_jdk_65_method_103_7 rfl rfl (fun hc => absurd (by decide) hc) (fun _ => ?_)
  refine W.aloadN 11 d_jdk_65_method_103_10 rfl rfl rfl ?_
  refine W.iloadN 12 d_jdk_65_method_103_11 rfl rfl ?_
  refine W.iloadN 13 d_jdk_65_method_103_12 rfl rfl ?_
  refine W.iastore 14 d_jdk_65_method_103_13 rfl A1001 1 (by decide) (by decide) (Nat.le_of_ble_eq_true rfl) ga ?_
  intro h1003 W1003 K1003 A1003
  have kc1004 := Keep.trans (ws := [a]) kc1002 K1003 (allS (Or.inl (List.mem_of_getElem? (i := 0) rfl)) all0)
  have A1003 : Ary _ _ a .int [(.int (-1 : Int32)), (.int (-1 : Int32)), (.int (0 : Int32)), (.int (0 : Int32)), (.int (0 : Int32)), (.int (0 : Int32)), (.int (0 : Int32)), (.int (0 : Int32)), (.int (0 : Int32)), (.int (0 : Int32)), (.int (0 : Int32)), (.int (0 : Int32)), (.int (0 : Int32)), (.int (0 : Int32)), (.int (0 : Int32)), (.int (0 : Int32))] := A1003
  refine W.iinc 17 d_jdk_65_method_103_14 rfl rfl (2 : Int32) (by decide) #[.val (.ref a), .val (.int (-1 : Int32)), .val (.int (2 : Int32)), .val (.int (16 : Int32))] rfl ?_
  refine W.goto 5 d_jdk_65_method_103_17 rfl ?_
  refine W.iloadN 6 d_jdk_65_method_103_5 rfl rfl ?_
  refine W.iloadN 7 d_jdk_65_method_103_6 rfl rfl ?_
  refine W.icmp_ge 20 10 d_jdk_65_method_103_7 rfl rfl (fun hc => absurd (by decide) hc) (fun _ => ?_)
  refine W.aloadN 11 d_jdk_65_method_103_10 rfl rfl rfl ?_
  refine W.iloadN 12 d_jdk_65_method_103_11 rfl rfl ?_
  refine W.iloadN 13 d_jdk_65_method_103_12 rfl rfl ?_
  refine W.iastore 14 d_jdk_65_method_103_13 rfl A1003 2 (by decide) (by decide) (Nat.le_of_ble_eq_true rfl) ga ?_
  intro h1005 W1005 K1005 A1005
  have kc1006 := Keep.trans (ws := [a]) kc1004 K1005 (allS (Or.inl (List.mem_of_getElem? (i := 0) rfl)) all0)
  have A1005 : Ary _ _ a .int [(.int (-1 : Int32)), (.int (-1 : Int32)), (.int (-1 : Int32)), (.int (0 : Int32)), (.int (0 : Int32)), (.int (0 : Int32)), (.int (0 : Int32)), (.int (0 : Int32)), (.int (0 : Int32)), (.int (0 : Int32)), (.int (0 : Int32)), (.int (0 : Int32)), (.int (0 : Int32)), (.int (0 : Int32)), (.int (0 : Int32)), (.int (0 : Int32))] := A1005
  refine W.iinc 17 d_jdk_65_method_103_14 rfl rfl (3 : Int32) (by decide) #[.val (.ref a), .val (.int (-1 : Int32)), .val (.int (3 : Int32)), .val (.int (16 : Int32))] rfl ?_
  refine W.goto 5 d_jdk_65_method_103_17 rfl ?_
  refine W.iloadN 6 d_jdk_65_method_103_5 rfl rfl ?_
  refine W.iloadN 7 d_jdk_65_method_103_6 rfl rfl ?_
  refine W.icmp_ge 20 10 d_jdk_65_method_103_7 rfl rfl (fun hc => absurd (by decide) hc) (fun _ => ?_)
  refine W.aloadN 11 d_jdk_65_method_103_10 rfl rfl rfl ?_
  refine W.iloadN 12 d_jdk_65_method_103_11 rfl rfl ?_
  refine W.iloadN 13 d_jdk_65_method_103_12 rfl rfl ?_
  refine W.iastore 14 d_jdk_65_method_103_13 rfl A1005 3 (by decide) (by decide) (Nat.le_of_ble_eq_true rfl) ga ?_
  intro h1007 W1007 K1007 A1007
  have kc1008 := Keep.trans (ws := [a]) kc1006 K1007 (allS (Or.inl (List.mem_of_getElem? (i := 0) rfl)) all0)
  have A1007 : Ary _ _ a .int [(.int (-1 : Int32)), (.int (-1 : Int32)), (.int (-1 : Int32)), (.int (-1 : Int32)), (.int (0 : Int32)), (.int (0 : Int32)), (.int (0 : Int32)), (.int (0 : Int32)), (.int (0 : Int32)), (.int (0 : Int32)), (.int (0 : Int32)), (.int (0 : Int32)), (.int (0 : Int32)), (.int (0 : Int32)), (.int (0 : Int32)), (.int (0 : Int32))] := A1007
  refine W.iinc 17 d_jdk_65_method_103_14 rfl rfl (4 : Int32) (by decide) #[.val (.ref a), .val (.int (-1 : Int32)), .val (.int (4 : Int32)), .val (.int (16 : Int32))] rfl ?_
  refine W.goto 5 d_jdk_65_method_103_17 rfl ?_
  refine W.iloadN 6 d_jdk_65_method_103_5 rfl rfl ?_
  refine W.iloadN 7 d_jdk_65_method_103_6 rfl rfl ?_
  refine W.icmp_ge 20 10 d_jdk_65_method_103_7 rfl rfl (fun hc => absurd (by decide) hc) (fun _ => ?_)
  refine W.aloadN 11 d_jdk_65_method_103_10 rfl rfl rfl ?_
  refine W.iloadN 12 d_jdk_65_method_103_11 rfl rfl ?_
  refine W.iloadN 13 d_jdk_65_method_103_12 rfl rfl ?_
  refine W.iastore 14 d_jdk_65_method_103_13 rfl A1007 4 (by decide) (by decide) (Nat.le_of_ble_eq_true rfl) ga ?_
  intro h1009 W1009 K1009 A1009
  have kc1010 := Keep.trans (ws := [a]) kc1008 K1009 (allS (Or.inl (List.mem_of_getElem? (i := 0) rfl)) all0)
  have A1009 : Ary _ _ a .int [(.int (-1 : Int32)), (.int (-1 : Int32)), (.int (-1 : Int32)), (.int (-1 : Int32)), (.int (-1 : Int32)), (.int (0 : Int32)), (.int (0 : Int32)), (.int (0 : Int32)), (.int (0 : Int32)), (.int (0 : Int32)), (.int (0 : Int32)), (.int (0 : Int32)), (.int (0 : Int32)), (.int (0 : Int32)), (.int (0 : Int32)), (.int (0 : Int32))] := A1009
  refine W.iinc 17 d_jdk_65_method_103_14 rfl rfl (5 : Int32) (by decide) #[.val (.ref a), .val (.int (-1 : Int32)), .val (.int (5 : Int32)), .val (.int (16 : Int32))] rfl ?_
  refine W.goto 5 d_jdk_65_method_103_17 rfl ?_
  refine W.iloadN 6 d_jdk_65_method_103_5 rfl rfl ?_
  refine W.iloadN 7 d_jdk_65_method_103_6 rfl rfl ?_
  refine W.icmp_ge 20 10 d_jdk_65_method_103_7 rfl rfl (fun hc => absurd (by decide) hc) (fun _ => ?_)
  refine W.aloadN 11 d_jdk_65_method_103_10 rfl rfl rfl ?_
  refine W.iloadN 12 d_jdk_65_method_103_11 rfl rfl ?_
  refine W.iloadN 13 d_jdk_65_method_103_12 rfl rfl ?_
  refine W.iastore 14 d_jdk_65_method_103_13 rfl A1009 5 (by decide) (by decide) (Nat.le_of_ble_eq_true rfl) ga ?_
  intro h1011 W1011 K1011 A1011
  have kc1012 := Keep.trans (ws := [a]) kc1010 K1011 (allS (Or.inl (List.mem_of_getElem? (i := 0) rfl)) all0)
  have A1011 : Ary _ _ a .int [(.int (-1 : Int32)), (.int (-1 : Int32)), (.int (-1 : Int32)), (.int (-1 : Int32)), (.int (-1 : Int32)), (.int (-1 : Int32)), (.int (0 : Int32)), (.int (0 : Int32)), (.int (0 : Int32)), (.int (0 : Int32)), (.int (0 : Int32)), (.int (0 : Int32)), (.int (0 : Int32)), (.int (0 : Int32)), (.int (0 : Int32)), (.int (0 : Int32))] := A1011
  refine W.iinc 17 d_jdk_65_method_103_14 rfl rfl (6 : Int32) (by decide) #[.val (.ref a), .val (.int (-1 : Int32)), .val (.int (6 : Int32)), .val (.int (16 : Int32))] rfl ?_
  refine W.goto 5 d_jdk_65_method_103_17 rfl ?_
  refine W.iloadN 6 d_jdk_65_method_103_5 rfl rfl ?_
  refine W.iloadN 7 d_jdk_65_method_103_6 rfl rfl ?_
  refine W.icmp_ge 20 10 d_jdk_65_method_103_7 rfl rfl (fun hc => absurd (by decide) hc) (fun _ => ?_)
  refine W.aloadN 11 d_jdk_65_method_103_10 rfl rfl rfl ?_
  refine W.iloadN 12 d_jdk_65_method_103_11 rfl rfl ?_
  refine W.iloadN 13 d_jdk_65_method_103_12 rfl rfl ?_
  refine W.iastore 14 d_jdk_65_method_103_13 rfl A1011 6 (by decide) (by decide) (Nat.le_of_ble_eq_true rfl) ga ?_
  intro h1013 W1013 K1013 A1013
  have kc1014 := Keep.trans (ws := [a]) kc1012 K1013 (allS (Or.inl (List.mem_of_getElem? (i := 0) rfl)) all0)
  have A1013 : Ary _ _ a .int [(.int (-1 : Int32)), (.int (-1 : Int32)), (.int (-1 : Int32)), (.int (-1 : Int32)), (.int (-1 : Int32)), (.int (-1 : Int32)), (.int (-1 : Int32)), (.int (0 : Int32)), (.int (0 : Int32)), (.int (0 : Int32)), (.int (0 : Int32)), (.int (0 : Int32)), (.int (0 : Int32)), (.int (0 : Int32)), (.int (0 : Int32)), (.int (0 : Int32))] := A1013
  refine W.iinc 17 d_jdk_65_method_103_14 rfl rfl (7 : Int32) (by decide) #[.val (.ref a), .val (.int (-1 : Int32)), .val (.int (7 : Int32)), .val (.int (16 : Int32))] rfl ?_
  refine W.goto 5 d_jdk_65_method_103_17 rfl ?_
  refine W.iloadN 6 d_jdk_65_method_103_5 rfl rfl ?_
  refine W.iloadN 7 d_jdk_65_method_103_6 rfl rfl ?_
  refine W.icmp_ge 20 10 d_jdk_65_method_103_7 rfl rfl (fun hc => absurd (by decide) hc) (fun _ => ?_)
  refine W.aloadN 11 d_jdk_65_method_103_10 rfl rfl rfl ?_
  refine W.iloadN 12 d_jdk_65_method_103_11 rfl rfl ?_
  refine W.iloadN 13 d_jdk_65_method_103_12 rfl rfl ?_
  refine W.iastore 14 d_jdk_65_method_103_13 rfl A1013 7 (by decide) (by decide) (Nat.le_of_ble_eq_true rfl) ga ?_
  intro h1015 W1015 K1015 A1015
  have kc1016 := Keep.trans (ws := [a]) kc1014 K1015 (allS (Or.inl (List.mem_of_getElem? (i := 0) rfl)) all0)
  have A1015 : Ary _ _ a .int [(.int (-1 : Int32)), (.int (-1 : Int32)), (.int (-1 : Int32)), (.int (-1 : Int32)), (.int (-1 : Int32)), (.int (-1 : Int32)), (.int (-1 : Int32)), (.int (-1 : Int32)), (.int (0 : Int32)), (.int (0 : Int32)), (.int (0 : Int32)), (.int (0 : Int32)), (.int (0 : Int32)), (.int (0 : Int32)), (.int (0 : Int32)), (.int (0 : Int32))] := A1015
  refine W.iinc 17 d_jdk_65_method_103_14 rfl rfl (8 : Int32) (by decide) #[.val (.ref a), .val (.int (-1 : Int32)), .val (.int (8 : Int32)), .val (.int (16 : Int32))] rfl ?_
  refine W.goto 5 d_jdk_65_method_103_17 rfl ?_
  refine W.iloadN 6 d_jdk_65_method_103_5 rfl rfl ?_
  refine W.iloadN 7 d_jdk_65_method_103_6 rfl rfl ?_
  refine W.icmp_ge 20 10 d_jdk_65_method_103_7 rfl rfl (fun hc => absurd (by decide) hc) (fun _ => ?_)
  refine W.aloadN 11 d_jdk_65_method_103_10 rfl rfl rfl ?_
  refine W.iloadN 12 d_jdk_65_method_103_11 rfl rfl ?_
  refine W.iloadN 13 d_jdk_65_method_103_12 rfl rfl ?_
  refine W.iastore 14 d_jdk_65_method_103_13 rfl A1015 8 (by decide) (by decide) (Nat.le_of_ble_eq_true rfl) ga ?_
  intro h1017 W1017 K1017 A1017
  have kc1018 := Keep.trans (ws := [a]) kc1016 K1017 (allS (Or.inl (List.mem_of_getElem? (i := 0) rfl)) all0)
  have A1017 : Ary _ _ a .int [(.int (-1 : Int32)), (.int (-1 : Int32)), (.int (-1 : Int32)), (.int (-1 : Int32)), (.int (-1 : Int32)), (.int (-1 : Int32)), (.int (-1 : Int32)), (.int (-1 : Int32)), (.int (-1 : Int32)), (.int (0 : Int32)), (.int (0 : Int32)), (.int (0 : Int32)), (.int (0 : Int32)), (.int (0 : Int32)), (.int (0 : Int32)), (.int (0 : Int32))] := A1017
  refine W.iinc 17 d_jdk_65_method_103_14 rfl rfl (9 : Int32) (by decide) #[.val (.ref a), .val (.int (-1 : Int32)), .val (.int (9 : Int32)), .val (.int (16 : Int32))] rfl ?_
  refine W.goto 5 d_jdk_65_method_103_17 rfl ?_
  refine W.iloadN 6 d_jdk_65_method_103_5 rfl rfl ?_
  refine W.iloadN 7 d_jdk_65_method_103_6 rfl rfl ?_
  refine W.icmp_ge 20 10 d_jdk_65_method_103_7 rfl rfl (fun hc => absurd (by decide) hc) (fun _ => ?_)
  refine W.aloadN 11 d_jdk_65_method_103_10 rfl rfl rfl ?_
  refine W.iloadN 12 d_jdk_65_method_103_11 rfl rfl ?_
  refine W.iloadN 13 d_jdk_65_method_103_12 rfl rfl ?_
  refine W.iastore 14 d_jdk_65_method_103_13 rfl A1017 9 (by decide) (by decide) (Nat.le_of_ble_eq_true rfl) ga ?_
  intro h1019 W1019 K1019 A1019
  have kc1020 := Keep.trans (ws := [a]) kc1018 K1019 (allS (Or.inl (List.mem_of_getElem? (i := 0) rfl)) all0)
  have A1019 : Ary _ _ a .int [(.int (-1 : Int32)), (.int (-1 : Int32)), (.int (-1 : Int32)), (.int (-1 : Int32)), (.int (-1 : Int32)), (.int (-1 : Int32)), (.int (-1 : Int32)), (.int (-1 : Int32)), (.int (-1 : Int32)), (.int (-1 : Int32)), (.int (0 : Int32)), (.int (0 : Int32)), (.int (0 : Int32)), (.int (0 : Int32)), (.int (0 : Int32)), (.int (0 : Int32))] := A1019
  refine W.iinc 17 d_jdk_65_method_103_14 rfl rfl (10 : Int32) (by decide) #[.val (.ref a), .val (.int (-1 : Int32)), .val (.int (10 : Int32)), .val (.int (16 : Int32))] rfl ?_
  refine W.goto 5 d_jdk_65_method_103_17 rfl ?_
  refine W.iloadN 6 d_jdk_65_method_103_5 rfl rfl ?_
  refine W.iloadN 7 d_jdk_65_method_103_6 rfl rfl ?_
  refine W.icmp_ge 20 10 d_jdk_65_method_103_7 rfl rfl (fun hc => absurd (by decide) hc) (fun _ => ?_)
  refine W.aloadN 11 d_jdk_65_method_103_10 rfl rfl rfl ?_
  refine W.iloadN 12 d_jdk_65_method_103_11 rfl rfl ?_
  refine W.iloadN 13 d_jdk_65_method_103_12 rfl rfl ?_
  refine W.iastore 14 d_jdk_65_method_103_13 rfl A1019 10 (by decide) (by decide) (Nat.le_of_ble_eq_true rfl) ga ?_
  intro h1021 W1021 K1021 A1021
  have kc1022 := Keep.trans (ws := [a]) kc1020 K1021 (allS (Or.inl (List.mem_of_getElem? (i := 0) rfl)) all0)
  have A1021 : Ary _ _ a .int [(.int (-1 : Int32)), (.int (-1 : Int32)), (.int (-1 : Int32)), (.int (-1 : Int32)), (.int (-1 : Int32)), (.int (-1 : Int32)), (.int (-1 : Int32)), (.int (-1 : Int32)), (.int (-1 : Int32)), (.int (-1 : Int32)), (.int (-1 : Int32)), (.int (0 : Int32)), (.int (0 : Int32)), (.int (0 : Int32)), (.int (0 : Int32)), (.int (0 : Int32))] := A1021
  refine W.iinc 17 d_jdk_65_method_103_14 rfl rfl (11 : Int32) (by decide) #[.val (.ref a), .val (.int (-1 : Int32)), .val (.int (11 : Int32)), .val (.int (16 : Int32))] rfl ?_
  refine W.goto 5 d_jdk_65_method_103_17 rfl ?_
  refine W.iloadN 6 d_jdk_65_method_103_5 rfl rfl ?_
  refine W.iloadN 7 d_jdk_65_method_103_6 rfl rfl ?_
  refine W.icmp_ge 20 10 d_jdk_65_method_103_7 rfl rfl (fun hc => absurd (by decide) hc) (fun _ => ?_)
  refine W.aloadN 11 d_jdk_65_method_103_10 rfl rfl rfl ?_
  refine W.iloadN 12 d_jdk_65_method_103_11 rfl rfl ?_
  refine W.iloadN 13 d_jdk_65_method_103_12 rfl rfl ?_
  refine W.iastore 14 d_jdk_65_method_103_13 rfl A1021 11 (by decide) (by decide) (Nat.le_of_ble_eq_true rfl) ga ?_
  intro h1023 W1023 K1023 A1023
  have kc1024 := Keep.trans (ws := [a]) kc1022 K1023 (allS (Or.inl (List.mem_of_getElem? (i := 0) rfl)) all0)
  have A1023 : Ary _ _ a .int [(.int (-1 : Int32)), (.int (-1 : Int32)), (.int (-1 : Int32)), (.int (-1 : Int32)), (.int (-1 : Int32)), (.int (-1 : Int32)), (.int (-1 : Int32)), (.int (-1 : Int32)), (.int (-1 : Int32)), (.int (-1 : Int32)), (.int (-1 : Int32)), (.int (-1 : Int32)), (.int (0 : Int32)), (.int (0 : Int32)), (.int (0 : Int32)), (.int (0 : Int32))] := A1023
  refine W.iinc 17 d_jdk_65_method_103_14 rfl rfl (12 : Int32) (by decide) #[.val (.ref a), .val (.int (-1 : Int32)), .val (.int (12 : Int32)), .val (.int (16 : Int32))] rfl ?_
  refine W.goto 5 d_jdk_65_method_103_17 rfl ?_
  refine W.iloadN 6 d_jdk_65_method_103_5 rfl rfl ?_
  refine W.iloadN 7 d_jdk_65_method_103_6 rfl rfl ?_
  refine W.icmp_ge 20 10 d_jdk_65_method_103_7 rfl rfl (fun hc => absurd (by decide) hc) (fun _ => ?_)
  refine W.aloadN 11 d_jdk_65_method_103_10 rfl rfl rfl ?_
  refine W.iloadN 12 d_jdk_65_method_103_11 rfl rfl ?_
  refine W.iloadN 13 d_jdk_65_method_103_12 rfl rfl ?_
  refine W.iastore 14 d_jdk_65_method_103_13 rfl A1023 12 (by decide) (by decide) (Nat.le_of_ble_eq_true rfl) ga ?_
  intro h1025 W1025 K1025 A1025
  have kc1026 := Keep.trans (ws := [a]) kc1024 K1025 (allS (Or.inl (List.mem_of_getElem? (i := 0) rfl)) all0)
  have A1025 : Ary _ _ a .int [(.int (-1 : Int32)), (.int (-1 : Int32)), (.int (-1 : Int32)), (.int (-1 : Int32)), (.int (-1 : Int32)), (.int (-1 : Int32)), (.int (-1 : Int32)), (.int (-1 : Int32)), (.int (-1 : Int32)), (.int (-1 : Int32)), (.int (-1 : Int32)), (.int (-1 : Int32)), (.int (-1 : Int32)), (.int (0 : Int32)), (.int (0 : Int32)), (.int (0 : Int32))] := A1025
  refine W.iinc 17 d_jdk_65_method_103_14 rfl rfl (13 : Int32) (by decide) #[.val (.ref a), .val (.int (-1 : Int32)), .val (.int (13 : Int32)), .val (.int (16 : Int32))] rfl ?_
  refine W.goto 5 d_jdk_65_method_103_17 rfl ?_
  refine W.iloadN 6 d_jdk_65_method_103_5 rfl rfl ?_
  refine W.iloadN 7 d_jdk_65_method_103_6 rfl rfl ?_
  refine W.icmp_ge 20 10 d_jdk_65_method_103_7 rfl rfl (fun hc => absurd (by decide) hc) (fun _ => ?_)
  refine W.aloadN 11 d_jdk_65_method_103_10 rfl rfl rfl ?_
  refine W.iloadN 12 d_jdk_65_method_103_11 rfl rfl ?_
  refine W.iloadN 13 d_jdk_65_method_103_12 rfl rfl ?_
  refine W.iastore 14 d_jdk_65_method_103_13 rfl A1025 13 (by decide) (by decide) (Nat.le_of_ble_eq_true rfl) ga ?_
  intro h1027 W1027 K1027 A1027
  have kc1028 := Keep.trans (ws := [a]) kc1026 K1027 (allS (Or.inl (List.mem_of_getElem? (i := 0) rfl)) all0)
  have A1027 : Ary _ _ a .int [(.int (-1 : Int32)), (.int (-1 : Int32)), (.int (-1 : Int32)), (.int (-1 : Int32)), (.int (-1 : Int32)), (.int (-1 : Int32)), (.int (-1 : Int32)), (.int (-1 : Int32)), (.int (-1 : Int32)), (.int (-1 : Int32)), (.int (-1 : Int32)), (.int (-1 : Int32)), (.int (-1 : Int32)), (.int (-1 : Int32)), (.int (0 : Int32)), (.int (0 : Int32))] := A1027
  refine W.iinc 17 d_jdk_65_method_103_14 rfl rfl (14 : Int32) (by decide) #[.val (.ref a), .val (.int (-1 : Int32)), .val (.int (14 : Int32)), .val (.int (16 : Int32))] rfl ?_
  refine W.goto 5 d_jdk_65_method_103_17 rfl ?_
  refine W.iloadN 6 d_jdk_65_method_103_5 rfl rfl ?_
  refine W.iloadN 7 d_jdk_65_method_103_6 rfl rfl ?_
  refine W.icmp_ge 20 10 d_jdk_65_method_103_7 rfl rfl (fun hc => absurd (by decide) hc) (fun _ => ?_)
  refine W.aloadN 11 d_jdk_65_method_103_10 rfl rfl rfl ?_
  refine W.iloadN 12 d_jdk_65_method_103_11 rfl rfl ?_
  refine W.iloadN 13 d_jdk_65_method_103_12 rfl rfl ?_
  refine W.iastore 14 d_jdk_65_method_103_13 rfl A1027 14 (by decide) (by decide) (Nat.le_of_ble_eq_true rfl) ga ?_
  intro h1029 W1029 K1029 A1029
  have kc1030 := Keep.trans (ws := [a]) kc1028 K1029 (allS (Or.inl (List.mem_of_getElem? (i := 0) rfl)) all0)
  have A1029 : Ary _ _ a .int [(.int (-1 : Int32)), (.int (-1 : Int32)), (.int (-1 : Int32)), (.int (-1 : Int32)), (.int (-1 : Int32)), (.int (-1 : Int32)), (.int (-1 : Int32)), (.int (-1 : Int32)), (.int (-1 : Int32)), (.int (-1 : Int32)), (.int (-1 : Int32)), (.int (-1 : Int32)), (.int (-1 : Int32)), (.int (-1 : Int32)), (.int (-1 : Int32)), (.int (0 : Int32))] := A1029
  refine W.iinc 17 d_jdk_65_method_103_14 rfl rfl (15 : Int32) (by decide) #[.val (.ref a), .val (.int (-1 : Int32)), .val (.int (15 : Int32)), .val (.int (16 : Int32))] rfl ?_
  refine W.goto 5 d_jdk_65_method_103_17 rfl ?_
  refine W.iloadN 6 d_jdk_65_method_103_5 rfl rfl ?_
  refine W.iloadN 7 d_jdk_65_method_103_6 rfl rfl ?_
  refine W.icmp_ge 20 10 d_jdk_65_method_103_7 rfl rfl (fun hc => absurd (by decide) hc) (fun _ => ?_)
  refine W.aloadN 11 d_jdk_65_method_103_10 rfl rfl rfl ?_
  refine W.iloadN 12 d_jdk_65_method_103_11 rfl rfl ?_
  refine W.iloadN 13 d_jdk_65_method_103_12 rfl rfl ?_
  refine W.iastore 14 d_jdk_65_method_103_13 rfl A1029 15 (by decide) (by decide) (Nat.le_of_ble_eq_true rfl) ga ?_
  intro h1031 W1031 K1031 A1031
  have kc1032 := Keep.trans (ws := [a]) kc1030 K1031 (allS (Or.inl (List.mem_of_getElem? (i := 0) rfl)) all0)
  have A1031 : Ary _ _ a .int [(.int (-1 : Int32)), (.int (-1 : Int32)), (.int (-1 : Int32)), (.int (-1 : Int32)), (.int (-1 : Int32)), (.int (-1 : Int32)), (.int (-1 : Int32)), (.int (-1 : Int32)), (.int (-1 : Int32)), (.int (-1 : Int32)), (.int (-1 : Int32)), (.int (-1 : Int32)), (.int (-1 : Int32)), (.int (-1 : Int32)), (.int (-1 : Int32)), (.int (-1 : Int32))] := A1031
  refine W.iinc 17 d_jdk_65_method_103_14 rfl rfl (16 : Int32) (by decide) #[.val (.ref a), .val (.int (-1 : Int32)), .val (.int (16 : Int32)), .val (.int (16 : Int32))] rfl ?_
  refine W.goto 5 d_jdk_65_method_103_17 rfl ?_
  refine W.iloadN 6 d_jdk_65_method_103_5 rfl rfl ?_
  refine W.iloadN 7 d_jdk_65_method_103_6 rfl rfl ?_
  refine W.icmp_ge 20 10 d_jdk_65_method_103_7 rfl rfl (fun _ => ?_) (fun hc => absurd hc (by decide))
  exact W.return_ d_jdk_65_method_103_20 rfl ⟨rfl, kc1032, A1031⟩ (by decide) (by decide)
set_option maxRecDepth 65536 in
set_option maxHeartbeats 40000000 in
theorem c_es (l : Launch) (Z : State) (a0 : Array Value) (hw : ∀ d ∈ tables_1, d.before a0 Z = true) (h : Heap) (n0 : Nat) (hn : n0 ≤ h.size) : Con l Z (⟨"com/example/pathweave/pathweave/eval/Relation", "emptySlots", "(I)[I"⟩ : MethodName) prog_30_method_10_code 2 (some (.array .int)) ({ frames := 1, cells := 1, slots := 16, locals := 30 } : Room) #[(.int (16 : Int32))] h n0 (fun r h' => ∃ b, r = some (.ref b) ∧ h.size ≤ b ∧ n0 ≤ b ∧ Keep h h' [] ∧ Ary Z h' b .int (List.replicate 16 (.int (-1 : Int32)))) := by
  refine ConW.of_W (Ls := #[.val (.int (16 : Int32)), .unset]) (plainFor_of_name pn_1) hn (fun m => by first | (simp [entryFrame, mkF, argsToLocals, Value.category]; done) | rfl) ?_
  refine W.iloadN 1 d_prog_30_method_10_0 rfl rfl ?_
  refine W.newarray 3 d_prog_30_method_10_1 rfl (wd_10 hw) rfl (by decide) 16 16 (by decide) (by decide) (by decide) (by decide) (by decide) rfl ?_
  intro h1033 b1033 g1033 ge1033 X1033 K1033 A1033
  have sz1034 := Nat.le_trans (Keep.refl _ []).1 (Nat.le_of_eq g1033.symm)
  have kc1035 := Keep.trans (ws := []) (Keep.refl _ []) K1033 all0
  have A1033 : Ary _ _ b1033 .int [(.int (0 : Int32)), (.int (0 : Int32)), (.int (0 : Int32)), (.int (0 : Int32)), (.int (0 : Int32)), (.int (0 : Int32)), (.int (0 : Int32)), (.int (0 : Int32)), (.int (0 : Int32)), (.int (0 : Int32)), (.int (0 : Int32)), (.int (0 : Int32)), (.int (0 : Int32)), (.int (0 : Int32)), (.int (0 : Int32)), (.int (0 : Int32))] := A1033
  show W _ _ _ _ _ _ _ _ _ _ _ 1 16 3 #[.val (.int (16 : Int32)), .unset] [(.ref b1033)]
  refine W.astoreN 4 d_prog_30_method_10_3 rfl rfl #[.val (.int (16 : Int32)), .val (.ref b1033)] rfl ?_
  refine W.aloadN 5 d_prog_30_method_10_4 rfl rfl rfl ?_
  refine W.iconst 6 d_prog_30_method_10_5 rfl (-1 : Int32) rfl ?_
  refine W.callS (rest := []) (argsL := [(.ref b1033), (.int (-1 : Int32))]) 9 d_prog_30_method_10_6 rfl (fun hn => c_fill l Z a0 hw b1033 _ n0 hn ge1033 A1033) (wd_16 hw) (wd_17 hw) (wd_18 hw) (wd_19 hw) (by decide) pd_0 rfl rfl rfl (by decide) 0 (Nat.le_of_ble_eq_true rfl) (by decide) (by decide) (by decide) ?_
  rintro v1036 h1036 ⟨rfl, K1036, A1036⟩
  have kc1037 := Keep.trans (ws := []) kc1035 K1036 (allS (Or.inr sz1034) all0)
  show W _ _ _ _ _ _ _ _ _ _ _ 1 16 9 #[.val (.int (16 : Int32)), .val (.ref b1033)] []
  refine W.aloadN 10 d_prog_30_method_10_9 rfl rfl rfl ?_
  exact W.areturn d_prog_30_method_10_10 rfl rfl rfl rfl ⟨_, rfl, sz1034, ge1033, kc1037, A1036⟩ (by decide) (by decide)
set_option maxRecDepth 65536 in
set_option maxHeartbeats 40000000 in
theorem c_ai (l : Launch) (Z : State) (a0 : Array Value) (hw : ∀ d ∈ tables_1, d.before a0 Z = true) (a : Addr) (h : Heap) (n0 : Nat) (hn : n0 ≤ h.size) : Con l Z (⟨"java/util/AbstractMap", "<init>", "()V"⟩ : MethodName) jdk_71_method_1_code 1 none ({ frames := 1, cells := 0, slots := 0, locals := 20 } : Room) #[(.ref a)] h n0 (fun r h' => r = none ∧ h' = h) := by
  refine ConW.of_W (Ls := #[.val (.ref a)]) (plainFor_of_name pn_2) hn (fun m => by first | (simp [entryFrame, mkF, argsToLocals, Value.category]; done) | rfl) ?_
  refine W.aloadN 1 d_jdk_71_method_1_0 rfl rfl rfl ?_
  refine W.initObj 4 d_jdk_71_method_1_1 rfl (wd_34 hw) (wd_8 hw) (wd_9 hw) rfl (by decide) 0 (Nat.le_of_ble_eq_true rfl) (by decide) ?_
  exact W.return_ d_jdk_71_method_1_4 rfl ⟨rfl, rfl⟩ (by decide) (by decide)
set_option maxRecDepth 65536 in
set_option maxHeartbeats 40000000 in
theorem c_hi (l : Launch) (Z : State) (a0 : Array Value) (hw : ∀ d ∈ tables_1, d.before a0 Z = true) (a : Addr) (u : UInt32) (h : Heap) (n0 : Nat) (hn : n0 ≤ h.size) (ga : n0 ≤ a) (E : Exa Z h a "java/util/HashMap") (F0 : Fld Z h a "java/util/HashMap" "loadFactor" "F" (.float u)) (F1 : Fld Z h a "java/util/HashMap" "modCount" "I" (.int (0 : Int32))) (F2 : Fld Z h a "java/util/HashMap" "table" "[Ljava/util/HashMap$Node;" .null) : Con l Z (⟨"java/util/HashMap", "<init>", "()V"⟩ : MethodName) jdk_69_method_7_code 1 none ({ frames := 2, cells := 0, slots := 0, locals := 50 } : Room) #[(.ref a)] h n0 (fun r h' => r = none ∧ Exa Z h' a "java/util/HashMap" ∧ (Fld Z h' a "java/util/HashMap" "modCount" "I" (.int (0 : Int32)) ∧ Fld Z h' a "java/util/HashMap" "table" "[Ljava/util/HashMap$Node;" .null) ∧ Keep h h' [a]) := by
  refine ConW.of_W (Ls := #[.val (.ref a)]) (plainFor_of_name pn_3) hn (fun m => by first | (simp [entryFrame, mkF, argsToLocals, Value.category]; done) | rfl) ?_
  refine W.aloadN 1 d_jdk_69_method_7_0 rfl rfl rfl ?_
  refine W.callInit (rest := []) (argsL := []) (a := a) 4 d_jdk_69_method_7_1 rfl (fun hn => c_ai l Z a0 hw a _ n0 hn) rfl (wd_28 hw) (wd_29 hw) (wd_32 hw) (wd_33 hw) (by decide) pd_1 rfl rfl rfl (by decide) 0 (Nat.le_of_ble_eq_true rfl) (by decide) (by decide) (by decide) ?_
  rintro v1038 h1038 ⟨rfl, rfl⟩
  show W _ _ _ _ _ _ _ _ _ _ _ 0 0 4 #[.val (.ref a)] []
  refine W.aloadN 5 d_jdk_69_method_7_4 rfl rfl rfl ?_
  refine W.ldcF 7 d_jdk_69_method_7_5 rfl (wd_35 hw) ?_
  refine W.putfield 10 d_jdk_69_method_7_7 rfl (host := "") (Or.inl (wd_36 hw)) Via.refl F0 E (Or.inr ⟨(wd_37 hw), rfl, rfl⟩) (wd_23 hw) (ty := .float) (by decide) rfl rfl ga ?_
  intro h1039 W1039 F1039 E1039 K1039
  have kc1040 := Keep.trans (ws := [a]) (Keep.refl _ [a]) K1039 (allS (Or.inl (List.mem_of_getElem? (i := 0) rfl)) all0)
  have q1041 := (F1.other W1039 (Or.inr (sne_0 hw)))
  have q1042 := (F2.other W1039 (Or.inr (sne_1 hw)))
  exact W.return_ d_jdk_69_method_7_10 rfl ⟨rfl, E1039, ⟨q1041, q1042⟩, kc1040⟩ (by decide) (by decide)
set_option maxRecDepth 65536 in
set_option maxHeartbeats 40000000 in
theorem c_clr (l : Launch) (Z : State) (a0 : Array Value) (hw : ∀ d ∈ tables_1, d.before a0 Z = true) (a : Addr) (mc : Int32) (h : Heap) (n0 : Nat) (hn : n0 ≤ h.size) (ga : n0 ≤ a) (E : Exa Z h a "java/util/HashMap") (F1 : Fld Z h a "java/util/HashMap" "modCount" "I" (.int mc)) (F2 : Fld Z h a "java/util/HashMap" "table" "[Ljava/util/HashMap$Node;" .null) : Con l Z (⟨"java/util/HashMap", "clear", "()V"⟩ : MethodName) jdk_69_method_22_code 3 none ({ frames := 0, cells := 0, slots := 0, locals := 0 } : Room) #[(.ref a)] h n0 (fun r h' => r = none ∧ Exa Z h' a "java/util/HashMap" ∧ (Fld Z h' a "java/util/HashMap" "modCount" "I" (.int (mc + (1 : Int32))) ∧ Fld Z h' a "java/util/HashMap" "table" "[Ljava/util/HashMap$Node;" .null) ∧ Keep h h' [a]) := by
  refine ConW.of_W (Ls := #[.val (.ref a), .unset, .unset]) (plainFor_of_name pn_3) hn (fun m => by first | (simp [entryFrame, mkF, argsToLocals, Value.category]; done) | rfl) ?_
  refine W.aloadN 1 d_jdk_69_method_22_0 rfl rfl rfl ?_
  refine W.dup 2 d_jdk_69_method_22_1 rfl rfl ?_
  refine W.getfield 5 d_jdk_69_method_22_2 rfl (host := "") (Or.inl (wd_70 hw)) Via.refl F1 ?_
  refine W.iconst 6 d_jdk_69_method_22_5 rfl (1 : Int32) rfl ?_
  refine W.iadd 7 d_jdk_69_method_22_6 rfl (mc + (1 : Int32)) rfl ?_
  refine W.putfield 10 d_jdk_69_method_22_7 rfl (host := "") (Or.inl (wd_70 hw)) Via.refl F1 E (Or.inl (wd_71 hw)) (wd_23 hw) (ty := .int) (by decide) rfl rfl ga ?_
  intro h1043 W1043 F1043 E1043 K1043
  have kc1044 := Keep.trans (ws := [a]) (Keep.refl _ [a]) K1043 (allS (Or.inl (List.mem_of_getElem? (i := 0) rfl)) all0)
  refine W.aloadN 11 d_jdk_69_method_22_10 rfl rfl rfl ?_
  have q1045 := (F2.other W1043 (Or.inr (sne_2 hw)))
  refine W.getfield 14 d_jdk_69_method_22_11 rfl (host := "") (Or.inl (wd_72 hw)) Via.refl q1045 ?_
  refine W.dup 15 d_jdk_69_method_22_14 rfl rfl ?_
  refine W.astoreN 16 d_jdk_69_method_22_15 rfl rfl #[.val (.ref a), .val .null, .unset] rfl ?_
  refine W.ifnull_null 49 d_jdk_69_method_22_16 rfl ?_
  exact W.return_ d_jdk_69_method_22_49 rfl ⟨rfl, E1043, ⟨F1043, q1045⟩, kc1044⟩ (by decide) (by decide)
set_option maxRecDepth 65536 in
set_option maxHeartbeats 40000000 in
theorem c_in (l : Launch) (Z : State) (a0 : Array Value) (hw : ∀ d ∈ tables_1, d.before a0 Z = true) (a : Addr) (k : Int32) (h : Heap) (n0 : Nat) (hn : n0 ≤ h.size) (ga : n0 ≤ a) (E : Exa Z h a "com/example/pathweave/pathweave/eval/Relation") (F0 : Fld Z h a "com/example/pathweave/pathweave/eval/Relation" "values" "[I" .null) (F1 : Fld Z h a "com/example/pathweave/pathweave/eval/Relation" "slots" "[I" .null) (F2 : Fld Z h a "com/example/pathweave/pathweave/eval/Relation" "indexes" "Ljava/util/Map;" .null) (F3 : Fld Z h a "com/example/pathweave/pathweave/eval/Relation" "arity" "I" (.int (0 : Int32))) (F4 : Fld Z h a "com/example/pathweave/pathweave/eval/Relation" "size" "I" (.int (0 : Int32))) : Con l Z (⟨"com/example/pathweave/pathweave/eval/Relation", "<init>", "(I)V"⟩ : MethodName) prog_30_method_1_code 2 none ({ frames := 3, cells := 3, slots := 40, locals := 100 } : Room) #[(.ref a), (.int k)] h n0 (fun r h' => r = none ∧ ∃ bv bs m, (h.size ≤ bv ∧ h.size ≤ bs ∧ h.size ≤ m) ∧ (n0 ≤ bv ∧ n0 ≤ bs ∧ n0 ≤ m) ∧ (a ≠ bv ∧ a ≠ bs ∧ a ≠ m ∧ bv ≠ bs ∧ bv ≠ m ∧ bs ≠ m) ∧ Keep h h' [a] ∧ Exa Z h' a "com/example/pathweave/pathweave/eval/Relation" ∧ Fld Z h' a "com/example/pathweave/pathweave/eval/Relation" "values" "[I" (.ref bv) ∧ Fld Z h' a "com/example/pathweave/pathweave/eval/Relation" "slots" "[I" (.ref bs) ∧ Fld Z h' a "com/example/pathweave/pathweave/eval/Relation" "indexes" "Ljava/util/Map;" (.ref m) ∧ Fld Z h' a "com/example/pathweave/pathweave/eval/Relation" "arity" "I" (.int k) ∧ Fld Z h' a "com/example/pathweave/pathweave/eval/Relation" "size" "I" (.int (0 : Int32)) ∧ Ary Z h' bv .int [(.int (0 : Int32)), (.int (0 : Int32)), (.int (0 : Int32)), (.int (0 : Int32)), (.int (0 : Int32)), (.int (0 : Int32)), (.int (0 : Int32)), (.int (0 : Int32)), (.int (0 : Int32)), (.int (0 : Int32)), (.int (0 : Int32)), (.int (0 : Int32)), (.int (0 : Int32)), (.int (0 : Int32)), (.int (0 : Int32)), (.int (0 : Int32))] ∧ Ary Z h' bs .int (List.replicate 16 (.int (-1 : Int32))) ∧ Exa Z h' m "java/util/HashMap" ∧ Fld Z h' m "java/util/HashMap" "modCount" "I" (.int (0 : Int32)) ∧ Fld Z h' m "java/util/HashMap" "table" "[Ljava/util/HashMap$Node;" .null) := by
  refine ConW.of_W (Ls := #[.val (.ref a), .val (.int k)]) (plainFor_of_name pn_1) hn (fun m => by first | (simp [entryFrame, mkF, argsToLocals, Value.category]; done) | rfl) ?_
  refine W.aloadN 1 d_prog_30_method_1_0 rfl rfl rfl ?_
  refine W.initObj 4 d_prog_30_method_1_1 rfl (wd_7 hw) (wd_8 hw) (wd_9 hw) rfl (by decide) 0 (Nat.le_of_ble_eq_true rfl) (by decide) ?_
  refine W.aloadN 5 d_prog_30_method_1_4 rfl rfl rfl ?_
  refine W.bipush 7 d_prog_30_method_1_5 rfl (16 : Int32) rfl ?_
  refine W.newarray 9 d_prog_30_method_1_7 rfl (wd_10 hw) rfl (by decide) 16 16 (by decide) (by decide) (by decide) (by decide) (by decide) rfl ?_
  intro h1046 b1046 g1046 ge1046 X1046 K1046 A1046
  have ne1047 : a ≠ b1046 := Nat.ne_of_lt (Nat.lt_of_lt_of_eq E.lt g1046.symm)
  have sz1048 := Nat.le_trans (Keep.refl _ [a]).1 (Nat.le_of_eq g1046.symm)
  have kc1049 := Keep.trans (ws := [a]) (Keep.refl _ [a]) K1046 all0
  have A1046 : Ary _ _ b1046 .int [(.int (0 : Int32)), (.int (0 : Int32)), (.int (0 : Int32)), (.int (0 : Int32)), (.int (0 : Int32)), (.int (0 : Int32)), (.int (0 : Int32)), (.int (0 : Int32)), (.int (0 : Int32)), (.int (0 : Int32)), (.int (0 : Int32)), (.int (0 : Int32)), (.int (0 : Int32)), (.int (0 : Int32)), (.int (0 : Int32)), (.int (0 : Int32))] := A1046
  show W _ _ _ _ _ _ _ _ _ _ _ 1 16 9 #[.val (.ref a), .val (.int k)] [(.ref b1046), (.ref a)]
  have q1050 := (F0.keep K1046 nin0)
  have q1051 := (E.keep K1046)
  refine W.putfield 12 d_prog_30_method_1_9 rfl (host := "") (Or.inl (wd_11 hw)) Via.refl q1050 q1051 (Or.inl (wd_12 hw)) (wd_2 hw) (ty := (.array .int)) (by decide) rfl rfl ga ?_
  intro h1052 W1052 F1052 E1052 K1052
  have kc1053 := Keep.trans (ws := [a]) kc1049 K1052 (allS (Or.inl (List.mem_of_getElem? (i := 0) rfl)) all0)
  refine W.aloadN 13 d_prog_30_method_1_12 rfl rfl rfl ?_
  refine W.bipush 15 d_prog_30_method_1_13 rfl (16 : Int32) rfl ?_
  refine W.callS (rest := [(.ref a)]) (argsL := [(.int (16 : Int32))]) 18 d_prog_30_method_1_15 rfl (fun hn => c_es l Z a0 hw _ n0 hn) (wd_13 hw) (wd_14 hw) (wd_3 hw) (wd_15 hw) (by decide) pd_2 rfl rfl rfl (by decide) 1 (Nat.le_of_ble_eq_true rfl) (by decide) (by decide) (by decide) ?_
  rintro v1054 h1054 ⟨b1054, rfl, sz1054, gb1054, K1054, A1054⟩
  have ne1055 : a ≠ b1054 := Nat.ne_of_lt (Nat.lt_of_lt_of_le E1052.lt sz1054)
  have q1056 := (A1046.keep K1052 (ninS (Ne.symm ne1047) nin0))
  have ne1057 : b1046 ≠ b1054 := Nat.ne_of_lt (Nat.lt_of_lt_of_le q1056.lt sz1054)
  have sz1058 := Nat.le_trans kc1053.1 sz1054
  have kc1059 := Keep.trans (ws := [a]) kc1053 K1054 all0
  show W _ _ _ _ _ _ _ _ _ _ _ 2 32 18 #[.val (.ref a), .val (.int k)] [(.ref b1054), (.ref a)]
  have q1060 := (((F1.keep K1046 nin0).other W1052 (Or.inr (sne_3 hw))).keep K1054 nin0)
  have q1061 := (E1052.keep K1054)
  refine W.putfield 21 d_prog_30_method_1_18 rfl (host := "") (Or.inl (wd_20 hw)) Via.refl q1060 q1061 (Or.inl (wd_21 hw)) (wd_2 hw) (ty := (.array .int)) (by decide) rfl rfl ga ?_
  intro h1062 W1062 F1062 E1062 K1062
  have kc1063 := Keep.trans (ws := [a]) kc1059 K1062 (allS (Or.inl (List.mem_of_getElem? (i := 0) rfl)) all0)
  refine W.aloadN 22 d_prog_30_method_1_21 rfl rfl rfl ?_
  refine W.new 25 d_prog_30_method_1_22 rfl (wd_22 hw) (wd_23 hw) (wd_24 hw) (by decide) (by decide) ?_
  intro h1064 o1064 g1064 ge1064 X1064 K1064 E1064 D1064
  have ne1065 : a ≠ o1064 := Nat.ne_of_lt (Nat.lt_of_lt_of_eq E1062.lt g1064.symm)
  have q1066 := ((q1056.keep K1054 nin0).keep K1062 (ninS (Ne.symm ne1047) nin0))
  have ne1067 : b1046 ≠ o1064 := Nat.ne_of_lt (Nat.lt_of_lt_of_eq q1066.lt g1064.symm)
  have q1068 := (A1054.keep K1062 (ninS (Ne.symm ne1055) nin0))
  have ne1069 : b1054 ≠ o1064 := Nat.ne_of_lt (Nat.lt_of_lt_of_eq q1068.lt g1064.symm)
  have sz1070 := Nat.le_trans kc1063.1 (Nat.le_of_eq g1064.symm)
  have kc1071 := Keep.trans (ws := [a]) kc1063 K1064 all0
  have f1072 : Fld _ _ o1064 "java/util/HashMap" "loadFactor" "F" (defaultValue .float) := D1064 (Or.inr (wd_37 hw)) (ty := .float) (by decide)
  have f1073 : Fld _ _ o1064 "java/util/HashMap" "modCount" "I" (.int (0 : Int32)) := D1064 (Or.inl (wd_71 hw)) (ty := .int) (by decide)
  have f1074 : Fld _ _ o1064 "java/util/HashMap" "table" "[Ljava/util/HashMap$Node;" .null := D1064 (Or.inl (wd_73 hw)) (ty := (.array (.object "java/util/HashMap$Node"))) (by decide)
  show W _ _ _ _ _ _ _ _ _ _ _ 3 40 25 #[.val (.ref a), .val (.int k)] [(.ref o1064), (.ref a)]
  refine W.dup 26 d_prog_30_method_1_25 rfl rfl ?_
  refine W.callInit (rest := [(.ref o1064), (.ref a)]) (argsL := []) (a := o1064) 29 d_prog_30_method_1_26 rfl (fun hn => c_hi l Z a0 hw o1064 _ _ n0 hn ge1064 E1064 f1072 f1073 f1074) rfl (wd_25 hw) (wd_26 hw) (wd_24 hw) (wd_27 hw) (by decide) pd_1 rfl rfl rfl (by decide) 2 (Nat.le_of_ble_eq_true rfl) (by decide) (by decide) (by decide) ?_
  rintro v1075 h1075 ⟨rfl, E1075, ⟨F1075, G1075⟩, K1075⟩
  have kc1076 := Keep.trans (ws := [a]) kc1071 K1075 (allS (Or.inr sz1070) all0)
  show W _ _ _ _ _ _ _ _ _ _ _ 3 40 29 #[.val (.ref a), .val (.int k)] [(.ref o1064), (.ref a)]
  have q1077 := ((((((F2.keep K1046 nin0).other W1052 (Or.inr (sne_4 hw))).keep K1054 nin0).other W1062 (Or.inr (sne_5 hw))).keep K1064 nin0).keep K1075 (ninS ne1065 nin0))
  have q1078 := ((E1062.keep K1064).keep K1075)
  refine W.putfield 32 d_prog_30_method_1_29 rfl (host := "") (Or.inl (wd_38 hw)) Via.refl q1077 q1078 (Or.inr ⟨(wd_39 hw), rfl, rfl⟩) (wd_2 hw) (ty := (.object "java/util/Map")) (by decide) rfl rfl ga ?_
  intro h1079 W1079 F1079 E1079 K1079
  have kc1080 := Keep.trans (ws := [a]) kc1076 K1079 (allS (Or.inl (List.mem_of_getElem? (i := 0) rfl)) all0)
  refine W.aloadN 33 d_prog_30_method_1_32 rfl rfl rfl ?_
  refine W.iloadN 34 d_prog_30_method_1_33 rfl rfl ?_
  have q1081 := (((((((F3.keep K1046 nin0).other W1052 (Or.inr (sne_6 hw))).keep K1054 nin0).other W1062 (Or.inr (sne_7 hw))).keep K1064 nin0).keep K1075 (ninS ne1065 nin0)).other W1079 (Or.inr (sne_8 hw)))
  refine W.putfield 37 d_prog_30_method_1_34 rfl (host := "") (Or.inl (wd_40 hw)) Via.refl q1081 E1079 (Or.inr ⟨(wd_41 hw), rfl, rfl⟩) (wd_2 hw) (ty := .int) (by decide) rfl rfl ga ?_
  intro h1082 W1082 F1082 E1082 K1082
  have kc1083 := Keep.trans (ws := [a]) kc1080 K1082 (allS (Or.inl (List.mem_of_getElem? (i := 0) rfl)) all0)
  have q1084 := ((((((F1052.keep K1054 nin0).other W1062 (Or.inr (sne_9 hw))).keep K1064 nin0).keep K1075 (ninS ne1065 nin0)).other W1079 (Or.inr (sne_10 hw))).other W1082 (Or.inr (sne_11 hw)))
  have q1085 := ((((F1062.keep K1064 nin0).keep K1075 (ninS ne1065 nin0)).other W1079 (Or.inr (sne_12 hw))).other W1082 (Or.inr (sne_13 hw)))
  have q1086 := (F1079.other W1082 (Or.inr (sne_14 hw)))
  have q1087 := ((((((((F4.keep K1046 nin0).other W1052 (Or.inr (sne_15 hw))).keep K1054 nin0).other W1062 (Or.inr (sne_16 hw))).keep K1064 nin0).keep K1075 (ninS ne1065 nin0)).other W1079 (Or.inr (sne_17 hw))).other W1082 (Or.inr (sne_18 hw)))
  have q1088 := ((((q1066.keep K1064 nin0).keep K1075 (ninS ne1067 nin0)).keep K1079 (ninS (Ne.symm ne1047) nin0)).keep K1082 (ninS (Ne.symm ne1047) nin0))
  have q1089 := ((((q1068.keep K1064 nin0).keep K1075 (ninS ne1069 nin0)).keep K1079 (ninS (Ne.symm ne1055) nin0)).keep K1082 (ninS (Ne.symm ne1055) nin0))
  have q1090 := ((E1075.keep K1079).keep K1082)
  have q1091 := ((F1075.keep K1079 (ninS (Ne.symm ne1065) nin0)).keep K1082 (ninS (Ne.symm ne1065) nin0))
  have q1092 := ((G1075.keep K1079 (ninS (Ne.symm ne1065) nin0)).keep K1082 (ninS (Ne.symm ne1065) nin0))
  exact W.return_ d_prog_30_method_1_37 rfl ⟨rfl, b1046, b1054, o1064, ⟨sz1048, sz1058, sz1070⟩, ⟨ge1046, gb1054, ge1064⟩, ⟨ne1047, ne1055, ne1065, ne1057, ne1067, ne1069⟩, kc1083, ⟨E1082, q1084, q1085, q1086, F1082, q1087, q1088, q1089, q1090, q1091, q1092⟩⟩ (by decide) (by decide)
theorem own_i15 (x : Int32) : ¬ (x &&& 15) < 0 ∧ (x &&& 15).toNatClampNeg < 16 := by
  have h := c_mask x 15 4 (by decide) (by decide); have e : (0 : Int32).toInt = 0 := rfl
  rw [Int32.lt_iff_toInt_lt]; simp only [Int32.toNatClampNeg]; omega
theorem own_n15 (x : Int32) : x &&& 15 = 0 ∨ x &&& 15 = 1 ∨ x &&& 15 = 2 ∨ x &&& 15 = 3 ∨ x &&& 15 = 4 ∨ x &&& 15 = 5 ∨ x &&& 15 = 6 ∨ x &&& 15 = 7 ∨ x &&& 15 = 8 ∨ x &&& 15 = 9 ∨ x &&& 15 = 10 ∨ x &&& 15 = 11 ∨ x &&& 15 = 12 ∨ x &&& 15 = 13 ∨ x &&& 15 = 14 ∨ x &&& 15 = 15 := by
  have h1 := c_mask x 15 4 (by decide) (by decide)
  have e0 : (0 : Int32).toInt = 0 := rfl
  have e1 : (1 : Int32).toInt = 1 := rfl
  have e2 : (2 : Int32).toInt = 2 := rfl
  have e3 : (3 : Int32).toInt = 3 := rfl
  have e4 : (4 : Int32).toInt = 4 := rfl
  have e5 : (5 : Int32).toInt = 5 := rfl
  have e6 : (6 : Int32).toInt = 6 := rfl
  have e7 : (7 : Int32).toInt = 7 := rfl
  have e8 : (8 : Int32).toInt = 8 := rfl
  have e9 : (9 : Int32).toInt = 9 := rfl
  have e10 : (10 : Int32).toInt = 10 := rfl
  have e11 : (11 : Int32).toInt = 11 := rfl
  have e12 : (12 : Int32).toInt = 12 := rfl
  have e13 : (13 : Int32).toInt = 13 := rfl
  have e14 : (14 : Int32).toInt = 14 := rfl
  have e15 : (15 : Int32).toInt = 15 := rfl
  simp only [← Int32.toInt_inj]
  omega
theorem own_next (x : Int32) : (((x &&& 15) + 1) &&& 15).toNatClampNeg ≠ (x &&& 15).toNatClampNeg := by
  rcases own_n15 x with q | q | q | q | q | q | q | q | q | q | q | q | q | q | q | q <;> rw [q] <;> decide
theorem own_s0 {v : Value} {i : Nat} (h : i < 16) : (List.replicate 16 v)[i]? = some v := by rw [List.getElem?_replicate, if_pos h]
theorem own_s1 {v w : Value} {i : Nat} (h : i < 16) : ((List.replicate 16 v).set i w)[i]? = some w := by simp [h]
theorem own_s2 {v w : Value} {i j : Nat} (h : j < 16) (ne : j ≠ i) : ((List.replicate 16 v).set i w)[j]? = some v := by rw [List.getElem?_set_ne (Ne.symm ne)]; exact own_s0 h
theorem own_l1 {v w : Value} {i : Nat} : ((List.replicate 16 v).set i w).length = 16 := by simp
def own_h1 (x0 : Int32) : Int32 := (((((31 : Int32) + x0) ^^^ ((((31 : Int32) + x0).toUInt32 >>> ((16 : Int32) &&& 31).toUInt32).toInt32)) * (-2048144789 : Int32)) ^^^ ((((((31 : Int32) + x0) ^^^ ((((31 : Int32) + x0).toUInt32 >>> ((16 : Int32) &&& 31).toUInt32).toInt32)) * (-2048144789 : Int32)).toUInt32 >>> ((13 : Int32) &&& 31).toUInt32).toInt32))
set_option maxRecDepth 65536 in
set_option maxHeartbeats 40000000 in
theorem c_h1 (l : Launch) (Z : State) (a0 : Array Value) (hw : ∀ d ∈ tables_1, d.before a0 Z = true) (t : Addr) (x0 : Int32) (h : Heap) (n0 : Nat) (hn : n0 ≤ h.size) (A : Ary Z h t .int [(.int x0)]) : Con l Z (⟨"com/example/pathweave/pathweave/eval/Relation", "hash", "([III)I"⟩ : MethodName) prog_30_method_11_code 5 (some .int) ({ frames := 0, cells := 0, slots := 0, locals := 0 } : Room) #[(.ref t), (.int (0 : Int32)), (.int (1 : Int32))] h n0 (fun r h' => r = some (.int (own_h1 x0)) ∧ h' = h) := by
  refine ConW.of_W (Ls := #[.val (.ref t), .val (.int (0 : Int32)), .val (.int (1 : Int32)), .unset, .unset]) (plainFor_of_name pn_1) hn (fun m => by first | (simp [entryFrame, mkF, argsToLocals, Value.category]; done) | rfl) ?_
  refine W.iconst 1 d_prog_30_method_11_0 rfl (1 : Int32) rfl ?_
  refine W.istoreN 2 d_prog_30_method_11_1 rfl #[.val (.ref t), .val (.int (0 : Int32)), .val (.int (1 : Int32)), .val (.int (1 : Int32)), .unset] rfl ?_
  refine W.iloadN 3 d_prog_30_method_11_2 rfl rfl ?_
  refine W.istore 5 d_prog_30_method_11_3 rfl #[.val (.ref t), .val (.int (0 : Int32)), .val (.int (1 : Int32)), .val (.int (1 : Int32)), .val (.int (0 : Int32))] rfl ?_
  refine W.iload 7 d_prog_30_method_11_5 rfl rfl ?_
  refine W.iloadN 8 d_prog_30_method_11_7 rfl rfl ?_
  refine W.iloadN 9 d_prog_30_method_11_8 rfl rfl ?_
  refine W.iadd 10 d_prog_30_method_11_9 rfl (1 : Int32) (by decide) ?_
  refine W.icmp_ge 29 13 d_prog_30_method_11_10 rfl rfl (fun hc => absurd (by decide) hc) (fun _ => ?_)
  refine W.bipush 15 d_prog_30_method_11_13 rfl (31 : Int32) rfl ?_
  refine W.iloadN 16 d_prog_30_method_11_15 rfl rfl ?_
  refine W.imul 17 d_prog_30_method_11_16 rfl (31 : Int32) (by decide) ?_
  refine W.aloadN 18 d_prog_30_method_11_17 rfl rfl rfl ?_
  refine W.iload 20 d_prog_30_method_11_18 rfl rfl ?_
  refine W.iaload 21 d_prog_30_method_11_20 rfl A 0 (by decide) (by decide) (.int x0) rfl ?_
  refine W.iadd 22 d_prog_30_method_11_21 rfl ((31 : Int32) + x0) rfl ?_
  refine W.istoreN 23 d_prog_30_method_11_22 rfl #[.val (.ref t), .val (.int (0 : Int32)), .val (.int (1 : Int32)), .val (.int ((31 : Int32) + x0)), .val (.int (0 : Int32))] rfl ?_
  refine W.iinc 26 d_prog_30_method_11_23 rfl rfl (1 : Int32) (by decide) #[.val (.ref t), .val (.int (0 : Int32)), .val (.int (1 : Int32)), .val (.int ((31 : Int32) + x0)), .val (.int (1 : Int32))] rfl ?_
  refine W.goto 5 d_prog_30_method_11_26 rfl ?_
  refine W.iload 7 d_prog_30_method_11_5 rfl rfl ?_
  refine W.iloadN 8 d_prog_30_method_11_7 rfl rfl ?_
  refine W.iloadN 9 d_prog_30_method_11_8 rfl rfl ?_
  refine W.iadd 10 d_prog_30_method_11_9 rfl (1 : Int32) (by decide) ?_
  refine W.icmp_ge 29 13 d_prog_30_method_11_10 rfl rfl (fun _ => ?_) (fun hc => absurd hc (by decide))
  refine W.iloadN 30 d_prog_30_method_11_29 rfl rfl ?_
  refine W.iloadN 31 d_prog_30_method_11_30 rfl rfl ?_
  refine W.bipush 33 d_prog_30_method_11_31 rfl (16 : Int32) rfl ?_
  refine W.iushr 34 d_prog_30_method_11_33 rfl ((((31 : Int32) + x0).toUInt32 >>> ((16 : Int32) &&& 31).toUInt32).toInt32) rfl ?_
  refine W.ixor 35 d_prog_30_method_11_34 rfl (((31 : Int32) + x0) ^^^ ((((31 : Int32) + x0).toUInt32 >>> ((16 : Int32) &&& 31).toUInt32).toInt32)) rfl ?_
  refine W.istoreN 36 d_prog_30_method_11_35 rfl #[.val (.ref t), .val (.int (0 : Int32)), .val (.int (1 : Int32)), .val (.int (((31 : Int32) + x0) ^^^ ((((31 : Int32) + x0).toUInt32 >>> ((16 : Int32) &&& 31).toUInt32).toInt32))), .val (.int (1 : Int32))] rfl ?_
  refine W.iloadN 37 d_prog_30_method_11_36 rfl rfl ?_
  refine W.ldcI 39 d_prog_30_method_11_37 rfl (wd_54 hw) ?_
  refine W.imul 40 d_prog_30_method_11_39 rfl ((((31 : Int32) + x0) ^^^ ((((31 : Int32) + x0).toUInt32 >>> ((16 : Int32) &&& 31).toUInt32).toInt32)) * (-2048144789 : Int32)) rfl ?_
  refine W.istoreN 41 d_prog_30_method_11_40 rfl #[.val (.ref t), .val (.int (0 : Int32)), .val (.int (1 : Int32)), .val (.int ((((31 : Int32) + x0) ^^^ ((((31 : Int32) + x0).toUInt32 >>> ((16 : Int32) &&& 31).toUInt32).toInt32)) * (-2048144789 : Int32))), .val (.int (1 : Int32))] rfl ?_
  refine W.iloadN 42 d_prog_30_method_11_41 rfl rfl ?_
  refine W.iloadN 43 d_prog_30_method_11_42 rfl rfl ?_
  refine W.bipush 45 d_prog_30_method_11_43 rfl (13 : Int32) rfl ?_
  refine W.iushr 46 d_prog_30_method_11_45 rfl ((((((31 : Int32) + x0) ^^^ ((((31 : Int32) + x0).toUInt32 >>> ((16 : Int32) &&& 31).toUInt32).toInt32)) * (-2048144789 : Int32)).toUInt32 >>> ((13 : Int32) &&& 31).toUInt32).toInt32) rfl ?_
  refine W.ixor 47 d_prog_30_method_11_46 rfl (((((31 : Int32) + x0) ^^^ ((((31 : Int32) + x0).toUInt32 >>> ((16 : Int32) &&& 31).toUInt32).toInt32)) * (-2048144789 : Int32)) ^^^ ((((((31 : Int32) + x0) ^^^ ((((31 : Int32) + x0).toUInt32 >>> ((16 : Int32) &&& 31).toUInt32).toInt32)) * (-2048144789 : Int32)).toUInt32 >>> ((13 : Int32) &&& 31).toUInt32).toInt32)) rfl ?_
  exact W.ireturn d_prog_30_method_11_47 rfl ⟨rfl, rfl⟩ (by decide) (by decide)
set_option maxRecDepth 65536 in
set_option maxHeartbeats 40000000 in
theorem c_sm1 (l : Launch) (Z : State) (a0 : Array Value) (hw : ∀ d ∈ tables_1, d.before a0 Z = true) (a bv t : Addr) (x0 y0 : Int32) (h : Heap) (n0 : Nat) (hn : n0 ≤ h.size) (F1 : Fld Z h a "com/example/pathweave/pathweave/eval/Relation" "values" "[I" (.ref bv)) (F4 : Fld Z h a "com/example/pathweave/pathweave/eval/Relation" "arity" "I" (.int (1 : Int32))) (A1 : Ary Z h bv .int [(.int x0), (.int (0 : Int32)), (.int (0 : Int32)), (.int (0 : Int32)), (.int (0 : Int32)), (.int (0 : Int32)), (.int (0 : Int32)), (.int (0 : Int32)), (.int (0 : Int32)), (.int (0 : Int32)), (.int (0 : Int32)), (.int (0 : Int32)), (.int (0 : Int32)), (.int (0 : Int32)), (.int (0 : Int32)), (.int (0 : Int32))]) (A : Ary Z h t .int [(.int y0)]) : Con l Z (⟨"com/example/pathweave/pathweave/eval/Relation", "same", "(I[I)Z"⟩ : MethodName) prog_30_method_7_code 4 (some .boolean) ({ frames := 0, cells := 0, slots := 0, locals := 0 } : Room) #[(.ref a), (.int (0 : Int32)), (.ref t)] h n0 (fun r h' => r = some (.int (if x0 = y0 then 1 else 0)) ∧ h' = h) := by
  refine ConW.of_W (Ls := #[.val (.ref a), .val (.int (0 : Int32)), .val (.ref t), .unset]) (plainFor_of_name pn_1) hn (fun m => by first | (simp [entryFrame, mkF, argsToLocals, Value.category]; done) | rfl) ?_
  refine W.iconst 1 d_prog_30_method_7_0 rfl (0 : Int32) rfl ?_
  refine W.istoreN 2 d_prog_30_method_7_1 rfl #[.val (.ref a), .val (.int (0 : Int32)), .val (.ref t), .val (.int (0 : Int32))] rfl ?_
  refine W.iloadN 3 d_prog_30_method_7_2 rfl rfl ?_
  refine W.aloadN 4 d_prog_30_method_7_3 rfl rfl rfl ?_
  refine W.getfield 7 d_prog_30_method_7_4 rfl (host := "") (Or.inl (wd_40 hw)) Via.refl F4 ?_
  refine W.icmp_ge 37 10 d_prog_30_method_7_7 rfl rfl (fun hc => absurd (by decide) hc) (fun _ => ?_)
  refine W.aloadN 11 d_prog_30_method_7_10 rfl rfl rfl ?_
  refine W.getfield 14 d_prog_30_method_7_11 rfl (host := "") (Or.inl (wd_11 hw)) Via.refl F1 ?_
  refine W.iloadN 15 d_prog_30_method_7_14 rfl rfl ?_
  refine W.aloadN 16 d_prog_30_method_7_15 rfl rfl rfl ?_
  refine W.getfield 19 d_prog_30_method_7_16 rfl (host := "") (Or.inl (wd_40 hw)) Via.refl F4 ?_
  refine W.imul 20 d_prog_30_method_7_19 rfl (0 : Int32) (by decide) ?_
  refine W.iloadN 21 d_prog_30_method_7_20 rfl rfl ?_
  refine W.iadd 22 d_prog_30_method_7_21 rfl (0 : Int32) (by decide) ?_
  refine W.iaload 23 d_prog_30_method_7_22 rfl A1 0 (by decide) (by decide) (.int x0) rfl ?_
  refine W.aloadN 24 d_prog_30_method_7_23 rfl rfl rfl ?_
  refine W.iloadN 25 d_prog_30_method_7_24 rfl rfl ?_
  refine W.iaload 26 d_prog_30_method_7_25 rfl A 0 (by decide) (by decide) (.int y0) rfl ?_
  refine W.icmp_eq 31 29 d_prog_30_method_7_26 rfl rfl ?_ ?_
  · intro hc1093
    refine W.iinc 34 d_prog_30_method_7_31 rfl rfl (1 : Int32) (by decide) #[.val (.ref a), .val (.int (0 : Int32)), .val (.ref t), .val (.int (1 : Int32))] rfl ?_
    refine W.goto 2 d_prog_30_method_7_34 rfl ?_
    refine W.iloadN 3 d_prog_30_method_7_2 rfl rfl ?_
    refine W.aloadN 4 d_prog_30_method_7_3 rfl rfl rfl ?_
    refine W.getfield 7 d_prog_30_method_7_4 rfl (host := "") (Or.inl (wd_40 hw)) Via.refl F4 ?_
    refine W.icmp_ge 37 10 d_prog_30_method_7_7 rfl rfl (fun _ => ?_) (fun hc => absurd hc (by decide))
    refine W.iconst 38 d_prog_30_method_7_37 rfl (1 : Int32) rfl ?_
    exact W.ireturnN (t := .boolean) d_prog_30_method_7_38 rfl (by simp) (1 : Int32) rfl ⟨by simp [hc1093], rfl⟩ (by decide) (by decide)
  · intro hc1093
    refine W.iconst 30 d_prog_30_method_7_29 rfl (0 : Int32) rfl ?_
    exact W.ireturnN (t := .boolean) d_prog_30_method_7_30 rfl (by simp) (0 : Int32) rfl ⟨by simp [hc1093], rfl⟩ (by decide) (by decide)
set_option maxRecDepth 65536 in
set_option maxHeartbeats 40000000 in
theorem c_f0_1 (l : Launch) (Z : State) (a0 : Array Value) (hw : ∀ d ∈ tables_1, d.before a0 Z = true) (a bs t : Addr) (x0 : Int32) (h : Heap) (n0 : Nat) (hn : n0 ≤ h.size) (E : Exa Z h a "com/example/pathweave/pathweave/eval/Relation") (F2 : Fld Z h a "com/example/pathweave/pathweave/eval/Relation" "slots" "[I" (.ref bs)) (F4 : Fld Z h a "com/example/pathweave/pathweave/eval/Relation" "arity" "I" (.int (1 : Int32))) (A2 : Ary Z h bs .int (List.replicate 16 (.int (-1 : Int32)))) (A : Ary Z h t .int [(.int x0)]) : Con l Z (⟨"com/example/pathweave/pathweave/eval/Relation", "find", "([I)I"⟩ : MethodName) prog_30_method_6_code 4 (some .int) ({ frames := 1, cells := 0, slots := 0, locals := 20 } : Room) #[(.ref a), (.ref t)] h n0 (fun r h' => r = some (.int ((own_h1 x0) &&& (15 : Int32))) ∧ h' = h) := by
  refine ConW.of_W (Ls := #[.val (.ref a), .val (.ref t), .unset, .unset]) (plainFor_of_name pn_1) hn (fun m => by first | (simp [entryFrame, mkF, argsToLocals, Value.category]; done) | rfl) ?_
  refine W.aloadN 1 d_prog_30_method_6_0 rfl rfl rfl ?_
  refine W.getfield 4 d_prog_30_method_6_1 rfl (host := "") (Or.inl (wd_20 hw)) Via.refl F2 ?_
  refine W.arraylength 5 d_prog_30_method_6_4 rfl A2 (16 : Int32) rfl ?_
  refine W.iconst 6 d_prog_30_method_6_5 rfl (1 : Int32) rfl ?_
  refine W.isub 7 d_prog_30_method_6_6 rfl (15 : Int32) (by decide) ?_
  refine W.istoreN 8 d_prog_30_method_6_7 rfl #[.val (.ref a), .val (.ref t), .val (.int (15 : Int32)), .unset] rfl ?_
  refine W.aloadN 9 d_prog_30_method_6_8 rfl rfl rfl ?_
  refine W.iconst 10 d_prog_30_method_6_9 rfl (0 : Int32) rfl ?_
  refine W.aloadN 11 d_prog_30_method_6_10 rfl rfl rfl ?_
  refine W.getfield 14 d_prog_30_method_6_11 rfl (host := "") (Or.inl (wd_40 hw)) Via.refl F4 ?_
  refine W.callS (rest := []) (argsL := [(.ref t), (.int (0 : Int32)), (.int (1 : Int32))]) 17 d_prog_30_method_6_14 rfl (fun hn => c_h1 l Z a0 hw t x0 _ n0 hn A) (wd_51 hw) (wd_52 hw) (wd_3 hw) (wd_53 hw) (by decide) pd_3 rfl rfl rfl (by decide) 0 (Nat.le_of_ble_eq_true rfl) (by decide) (by decide) (by decide) ?_
  rintro v1094 h1094 ⟨rfl, rfl⟩
  show W _ _ _ _ _ _ _ _ _ _ _ 0 0 17 #[.val (.ref a), .val (.ref t), .val (.int (15 : Int32)), .unset] [(.int (own_h1 x0))]
  refine W.iloadN 18 d_prog_30_method_6_17 rfl rfl ?_
  refine W.iand 19 d_prog_30_method_6_18 rfl ((own_h1 x0) &&& (15 : Int32)) rfl ?_
  refine W.istoreN 20 d_prog_30_method_6_19 rfl #[.val (.ref a), .val (.ref t), .val (.int (15 : Int32)), .val (.int ((own_h1 x0) &&& (15 : Int32)))] rfl ?_
  refine W.aloadN 21 d_prog_30_method_6_20 rfl rfl rfl ?_
  refine W.getfield 24 d_prog_30_method_6_21 rfl (host := "") (Or.inl (wd_20 hw)) Via.refl F2 ?_
  refine W.iloadN 25 d_prog_30_method_6_24 rfl rfl ?_
  refine W.iaload 26 d_prog_30_method_6_25 rfl A2 (((own_h1 x0) &&& (15 : Int32))).toNatClampNeg rfl (own_i15 _).1 (.int (-1 : Int32)) (own_s0 (own_i15 _).2) ?_
  refine W.iconst 27 d_prog_30_method_6_26 rfl (-1 : Int32) rfl ?_
  refine W.icmp_eq 53 30 d_prog_30_method_6_27 rfl rfl (fun _ => ?_) (fun hc => absurd (by decide) hc)
  refine W.iloadN 54 d_prog_30_method_6_53 rfl rfl ?_
  exact W.ireturn d_prog_30_method_6_54 rfl ⟨rfl, rfl⟩ (by decide) (by decide)
set_option maxRecDepth 65536 in
set_option maxHeartbeats 40000000 in
theorem c_f1_1 (l : Launch) (Z : State) (a0 : Array Value) (hw : ∀ d ∈ tables_1, d.before a0 Z = true) (a bv bs t : Addr) (x0 y0 : Int32) (h : Heap) (n0 : Nat) (hn : n0 ≤ h.size) (E : Exa Z h a "com/example/pathweave/pathweave/eval/Relation") (F1 : Fld Z h a "com/example/pathweave/pathweave/eval/Relation" "values" "[I" (.ref bv)) (F2 : Fld Z h a "com/example/pathweave/pathweave/eval/Relation" "slots" "[I" (.ref bs)) (F4 : Fld Z h a "com/example/pathweave/pathweave/eval/Relation" "arity" "I" (.int (1 : Int32))) (A1 : Ary Z h bv .int [(.int x0), (.int (0 : Int32)), (.int (0 : Int32)), (.int (0 : Int32)), (.int (0 : Int32)), (.int (0 : Int32)), (.int (0 : Int32)), (.int (0 : Int32)), (.int (0 : Int32)), (.int (0 : Int32)), (.int (0 : Int32)), (.int (0 : Int32)), (.int (0 : Int32)), (.int (0 : Int32)), (.int (0 : Int32)), (.int (0 : Int32))]) (A2 : Ary Z h bs .int ((List.replicate 16 (.int (-1 : Int32))).set (((own_h1 x0) &&& (15 : Int32))).toNatClampNeg (.int (0 : Int32)))) (A : Ary Z h t .int [(.int y0)]) : Con l Z (⟨"com/example/pathweave/pathweave/eval/Relation", "find", "([I)I"⟩ : MethodName) prog_30_method_6_code 4 (some .int) ({ frames := 1, cells := 0, slots := 0, locals := 20 } : Room) #[(.ref a), (.ref t)] h n0 (fun r h' => (∃ j : Int32, r = some (.int j) ∧ (((x0 = y0) ∧ j.toNatClampNeg = (((own_h1 x0) &&& (15 : Int32))).toNatClampNeg) ∨ (¬ (x0 = y0) ∧ j.toNatClampNeg ≠ (((own_h1 x0) &&& (15 : Int32))).toNatClampNeg)) ∧ ¬ j < 0 ∧ j.toNatClampNeg < 16) ∧ h' = h) := by
  by_cases hs : (((own_h1 y0) &&& (15 : Int32))).toNatClampNeg = (((own_h1 x0) &&& (15 : Int32))).toNatClampNeg
  · refine ConW.of_W (Ls := #[.val (.ref a), .val (.ref t), .unset, .unset]) (plainFor_of_name pn_1) hn (fun m => by first | (simp [entryFrame, mkF, argsToLocals, Value.category]; done) | rfl) ?_
    refine W.aloadN 1 d_prog_30_method_6_0 rfl rfl rfl ?_
    refine W.getfield 4 d_prog_30_method_6_1 rfl (host := "") (Or.inl (wd_20 hw)) Via.refl F2 ?_
    refine W.arraylength 5 d_prog_30_method_6_4 rfl A2 (16 : Int32) (by rw [own_l1]; rfl) ?_
    refine W.iconst 6 d_prog_30_method_6_5 rfl (1 : Int32) rfl ?_
    refine W.isub 7 d_prog_30_method_6_6 rfl (15 : Int32) (by decide) ?_
    refine W.istoreN 8 d_prog_30_method_6_7 rfl #[.val (.ref a), .val (.ref t), .val (.int (15 : Int32)), .unset] rfl ?_
    refine W.aloadN 9 d_prog_30_method_6_8 rfl rfl rfl ?_
    refine W.iconst 10 d_prog_30_method_6_9 rfl (0 : Int32) rfl ?_
    refine W.aloadN 11 d_prog_30_method_6_10 rfl rfl rfl ?_
    refine W.getfield 14 d_prog_30_method_6_11 rfl (host := "") (Or.inl (wd_40 hw)) Via.refl F4 ?_
    refine W.callS (rest := []) (argsL := [(.ref t), (.int (0 : Int32)), (.int (1 : Int32))]) 17 d_prog_30_method_6_14 rfl (fun hn => c_h1 l Z a0 hw t y0 _ n0 hn A) (wd_51 hw) (wd_52 hw) (wd_3 hw) (wd_53 hw) (by decide) pd_3 rfl rfl rfl (by decide) 0 (Nat.le_of_ble_eq_true rfl) (by decide) (by decide) (by decide) ?_
    rintro v1095 h1095 ⟨rfl, rfl⟩
    show W _ _ _ _ _ _ _ _ _ _ _ 0 0 17 #[.val (.ref a), .val (.ref t), .val (.int (15 : Int32)), .unset] [(.int (own_h1 y0))]
    refine W.iloadN 18 d_prog_30_method_6_17 rfl rfl ?_
    refine W.iand 19 d_prog_30_method_6_18 rfl ((own_h1 y0) &&& (15 : Int32)) rfl ?_
    refine W.istoreN 20 d_prog_30_method_6_19 rfl #[.val (.ref a), .val (.ref t), .val (.int (15 : Int32)), .val (.int ((own_h1 y0) &&& (15 : Int32)))] rfl ?_
    refine W.aloadN 21 d_prog_30_method_6_20 rfl rfl rfl ?_
    refine W.getfield 24 d_prog_30_method_6_21 rfl (host := "") (Or.inl (wd_20 hw)) Via.refl F2 ?_
    refine W.iloadN 25 d_prog_30_method_6_24 rfl rfl ?_
    refine W.iaload 26 d_prog_30_method_6_25 rfl A2 (((own_h1 y0) &&& (15 : Int32))).toNatClampNeg rfl (own_i15 _).1 (.int (0 : Int32)) (by rw [hs]; exact own_s1 (own_i15 _).2) ?_
    refine W.iconst 27 d_prog_30_method_6_26 rfl (-1 : Int32) rfl ?_
    refine W.icmp_eq 53 30 d_prog_30_method_6_27 rfl rfl (fun hc => absurd hc (by decide)) (fun _ => ?_)
    refine W.aloadN 31 d_prog_30_method_6_30 rfl rfl rfl ?_
    refine W.aloadN 32 d_prog_30_method_6_31 rfl rfl rfl ?_
    refine W.getfield 35 d_prog_30_method_6_32 rfl (host := "") (Or.inl (wd_20 hw)) Via.refl F2 ?_
    refine W.iloadN 36 d_prog_30_method_6_35 rfl rfl ?_
    refine W.iaload 37 d_prog_30_method_6_36 rfl A2 (((own_h1 y0) &&& (15 : Int32))).toNatClampNeg rfl (own_i15 _).1 (.int (0 : Int32)) (by rw [hs]; exact own_s1 (own_i15 _).2) ?_
    refine W.aloadN 38 d_prog_30_method_6_37 rfl rfl rfl ?_
    refine W.callP (rest := []) (argsL := [(.int (0 : Int32)), (.ref t)]) (a := a) 41 d_prog_30_method_6_38 rfl (fun hn => c_sm1 l Z a0 hw a bv t x0 y0 _ n0 hn F1 F4 A1 A) E (wd_84 hw) (wd_86 hw) (wd_2 hw) (wd_85 hw) (wd_3 hw) (wd_87 hw) (by decide) pd_4 rfl rfl rfl (by decide) 0 (Nat.le_of_ble_eq_true rfl) (by decide) (by decide) (by decide) ?_
    rintro v1096 h1096 ⟨rfl, rfl⟩
    show W _ _ _ _ _ _ _ _ _ _ _ 0 0 41 #[.val (.ref a), .val (.ref t), .val (.int (15 : Int32)), .val (.int ((own_h1 y0) &&& (15 : Int32)))] [(.int (if x0 = y0 then 1 else 0 : Int32))]
    refine W.if_ne 53 44 d_prog_30_method_6_41 rfl rfl ?_ ?_
    · intro hc1097
      refine W.iloadN 54 d_prog_30_method_6_53 rfl rfl ?_
      exact W.ireturn d_prog_30_method_6_54 rfl ⟨⟨_, rfl, Or.inl ⟨Classical.byContradiction fun q => hc1097 (if_neg q), hs⟩, (own_i15 _).1, (own_i15 _).2⟩, rfl⟩ (by decide) (by decide)
    · intro hc1097
      refine W.iloadN 45 d_prog_30_method_6_44 rfl rfl ?_
      refine W.iconst 46 d_prog_30_method_6_45 rfl (1 : Int32) rfl ?_
      refine W.iadd 47 d_prog_30_method_6_46 rfl (((own_h1 y0) &&& (15 : Int32)) + (1 : Int32)) rfl ?_
      refine W.iloadN 48 d_prog_30_method_6_47 rfl rfl ?_
      refine W.iand 49 d_prog_30_method_6_48 rfl ((((own_h1 y0) &&& (15 : Int32)) + (1 : Int32)) &&& (15 : Int32)) rfl ?_
      refine W.istoreN 50 d_prog_30_method_6_49 rfl #[.val (.ref a), .val (.ref t), .val (.int (15 : Int32)), .val (.int ((((own_h1 y0) &&& (15 : Int32)) + (1 : Int32)) &&& (15 : Int32)))] rfl ?_
      refine W.goto 20 d_prog_30_method_6_50 rfl ?_
      refine W.aloadN 21 d_prog_30_method_6_20 rfl rfl rfl ?_
      refine W.getfield 24 d_prog_30_method_6_21 rfl (host := "") (Or.inl (wd_20 hw)) Via.refl F2 ?_
      refine W.iloadN 25 d_prog_30_method_6_24 rfl rfl ?_
      refine W.iaload 26 d_prog_30_method_6_25 rfl A2 (((((own_h1 y0) &&& (15 : Int32)) + (1 : Int32)) &&& (15 : Int32))).toNatClampNeg rfl (own_i15 _).1 (.int (-1 : Int32)) (own_s2 (own_i15 _).2 (by rw [← hs]; exact own_next _)) ?_
      refine W.iconst 27 d_prog_30_method_6_26 rfl (-1 : Int32) rfl ?_
      refine W.icmp_eq 53 30 d_prog_30_method_6_27 rfl rfl (fun _ => ?_) (fun hc => absurd (by decide) hc)
      refine W.iloadN 54 d_prog_30_method_6_53 rfl rfl ?_
      exact W.ireturn d_prog_30_method_6_54 rfl ⟨⟨_, rfl, Or.inr ⟨fun q => absurd ((if_pos q).symm.trans hc1097) (by decide), by rw [← hs]; exact own_next _⟩, (own_i15 _).1, (own_i15 _).2⟩, rfl⟩ (by decide) (by decide)
  · refine ConW.of_W (Ls := #[.val (.ref a), .val (.ref t), .unset, .unset]) (plainFor_of_name pn_1) hn (fun m => by first | (simp [entryFrame, mkF, argsToLocals, Value.category]; done) | rfl) ?_
    refine W.aloadN 1 d_prog_30_method_6_0 rfl rfl rfl ?_
    refine W.getfield 4 d_prog_30_method_6_1 rfl (host := "") (Or.inl (wd_20 hw)) Via.refl F2 ?_
    refine W.arraylength 5 d_prog_30_method_6_4 rfl A2 (16 : Int32) (by rw [own_l1]; rfl) ?_
    refine W.iconst 6 d_prog_30_method_6_5 rfl (1 : Int32) rfl ?_
    refine W.isub 7 d_prog_30_method_6_6 rfl (15 : Int32) (by decide) ?_
    refine W.istoreN 8 d_prog_30_method_6_7 rfl #[.val (.ref a), .val (.ref t), .val (.int (15 : Int32)), .unset] rfl ?_
    refine W.aloadN 9 d_prog_30_method_6_8 rfl rfl rfl ?_
    refine W.iconst 10 d_prog_30_method_6_9 rfl (0 : Int32) rfl ?_
    refine W.aloadN 11 d_prog_30_method_6_10 rfl rfl rfl ?_
    refine W.getfield 14 d_prog_30_method_6_11 rfl (host := "") (Or.inl (wd_40 hw)) Via.refl F4 ?_
    refine W.callS (rest := []) (argsL := [(.ref t), (.int (0 : Int32)), (.int (1 : Int32))]) 17 d_prog_30_method_6_14 rfl (fun hn => c_h1 l Z a0 hw t y0 _ n0 hn A) (wd_51 hw) (wd_52 hw) (wd_3 hw) (wd_53 hw) (by decide) pd_3 rfl rfl rfl (by decide) 0 (Nat.le_of_ble_eq_true rfl) (by decide) (by decide) (by decide) ?_
    rintro v1098 h1098 ⟨rfl, rfl⟩
    show W _ _ _ _ _ _ _ _ _ _ _ 0 0 17 #[.val (.ref a), .val (.ref t), .val (.int (15 : Int32)), .unset] [(.int (own_h1 y0))]
    refine W.iloadN 18 d_prog_30_method_6_17 rfl rfl ?_
    refine W.iand 19 d_prog_30_method_6_18 rfl ((own_h1 y0) &&& (15 : Int32)) rfl ?_
    refine W.istoreN 20 d_prog_30_method_6_19 rfl #[.val (.ref a), .val (.ref t), .val (.int (15 : Int32)), .val (.int ((own_h1 y0) &&& (15 : Int32)))] rfl ?_
    refine W.aloadN 21 d_prog_30_method_6_20 rfl rfl rfl ?_
    refine W.getfield 24 d_prog_30_method_6_21 rfl (host := "") (Or.inl (wd_20 hw)) Via.refl F2 ?_
    refine W.iloadN 25 d_prog_30_method_6_24 rfl rfl ?_
    refine W.iaload 26 d_prog_30_method_6_25 rfl A2 (((own_h1 y0) &&& (15 : Int32))).toNatClampNeg rfl (own_i15 _).1 (.int (-1 : Int32)) (own_s2 (own_i15 _).2 hs) ?_
    refine W.iconst 27 d_prog_30_method_6_26 rfl (-1 : Int32) rfl ?_
    refine W.icmp_eq 53 30 d_prog_30_method_6_27 rfl rfl (fun _ => ?_) (fun hc => absurd (by decide) hc)
    refine W.iloadN 54 d_prog_30_method_6_53 rfl rfl ?_
    exact W.ireturn d_prog_30_method_6_54 rfl ⟨⟨_, rfl, Or.inr ⟨fun q => hs (by subst q; rfl), hs⟩, (own_i15 _).1, (own_i15 _).2⟩, rfl⟩ (by decide) (by decide)
set_option maxRecDepth 65536 in
set_option maxHeartbeats 40000000 in
theorem c_a0_1 (l : Launch) (Z : State) (a0 : Array Value) (hw : ∀ d ∈ tables_1, d.before a0 Z = true) (a bv bs m t : Addr) (x0 mc : Int32) (h : Heap) (n0 : Nat) (hn : n0 ≤ h.size) (ga : n0 ≤ a) (gbv : n0 ≤ bv) (gbs : n0 ≤ bs) (gm : n0 ≤ m) (ne_a_bv : a ≠ bv) (ne_a_bs : a ≠ bs) (ne_a_m : a ≠ m) (ne_a_t : a ≠ t) (ne_bv_bs : bv ≠ bs) (ne_bv_m : bv ≠ m) (ne_bv_t : bv ≠ t) (ne_bs_m : bs ≠ m) (ne_bs_t : bs ≠ t) (ne_m_t : m ≠ t) (E : Exa Z h a "com/example/pathweave/pathweave/eval/Relation") (F1 : Fld Z h a "com/example/pathweave/pathweave/eval/Relation" "values" "[I" (.ref bv)) (F2 : Fld Z h a "com/example/pathweave/pathweave/eval/Relation" "slots" "[I" (.ref bs)) (F3 : Fld Z h a "com/example/pathweave/pathweave/eval/Relation" "indexes" "Ljava/util/Map;" (.ref m)) (F4 : Fld Z h a "com/example/pathweave/pathweave/eval/Relation" "arity" "I" (.int (1 : Int32))) (F5 : Fld Z h a "com/example/pathweave/pathweave/eval/Relation" "size" "I" (.int (0 : Int32))) (A1 : Ary Z h bv .int [(.int (0 : Int32)), (.int (0 : Int32)), (.int (0 : Int32)), (.int (0 : Int32)), (.int (0 : Int32)), (.int (0 : Int32)), (.int (0 : Int32)), (.int (0 : Int32)), (.int (0 : Int32)), (.int (0 : Int32)), (.int (0 : Int32)), (.int (0 : Int32)), (.int (0 : Int32)), (.int (0 : Int32)), (.int (0 : Int32)), (.int (0 : Int32))]) (A2 : Ary Z h bs .int (List.replicate 16 (.int (-1 : Int32)))) (A : Ary Z h t .int [(.int x0)]) (E2 : Exa Z h m "java/util/HashMap") (G1 : Fld Z h m "java/util/HashMap" "modCount" "I" (.int mc)) (G2 : Fld Z h m "java/util/HashMap" "table" "[Ljava/util/HashMap$Node;" .null) : Con l Z (⟨"com/example/pathweave/pathweave/eval/Relation", "add", "([I)Z"⟩ : MethodName) prog_30_method_5_code 3 (some .boolean) ({ frames := 2, cells := 0, slots := 0, locals := 70 } : Room) #[(.ref a), (.ref t)] h n0 (fun r h' => r = some (.int 1) ∧ Keep h h' [a, bv, bs, m] ∧ (Exa Z h' a "com/example/pathweave/pathweave/eval/Relation" ∧ Fld Z h' a "com/example/pathweave/pathweave/eval/Relation" "values" "[I" (.ref bv) ∧ Fld Z h' a "com/example/pathweave/pathweave/eval/Relation" "arity" "I" (.int (1 : Int32)) ∧ Fld Z h' a "com/example/pathweave/pathweave/eval/Relation" "size" "I" (.int (1 : Int32)) ∧ Ary Z h' bv .int [(.int x0), (.int (0 : Int32)), (.int (0 : Int32)), (.int (0 : Int32)), (.int (0 : Int32)), (.int (0 : Int32)), (.int (0 : Int32)), (.int (0 : Int32)), (.int (0 : Int32)), (.int (0 : Int32)), (.int (0 : Int32)), (.int (0 : Int32)), (.int (0 : Int32)), (.int (0 : Int32)), (.int (0 : Int32)), (.int (0 : Int32))]) ∧ Fld Z h' a "com/example/pathweave/pathweave/eval/Relation" "slots" "[I" (.ref bs) ∧ Ary Z h' bs .int ((List.replicate 16 (.int (-1 : Int32))).set (((own_h1 x0) &&& (15 : Int32))).toNatClampNeg (.int (0 : Int32))) ∧ Fld Z h' a "com/example/pathweave/pathweave/eval/Relation" "indexes" "Ljava/util/Map;" (.ref m) ∧ Exa Z h' m "java/util/HashMap" ∧ Fld Z h' m "java/util/HashMap" "modCount" "I" (.int (mc + (1 : Int32))) ∧ Fld Z h' m "java/util/HashMap" "table" "[Ljava/util/HashMap$Node;" .null) := by
  refine ConW.of_W (Ls := #[.val (.ref a), .val (.ref t), .unset]) (plainFor_of_name pn_1) hn (fun m => by first | (simp [entryFrame, mkF, argsToLocals, Value.category]; done) | rfl) ?_
  refine W.aloadN 1 d_prog_30_method_5_0 rfl rfl rfl ?_
  refine W.aloadN 2 d_prog_30_method_5_1 rfl rfl rfl ?_
  refine W.callP (rest := []) (argsL := [(.ref t)]) (a := a) 5 d_prog_30_method_5_2 rfl (fun hn => c_f0_1 l Z a0 hw a bs t x0 _ n0 hn E F2 F4 A2 A) E (wd_47 hw) (wd_49 hw) (wd_2 hw) (wd_48 hw) (wd_3 hw) (wd_50 hw) (by decide) pd_5 rfl rfl rfl (by decide) 0 (Nat.le_of_ble_eq_true rfl) (by decide) (by decide) (by decide) ?_
  rintro v1099 h1099 ⟨rfl, rfl⟩
  show W _ _ _ _ _ _ _ _ _ _ _ 0 0 5 #[.val (.ref a), .val (.ref t), .unset] [(.int ((own_h1 x0) &&& (15 : Int32)))]
  refine W.istoreN 6 d_prog_30_method_5_5 rfl #[.val (.ref a), .val (.ref t), .val (.int ((own_h1 x0) &&& (15 : Int32)))] rfl ?_
  refine W.aloadN 7 d_prog_30_method_5_6 rfl rfl rfl ?_
  refine W.getfield 10 d_prog_30_method_5_7 rfl (host := "") (Or.inl (wd_20 hw)) Via.refl F2 ?_
  refine W.iloadN 11 d_prog_30_method_5_10 rfl rfl ?_
  refine W.iaload 12 d_prog_30_method_5_11 rfl A2 (((own_h1 x0) &&& (15 : Int32))).toNatClampNeg rfl (own_i15 _).1 (.int (-1 : Int32)) (own_s0 (own_i15 _).2) ?_
  refine W.iconst 13 d_prog_30_method_5_12 rfl (-1 : Int32) rfl ?_
  refine W.icmp_eq 18 16 d_prog_30_method_5_13 rfl rfl (fun _ => ?_) (fun hc => absurd (by decide) hc)
  refine W.aloadN 19 d_prog_30_method_5_18 rfl rfl rfl ?_
  refine W.getfield 22 d_prog_30_method_5_19 rfl (host := "") (Or.inl (wd_55 hw)) Via.refl F5 ?_
  refine W.iconst 23 d_prog_30_method_5_22 rfl (1 : Int32) rfl ?_
  refine W.iadd 24 d_prog_30_method_5_23 rfl (1 : Int32) (by decide) ?_
  refine W.aloadN 25 d_prog_30_method_5_24 rfl rfl rfl ?_
  refine W.getfield 28 d_prog_30_method_5_25 rfl (host := "") (Or.inl (wd_40 hw)) Via.refl F4 ?_
  refine W.imul 29 d_prog_30_method_5_28 rfl (1 : Int32) (by decide) ?_
  refine W.aloadN 30 d_prog_30_method_5_29 rfl rfl rfl ?_
  refine W.getfield 33 d_prog_30_method_5_30 rfl (host := "") (Or.inl (wd_11 hw)) Via.refl F1 ?_
  refine W.arraylength 34 d_prog_30_method_5_33 rfl A1 (16 : Int32) rfl ?_
  refine W.icmp_le 69 37 d_prog_30_method_5_34 rfl rfl (fun _ => ?_) (fun hc => absurd hc (by decide))
  refine W.aloadN 70 d_prog_30_method_5_69 rfl rfl rfl ?_
  refine W.iconst 71 d_prog_30_method_5_70 rfl (0 : Int32) rfl ?_
  refine W.aloadN 72 d_prog_30_method_5_71 rfl rfl rfl ?_
  refine W.getfield 75 d_prog_30_method_5_72 rfl (host := "") (Or.inl (wd_11 hw)) Via.refl F1 ?_
  refine W.aloadN 76 d_prog_30_method_5_75 rfl rfl rfl ?_
  refine W.getfield 79 d_prog_30_method_5_76 rfl (host := "") (Or.inl (wd_55 hw)) Via.refl F5 ?_
  refine W.aloadN 80 d_prog_30_method_5_79 rfl rfl rfl ?_
  refine W.getfield 83 d_prog_30_method_5_80 rfl (host := "") (Or.inl (wd_40 hw)) Via.refl F4 ?_
  refine W.imul 84 d_prog_30_method_5_83 rfl (0 : Int32) (by decide) ?_
  refine W.aloadN 85 d_prog_30_method_5_84 rfl rfl rfl ?_
  refine W.getfield 88 d_prog_30_method_5_85 rfl (host := "") (Or.inl (wd_40 hw)) Via.refl F4 ?_
  refine W.arraycopy 91 d_prog_30_method_5_88 rfl (wd_57 hw) (wd_60 hw) (wd_58 hw) (wd_59 hw) A A1 rfl 0 0 1 (by decide) (by decide) (by decide) (by decide) (by decide) (by decide) (Nat.le_of_ble_eq_true rfl) (Nat.le_of_ble_eq_true rfl) gbv rfl (by decide) 0 (Nat.le_of_ble_eq_true rfl) (by decide) ?_
  intro h1100 K1100 A1100
  have kc1101 := Keep.trans (ws := [a, bv, bs, m]) (Keep.refl _ [a, bv, bs, m]) K1100 (allS (Or.inl (List.mem_of_getElem? (i := 1) rfl)) all0)
  have A1100 : Ary _ _ bv .int [(.int x0), (.int (0 : Int32)), (.int (0 : Int32)), (.int (0 : Int32)), (.int (0 : Int32)), (.int (0 : Int32)), (.int (0 : Int32)), (.int (0 : Int32)), (.int (0 : Int32)), (.int (0 : Int32)), (.int (0 : Int32)), (.int (0 : Int32)), (.int (0 : Int32)), (.int (0 : Int32)), (.int (0 : Int32)), (.int (0 : Int32))] := A1100
  refine W.aloadN 92 d_prog_30_method_5_91 rfl rfl rfl ?_
  have q1102 := (F2.keep K1100 (ninS ne_a_bv nin0))
  refine W.getfield 95 d_prog_30_method_5_92 rfl (host := "") (Or.inl (wd_20 hw)) Via.refl q1102 ?_
  refine W.iloadN 96 d_prog_30_method_5_95 rfl rfl ?_
  refine W.aloadN 97 d_prog_30_method_5_96 rfl rfl rfl ?_
  refine W.dup 98 d_prog_30_method_5_97 rfl rfl ?_
  have q1103 := (F5.keep K1100 (ninS ne_a_bv nin0))
  refine W.getfield 101 d_prog_30_method_5_98 rfl (host := "") (Or.inl (wd_55 hw)) Via.refl q1103 ?_
  refine W.dup_x1 102 d_prog_30_method_5_101 rfl rfl rfl ?_
  refine W.iconst 103 d_prog_30_method_5_102 rfl (1 : Int32) rfl ?_
  refine W.iadd 104 d_prog_30_method_5_103 rfl (1 : Int32) (by decide) ?_
  have q1104 := (E.keep K1100)
  refine W.putfield 107 d_prog_30_method_5_104 rfl (host := "") (Or.inl (wd_55 hw)) Via.refl q1103 q1104 (Or.inl (wd_56 hw)) (wd_2 hw) (ty := .int) (by decide) rfl rfl ga ?_
  intro h1105 W1105 F1105 E1105 K1105
  have kc1106 := Keep.trans (ws := [a, bv, bs, m]) kc1101 K1105 (allS (Or.inl (List.mem_of_getElem? (i := 0) rfl)) all0)
  have q1107 := ((A2.keep K1100 (ninS (Ne.symm ne_bv_bs) nin0)).keep K1105 (ninS (Ne.symm ne_a_bs) nin0))
  refine W.iastore 108 d_prog_30_method_5_107 rfl q1107 (((own_h1 x0) &&& (15 : Int32))).toNatClampNeg rfl (own_i15 _).1 (own_i15 _).2 gbs ?_
  intro h1108 W1108 K1108 A1108
  have kc1109 := Keep.trans (ws := [a, bv, bs, m]) kc1106 K1108 (allS (Or.inl (List.mem_of_getElem? (i := 2) rfl)) all0)
  refine W.iconst 109 d_prog_30_method_5_108 rfl (2 : Int32) rfl ?_
  refine W.aloadN 110 d_prog_30_method_5_109 rfl rfl rfl ?_
  have q1110 := (F1105.keep K1108 (ninS ne_a_bs nin0))
  refine W.getfield 113 d_prog_30_method_5_110 rfl (host := "") (Or.inl (wd_55 hw)) Via.refl q1110 ?_
  refine W.imul 114 d_prog_30_method_5_113 rfl (2 : Int32) (by decide) ?_
  refine W.aloadN 115 d_prog_30_method_5_114 rfl rfl rfl ?_
  have q1111 := ((q1102.other W1105 (Or.inr (sne_19 hw))).keep K1108 (ninS ne_a_bs nin0))
  refine W.getfield 118 d_prog_30_method_5_115 rfl (host := "") (Or.inl (wd_20 hw)) Via.refl q1111 ?_
  refine W.arraylength 119 d_prog_30_method_5_118 rfl A1108 (16 : Int32) (by rw [own_l1]; rfl) ?_
  refine W.icmp_le 126 122 d_prog_30_method_5_119 rfl rfl (fun _ => ?_) (fun hc => absurd hc (by decide))
  refine W.aloadN 127 d_prog_30_method_5_126 rfl rfl rfl ?_
  have q1112 := (((F3.keep K1100 (ninS ne_a_bv nin0)).other W1105 (Or.inr (sne_20 hw))).keep K1108 (ninS ne_a_bs nin0))
  refine W.getfield 130 d_prog_30_method_5_127 rfl (host := "") (Or.inl (wd_38 hw)) Via.refl q1112 ?_
  have q1113 := (((E2.keep K1100).keep K1105).keep K1108)
  have q1114 := (((G1.keep K1100 (ninS (Ne.symm ne_bv_m) nin0)).keep K1105 (ninS (Ne.symm ne_a_m) nin0)).keep K1108 (ninS (Ne.symm ne_bs_m) nin0))
  have q1115 := (((G2.keep K1100 (ninS (Ne.symm ne_bv_m) nin0)).keep K1105 (ninS (Ne.symm ne_a_m) nin0)).keep K1108 (ninS (Ne.symm ne_bs_m) nin0))
  refine W.callI (rest := []) (argsL := []) (a := m) 135 d_prog_30_method_5_130 rfl (fun hn => c_clr l Z a0 hw m mc _ n0 hn gm q1113 q1114 q1115) q1113 (wd_61 hw) (wd_62 hw) (wd_63 hw) (wd_64 hw) (wd_65 hw) (wd_66 hw) (wd_67 hw) (wd_68 hw) (wd_24 hw) (wd_69 hw) (by decide) pd_1 rfl rfl rfl (by decide) 0 (Nat.le_of_ble_eq_true rfl) (by decide) (by decide) (by decide) ?_
  rintro v1116 h1116 ⟨rfl, E1116, ⟨F1116, G1116⟩, K1116⟩
  have kc1117 := Keep.trans (ws := [a, bv, bs, m]) kc1109 K1116 (allS (Or.inl (List.mem_of_getElem? (i := 3) rfl)) all0)
  show W _ _ _ _ _ _ _ _ _ _ _ 0 0 135 #[.val (.ref a), .val (.ref t), .val (.int ((own_h1 x0) &&& (15 : Int32)))] []
  refine W.iconst 136 d_prog_30_method_5_135 rfl (1 : Int32) rfl ?_
  have q1118 := ((E1105.keep K1108).keep K1116)
  have q1119 := ((((F1.keep K1100 (ninS ne_a_bv nin0)).other W1105 (Or.inr (sne_21 hw))).keep K1108 (ninS ne_a_bs nin0)).keep K1116 (ninS ne_a_m nin0))
  have q1120 := ((((F4.keep K1100 (ninS ne_a_bv nin0)).other W1105 (Or.inr (sne_22 hw))).keep K1108 (ninS ne_a_bs nin0)).keep K1116 (ninS ne_a_m nin0))
  have q1121 := (q1110.keep K1116 (ninS ne_a_m nin0))
  have q1122 := (((A1100.keep K1105 (ninS (Ne.symm ne_a_bv) nin0)).keep K1108 (ninS ne_bv_bs nin0)).keep K1116 (ninS ne_bv_m nin0))
  have q1123 := (q1111.keep K1116 (ninS ne_a_m nin0))
  have q1124 := (A1108.keep K1116 (ninS ne_bs_m nin0))
  have q1125 := (q1112.keep K1116 (ninS ne_a_m nin0))
  exact W.ireturnN (t := .boolean) d_prog_30_method_5_136 rfl (by simp) (1 : Int32) rfl ⟨rfl, kc1117, ⟨q1118, q1119, q1120, q1121, q1122⟩, q1123, q1124, q1125, E1116, ⟨F1116, G1116⟩⟩ (by decide) (by decide)
set_option maxRecDepth 65536 in
set_option maxHeartbeats 40000000 in
theorem c_a1_1 (l : Launch) (Z : State) (a0 : Array Value) (hw : ∀ d ∈ tables_1, d.before a0 Z = true) (a bv bs m t : Addr) (x0 y0 mc : Int32) (h : Heap) (n0 : Nat) (hn : n0 ≤ h.size) (ga : n0 ≤ a) (gbv : n0 ≤ bv) (gbs : n0 ≤ bs) (gm : n0 ≤ m) (ne_a_bv : a ≠ bv) (ne_a_bs : a ≠ bs) (ne_a_m : a ≠ m) (ne_a_t : a ≠ t) (ne_bv_bs : bv ≠ bs) (ne_bv_m : bv ≠ m) (ne_bv_t : bv ≠ t) (ne_bs_m : bs ≠ m) (ne_bs_t : bs ≠ t) (ne_m_t : m ≠ t) (E : Exa Z h a "com/example/pathweave/pathweave/eval/Relation") (F1 : Fld Z h a "com/example/pathweave/pathweave/eval/Relation" "values" "[I" (.ref bv)) (F2 : Fld Z h a "com/example/pathweave/pathweave/eval/Relation" "slots" "[I" (.ref bs)) (F3 : Fld Z h a "com/example/pathweave/pathweave/eval/Relation" "indexes" "Ljava/util/Map;" (.ref m)) (F4 : Fld Z h a "com/example/pathweave/pathweave/eval/Relation" "arity" "I" (.int (1 : Int32))) (F5 : Fld Z h a "com/example/pathweave/pathweave/eval/Relation" "size" "I" (.int (1 : Int32))) (A1 : Ary Z h bv .int [(.int x0), (.int (0 : Int32)), (.int (0 : Int32)), (.int (0 : Int32)), (.int (0 : Int32)), (.int (0 : Int32)), (.int (0 : Int32)), (.int (0 : Int32)), (.int (0 : Int32)), (.int (0 : Int32)), (.int (0 : Int32)), (.int (0 : Int32)), (.int (0 : Int32)), (.int (0 : Int32)), (.int (0 : Int32)), (.int (0 : Int32))]) (A2 : Ary Z h bs .int ((List.replicate 16 (.int (-1 : Int32))).set (((own_h1 x0) &&& (15 : Int32))).toNatClampNeg (.int (0 : Int32)))) (A : Ary Z h t .int [(.int y0)]) (E2 : Exa Z h m "java/util/HashMap") (G1 : Fld Z h m "java/util/HashMap" "modCount" "I" (.int mc)) (G2 : Fld Z h m "java/util/HashMap" "table" "[Ljava/util/HashMap$Node;" .null) : Con l Z (⟨"com/example/pathweave/pathweave/eval/Relation", "add", "([I)Z"⟩ : MethodName) prog_30_method_5_code 3 (some .boolean) ({ frames := 2, cells := 0, slots := 0, locals := 70 } : Room) #[(.ref a), (.ref t)] h n0 (fun r h' => (∃ z : Int32, r = some (.int z)) ∧ Keep h h' [a, bv, bs, m] ∧ (((x0 = y0) ∧ Exa Z h' a "com/example/pathweave/pathweave/eval/Relation" ∧ Fld Z h' a "com/example/pathweave/pathweave/eval/Relation" "values" "[I" (.ref bv) ∧ Fld Z h' a "com/example/pathweave/pathweave/eval/Relation" "arity" "I" (.int (1 : Int32)) ∧ Fld Z h' a "com/example/pathweave/pathweave/eval/Relation" "size" "I" (.int (1 : Int32)) ∧ Ary Z h' bv .int [(.int x0), (.int (0 : Int32)), (.int (0 : Int32)), (.int (0 : Int32)), (.int (0 : Int32)), (.int (0 : Int32)), (.int (0 : Int32)), (.int (0 : Int32)), (.int (0 : Int32)), (.int (0 : Int32)), (.int (0 : Int32)), (.int (0 : Int32)), (.int (0 : Int32)), (.int (0 : Int32)), (.int (0 : Int32)), (.int (0 : Int32))]) ∨ (¬ (x0 = y0) ∧ Exa Z h' a "com/example/pathweave/pathweave/eval/Relation" ∧ Fld Z h' a "com/example/pathweave/pathweave/eval/Relation" "values" "[I" (.ref bv) ∧ Fld Z h' a "com/example/pathweave/pathweave/eval/Relation" "arity" "I" (.int (1 : Int32)) ∧ Fld Z h' a "com/example/pathweave/pathweave/eval/Relation" "size" "I" (.int (2 : Int32)) ∧ Ary Z h' bv .int [(.int x0), (.int y0), (.int (0 : Int32)), (.int (0 : Int32)), (.int (0 : Int32)), (.int (0 : Int32)), (.int (0 : Int32)), (.int (0 : Int32)), (.int (0 : Int32)), (.int (0 : Int32)), (.int (0 : Int32)), (.int (0 : Int32)), (.int (0 : Int32)), (.int (0 : Int32)), (.int (0 : Int32)), (.int (0 : Int32))]))) := by
  refine ConW.of_W (Ls := #[.val (.ref a), .val (.ref t), .unset]) (plainFor_of_name pn_1) hn (fun m => by first | (simp [entryFrame, mkF, argsToLocals, Value.category]; done) | rfl) ?_
  refine W.aloadN 1 d_prog_30_method_5_0 rfl rfl rfl ?_
  refine W.aloadN 2 d_prog_30_method_5_1 rfl rfl rfl ?_
  refine W.callP (rest := []) (argsL := [(.ref t)]) (a := a) 5 d_prog_30_method_5_2 rfl (fun hn => c_f1_1 l Z a0 hw a bv bs t x0 y0 _ n0 hn E F1 F2 F4 A1 A2 A) E (wd_47 hw) (wd_49 hw) (wd_2 hw) (wd_48 hw) (wd_3 hw) (wd_50 hw) (by decide) pd_5 rfl rfl rfl (by decide) 0 (Nat.le_of_ble_eq_true rfl) (by decide) (by decide) (by decide) ?_
  rintro v1126 h1126 ⟨⟨jj, rfl, hj, hj0, hj16⟩, rfl⟩
  show W _ _ _ _ _ _ _ _ _ _ _ 0 0 5 #[.val (.ref a), .val (.ref t), .unset] [(.int jj)]
  rcases hj with ⟨hq, hjx⟩ | ⟨hq, hjx⟩
  · refine W.istoreN 6 d_prog_30_method_5_5 rfl #[.val (.ref a), .val (.ref t), .val (.int jj)] rfl ?_
    refine W.aloadN 7 d_prog_30_method_5_6 rfl rfl rfl ?_
    refine W.getfield 10 d_prog_30_method_5_7 rfl (host := "") (Or.inl (wd_20 hw)) Via.refl F2 ?_
    refine W.iloadN 11 d_prog_30_method_5_10 rfl rfl ?_
    refine W.iaload 12 d_prog_30_method_5_11 rfl A2 (jj).toNatClampNeg rfl hj0 (.int (0 : Int32)) (by rw [hjx]; exact own_s1 (own_i15 _).2) ?_
    refine W.iconst 13 d_prog_30_method_5_12 rfl (-1 : Int32) rfl ?_
    refine W.icmp_eq 18 16 d_prog_30_method_5_13 rfl rfl (fun hc => absurd hc (by decide)) (fun _ => ?_)
    refine W.iconst 17 d_prog_30_method_5_16 rfl (0 : Int32) rfl ?_
    exact W.ireturnN (t := .boolean) d_prog_30_method_5_17 rfl (by simp) (0 : Int32) rfl ⟨⟨_, rfl⟩, (Keep.refl _ [a, bv, bs, m]), Or.inl ⟨hq, E, F1, F4, F5, A1⟩⟩ (by decide) (by decide)
  · refine W.istoreN 6 d_prog_30_method_5_5 rfl #[.val (.ref a), .val (.ref t), .val (.int jj)] rfl ?_
    refine W.aloadN 7 d_prog_30_method_5_6 rfl rfl rfl ?_
    refine W.getfield 10 d_prog_30_method_5_7 rfl (host := "") (Or.inl (wd_20 hw)) Via.refl F2 ?_
    refine W.iloadN 11 d_prog_30_method_5_10 rfl rfl ?_
    refine W.iaload 12 d_prog_30_method_5_11 rfl A2 (jj).toNatClampNeg rfl hj0 (.int (-1 : Int32)) (own_s2 hj16 hjx) ?_
    refine W.iconst 13 d_prog_30_method_5_12 rfl (-1 : Int32) rfl ?_
    refine W.icmp_eq 18 16 d_prog_30_method_5_13 rfl rfl (fun _ => ?_) (fun hc => absurd (by decide) hc)
    refine W.aloadN 19 d_prog_30_method_5_18 rfl rfl rfl ?_
    refine W.getfield 22 d_prog_30_method_5_19 rfl (host := "") (Or.inl (wd_55 hw)) Via.refl F5 ?_
    refine W.iconst 23 d_prog_30_method_5_22 rfl (1 : Int32) rfl ?_
    refine W.iadd 24 d_prog_30_method_5_23 rfl (2 : Int32) (by decide) ?_
    refine W.aloadN 25 d_prog_30_method_5_24 rfl rfl rfl ?_
    refine W.getfield 28 d_prog_30_method_5_25 rfl (host := "") (Or.inl (wd_40 hw)) Via.refl F4 ?_
    refine W.imul 29 d_prog_30_method_5_28 rfl (2 : Int32) (by decide) ?_
    refine W.aloadN 30 d_prog_30_method_5_29 rfl rfl rfl ?_
    refine W.getfield 33 d_prog_30_method_5_30 rfl (host := "") (Or.inl (wd_11 hw)) Via.refl F1 ?_
    refine W.arraylength 34 d_prog_30_method_5_33 rfl A1 (16 : Int32) rfl ?_
    refine W.icmp_le 69 37 d_prog_30_method_5_34 rfl rfl (fun _ => ?_) (fun hc => absurd hc (by decide))
    refine W.aloadN 70 d_prog_30_method_5_69 rfl rfl rfl ?_
    refine W.iconst 71 d_prog_30_method_5_70 rfl (0 : Int32) rfl ?_
    refine W.aloadN 72 d_prog_30_method_5_71 rfl rfl rfl ?_
    refine W.getfield 75 d_prog_30_method_5_72 rfl (host := "") (Or.inl (wd_11 hw)) Via.refl F1 ?_
    refine W.aloadN 76 d_prog_30_method_5_75 rfl rfl rfl ?_
    refine W.getfield 79 d_prog_30_method_5_76 rfl (host := "") (Or.inl (wd_55 hw)) Via.refl F5 ?_
    refine W.aloadN 80 d_prog_30_method_5_79 rfl rfl rfl ?_
    refine W.getfield 83 d_prog_30_method_5_80 rfl (host := "") (Or.inl (wd_40 hw)) Via.refl F4 ?_
    refine W.imul 84 d_prog_30_method_5_83 rfl (1 : Int32) (by decide) ?_
    refine W.aloadN 85 d_prog_30_method_5_84 rfl rfl rfl ?_
    refine W.getfield 88 d_prog_30_method_5_85 rfl (host := "") (Or.inl (wd_40 hw)) Via.refl F4 ?_
    refine W.arraycopy 91 d_prog_30_method_5_88 rfl (wd_57 hw) (wd_60 hw) (wd_58 hw) (wd_59 hw) A A1 rfl 0 1 1 (by decide) (by decide) (by decide) (by decide) (by decide) (by decide) (Nat.le_of_ble_eq_true rfl) (Nat.le_of_ble_eq_true rfl) gbv rfl (by decide) 0 (Nat.le_of_ble_eq_true rfl) (by decide) ?_
    intro h1127 K1127 A1127
    have kc1128 := Keep.trans (ws := [a, bv, bs, m]) (Keep.refl _ [a, bv, bs, m]) K1127 (allS (Or.inl (List.mem_of_getElem? (i := 1) rfl)) all0)
    have A1127 : Ary _ _ bv .int [(.int x0), (.int y0), (.int (0 : Int32)), (.int (0 : Int32)), (.int (0 : Int32)), (.int (0 : Int32)), (.int (0 : Int32)), (.int (0 : Int32)), (.int (0 : Int32)), (.int (0 : Int32)), (.int (0 : Int32)), (.int (0 : Int32)), (.int (0 : Int32)), (.int (0 : Int32)), (.int (0 : Int32)), (.int (0 : Int32))] := A1127
    refine W.aloadN 92 d_prog_30_method_5_91 rfl rfl rfl ?_
    have q1129 := (F2.keep K1127 (ninS ne_a_bv nin0))
    refine W.getfield 95 d_prog_30_method_5_92 rfl (host := "") (Or.inl (wd_20 hw)) Via.refl q1129 ?_
    refine W.iloadN 96 d_prog_30_method_5_95 rfl rfl ?_
    refine W.aloadN 97 d_prog_30_method_5_96 rfl rfl rfl ?_
    refine W.dup 98 d_prog_30_method_5_97 rfl rfl ?_
    have q1130 := (F5.keep K1127 (ninS ne_a_bv nin0))
    refine W.getfield 101 d_prog_30_method_5_98 rfl (host := "") (Or.inl (wd_55 hw)) Via.refl q1130 ?_
    refine W.dup_x1 102 d_prog_30_method_5_101 rfl rfl rfl ?_
    refine W.iconst 103 d_prog_30_method_5_102 rfl (1 : Int32) rfl ?_
    refine W.iadd 104 d_prog_30_method_5_103 rfl (2 : Int32) (by decide) ?_
    have q1131 := (E.keep K1127)
    refine W.putfield 107 d_prog_30_method_5_104 rfl (host := "") (Or.inl (wd_55 hw)) Via.refl q1130 q1131 (Or.inl (wd_56 hw)) (wd_2 hw) (ty := .int) (by decide) rfl rfl ga ?_
    intro h1132 W1132 F1132 E1132 K1132
    have kc1133 := Keep.trans (ws := [a, bv, bs, m]) kc1128 K1132 (allS (Or.inl (List.mem_of_getElem? (i := 0) rfl)) all0)
    have q1134 := ((A2.keep K1127 (ninS (Ne.symm ne_bv_bs) nin0)).keep K1132 (ninS (Ne.symm ne_a_bs) nin0))
    refine W.iastore 108 d_prog_30_method_5_107 rfl q1134 (jj).toNatClampNeg rfl hj0 (by rw [own_l1]; exact hj16) gbs ?_
    intro h1135 W1135 K1135 A1135
    have kc1136 := Keep.trans (ws := [a, bv, bs, m]) kc1133 K1135 (allS (Or.inl (List.mem_of_getElem? (i := 2) rfl)) all0)
    refine W.iconst 109 d_prog_30_method_5_108 rfl (2 : Int32) rfl ?_
    refine W.aloadN 110 d_prog_30_method_5_109 rfl rfl rfl ?_
    have q1137 := (F1132.keep K1135 (ninS ne_a_bs nin0))
    refine W.getfield 113 d_prog_30_method_5_110 rfl (host := "") (Or.inl (wd_55 hw)) Via.refl q1137 ?_
    refine W.imul 114 d_prog_30_method_5_113 rfl (4 : Int32) (by decide) ?_
    refine W.aloadN 115 d_prog_30_method_5_114 rfl rfl rfl ?_
    have q1138 := ((q1129.other W1132 (Or.inr (sne_19 hw))).keep K1135 (ninS ne_a_bs nin0))
    refine W.getfield 118 d_prog_30_method_5_115 rfl (host := "") (Or.inl (wd_20 hw)) Via.refl q1138 ?_
    refine W.arraylength 119 d_prog_30_method_5_118 rfl A1135 (16 : Int32) (by rw [List.length_set, own_l1]; rfl) ?_
    refine W.icmp_le 126 122 d_prog_30_method_5_119 rfl rfl (fun _ => ?_) (fun hc => absurd hc (by decide))
    refine W.aloadN 127 d_prog_30_method_5_126 rfl rfl rfl ?_
    have q1139 := (((F3.keep K1127 (ninS ne_a_bv nin0)).other W1132 (Or.inr (sne_20 hw))).keep K1135 (ninS ne_a_bs nin0))
    refine W.getfield 130 d_prog_30_method_5_127 rfl (host := "") (Or.inl (wd_38 hw)) Via.refl q1139 ?_
    have q1140 := (((E2.keep K1127).keep K1132).keep K1135)
    have q1141 := (((G1.keep K1127 (ninS (Ne.symm ne_bv_m) nin0)).keep K1132 (ninS (Ne.symm ne_a_m) nin0)).keep K1135 (ninS (Ne.symm ne_bs_m) nin0))
    have q1142 := (((G2.keep K1127 (ninS (Ne.symm ne_bv_m) nin0)).keep K1132 (ninS (Ne.symm ne_a_m) nin0)).keep K1135 (ninS (Ne.symm ne_bs_m) nin0))
    refine W.callI (rest := []) (argsL := []) (a := m) 135 d_prog_30_method_5_130 rfl (fun hn => c_clr l Z a0 hw m mc _ n0 hn gm q1140 q1141 q1142) q1140 (wd_61 hw) (wd_62 hw) (wd_63 hw) (wd_64 hw) (wd_65 hw) (wd_66 hw) (wd_67 hw) (wd_68 hw) (wd_24 hw) (wd_69 hw) (by decide) pd_1 rfl rfl rfl (by decide) 0 (Nat.le_of_ble_eq_true rfl) (by decide) (by decide) (by decide) ?_
    rintro v1143 h1143 ⟨rfl, E1143, ⟨F1143, G1143⟩, K1143⟩
    have kc1144 := Keep.trans (ws := [a, bv, bs, m]) kc1136 K1143 (allS (Or.inl (List.mem_of_getElem? (i := 3) rfl)) all0)
    show W _ _ _ _ _ _ _ _ _ _ _ 0 0 135 #[.val (.ref a), .val (.ref t), .val (.int jj)] []
    refine W.iconst 136 d_prog_30_method_5_135 rfl (1 : Int32) rfl ?_
    have q1145 := ((E1132.keep K1135).keep K1143)
    have q1146 := ((((F1.keep K1127 (ninS ne_a_bv nin0)).other W1132 (Or.inr (sne_21 hw))).keep K1135 (ninS ne_a_bs nin0)).keep K1143 (ninS ne_a_m nin0))
    have q1147 := ((((F4.keep K1127 (ninS ne_a_bv nin0)).other W1132 (Or.inr (sne_22 hw))).keep K1135 (ninS ne_a_bs nin0)).keep K1143 (ninS ne_a_m nin0))
    have q1148 := (q1137.keep K1143 (ninS ne_a_m nin0))
    have q1149 := (((A1127.keep K1132 (ninS (Ne.symm ne_a_bv) nin0)).keep K1135 (ninS ne_bv_bs nin0)).keep K1143 (ninS ne_bv_m nin0))
    exact W.ireturnN (t := .boolean) d_prog_30_method_5_136 rfl (by simp) (1 : Int32) rfl ⟨⟨_, rfl⟩, kc1144, Or.inr ⟨hq, q1145, q1146, q1147, q1148, q1149⟩⟩ (by decide) (by decide)
def own_h2 (x0 x1 : Int32) : Int32 := ((((((31 : Int32) * ((31 : Int32) + x0)) + x1) ^^^ (((((31 : Int32) * ((31 : Int32) + x0)) + x1).toUInt32 >>> ((16 : Int32) &&& 31).toUInt32).toInt32)) * (-2048144789 : Int32)) ^^^ (((((((31 : Int32) * ((31 : Int32) + x0)) + x1) ^^^ (((((31 : Int32) * ((31 : Int32) + x0)) + x1).toUInt32 >>> ((16 : Int32) &&& 31).toUInt32).toInt32)) * (-2048144789 : Int32)).toUInt32 >>> ((13 : Int32) &&& 31).toUInt32).toInt32))
set_option maxRecDepth 65536 in
set_option maxHeartbeats 40000000 in
theorem c_h2 (l : Launch) (Z : State) (a0 : Array Value) (hw : ∀ d ∈ tables_1, d.before a0 Z = true) (t : Addr) (x0 x1 : Int32) (h : Heap) (n0 : Nat) (hn : n0 ≤ h.size) (A : Ary Z h t .int [(.int x0), (.int x1)]) : Con l Z (⟨"com/example/pathweave/pathweave/eval/Relation", "hash", "([III)I"⟩ : MethodName) prog_30_method_11_code 5 (some .int) ({ frames := 0, cells := 0, slots := 0, locals := 0 } : Room) #[(.ref t), (.int (0 : Int32)), (.int (2 : Int32))] h n0 (fun r h' => r = some (.int (own_h2 x0 x1)) ∧ h' = h) := by
  refine ConW.of_W (Ls := #[.val (.ref t), .val (.int (0 : Int32)), .val (.int (2 : Int32)), .unset, .unset]) (plainFor_of_name pn_1) hn (fun m => by first | (simp [entryFrame, mkF, argsToLocals, Value.category]; done) | rfl) ?_
  refine W.iconst 1 d_prog_30_method_11_0 rfl (1 : Int32) rfl ?_
  refine W.istoreN 2 d_prog_30_method_11_1 rfl #[.val (.ref t), .val (.int (0 : Int32)), .val (.int (2 : Int32)), .val (.int (1 : Int32)), .unset] rfl ?_
  refine W.iloadN 3 d_prog_30_method_11_2 rfl rfl ?_
  refine W.istore 5 d_prog_30_method_11_3 rfl #[.val (.ref t), .val (.int (0 : Int32)), .val (.int (2 : Int32)), .val (.int (1 : Int32)), .val (.int (0 : Int32))] rfl ?_
  refine W.iload 7 d_prog_30_method_11_5 rfl rfl ?_
  refine W.iloadN 8 d_prog_30_method_11_7 rfl rfl ?_
  refine W.iloadN 9 d_prog_30_method_11_8 rfl rfl ?_
  refine W.iadd 10 d_prog_30_method_11_9 rfl (2 : Int32) (by decide) ?_
  refine W.icmp_ge 29 13 d_prog_30_method_11_10 rfl rfl (fun hc => absurd (by decide) hc) (fun _ => ?_)
  refine W.bipush 15 d_prog_30_method_11_13 rfl (31 : Int32) rfl ?_
  refine W.iloadN 16 d_prog_30_method_11_15 rfl rfl ?_
  refine W.imul 17 d_prog_30_method_11_16 rfl (31 : Int32) (by decide) ?_
  refine W.aloadN 18 d_prog_30_method_11_17 rfl rfl rfl ?_
  refine W.iload 20 d_prog_30_method_11_18 rfl rfl ?_
  refine W.iaload 21 d_prog_30_method_11_20 rfl A 0 (by decide) (by decide) (.int x0) rfl ?_
  refine W.iadd 22 d_prog_30_method_11_21 rfl ((31 : Int32) + x0) rfl ?_
  refine W.istoreN 23 d_prog_30_method_11_22 rfl #[.val (.ref t), .val (.int (0 : Int32)), .val (.int (2 : Int32)), .val (.int ((31 : Int32) + x0)), .val (.int (0 : Int32))] rfl ?_
  refine W.iinc 26 d_prog_30_method_11_23 rfl rfl (1 : Int32) (by decide) #[.val (.ref t), .val (.int (0 : Int32)), .val (.int (2 : Int32)), .val (.int ((31 : Int32) + x0)), .val (.int (1 : Int32))] rfl ?_
  refine W.goto 5 d_prog_30_method_11_26 rfl ?_
  refine W.iload 7 d_prog_30_method_11_5 rfl rfl ?_
  refine W.iloadN 8 d_prog_30_method_11_7 rfl rfl ?_
  refine W.iloadN 9 d_prog_30_method_11_8 rfl rfl ?_
  refine W.iadd 10 d_prog_30_method_11_9 rfl (2 : Int32) (by decide) ?_
  refine W.icmp_ge 29 13 d_prog_30_method_11_10 rfl rfl (fun hc => absurd (by decide) hc) (fun _ => ?_)
  refine W.bipush 15 d_prog_30_method_11_13 rfl (31 : Int32) rfl ?_
  refine W.iloadN 16 d_prog_30_method_11_15 rfl rfl ?_
  refine W.imul 17 d_prog_30_method_11_16 rfl ((31 : Int32) * ((31 : Int32) + x0)) rfl ?_
  refine W.aloadN 18 d_prog_30_method_11_17 rfl rfl rfl ?_
  refine W.iload 20 d_prog_30_method_11_18 rfl rfl ?_
  refine W.iaload 21 d_prog_30_method_11_20 rfl A 1 (by decide) (by decide) (.int x1) rfl ?_
  refine W.iadd 22 d_prog_30_method_11_21 rfl (((31 : Int32) * ((31 : Int32) + x0)) + x1) rfl ?_
  refine W.istoreN 23 d_prog_30_method_11_22 rfl #[.val (.ref t), .val (.int (0 : Int32)), .val (.int (2 : Int32)), .val (.int (((31 : Int32) * ((31 : Int32) + x0)) + x1)), .val (.int (1 : Int32))] rfl ?_
  refine W.iinc 26 d_prog_30_method_11_23 rfl rfl (2 : Int32) (by decide) #[.val (.ref t), .val (.int (0 : Int32)), .val (.int (2 : Int32)), .val (.int (((31 : Int32) * ((31 : Int32) + x0)) + x1)), .val (.int (2 : Int32))] rfl ?_
  refine W.goto 5 d_prog_30_method_11_26 rfl ?_
  refine W.iload 7 d_prog_30_method_11_5 rfl rfl ?_
  refine W.iloadN 8 d_prog_30_method_11_7 rfl rfl ?_
  refine W.iloadN 9 d_prog_30_method_11_8 rfl rfl ?_
  refine W.iadd 10 d_prog_30_method_11_9 rfl (2 : Int32) (by decide) ?_
  refine W.icmp_ge 29 13 d_prog_30_method_11_10 rfl rfl (fun _ => ?_) (fun hc => absurd hc (by decide))
  refine W.iloadN 30 d_prog_30_method_11_29 rfl rfl ?_
  refine W.iloadN 31 d_prog_30_method_11_30 rfl rfl ?_
  refine W.bipush 33 d_prog_30_method_11_31 rfl (16 : Int32) rfl ?_
  refine W.iushr 34 d_prog_30_method_11_33 rfl (((((31 : Int32) * ((31 : Int32) + x0)) + x1).toUInt32 >>> ((16 : Int32) &&& 31).toUInt32).toInt32) rfl ?_
  refine W.ixor 35 d_prog_30_method_11_34 rfl ((((31 : Int32) * ((31 : Int32) + x0)) + x1) ^^^ (((((31 : Int32) * ((31 : Int32) + x0)) + x1).toUInt32 >>> ((16 : Int32) &&& 31).toUInt32).toInt32)) rfl ?_
  refine W.istoreN 36 d_prog_30_method_11_35 rfl #[.val (.ref t), .val (.int (0 : Int32)), .val (.int (2 : Int32)), .val (.int ((((31 : Int32) * ((31 : Int32) + x0)) + x1) ^^^ (((((31 : Int32) * ((31 : Int32) + x0)) + x1).toUInt32 >>> ((16 : Int32) &&& 31).toUInt32).toInt32))), .val (.int (2 : Int32))] rfl ?_
  refine W.iloadN 37 d_prog_30_method_11_36 rfl rfl ?_
  refine W.ldcI 39 d_prog_30_method_11_37 rfl (wd_54 hw) ?_
  refine W.imul 40 d_prog_30_method_11_39 rfl (((((31 : Int32) * ((31 : Int32) + x0)) + x1) ^^^ (((((31 : Int32) * ((31 : Int32) + x0)) + x1).toUInt32 >>> ((16 : Int32) &&& 31).toUInt32).toInt32)) * (-2048144789 : Int32)) rfl ?_
  refine W.istoreN 41 d_prog_30_method_11_40 rfl #[.val (.ref t), .val (.int (0 : Int32)), .val (.int (2 : Int32)), .val (.int (((((31 : Int32) * ((31 : Int32) + x0)) + x1) ^^^ (((((31 : Int32) * ((31 : Int32) + x0)) + x1).toUInt32 >>> ((16 : Int32) &&& 31).toUInt32).toInt32)) * (-2048144789 : Int32))), .val (.int (2 : Int32))] rfl ?_
  refine W.iloadN 42 d_prog_30_method_11_41 rfl rfl ?_
  refine W.iloadN 43 d_prog_30_method_11_42 rfl rfl ?_
  refine W.bipush 45 d_prog_30_method_11_43 rfl (13 : Int32) rfl ?_
  refine W.iushr 46 d_prog_30_method_11_45 rfl (((((((31 : Int32) * ((31 : Int32) + x0)) + x1) ^^^ (((((31 : Int32) * ((31 : Int32) + x0)) + x1).toUInt32 >>> ((16 : Int32) &&& 31).toUInt32).toInt32)) * (-2048144789 : Int32)).toUInt32 >>> ((13 : Int32) &&& 31).toUInt32).toInt32) rfl ?_
  refine W.ixor 47 d_prog_30_method_11_46 rfl ((((((31 : Int32) * ((31 : Int32) + x0)) + x1) ^^^ (((((31 : Int32) * ((31 : Int32) + x0)) + x1).toUInt32 >>> ((16 : Int32) &&& 31).toUInt32).toInt32)) * (-2048144789 : Int32)) ^^^ (((((((31 : Int32) * ((31 : Int32) + x0)) + x1) ^^^ (((((31 : Int32) * ((31 : Int32) + x0)) + x1).toUInt32 >>> ((16 : Int32) &&& 31).toUInt32).toInt32)) * (-2048144789 : Int32)).toUInt32 >>> ((13 : Int32) &&& 31).toUInt32).toInt32)) rfl ?_
  exact W.ireturn d_prog_30_method_11_47 rfl ⟨rfl, rfl⟩ (by decide) (by decide)
set_option maxRecDepth 65536 in
set_option maxHeartbeats 40000000 in
theorem c_sm2 (l : Launch) (Z : State) (a0 : Array Value) (hw : ∀ d ∈ tables_1, d.before a0 Z = true) (a bv t : Addr) (x0 x1 y0 y1 : Int32) (h : Heap) (n0 : Nat) (hn : n0 ≤ h.size) (F1 : Fld Z h a "com/example/pathweave/pathweave/eval/Relation" "values" "[I" (.ref bv)) (F4 : Fld Z h a "com/example/pathweave/pathweave/eval/Relation" "arity" "I" (.int (2 : Int32))) (A1 : Ary Z h bv .int [(.int x0), (.int x1), (.int (0 : Int32)), (.int (0 : Int32)), (.int (0 : Int32)), (.int (0 : Int32)), (.int (0 : Int32)), (.int (0 : Int32)), (.int (0 : Int32)), (.int (0 : Int32)), (.int (0 : Int32)), (.int (0 : Int32)), (.int (0 : Int32)), (.int (0 : Int32)), (.int (0 : Int32)), (.int (0 : Int32))]) (A : Ary Z h t .int [(.int y0), (.int y1)]) : Con l Z (⟨"com/example/pathweave/pathweave/eval/Relation", "same", "(I[I)Z"⟩ : MethodName) prog_30_method_7_code 4 (some .boolean) ({ frames := 0, cells := 0, slots := 0, locals := 0 } : Room) #[(.ref a), (.int (0 : Int32)), (.ref t)] h n0 (fun r h' => r = some (.int (if x0 = y0 ∧ x1 = y1 then 1 else 0)) ∧ h' = h) := by
  refine ConW.of_W (Ls := #[.val (.ref a), .val (.int (0 : Int32)), .val (.ref t), .unset]) (plainFor_of_name pn_1) hn (fun m => by first | (simp [entryFrame, mkF, argsToLocals, Value.category]; done) | rfl) ?_
  refine W.iconst 1 d_prog_30_method_7_0 rfl (0 : Int32) rfl ?_
  refine W.istoreN 2 d_prog_30_method_7_1 rfl #[.val (.ref a), .val (.int (0 : Int32)), .val (.ref t), .val (.int (0 : Int32))] rfl ?_
  refine W.iloadN 3 d_prog_30_method_7_2 rfl rfl ?_
  refine W.aloadN 4 d_prog_30_method_7_3 rfl rfl rfl ?_
  refine W.getfield 7 d_prog_30_method_7_4 rfl (host := "") (Or.inl (wd_40 hw)) Via.refl F4 ?_
  refine W.icmp_ge 37 10 d_prog_30_method_7_7 rfl rfl (fun hc => absurd (by decide) hc) (fun _ => ?_)
  refine W.aloadN 11 d_prog_30_method_7_10 rfl rfl rfl ?_
  refine W.getfield 14 d_prog_30_method_7_11 rfl (host := "") (Or.inl (wd_11 hw)) Via.refl F1 ?_
  refine W.iloadN 15 d_prog_30_method_7_14 rfl rfl ?_
  refine W.aloadN 16 d_prog_30_method_7_15 rfl rfl rfl ?_
  refine W.getfield 19 d_prog_30_method_7_16 rfl (host := "") (Or.inl (wd_40 hw)) Via.refl F4 ?_
  refine W.imul 20 d_prog_30_method_7_19 rfl (0 : Int32) (by decide) ?_
  refine W.iloadN 21 d_prog_30_method_7_20 rfl rfl ?_
  refine W.iadd 22 d_prog_30_method_7_21 rfl (0 : Int32) (by decide) ?_
  refine W.iaload 23 d_prog_30_method_7_22 rfl A1 0 (by decide) (by decide) (.int x0) rfl ?_
  refine W.aloadN 24 d_prog_30_method_7_23 rfl rfl rfl ?_
  refine W.iloadN 25 d_prog_30_method_7_24 rfl rfl ?_
  refine W.iaload 26 d_prog_30_method_7_25 rfl A 0 (by decide) (by decide) (.int y0) rfl ?_
  refine W.icmp_eq 31 29 d_prog_30_method_7_26 rfl rfl ?_ ?_
  · intro hc1150
    refine W.iinc 34 d_prog_30_method_7_31 rfl rfl (1 : Int32) (by decide) #[.val (.ref a), .val (.int (0 : Int32)), .val (.ref t), .val (.int (1 : Int32))] rfl ?_
    refine W.goto 2 d_prog_30_method_7_34 rfl ?_
    refine W.iloadN 3 d_prog_30_method_7_2 rfl rfl ?_
    refine W.aloadN 4 d_prog_30_method_7_3 rfl rfl rfl ?_
    refine W.getfield 7 d_prog_30_method_7_4 rfl (host := "") (Or.inl (wd_40 hw)) Via.refl F4 ?_
    refine W.icmp_ge 37 10 d_prog_30_method_7_7 rfl rfl (fun hc => absurd (by decide) hc) (fun _ => ?_)
    refine W.aloadN 11 d_prog_30_method_7_10 rfl rfl rfl ?_
    refine W.getfield 14 d_prog_30_method_7_11 rfl (host := "") (Or.inl (wd_11 hw)) Via.refl F1 ?_
    refine W.iloadN 15 d_prog_30_method_7_14 rfl rfl ?_
    refine W.aloadN 16 d_prog_30_method_7_15 rfl rfl rfl ?_
    refine W.getfield 19 d_prog_30_method_7_16 rfl (host := "") (Or.inl (wd_40 hw)) Via.refl F4 ?_
    refine W.imul 20 d_prog_30_method_7_19 rfl (0 : Int32) (by decide) ?_
    refine W.iloadN 21 d_prog_30_method_7_20 rfl rfl ?_
    refine W.iadd 22 d_prog_30_method_7_21 rfl (1 : Int32) (by decide) ?_
    refine W.iaload 23 d_prog_30_method_7_22 rfl A1 1 (by decide) (by decide) (.int x1) rfl ?_
    refine W.aloadN 24 d_prog_30_method_7_23 rfl rfl rfl ?_
    refine W.iloadN 25 d_prog_30_method_7_24 rfl rfl ?_
    refine W.iaload 26 d_prog_30_method_7_25 rfl A 1 (by decide) (by decide) (.int y1) rfl ?_
    refine W.icmp_eq 31 29 d_prog_30_method_7_26 rfl rfl ?_ ?_
    · intro hc1151
      refine W.iinc 34 d_prog_30_method_7_31 rfl rfl (2 : Int32) (by decide) #[.val (.ref a), .val (.int (0 : Int32)), .val (.ref t), .val (.int (2 : Int32))] rfl ?_
      refine W.goto 2 d_prog_30_method_7_34 rfl ?_
      refine W.iloadN 3 d_prog_30_method_7_2 rfl rfl ?_
      refine W.aloadN 4 d_prog_30_method_7_3 rfl rfl rfl ?_
      refine W.getfield 7 d_prog_30_method_7_4 rfl (host := "") (Or.inl (wd_40 hw)) Via.refl F4 ?_
      refine W.icmp_ge 37 10 d_prog_30_method_7_7 rfl rfl (fun _ => ?_) (fun hc => absurd hc (by decide))
      refine W.iconst 38 d_prog_30_method_7_37 rfl (1 : Int32) rfl ?_
      exact W.ireturnN (t := .boolean) d_prog_30_method_7_38 rfl (by simp) (1 : Int32) rfl ⟨by simp [hc1150, hc1151], rfl⟩ (by decide) (by decide)
    · intro hc1151
      refine W.iconst 30 d_prog_30_method_7_29 rfl (0 : Int32) rfl ?_
      exact W.ireturnN (t := .boolean) d_prog_30_method_7_30 rfl (by simp) (0 : Int32) rfl ⟨by simp [hc1150, hc1151], rfl⟩ (by decide) (by decide)
  · intro hc1150
    refine W.iconst 30 d_prog_30_method_7_29 rfl (0 : Int32) rfl ?_
    exact W.ireturnN (t := .boolean) d_prog_30_method_7_30 rfl (by simp) (0 : Int32) rfl ⟨by simp [hc1150], rfl⟩ (by decide) (by decide)
set_option maxRecDepth 65536 in
set_option maxHeartbeats 40000000 in
theorem c_f0_2 (l : Launch) (Z : State) (a0 : Array Value) (hw : ∀ d ∈ tables_1, d.before a0 Z = true) (a bs t : Addr) (x0 x1 : Int32) (h : Heap) (n0 : Nat) (hn : n0 ≤ h.size) (E : Exa Z h a "com/example/pathweave/pathweave/eval/Relation") (F2 : Fld Z h a "com/example/pathweave/pathweave/eval/Relation" "slots" "[I" (.ref bs)) (F4 : Fld Z h a "com/example/pathweave/pathweave/eval/Relation" "arity" "I" (.int (2 : Int32))) (A2 : Ary Z h bs .int (List.replicate 16 (.int (-1 : Int32)))) (A : Ary Z h t .int [(.int x0), (.int x1)]) : Con l Z (⟨"com/example/pathweave/pathweave/eval/Relation", "find", "([I)I"⟩ : MethodName) prog_30_method_6_code 4 (some .int) ({ frames := 1, cells := 0, slots := 0, locals := 20 } : Room) #[(.ref a), (.ref t)] h n0 (fun r h' => r = some (.int ((own_h2 x0 x1) &&& (15 : Int32))) ∧ h' = h) := by
  refine ConW.of_W (Ls := #[.val (.ref a), .val (.ref t), .unset, .unset]) (plainFor_of_name pn_1) hn (fun m => by first | (simp [entryFrame, mkF, argsToLocals, Value.category]; done) | rfl) ?_
  refine W.aloadN 1 d_prog_30_method_6_0 rfl rfl rfl ?_
  refine W.getfield 4 d_prog_30_method_6_1 rfl (host := "") (Or.inl (wd_20 hw)) Via.refl F2 ?_
  refine W.arraylength 5 d_prog_30_method_6_4 rfl A2 (16 : Int32) rfl ?_
  refine W.iconst 6 d_prog_30_method_6_5 rfl (1 : Int32) rfl ?_
  refine W.isub 7 d_prog_30_method_6_6 rfl (15 : Int32) (by decide) ?_
  refine W.istoreN 8 d_prog_30_method_6_7 rfl #[.val (.ref a), .val (.ref t), .val (.int (15 : Int32)), .unset] rfl ?_
  refine W.aloadN 9 d_prog_30_method_6_8 rfl rfl rfl ?_
  refine W.iconst 10 d_prog_30_method_6_9 rfl (0 : Int32) rfl ?_
  refine W.aloadN 11 d_prog_30_method_6_10 rfl rfl rfl ?_
  refine W.getfield 14 d_prog_30_method_6_11 rfl (host := "") (Or.inl (wd_40 hw)) Via.refl F4 ?_
  refine W.callS (rest := []) (argsL := [(.ref t), (.int (0 : Int32)), (.int (2 : Int32))]) 17 d_prog_30_method_6_14 rfl (fun hn => c_h2 l Z a0 hw t x0 x1 _ n0 hn A) (wd_51 hw) (wd_52 hw) (wd_3 hw) (wd_53 hw) (by decide) pd_3 rfl rfl rfl (by decide) 0 (Nat.le_of_ble_eq_true rfl) (by decide) (by decide) (by decide) ?_
  rintro v1152 h1152 ⟨rfl, rfl⟩
  show W _ _ _ _ _ _ _ _ _ _ _ 0 0 17 #[.val (.ref a), .val (.ref t), .val (.int (15 : Int32)), .unset] [(.int (own_h2 x0 x1))]
  refine W.iloadN 18 d_prog_30_method_6_17 rfl rfl ?_
  refine W.iand 19 d_prog_30_method_6_18 rfl ((own_h2 x0 x1) &&& (15 : Int32)) rfl ?_
  refine W.istoreN 20 d_prog_30_method_6_19 rfl #[.val (.ref a), .val (.ref t), .val (.int (15 : Int32)), .val (.int ((own_h2 x0 x1) &&& (15 : Int32)))] rfl ?_
  refine W.aloadN 21 d_prog_30_method_6_20 rfl rfl rfl ?_
  refine W.getfield 24 d_prog_30_method_6_21 rfl (host := "") (Or.inl (wd_20 hw)) Via.refl F2 ?_
  refine W.iloadN 25 d_prog_30_method_6_24 rfl rfl ?_
  refine W.iaload 26 d_prog_30_method_6_25 rfl A2 (((own_h2 x0 x1) &&& (15 : Int32))).toNatClampNeg rfl (own_i15 _).1 (.int (-1 : Int32)) (own_s0 (own_i15 _).2) ?_
  refine W.iconst 27 d_prog_30_method_6_26 rfl (-1 : Int32) rfl ?_
  refine W.icmp_eq 53 30 d_prog_30_method_6_27 rfl rfl (fun _ => ?_) (fun hc => absurd (by decide) hc)
  refine W.iloadN 54 d_prog_30_method_6_53 rfl rfl ?_
  exact W.ireturn d_prog_30_method_6_54 rfl ⟨rfl, rfl⟩ (by decide) (by decide)
set_option maxRecDepth 65536 in
set_option maxHeartbeats 40000000 in
theorem c_f1_2 (l : Launch) (Z : State) (a0 : Array Value) (hw : ∀ d ∈ tables_1, d.before a0 Z = true) (a bv bs t : Addr) (x0 x1 y0 y1 : Int32) (h : Heap) (n0 : Nat) (hn : n0 ≤ h.size) (E : Exa Z h a "com/example/pathweave/pathweave/eval/Relation") (F1 : Fld Z h a "com/example/pathweave/pathweave/eval/Relation" "values" "[I" (.ref bv)) (F2 : Fld Z h a "com/example/pathweave/pathweave/eval/Relation" "slots" "[I" (.ref bs)) (F4 : Fld Z h a "com/example/pathweave/pathweave/eval/Relation" "arity" "I" (.int (2 : Int32))) (A1 : Ary Z h bv .int [(.int x0), (.int x1), (.int (0 : Int32)), (.int (0 : Int32)), (.int (0 : Int32)), (.int (0 : Int32)), (.int (0 : Int32)), (.int (0 : Int32)), (.int (0 : Int32)), (.int (0 : Int32)), (.int (0 : Int32)), (.int (0 : Int32)), (.int (0 : Int32)), (.int (0 : Int32)), (.int (0 : Int32)), (.int (0 : Int32))]) (A2 : Ary Z h bs .int ((List.replicate 16 (.int (-1 : Int32))).set (((own_h2 x0 x1) &&& (15 : Int32))).toNatClampNeg (.int (0 : Int32)))) (A : Ary Z h t .int [(.int y0), (.int y1)]) : Con l Z (⟨"com/example/pathweave/pathweave/eval/Relation", "find", "([I)I"⟩ : MethodName) prog_30_method_6_code 4 (some .int) ({ frames := 1, cells := 0, slots := 0, locals := 20 } : Room) #[(.ref a), (.ref t)] h n0 (fun r h' => (∃ j : Int32, r = some (.int j) ∧ (((x0 = y0 ∧ x1 = y1) ∧ j.toNatClampNeg = (((own_h2 x0 x1) &&& (15 : Int32))).toNatClampNeg) ∨ (¬ (x0 = y0 ∧ x1 = y1) ∧ j.toNatClampNeg ≠ (((own_h2 x0 x1) &&& (15 : Int32))).toNatClampNeg)) ∧ ¬ j < 0 ∧ j.toNatClampNeg < 16) ∧ h' = h) := by
  by_cases hs : (((own_h2 y0 y1) &&& (15 : Int32))).toNatClampNeg = (((own_h2 x0 x1) &&& (15 : Int32))).toNatClampNeg
  · refine ConW.of_W (Ls := #[.val (.ref a), .val (.ref t), .unset, .unset]) (plainFor_of_name pn_1) hn (fun m => by first | (simp [entryFrame, mkF, argsToLocals, Value.category]; done) | rfl) ?_
    refine W.aloadN 1 d_prog_30_method_6_0 rfl rfl rfl ?_
    refine W.getfield 4 d_prog_30_method_6_1 rfl (host := "") (Or.inl (wd_20 hw)) Via.refl F2 ?_
    refine W.arraylength 5 d_prog_30_method_6_4 rfl A2 (16 : Int32) (by rw [own_l1]; rfl) ?_
    refine W.iconst 6 d_prog_30_method_6_5 rfl (1 : Int32) rfl ?_
    refine W.isub 7 d_prog_30_method_6_6 rfl (15 : Int32) (by decide) ?_
    refine W.istoreN 8 d_prog_30_method_6_7 rfl #[.val (.ref a), .val (.ref t), .val (.int (15 : Int32)), .unset] rfl ?_
    refine W.aloadN 9 d_prog_30_method_6_8 rfl rfl rfl ?_
    refine W.iconst 10 d_prog_30_method_6_9 rfl (0 : Int32) rfl ?_
    refine W.aloadN 11 d_prog_30_method_6_10 rfl rfl rfl ?_
    refine W.getfield 14 d_prog_30_method_6_11 rfl (host := "") (Or.inl (wd_40 hw)) Via.refl F4 ?_
    refine W.callS (rest := []) (argsL := [(.ref t), (.int (0 : Int32)), (.int (2 : Int32))]) 17 d_prog_30_method_6_14 rfl (fun hn => c_h2 l Z a0 hw t y0 y1 _ n0 hn A) (wd_51 hw) (wd_52 hw) (wd_3 hw) (wd_53 hw) (by decide) pd_3 rfl rfl rfl (by decide) 0 (Nat.le_of_ble_eq_true rfl) (by decide) (by decide) (by decide) ?_
    rintro v1153 h1153 ⟨rfl, rfl⟩
    show W _ _ _ _ _ _ _ _ _ _ _ 0 0 17 #[.val (.ref a), .val (.ref t), .val (.int (15 : Int32)), .unset] [(.int (own_h2 y0 y1))]
    refine W.iloadN 18 d_prog_30_method_6_17 rfl rfl ?_
    refine W.iand 19 d_prog_30_method_6_18 rfl ((own_h2 y0 y1) &&& (15 : Int32)) rfl ?_
    refine W.istoreN 20 d_prog_30_method_6_19 rfl #[.val (.ref a), .val (.ref t), .val (.int (15 : Int32)), .val (.int ((own_h2 y0 y1) &&& (15 : Int32)))] rfl ?_
    refine W.aloadN 21 d_prog_30_method_6_20 rfl rfl rfl ?_
    refine W.getfield 24 d_prog_30_method_6_21 rfl (host := "") (Or.inl (wd_20 hw)) Via.refl F2 ?_
    refine W.iloadN 25 d_prog_30_method_6_24 rfl rfl ?_
    refine W.iaload 26 d_prog_30_method_6_25 rfl A2 (((own_h2 y0 y1) &&& (15 : Int32))).toNatClampNeg rfl (own_i15 _).1 (.int (0 : Int32)) (by rw [hs]; exact own_s1 (own_i15 _).2) ?_
    refine W.iconst 27 d_prog_30_method_6_26 rfl (-1 : Int32) rfl ?_
    refine W.icmp_eq 53 30 d_prog_30_method_6_27 rfl rfl (fun hc => absurd hc (by decide)) (fun _ => ?_)
    refine W.aloadN 31 d_prog_30_method_6_30 rfl rfl rfl ?_
    refine W.aloadN 32 d_prog_30_method_6_31 rfl rfl rfl ?_
    refine W.getfield 35 d_prog_30_method_6_32 rfl (host := "") (Or.inl (wd_20 hw)) Via.refl F2 ?_
    refine W.iloadN 36 d_prog_30_method_6_35 rfl rfl ?_
    refine W.iaload 37 d_prog_30_method_6_36 rfl A2 (((own_h2 y0 y1) &&& (15 : Int32))).toNatClampNeg rfl (own_i15 _).1 (.int (0 : Int32)) (by rw [hs]; exact own_s1 (own_i15 _).2) ?_
    refine W.aloadN 38 d_prog_30_method_6_37 rfl rfl rfl ?_
    refine W.callP (rest := []) (argsL := [(.int (0 : Int32)), (.ref t)]) (a := a) 41 d_prog_30_method_6_38 rfl (fun hn => c_sm2 l Z a0 hw a bv t x0 x1 y0 y1 _ n0 hn F1 F4 A1 A) E (wd_84 hw) (wd_86 hw) (wd_2 hw) (wd_85 hw) (wd_3 hw) (wd_87 hw) (by decide) pd_4 rfl rfl rfl (by decide) 0 (Nat.le_of_ble_eq_true rfl) (by decide) (by decide) (by decide) ?_
    rintro v1154 h1154 ⟨rfl, rfl⟩
    show W _ _ _ _ _ _ _ _ _ _ _ 0 0 41 #[.val (.ref a), .val (.ref t), .val (.int (15 : Int32)), .val (.int ((own_h2 y0 y1) &&& (15 : Int32)))] [(.int (if x0 = y0 ∧ x1 = y1 then 1 else 0 : Int32))]
    refine W.if_ne 53 44 d_prog_30_method_6_41 rfl rfl ?_ ?_
    · intro hc1155
      refine W.iloadN 54 d_prog_30_method_6_53 rfl rfl ?_
      exact W.ireturn d_prog_30_method_6_54 rfl ⟨⟨_, rfl, Or.inl ⟨Classical.byContradiction fun q => hc1155 (if_neg q), hs⟩, (own_i15 _).1, (own_i15 _).2⟩, rfl⟩ (by decide) (by decide)
    · intro hc1155
      refine W.iloadN 45 d_prog_30_method_6_44 rfl rfl ?_
      refine W.iconst 46 d_prog_30_method_6_45 rfl (1 : Int32) rfl ?_
      refine W.iadd 47 d_prog_30_method_6_46 rfl (((own_h2 y0 y1) &&& (15 : Int32)) + (1 : Int32)) rfl ?_
      refine W.iloadN 48 d_prog_30_method_6_47 rfl rfl ?_
      refine W.iand 49 d_prog_30_method_6_48 rfl ((((own_h2 y0 y1) &&& (15 : Int32)) + (1 : Int32)) &&& (15 : Int32)) rfl ?_
      refine W.istoreN 50 d_prog_30_method_6_49 rfl #[.val (.ref a), .val (.ref t), .val (.int (15 : Int32)), .val (.int ((((own_h2 y0 y1) &&& (15 : Int32)) + (1 : Int32)) &&& (15 : Int32)))] rfl ?_
      refine W.goto 20 d_prog_30_method_6_50 rfl ?_
      refine W.aloadN 21 d_prog_30_method_6_20 rfl rfl rfl ?_
      refine W.getfield 24 d_prog_30_method_6_21 rfl (host := "") (Or.inl (wd_20 hw)) Via.refl F2 ?_
      refine W.iloadN 25 d_prog_30_method_6_24 rfl rfl ?_
      refine W.iaload 26 d_prog_30_method_6_25 rfl A2 (((((own_h2 y0 y1) &&& (15 : Int32)) + (1 : Int32)) &&& (15 : Int32))).toNatClampNeg rfl (own_i15 _).1 (.int (-1 : Int32)) (own_s2 (own_i15 _).2 (by rw [← hs]; exact own_next _)) ?_
      refine W.iconst 27 d_prog_30_method_6_26 rfl (-1 : Int32) rfl ?_
      refine W.icmp_eq 53 30 d_prog_30_method_6_27 rfl rfl (fun _ => ?_) (fun hc => absurd (by decide) hc)
      refine W.iloadN 54 d_prog_30_method_6_53 rfl rfl ?_
      exact W.ireturn d_prog_30_method_6_54 rfl ⟨⟨_, rfl, Or.inr ⟨fun q => absurd ((if_pos q).symm.trans hc1155) (by decide), by rw [← hs]; exact own_next _⟩, (own_i15 _).1, (own_i15 _).2⟩, rfl⟩ (by decide) (by decide)
  · refine ConW.of_W (Ls := #[.val (.ref a), .val (.ref t), .unset, .unset]) (plainFor_of_name pn_1) hn (fun m => by first | (simp [entryFrame, mkF, argsToLocals, Value.category]; done) | rfl) ?_
    refine W.aloadN 1 d_prog_30_method_6_0 rfl rfl rfl ?_
    refine W.getfield 4 d_prog_30_method_6_1 rfl (host := "") (Or.inl (wd_20 hw)) Via.refl F2 ?_
    refine W.arraylength 5 d_prog_30_method_6_4 rfl A2 (16 : Int32) (by rw [own_l1]; rfl) ?_
    refine W.iconst 6 d_prog_30_method_6_5 rfl (1 : Int32) rfl ?_
    refine W.isub 7 d_prog_30_method_6_6 rfl (15 : Int32) (by decide) ?_
    refine W.istoreN 8 d_prog_30_method_6_7 rfl #[.val (.ref a), .val (.ref t), .val (.int (15 : Int32)), .unset] rfl ?_
    refine W.aloadN 9 d_prog_30_method_6_8 rfl rfl rfl ?_
    refine W.iconst 10 d_prog_30_method_6_9 rfl (0 : Int32) rfl ?_
    refine W.aloadN 11 d_prog_30_method_6_10 rfl rfl rfl ?_
    refine W.getfield 14 d_prog_30_method_6_11 rfl (host := "") (Or.inl (wd_40 hw)) Via.refl F4 ?_
    refine W.callS (rest := []) (argsL := [(.ref t), (.int (0 : Int32)), (.int (2 : Int32))]) 17 d_prog_30_method_6_14 rfl (fun hn => c_h2 l Z a0 hw t y0 y1 _ n0 hn A) (wd_51 hw) (wd_52 hw) (wd_3 hw) (wd_53 hw) (by decide) pd_3 rfl rfl rfl (by decide) 0 (Nat.le_of_ble_eq_true rfl) (by decide) (by decide) (by decide) ?_
    rintro v1156 h1156 ⟨rfl, rfl⟩
    show W _ _ _ _ _ _ _ _ _ _ _ 0 0 17 #[.val (.ref a), .val (.ref t), .val (.int (15 : Int32)), .unset] [(.int (own_h2 y0 y1))]
    refine W.iloadN 18 d_prog_30_method_6_17 rfl rfl ?_
    refine W.iand 19 d_prog_30_method_6_18 rfl ((own_h2 y0 y1) &&& (15 : Int32)) rfl ?_
    refine W.istoreN 20 d_prog_30_method_6_19 rfl #[.val (.ref a), .val (.ref t), .val (.int (15 : Int32)), .val (.int ((own_h2 y0 y1) &&& (15 : Int32)))] rfl ?_
    refine W.aloadN 21 d_prog_30_method_6_20 rfl rfl rfl ?_
    refine W.getfield 24 d_prog_30_method_6_21 rfl (host := "") (Or.inl (wd_20 hw)) Via.refl F2 ?_
    refine W.iloadN 25 d_prog_30_method_6_24 rfl rfl ?_
    refine W.iaload 26 d_prog_30_method_6_25 rfl A2 (((own_h2 y0 y1) &&& (15 : Int32))).toNatClampNeg rfl (own_i15 _).1 (.int (-1 : Int32)) (own_s2 (own_i15 _).2 hs) ?_
    refine W.iconst 27 d_prog_30_method_6_26 rfl (-1 : Int32) rfl ?_
    refine W.icmp_eq 53 30 d_prog_30_method_6_27 rfl rfl (fun _ => ?_) (fun hc => absurd (by decide) hc)
    refine W.iloadN 54 d_prog_30_method_6_53 rfl rfl ?_
    exact W.ireturn d_prog_30_method_6_54 rfl ⟨⟨_, rfl, Or.inr ⟨fun q => hs (by obtain ⟨rfl, rfl⟩ := q; rfl), hs⟩, (own_i15 _).1, (own_i15 _).2⟩, rfl⟩ (by decide) (by decide)
set_option maxRecDepth 65536 in
set_option maxHeartbeats 40000000 in
theorem c_a0_2 (l : Launch) (Z : State) (a0 : Array Value) (hw : ∀ d ∈ tables_1, d.before a0 Z = true) (a bv bs m t : Addr) (x0 x1 mc : Int32) (h : Heap) (n0 : Nat) (hn : n0 ≤ h.size) (ga : n0 ≤ a) (gbv : n0 ≤ bv) (gbs : n0 ≤ bs) (gm : n0 ≤ m) (ne_a_bv : a ≠ bv) (ne_a_bs : a ≠ bs) (ne_a_m : a ≠ m) (ne_a_t : a ≠ t) (ne_bv_bs : bv ≠ bs) (ne_bv_m : bv ≠ m) (ne_bv_t : bv ≠ t) (ne_bs_m : bs ≠ m) (ne_bs_t : bs ≠ t) (ne_m_t : m ≠ t) (E : Exa Z h a "com/example/pathweave/pathweave/eval/Relation") (F1 : Fld Z h a "com/example/pathweave/pathweave/eval/Relation" "values" "[I" (.ref bv)) (F2 : Fld Z h a "com/example/pathweave/pathweave/eval/Relation" "slots" "[I" (.ref bs)) (F3 : Fld Z h a "com/example/pathweave/pathweave/eval/Relation" "indexes" "Ljava/util/Map;" (.ref m)) (F4 : Fld Z h a "com/example/pathweave/pathweave/eval/Relation" "arity" "I" (.int (2 : Int32))) (F5 : Fld Z h a "com/example/pathweave/pathweave/eval/Relation" "size" "I" (.int (0 : Int32))) (A1 : Ary Z h bv .int [(.int (0 : Int32)), (.int (0 : Int32)), (.int (0 : Int32)), (.int (0 : Int32)), (.int (0 : Int32)), (.int (0 : Int32)), (.int (0 : Int32)), (.int (0 : Int32)), (.int (0 : Int32)), (.int (0 : Int32)), (.int (0 : Int32)), (.int (0 : Int32)), (.int (0 : Int32)), (.int (0 : Int32)), (.int (0 : Int32)), (.int (0 : Int32))]) (A2 : Ary Z h bs .int (List.replicate 16 (.int (-1 : Int32)))) (A : Ary Z h t .int [(.int x0), (.int x1)]) (E2 : Exa Z h m "java/util/HashMap") (G1 : Fld Z h m "java/util/HashMap" "modCount" "I" (.int mc)) (G2 : Fld Z h m "java/util/HashMap" "table" "[Ljava/util/HashMap$Node;" .null) : Con l Z (⟨"com/example/pathweave/pathweave/eval/Relation", "add", "([I)Z"⟩ : MethodName) prog_30_method_5_code 3 (some .boolean) ({ frames := 2, cells := 0, slots := 0, locals := 70 } : Room) #[(.ref a), (.ref t)] h n0 (fun r h' => r = some (.int 1) ∧ Keep h h' [a, bv, bs, m] ∧ (Exa Z h' a "com/example/pathweave/pathweave/eval/Relation" ∧ Fld Z h' a "com/example/pathweave/pathweave/eval/Relation" "values" "[I" (.ref bv) ∧ Fld Z h' a "com/example/pathweave/pathweave/eval/Relation" "arity" "I" (.int (2 : Int32)) ∧ Fld Z h' a "com/example/pathweave/pathweave/eval/Relation" "size" "I" (.int (1 : Int32)) ∧ Ary Z h' bv .int [(.int x0), (.int x1), (.int (0 : Int32)), (.int (0 : Int32)), (.int (0 : Int32)), (.int (0 : Int32)), (.int (0 : Int32)), (.int (0 : Int32)), (.int (0 : Int32)), (.int (0 : Int32)), (.int (0 : Int32)), (.int (0 : Int32)), (.int (0 : Int32)), (.int (0 : Int32)), (.int (0 : Int32)), (.int (0 : Int32))]) ∧ Fld Z h' a "com/example/pathweave/pathweave/eval/Relation" "slots" "[I" (.ref bs) ∧ Ary Z h' bs .int ((List.replicate 16 (.int (-1 : Int32))).set (((own_h2 x0 x1) &&& (15 : Int32))).toNatClampNeg (.int (0 : Int32))) ∧ Fld Z h' a "com/example/pathweave/pathweave/eval/Relation" "indexes" "Ljava/util/Map;" (.ref m) ∧ Exa Z h' m "java/util/HashMap" ∧ Fld Z h' m "java/util/HashMap" "modCount" "I" (.int (mc + (1 : Int32))) ∧ Fld Z h' m "java/util/HashMap" "table" "[Ljava/util/HashMap$Node;" .null) := by
  refine ConW.of_W (Ls := #[.val (.ref a), .val (.ref t), .unset]) (plainFor_of_name pn_1) hn (fun m => by first | (simp [entryFrame, mkF, argsToLocals, Value.category]; done) | rfl) ?_
  refine W.aloadN 1 d_prog_30_method_5_0 rfl rfl rfl ?_
  refine W.aloadN 2 d_prog_30_method_5_1 rfl rfl rfl ?_
  refine W.callP (rest := []) (argsL := [(.ref t)]) (a := a) 5 d_prog_30_method_5_2 rfl (fun hn => c_f0_2 l Z a0 hw a bs t x0 x1 _ n0 hn E F2 F4 A2 A) E (wd_47 hw) (wd_49 hw) (wd_2 hw) (wd_48 hw) (wd_3 hw) (wd_50 hw) (by decide) pd_5 rfl rfl rfl (by decide) 0 (Nat.le_of_ble_eq_true rfl) (by decide) (by decide) (by decide) ?_
  rintro v1157 h1157 ⟨rfl, rfl⟩
  show W _ _ _ _ _ _ _ _ _ _ _ 0 0 5 #[.val (.ref a), .val (.ref t), .unset] [(.int ((own_h2 x0 x1) &&& (15 : Int32)))]
  refine W.istoreN 6 d_prog_30_method_5_5 rfl #[.val (.ref a), .val (.ref t), .val (.int ((own_h2 x0 x1) &&& (15 : Int32)))] rfl ?_
  refine W.aloadN 7 d_prog_30_method_5_6 rfl rfl rfl ?_
  refine W.getfield 10 d_prog_30_method_5_7 rfl (host := "") (Or.inl (wd_20 hw)) Via.refl F2 ?_
  refine W.iloadN 11 d_prog_30_method_5_10 rfl rfl ?_
  refine W.iaload 12 d_prog_30_method_5_11 rfl A2 (((own_h2 x0 x1) &&& (15 : Int32))).toNatClampNeg rfl (own_i15 _).1 (.int (-1 : Int32)) (own_s0 (own_i15 _).2) ?_
  refine W.iconst 13 d_prog_30_method_5_12 rfl (-1 : Int32) rfl ?_
  refine W.icmp_eq 18 16 d_prog_30_method_5_13 rfl rfl (fun _ => ?_) (fun hc => absurd (by decide) hc)
  refine W.aloadN 19 d_prog_30_method_5_18 rfl rfl rfl ?_
  refine W.getfield 22 d_prog_30_method_5_19 rfl (host := "") (Or.inl (wd_55 hw)) Via.refl F5 ?_
  refine W.iconst 23 d_prog_30_method_5_22 rfl (1 : Int32) rfl ?_
  refine W.iadd 24 d_prog_30_method_5_23 rfl (1 : Int32) (by decide) ?_
  refine W.aloadN 25 d_prog_30_method_5_24 rfl rfl rfl ?_
  refine W.getfield 28 d_prog_30_method_5_25 rfl (host := "") (Or.inl (wd_40 hw)) Via.refl F4 ?_
  refine W.imul 29 d_prog_30_method_5_28 rfl (2 : Int32) (by decide) ?_
  refine W.aloadN 30 d_prog_30_method_5_29 rfl rfl rfl ?_
  refine W.getfield 33 d_prog_30_method_5_30 rfl (host := "") (Or.inl (wd_11 hw)) Via.refl F1 ?_
  refine W.arraylength 34 d_prog_30_method_5_33 rfl A1 (16 : Int32) rfl ?_
  refine W.icmp_le 69 37 d_prog_30_method_5_34 rfl rfl (fun _ => ?_) (fun hc => absurd hc (by decide))
  refine W.aloadN 70 d_prog_30_method_5_69 rfl rfl rfl ?_
  refine W.iconst 71 d_prog_30_method_5_70 rfl (0 : Int32) rfl ?_
  refine W.aloadN 72 d_prog_30_method_5_71 rfl rfl rfl ?_
  refine W.getfield 75 d_prog_30_method_5_72 rfl (host := "") (Or.inl (wd_11 hw)) Via.refl F1 ?_
  refine W.aloadN 76 d_prog_30_method_5_75 rfl rfl rfl ?_
  refine W.getfield 79 d_prog_30_method_5_76 rfl (host := "") (Or.inl (wd_55 hw)) Via.refl F5 ?_
  refine W.aloadN 80 d_prog_30_method_5_79 rfl rfl rfl ?_
  refine W.getfield 83 d_prog_30_method_5_80 rfl (host := "") (Or.inl (wd_40 hw)) Via.refl F4 ?_
  refine W.imul 84 d_prog_30_method_5_83 rfl (0 : Int32) (by decide) ?_
  refine W.aloadN 85 d_prog_30_method_5_84 rfl rfl rfl ?_
  refine W.getfield 88 d_prog_30_method_5_85 rfl (host := "") (Or.inl (wd_40 hw)) Via.refl F4 ?_
  refine W.arraycopy 91 d_prog_30_method_5_88 rfl (wd_57 hw) (wd_60 hw) (wd_58 hw) (wd_59 hw) A A1 rfl 0 0 2 (by decide) (by decide) (by decide) (by decide) (by decide) (by decide) (Nat.le_of_ble_eq_true rfl) (Nat.le_of_ble_eq_true rfl) gbv rfl (by decide) 0 (Nat.le_of_ble_eq_true rfl) (by decide) ?_
  intro h1158 K1158 A1158
  have kc1159 := Keep.trans (ws := [a, bv, bs, m]) (Keep.refl _ [a, bv, bs, m]) K1158 (allS (Or.inl (List.mem_of_getElem? (i := 1) rfl)) all0)
  have A1158 : Ary _ _ bv .int [(.int x0), (.int x1), (.int (0 : Int32)), (.int (0 : Int32)), (.int (0 : Int32)), (.int (0 : Int32)), (.int (0 : Int32)), (.int (0 : Int32)), (.int (0 : Int32)), (.int (0 : Int32)), (.int (0 : Int32)), (.int (0 : Int32)), (.int (0 : Int32)), (.int (0 : Int32)), (.int (0 : Int32)), (.int (0 : Int32))] := A1158
  refine W.aloadN 92 d_prog_30_method_5_91 rfl rfl rfl ?_
  have q1160 := (F2.keep K1158 (ninS ne_a_bv nin0))
  refine W.getfield 95 d_prog_30_method_5_92 rfl (host := "") (Or.inl (wd_20 hw)) Via.refl q1160 ?_
  refine W.iloadN 96 d_prog_30_method_5_95 rfl rfl ?_
  refine W.aloadN 97 d_prog_30_method_5_96 rfl rfl rfl ?_
  refine W.dup 98 d_prog_30_method_5_97 rfl rfl ?_
  have q1161 := (F5.keep K1158 (ninS ne_a_bv nin0))
  refine W.getfield 101 d_prog_30_method_5_98 rfl (host := "") (Or.inl (wd_55 hw)) Via.refl q1161 ?_
  refine W.dup_x1 102 d_prog_30_method_5_101 rfl rfl rfl ?_
  refine W.iconst 103 d_prog_30_method_5_102 rfl (1 : Int32) rfl ?_
  refine W.iadd 104 d_prog_30_method_5_103 rfl (1 : Int32) (by decide) ?_
  have q1162 := (E.keep K1158)
  refine W.putfield 107 d_prog_30_method_5_104 rfl (host := "") (Or.inl (wd_55 hw)) Via.refl q1161 q1162 (Or.inl (wd_56 hw)) (wd_2 hw) (ty := .int) (by decide) rfl rfl ga ?_
  intro h1163 W1163 F1163 E1163 K1163
  have kc1164 := Keep.trans (ws := [a, bv, bs, m]) kc1159 K1163 (allS (Or.inl (List.mem_of_getElem? (i := 0) rfl)) all0)
  have q1165 := ((A2.keep K1158 (ninS (Ne.symm ne_bv_bs) nin0)).keep K1163 (ninS (Ne.symm ne_a_bs) nin0))
  refine W.iastore 108 d_prog_30_method_5_107 rfl q1165 (((own_h2 x0 x1) &&& (15 : Int32))).toNatClampNeg rfl (own_i15 _).1 (own_i15 _).2 gbs ?_
  intro h1166 W1166 K1166 A1166
  have kc1167 := Keep.trans (ws := [a, bv, bs, m]) kc1164 K1166 (allS (Or.inl (List.mem_of_getElem? (i := 2) rfl)) all0)
  refine W.iconst 109 d_prog_30_method_5_108 rfl (2 : Int32) rfl ?_
  refine W.aloadN 110 d_prog_30_method_5_109 rfl rfl rfl ?_
  have q1168 := (F1163.keep K1166 (ninS ne_a_bs nin0))
  refine W.getfield 113 d_prog_30_method_5_110 rfl (host := "") (Or.inl (wd_55 hw)) Via.refl q1168 ?_
  refine W.imul 114 d_prog_30_method_5_113 rfl (2 : Int32) (by decide) ?_
  refine W.aloadN 115 d_prog_30_method_5_114 rfl rfl rfl ?_
  have q1169 := ((q1160.other W1163 (Or.inr (sne_19 hw))).keep K1166 (ninS ne_a_bs nin0))
  refine W.getfield 118 d_prog_30_method_5_115 rfl (host := "") (Or.inl (wd_20 hw)) Via.refl q1169 ?_
  refine W.arraylength 119 d_prog_30_method_5_118 rfl A1166 (16 : Int32) (by rw [own_l1]; rfl) ?_
  refine W.icmp_le 126 122 d_prog_30_method_5_119 rfl rfl (fun _ => ?_) (fun hc => absurd hc (by decide))
  refine W.aloadN 127 d_prog_30_method_5_126 rfl rfl rfl ?_
  have q1170 := (((F3.keep K1158 (ninS ne_a_bv nin0)).other W1163 (Or.inr (sne_20 hw))).keep K1166 (ninS ne_a_bs nin0))
  refine W.getfield 130 d_prog_30_method_5_127 rfl (host := "") (Or.inl (wd_38 hw)) Via.refl q1170 ?_
  have q1171 := (((E2.keep K1158).keep K1163).keep K1166)
  have q1172 := (((G1.keep K1158 (ninS (Ne.symm ne_bv_m) nin0)).keep K1163 (ninS (Ne.symm ne_a_m) nin0)).keep K1166 (ninS (Ne.symm ne_bs_m) nin0))
  have q1173 := (((G2.keep K1158 (ninS (Ne.symm ne_bv_m) nin0)).keep K1163 (ninS (Ne.symm ne_a_m) nin0)).keep K1166 (ninS (Ne.symm ne_bs_m) nin0))
  refine W.callI (rest := []) (argsL := []) (a := m) 135 d_prog_30_method_5_130 rfl (fun hn => c_clr l Z a0 hw m mc _ n0 hn gm q1171 q1172 q1173) q1171 (wd_61 hw) (wd_62 hw) (wd_63 hw) (wd_64 hw) (wd_65 hw) (wd_66 hw) (wd_67 hw) (wd_68 hw) (wd_24 hw) (wd_69 hw) (by decide) pd_1 rfl rfl rfl (by decide) 0 (Nat.le_of_ble_eq_true rfl) (by decide) (by decide) (by decide) ?_
  rintro v1174 h1174 ⟨rfl, E1174, ⟨F1174, G1174⟩, K1174⟩
  have kc1175 := Keep.trans (ws := [a, bv, bs, m]) kc1167 K1174 (allS (Or.inl (List.mem_of_getElem? (i := 3) rfl)) all0)
  show W _ _ _ _ _ _ _ _ _ _ _ 0 0 135 #[.val (.ref a), .val (.ref t), .val (.int ((own_h2 x0 x1) &&& (15 : Int32)))] []
  refine W.iconst 136 d_prog_30_method_5_135 rfl (1 : Int32) rfl ?_
  have q1176 := ((E1163.keep K1166).keep K1174)
  have q1177 := ((((F1.keep K1158 (ninS ne_a_bv nin0)).other W1163 (Or.inr (sne_21 hw))).keep K1166 (ninS ne_a_bs nin0)).keep K1174 (ninS ne_a_m nin0))
  have q1178 := ((((F4.keep K1158 (ninS ne_a_bv nin0)).other W1163 (Or.inr (sne_22 hw))).keep K1166 (ninS ne_a_bs nin0)).keep K1174 (ninS ne_a_m nin0))
  have q1179 := (q1168.keep K1174 (ninS ne_a_m nin0))
  have q1180 := (((A1158.keep K1163 (ninS (Ne.symm ne_a_bv) nin0)).keep K1166 (ninS ne_bv_bs nin0)).keep K1174 (ninS ne_bv_m nin0))
  have q1181 := (q1169.keep K1174 (ninS ne_a_m nin0))
  have q1182 := (A1166.keep K1174 (ninS ne_bs_m nin0))
  have q1183 := (q1170.keep K1174 (ninS ne_a_m nin0))
  exact W.ireturnN (t := .boolean) d_prog_30_method_5_136 rfl (by simp) (1 : Int32) rfl ⟨rfl, kc1175, ⟨q1176, q1177, q1178, q1179, q1180⟩, q1181, q1182, q1183, E1174, ⟨F1174, G1174⟩⟩ (by decide) (by decide)
set_option maxRecDepth 65536 in
set_option maxHeartbeats 40000000 in
theorem c_a1_2 (l : Launch) (Z : State) (a0 : Array Value) (hw : ∀ d ∈ tables_1, d.before a0 Z = true) (a bv bs m t : Addr) (x0 x1 y0 y1 mc : Int32) (h : Heap) (n0 : Nat) (hn : n0 ≤ h.size) (ga : n0 ≤ a) (gbv : n0 ≤ bv) (gbs : n0 ≤ bs) (gm : n0 ≤ m) (ne_a_bv : a ≠ bv) (ne_a_bs : a ≠ bs) (ne_a_m : a ≠ m) (ne_a_t : a ≠ t) (ne_bv_bs : bv ≠ bs) (ne_bv_m : bv ≠ m) (ne_bv_t : bv ≠ t) (ne_bs_m : bs ≠ m) (ne_bs_t : bs ≠ t) (ne_m_t : m ≠ t) (E : Exa Z h a "com/example/pathweave/pathweave/eval/Relation") (F1 : Fld Z h a "com/example/pathweave/pathweave/eval/Relation" "values" "[I" (.ref bv)) (F2 : Fld Z h a "com/example/pathweave/pathweave/eval/Relation" "slots" "[I" (.ref bs)) (F3 : Fld Z h a "com/example/pathweave/pathweave/eval/Relation" "indexes" "Ljava/util/Map;" (.ref m)) (F4 : Fld Z h a "com/example/pathweave/pathweave/eval/Relation" "arity" "I" (.int (2 : Int32))) (F5 : Fld Z h a "com/example/pathweave/pathweave/eval/Relation" "size" "I" (.int (1 : Int32))) (A1 : Ary Z h bv .int [(.int x0), (.int x1), (.int (0 : Int32)), (.int (0 : Int32)), (.int (0 : Int32)), (.int (0 : Int32)), (.int (0 : Int32)), (.int (0 : Int32)), (.int (0 : Int32)), (.int (0 : Int32)), (.int (0 : Int32)), (.int (0 : Int32)), (.int (0 : Int32)), (.int (0 : Int32)), (.int (0 : Int32)), (.int (0 : Int32))]) (A2 : Ary Z h bs .int ((List.replicate 16 (.int (-1 : Int32))).set (((own_h2 x0 x1) &&& (15 : Int32))).toNatClampNeg (.int (0 : Int32)))) (A : Ary Z h t .int [(.int y0), (.int y1)]) (E2 : Exa Z h m "java/util/HashMap") (G1 : Fld Z h m "java/util/HashMap" "modCount" "I" (.int mc)) (G2 : Fld Z h m "java/util/HashMap" "table" "[Ljava/util/HashMap$Node;" .null) : Con l Z (⟨"com/example/pathweave/pathweave/eval/Relation", "add", "([I)Z"⟩ : MethodName) prog_30_method_5_code 3 (some .boolean) ({ frames := 2, cells := 0, slots := 0, locals := 70 } : Room) #[(.ref a), (.ref t)] h n0 (fun r h' => (∃ z : Int32, r = some (.int z)) ∧ Keep h h' [a, bv, bs, m] ∧ (((x0 = y0 ∧ x1 = y1) ∧ Exa Z h' a "com/example/pathweave/pathweave/eval/Relation" ∧ Fld Z h' a "com/example/pathweave/pathweave/eval/Relation" "values" "[I" (.ref bv) ∧ Fld Z h' a "com/example/pathweave/pathweave/eval/Relation" "arity" "I" (.int (2 : Int32)) ∧ Fld Z h' a "com/example/pathweave/pathweave/eval/Relation" "size" "I" (.int (1 : Int32)) ∧ Ary Z h' bv .int [(.int x0), (.int x1), (.int (0 : Int32)), (.int (0 : Int32)), (.int (0 : Int32)), (.int (0 : Int32)), (.int (0 : Int32)), (.int (0 : Int32)), (.int (0 : Int32)), (.int (0 : Int32)), (.int (0 : Int32)), (.int (0 : Int32)), (.int (0 : Int32)), (.int (0 : Int32)), (.int (0 : Int32)), (.int (0 : Int32))]) ∨ (¬ (x0 = y0 ∧ x1 = y1) ∧ Exa Z h' a "com/example/pathweave/pathweave/eval/Relation" ∧ Fld Z h' a "com/example/pathweave/pathweave/eval/Relation" "values" "[I" (.ref bv) ∧ Fld Z h' a "com/example/pathweave/pathweave/eval/Relation" "arity" "I" (.int (2 : Int32)) ∧ Fld Z h' a "com/example/pathweave/pathweave/eval/Relation" "size" "I" (.int (2 : Int32)) ∧ Ary Z h' bv .int [(.int x0), (.int x1), (.int y0), (.int y1), (.int (0 : Int32)), (.int (0 : Int32)), (.int (0 : Int32)), (.int (0 : Int32)), (.int (0 : Int32)), (.int (0 : Int32)), (.int (0 : Int32)), (.int (0 : Int32)), (.int (0 : Int32)), (.int (0 : Int32)), (.int (0 : Int32)), (.int (0 : Int32))]))) := by
  refine ConW.of_W (Ls := #[.val (.ref a), .val (.ref t), .unset]) (plainFor_of_name pn_1) hn (fun m => by first | (simp [entryFrame, mkF, argsToLocals, Value.category]; done) | rfl) ?_
  refine W.aloadN 1 d_prog_30_method_5_0 rfl rfl rfl ?_
  refine W.aloadN 2 d_prog_30_method_5_1 rfl rfl rfl ?_
  refine W.callP (rest := []) (argsL := [(.ref t)]) (a := a) 5 d_prog_30_method_5_2 rfl (fun hn => c_f1_2 l Z a0 hw a bv bs t x0 x1 y0 y1 _ n0 hn E F1 F2 F4 A1 A2 A) E (wd_47 hw) (wd_49 hw) (wd_2 hw) (wd_48 hw) (wd_3 hw) (wd_50 hw) (by decide) pd_5 rfl rfl rfl (by decide) 0 (Nat.le_of_ble_eq_true rfl) (by decide) (by decide) (by decide) ?_
  rintro v1184 h1184 ⟨⟨jj, rfl, hj, hj0, hj16⟩, rfl⟩
  show W _ _ _ _ _ _ _ _ _ _ _ 0 0 5 #[.val (.ref a), .val (.ref t), .unset] [(.int jj)]
  rcases hj with ⟨hq, hjx⟩ | ⟨hq, hjx⟩
  · refine W.istoreN 6 d_prog_30_method_5_5 rfl #[.val (.ref a), .val (.ref t), .val (.int jj)] rfl ?_
    refine W.aloadN 7 d_prog_30_method_5_6 rfl rfl rfl ?_
    refine W.getfield 10 d_prog_30_method_5_7 rfl (host := "") (Or.inl (wd_20 hw)) Via.refl F2 ?_
    refine W.iloadN 11 d_prog_30_method_5_10 rfl rfl ?_
    refine W.iaload 12 d_prog_30_method_5_11 rfl A2 (jj).toNatClampNeg rfl hj0 (.int (0 : Int32)) (by rw [hjx]; exact own_s1 (own_i15 _).2) ?_
    refine W.iconst 13 d_prog_30_method_5_12 rfl (-1 : Int32) rfl ?_
    refine W.icmp_eq 18 16 d_prog_30_method_5_13 rfl rfl (fun hc => absurd hc (by decide)) (fun _ => ?_)
    refine W.iconst 17 d_prog_30_method_5_16 rfl (0 : Int32) rfl ?_
    exact W.ireturnN (t := .boolean) d_prog_30_method_5_17 rfl (by simp) (0 : Int32) rfl ⟨⟨_, rfl⟩, (Keep.refl _ [a, bv, bs, m]), Or.inl ⟨hq, E, F1, F4, F5, A1⟩⟩ (by decide) (by decide)
  · refine W.istoreN 6 d_prog_30_method_5_5 rfl #[.val (.ref a), .val (.ref t), .val (.int jj)] rfl ?_
    refine W.aloadN 7 d_prog_30_method_5_6 rfl rfl rfl ?_
    refine W.getfield 10 d_prog_30_method_5_7 rfl (host := "") (Or.inl (wd_20 hw)) Via.refl F2 ?_
    refine W.iloadN 11 d_prog_30_method_5_10 rfl rfl ?_
    refine W.iaload 12 d_prog_30_method_5_11 rfl A2 (jj).toNatClampNeg rfl hj0 (.int (-1 : Int32)) (own_s2 hj16 hjx) ?_
    refine W.iconst 13 d_prog_30_method_5_12 rfl (-1 : Int32) rfl ?_
    refine W.icmp_eq 18 16 d_prog_30_method_5_13 rfl rfl (fun _ => ?_) (fun hc => absurd (by decide) hc)
    refine W.aloadN 19 d_prog_30_method_5_18 rfl rfl rfl ?_
    refine W.getfield 22 d_prog_30_method_5_19 rfl (host := "") (Or.inl (wd_55 hw)) Via.refl F5 ?_
    refine W.iconst 23 d_prog_30_method_5_22 rfl (1 : Int32) rfl ?_
    refine W.iadd 24 d_prog_30_method_5_23 rfl (2 : Int32) (by decide) ?_
    refine W.aloadN 25 d_prog_30_method_5_24 rfl rfl rfl ?_
    refine W.getfield 28 d_prog_30_method_5_25 rfl (host := "") (Or.inl (wd_40 hw)) Via.refl F4 ?_
    refine W.imul 29 d_prog_30_method_5_28 rfl (4 : Int32) (by decide) ?_
    refine W.aloadN 30 d_prog_30_method_5_29 rfl rfl rfl ?_
    refine W.getfield 33 d_prog_30_method_5_30 rfl (host := "") (Or.inl (wd_11 hw)) Via.refl F1 ?_
    refine W.arraylength 34 d_prog_30_method_5_33 rfl A1 (16 : Int32) rfl ?_
    refine W.icmp_le 69 37 d_prog_30_method_5_34 rfl rfl (fun _ => ?_) (fun hc => absurd hc (by decide))
    refine W.aloadN 70 d_prog_30_method_5_69 rfl rfl rfl ?_
    refine W.iconst 71 d_prog_30_method_5_70 rfl (0 : Int32) rfl ?_
    refine W.aloadN 72 d_prog_30_method_5_71 rfl rfl rfl ?_
    refine W.getfield 75 d_prog_30_method_5_72 rfl (host := "") (Or.inl (wd_11 hw)) Via.refl F1 ?_
    refine W.aloadN 76 d_prog_30_method_5_75 rfl rfl rfl ?_
    refine W.getfield 79 d_prog_30_method_5_76 rfl (host := "") (Or.inl (wd_55 hw)) Via.refl F5 ?_
    refine W.aloadN 80 d_prog_30_method_5_79 rfl rfl rfl ?_
    refine W.getfield 83 d_prog_30_method_5_80 rfl (host := "") (Or.inl (wd_40 hw)) Via.refl F4 ?_
    refine W.imul 84 d_prog_30_method_5_83 rfl (2 : Int32) (by decide) ?_
    refine W.aloadN 85 d_prog_30_method_5_84 rfl rfl rfl ?_
    refine W.getfield 88 d_prog_30_method_5_85 rfl (host := "") (Or.inl (wd_40 hw)) Via.refl F4 ?_
    refine W.arraycopy 91 d_prog_30_method_5_88 rfl (wd_57 hw) (wd_60 hw) (wd_58 hw) (wd_59 hw) A A1 rfl 0 2 2 (by decide) (by decide) (by decide) (by decide) (by decide) (by decide) (Nat.le_of_ble_eq_true rfl) (Nat.le_of_ble_eq_true rfl) gbv rfl (by decide) 0 (Nat.le_of_ble_eq_true rfl) (by decide) ?_
    intro h1185 K1185 A1185
    have kc1186 := Keep.trans (ws := [a, bv, bs, m]) (Keep.refl _ [a, bv, bs, m]) K1185 (allS (Or.inl (List.mem_of_getElem? (i := 1) rfl)) all0)
    have A1185 : Ary _ _ bv .int [(.int x0), (.int x1), (.int y0), (.int y1), (.int (0 : Int32)), (.int (0 : Int32)), (.int (0 : Int32)), (.int (0 : Int32)), (.int (0 : Int32)), (.int (0 : Int32)), (.int (0 : Int32)), (.int (0 : Int32)), (.int (0 : Int32)), (.int (0 : Int32)), (.int (0 : Int32)), (.int (0 : Int32))] := A1185
    refine W.aloadN 92 d_prog_30_method_5_91 rfl rfl rfl ?_
    have q1187 := (F2.keep K1185 (ninS ne_a_bv nin0))
    refine W.getfield 95 d_prog_30_method_5_92 rfl (host := "") (Or.inl (wd_20 hw)) Via.refl q1187 ?_
    refine W.iloadN 96 d_prog_30_method_5_95 rfl rfl ?_
    refine W.aloadN 97 d_prog_30_method_5_96 rfl rfl rfl ?_
    refine W.dup 98 d_prog_30_method_5_97 rfl rfl ?_
    have q1188 := (F5.keep K1185 (ninS ne_a_bv nin0))
    refine W.getfield 101 d_prog_30_method_5_98 rfl (host := "") (Or.inl (wd_55 hw)) Via.refl q1188 ?_
    refine W.dup_x1 102 d_prog_30_method_5_101 rfl rfl rfl ?_
    refine W.iconst 103 d_prog_30_method_5_102 rfl (1 : Int32) rfl ?_
    refine W.iadd 104 d_prog_30_method_5_103 rfl (2 : Int32) (by decide) ?_
    have q1189 := (E.keep K1185)
    refine W.putfield 107 d_prog_30_method_5_104 rfl (host := "") (Or.inl (wd_55 hw)) Via.refl q1188 q1189 (Or.inl (wd_56 hw)) (wd_2 hw) (ty := .int) (by decide) rfl rfl ga ?_
    intro h1190 W1190 F1190 E1190 K1190
    have kc1191 := Keep.trans (ws := [a, bv, bs, m]) kc1186 K1190 (allS (Or.inl (List.mem_of_getElem? (i := 0) rfl)) all0)
    have q1192 := ((A2.keep K1185 (ninS (Ne.symm ne_bv_bs) nin0)).keep K1190 (ninS (Ne.symm ne_a_bs) nin0))
    refine W.iastore 108 d_prog_30_method_5_107 rfl q1192 (jj).toNatClampNeg rfl hj0 (by rw [own_l1]; exact hj16) gbs ?_
    intro h1193 W1193 K1193 A1193
    have kc1194 := Keep.trans (ws := [a, bv, bs, m]) kc1191 K1193 (allS (Or.inl (List.mem_of_getElem? (i := 2) rfl)) all0)
    refine W.iconst 109 d_prog_30_method_5_108 rfl (2 : Int32) rfl ?_
    refine W.aloadN 110 d_prog_30_method_5_109 rfl rfl rfl ?_
    have q1195 := (F1190.keep K1193 (ninS ne_a_bs nin0))
    refine W.getfield 113 d_prog_30_method_5_110 rfl (host := "") (Or.inl (wd_55 hw)) Via.refl q1195 ?_
    refine W.imul 114 d_prog_30_method_5_113 rfl (4 : Int32) (by decide) ?_
    refine W.aloadN 115 d_prog_30_method_5_114 rfl rfl rfl ?_
    have q1196 := ((q1187.other W1190 (Or.inr (sne_19 hw))).keep K1193 (ninS ne_a_bs nin0))
    refine W.getfield 118 d_prog_30_method_5_115 rfl (host := "") (Or.inl (wd_20 hw)) Via.refl q1196 ?_
    refine W.arraylength 119 d_prog_30_method_5_118 rfl A1193 (16 : Int32) (by rw [List.length_set, own_l1]; rfl) ?_
    refine W.icmp_le 126 122 d_prog_30_method_5_119 rfl rfl (fun _ => ?_) (fun hc => absurd hc (by decide))
    refine W.aloadN 127 d_prog_30_method_5_126 rfl rfl rfl ?_
    have q1197 := (((F3.keep K1185 (ninS ne_a_bv nin0)).other W1190 (Or.inr (sne_20 hw))).keep K1193 (ninS ne_a_bs nin0))
    refine W.getfield 130 d_prog_30_method_5_127 rfl (host := "") (Or.inl (wd_38 hw)) Via.refl q1197 ?_
    have q1198 := (((E2.keep K1185).keep K1190).keep K1193)
    have q1199 := (((G1.keep K1185 (ninS (Ne.symm ne_bv_m) nin0)).keep K1190 (ninS (Ne.symm ne_a_m) nin0)).keep K1193 (ninS (Ne.symm ne_bs_m) nin0))
    have q1200 := (((G2.keep K1185 (ninS (Ne.symm ne_bv_m) nin0)).keep K1190 (ninS (Ne.symm ne_a_m) nin0)).keep K1193 (ninS (Ne.symm ne_bs_m) nin0))
    refine W.callI (rest := []) (argsL := []) (a := m) 135 d_prog_30_method_5_130 rfl (fun hn => c_clr l Z a0 hw m mc _ n0 hn gm q1198 q1199 q1200) q1198 (wd_61 hw) (wd_62 hw) (wd_63 hw) (wd_64 hw) (wd_65 hw) (wd_66 hw) (wd_67 hw) (wd_68 hw) (wd_24 hw) (wd_69 hw) (by decide) pd_1 rfl rfl rfl (by decide) 0 (Nat.le_of_ble_eq_true rfl) (by decide) (by decide) (by decide) ?_
    rintro v1201 h1201 ⟨rfl, E1201, ⟨F1201, G1201⟩, K1201⟩
    have kc1202 := Keep.trans (ws := [a, bv, bs, m]) kc1194 K1201 (allS (Or.inl (List.mem_of_getElem? (i := 3) rfl)) all0)
    show W _ _ _ _ _ _ _ _ _ _ _ 0 0 135 #[.val (.ref a), .val (.ref t), .val (.int jj)] []
    refine W.iconst 136 d_prog_30_method_5_135 rfl (1 : Int32) rfl ?_
    have q1203 := ((E1190.keep K1193).keep K1201)
    have q1204 := ((((F1.keep K1185 (ninS ne_a_bv nin0)).other W1190 (Or.inr (sne_21 hw))).keep K1193 (ninS ne_a_bs nin0)).keep K1201 (ninS ne_a_m nin0))
    have q1205 := ((((F4.keep K1185 (ninS ne_a_bv nin0)).other W1190 (Or.inr (sne_22 hw))).keep K1193 (ninS ne_a_bs nin0)).keep K1201 (ninS ne_a_m nin0))
    have q1206 := (q1195.keep K1201 (ninS ne_a_m nin0))
    have q1207 := (((A1185.keep K1190 (ninS (Ne.symm ne_a_bv) nin0)).keep K1193 (ninS ne_bv_bs nin0)).keep K1201 (ninS ne_bv_m nin0))
    exact W.ireturnN (t := .boolean) d_prog_30_method_5_136 rfl (by simp) (1 : Int32) rfl ⟨⟨_, rfl⟩, kc1202, Or.inr ⟨hq, q1203, q1204, q1205, q1206, q1207⟩⟩ (by decide) (by decide)
def own_h3 (x0 x1 x2 : Int32) : Int32 := ((((((31 : Int32) * (((31 : Int32) * ((31 : Int32) + x0)) + x1)) + x2) ^^^ (((((31 : Int32) * (((31 : Int32) * ((31 : Int32) + x0)) + x1)) + x2).toUInt32 >>> ((16 : Int32) &&& 31).toUInt32).toInt32)) * (-2048144789 : Int32)) ^^^ (((((((31 : Int32) * (((31 : Int32) * ((31 : Int32) + x0)) + x1)) + x2) ^^^ (((((31 : Int32) * (((31 : Int32) * ((31 : Int32) + x0)) + x1)) + x2).toUInt32 >>> ((16 : Int32) &&& 31).toUInt32).toInt32)) * (-2048144789 : Int32)).toUInt32 >>> ((13 : Int32) &&& 31).toUInt32).toInt32))
set_option maxRecDepth 65536 in
set_option maxHeartbeats 40000000 in
theorem c_h3 (l : Launch) (Z : State) (a0 : Array Value) (hw : ∀ d ∈ tables_1, d.before a0 Z = true) (t : Addr) (x0 x1 x2 : Int32) (h : Heap) (n0 : Nat) (hn : n0 ≤ h.size) (A : Ary Z h t .int [(.int x0), (.int x1), (.int x2)]) : Con l Z (⟨"com/example/pathweave/pathweave/eval/Relation", "hash", "([III)I"⟩ : MethodName) prog_30_method_11_code 5 (some .int) ({ frames := 0, cells := 0, slots := 0, locals := 0 } : Room) #[(.ref t), (.int (0 : Int32)), (.int (3 : Int32))] h n0 (fun r h' => r = some (.int (own_h3 x0 x1 x2)) ∧ h' = h) := by
  refine ConW.of_W (Ls := #[.val (.ref t), .val (.int (0 : Int32)), .val (.int (3 : Int32)), .unset, .unset]) (plainFor_of_name pn_1) hn (fun m => by first | (simp [entryFrame, mkF, argsToLocals, Value.category]; done) | rfl) ?_
  refine W.iconst 1 d_prog_30_method_11_0 rfl (1 : Int32) rfl ?_
  refine W.istoreN 2 d_prog_30_method_11_1 rfl #[.val (.ref t), .val (.int (0 : Int32)), .val (.int (3 : Int32)), .val (.int (1 : Int32)), .unset] rfl ?_
  refine W.iloadN 3 d_prog_30_method_11_2 rfl rfl ?_
  refine W.istore 5 d_prog_30_method_11_3 rfl #[.val (.ref t), .val (.int (0 : Int32)), .val (.int (3 : Int32)), .val (.int (1 : Int32)), .val (.int (0 : Int32))] rfl ?_
  refine W.iload 7 d_prog_30_method_11_5 rfl rfl ?_
  refine W.iloadN 8 d_prog_30_method_11_7 rfl rfl ?_
  refine W.iloadN 9 d_prog_30_method_11_8 rfl rfl ?_
  refine W.iadd 10 d_prog_30_method_11_9 rfl (3 : Int32) (by decide) ?_
  refine W.icmp_ge 29 13 d_prog_30_method_11_10 rfl rfl (fun hc => absurd (by decide) hc) (fun _ => ?_)
  refine W.bipush 15 d_prog_30_method_11_13 rfl (31 : Int32) rfl ?_
  refine W.iloadN 16 d_prog_30_method_11_15 rfl rfl ?_
  refine W.imul 17 d_prog_30_method_11_16 rfl (31 : Int32) (by decide) ?_
  refine W.aloadN 18 d_prog_30_method_11_17 rfl rfl rfl ?_
  refine W.iload 20 d_prog_30_method_11_18 rfl rfl ?_
  refine W.iaload 21 d_prog_30_method_11_20 rfl A 0 (by decide) (by decide) (.int x0) rfl ?_
  refine W.iadd 22 d_prog_30_method_11_21 rfl ((31 : Int32) + x0) rfl ?_
  refine W.istoreN 23 d_prog_30_method_11_22 rfl #[.val (.ref t), .val (.int (0 : Int32)), .val (.int (3 : Int32)), .val (.int ((31 : Int32) + x0)), .val (.int (0 : Int32))] rfl ?_
  refine W.iinc 26 d_prog_30_method_11_23 rfl rfl (1 : Int32) (by decide) #[.val (.ref t), .val (.int (0 : Int32)), .val (.int (3 : Int32)), .val (.int ((31 : Int32) + x0)), .val (.int (1 : Int32))] rfl ?_
  refine W.goto 5 d_prog_30_method_11_26 rfl ?_
  refine W.iload 7 d_prog_30_method_11_5 rfl rfl ?_
  refine W.iloadN 8 d_prog_30_method_11_7 rfl rfl ?_
  refine W.iloadN 9 d_prog_30_method_11_8 rfl rfl ?_
  refine W.iadd 10 d_prog_30_method_11_9 rfl (3 : Int32) (by decide) ?_
  refine W.icmp_ge 29 13 d_prog_30_method_11_10 rfl rfl (fun hc => absurd (by decide) hc) (fun _ => ?_)
  refine W.bipush 15 d_prog_30_method_11_13 rfl (31 : Int32) rfl ?_
  refine W.iloadN 16 d_prog_30_method_11_15 rfl rfl ?_
  refine W.imul 17 d_prog_30_method_11_16 rfl ((31 : Int32) * ((31 : Int32) + x0)) rfl ?_
  refine W.aloadN 18 d_prog_30_method_11_17 rfl rfl rfl ?_
  refine W.iload 20 d_prog_30_method_11_18 rfl rfl ?_
  refine W.iaload 21 d_prog_30_method_11_20 rfl A 1 (by decide) (by decide) (.int x1) rfl ?_
  refine W.iadd 22 d_prog_30_method_11_21 rfl (((31 : Int32) * ((31 : Int32) + x0)) + x1) rfl ?_
  refine W.istoreN 23 d_prog_30_method_11_22 rfl #[.val (.ref t), .val (.int (0 : Int32)), .val (.int (3 : Int32)), .val (.int (((31 : Int32) * ((31 : Int32) + x0)) + x1)), .val (.int (1 : Int32))] rfl ?_
  refine W.iinc 26 d_prog_30_method_11_23 rfl rfl (2 : Int32) (by decide) #[.val (.ref t), .val (.int (0 : Int32)), .val (.int (3 : Int32)), .val (.int (((31 : Int32) * ((31 : Int32) + x0)) + x1)), .val (.int (2 : Int32))] rfl ?_
  refine W.goto 5 d_prog_30_method_11_26 rfl ?_
  refine W.iload 7 d_prog_30_method_11_5 rfl rfl ?_
  refine W.iloadN 8 d_prog_30_method_11_7 rfl rfl ?_
  refine W.iloadN 9 d_prog_30_method_11_8 rfl rfl ?_
  refine W.iadd 10 d_prog_30_method_11_9 rfl (3 : Int32) (by decide) ?_
  refine W.icmp_ge 29 13 d_prog_30_method_11_10 rfl rfl (fun hc => absurd (by decide) hc) (fun _ => ?_)
  refine W.bipush 15 d_prog_30_method_11_13 rfl (31 : Int32) rfl ?_
  refine W.iloadN 16 d_prog_30_method_11_15 rfl rfl ?_
  refine W.imul 17 d_prog_30_method_11_16 rfl ((31 : Int32) * (((31 : Int32) * ((31 : Int32) + x0)) + x1)) rfl ?_
  refine W.aloadN 18 d_prog_30_method_11_17 rfl rfl rfl ?_
  refine W.iload 20 d_prog_30_method_11_18 rfl rfl ?_
  refine W.iaload 21 d_prog_30_method_11_20 rfl A 2 (by decide) (by decide) (.int x2) rfl ?_
  refine W.iadd 22 d_prog_30_method_11_21 rfl (((31 : Int32) * (((31 : Int32) * ((31 : Int32) + x0)) + x1)) + x2) rfl ?_
  refine W.istoreN 23 d_prog_30_method_11_22 rfl #[.val (.ref t), .val (.int (0 : Int32)), .val (.int (3 : Int32)), .val (.int (((31 : Int32) * (((31 : Int32) * ((31 : Int32) + x0)) + x1)) + x2)), .val (.int (2 : Int32))] rfl ?_
  refine W.iinc 26 d_prog_30_method_11_23 rfl rfl (3 : Int32) (by decide) #[.val (.ref t), .val (.int (0 : Int32)), .val (.int (3 : Int32)), .val (.int (((31 : Int32) * (((31 : Int32) * ((31 : Int32) + x0)) + x1)) + x2)), .val (.int (3 : Int32))] rfl ?_
  refine W.goto 5 d_prog_30_method_11_26 rfl ?_
  refine W.iload 7 d_prog_30_method_11_5 rfl rfl ?_
  refine W.iloadN 8 d_prog_30_method_11_7 rfl rfl ?_
  refine W.iloadN 9 d_prog_30_method_11_8 rfl rfl ?_
  refine W.iadd 10 d_prog_30_method_11_9 rfl (3 : Int32) (by decide) ?_
  refine W.icmp_ge 29 13 d_prog_30_method_11_10 rfl rfl (fun _ => ?_) (fun hc => absurd hc (by decide))
  refine W.iloadN 30 d_prog_30_method_11_29 rfl rfl ?_
  refine W.iloadN 31 d_prog_30_method_11_30 rfl rfl ?_
  refine W.bipush 33 d_prog_30_method_11_31 rfl (16 : Int32) rfl ?_
  refine W.iushr 34 d_prog_30_method_11_33 rfl (((((31 : Int32) * (((31 : Int32) * ((31 : Int32) + x0)) + x1)) + x2).toUInt32 >>> ((16 : Int32) &&& 31).toUInt32).toInt32) rfl ?_
  refine W.ixor 35 d_prog_30_method_11_34 rfl ((((31 : Int32) * (((31 : Int32) * ((31 : Int32) + x0)) + x1)) + x2) ^^^ (((((31 : Int32) * (((31 : Int32) * ((31 : Int32) + x0)) + x1)) + x2).toUInt32 >>> ((16 : Int32) &&& 31).toUInt32).toInt32)) rfl ?_
  refine W.istoreN 36 d_prog_30_method_11_35 rfl #[.val (.ref t), .val (.int (0 : Int32)), .val (.int (3 : Int32)), .val (.int ((((31 : Int32) * (((31 : Int32) * ((31 : Int32) + x0)) + x1)) + x2) ^^^ (((((31 : Int32) * (((31 : Int32) * ((31 : Int32) + x0)) + x1)) + x2).toUInt32 >>> ((16 : Int32) &&& 31).toUInt32).toInt32))), .val (.int (3 : Int32))] rfl ?_
  refine W.iloadN 37 d_prog_30_method_11_36 rfl rfl ?_
  refine W.ldcI 39 d_prog_30_method_11_37 rfl (wd_54 hw) ?_
  refine W.imul 40 d_prog_30_method_11_39 rfl (((((31 : Int32) * (((31 : Int32) * ((31 : Int32) + x0)) + x1)) + x2) ^^^ (((((31 : Int32) * (((31 : Int32) * ((31 : Int32) + x0)) + x1)) + x2).toUInt32 >>> ((16 : Int32) &&& 31).toUInt32).toInt32)) * (-2048144789 : Int32)) rfl ?_
  refine W.istoreN 41 d_prog_30_method_11_40 rfl #[.val (.ref t), .val (.int (0 : Int32)), .val (.int (3 : Int32)), .val (.int (((((31 : Int32) * (((31 : Int32) * ((31 : Int32) + x0)) + x1)) + x2) ^^^ (((((31 : Int32) * (((31 : Int32) * ((31 : Int32) + x0)) + x1)) + x2).toUInt32 >>> ((16 : Int32) &&& 31).toUInt32).toInt32)) * (-2048144789 : Int32))), .val (.int (3 : Int32))] rfl ?_
  refine W.iloadN 42 d_prog_30_method_11_41 rfl rfl ?_
  refine W.iloadN 43 d_prog_30_method_11_42 rfl rfl ?_
  refine W.bipush 45 d_prog_30_method_11_43 rfl (13 : Int32) rfl ?_
  refine W.iushr 46 d_prog_30_method_11_45 rfl (((((((31 : Int32) * (((31 : Int32) * ((31 : Int32) + x0)) + x1)) + x2) ^^^ (((((31 : Int32) * (((31 : Int32) * ((31 : Int32) + x0)) + x1)) + x2).toUInt32 >>> ((16 : Int32) &&& 31).toUInt32).toInt32)) * (-2048144789 : Int32)).toUInt32 >>> ((13 : Int32) &&& 31).toUInt32).toInt32) rfl ?_
  refine W.ixor 47 d_prog_30_method_11_46 rfl ((((((31 : Int32) * (((31 : Int32) * ((31 : Int32) + x0)) + x1)) + x2) ^^^ (((((31 : Int32) * (((31 : Int32) * ((31 : Int32) + x0)) + x1)) + x2).toUInt32 >>> ((16 : Int32) &&& 31).toUInt32).toInt32)) * (-2048144789 : Int32)) ^^^ (((((((31 : Int32) * (((31 : Int32) * ((31 : Int32) + x0)) + x1)) + x2) ^^^ (((((31 : Int32) * (((31 : Int32) * ((31 : Int32) + x0)) + x1)) + x2).toUInt32 >>> ((16 : Int32) &&& 31).toUInt32).toInt32)) * (-2048144789 : Int32)).toUInt32 >>> ((13 : Int32) &&& 31).toUInt32).toInt32)) rfl ?_
  exact W.ireturn d_prog_30_method_11_47 rfl ⟨rfl, rfl⟩ (by decide) (by decide)
set_option maxRecDepth 65536 in
set_option maxHeartbeats 40000000 in
theorem c_sm3 (l : Launch) (Z : State) (a0 : Array Value) (hw : ∀ d ∈ tables_1, d.before a0 Z = true) (a bv t : Addr) (x0 x1 x2 y0 y1 y2 : Int32) (h : Heap) (n0 : Nat) (hn : n0 ≤ h.size) (F1 : Fld Z h a "com/example/pathweave/pathweave/eval/Relation" "values" "[I" (.ref bv)) (F4 : Fld Z h a "com/example/pathweave/pathweave/eval/Relation" "arity" "I" (.int (3 : Int32))) (A1 : Ary Z h bv .int [(.int x0), (.int x1), (.int x2), (.int (0 : Int32)), (.int (0 : Int32)), (.int (0 : Int32)), (.int (0 : Int32)), (.int (0 : Int32)), (.int (0 : Int32)), (.int (0 : Int32)), (.int (0 : Int32)), (.int (0 : Int32)), (.int (0 : Int32)), (.int (0 : Int32)), (.int (0 : Int32)), (.int (0 : Int32))]) (A : Ary Z h t .int [(.int y0), (.int y1), (.int y2)]) : Con l Z (⟨"com/example/pathweave/pathweave/eval/Relation", "same", "(I[I)Z"⟩ : MethodName) prog_30_method_7_code 4 (some .boolean) ({ frames := 0, cells := 0, slots := 0, locals := 0 } : Room) #[(.ref a), (.int (0 : Int32)), (.ref t)] h n0 (fun r h' => r = some (.int (if x0 = y0 ∧ x1 = y1 ∧ x2 = y2 then 1 else 0)) ∧ h' = h) := by
  refine ConW.of_W (Ls := #[.val (.ref a), .val (.int (0 : Int32)), .val (.ref t), .unset]) (plainFor_of_name pn_1) hn (fun m => by first | (simp [entryFrame, mkF, argsToLocals, Value.category]; done) | rfl) ?_
  refine W.iconst 1 d_prog_30_method_7_0 rfl (0 : Int32) rfl ?_
  refine W.istoreN 2 d_prog_30_method_7_1 rfl #[.val (.ref a), .val (.int (0 : Int32)), .val (.ref t), .val (.int (0 : Int32))] rfl ?_
  refine W.iloadN 3 d_prog_30_method_7_2 rfl rfl ?_
  refine W.aloadN 4 d_prog_30_method_7_3 rfl rfl rfl ?_
  refine W.getfield 7 d_prog_30_method_7_4 rfl (host := "") (Or.inl (wd_40 hw)) Via.refl F4 ?_
  refine W.icmp_ge 37 10 d_prog_30_method_7_7 rfl rfl (fun hc => absurd (by decide) hc) (fun _ => ?_)
  refine W.aloadN 11 d_prog_30_method_7_10 rfl rfl rfl ?_
  refine W.getfield 14 d_prog_30_method_7_11 rfl (host := "") (Or.inl (wd_11 hw)) Via.refl F1 ?_
  refine W.iloadN 15 d_prog_30_method_7_14 rfl rfl ?_
  refine W.aloadN 16 d_prog_30_method_7_15 rfl rfl rfl ?_
  refine W.getfield 19 d_prog_30_method_7_16 rfl (host := "") (Or.inl (wd_40 hw)) Via.refl F4 ?_
  refine W.imul 20 d_prog_30_method_7_19 rfl (0 : Int32) (by decide) ?_
  refine W.iloadN 21 d_prog_30_method_7_20 rfl rfl ?_
  refine W.iadd 22 d_prog_30_method_7_21 rfl (0 : Int32) (by decide) ?_
  refine W.iaload 23 d_prog_30_method_7_22 rfl A1 0 (by decide) (by decide) (.int x0) rfl ?_
  refine W.aloadN 24 d_prog_30_method_7_23 rfl rfl rfl ?_
  refine W.iloadN 25 d_prog_30_method_7_24 rfl rfl ?_
  refine W.iaload 26 d_prog_30_method_7_25 rfl A 0 (by decide) (by decide) (.int y0) rfl ?_
  refine W.icmp_eq 31 29 d_prog_30_method_7_26 rfl rfl ?_ ?_
  · intro hc1208
    refine W.iinc 34 d_prog_30_method_7_31 rfl rfl (1 : Int32) (by decide) #[.val (.ref a), .val (.int (0 : Int32)), .val (.ref t), .val (.int (1 : Int32))] rfl ?_
    refine W.goto 2 d_prog_30_method_7_34 rfl ?_
    refine W.iloadN 3 d_prog_30_method_7_2 rfl rfl ?_
    refine W.aloadN 4 d_prog_30_method_7_3 rfl rfl rfl ?_
    refine W.getfield 7 d_prog_30_method_7_4 rfl (host := "") (Or.inl (wd_40 hw)) Via.refl F4 ?_
    refine W.icmp_ge 37 10 d_prog_30_method_7_7 rfl rfl (fun hc => absurd (by decide) hc) (fun _ => ?_)
    refine W.aloadN 11 d_prog_30_method_7_10 rfl rfl rfl ?_
    refine W.getfield 14 d_prog_30_method_7_11 rfl (host := "") (Or.inl (wd_11 hw)) Via.refl F1 ?_
    refine W.iloadN 15 d_prog_30_method_7_14 rfl rfl ?_
    refine W.aloadN 16 d_prog_30_method_7_15 rfl rfl rfl ?_
    refine W.getfield 19 d_prog_30_method_7_16 rfl (host := "") (Or.inl (wd_40 hw)) Via.refl F4 ?_
    refine W.imul 20 d_prog_30_method_7_19 rfl (0 : Int32) (by decide) ?_
    refine W.iloadN 21 d_prog_30_method_7_20 rfl rfl ?_
    refine W.iadd 22 d_prog_30_method_7_21 rfl (1 : Int32) (by decide) ?_
    refine W.iaload 23 d_prog_30_method_7_22 rfl A1 1 (by decide) (by decide) (.int x1) rfl ?_
    refine W.aloadN 24 d_prog_30_method_7_23 rfl rfl rfl ?_
    refine W.iloadN 25 d_prog_30_method_7_24 rfl rfl ?_
    refine W.iaload 26 d_prog_30_method_7_25 rfl A 1 (by decide) (by decide) (.int y1) rfl ?_
    refine W.icmp_eq 31 29 d_prog_30_method_7_26 rfl rfl ?_ ?_
    · intro hc1209
      refine W.iinc 34 d_prog_30_method_7_31 rfl rfl (2 : Int32) (by decide) #[.val (.ref a), .val (.int (0 : Int32)), .val (.ref t), .val (.int (2 : Int32))] rfl ?_
      refine W.goto 2 d_prog_30_method_7_34 rfl ?_
      refine W.iloadN 3 d_prog_30_method_7_2 rfl rfl ?_
      refine W.aloadN 4 d_prog_30_method_7_3 rfl rfl rfl ?_
      refine W.getfield 7 d_prog_30_method_7_4 rfl (host := "") (Or.inl (wd_40 hw)) Via.refl F4 ?_
      refine W.icmp_ge 37 10 d_prog_30_method_7_7 rfl rfl (fun hc => absurd (by decide) hc) (fun _ => ?_)
      refine W.aloadN 11 d_prog_30_method_7_10 rfl rfl rfl ?_
      refine W.getfield 14 d_prog_30_method_7_11 rfl (host := "") (Or.inl (wd_11 hw)) Via.refl F1 ?_
      refine W.iloadN 15 d_prog_30_method_7_14 rfl rfl ?_
      refine W.aloadN 16 d_prog_30_method_7_15 rfl rfl rfl ?_
      refine W.getfield 19 d_prog_30_method_7_16 rfl (host := "") (Or.inl (wd_40 hw)) Via.refl F4 ?_
      refine W.imul 20 d_prog_30_method_7_19 rfl (0 : Int32) (by decide) ?_
      refine W.iloadN 21 d_prog_30_method_7_20 rfl rfl ?_
      refine W.iadd 22 d_prog_30_method_7_21 rfl (2 : Int32) (by decide) ?_
      refine W.iaload 23 d_prog_30_method_7_22 rfl A1 2 (by decide) (by decide) (.int x2) rfl ?_
      refine W.aloadN 24 d_prog_30_method_7_23 rfl rfl rfl ?_
      refine W.iloadN 25 d_prog_30_method_7_24 rfl rfl ?_
      refine W.iaload 26 d_prog_30_method_7_25 rfl A 2 (by decide) (by decide) (.int y2) rfl ?_
      refine W.icmp_eq 31 29 d_prog_30_method_7_26 rfl rfl ?_ ?_
      · intro hc1210
        refine W.iinc 34 d_prog_30_method_7_31 rfl rfl (3 : Int32) (by decide) #[.val (.ref a), .val (.int (0 : Int32)), .val (.ref t), .val (.int (3 : Int32))] rfl ?_
        refine W.goto 2 d_prog_30_method_7_34 rfl ?_
        refine W.iloadN 3 d_prog_30_method_7_2 rfl rfl ?_
        refine W.aloadN 4 d_prog_30_method_7_3 rfl rfl rfl ?_
        refine W.getfield 7 d_prog_30_method_7_4 rfl (host := "") (Or.inl (wd_40 hw)) Via.refl F4 ?_
        refine W.icmp_ge 37 10 d_prog_30_method_7_7 rfl rfl (fun _ => ?_) (fun hc => absurd hc (by decide))
        refine W.iconst 38 d_prog_30_method_7_37 rfl (1 : Int32) rfl ?_
        exact W.ireturnN (t := .boolean) d_prog_30_method_7_38 rfl (by simp) (1 : Int32) rfl ⟨by simp [hc1208, hc1209, hc1210], rfl⟩ (by decide) (by decide)
      · intro hc1210
        refine W.iconst 30 d_prog_30_method_7_29 rfl (0 : Int32) rfl ?_
        exact W.ireturnN (t := .boolean) d_prog_30_method_7_30 rfl (by simp) (0 : Int32) rfl ⟨by simp [hc1208, hc1209, hc1210], rfl⟩ (by decide) (by decide)
    · intro hc1209
      refine W.iconst 30 d_prog_30_method_7_29 rfl (0 : Int32) rfl ?_
      exact W.ireturnN (t := .boolean) d_prog_30_method_7_30 rfl (by simp) (0 : Int32) rfl ⟨by simp [hc1208, hc1209], rfl⟩ (by decide) (by decide)
  · intro hc1208
    refine W.iconst 30 d_prog_30_method_7_29 rfl (0 : Int32) rfl ?_
    exact W.ireturnN (t := .boolean) d_prog_30_method_7_30 rfl (by simp) (0 : Int32) rfl ⟨by simp [hc1208], rfl⟩ (by decide) (by decide)
set_option maxRecDepth 65536 in
set_option maxHeartbeats 40000000 in
theorem c_f0_3 (l : Launch) (Z : State) (a0 : Array Value) (hw : ∀ d ∈ tables_1, d.before a0 Z = true) (a bs t : Addr) (x0 x1 x2 : Int32) (h : Heap) (n0 : Nat) (hn : n0 ≤ h.size) (E : Exa Z h a "com/example/pathweave/pathweave/eval/Relation") (F2 : Fld Z h a "com/example/pathweave/pathweave/eval/Relation" "slots" "[I" (.ref bs)) (F4 : Fld Z h a "com/example/pathweave/pathweave/eval/Relation" "arity" "I" (.int (3 : Int32))) (A2 : Ary Z h bs .int (List.replicate 16 (.int (-1 : Int32)))) (A : Ary Z h t .int [(.int x0), (.int x1), (.int x2)]) : Con l Z (⟨"com/example/pathweave/pathweave/eval/Relation", "find", "([I)I"⟩ : MethodName) prog_30_method_6_code 4 (some .int) ({ frames := 1, cells := 0, slots := 0, locals := 20 } : Room) #[(.ref a), (.ref t)] h n0 (fun r h' => r = some (.int ((own_h3 x0 x1 x2) &&& (15 : Int32))) ∧ h' = h) := by
  refine ConW.of_W (Ls := #[.val (.ref a), .val (.ref t), .unset, .unset]) (plainFor_of_name pn_1) hn (fun m => by first | (simp [entryFrame, mkF, argsToLocals, Value.category]; done) | rfl) ?_
  refine W.aloadN 1 d_prog_30_method_6_0 rfl rfl rfl ?_
  refine W.getfield 4 d_prog_30_method_6_1 rfl (host := "") (Or.inl (wd_20 hw)) Via.refl F2 ?_
  refine W.arraylength 5 d_prog_30_method_6_4 rfl A2 (16 : Int32) rfl ?_
  refine W.iconst 6 d_prog_30_method_6_5 rfl (1 : Int32) rfl ?_
  refine W.isub 7 d_prog_30_method_6_6 rfl (15 : Int32) (by decide) ?_
  refine W.istoreN 8 d_prog_30_method_6_7 rfl #[.val (.ref a), .val (.ref t), .val (.int (15 : Int32)), .unset] rfl ?_
  refine W.aloadN 9 d_prog_30_method_6_8 rfl rfl rfl ?_
  refine W.iconst 10 d_prog_30_method_6_9 rfl (0 : Int32) rfl ?_
  refine W.aloadN 11 d_prog_30_method_6_10 rfl rfl rfl ?_
  refine W.getfield 14 d_prog_30_method_6_11 rfl (host := "") (Or.inl (wd_40 hw)) Via.refl F4 ?_
  refine W.callS (rest := []) (argsL := [(.ref t), (.int (0 : Int32)), (.int (3 : Int32))]) 17 d_prog_30_method_6_14 rfl (fun hn => c_h3 l Z a0 hw t x0 x1 x2 _ n0 hn A) (wd_51 hw) (wd_52 hw) (wd_3 hw) (wd_53 hw) (by decide) pd_3 rfl rfl rfl (by decide) 0 (Nat.le_of_ble_eq_true rfl) (by decide) (by decide) (by decide) ?_
  rintro v1211 h1211 ⟨rfl, rfl⟩
  show W _ _ _ _ _ _ _ _ _ _ _ 0 0 17 #[.val (.ref a), .val (.ref t), .val (.int (15 : Int32)), .unset] [(.int (own_h3 x0 x1 x2))]
  refine W.iloadN 18 d_prog_30_method_6_17 rfl rfl ?_
  refine W.iand 19 d_prog_30_method_6_18 rfl ((own_h3 x0 x1 x2) &&& (15 : Int32)) rfl ?_
  refine W.istoreN 20 d_prog_30_method_6_19 rfl #[.val (.ref a), .val (.ref t), .val (.int (15 : Int32)), .val (.int ((own_h3 x0 x1 x2) &&& (15 : Int32)))] rfl ?_
  refine W.aloadN 21 d_prog_30_method_6_20 rfl rfl rfl ?_
  refine W.getfield 24 d_prog_30_method_6_21 rfl (host := "") (Or.inl (wd_20 hw)) Via.refl F2 ?_
  refine W.iloadN 25 d_prog_30_method_6_24 rfl rfl ?_
  refine W.iaload 26 d_prog_30_method_6_25 rfl A2 (((own_h3 x0 x1 x2) &&& (15 : Int32))).toNatClampNeg rfl (own_i15 _).1 (.int (-1 : Int32)) (own_s0 (own_i15 _).2) ?_
  refine W.iconst 27 d_prog_30_method_6_26 rfl (-1 : Int32) rfl ?_
  refine W.icmp_eq 53 30 d_prog_30_method_6_27 rfl rfl (fun _ => ?_) (fun hc => absurd (by decide) hc)
  refine W.iloadN 54 d_prog_30_method_6_53 rfl rfl ?_
  exact W.ireturn d_prog_30_method_6_54 rfl ⟨rfl, rfl⟩ (by decide) (by decide)
set_option maxRecDepth 65536 in
set_option maxHeartbeats 40000000 in
theorem c_f1_3 (l : Launch) (Z : State) (a0 : Array Value) (hw : ∀ d ∈ tables_1, d.before a0 Z = true) (a bv bs t : Addr) (x0 x1 x2 y0 y1 y2 : Int32) (h : Heap) (n0 : Nat) (hn : n0 ≤ h.size) (E : Exa Z h a "com/example/pathweave/pathweave/eval/Relation") (F1 : Fld Z h a "com/example/pathweave/pathweave/eval/Relation" "values" "[I" (.ref bv)) (F2 : Fld Z h a "com/example/pathweave/pathweave/eval/Relation" "slots" "[I" (.ref bs)) (F4 : Fld Z h a "com/example/pathweave/pathweave/eval/Relation" "arity" "I" (.int (3 : Int32))) (A1 : Ary Z h bv .int [(.int x0), (.int x1), (.int x2), (.int (0 : Int32)), (.int (0 : Int32)), (.int (0 : Int32)), (.int (0 : Int32)), (.int (0 : Int32)), (.int (0 : Int32)), (.int (0 : Int32)), (.int (0 : Int32)), (.int (0 : Int32)), (.int (0 : Int32)), (.int (0 : Int32)), (.int (0 : Int32)), (.int (0 : Int32))]) (A2 : Ary Z h bs .int ((List.replicate 16 (.int (-1 : Int32))).set (((own_h3 x0 x1 x2) &&& (15 : Int32))).toNatClampNeg (.int (0 : Int32)))) (A : Ary Z h t .int [(.int y0), (.int y1), (.int y2)]) : Con l Z (⟨"com/example/pathweave/pathweave/eval/Relation", "find", "([I)I"⟩ : MethodName) prog_30_method_6_code 4 (some .int) ({ frames := 1, cells := 0, slots := 0, locals := 20 } : Room) #[(.ref a), (.ref t)] h n0 (fun r h' => (∃ j : Int32, r = some (.int j) ∧ (((x0 = y0 ∧ x1 = y1 ∧ x2 = y2) ∧ j.toNatClampNeg = (((own_h3 x0 x1 x2) &&& (15 : Int32))).toNatClampNeg) ∨ (¬ (x0 = y0 ∧ x1 = y1 ∧ x2 = y2) ∧ j.toNatClampNeg ≠ (((own_h3 x0 x1 x2) &&& (15 : Int32))).toNatClampNeg)) ∧ ¬ j < 0 ∧ j.toNatClampNeg < 16) ∧ h' = h) := by
  by_cases hs : (((own_h3 y0 y1 y2) &&& (15 : Int32))).toNatClampNeg = (((own_h3 x0 x1 x2) &&& (15 : Int32))).toNatClampNeg
  · refine ConW.of_W (Ls := #[.val (.ref a), .val (.ref t), .unset, .unset]) (plainFor_of_name pn_1) hn (fun m => by first | (simp [entryFrame, mkF, argsToLocals, Value.category]; done) | rfl) ?_
    refine W.aloadN 1 d_prog_30_method_6_0 rfl rfl rfl ?_
    refine W.getfield 4 d_prog_30_method_6_1 rfl (host := "") (Or.inl (wd_20 hw)) Via.refl F2 ?_
    refine W.arraylength 5 d_prog_30_method_6_4 rfl A2 (16 : Int32) (by rw [own_l1]; rfl) ?_
    refine W.iconst 6 d_prog_30_method_6_5 rfl (1 : Int32) rfl ?_
    refine W.isub 7 d_prog_30_method_6_6 rfl (15 : Int32) (by decide) ?_
    refine W.istoreN 8 d_prog_30_method_6_7 rfl #[.val (.ref a), .val (.ref t), .val (.int (15 : Int32)), .unset] rfl ?_
    refine W.aloadN 9 d_prog_30_method_6_8 rfl rfl rfl ?_
    refine W.iconst 10 d_prog_30_method_6_9 rfl (0 : Int32) rfl ?_
    refine W.aloadN 11 d_prog_30_method_6_10 rfl rfl rfl ?_
    refine W.getfield 14 d_prog_30_method_6_11 rfl (host := "") (Or.inl (wd_40 hw)) Via.refl F4 ?_
    refine W.callS (rest := []) (argsL := [(.ref t), (.int (0 : Int32)), (.int (3 : Int32))]) 17 d_prog_30_method_6_14 rfl (fun hn => c_h3 l Z a0 hw t y0 y1 y2 _ n0 hn A) (wd_51 hw) (wd_52 hw) (wd_3 hw) (wd_53 hw) (by decide) pd_3 rfl rfl rfl (by decide) 0 (Nat.le_of_ble_eq_true rfl) (by decide) (by decide) (by decide) ?_
    rintro v1212 h1212 ⟨rfl, rfl⟩
    show W _ _ _ _ _ _ _ _ _ _ _ 0 0 17 #[.val (.ref a), .val (.ref t), .val (.int (15 : Int32)), .unset] [(.int (own_h3 y0 y1 y2))]
    refine W.iloadN 18 d_prog_30_method_6_17 rfl rfl ?_
    refine W.iand 19 d_prog_30_method_6_18 rfl ((own_h3 y0 y1 y2) &&& (15 : Int32)) rfl ?_
    refine W.istoreN 20 d_prog_30_method_6_19 rfl #[.val (.ref a), .val (.ref t), .val (.int (15 : Int32)), .val (.int ((own_h3 y0 y1 y2) &&& (15 : Int32)))] rfl ?_
    refine W.aloadN 21 d_prog_30_method_6_20 rfl rfl rfl ?_
    refine W.getfield 24 d_prog_30_method_6_21 rfl (host := "") (Or.inl (wd_20 hw)) Via.refl F2 ?_
    refine W.iloadN 25 d_prog_30_method_6_24 rfl rfl ?_
    refine W.iaload 26 d_prog_30_method_6_25 rfl A2 (((own_h3 y0 y1 y2) &&& (15 : Int32))).toNatClampNeg rfl (own_i15 _).1 (.int (0 : Int32)) (by rw [hs]; exact own_s1 (own_i15 _).2) ?_
    refine W.iconst 27 d_prog_30_method_6_26 rfl (-1 : Int32) rfl ?_
    refine W.icmp_eq 53 30 d_prog_30_method_6_27 rfl rfl (fun hc => absurd hc (by decide)) (fun _ => ?_)
    refine W.aloadN 31 d_prog_30_method_6_30 rfl rfl rfl ?_
    refine W.aloadN 32 d_prog_30_method_6_31 rfl rfl rfl ?_
    refine W.getfield 35 d_prog_30_method_6_32 rfl (host := "") (Or.inl (wd_20 hw)) Via.refl F2 ?_
    refine W.iloadN 36 d_prog_30_method_6_35 rfl rfl ?_
    refine W.iaload 37 d_prog_30_method_6_36 rfl A2 (((own_h3 y0 y1 y2) &&& (15 : Int32))).toNatClampNeg rfl (own_i15 _).1 (.int (0 : Int32)) (by rw [hs]; exact own_s1 (own_i15 _).2) ?_
    refine W.aloadN 38 d_prog_30_method_6_37 rfl rfl rfl ?_
    refine W.callP (rest := []) (argsL := [(.int (0 : Int32)), (.ref t)]) (a := a) 41 d_prog_30_method_6_38 rfl (fun hn => c_sm3 l Z a0 hw a bv t x0 x1 x2 y0 y1 y2 _ n0 hn F1 F4 A1 A) E (wd_84 hw) (wd_86 hw) (wd_2 hw) (wd_85 hw) (wd_3 hw) (wd_87 hw) (by decide) pd_4 rfl rfl rfl (by decide) 0 (Nat.le_of_ble_eq_true rfl) (by decide) (by decide) (by decide) ?_
    rintro v1213 h1213 ⟨rfl, rfl⟩
    show W _ _ _ _ _ _ _ _ _ _ _ 0 0 41 #[.val (.ref a), .val (.ref t), .val (.int (15 : Int32)), .val (.int ((own_h3 y0 y1 y2) &&& (15 : Int32)))] [(.int (if x0 = y0 ∧ x1 = y1 ∧ x2 = y2 then 1 else 0 : Int32))]
    refine W.if_ne 53 44 d_prog_30_method_6_41 rfl rfl ?_ ?_
    · intro hc1214
      refine W.iloadN 54 d_prog_30_method_6_53 rfl rfl ?_
      exact W.ireturn d_prog_30_method_6_54 rfl ⟨⟨_, rfl, Or.inl ⟨Classical.byContradiction fun q => hc1214 (if_neg q), hs⟩, (own_i15 _).1, (own_i15 _).2⟩, rfl⟩ (by decide) (by decide)
    · intro hc1214
      refine W.iloadN 45 d_prog_30_method_6_44 rfl rfl ?_
      refine W.iconst 46 d_prog_30_method_6_45 rfl (1 : Int32) rfl ?_
      refine W.iadd 47 d_prog_30_method_6_46 rfl (((own_h3 y0 y1 y2) &&& (15 : Int32)) + (1 : Int32)) rfl ?_
      refine W.iloadN 48 d_prog_30_method_6_47 rfl rfl ?_
      refine W.iand 49 d_prog_30_method_6_48 rfl ((((own_h3 y0 y1 y2) &&& (15 : Int32)) + (1 : Int32)) &&& (15 : Int32)) rfl ?_
      refine W.istoreN 50 d_prog_30_method_6_49 rfl #[.val (.ref a), .val (.ref t), .val (.int (15 : Int32)), .val (.int ((((own_h3 y0 y1 y2) &&& (15 : Int32)) + (1 : Int32)) &&& (15 : Int32)))] rfl ?_
      refine W.goto 20 d_prog_30_method_6_50 rfl ?_
      refine W.aloadN 21 d_prog_30_method_6_20 rfl rfl rfl ?_
      refine W.getfield 24 d_prog_30_method_6_21 rfl (host := "") (Or.inl (wd_20 hw)) Via.refl F2 ?_
      refine W.iloadN 25 d_prog_30_method_6_24 rfl rfl ?_
      refine W.iaload 26 d_prog_30_method_6_25 rfl A2 (((((own_h3 y0 y1 y2) &&& (15 : Int32)) + (1 : Int32)) &&& (15 : Int32))).toNatClampNeg rfl (own_i15 _).1 (.int (-1 : Int32)) (own_s2 (own_i15 _).2 (by rw [← hs]; exact own_next _)) ?_
      refine W.iconst 27 d_prog_30_method_6_26 rfl (-1 : Int32) rfl ?_
      refine W.icmp_eq 53 30 d_prog_30_method_6_27 rfl rfl (fun _ => ?_) (fun hc => absurd (by decide) hc)
      refine W.iloadN 54 d_prog_30_method_6_53 rfl rfl ?_
      exact W.ireturn d_prog_30_method_6_54 rfl ⟨⟨_, rfl, Or.inr ⟨fun q => absurd ((if_pos q).symm.trans hc1214) (by decide), by rw [← hs]; exact own_next _⟩, (own_i15 _).1, (own_i15 _).2⟩, rfl⟩ (by decide) (by decide)
  · refine ConW.of_W (Ls := #[.val (.ref a), .val (.ref t), .unset, .unset]) (plainFor_of_name pn_1) hn (fun m => by first | (simp [entryFrame, mkF, argsToLocals, Value.category]; done) | rfl) ?_
    refine W.aloadN 1 d_prog_30_method_6_0 rfl rfl rfl ?_
    refine W.getfield 4 d_prog_30_method_6_1 rfl (host := "") (Or.inl (wd_20 hw)) Via.refl F2 ?_
    refine W.arraylength 5 d_prog_30_method_6_4 rfl A2 (16 : Int32) (by rw [own_l1]; rfl) ?_
    refine W.iconst 6 d_prog_30_method_6_5 rfl (1 : Int32) rfl ?_
    refine W.isub 7 d_prog_30_method_6_6 rfl (15 : Int32) (by decide) ?_
    refine W.istoreN 8 d_prog_30_method_6_7 rfl #[.val (.ref a), .val (.ref t), .val (.int (15 : Int32)), .unset] rfl ?_
    refine W.aloadN 9 d_prog_30_method_6_8 rfl rfl rfl ?_
    refine W.iconst 10 d_prog_30_method_6_9 rfl (0 : Int32) rfl ?_
    refine W.aloadN 11 d_prog_30_method_6_10 rfl rfl rfl ?_
    refine W.getfield 14 d_prog_30_method_6_11 rfl (host := "") (Or.inl (wd_40 hw)) Via.refl F4 ?_
    refine W.callS (rest := []) (argsL := [(.ref t), (.int (0 : Int32)), (.int (3 : Int32))]) 17 d_prog_30_method_6_14 rfl (fun hn => c_h3 l Z a0 hw t y0 y1 y2 _ n0 hn A) (wd_51 hw) (wd_52 hw) (wd_3 hw) (wd_53 hw) (by decide) pd_3 rfl rfl rfl (by decide) 0 (Nat.le_of_ble_eq_true rfl) (by decide) (by decide) (by decide) ?_
    rintro v1215 h1215 ⟨rfl, rfl⟩
    show W _ _ _ _ _ _ _ _ _ _ _ 0 0 17 #[.val (.ref a), .val (.ref t), .val (.int (15 : Int32)), .unset] [(.int (own_h3 y0 y1 y2))]
    refine W.iloadN 18 d_prog_30_method_6_17 rfl rfl ?_
    refine W.iand 19 d_prog_30_method_6_18 rfl ((own_h3 y0 y1 y2) &&& (15 : Int32)) rfl ?_
    refine W.istoreN 20 d_prog_30_method_6_19 rfl #[.val (.ref a), .val (.ref t), .val (.int (15 : Int32)), .val (.int ((own_h3 y0 y1 y2) &&& (15 : Int32)))] rfl ?_
    refine W.aloadN 21 d_prog_30_method_6_20 rfl rfl rfl ?_
    refine W.getfield 24 d_prog_30_method_6_21 rfl (host := "") (Or.inl (wd_20 hw)) Via.refl F2 ?_
    refine W.iloadN 25 d_prog_30_method_6_24 rfl rfl ?_
    refine W.iaload 26 d_prog_30_method_6_25 rfl A2 (((own_h3 y0 y1 y2) &&& (15 : Int32))).toNatClampNeg rfl (own_i15 _).1 (.int (-1 : Int32)) (own_s2 (own_i15 _).2 hs) ?_
    refine W.iconst 27 d_prog_30_method_6_26 rfl (-1 : Int32) rfl ?_
    refine W.icmp_eq 53 30 d_prog_30_method_6_27 rfl rfl (fun _ => ?_) (fun hc => absurd (by decide) hc)
    refine W.iloadN 54 d_prog_30_method_6_53 rfl rfl ?_
    exact W.ireturn d_prog_30_method_6_54 rfl ⟨⟨_, rfl, Or.inr ⟨fun q => hs (by obtain ⟨rfl, rfl, rfl⟩ := q; rfl), hs⟩, (own_i15 _).1, (own_i15 _).2⟩, rfl⟩ (by decide) (by decide)
set_option maxRecDepth 65536 in
set_option maxHeartbeats 40000000 in
theorem c_a0_3 (l : Launch) (Z : State) (a0 : Array Value) (hw : ∀ d ∈ tables_1, d.before a0 Z = true) (a bv bs m t : Addr) (x0 x1 x2 mc : Int32) (h : Heap) (n0 : Nat) (hn : n0 ≤ h.size) (ga : n0 ≤ a) (gbv : n0 ≤ bv) (gbs : n0 ≤ bs) (gm : n0 ≤ m) (ne_a_bv : a ≠ bv) (ne_a_bs : a ≠ bs) (ne_a_m : a ≠ m) (ne_a_t : a ≠ t) (ne_bv_bs : bv ≠ bs) (ne_bv_m : bv ≠ m) (ne_bv_t : bv ≠ t) (ne_bs_m : bs ≠ m) (ne_bs_t : bs ≠ t) (ne_m_t : m ≠ t) (E : Exa Z h a "com/example/pathweave/pathweave/eval/Relation") (F1 : Fld Z h a "com/example/pathweave/pathweave/eval/Relation" "values" "[I" (.ref bv)) (F2 : Fld Z h a "com/example/pathweave/pathweave/eval/Relation" "slots" "[I" (.ref bs)) (F3 : Fld Z h a "com/example/pathweave/pathweave/eval/Relation" "indexes" "Ljava/util/Map;" (.ref m)) (F4 : Fld Z h a "com/example/pathweave/pathweave/eval/Relation" "arity" "I" (.int (3 : Int32))) (F5 : Fld Z h a "com/example/pathweave/pathweave/eval/Relation" "size" "I" (.int (0 : Int32))) (A1 : Ary Z h bv .int [(.int (0 : Int32)), (.int (0 : Int32)), (.int (0 : Int32)), (.int (0 : Int32)), (.int (0 : Int32)), (.int (0 : Int32)), (.int (0 : Int32)), (.int (0 : Int32)), (.int (0 : Int32)), (.int (0 : Int32)), (.int (0 : Int32)), (.int (0 : Int32)), (.int (0 : Int32)), (.int (0 : Int32)), (.int (0 : Int32)), (.int (0 : Int32))]) (A2 : Ary Z h bs .int (List.replicate 16 (.int (-1 : Int32)))) (A : Ary Z h t .int [(.int x0), (.int x1), (.int x2)]) (E2 : Exa Z h m "java/util/HashMap") (G1 : Fld Z h m "java/util/HashMap" "modCount" "I" (.int mc)) (G2 : Fld Z h m "java/util/HashMap" "table" "[Ljava/util/HashMap$Node;" .null) : Con l Z (⟨"com/example/pathweave/pathweave/eval/Relation", "add", "([I)Z"⟩ : MethodName) prog_30_method_5_code 3 (some .boolean) ({ frames := 2, cells := 0, slots := 0, locals := 70 } : Room) #[(.ref a), (.ref t)] h n0 (fun r h' => r = some (.int 1) ∧ Keep h h' [a, bv, bs, m] ∧ (Exa Z h' a "com/example/pathweave/pathweave/eval/Relation" ∧ Fld Z h' a "com/example/pathweave/pathweave/eval/Relation" "values" "[I" (.ref bv) ∧ Fld Z h' a "com/example/pathweave/pathweave/eval/Relation" "arity" "I" (.int (3 : Int32)) ∧ Fld Z h' a "com/example/pathweave/pathweave/eval/Relation" "size" "I" (.int (1 : Int32)) ∧ Ary Z h' bv .int [(.int x0), (.int x1), (.int x2), (.int (0 : Int32)), (.int (0 : Int32)), (.int (0 : Int32)), (.int (0 : Int32)), (.int (0 : Int32)), (.int (0 : Int32)), (.int (0 : Int32)), (.int (0 : Int32)), (.int (0 : Int32)), (.int (0 : Int32)), (.int (0 : Int32)), (.int (0 : Int32)), (.int (0 : Int32))]) ∧ Fld Z h' a "com/example/pathweave/pathweave/eval/Relation" "slots" "[I" (.ref bs) ∧ Ary Z h' bs .int ((List.replicate 16 (.int (-1 : Int32))).set (((own_h3 x0 x1 x2) &&& (15 : Int32))).toNatClampNeg (.int (0 : Int32))) ∧ Fld Z h' a "com/example/pathweave/pathweave/eval/Relation" "indexes" "Ljava/util/Map;" (.ref m) ∧ Exa Z h' m "java/util/HashMap" ∧ Fld Z h' m "java/util/HashMap" "modCount" "I" (.int (mc + (1 : Int32))) ∧ Fld Z h' m "java/util/HashMap" "table" "[Ljava/util/HashMap$Node;" .null) := by
  refine ConW.of_W (Ls := #[.val (.ref a), .val (.ref t), .unset]) (plainFor_of_name pn_1) hn (fun m => by first | (simp [entryFrame, mkF, argsToLocals, Value.category]; done) | rfl) ?_
  refine W.aloadN 1 d_prog_30_method_5_0 rfl rfl rfl ?_
  refine W.aloadN 2 d_prog_30_method_5_1 rfl rfl rfl ?_
  refine W.callP (rest := []) (argsL := [(.ref t)]) (a := a) 5 d_prog_30_method_5_2 rfl (fun hn => c_f0_3 l Z a0 hw a bs t x0 x1 x2 _ n0 hn E F2 F4 A2 A) E (wd_47 hw) (wd_49 hw) (wd_2 hw) (wd_48 hw) (wd_3 hw) (wd_50 hw) (by decide) pd_5 rfl rfl rfl (by decide) 0 (Nat.le_of_ble_eq_true rfl) (by decide) (by decide) (by decide) ?_
  rintro v1216 h1216 ⟨rfl, rfl⟩
  show W _ _ _ _ _ _ _ _ _ _ _ 0 0 5 #[.val (.ref a), .val (.ref t), .unset] [(.int ((own_h3 x0 x1 x2) &&& (15 : Int32)))]
  refine W.istoreN 6 d_prog_30_method_5_5 rfl #[.val (.ref a), .val (.ref t), .val (.int ((own_h3 x0 x1 x2) &&& (15 : Int32)))] rfl ?_
  refine W.aloadN 7 d_prog_30_method_5_6 rfl rfl rfl ?_
  refine W.getfield 10 d_prog_30_method_5_7 rfl (host := "") (Or.inl (wd_20 hw)) Via.refl F2 ?_
  refine W.iloadN 11 d_prog_30_method_5_10 rfl rfl ?_
  refine W.iaload 12 d_prog_30_method_5_11 rfl A2 (((own_h3 x0 x1 x2) &&& (15 : Int32))).toNatClampNeg rfl (own_i15 _).1 (.int (-1 : Int32)) (own_s0 (own_i15 _).2) ?_
  refine W.iconst 13 d_prog_30_method_5_12 rfl (-1 : Int32) rfl ?_
  refine W.icmp_eq 18 16 d_prog_30_method_5_13 rfl rfl (fun _ => ?_) (fun hc => absurd (by decide) hc)
  refine W.aloadN 19 d_prog_30_method_5_18 rfl rfl rfl ?_
  refine W.getfield 22 d_prog_30_method_5_19 rfl (host := "") (Or.inl (wd_55 hw)) Via.refl F5 ?_
  refine W.iconst 23 d_prog_30_method_5_22 rfl (1 : Int32) rfl ?_
  refine W.iadd 24 d_prog_30_method_5_23 rfl (1 : Int32) (by decide) ?_
  refine W.aloadN 25 d_prog_30_method_5_24 rfl rfl rfl ?_
  refine W.getfield 28 d_prog_30_method_5_25 rfl (host := "") (Or.inl (wd_40 hw)) Via.refl F4 ?_
  refine W.imul 29 d_prog_30_method_5_28 rfl (3 : Int32) (by decide) ?_
  refine W.aloadN 30 d_prog_30_method_5_29 rfl rfl rfl ?_
  refine W.getfield 33 d_prog_30_method_5_30 rfl (host := "") (Or.inl (wd_11 hw)) Via.refl F1 ?_
  refine W.arraylength 34 d_prog_30_method_5_33 rfl A1 (16 : Int32) rfl ?_
  refine W.icmp_le 69 37 d_prog_30_method_5_34 rfl rfl (fun _ => ?_) (fun hc => absurd hc (by decide))
  refine W.aloadN 70 d_prog_30_method_5_69 rfl rfl rfl ?_
  refine W.iconst 71 d_prog_30_method_5_70 rfl (0 : Int32) rfl ?_
  refine W.aloadN 72 d_prog_30_method_5_71 rfl rfl rfl ?_
  refine W.getfield 75 d_prog_30_method_5_72 rfl (host := "") (Or.inl (wd_11 hw)) Via.refl F1 ?_
  refine W.aloadN 76 d_prog_30_method_5_75 rfl rfl rfl ?_
  refine W.getfield 79 d_prog_30_method_5_76 rfl (host := "") (Or.inl (wd_55 hw)) Via.refl F5 ?_
  refine W.aloadN 80 d_prog_30_method_5_79 rfl rfl rfl ?_
  refine W.getfield 83 d_prog_30_method_5_80 rfl (host := "") (Or.inl (wd_40 hw)) Via.refl F4 ?_
  refine W.imul 84 d_prog_30_method_5_83 rfl (0 : Int32) (by decide) ?_
  refine W.aloadN 85 d_prog_30_method_5_84 rfl rfl rfl ?_
  refine W.getfield 88 d_prog_30_method_5_85 rfl (host := "") (Or.inl (wd_40 hw)) Via.refl F4 ?_
  refine W.arraycopy 91 d_prog_30_method_5_88 rfl (wd_57 hw) (wd_60 hw) (wd_58 hw) (wd_59 hw) A A1 rfl 0 0 3 (by decide) (by decide) (by decide) (by decide) (by decide) (by decide) (Nat.le_of_ble_eq_true rfl) (Nat.le_of_ble_eq_true rfl) gbv rfl (by decide) 0 (Nat.le_of_ble_eq_true rfl) (by decide) ?_
  intro h1217 K1217 A1217
  have kc1218 := Keep.trans (ws := [a, bv, bs, m]) (Keep.refl _ [a, bv, bs, m]) K1217 (allS (Or.inl (List.mem_of_getElem? (i := 1) rfl)) all0)
  have A1217 : Ary _ _ bv .int [(.int x0), (.int x1), (.int x2), (.int (0 : Int32)), (.int (0 : Int32)), (.int (0 : Int32)), (.int (0 : Int32)), (.int (0 : Int32)), (.int (0 : Int32)), (.int (0 : Int32)), (.int (0 : Int32)), (.int (0 : Int32)), (.int (0 : Int32)), (.int (0 : Int32)), (.int (0 : Int32)), (.int (0 : Int32))] := A1217
  refine W.aloadN 92 d_prog_30_method_5_91 rfl rfl rfl ?_
  have q1219 := (F2.keep K1217 (ninS ne_a_bv nin0))
  refine W.getfield 95 d_prog_30_method_5_92 rfl (host := "") (Or.inl (wd_20 hw)) Via.refl q1219 ?_
  refine W.iloadN 96 d_prog_30_method_5_95 rfl rfl ?_
  refine W.aloadN 97 d_prog_30_method_5_96 rfl rfl rfl ?_
  refine W.dup 98 d_prog_30_method_5_97 rfl rfl ?_
  have q1220 := (F5.keep K1217 (ninS ne_a_bv nin0))
  refine W.getfield 101 d_prog_30_method_5_98 rfl (host := "") (Or.inl (wd_55 hw)) Via.refl q1220 ?_
  refine W.dup_x1 102 d_prog_30_method_5_101 rfl rfl rfl ?_
  refine W.iconst 103 d_prog_30_method_5_102 rfl (1 : Int32) rfl ?_
  refine W.iadd 104 d_prog_30_method_5_103 rfl (1 : Int32) (by decide) ?_
  have q1221 := (E.keep K1217)
  refine W.putfield 107 d_prog_30_method_5_104 rfl (host := "") (Or.inl (wd_55 hw)) Via.refl q1220 q1221 (Or.inl (wd_56 hw)) (wd_2 hw) (ty := .int) (by decide) rfl rfl ga ?_
  intro h1222 W1222 F1222 E1222 K1222
  have kc1223 := Keep.trans (ws := [a, bv, bs, m]) kc1218 K1222 (allS (Or.inl (List.mem_of_getElem? (i := 0) rfl)) all0)
  have q1224 := ((A2.keep K1217 (ninS (Ne.symm ne_bv_bs) nin0)).keep K1222 (ninS (Ne.symm ne_a_bs) nin0))
  refine W.iastore 108 d_prog_30_method_5_107 rfl q1224 (((own_h3 x0 x1 x2) &&& (15 : Int32))).toNatClampNeg rfl (own_i15 _).1 (own_i15 _).2 gbs ?_
  intro h1225 W1225 K1225 A1225
  have kc1226 := Keep.trans (ws := [a, bv, bs, m]) kc1223 K1225 (allS (Or.inl (List.mem_of_getElem? (i := 2) rfl)) all0)
  refine W.iconst 109 d_prog_30_method_5_108 rfl (2 : Int32) rfl ?_
  refine W.aloadN 110 d_prog_30_method_5_109 rfl rfl rfl ?_
  have q1227 := (F1222.keep K1225 (ninS ne_a_bs nin0))
  refine W.getfield 113 d_prog_30_method_5_110 rfl (host := "") (Or.inl (wd_55 hw)) Via.refl q1227 ?_
  refine W.imul 114 d_prog_30_method_5_113 rfl (2 : Int32) (by decide) ?_
  refine W.aloadN 115 d_prog_30_method_5_114 rfl rfl rfl ?_
  have q1228 := ((q1219.other W1222 (Or.inr (sne_19 hw))).keep K1225 (ninS ne_a_bs nin0))
  refine W.getfield 118 d_prog_30_method_5_115 rfl (host := "") (Or.inl (wd_20 hw)) Via.refl q1228 ?_
  refine W.arraylength 119 d_prog_30_method_5_118 rfl A1225 (16 : Int32) (by rw [own_l1]; rfl) ?_
  refine W.icmp_le 126 122 d_prog_30_method_5_119 rfl rfl (fun _ => ?_) (fun hc => absurd hc (by decide))
  refine W.aloadN 127 d_prog_30_method_5_126 rfl rfl rfl ?_
  have q1229 := (((F3.keep K1217 (ninS ne_a_bv nin0)).other W1222 (Or.inr (sne_20 hw))).keep K1225 (ninS ne_a_bs nin0))
  refine W.getfield 130 d_prog_30_method_5_127 rfl (host := "") (Or.inl (wd_38 hw)) Via.refl q1229 ?_
  have q1230 := (((E2.keep K1217).keep K1222).keep K1225)
  have q1231 := (((G1.keep K1217 (ninS (Ne.symm ne_bv_m) nin0)).keep K1222 (ninS (Ne.symm ne_a_m) nin0)).keep K1225 (ninS (Ne.symm ne_bs_m) nin0))
  have q1232 := (((G2.keep K1217 (ninS (Ne.symm ne_bv_m) nin0)).keep K1222 (ninS (Ne.symm ne_a_m) nin0)).keep K1225 (ninS (Ne.symm ne_bs_m) nin0))
  refine W.callI (rest := []) (argsL := []) (a := m) 135 d_prog_30_method_5_130 rfl (fun hn => c_clr l Z a0 hw m mc _ n0 hn gm q1230 q1231 q1232) q1230 (wd_61 hw) (wd_62 hw) (wd_63 hw) (wd_64 hw) (wd_65 hw) (wd_66 hw) (wd_67 hw) (wd_68 hw) (wd_24 hw) (wd_69 hw) (by decide) pd_1 rfl rfl rfl (by decide) 0 (Nat.le_of_ble_eq_true rfl) (by decide) (by decide) (by decide) ?_
  rintro v1233 h1233 ⟨rfl, E1233, ⟨F1233, G1233⟩, K1233⟩
  have kc1234 := Keep.trans (ws := [a, bv, bs, m]) kc1226 K1233 (allS (Or.inl (List.mem_of_getElem? (i := 3) rfl)) all0)
  show W _ _ _ _ _ _ _ _ _ _ _ 0 0 135 #[.val (.ref a), .val (.ref t), .val (.int ((own_h3 x0 x1 x2) &&& (15 : Int32)))] []
  refine W.iconst 136 d_prog_30_method_5_135 rfl (1 : Int32) rfl ?_
  have q1235 := ((E1222.keep K1225).keep K1233)
  have q1236 := ((((F1.keep K1217 (ninS ne_a_bv nin0)).other W1222 (Or.inr (sne_21 hw))).keep K1225 (ninS ne_a_bs nin0)).keep K1233 (ninS ne_a_m nin0))
  have q1237 := ((((F4.keep K1217 (ninS ne_a_bv nin0)).other W1222 (Or.inr (sne_22 hw))).keep K1225 (ninS ne_a_bs nin0)).keep K1233 (ninS ne_a_m nin0))
  have q1238 := (q1227.keep K1233 (ninS ne_a_m nin0))
  have q1239 := (((A1217.keep K1222 (ninS (Ne.symm ne_a_bv) nin0)).keep K1225 (ninS ne_bv_bs nin0)).keep K1233 (ninS ne_bv_m nin0))
  have q1240 := (q1228.keep K1233 (ninS ne_a_m nin0))
  have q1241 := (A1225.keep K1233 (ninS ne_bs_m nin0))
  have q1242 := (q1229.keep K1233 (ninS ne_a_m nin0))
  exact W.ireturnN (t := .boolean) d_prog_30_method_5_136 rfl (by simp) (1 : Int32) rfl ⟨rfl, kc1234, ⟨q1235, q1236, q1237, q1238, q1239⟩, q1240, q1241, q1242, E1233, ⟨F1233, G1233⟩⟩ (by decide) (by decide)
set_option maxRecDepth 65536 in
set_option maxHeartbeats 40000000 in
theorem c_a1_3 (l : Launch) (Z : State) (a0 : Array Value) (hw : ∀ d ∈ tables_1, d.before a0 Z = true) (a bv bs m t : Addr) (x0 x1 x2 y0 y1 y2 mc : Int32) (h : Heap) (n0 : Nat) (hn : n0 ≤ h.size) (ga : n0 ≤ a) (gbv : n0 ≤ bv) (gbs : n0 ≤ bs) (gm : n0 ≤ m) (ne_a_bv : a ≠ bv) (ne_a_bs : a ≠ bs) (ne_a_m : a ≠ m) (ne_a_t : a ≠ t) (ne_bv_bs : bv ≠ bs) (ne_bv_m : bv ≠ m) (ne_bv_t : bv ≠ t) (ne_bs_m : bs ≠ m) (ne_bs_t : bs ≠ t) (ne_m_t : m ≠ t) (E : Exa Z h a "com/example/pathweave/pathweave/eval/Relation") (F1 : Fld Z h a "com/example/pathweave/pathweave/eval/Relation" "values" "[I" (.ref bv)) (F2 : Fld Z h a "com/example/pathweave/pathweave/eval/Relation" "slots" "[I" (.ref bs)) (F3 : Fld Z h a "com/example/pathweave/pathweave/eval/Relation" "indexes" "Ljava/util/Map;" (.ref m)) (F4 : Fld Z h a "com/example/pathweave/pathweave/eval/Relation" "arity" "I" (.int (3 : Int32))) (F5 : Fld Z h a "com/example/pathweave/pathweave/eval/Relation" "size" "I" (.int (1 : Int32))) (A1 : Ary Z h bv .int [(.int x0), (.int x1), (.int x2), (.int (0 : Int32)), (.int (0 : Int32)), (.int (0 : Int32)), (.int (0 : Int32)), (.int (0 : Int32)), (.int (0 : Int32)), (.int (0 : Int32)), (.int (0 : Int32)), (.int (0 : Int32)), (.int (0 : Int32)), (.int (0 : Int32)), (.int (0 : Int32)), (.int (0 : Int32))]) (A2 : Ary Z h bs .int ((List.replicate 16 (.int (-1 : Int32))).set (((own_h3 x0 x1 x2) &&& (15 : Int32))).toNatClampNeg (.int (0 : Int32)))) (A : Ary Z h t .int [(.int y0), (.int y1), (.int y2)]) (E2 : Exa Z h m "java/util/HashMap") (G1 : Fld Z h m "java/util/HashMap" "modCount" "I" (.int mc)) (G2 : Fld Z h m "java/util/HashMap" "table" "[Ljava/util/HashMap$Node;" .null) : Con l Z (⟨"com/example/pathweave/pathweave/eval/Relation", "add", "([I)Z"⟩ : MethodName) prog_30_method_5_code 3 (some .boolean) ({ frames := 2, cells := 0, slots := 0, locals := 70 } : Room) #[(.ref a), (.ref t)] h n0 (fun r h' => (∃ z : Int32, r = some (.int z)) ∧ Keep h h' [a, bv, bs, m] ∧ (((x0 = y0 ∧ x1 = y1 ∧ x2 = y2) ∧ Exa Z h' a "com/example/pathweave/pathweave/eval/Relation" ∧ Fld Z h' a "com/example/pathweave/pathweave/eval/Relation" "values" "[I" (.ref bv) ∧ Fld Z h' a "com/example/pathweave/pathweave/eval/Relation" "arity" "I" (.int (3 : Int32)) ∧ Fld Z h' a "com/example/pathweave/pathweave/eval/Relation" "size" "I" (.int (1 : Int32)) ∧ Ary Z h' bv .int [(.int x0), (.int x1), (.int x2), (.int (0 : Int32)), (.int (0 : Int32)), (.int (0 : Int32)), (.int (0 : Int32)), (.int (0 : Int32)), (.int (0 : Int32)), (.int (0 : Int32)), (.int (0 : Int32)), (.int (0 : Int32)), (.int (0 : Int32)), (.int (0 : Int32)), (.int (0 : Int32)), (.int (0 : Int32))]) ∨ (¬ (x0 = y0 ∧ x1 = y1 ∧ x2 = y2) ∧ Exa Z h' a "com/example/pathweave/pathweave/eval/Relation" ∧ Fld Z h' a "com/example/pathweave/pathweave/eval/Relation" "values" "[I" (.ref bv) ∧ Fld Z h' a "com/example/pathweave/pathweave/eval/Relation" "arity" "I" (.int (3 : Int32)) ∧ Fld Z h' a "com/example/pathweave/pathweave/eval/Relation" "size" "I" (.int (2 : Int32)) ∧ Ary Z h' bv .int [(.int x0), (.int x1), (.int x2), (.int y0), (.int y1), (.int y2), (.int (0 : Int32)), (.int (0 : Int32)), (.int (0 : Int32)), (.int (0 : Int32)), (.int (0 : Int32)), (.int (0 : Int32)), (.int (0 : Int32)), (.int (0 : Int32)), (.int (0 : Int32)), (.int (0 : Int32))]))) := by
  refine ConW.of_W (Ls := #[.val (.ref a), .val (.ref t), .unset]) (plainFor_of_name pn_1) hn (fun m => by first | (simp [entryFrame, mkF, argsToLocals, Value.category]; done) | rfl) ?_
  refine W.aloadN 1 d_prog_30_method_5_0 rfl rfl rfl ?_
  refine W.aloadN 2 d_prog_30_method_5_1 rfl rfl rfl ?_
  refine W.callP (rest := []) (argsL := [(.ref t)]) (a := a) 5 d_prog_30_method_5_2 rfl (fun hn => c_f1_3 l Z a0 hw a bv bs t x0 x1 x2 y0 y1 y2 _ n0 hn E F1 F2 F4 A1 A2 A) E (wd_47 hw) (wd_49 hw) (wd_2 hw) (wd_48 hw) (wd_3 hw) (wd_50 hw) (by decide) pd_5 rfl rfl rfl (by decide) 0 (Nat.le_of_ble_eq_true rfl) (by decide) (by decide) (by decide) ?_
  rintro v1243 h1243 ⟨⟨jj, rfl, hj, hj0, hj16⟩, rfl⟩
  show W _ _ _ _ _ _ _ _ _ _ _ 0 0 5 #[.val (.ref a), .val (.ref t), .unset] [(.int jj)]
  rcases hj with ⟨hq, hjx⟩ | ⟨hq, hjx⟩
  · refine W.istoreN 6 d_prog_30_method_5_5 rfl #[.val (.ref a), .val (.ref t), .val (.int jj)] rfl ?_
    refine W.aloadN 7 d_prog_30_method_5_6 rfl rfl rfl ?_
    refine W.getfield 10 d_prog_30_method_5_7 rfl (host := "") (Or.inl (wd_20 hw)) Via.refl F2 ?_
    refine W.iloadN 11 d_prog_30_method_5_10 rfl rfl ?_
    refine W.iaload 12 d_prog_30_method_5_11 rfl A2 (jj).toNatClampNeg rfl hj0 (.int (0 : Int32)) (by rw [hjx]; exact own_s1 (own_i15 _).2) ?_
    refine W.iconst 13 d_prog_30_method_5_12 rfl (-1 : Int32) rfl ?_
    refine W.icmp_eq 18 16 d_prog_30_method_5_13 rfl rfl (fun hc => absurd hc (by decide)) (fun _ => ?_)
    refine W.iconst 17 d_prog_30_method_5_16 rfl (0 : Int32) rfl ?_
    exact W.ireturnN (t := .boolean) d_prog_30_method_5_17 rfl (by simp) (0 : Int32) rfl ⟨⟨_, rfl⟩, (Keep.refl _ [a, bv, bs, m]), Or.inl ⟨hq, E, F1, F4, F5, A1⟩⟩ (by decide) (by decide)
  · refine W.istoreN 6 d_prog_30_method_5_5 rfl #[.val (.ref a), .val (.ref t), .val (.int jj)] rfl ?_
    refine W.aloadN 7 d_prog_30_method_5_6 rfl rfl rfl ?_
    refine W.getfield 10 d_prog_30_method_5_7 rfl (host := "") (Or.inl (wd_20 hw)) Via.refl F2 ?_
    refine W.iloadN 11 d_prog_30_method_5_10 rfl rfl ?_
    refine W.iaload 12 d_prog_30_method_5_11 rfl A2 (jj).toNatClampNeg rfl hj0 (.int (-1 : Int32)) (own_s2 hj16 hjx) ?_
    refine W.iconst 13 d_prog_30_method_5_12 rfl (-1 : Int32) rfl ?_
    refine W.icmp_eq 18 16 d_prog_30_method_5_13 rfl rfl (fun _ => ?_) (fun hc => absurd (by decide) hc)
    refine W.aloadN 19 d_prog_30_method_5_18 rfl rfl rfl ?_
    refine W.getfield 22 d_prog_30_method_5_19 rfl (host := "") (Or.inl (wd_55 hw)) Via.refl F5 ?_
    refine W.iconst 23 d_prog_30_method_5_22 rfl (1 : Int32) rfl ?_
    refine W.iadd 24 d_prog_30_method_5_23 rfl (2 : Int32) (by decide) ?_
    refine W.aloadN 25 d_prog_30_method_5_24 rfl rfl rfl ?_
    refine W.getfield 28 d_prog_30_method_5_25 rfl (host := "") (Or.inl (wd_40 hw)) Via.refl F4 ?_
    refine W.imul 29 d_prog_30_method_5_28 rfl (6 : Int32) (by decide) ?_
    refine W.aloadN 30 d_prog_30_method_5_29 rfl rfl rfl ?_
    refine W.getfield 33 d_prog_30_method_5_30 rfl (host := "") (Or.inl (wd_11 hw)) Via.refl F1 ?_
    refine W.arraylength 34 d_prog_30_method_5_33 rfl A1 (16 : Int32) rfl ?_
    refine W.icmp_le 69 37 d_prog_30_method_5_34 rfl rfl (fun _ => ?_) (fun hc => absurd hc (by decide))
    refine W.aloadN 70 d_prog_30_method_5_69 rfl rfl rfl ?_
    refine W.iconst 71 d_prog_30_method_5_70 rfl (0 : Int32) rfl ?_
    refine W.aloadN 72 d_prog_30_method_5_71 rfl rfl rfl ?_
    refine W.getfield 75 d_prog_30_method_5_72 rfl (host := "") (Or.inl (wd_11 hw)) Via.refl F1 ?_
    refine W.aloadN 76 d_prog_30_method_5_75 rfl rfl rfl ?_
    refine W.getfield 79 d_prog_30_method_5_76 rfl (host := "") (Or.inl (wd_55 hw)) Via.refl F5 ?_
    refine W.aloadN 80 d_prog_30_method_5_79 rfl rfl rfl ?_
    refine W.getfield 83 d_prog_30_method_5_80 rfl (host := "") (Or.inl (wd_40 hw)) Via.refl F4 ?_
    refine W.imul 84 d_prog_30_method_5_83 rfl (3 : Int32) (by decide) ?_
    refine W.aloadN 85 d_prog_30_method_5_84 rfl rfl rfl ?_
    refine W.getfield 88 d_prog_30_method_5_85 rfl (host := "") (Or.inl (wd_40 hw)) Via.refl F4 ?_
    refine W.arraycopy 91 d_prog_30_method_5_88 rfl (wd_57 hw) (wd_60 hw) (wd_58 hw) (wd_59 hw) A A1 rfl 0 3 3 (by decide) (by decide) (by decide) (by decide) (by decide) (by decide) (Nat.le_of_ble_eq_true rfl) (Nat.le_of_ble_eq_true rfl) gbv rfl (by decide) 0 (Nat.le_of_ble_eq_true rfl) (by decide) ?_
    intro h1244 K1244 A1244
    have kc1245 := Keep.trans (ws := [a, bv, bs, m]) (Keep.refl _ [a, bv, bs, m]) K1244 (allS (Or.inl (List.mem_of_getElem? (i := 1) rfl)) all0)
    have A1244 : Ary _ _ bv .int [(.int x0), (.int x1), (.int x2), (.int y0), (.int y1), (.int y2), (.int (0 : Int32)), (.int (0 : Int32)), (.int (0 : Int32)), (.int (0 : Int32)), (.int (0 : Int32)), (.int (0 : Int32)), (.int (0 : Int32)), (.int (0 : Int32)), (.int (0 : Int32)), (.int (0 : Int32))] := A1244
    refine W.aloadN 92 d_prog_30_method_5_91 rfl rfl rfl ?_
    have q1246 := (F2.keep K1244 (ninS ne_a_bv nin0))
    refine W.getfield 95 d_prog_30_method_5_92 rfl (host := "") (Or.inl (wd_20 hw)) Via.refl q1246 ?_
    refine W.iloadN 96 d_prog_30_method_5_95 rfl rfl ?_
    refine W.aloadN 97 d_prog_30_method_5_96 rfl rfl rfl ?_
    refine W.dup 98 d_prog_30_method_5_97 rfl rfl ?_
    have q1247 := (F5.keep K1244 (ninS ne_a_bv nin0))
    refine W.getfield 101 d_prog_30_method_5_98 rfl (host := "") (Or.inl (wd_55 hw)) Via.refl q1247 ?_
    refine W.dup_x1 102 d_prog_30_method_5_101 rfl rfl rfl ?_
    refine W.iconst 103 d_prog_30_method_5_102 rfl (1 : Int32) rfl ?_
    refine W.iadd 104 d_prog_30_method_5_103 rfl (2 : Int32) (by decide) ?_
    have q1248 := (E.keep K1244)
    refine W.putfield 107 d_prog_30_method_5_104 rfl (host := "") (Or.inl (wd_55 hw)) Via.refl q1247 q1248 (Or.inl (wd_56 hw)) (wd_2 hw) (ty := .int) (by decide) rfl rfl ga ?_
    intro h1249 W1249 F1249 E1249 K1249
    have kc1250 := Keep.trans (ws := [a, bv, bs, m]) kc1245 K1249 (allS (Or.inl (List.mem_of_getElem? (i := 0) rfl)) all0)
    have q1251 := ((A2.keep K1244 (ninS (Ne.symm ne_bv_bs) nin0)).keep K1249 (ninS (Ne.symm ne_a_bs) nin0))
    refine W.iastore 108 d_prog_30_method_5_107 rfl q1251 (jj).toNatClampNeg rfl hj0 (by rw [own_l1]; exact hj16) gbs ?_
    intro h1252 W1252 K1252 A1252
    have kc1253 := Keep.trans (ws := [a, bv, bs, m]) kc1250 K1252 (allS (Or.inl (List.mem_of_getElem? (i := 2) rfl)) all0)
    refine W.iconst 109 d_prog_30_method_5_108 rfl (2 : Int32) rfl ?_
    refine W.aloadN 110 d_prog_30_method_5_109 rfl rfl rfl ?_
    have q1254 := (F1249.keep K1252 (ninS ne_a_bs nin0))
    refine W.getfield 113 d_prog_30_method_5_110 rfl (host := "") (Or.inl (wd_55 hw)) Via.refl q1254 ?_
    refine W.imul 114 d_prog_30_method_5_113 rfl (4 : Int32) (by decide) ?_
    refine W.aloadN 115 d_prog_30_method_5_114 rfl rfl rfl ?_
    have q1255 := ((q1246.other W1249 (Or.inr (sne_19 hw))).keep K1252 (ninS ne_a_bs nin0))
    refine W.getfield 118 d_prog_30_method_5_115 rfl (host := "") (Or.inl (wd_20 hw)) Via.refl q1255 ?_
    refine W.arraylength 119 d_prog_30_method_5_118 rfl A1252 (16 : Int32) (by rw [List.length_set, own_l1]; rfl) ?_
    refine W.icmp_le 126 122 d_prog_30_method_5_119 rfl rfl (fun _ => ?_) (fun hc => absurd hc (by decide))
    refine W.aloadN 127 d_prog_30_method_5_126 rfl rfl rfl ?_
    have q1256 := (((F3.keep K1244 (ninS ne_a_bv nin0)).other W1249 (Or.inr (sne_20 hw))).keep K1252 (ninS ne_a_bs nin0))
    refine W.getfield 130 d_prog_30_method_5_127 rfl (host := "") (Or.inl (wd_38 hw)) Via.refl q1256 ?_
    have q1257 := (((E2.keep K1244).keep K1249).keep K1252)
    have q1258 := (((G1.keep K1244 (ninS (Ne.symm ne_bv_m) nin0)).keep K1249 (ninS (Ne.symm ne_a_m) nin0)).keep K1252 (ninS (Ne.symm ne_bs_m) nin0))
    have q1259 := (((G2.keep K1244 (ninS (Ne.symm ne_bv_m) nin0)).keep K1249 (ninS (Ne.symm ne_a_m) nin0)).keep K1252 (ninS (Ne.symm ne_bs_m) nin0))
    refine W.callI (rest := []) (argsL := []) (a := m) 135 d_prog_30_method_5_130 rfl (fun hn => c_clr l Z a0 hw m mc _ n0 hn gm q1257 q1258 q1259) q1257 (wd_61 hw) (wd_62 hw) (wd_63 hw) (wd_64 hw) (wd_65 hw) (wd_66 hw) (wd_67 hw) (wd_68 hw) (wd_24 hw) (wd_69 hw) (by decide) pd_1 rfl rfl rfl (by decide) 0 (Nat.le_of_ble_eq_true rfl) (by decide) (by decide) (by decide) ?_
    rintro v1260 h1260 ⟨rfl, E1260, ⟨F1260, G1260⟩, K1260⟩
    have kc1261 := Keep.trans (ws := [a, bv, bs, m]) kc1253 K1260 (allS (Or.inl (List.mem_of_getElem? (i := 3) rfl)) all0)
    show W _ _ _ _ _ _ _ _ _ _ _ 0 0 135 #[.val (.ref a), .val (.ref t), .val (.int jj)] []
    refine W.iconst 136 d_prog_30_method_5_135 rfl (1 : Int32) rfl ?_
    have q1262 := ((E1249.keep K1252).keep K1260)
    have q1263 := ((((F1.keep K1244 (ninS ne_a_bv nin0)).other W1249 (Or.inr (sne_21 hw))).keep K1252 (ninS ne_a_bs nin0)).keep K1260 (ninS ne_a_m nin0))
    have q1264 := ((((F4.keep K1244 (ninS ne_a_bv nin0)).other W1249 (Or.inr (sne_22 hw))).keep K1252 (ninS ne_a_bs nin0)).keep K1260 (ninS ne_a_m nin0))
    have q1265 := (q1254.keep K1260 (ninS ne_a_m nin0))
    have q1266 := (((A1244.keep K1249 (ninS (Ne.symm ne_a_bv) nin0)).keep K1252 (ninS ne_bv_bs nin0)).keep K1260 (ninS ne_bv_m nin0))
    exact W.ireturnN (t := .boolean) d_prog_30_method_5_136 rfl (by simp) (1 : Int32) rfl ⟨⟨_, rfl⟩, kc1261, Or.inr ⟨hq, q1262, q1263, q1264, q1265, q1266⟩⟩ (by decide) (by decide)
set_option maxRecDepth 65536 in
set_option maxHeartbeats 40000000 in
theorem c_size (l : Launch) (Z : State) (a0 : Array Value) (hw : ∀ d ∈ tables_1, d.before a0 Z = true) (a : Addr) (z : Int32) (h : Heap) (n0 : Nat) (hn : n0 ≤ h.size) (F5 : Fld Z h a "com/example/pathweave/pathweave/eval/Relation" "size" "I" (.int z)) : Con l Z (⟨"com/example/pathweave/pathweave/eval/Relation", "size", "()I"⟩ : MethodName) prog_30_method_3_code 1 (some .int) ({ frames := 0, cells := 0, slots := 0, locals := 0 } : Room) #[(.ref a)] h n0 (fun r h' => r = some (.int z) ∧ h' = h) := by
  refine ConW.of_W (Ls := #[.val (.ref a)]) (plainFor_of_name pn_1) hn (fun m => by first | (simp [entryFrame, mkF, argsToLocals, Value.category]; done) | rfl) ?_
  refine W.aloadN 1 d_prog_30_method_3_0 rfl rfl rfl ?_
  refine W.getfield 4 d_prog_30_method_3_1 rfl (host := "") (Or.inl (wd_55 hw)) Via.refl F5 ?_
  exact W.ireturn d_prog_30_method_3_4 rfl ⟨rfl, rfl⟩ (by decide) (by decide)
set_option maxRecDepth 65536 in
set_option maxHeartbeats 40000000 in
theorem c_val (l : Launch) (Z : State) (a0 : Array Value) (hw : ∀ d ∈ tables_1, d.before a0 Z = true) (a bv : Addr) (i j k x : Int32) (vs : List Value) (n : Nat) (h : Heap) (n0 : Nat) (hn : n0 ≤ h.size) (F1 : Fld Z h a "com/example/pathweave/pathweave/eval/Relation" "values" "[I" (.ref bv)) (F4 : Fld Z h a "com/example/pathweave/pathweave/eval/Relation" "arity" "I" (.int k)) (A1 : Ary Z h bv .int vs) (hn1 : ((i * k) + j).toNatClampNeg = n) (hn2 : ¬ ((i * k) + j) < 0) (hx : vs[n]? = some (.int x)) : Con l Z (⟨"com/example/pathweave/pathweave/eval/Relation", "value", "(II)I"⟩ : MethodName) prog_30_method_4_code 3 (some .int) ({ frames := 0, cells := 0, slots := 0, locals := 0 } : Room) #[(.ref a), (.int i), (.int j)] h n0 (fun r h' => r = some (.int x) ∧ h' = h) := by
  refine ConW.of_W (Ls := #[.val (.ref a), .val (.int i), .val (.int j)]) (plainFor_of_name pn_1) hn (fun m => by first | (simp [entryFrame, mkF, argsToLocals, Value.category]; done) | rfl) ?_
  refine W.aloadN 1 d_prog_30_method_4_0 rfl rfl rfl ?_
  refine W.getfield 4 d_prog_30_method_4_1 rfl (host := "") (Or.inl (wd_11 hw)) Via.refl F1 ?_
  refine W.iloadN 5 d_prog_30_method_4_4 rfl rfl ?_
  refine W.aloadN 6 d_prog_30_method_4_5 rfl rfl rfl ?_
  refine W.getfield 9 d_prog_30_method_4_6 rfl (host := "") (Or.inl (wd_40 hw)) Via.refl F4 ?_
  refine W.imul 10 d_prog_30_method_4_9 rfl (i * k) rfl ?_
  refine W.iloadN 11 d_prog_30_method_4_10 rfl rfl ?_
  refine W.iadd 12 d_prog_30_method_4_11 rfl ((i * k) + j) rfl ?_
  refine W.iaload 13 d_prog_30_method_4_12 rfl A1 n hn1 hn2 (.int x) hx ?_
  exact W.ireturn d_prog_30_method_4_13 rfl ⟨rfl, rfl⟩ (by decide) (by decide)
set_option maxRecDepth 65536 in
set_option maxHeartbeats 40000000 in
theorem law_1 (l : Launch) (Z : State) (a0 : Array Value) (hw : ∀ d ∈ tables_1, d.before a0 Z = true) (p0 p1 p2 p3 p4 p5 : Int32) (h : Heap) (n0 : Nat) (hn : n0 ≤ h.size) (hN : ((1 : Int32) + ((p5 &&& (2147483647 : Int32)) % (3 : Int32))) = (1 : Int32)) : ConW tables_1 l Z x code maxLocals ret room_1 #[(.int p0), (.int p1), (.int p2), (.int p3), (.int p4), (.int p5)] h n0 (fun r _ => r = some (.int 1)) := by
  refine ConW.of_W (Ls := #[.val (.int p0), .val (.int p1), .val (.int p2), .val (.int p3), .val (.int p4), .val (.int p5), .unset, .unset, .unset, .unset, .unset, .unset, .unset]) (plainFor_of_name pn_4) hn (fun m => by first | (simp [entryFrame, mkF, argsToLocals, Value.category, maxLocals]; done) | rfl) ?_
  refine W.iconst 1 at_0 rfl (1 : Int32) rfl ?_
  refine W.iload 3 at_1 rfl rfl ?_
  refine W.ldcI 5 at_3 rfl (wd_0 hw) ?_
  refine W.iand 6 at_5 rfl (p5 &&& (2147483647 : Int32)) rfl ?_
  refine W.iconst 7 at_6 rfl (3 : Int32) rfl ?_
  refine W.irem 8 at_7 rfl (by decide) ((p5 &&& (2147483647 : Int32)) % (3 : Int32)) rfl ?_
  refine W.iadd 9 at_8 rfl (1 : Int32) hN ?_
  refine W.istore 11 at_9 rfl #[.val (.int p0), .val (.int p1), .val (.int p2), .val (.int p3), .val (.int p4), .val (.int p5), .val (.int (1 : Int32)), .unset, .unset, .unset, .unset, .unset, .unset] rfl ?_
  refine W.new 14 at_11 rfl (wd_1 hw) (wd_2 hw) (wd_3 hw) (by decide) (by decide) ?_
  intro h1267 o1267 g1267 ge1267 X1267 K1267 E1267 D1267
  have f1268 : Fld _ _ o1267 "com/example/pathweave/pathweave/eval/Relation" "values" "[I" .null := D1267 (Or.inl (wd_12 hw)) (ty := (.array .int)) (by decide)
  have f1269 : Fld _ _ o1267 "com/example/pathweave/pathweave/eval/Relation" "slots" "[I" .null := D1267 (Or.inl (wd_21 hw)) (ty := (.array .int)) (by decide)
  have f1270 : Fld _ _ o1267 "com/example/pathweave/pathweave/eval/Relation" "indexes" "Ljava/util/Map;" .null := D1267 (Or.inr (wd_39 hw)) (ty := (.object "java/util/Map")) (by decide)
  have f1271 : Fld _ _ o1267 "com/example/pathweave/pathweave/eval/Relation" "arity" "I" (.int (0 : Int32)) := D1267 (Or.inr (wd_41 hw)) (ty := .int) (by decide)
  have f1272 : Fld _ _ o1267 "com/example/pathweave/pathweave/eval/Relation" "size" "I" (.int (0 : Int32)) := D1267 (Or.inl (wd_56 hw)) (ty := .int) (by decide)
  show W _ _ _ _ _ _ _ _ _ _ _ 1 5 14 #[.val (.int p0), .val (.int p1), .val (.int p2), .val (.int p3), .val (.int p4), .val (.int p5), .val (.int (1 : Int32)), .unset, .unset, .unset, .unset, .unset, .unset] [(.ref o1267)]
  refine W.dup 15 at_14 rfl rfl ?_
  refine W.iload 17 at_15 rfl rfl ?_
  refine W.callInit (rest := [(.ref o1267)]) (argsL := [(.int (1 : Int32))]) (a := o1267) 20 at_17 rfl (fun hn => c_in l Z a0 hw o1267 (1 : Int32) _ n0 hn ge1267 E1267 f1268 f1269 f1270 f1271 f1272) rfl (wd_4 hw) (wd_5 hw) (wd_3 hw) (wd_6 hw) (by decide) pd_6 rfl rfl rfl (by decide) 1 (Nat.le_of_ble_eq_true rfl) (by decide) (by decide) (by decide) ?_
  rintro v1273 h1273 ⟨rfl, bv1273, bs1273, m1273, ⟨sz11273, sz21273, sz31273⟩, ⟨g11273, g21273, g31273⟩, ⟨n11273, n21273, n31273, n41273, n51273, n61273⟩, K1273, ⟨E1273, F11273, F21273, F31273, F41273, F51273, A11273, A21273, E21273, G11273, G21273⟩⟩
  have ne1274 : o1267 ≠ bv1273 := Nat.ne_of_lt (Nat.lt_of_lt_of_le E1267.lt sz11273)
  have ne1275 : o1267 ≠ bs1273 := Nat.ne_of_lt (Nat.lt_of_lt_of_le E1267.lt sz21273)
  have ne1276 : o1267 ≠ m1273 := Nat.ne_of_lt (Nat.lt_of_lt_of_le E1267.lt sz31273)
  show W _ _ _ _ _ _ _ _ _ _ _ 4 45 20 #[.val (.int p0), .val (.int p1), .val (.int p2), .val (.int p3), .val (.int p4), .val (.int p5), .val (.int (1 : Int32)), .unset, .unset, .unset, .unset, .unset, .unset] [(.ref o1267)]
  refine W.astore 22 at_20 rfl rfl #[.val (.int p0), .val (.int p1), .val (.int p2), .val (.int p3), .val (.int p4), .val (.int p5), .val (.int (1 : Int32)), .val (.ref o1267), .unset, .unset, .unset, .unset, .unset] rfl ?_
  refine W.iload 24 at_22 rfl rfl ?_
  refine W.newarray 26 at_24 rfl (wd_10 hw) rfl (by decide) 1 1 (by decide) (by decide) (by decide) (by decide) (by decide) rfl ?_
  intro h1277 b1277 g1277 ge1277 X1277 K1277 A1277
  have ne1278 : bs1273 ≠ b1277 := Nat.ne_of_lt (Nat.lt_of_lt_of_eq A21273.lt g1277.symm)
  have ne1279 : bv1273 ≠ b1277 := Nat.ne_of_lt (Nat.lt_of_lt_of_eq A11273.lt g1277.symm)
  have ne1280 : m1273 ≠ b1277 := Nat.ne_of_lt (Nat.lt_of_lt_of_eq E21273.lt g1277.symm)
  have ne1281 : o1267 ≠ b1277 := Nat.ne_of_lt (Nat.lt_of_lt_of_eq E1273.lt g1277.symm)
  have A1277 : Ary _ _ b1277 .int [(.int (0 : Int32))] := A1277
  show W _ _ _ _ _ _ _ _ _ _ _ 5 46 26 #[.val (.int p0), .val (.int p1), .val (.int p2), .val (.int p3), .val (.int p4), .val (.int p5), .val (.int (1 : Int32)), .val (.ref o1267), .unset, .unset, .unset, .unset, .unset] [(.ref b1277)]
  refine W.astore 28 at_26 rfl rfl #[.val (.int p0), .val (.int p1), .val (.int p2), .val (.int p3), .val (.int p4), .val (.int p5), .val (.int (1 : Int32)), .val (.ref o1267), .val (.ref b1277), .unset, .unset, .unset, .unset] rfl ?_
  refine W.iload 30 at_28 rfl rfl ?_
  refine W.newarray 32 at_30 rfl (wd_10 hw) rfl (by decide) 1 1 (by decide) (by decide) (by decide) (by decide) (by decide) rfl ?_
  intro h1282 b1282 g1282 ge1282 X1282 K1282 A1282
  have ne1283 : b1277 ≠ b1282 := Nat.ne_of_lt (Nat.lt_of_lt_of_eq A1277.lt g1282.symm)
  have q1284 := (A21273.keep K1277 nin0)
  have ne1285 : bs1273 ≠ b1282 := Nat.ne_of_lt (Nat.lt_of_lt_of_eq q1284.lt g1282.symm)
  have q1286 := (A11273.keep K1277 nin0)
  have ne1287 : bv1273 ≠ b1282 := Nat.ne_of_lt (Nat.lt_of_lt_of_eq q1286.lt g1282.symm)
  have q1288 := (E21273.keep K1277)
  have ne1289 : m1273 ≠ b1282 := Nat.ne_of_lt (Nat.lt_of_lt_of_eq q1288.lt g1282.symm)
  have q1290 := (E1273.keep K1277)
  have ne1291 : o1267 ≠ b1282 := Nat.ne_of_lt (Nat.lt_of_lt_of_eq q1290.lt g1282.symm)
  have A1282 : Ary _ _ b1282 .int [(.int (0 : Int32))] := A1282
  show W _ _ _ _ _ _ _ _ _ _ _ 6 47 32 #[.val (.int p0), .val (.int p1), .val (.int p2), .val (.int p3), .val (.int p4), .val (.int p5), .val (.int (1 : Int32)), .val (.ref o1267), .val (.ref b1277), .unset, .unset, .unset, .unset] [(.ref b1282)]
  refine W.astore 34 at_32 rfl rfl #[.val (.int p0), .val (.int p1), .val (.int p2), .val (.int p3), .val (.int p4), .val (.int p5), .val (.int (1 : Int32)), .val (.ref o1267), .val (.ref b1277), .val (.ref b1282), .unset, .unset, .unset] rfl ?_
  refine W.aload 36 at_34 rfl rfl rfl ?_
  refine W.iconst 37 at_36 rfl (0 : Int32) rfl ?_
  refine W.iloadN 38 at_37 rfl rfl ?_
  have q1292 := (A1277.keep K1282 nin0)
  refine W.iastore 39 at_38 rfl q1292 0 (by decide) (by decide) (Nat.le_of_ble_eq_true rfl) ge1277 ?_
  intro h1293 W1293 K1293 A1293
  have A1293 : Ary _ _ b1277 .int [(.int p0)] := A1293
  refine W.aload 41 at_39 rfl rfl rfl ?_
  refine W.iconst 42 at_41 rfl (0 : Int32) rfl ?_
  refine W.iloadN 43 at_42 rfl rfl ?_
  have q1294 := (A1282.keep K1293 (ninS (Ne.symm ne1283) nin0))
  refine W.iastore 44 at_43 rfl q1294 0 (by decide) (by decide) (Nat.le_of_ble_eq_true rfl) ge1282 ?_
  intro h1295 W1295 K1295 A1295
  have A1295 : Ary _ _ b1282 .int [(.int p2)] := A1295
  refine W.iload 46 at_44 rfl rfl ?_
  refine W.iconst 47 at_46 rfl (2 : Int32) rfl ?_
  refine W.icmp_lt 60 50 at_47 rfl rfl (fun _ => ?_) (fun hc => absurd (by decide) hc)
  refine W.iload 62 at_60 rfl rfl ?_
  refine W.iconst 63 at_62 rfl (3 : Int32) rfl ?_
  refine W.icmp_lt 78 66 at_63 rfl rfl (fun _ => ?_) (fun hc => absurd (by decide) hc)
  refine W.aload 80 at_78 rfl rfl rfl ?_
  refine W.aload 82 at_80 rfl rfl rfl ?_
  have q1296 := (((q1290.keep K1282).keep K1293).keep K1295)
  have q1297 := ((((F11273.keep K1277 nin0).keep K1282 nin0).keep K1293 (ninS ne1281 nin0)).keep K1295 (ninS ne1291 nin0))
  have q1298 := ((((F21273.keep K1277 nin0).keep K1282 nin0).keep K1293 (ninS ne1281 nin0)).keep K1295 (ninS ne1291 nin0))
  have q1299 := ((((F31273.keep K1277 nin0).keep K1282 nin0).keep K1293 (ninS ne1281 nin0)).keep K1295 (ninS ne1291 nin0))
  have q1300 := ((((F41273.keep K1277 nin0).keep K1282 nin0).keep K1293 (ninS ne1281 nin0)).keep K1295 (ninS ne1291 nin0))
  have q1301 := ((((F51273.keep K1277 nin0).keep K1282 nin0).keep K1293 (ninS ne1281 nin0)).keep K1295 (ninS ne1291 nin0))
  have q1302 := (((q1286.keep K1282 nin0).keep K1293 (ninS ne1279 nin0)).keep K1295 (ninS ne1287 nin0))
  have q1303 := (((q1284.keep K1282 nin0).keep K1293 (ninS ne1278 nin0)).keep K1295 (ninS ne1285 nin0))
  have q1304 := (A1293.keep K1295 (ninS ne1283 nin0))
  have q1305 := (((q1288.keep K1282).keep K1293).keep K1295)
  have q1306 := ((((G11273.keep K1277 nin0).keep K1282 nin0).keep K1293 (ninS ne1280 nin0)).keep K1295 (ninS ne1289 nin0))
  have q1307 := ((((G21273.keep K1277 nin0).keep K1282 nin0).keep K1293 (ninS ne1280 nin0)).keep K1295 (ninS ne1289 nin0))
  refine W.callV (rest := []) (argsL := [(.ref b1277)]) (a := o1267) 85 at_82 rfl (fun hn => c_a0_1 l Z a0 hw o1267 bv1273 bs1273 m1273 b1277 p0 (0 : Int32) _ n0 hn ge1267 g11273 g21273 g31273 n11273 n21273 n31273 ne1281 n41273 n51273 ne1279 n61273 ne1278 ne1280 q1296 q1297 q1298 q1299 q1300 q1301 q1302 q1303 q1304 q1305 q1306 q1307) q1296 (wd_42 hw) (wd_43 hw) (wd_45 hw) rfl (wd_44 hw) (wd_3 hw) (wd_46 hw) (by decide) pd_7 rfl rfl rfl (by decide) 0 (Nat.le_of_ble_eq_true rfl) (by decide) (by decide) (by decide) ?_
  rintro v1308 h1308 ⟨rfl, K1308, ⟨E1308, F11308, F41308, F51308, A11308⟩, F21308, A21308, F31308, E21308, G11308, G21308⟩
  show W _ _ _ _ _ _ _ _ _ _ _ 6 47 85 #[.val (.int p0), .val (.int p1), .val (.int p2), .val (.int p3), .val (.int p4), .val (.int p5), .val (.int (1 : Int32)), .val (.ref o1267), .val (.ref b1277), .val (.ref b1282), .unset, .unset, .unset] [(.int (1 : Int32))]
  refine W.pop1 86 at_85 rfl rfl ?_
  refine W.aload 88 at_86 rfl rfl rfl ?_
  refine W.aload 90 at_88 rfl rfl rfl ?_
  have q1309 := (A1295.keep K1308 (ninS (Ne.symm ne1291) (ninS (Ne.symm ne1287) (ninS (Ne.symm ne1285) (ninS (Ne.symm ne1289) nin0)))))
  refine W.callV (rest := []) (argsL := [(.ref b1282)]) (a := o1267) 93 at_90 rfl (fun hn => c_a1_1 l Z a0 hw o1267 bv1273 bs1273 m1273 b1282 p0 p2 ((0 : Int32) + (1 : Int32)) _ n0 hn ge1267 g11273 g21273 g31273 n11273 n21273 n31273 ne1291 n41273 n51273 ne1287 n61273 ne1285 ne1289 E1308 F11308 F21308 F31308 F41308 F51308 A11308 A21308 q1309 E21308 G11308 G21308) E1308 (wd_42 hw) (wd_43 hw) (wd_45 hw) rfl (wd_44 hw) (wd_3 hw) (wd_46 hw) (by decide) pd_7 rfl rfl rfl (by decide) 0 (Nat.le_of_ble_eq_true rfl) (by decide) (by decide) (by decide) ?_
  rintro v1310 h1310 ⟨⟨zr1310, rfl⟩, K1310, hd1310⟩
  show W _ _ _ _ _ _ _ _ _ _ _ 6 47 93 #[.val (.int p0), .val (.int p1), .val (.int p2), .val (.int p3), .val (.int p4), .val (.int p5), .val (.int (1 : Int32)), .val (.ref o1267), .val (.ref b1277), .val (.ref b1282), .unset, .unset, .unset] [(.int zr1310)]
  rcases hd1310 with ⟨hq1310, E1310, F11310, F41310, F51310, A11310⟩ | ⟨hq1310, E1310, F11310, F41310, F51310, A11310⟩
  · refine W.pop1 94 at_93 rfl rfl ?_
    refine W.iload 96 at_94 rfl rfl ?_
    refine W.iconst 97 at_96 rfl (1 : Int32) rfl ?_
    refine W.icmp_ne 115 100 at_97 rfl rfl (fun hc => absurd (by decide) hc) (fun _ => ?_)
    refine W.iloadN 101 at_100 rfl rfl ?_
    refine W.iloadN 102 at_101 rfl rfl ?_
    refine W.icmp_ne 109 105 at_102 rfl rfl (fun hc => absurd hq1310 hc) (fun _ => ?_)
    refine W.iconst 106 at_105 rfl (1 : Int32) rfl ?_
    refine W.goto 110 at_106 rfl ?_
    refine W.istore 112 at_110 rfl #[.val (.int p0), .val (.int p1), .val (.int p2), .val (.int p3), .val (.int p4), .val (.int p5), .val (.int (1 : Int32)), .val (.ref o1267), .val (.ref b1277), .val (.ref b1282), .val (.int (1 : Int32)), .unset, .unset] rfl ?_
    refine W.goto 165 at_112 rfl ?_
    refine W.iload 167 at_165 rfl rfl ?_
    refine W.if_eq 174 170 at_167 rfl rfl (fun hc => absurd hc (by decide)) (fun _ => ?_)
    refine W.iconst 171 at_170 rfl (1 : Int32) rfl ?_
    refine W.goto 175 at_171 rfl ?_
    refine W.istore 177 at_175 rfl #[.val (.int p0), .val (.int p1), .val (.int p2), .val (.int p3), .val (.int p4), .val (.int p5), .val (.int (1 : Int32)), .val (.ref o1267), .val (.ref b1277), .val (.ref b1282), .val (.int (1 : Int32)), .val (.int (1 : Int32)), .unset] rfl ?_
    refine W.aload 179 at_177 rfl rfl rfl ?_
    refine W.callV (rest := []) (argsL := []) (a := o1267) 182 at_179 rfl (fun hn => c_size l Z a0 hw o1267 (1 : Int32) _ n0 hn F51310) E1310 (wd_74 hw) (wd_75 hw) (wd_77 hw) rfl (wd_76 hw) (wd_3 hw) (wd_78 hw) (by decide) pd_8 rfl rfl rfl (by decide) 0 (Nat.le_of_ble_eq_true rfl) (by decide) (by decide) (by decide) ?_
    rintro v1311 h1311 ⟨rfl, rfl⟩
    show W _ _ _ _ _ _ _ _ _ _ _ 6 47 182 #[.val (.int p0), .val (.int p1), .val (.int p2), .val (.int p3), .val (.int p4), .val (.int p5), .val (.int (1 : Int32)), .val (.ref o1267), .val (.ref b1277), .val (.ref b1282), .val (.int (1 : Int32)), .val (.int (1 : Int32)), .unset] [(.int (1 : Int32))]
    refine W.iload 184 at_182 rfl rfl ?_
    refine W.icmp_eq 189 187 at_184 rfl rfl (fun _ => ?_) (fun hc => absurd (by decide) hc)
    refine W.aload 191 at_189 rfl rfl rfl ?_
    refine W.iconst 192 at_191 rfl (0 : Int32) rfl ?_
    refine W.iconst 193 at_192 rfl (0 : Int32) rfl ?_
    refine W.callV (rest := []) (argsL := [(.int (0 : Int32)), (.int (0 : Int32))]) (a := o1267) 196 at_193 rfl (fun hn => c_val l Z a0 hw o1267 bv1273 (0 : Int32) (0 : Int32) (1 : Int32) p0 _ 0 _ n0 hn F11310 F41310 A11310 (by decide) (by decide) rfl) E1310 (wd_79 hw) (wd_80 hw) (wd_82 hw) rfl (wd_81 hw) (wd_3 hw) (wd_83 hw) (by decide) pd_9 rfl rfl rfl (by decide) 0 (Nat.le_of_ble_eq_true rfl) (by decide) (by decide) (by decide) ?_
    rintro v1312 h1312 ⟨rfl, rfl⟩
    show W _ _ _ _ _ _ _ _ _ _ _ 6 47 196 #[.val (.int p0), .val (.int p1), .val (.int p2), .val (.int p3), .val (.int p4), .val (.int p5), .val (.int (1 : Int32)), .val (.ref o1267), .val (.ref b1277), .val (.ref b1282), .val (.int (1 : Int32)), .val (.int (1 : Int32)), .unset] [(.int p0)]
    refine W.iloadN 197 at_196 rfl rfl ?_
    refine W.icmp_ne 204 200 at_197 rfl rfl (fun hc => absurd rfl hc) (fun _ => ?_)
    refine W.iconst 201 at_200 rfl (1 : Int32) rfl ?_
    refine W.goto 205 at_201 rfl ?_
    refine W.istore 207 at_205 rfl #[.val (.int p0), .val (.int p1), .val (.int p2), .val (.int p3), .val (.int p4), .val (.int p5), .val (.int (1 : Int32)), .val (.ref o1267), .val (.ref b1277), .val (.ref b1282), .val (.int (1 : Int32)), .val (.int (1 : Int32)), .val (.int (1 : Int32))] rfl ?_
    refine W.iload 209 at_207 rfl rfl ?_
    refine W.iconst 210 at_209 rfl (2 : Int32) rfl ?_
    refine W.icmp_lt 236 213 at_210 rfl rfl (fun _ => ?_) (fun hc => absurd (by decide) hc)
    refine W.iload 238 at_236 rfl rfl ?_
    refine W.iconst 239 at_238 rfl (3 : Int32) rfl ?_
    refine W.icmp_lt 266 242 at_239 rfl rfl (fun _ => ?_) (fun hc => absurd (by decide) hc)
    refine W.iload 268 at_266 rfl rfl ?_
    refine W.if_ne 353 271 at_268 rfl rfl (fun _ => ?_) (fun hc => absurd hc (by decide))
    refine W.iload 355 at_353 rfl rfl ?_
    exact W.ireturnN (t := .boolean) at_355 rfl (by simp) (1 : Int32) rfl rfl (by decide) (by decide)
  · refine W.pop1 94 at_93 rfl rfl ?_
    refine W.iload 96 at_94 rfl rfl ?_
    refine W.iconst 97 at_96 rfl (1 : Int32) rfl ?_
    refine W.icmp_ne 115 100 at_97 rfl rfl (fun hc => absurd (by decide) hc) (fun _ => ?_)
    refine W.iloadN 101 at_100 rfl rfl ?_
    refine W.iloadN 102 at_101 rfl rfl ?_
    refine W.icmp_ne 109 105 at_102 rfl rfl (fun _ => ?_) (fun hc => absurd hc (fun z => hq1310 z))
    refine W.iconst 110 at_109 rfl (0 : Int32) rfl ?_
    refine W.istore 112 at_110 rfl #[.val (.int p0), .val (.int p1), .val (.int p2), .val (.int p3), .val (.int p4), .val (.int p5), .val (.int (1 : Int32)), .val (.ref o1267), .val (.ref b1277), .val (.ref b1282), .val (.int (0 : Int32)), .unset, .unset] rfl ?_
    refine W.goto 165 at_112 rfl ?_
    refine W.iload 167 at_165 rfl rfl ?_
    refine W.if_eq 174 170 at_167 rfl rfl (fun _ => ?_) (fun hc => absurd (by decide) hc)
    refine W.iconst 175 at_174 rfl (2 : Int32) rfl ?_
    refine W.istore 177 at_175 rfl #[.val (.int p0), .val (.int p1), .val (.int p2), .val (.int p3), .val (.int p4), .val (.int p5), .val (.int (1 : Int32)), .val (.ref o1267), .val (.ref b1277), .val (.ref b1282), .val (.int (0 : Int32)), .val (.int (2 : Int32)), .unset] rfl ?_
    refine W.aload 179 at_177 rfl rfl rfl ?_
    refine W.callV (rest := []) (argsL := []) (a := o1267) 182 at_179 rfl (fun hn => c_size l Z a0 hw o1267 (2 : Int32) _ n0 hn F51310) E1310 (wd_74 hw) (wd_75 hw) (wd_77 hw) rfl (wd_76 hw) (wd_3 hw) (wd_78 hw) (by decide) pd_8 rfl rfl rfl (by decide) 0 (Nat.le_of_ble_eq_true rfl) (by decide) (by decide) (by decide) ?_
    rintro v1313 h1313 ⟨rfl, rfl⟩
    show W _ _ _ _ _ _ _ _ _ _ _ 6 47 182 #[.val (.int p0), .val (.int p1), .val (.int p2), .val (.int p3), .val (.int p4), .val (.int p5), .val (.int (1 : Int32)), .val (.ref o1267), .val (.ref b1277), .val (.ref b1282), .val (.int (0 : Int32)), .val (.int (2 : Int32)), .unset] [(.int (2 : Int32))]
    refine W.iload 184 at_182 rfl rfl ?_
    refine W.icmp_eq 189 187 at_184 rfl rfl (fun _ => ?_) (fun hc => absurd (by decide) hc)
    refine W.aload 191 at_189 rfl rfl rfl ?_
    refine W.iconst 192 at_191 rfl (0 : Int32) rfl ?_
    refine W.iconst 193 at_192 rfl (0 : Int32) rfl ?_
    refine W.callV (rest := []) (argsL := [(.int (0 : Int32)), (.int (0 : Int32))]) (a := o1267) 196 at_193 rfl (fun hn => c_val l Z a0 hw o1267 bv1273 (0 : Int32) (0 : Int32) (1 : Int32) p0 _ 0 _ n0 hn F11310 F41310 A11310 (by decide) (by decide) rfl) E1310 (wd_79 hw) (wd_80 hw) (wd_82 hw) rfl (wd_81 hw) (wd_3 hw) (wd_83 hw) (by decide) pd_9 rfl rfl rfl (by decide) 0 (Nat.le_of_ble_eq_true rfl) (by decide) (by decide) (by decide) ?_
    rintro v1314 h1314 ⟨rfl, rfl⟩
    show W _ _ _ _ _ _ _ _ _ _ _ 6 47 196 #[.val (.int p0), .val (.int p1), .val (.int p2), .val (.int p3), .val (.int p4), .val (.int p5), .val (.int (1 : Int32)), .val (.ref o1267), .val (.ref b1277), .val (.ref b1282), .val (.int (0 : Int32)), .val (.int (2 : Int32)), .unset] [(.int p0)]
    refine W.iloadN 197 at_196 rfl rfl ?_
    refine W.icmp_ne 204 200 at_197 rfl rfl (fun hc => absurd rfl hc) (fun _ => ?_)
    refine W.iconst 201 at_200 rfl (1 : Int32) rfl ?_
    refine W.goto 205 at_201 rfl ?_
    refine W.istore 207 at_205 rfl #[.val (.int p0), .val (.int p1), .val (.int p2), .val (.int p3), .val (.int p4), .val (.int p5), .val (.int (1 : Int32)), .val (.ref o1267), .val (.ref b1277), .val (.ref b1282), .val (.int (0 : Int32)), .val (.int (2 : Int32)), .val (.int (1 : Int32))] rfl ?_
    refine W.iload 209 at_207 rfl rfl ?_
    refine W.iconst 210 at_209 rfl (2 : Int32) rfl ?_
    refine W.icmp_lt 236 213 at_210 rfl rfl (fun _ => ?_) (fun hc => absurd (by decide) hc)
    refine W.iload 238 at_236 rfl rfl ?_
    refine W.iconst 239 at_238 rfl (3 : Int32) rfl ?_
    refine W.icmp_lt 266 242 at_239 rfl rfl (fun _ => ?_) (fun hc => absurd (by decide) hc)
    refine W.iload 268 at_266 rfl rfl ?_
    refine W.if_ne 353 271 at_268 rfl rfl (fun hc => absurd (by decide) hc) (fun _ => ?_)
    refine W.iload 273 at_271 rfl rfl ?_
    refine W.if_eq 291 276 at_273 rfl rfl (fun hc => absurd hc (by decide)) (fun _ => ?_)
    refine W.aload 278 at_276 rfl rfl rfl ?_
    refine W.iconst 279 at_278 rfl (1 : Int32) rfl ?_
    refine W.iconst 280 at_279 rfl (0 : Int32) rfl ?_
    refine W.callV (rest := []) (argsL := [(.int (1 : Int32)), (.int (0 : Int32))]) (a := o1267) 283 at_280 rfl (fun hn => c_val l Z a0 hw o1267 bv1273 (1 : Int32) (0 : Int32) (1 : Int32) p2 _ 1 _ n0 hn F11310 F41310 A11310 (by decide) (by decide) rfl) E1310 (wd_79 hw) (wd_80 hw) (wd_82 hw) rfl (wd_81 hw) (wd_3 hw) (wd_83 hw) (by decide) pd_9 rfl rfl rfl (by decide) 0 (Nat.le_of_ble_eq_true rfl) (by decide) (by decide) (by decide) ?_
    rintro v1315 h1315 ⟨rfl, rfl⟩
    show W _ _ _ _ _ _ _ _ _ _ _ 6 47 283 #[.val (.int p0), .val (.int p1), .val (.int p2), .val (.int p3), .val (.int p4), .val (.int p5), .val (.int (1 : Int32)), .val (.ref o1267), .val (.ref b1277), .val (.ref b1282), .val (.int (0 : Int32)), .val (.int (2 : Int32)), .val (.int (1 : Int32))] [(.int p2)]
    refine W.iloadN 284 at_283 rfl rfl ?_
    refine W.icmp_ne 291 287 at_284 rfl rfl (fun hc => absurd rfl hc) (fun _ => ?_)
    refine W.iconst 288 at_287 rfl (1 : Int32) rfl ?_
    refine W.goto 292 at_288 rfl ?_
    refine W.istore 294 at_292 rfl #[.val (.int p0), .val (.int p1), .val (.int p2), .val (.int p3), .val (.int p4), .val (.int p5), .val (.int (1 : Int32)), .val (.ref o1267), .val (.ref b1277), .val (.ref b1282), .val (.int (0 : Int32)), .val (.int (2 : Int32)), .val (.int (1 : Int32))] rfl ?_
    refine W.iload 296 at_294 rfl rfl ?_
    refine W.iconst 297 at_296 rfl (2 : Int32) rfl ?_
    refine W.icmp_lt 323 300 at_297 rfl rfl (fun _ => ?_) (fun hc => absurd (by decide) hc)
    refine W.iload 325 at_323 rfl rfl ?_
    refine W.iconst 326 at_325 rfl (3 : Int32) rfl ?_
    refine W.icmp_lt 353 329 at_326 rfl rfl (fun _ => ?_) (fun hc => absurd (by decide) hc)
    refine W.iload 355 at_353 rfl rfl ?_
    exact W.ireturnN (t := .boolean) at_355 rfl (by simp) (1 : Int32) rfl rfl (by decide) (by decide)
set_option maxRecDepth 65536 in
set_option maxHeartbeats 40000000 in
theorem law_2 (l : Launch) (Z : State) (a0 : Array Value) (hw : ∀ d ∈ tables_1, d.before a0 Z = true) (p0 p1 p2 p3 p4 p5 : Int32) (h : Heap) (n0 : Nat) (hn : n0 ≤ h.size) (hN : ((1 : Int32) + ((p5 &&& (2147483647 : Int32)) % (3 : Int32))) = (2 : Int32)) : ConW tables_1 l Z x code maxLocals ret room_1 #[(.int p0), (.int p1), (.int p2), (.int p3), (.int p4), (.int p5)] h n0 (fun r _ => r = some (.int 1)) := by
  refine ConW.of_W (Ls := #[.val (.int p0), .val (.int p1), .val (.int p2), .val (.int p3), .val (.int p4), .val (.int p5), .unset, .unset, .unset, .unset, .unset, .unset, .unset]) (plainFor_of_name pn_4) hn (fun m => by first | (simp [entryFrame, mkF, argsToLocals, Value.category, maxLocals]; done) | rfl) ?_
  refine W.iconst 1 at_0 rfl (1 : Int32) rfl ?_
  refine W.iload 3 at_1 rfl rfl ?_
  refine W.ldcI 5 at_3 rfl (wd_0 hw) ?_
  refine W.iand 6 at_5 rfl (p5 &&& (2147483647 : Int32)) rfl ?_
  refine W.iconst 7 at_6 rfl (3 : Int32) rfl ?_
  refine W.irem 8 at_7 rfl (by decide) ((p5 &&& (2147483647 : Int32)) % (3 : Int32)) rfl ?_
  refine W.iadd 9 at_8 rfl (2 : Int32) hN ?_
  refine W.istore 11 at_9 rfl #[.val (.int p0), .val (.int p1), .val (.int p2), .val (.int p3), .val (.int p4), .val (.int p5), .val (.int (2 : Int32)), .unset, .unset, .unset, .unset, .unset, .unset] rfl ?_
  refine W.new 14 at_11 rfl (wd_1 hw) (wd_2 hw) (wd_3 hw) (by decide) (by decide) ?_
  intro h1316 o1316 g1316 ge1316 X1316 K1316 E1316 D1316
  have f1317 : Fld _ _ o1316 "com/example/pathweave/pathweave/eval/Relation" "values" "[I" .null := D1316 (Or.inl (wd_12 hw)) (ty := (.array .int)) (by decide)
  have f1318 : Fld _ _ o1316 "com/example/pathweave/pathweave/eval/Relation" "slots" "[I" .null := D1316 (Or.inl (wd_21 hw)) (ty := (.array .int)) (by decide)
  have f1319 : Fld _ _ o1316 "com/example/pathweave/pathweave/eval/Relation" "indexes" "Ljava/util/Map;" .null := D1316 (Or.inr (wd_39 hw)) (ty := (.object "java/util/Map")) (by decide)
  have f1320 : Fld _ _ o1316 "com/example/pathweave/pathweave/eval/Relation" "arity" "I" (.int (0 : Int32)) := D1316 (Or.inr (wd_41 hw)) (ty := .int) (by decide)
  have f1321 : Fld _ _ o1316 "com/example/pathweave/pathweave/eval/Relation" "size" "I" (.int (0 : Int32)) := D1316 (Or.inl (wd_56 hw)) (ty := .int) (by decide)
  show W _ _ _ _ _ _ _ _ _ _ _ 1 5 14 #[.val (.int p0), .val (.int p1), .val (.int p2), .val (.int p3), .val (.int p4), .val (.int p5), .val (.int (2 : Int32)), .unset, .unset, .unset, .unset, .unset, .unset] [(.ref o1316)]
  refine W.dup 15 at_14 rfl rfl ?_
  refine W.iload 17 at_15 rfl rfl ?_
  refine W.callInit (rest := [(.ref o1316)]) (argsL := [(.int (2 : Int32))]) (a := o1316) 20 at_17 rfl (fun hn => c_in l Z a0 hw o1316 (2 : Int32) _ n0 hn ge1316 E1316 f1317 f1318 f1319 f1320 f1321) rfl (wd_4 hw) (wd_5 hw) (wd_3 hw) (wd_6 hw) (by decide) pd_6 rfl rfl rfl (by decide) 1 (Nat.le_of_ble_eq_true rfl) (by decide) (by decide) (by decide) ?_
  rintro v1322 h1322 ⟨rfl, bv1322, bs1322, m1322, ⟨sz11322, sz21322, sz31322⟩, ⟨g11322, g21322, g31322⟩, ⟨n11322, n21322, n31322, n41322, n51322, n61322⟩, K1322, ⟨E1322, F11322, F21322, F31322, F41322, F51322, A11322, A21322, E21322, G11322, G21322⟩⟩
  have ne1323 : o1316 ≠ bv1322 := Nat.ne_of_lt (Nat.lt_of_lt_of_le E1316.lt sz11322)
  have ne1324 : o1316 ≠ bs1322 := Nat.ne_of_lt (Nat.lt_of_lt_of_le E1316.lt sz21322)
  have ne1325 : o1316 ≠ m1322 := Nat.ne_of_lt (Nat.lt_of_lt_of_le E1316.lt sz31322)
  show W _ _ _ _ _ _ _ _ _ _ _ 4 45 20 #[.val (.int p0), .val (.int p1), .val (.int p2), .val (.int p3), .val (.int p4), .val (.int p5), .val (.int (2 : Int32)), .unset, .unset, .unset, .unset, .unset, .unset] [(.ref o1316)]
  refine W.astore 22 at_20 rfl rfl #[.val (.int p0), .val (.int p1), .val (.int p2), .val (.int p3), .val (.int p4), .val (.int p5), .val (.int (2 : Int32)), .val (.ref o1316), .unset, .unset, .unset, .unset, .unset] rfl ?_
  refine W.iload 24 at_22 rfl rfl ?_
  refine W.newarray 26 at_24 rfl (wd_10 hw) rfl (by decide) 2 2 (by decide) (by decide) (by decide) (by decide) (by decide) rfl ?_
  intro h1326 b1326 g1326 ge1326 X1326 K1326 A1326
  have ne1327 : bs1322 ≠ b1326 := Nat.ne_of_lt (Nat.lt_of_lt_of_eq A21322.lt g1326.symm)
  have ne1328 : bv1322 ≠ b1326 := Nat.ne_of_lt (Nat.lt_of_lt_of_eq A11322.lt g1326.symm)
  have ne1329 : m1322 ≠ b1326 := Nat.ne_of_lt (Nat.lt_of_lt_of_eq E21322.lt g1326.symm)
  have ne1330 : o1316 ≠ b1326 := Nat.ne_of_lt (Nat.lt_of_lt_of_eq E1322.lt g1326.symm)
  have A1326 : Ary _ _ b1326 .int [(.int (0 : Int32)), (.int (0 : Int32))] := A1326
  show W _ _ _ _ _ _ _ _ _ _ _ 5 47 26 #[.val (.int p0), .val (.int p1), .val (.int p2), .val (.int p3), .val (.int p4), .val (.int p5), .val (.int (2 : Int32)), .val (.ref o1316), .unset, .unset, .unset, .unset, .unset] [(.ref b1326)]
  refine W.astore 28 at_26 rfl rfl #[.val (.int p0), .val (.int p1), .val (.int p2), .val (.int p3), .val (.int p4), .val (.int p5), .val (.int (2 : Int32)), .val (.ref o1316), .val (.ref b1326), .unset, .unset, .unset, .unset] rfl ?_
  refine W.iload 30 at_28 rfl rfl ?_
  refine W.newarray 32 at_30 rfl (wd_10 hw) rfl (by decide) 2 2 (by decide) (by decide) (by decide) (by decide) (by decide) rfl ?_
  intro h1331 b1331 g1331 ge1331 X1331 K1331 A1331
  have ne1332 : b1326 ≠ b1331 := Nat.ne_of_lt (Nat.lt_of_lt_of_eq A1326.lt g1331.symm)
  have q1333 := (A21322.keep K1326 nin0)
  have ne1334 : bs1322 ≠ b1331 := Nat.ne_of_lt (Nat.lt_of_lt_of_eq q1333.lt g1331.symm)
  have q1335 := (A11322.keep K1326 nin0)
  have ne1336 : bv1322 ≠ b1331 := Nat.ne_of_lt (Nat.lt_of_lt_of_eq q1335.lt g1331.symm)
  have q1337 := (E21322.keep K1326)
  have ne1338 : m1322 ≠ b1331 := Nat.ne_of_lt (Nat.lt_of_lt_of_eq q1337.lt g1331.symm)
  have q1339 := (E1322.keep K1326)
  have ne1340 : o1316 ≠ b1331 := Nat.ne_of_lt (Nat.lt_of_lt_of_eq q1339.lt g1331.symm)
  have A1331 : Ary _ _ b1331 .int [(.int (0 : Int32)), (.int (0 : Int32))] := A1331
  show W _ _ _ _ _ _ _ _ _ _ _ 6 49 32 #[.val (.int p0), .val (.int p1), .val (.int p2), .val (.int p3), .val (.int p4), .val (.int p5), .val (.int (2 : Int32)), .val (.ref o1316), .val (.ref b1326), .unset, .unset, .unset, .unset] [(.ref b1331)]
  refine W.astore 34 at_32 rfl rfl #[.val (.int p0), .val (.int p1), .val (.int p2), .val (.int p3), .val (.int p4), .val (.int p5), .val (.int (2 : Int32)), .val (.ref o1316), .val (.ref b1326), .val (.ref b1331), .unset, .unset, .unset] rfl ?_
  refine W.aload 36 at_34 rfl rfl rfl ?_
  refine W.iconst 37 at_36 rfl (0 : Int32) rfl ?_
  refine W.iloadN 38 at_37 rfl rfl ?_
  have q1341 := (A1326.keep K1331 nin0)
  refine W.iastore 39 at_38 rfl q1341 0 (by decide) (by decide) (Nat.le_of_ble_eq_true rfl) ge1326 ?_
  intro h1342 W1342 K1342 A1342
  have A1342 : Ary _ _ b1326 .int [(.int p0), (.int (0 : Int32))] := A1342
  refine W.aload 41 at_39 rfl rfl rfl ?_
  refine W.iconst 42 at_41 rfl (0 : Int32) rfl ?_
  refine W.iloadN 43 at_42 rfl rfl ?_
  have q1343 := (A1331.keep K1342 (ninS (Ne.symm ne1332) nin0))
  refine W.iastore 44 at_43 rfl q1343 0 (by decide) (by decide) (Nat.le_of_ble_eq_true rfl) ge1331 ?_
  intro h1344 W1344 K1344 A1344
  have A1344 : Ary _ _ b1331 .int [(.int p2), (.int (0 : Int32))] := A1344
  refine W.iload 46 at_44 rfl rfl ?_
  refine W.iconst 47 at_46 rfl (2 : Int32) rfl ?_
  refine W.icmp_lt 60 50 at_47 rfl rfl (fun hc => absurd hc (by decide)) (fun _ => ?_)
  refine W.aload 52 at_50 rfl rfl rfl ?_
  refine W.iconst 53 at_52 rfl (1 : Int32) rfl ?_
  refine W.iloadN 54 at_53 rfl rfl ?_
  have q1345 := (A1342.keep K1344 (ninS ne1332 nin0))
  refine W.iastore 55 at_54 rfl q1345 1 (by decide) (by decide) (Nat.le_of_ble_eq_true rfl) ge1326 ?_
  intro h1346 W1346 K1346 A1346
  have A1346 : Ary _ _ b1326 .int [(.int p0), (.int p1)] := A1346
  refine W.aload 57 at_55 rfl rfl rfl ?_
  refine W.iconst 58 at_57 rfl (1 : Int32) rfl ?_
  refine W.iloadN 59 at_58 rfl rfl ?_
  have q1347 := (A1344.keep K1346 (ninS (Ne.symm ne1332) nin0))
  refine W.iastore 60 at_59 rfl q1347 1 (by decide) (by decide) (Nat.le_of_ble_eq_true rfl) ge1331 ?_
  intro h1348 W1348 K1348 A1348
  have A1348 : Ary _ _ b1331 .int [(.int p2), (.int p3)] := A1348
  refine W.iload 62 at_60 rfl rfl ?_
  refine W.iconst 63 at_62 rfl (3 : Int32) rfl ?_
  refine W.icmp_lt 78 66 at_63 rfl rfl (fun _ => ?_) (fun hc => absurd (by decide) hc)
  refine W.aload 80 at_78 rfl rfl rfl ?_
  refine W.aload 82 at_80 rfl rfl rfl ?_
  have q1349 := (((((q1339.keep K1331).keep K1342).keep K1344).keep K1346).keep K1348)
  have q1350 := ((((((F11322.keep K1326 nin0).keep K1331 nin0).keep K1342 (ninS ne1330 nin0)).keep K1344 (ninS ne1340 nin0)).keep K1346 (ninS ne1330 nin0)).keep K1348 (ninS ne1340 nin0))
  have q1351 := ((((((F21322.keep K1326 nin0).keep K1331 nin0).keep K1342 (ninS ne1330 nin0)).keep K1344 (ninS ne1340 nin0)).keep K1346 (ninS ne1330 nin0)).keep K1348 (ninS ne1340 nin0))
  have q1352 := ((((((F31322.keep K1326 nin0).keep K1331 nin0).keep K1342 (ninS ne1330 nin0)).keep K1344 (ninS ne1340 nin0)).keep K1346 (ninS ne1330 nin0)).keep K1348 (ninS ne1340 nin0))
  have q1353 := ((((((F41322.keep K1326 nin0).keep K1331 nin0).keep K1342 (ninS ne1330 nin0)).keep K1344 (ninS ne1340 nin0)).keep K1346 (ninS ne1330 nin0)).keep K1348 (ninS ne1340 nin0))
  have q1354 := ((((((F51322.keep K1326 nin0).keep K1331 nin0).keep K1342 (ninS ne1330 nin0)).keep K1344 (ninS ne1340 nin0)).keep K1346 (ninS ne1330 nin0)).keep K1348 (ninS ne1340 nin0))
  have q1355 := (((((q1335.keep K1331 nin0).keep K1342 (ninS ne1328 nin0)).keep K1344 (ninS ne1336 nin0)).keep K1346 (ninS ne1328 nin0)).keep K1348 (ninS ne1336 nin0))
  have q1356 := (((((q1333.keep K1331 nin0).keep K1342 (ninS ne1327 nin0)).keep K1344 (ninS ne1334 nin0)).keep K1346 (ninS ne1327 nin0)).keep K1348 (ninS ne1334 nin0))
  have q1357 := (A1346.keep K1348 (ninS ne1332 nin0))
  have q1358 := (((((q1337.keep K1331).keep K1342).keep K1344).keep K1346).keep K1348)
  have q1359 := ((((((G11322.keep K1326 nin0).keep K1331 nin0).keep K1342 (ninS ne1329 nin0)).keep K1344 (ninS ne1338 nin0)).keep K1346 (ninS ne1329 nin0)).keep K1348 (ninS ne1338 nin0))
  have q1360 := ((((((G21322.keep K1326 nin0).keep K1331 nin0).keep K1342 (ninS ne1329 nin0)).keep K1344 (ninS ne1338 nin0)).keep K1346 (ninS ne1329 nin0)).keep K1348 (ninS ne1338 nin0))
  refine W.callV (rest := []) (argsL := [(.ref b1326)]) (a := o1316) 85 at_82 rfl (fun hn => c_a0_2 l Z a0 hw o1316 bv1322 bs1322 m1322 b1326 p0 p1 (0 : Int32) _ n0 hn ge1316 g11322 g21322 g31322 n11322 n21322 n31322 ne1330 n41322 n51322 ne1328 n61322 ne1327 ne1329 q1349 q1350 q1351 q1352 q1353 q1354 q1355 q1356 q1357 q1358 q1359 q1360) q1349 (wd_42 hw) (wd_43 hw) (wd_45 hw) rfl (wd_44 hw) (wd_3 hw) (wd_46 hw) (by decide) pd_7 rfl rfl rfl (by decide) 0 (Nat.le_of_ble_eq_true rfl) (by decide) (by decide) (by decide) ?_
  rintro v1361 h1361 ⟨rfl, K1361, ⟨E1361, F11361, F41361, F51361, A11361⟩, F21361, A21361, F31361, E21361, G11361, G21361⟩
  show W _ _ _ _ _ _ _ _ _ _ _ 6 49 85 #[.val (.int p0), .val (.int p1), .val (.int p2), .val (.int p3), .val (.int p4), .val (.int p5), .val (.int (2 : Int32)), .val (.ref o1316), .val (.ref b1326), .val (.ref b1331), .unset, .unset, .unset] [(.int (1 : Int32))]
  refine W.pop1 86 at_85 rfl rfl ?_
  refine W.aload 88 at_86 rfl rfl rfl ?_
  refine W.aload 90 at_88 rfl rfl rfl ?_
  have q1362 := (A1348.keep K1361 (ninS (Ne.symm ne1340) (ninS (Ne.symm ne1336) (ninS (Ne.symm ne1334) (ninS (Ne.symm ne1338) nin0)))))
  refine W.callV (rest := []) (argsL := [(.ref b1331)]) (a := o1316) 93 at_90 rfl (fun hn => c_a1_2 l Z a0 hw o1316 bv1322 bs1322 m1322 b1331 p0 p1 p2 p3 ((0 : Int32) + (1 : Int32)) _ n0 hn ge1316 g11322 g21322 g31322 n11322 n21322 n31322 ne1340 n41322 n51322 ne1336 n61322 ne1334 ne1338 E1361 F11361 F21361 F31361 F41361 F51361 A11361 A21361 q1362 E21361 G11361 G21361) E1361 (wd_42 hw) (wd_43 hw) (wd_45 hw) rfl (wd_44 hw) (wd_3 hw) (wd_46 hw) (by decide) pd_7 rfl rfl rfl (by decide) 0 (Nat.le_of_ble_eq_true rfl) (by decide) (by decide) (by decide) ?_
  rintro v1363 h1363 ⟨⟨zr1363, rfl⟩, K1363, hd1363⟩
  show W _ _ _ _ _ _ _ _ _ _ _ 6 49 93 #[.val (.int p0), .val (.int p1), .val (.int p2), .val (.int p3), .val (.int p4), .val (.int p5), .val (.int (2 : Int32)), .val (.ref o1316), .val (.ref b1326), .val (.ref b1331), .unset, .unset, .unset] [(.int zr1363)]
  rcases hd1363 with ⟨hq1363, E1363, F11363, F41363, F51363, A11363⟩ | ⟨hq1363, E1363, F11363, F41363, F51363, A11363⟩
  · refine W.pop1 94 at_93 rfl rfl ?_
    refine W.iload 96 at_94 rfl rfl ?_
    refine W.iconst 97 at_96 rfl (1 : Int32) rfl ?_
    refine W.icmp_ne 115 100 at_97 rfl rfl (fun _ => ?_) (fun hc => absurd hc (by decide))
    refine W.iload 117 at_115 rfl rfl ?_
    refine W.iconst 118 at_117 rfl (2 : Int32) rfl ?_
    refine W.icmp_ne 141 121 at_118 rfl rfl (fun hc => absurd (by decide) hc) (fun _ => ?_)
    refine W.iloadN 122 at_121 rfl rfl ?_
    refine W.iloadN 123 at_122 rfl rfl ?_
    refine W.icmp_ne 135 126 at_123 rfl rfl (fun hc => absurd hq1363.1 hc) (fun _ => ?_)
    refine W.iloadN 127 at_126 rfl rfl ?_
    refine W.iloadN 128 at_127 rfl rfl ?_
    refine W.icmp_ne 135 131 at_128 rfl rfl (fun hc => absurd hq1363.2 hc) (fun _ => ?_)
    refine W.iconst 132 at_131 rfl (1 : Int32) rfl ?_
    refine W.goto 136 at_132 rfl ?_
    refine W.istore 138 at_136 rfl #[.val (.int p0), .val (.int p1), .val (.int p2), .val (.int p3), .val (.int p4), .val (.int p5), .val (.int (2 : Int32)), .val (.ref o1316), .val (.ref b1326), .val (.ref b1331), .val (.int (1 : Int32)), .unset, .unset] rfl ?_
    refine W.goto 165 at_138 rfl ?_
    refine W.iload 167 at_165 rfl rfl ?_
    refine W.if_eq 174 170 at_167 rfl rfl (fun hc => absurd hc (by decide)) (fun _ => ?_)
    refine W.iconst 171 at_170 rfl (1 : Int32) rfl ?_
    refine W.goto 175 at_171 rfl ?_
    refine W.istore 177 at_175 rfl #[.val (.int p0), .val (.int p1), .val (.int p2), .val (.int p3), .val (.int p4), .val (.int p5), .val (.int (2 : Int32)), .val (.ref o1316), .val (.ref b1326), .val (.ref b1331), .val (.int (1 : Int32)), .val (.int (1 : Int32)), .unset] rfl ?_
    refine W.aload 179 at_177 rfl rfl rfl ?_
    refine W.callV (rest := []) (argsL := []) (a := o1316) 182 at_179 rfl (fun hn => c_size l Z a0 hw o1316 (1 : Int32) _ n0 hn F51363) E1363 (wd_74 hw) (wd_75 hw) (wd_77 hw) rfl (wd_76 hw) (wd_3 hw) (wd_78 hw) (by decide) pd_8 rfl rfl rfl (by decide) 0 (Nat.le_of_ble_eq_true rfl) (by decide) (by decide) (by decide) ?_
    rintro v1364 h1364 ⟨rfl, rfl⟩
    show W _ _ _ _ _ _ _ _ _ _ _ 6 49 182 #[.val (.int p0), .val (.int p1), .val (.int p2), .val (.int p3), .val (.int p4), .val (.int p5), .val (.int (2 : Int32)), .val (.ref o1316), .val (.ref b1326), .val (.ref b1331), .val (.int (1 : Int32)), .val (.int (1 : Int32)), .unset] [(.int (1 : Int32))]
    refine W.iload 184 at_182 rfl rfl ?_
    refine W.icmp_eq 189 187 at_184 rfl rfl (fun _ => ?_) (fun hc => absurd (by decide) hc)
    refine W.aload 191 at_189 rfl rfl rfl ?_
    refine W.iconst 192 at_191 rfl (0 : Int32) rfl ?_
    refine W.iconst 193 at_192 rfl (0 : Int32) rfl ?_
    refine W.callV (rest := []) (argsL := [(.int (0 : Int32)), (.int (0 : Int32))]) (a := o1316) 196 at_193 rfl (fun hn => c_val l Z a0 hw o1316 bv1322 (0 : Int32) (0 : Int32) (2 : Int32) p0 _ 0 _ n0 hn F11363 F41363 A11363 (by decide) (by decide) rfl) E1363 (wd_79 hw) (wd_80 hw) (wd_82 hw) rfl (wd_81 hw) (wd_3 hw) (wd_83 hw) (by decide) pd_9 rfl rfl rfl (by decide) 0 (Nat.le_of_ble_eq_true rfl) (by decide) (by decide) (by decide) ?_
    rintro v1365 h1365 ⟨rfl, rfl⟩
    show W _ _ _ _ _ _ _ _ _ _ _ 6 49 196 #[.val (.int p0), .val (.int p1), .val (.int p2), .val (.int p3), .val (.int p4), .val (.int p5), .val (.int (2 : Int32)), .val (.ref o1316), .val (.ref b1326), .val (.ref b1331), .val (.int (1 : Int32)), .val (.int (1 : Int32)), .unset] [(.int p0)]
    refine W.iloadN 197 at_196 rfl rfl ?_
    refine W.icmp_ne 204 200 at_197 rfl rfl (fun hc => absurd rfl hc) (fun _ => ?_)
    refine W.iconst 201 at_200 rfl (1 : Int32) rfl ?_
    refine W.goto 205 at_201 rfl ?_
    refine W.istore 207 at_205 rfl #[.val (.int p0), .val (.int p1), .val (.int p2), .val (.int p3), .val (.int p4), .val (.int p5), .val (.int (2 : Int32)), .val (.ref o1316), .val (.ref b1326), .val (.ref b1331), .val (.int (1 : Int32)), .val (.int (1 : Int32)), .val (.int (1 : Int32))] rfl ?_
    refine W.iload 209 at_207 rfl rfl ?_
    refine W.iconst 210 at_209 rfl (2 : Int32) rfl ?_
    refine W.icmp_lt 236 213 at_210 rfl rfl (fun hc => absurd hc (by decide)) (fun _ => ?_)
    refine W.iload 215 at_213 rfl rfl ?_
    refine W.if_eq 233 218 at_215 rfl rfl (fun hc => absurd hc (by decide)) (fun _ => ?_)
    refine W.aload 220 at_218 rfl rfl rfl ?_
    refine W.iconst 221 at_220 rfl (0 : Int32) rfl ?_
    refine W.iconst 222 at_221 rfl (1 : Int32) rfl ?_
    refine W.callV (rest := []) (argsL := [(.int (0 : Int32)), (.int (1 : Int32))]) (a := o1316) 225 at_222 rfl (fun hn => c_val l Z a0 hw o1316 bv1322 (0 : Int32) (1 : Int32) (2 : Int32) p1 _ 1 _ n0 hn F11363 F41363 A11363 (by decide) (by decide) rfl) E1363 (wd_79 hw) (wd_80 hw) (wd_82 hw) rfl (wd_81 hw) (wd_3 hw) (wd_83 hw) (by decide) pd_9 rfl rfl rfl (by decide) 0 (Nat.le_of_ble_eq_true rfl) (by decide) (by decide) (by decide) ?_
    rintro v1366 h1366 ⟨rfl, rfl⟩
    show W _ _ _ _ _ _ _ _ _ _ _ 6 49 225 #[.val (.int p0), .val (.int p1), .val (.int p2), .val (.int p3), .val (.int p4), .val (.int p5), .val (.int (2 : Int32)), .val (.ref o1316), .val (.ref b1326), .val (.ref b1331), .val (.int (1 : Int32)), .val (.int (1 : Int32)), .val (.int (1 : Int32))] [(.int p1)]
    refine W.iloadN 226 at_225 rfl rfl ?_
    refine W.icmp_ne 233 229 at_226 rfl rfl (fun hc => absurd rfl hc) (fun _ => ?_)
    refine W.iconst 230 at_229 rfl (1 : Int32) rfl ?_
    refine W.goto 234 at_230 rfl ?_
    refine W.istore 236 at_234 rfl #[.val (.int p0), .val (.int p1), .val (.int p2), .val (.int p3), .val (.int p4), .val (.int p5), .val (.int (2 : Int32)), .val (.ref o1316), .val (.ref b1326), .val (.ref b1331), .val (.int (1 : Int32)), .val (.int (1 : Int32)), .val (.int (1 : Int32))] rfl ?_
    refine W.iload 238 at_236 rfl rfl ?_
    refine W.iconst 239 at_238 rfl (3 : Int32) rfl ?_
    refine W.icmp_lt 266 242 at_239 rfl rfl (fun _ => ?_) (fun hc => absurd (by decide) hc)
    refine W.iload 268 at_266 rfl rfl ?_
    refine W.if_ne 353 271 at_268 rfl rfl (fun _ => ?_) (fun hc => absurd hc (by decide))
    refine W.iload 355 at_353 rfl rfl ?_
    exact W.ireturnN (t := .boolean) at_355 rfl (by simp) (1 : Int32) rfl rfl (by decide) (by decide)
  · refine W.pop1 94 at_93 rfl rfl ?_
    refine W.iload 96 at_94 rfl rfl ?_
    refine W.iconst 97 at_96 rfl (1 : Int32) rfl ?_
    refine W.icmp_ne 115 100 at_97 rfl rfl (fun _ => ?_) (fun hc => absurd hc (by decide))
    refine W.iload 117 at_115 rfl rfl ?_
    refine W.iconst 118 at_117 rfl (2 : Int32) rfl ?_
    refine W.icmp_ne 141 121 at_118 rfl rfl (fun hc => absurd (by decide) hc) (fun _ => ?_)
    refine W.iloadN 122 at_121 rfl rfl ?_
    refine W.iloadN 123 at_122 rfl rfl ?_
    refine W.icmp_ne 135 126 at_123 rfl rfl ?_ ?_
    · intro hc1367
      refine W.iconst 136 at_135 rfl (0 : Int32) rfl ?_
      refine W.istore 138 at_136 rfl #[.val (.int p0), .val (.int p1), .val (.int p2), .val (.int p3), .val (.int p4), .val (.int p5), .val (.int (2 : Int32)), .val (.ref o1316), .val (.ref b1326), .val (.ref b1331), .val (.int (0 : Int32)), .unset, .unset] rfl ?_
      refine W.goto 165 at_138 rfl ?_
      refine W.iload 167 at_165 rfl rfl ?_
      refine W.if_eq 174 170 at_167 rfl rfl (fun _ => ?_) (fun hc => absurd (by decide) hc)
      refine W.iconst 175 at_174 rfl (2 : Int32) rfl ?_
      refine W.istore 177 at_175 rfl #[.val (.int p0), .val (.int p1), .val (.int p2), .val (.int p3), .val (.int p4), .val (.int p5), .val (.int (2 : Int32)), .val (.ref o1316), .val (.ref b1326), .val (.ref b1331), .val (.int (0 : Int32)), .val (.int (2 : Int32)), .unset] rfl ?_
      refine W.aload 179 at_177 rfl rfl rfl ?_
      refine W.callV (rest := []) (argsL := []) (a := o1316) 182 at_179 rfl (fun hn => c_size l Z a0 hw o1316 (2 : Int32) _ n0 hn F51363) E1363 (wd_74 hw) (wd_75 hw) (wd_77 hw) rfl (wd_76 hw) (wd_3 hw) (wd_78 hw) (by decide) pd_8 rfl rfl rfl (by decide) 0 (Nat.le_of_ble_eq_true rfl) (by decide) (by decide) (by decide) ?_
      rintro v1368 h1368 ⟨rfl, rfl⟩
      show W _ _ _ _ _ _ _ _ _ _ _ 6 49 182 #[.val (.int p0), .val (.int p1), .val (.int p2), .val (.int p3), .val (.int p4), .val (.int p5), .val (.int (2 : Int32)), .val (.ref o1316), .val (.ref b1326), .val (.ref b1331), .val (.int (0 : Int32)), .val (.int (2 : Int32)), .unset] [(.int (2 : Int32))]
      refine W.iload 184 at_182 rfl rfl ?_
      refine W.icmp_eq 189 187 at_184 rfl rfl (fun _ => ?_) (fun hc => absurd (by decide) hc)
      refine W.aload 191 at_189 rfl rfl rfl ?_
      refine W.iconst 192 at_191 rfl (0 : Int32) rfl ?_
      refine W.iconst 193 at_192 rfl (0 : Int32) rfl ?_
      refine W.callV (rest := []) (argsL := [(.int (0 : Int32)), (.int (0 : Int32))]) (a := o1316) 196 at_193 rfl (fun hn => c_val l Z a0 hw o1316 bv1322 (0 : Int32) (0 : Int32) (2 : Int32) p0 _ 0 _ n0 hn F11363 F41363 A11363 (by decide) (by decide) rfl) E1363 (wd_79 hw) (wd_80 hw) (wd_82 hw) rfl (wd_81 hw) (wd_3 hw) (wd_83 hw) (by decide) pd_9 rfl rfl rfl (by decide) 0 (Nat.le_of_ble_eq_true rfl) (by decide) (by decide) (by decide) ?_
      rintro v1369 h1369 ⟨rfl, rfl⟩
      show W _ _ _ _ _ _ _ _ _ _ _ 6 49 196 #[.val (.int p0), .val (.int p1), .val (.int p2), .val (.int p3), .val (.int p4), .val (.int p5), .val (.int (2 : Int32)), .val (.ref o1316), .val (.ref b1326), .val (.ref b1331), .val (.int (0 : Int32)), .val (.int (2 : Int32)), .unset] [(.int p0)]
      refine W.iloadN 197 at_196 rfl rfl ?_
      refine W.icmp_ne 204 200 at_197 rfl rfl (fun hc => absurd rfl hc) (fun _ => ?_)
      refine W.iconst 201 at_200 rfl (1 : Int32) rfl ?_
      refine W.goto 205 at_201 rfl ?_
      refine W.istore 207 at_205 rfl #[.val (.int p0), .val (.int p1), .val (.int p2), .val (.int p3), .val (.int p4), .val (.int p5), .val (.int (2 : Int32)), .val (.ref o1316), .val (.ref b1326), .val (.ref b1331), .val (.int (0 : Int32)), .val (.int (2 : Int32)), .val (.int (1 : Int32))] rfl ?_
      refine W.iload 209 at_207 rfl rfl ?_
      refine W.iconst 210 at_209 rfl (2 : Int32) rfl ?_
      refine W.icmp_lt 236 213 at_210 rfl rfl (fun hc => absurd hc (by decide)) (fun _ => ?_)
      refine W.iload 215 at_213 rfl rfl ?_
      refine W.if_eq 233 218 at_215 rfl rfl (fun hc => absurd hc (by decide)) (fun _ => ?_)
      refine W.aload 220 at_218 rfl rfl rfl ?_
      refine W.iconst 221 at_220 rfl (0 : Int32) rfl ?_
      refine W.iconst 222 at_221 rfl (1 : Int32) rfl ?_
      refine W.callV (rest := []) (argsL := [(.int (0 : Int32)), (.int (1 : Int32))]) (a := o1316) 225 at_222 rfl (fun hn => c_val l Z a0 hw o1316 bv1322 (0 : Int32) (1 : Int32) (2 : Int32) p1 _ 1 _ n0 hn F11363 F41363 A11363 (by decide) (by decide) rfl) E1363 (wd_79 hw) (wd_80 hw) (wd_82 hw) rfl (wd_81 hw) (wd_3 hw) (wd_83 hw) (by decide) pd_9 rfl rfl rfl (by decide) 0 (Nat.le_of_ble_eq_true rfl) (by decide) (by decide) (by decide) ?_
      rintro v1370 h1370 ⟨rfl, rfl⟩
      show W _ _ _ _ _ _ _ _ _ _ _ 6 49 225 #[.val (.int p0), .val (.int p1), .val (.int p2), .val (.int p3), .val (.int p4), .val (.int p5), .val (.int (2 : Int32)), .val (.ref o1316), .val (.ref b1326), .val (.ref b1331), .val (.int (0 : Int32)), .val (.int (2 : Int32)), .val (.int (1 : Int32))] [(.int p1)]
      refine W.iloadN 226 at_225 rfl rfl ?_
      refine W.icmp_ne 233 229 at_226 rfl rfl (fun hc => absurd rfl hc) (fun _ => ?_)
      refine W.iconst 230 at_229 rfl (1 : Int32) rfl ?_
      refine W.goto 234 at_230 rfl ?_
      refine W.istore 236 at_234 rfl #[.val (.int p0), .val (.int p1), .val (.int p2), .val (.int p3), .val (.int p4), .val (.int p5), .val (.int (2 : Int32)), .val (.ref o1316), .val (.ref b1326), .val (.ref b1331), .val (.int (0 : Int32)), .val (.int (2 : Int32)), .val (.int (1 : Int32))] rfl ?_
      refine W.iload 238 at_236 rfl rfl ?_
      refine W.iconst 239 at_238 rfl (3 : Int32) rfl ?_
      refine W.icmp_lt 266 242 at_239 rfl rfl (fun _ => ?_) (fun hc => absurd (by decide) hc)
      refine W.iload 268 at_266 rfl rfl ?_
      refine W.if_ne 353 271 at_268 rfl rfl (fun hc => absurd (by decide) hc) (fun _ => ?_)
      refine W.iload 273 at_271 rfl rfl ?_
      refine W.if_eq 291 276 at_273 rfl rfl (fun hc => absurd hc (by decide)) (fun _ => ?_)
      refine W.aload 278 at_276 rfl rfl rfl ?_
      refine W.iconst 279 at_278 rfl (1 : Int32) rfl ?_
      refine W.iconst 280 at_279 rfl (0 : Int32) rfl ?_
      refine W.callV (rest := []) (argsL := [(.int (1 : Int32)), (.int (0 : Int32))]) (a := o1316) 283 at_280 rfl (fun hn => c_val l Z a0 hw o1316 bv1322 (1 : Int32) (0 : Int32) (2 : Int32) p2 _ 2 _ n0 hn F11363 F41363 A11363 (by decide) (by decide) rfl) E1363 (wd_79 hw) (wd_80 hw) (wd_82 hw) rfl (wd_81 hw) (wd_3 hw) (wd_83 hw) (by decide) pd_9 rfl rfl rfl (by decide) 0 (Nat.le_of_ble_eq_true rfl) (by decide) (by decide) (by decide) ?_
      rintro v1371 h1371 ⟨rfl, rfl⟩
      show W _ _ _ _ _ _ _ _ _ _ _ 6 49 283 #[.val (.int p0), .val (.int p1), .val (.int p2), .val (.int p3), .val (.int p4), .val (.int p5), .val (.int (2 : Int32)), .val (.ref o1316), .val (.ref b1326), .val (.ref b1331), .val (.int (0 : Int32)), .val (.int (2 : Int32)), .val (.int (1 : Int32))] [(.int p2)]
      refine W.iloadN 284 at_283 rfl rfl ?_
      refine W.icmp_ne 291 287 at_284 rfl rfl (fun hc => absurd rfl hc) (fun _ => ?_)
      refine W.iconst 288 at_287 rfl (1 : Int32) rfl ?_
      refine W.goto 292 at_288 rfl ?_
      refine W.istore 294 at_292 rfl #[.val (.int p0), .val (.int p1), .val (.int p2), .val (.int p3), .val (.int p4), .val (.int p5), .val (.int (2 : Int32)), .val (.ref o1316), .val (.ref b1326), .val (.ref b1331), .val (.int (0 : Int32)), .val (.int (2 : Int32)), .val (.int (1 : Int32))] rfl ?_
      refine W.iload 296 at_294 rfl rfl ?_
      refine W.iconst 297 at_296 rfl (2 : Int32) rfl ?_
      refine W.icmp_lt 323 300 at_297 rfl rfl (fun hc => absurd hc (by decide)) (fun _ => ?_)
      refine W.iload 302 at_300 rfl rfl ?_
      refine W.if_eq 320 305 at_302 rfl rfl (fun hc => absurd hc (by decide)) (fun _ => ?_)
      refine W.aload 307 at_305 rfl rfl rfl ?_
      refine W.iconst 308 at_307 rfl (1 : Int32) rfl ?_
      refine W.iconst 309 at_308 rfl (1 : Int32) rfl ?_
      refine W.callV (rest := []) (argsL := [(.int (1 : Int32)), (.int (1 : Int32))]) (a := o1316) 312 at_309 rfl (fun hn => c_val l Z a0 hw o1316 bv1322 (1 : Int32) (1 : Int32) (2 : Int32) p3 _ 3 _ n0 hn F11363 F41363 A11363 (by decide) (by decide) rfl) E1363 (wd_79 hw) (wd_80 hw) (wd_82 hw) rfl (wd_81 hw) (wd_3 hw) (wd_83 hw) (by decide) pd_9 rfl rfl rfl (by decide) 0 (Nat.le_of_ble_eq_true rfl) (by decide) (by decide) (by decide) ?_
      rintro v1372 h1372 ⟨rfl, rfl⟩
      show W _ _ _ _ _ _ _ _ _ _ _ 6 49 312 #[.val (.int p0), .val (.int p1), .val (.int p2), .val (.int p3), .val (.int p4), .val (.int p5), .val (.int (2 : Int32)), .val (.ref o1316), .val (.ref b1326), .val (.ref b1331), .val (.int (0 : Int32)), .val (.int (2 : Int32)), .val (.int (1 : Int32))] [(.int p3)]
      refine W.iloadN 313 at_312 rfl rfl ?_
      refine W.icmp_ne 320 316 at_313 rfl rfl (fun hc => absurd rfl hc) (fun _ => ?_)
      refine W.iconst 317 at_316 rfl (1 : Int32) rfl ?_
      refine W.goto 321 at_317 rfl ?_
      refine W.istore 323 at_321 rfl #[.val (.int p0), .val (.int p1), .val (.int p2), .val (.int p3), .val (.int p4), .val (.int p5), .val (.int (2 : Int32)), .val (.ref o1316), .val (.ref b1326), .val (.ref b1331), .val (.int (0 : Int32)), .val (.int (2 : Int32)), .val (.int (1 : Int32))] rfl ?_
      refine W.iload 325 at_323 rfl rfl ?_
      refine W.iconst 326 at_325 rfl (3 : Int32) rfl ?_
      refine W.icmp_lt 353 329 at_326 rfl rfl (fun _ => ?_) (fun hc => absurd (by decide) hc)
      refine W.iload 355 at_353 rfl rfl ?_
      exact W.ireturnN (t := .boolean) at_355 rfl (by simp) (1 : Int32) rfl rfl (by decide) (by decide)
    · intro hc1367
      refine W.iloadN 127 at_126 rfl rfl ?_
      refine W.iloadN 128 at_127 rfl rfl ?_
      refine W.icmp_ne 135 131 at_128 rfl rfl (fun _ => ?_) (fun hc => absurd hc (fun z => hq1363 ⟨hc1367, z⟩))
      refine W.iconst 136 at_135 rfl (0 : Int32) rfl ?_
      refine W.istore 138 at_136 rfl #[.val (.int p0), .val (.int p1), .val (.int p2), .val (.int p3), .val (.int p4), .val (.int p5), .val (.int (2 : Int32)), .val (.ref o1316), .val (.ref b1326), .val (.ref b1331), .val (.int (0 : Int32)), .unset, .unset] rfl ?_
      refine W.goto 165 at_138 rfl ?_
      refine W.iload 167 at_165 rfl rfl ?_
      refine W.if_eq 174 170 at_167 rfl rfl (fun _ => ?_) (fun hc => absurd (by decide) hc)
      refine W.iconst 175 at_174 rfl (2 : Int32) rfl ?_
      refine W.istore 177 at_175 rfl #[.val (.int p0), .val (.int p1), .val (.int p2), .val (.int p3), .val (.int p4), .val (.int p5), .val (.int (2 : Int32)), .val (.ref o1316), .val (.ref b1326), .val (.ref b1331), .val (.int (0 : Int32)), .val (.int (2 : Int32)), .unset] rfl ?_
      refine W.aload 179 at_177 rfl rfl rfl ?_
      refine W.callV (rest := []) (argsL := []) (a := o1316) 182 at_179 rfl (fun hn => c_size l Z a0 hw o1316 (2 : Int32) _ n0 hn F51363) E1363 (wd_74 hw) (wd_75 hw) (wd_77 hw) rfl (wd_76 hw) (wd_3 hw) (wd_78 hw) (by decide) pd_8 rfl rfl rfl (by decide) 0 (Nat.le_of_ble_eq_true rfl) (by decide) (by decide) (by decide) ?_
      rintro v1373 h1373 ⟨rfl, rfl⟩
      show W _ _ _ _ _ _ _ _ _ _ _ 6 49 182 #[.val (.int p0), .val (.int p1), .val (.int p2), .val (.int p3), .val (.int p4), .val (.int p5), .val (.int (2 : Int32)), .val (.ref o1316), .val (.ref b1326), .val (.ref b1331), .val (.int (0 : Int32)), .val (.int (2 : Int32)), .unset] [(.int (2 : Int32))]
      refine W.iload 184 at_182 rfl rfl ?_
      refine W.icmp_eq 189 187 at_184 rfl rfl (fun _ => ?_) (fun hc => absurd (by decide) hc)
      refine W.aload 191 at_189 rfl rfl rfl ?_
      refine W.iconst 192 at_191 rfl (0 : Int32) rfl ?_
      refine W.iconst 193 at_192 rfl (0 : Int32) rfl ?_
      refine W.callV (rest := []) (argsL := [(.int (0 : Int32)), (.int (0 : Int32))]) (a := o1316) 196 at_193 rfl (fun hn => c_val l Z a0 hw o1316 bv1322 (0 : Int32) (0 : Int32) (2 : Int32) p0 _ 0 _ n0 hn F11363 F41363 A11363 (by decide) (by decide) rfl) E1363 (wd_79 hw) (wd_80 hw) (wd_82 hw) rfl (wd_81 hw) (wd_3 hw) (wd_83 hw) (by decide) pd_9 rfl rfl rfl (by decide) 0 (Nat.le_of_ble_eq_true rfl) (by decide) (by decide) (by decide) ?_
      rintro v1374 h1374 ⟨rfl, rfl⟩
      show W _ _ _ _ _ _ _ _ _ _ _ 6 49 196 #[.val (.int p0), .val (.int p1), .val (.int p2), .val (.int p3), .val (.int p4), .val (.int p5), .val (.int (2 : Int32)), .val (.ref o1316), .val (.ref b1326), .val (.ref b1331), .val (.int (0 : Int32)), .val (.int (2 : Int32)), .unset] [(.int p0)]
      refine W.iloadN 197 at_196 rfl rfl ?_
      refine W.icmp_ne 204 200 at_197 rfl rfl (fun hc => absurd rfl hc) (fun _ => ?_)
      refine W.iconst 201 at_200 rfl (1 : Int32) rfl ?_
      refine W.goto 205 at_201 rfl ?_
      refine W.istore 207 at_205 rfl #[.val (.int p0), .val (.int p1), .val (.int p2), .val (.int p3), .val (.int p4), .val (.int p5), .val (.int (2 : Int32)), .val (.ref o1316), .val (.ref b1326), .val (.ref b1331), .val (.int (0 : Int32)), .val (.int (2 : Int32)), .val (.int (1 : Int32))] rfl ?_
      refine W.iload 209 at_207 rfl rfl ?_
      refine W.iconst 210 at_209 rfl (2 : Int32) rfl ?_
      refine W.icmp_lt 236 213 at_210 rfl rfl (fun hc => absurd hc (by decide)) (fun _ => ?_)
      refine W.iload 215 at_213 rfl rfl ?_
      refine W.if_eq 233 218 at_215 rfl rfl (fun hc => absurd hc (by decide)) (fun _ => ?_)
      refine W.aload 220 at_218 rfl rfl rfl ?_
      refine W.iconst 221 at_220 rfl (0 : Int32) rfl ?_
      refine W.iconst 222 at_221 rfl (1 : Int32) rfl ?_
      refine W.callV (rest := []) (argsL := [(.int (0 : Int32)), (.int (1 : Int32))]) (a := o1316) 225 at_222 rfl (fun hn => c_val l Z a0 hw o1316 bv1322 (0 : Int32) (1 : Int32) (2 : Int32) p1 _ 1 _ n0 hn F11363 F41363 A11363 (by decide) (by decide) rfl) E1363 (wd_79 hw) (wd_80 hw) (wd_82 hw) rfl (wd_81 hw) (wd_3 hw) (wd_83 hw) (by decide) pd_9 rfl rfl rfl (by decide) 0 (Nat.le_of_ble_eq_true rfl) (by decide) (by decide) (by decide) ?_
      rintro v1375 h1375 ⟨rfl, rfl⟩
      show W _ _ _ _ _ _ _ _ _ _ _ 6 49 225 #[.val (.int p0), .val (.int p1), .val (.int p2), .val (.int p3), .val (.int p4), .val (.int p5), .val (.int (2 : Int32)), .val (.ref o1316), .val (.ref b1326), .val (.ref b1331), .val (.int (0 : Int32)), .val (.int (2 : Int32)), .val (.int (1 : Int32))] [(.int p1)]
      refine W.iloadN 226 at_225 rfl rfl ?_
      refine W.icmp_ne 233 229 at_226 rfl rfl (fun hc => absurd rfl hc) (fun _ => ?_)
      refine W.iconst 230 at_229 rfl (1 : Int32) rfl ?_
      refine W.goto 234 at_230 rfl ?_
      refine W.istore 236 at_234 rfl #[.val (.int p0), .val (.int p1), .val (.int p2), .val (.int p3), .val (.int p4), .val (.int p5), .val (.int (2 : Int32)), .val (.ref o1316), .val (.ref b1326), .val (.ref b1331), .val (.int (0 : Int32)), .val (.int (2 : Int32)), .val (.int (1 : Int32))] rfl ?_
      refine W.iload 238 at_236 rfl rfl ?_
      refine W.iconst 239 at_238 rfl (3 : Int32) rfl ?_
      refine W.icmp_lt 266 242 at_239 rfl rfl (fun _ => ?_) (fun hc => absurd (by decide) hc)
      refine W.iload 268 at_266 rfl rfl ?_
      refine W.if_ne 353 271 at_268 rfl rfl (fun hc => absurd (by decide) hc) (fun _ => ?_)
      refine W.iload 273 at_271 rfl rfl ?_
      refine W.if_eq 291 276 at_273 rfl rfl (fun hc => absurd hc (by decide)) (fun _ => ?_)
      refine W.aload 278 at_276 rfl rfl rfl ?_
      refine W.iconst 279 at_278 rfl (1 : Int32) rfl ?_
      refine W.iconst 280 at_279 rfl (0 : Int32) rfl ?_
      refine W.callV (rest := []) (argsL := [(.int (1 : Int32)), (.int (0 : Int32))]) (a := o1316) 283 at_280 rfl (fun hn => c_val l Z a0 hw o1316 bv1322 (1 : Int32) (0 : Int32) (2 : Int32) p2 _ 2 _ n0 hn F11363 F41363 A11363 (by decide) (by decide) rfl) E1363 (wd_79 hw) (wd_80 hw) (wd_82 hw) rfl (wd_81 hw) (wd_3 hw) (wd_83 hw) (by decide) pd_9 rfl rfl rfl (by decide) 0 (Nat.le_of_ble_eq_true rfl) (by decide) (by decide) (by decide) ?_
      rintro v1376 h1376 ⟨rfl, rfl⟩
      show W _ _ _ _ _ _ _ _ _ _ _ 6 49 283 #[.val (.int p0), .val (.int p1), .val (.int p2), .val (.int p3), .val (.int p4), .val (.int p5), .val (.int (2 : Int32)), .val (.ref o1316), .val (.ref b1326), .val (.ref b1331), .val (.int (0 : Int32)), .val (.int (2 : Int32)), .val (.int (1 : Int32))] [(.int p2)]
      refine W.iloadN 284 at_283 rfl rfl ?_
      refine W.icmp_ne 291 287 at_284 rfl rfl (fun hc => absurd rfl hc) (fun _ => ?_)
      refine W.iconst 288 at_287 rfl (1 : Int32) rfl ?_
      refine W.goto 292 at_288 rfl ?_
      refine W.istore 294 at_292 rfl #[.val (.int p0), .val (.int p1), .val (.int p2), .val (.int p3), .val (.int p4), .val (.int p5), .val (.int (2 : Int32)), .val (.ref o1316), .val (.ref b1326), .val (.ref b1331), .val (.int (0 : Int32)), .val (.int (2 : Int32)), .val (.int (1 : Int32))] rfl ?_
      refine W.iload 296 at_294 rfl rfl ?_
      refine W.iconst 297 at_296 rfl (2 : Int32) rfl ?_
      refine W.icmp_lt 323 300 at_297 rfl rfl (fun hc => absurd hc (by decide)) (fun _ => ?_)
      refine W.iload 302 at_300 rfl rfl ?_
      refine W.if_eq 320 305 at_302 rfl rfl (fun hc => absurd hc (by decide)) (fun _ => ?_)
      refine W.aload 307 at_305 rfl rfl rfl ?_
      refine W.iconst 308 at_307 rfl (1 : Int32) rfl ?_
      refine W.iconst 309 at_308 rfl (1 : Int32) rfl ?_
      refine W.callV (rest := []) (argsL := [(.int (1 : Int32)), (.int (1 : Int32))]) (a := o1316) 312 at_309 rfl (fun hn => c_val l Z a0 hw o1316 bv1322 (1 : Int32) (1 : Int32) (2 : Int32) p3 _ 3 _ n0 hn F11363 F41363 A11363 (by decide) (by decide) rfl) E1363 (wd_79 hw) (wd_80 hw) (wd_82 hw) rfl (wd_81 hw) (wd_3 hw) (wd_83 hw) (by decide) pd_9 rfl rfl rfl (by decide) 0 (Nat.le_of_ble_eq_true rfl) (by decide) (by decide) (by decide) ?_
      rintro v1377 h1377 ⟨rfl, rfl⟩
      show W _ _ _ _ _ _ _ _ _ _ _ 6 49 312 #[.val (.int p0), .val (.int p1), .val (.int p2), .val (.int p3), .val (.int p4), .val (.int p5), .val (.int (2 : Int32)), .val (.ref o1316), .val (.ref b1326), .val (.ref b1331), .val (.int (0 : Int32)), .val (.int (2 : Int32)), .val (.int (1 : Int32))] [(.int p3)]
      refine W.iloadN 313 at_312 rfl rfl ?_
      refine W.icmp_ne 320 316 at_313 rfl rfl (fun hc => absurd rfl hc) (fun _ => ?_)
      refine W.iconst 317 at_316 rfl (1 : Int32) rfl ?_
      refine W.goto 321 at_317 rfl ?_
      refine W.istore 323 at_321 rfl #[.val (.int p0), .val (.int p1), .val (.int p2), .val (.int p3), .val (.int p4), .val (.int p5), .val (.int (2 : Int32)), .val (.ref o1316), .val (.ref b1326), .val (.ref b1331), .val (.int (0 : Int32)), .val (.int (2 : Int32)), .val (.int (1 : Int32))] rfl ?_
      refine W.iload 325 at_323 rfl rfl ?_
      refine W.iconst 326 at_325 rfl (3 : Int32) rfl ?_
      refine W.icmp_lt 353 329 at_326 rfl rfl (fun _ => ?_) (fun hc => absurd (by decide) hc)
      refine W.iload 355 at_353 rfl rfl ?_
      exact W.ireturnN (t := .boolean) at_355 rfl (by simp) (1 : Int32) rfl rfl (by decide) (by decide)
set_option maxRecDepth 65536 in
set_option maxHeartbeats 40000000 in
theorem law_3 (l : Launch) (Z : State) (a0 : Array Value) (hw : ∀ d ∈ tables_1, d.before a0 Z = true) (p0 p1 p2 p3 p4 p5 : Int32) (h : Heap) (n0 : Nat) (hn : n0 ≤ h.size) (hN : ((1 : Int32) + ((p5 &&& (2147483647 : Int32)) % (3 : Int32))) = (3 : Int32)) : ConW tables_1 l Z x code maxLocals ret room_1 #[(.int p0), (.int p1), (.int p2), (.int p3), (.int p4), (.int p5)] h n0 (fun r _ => r = some (.int 1)) := by
  refine ConW.of_W (Ls := #[.val (.int p0), .val (.int p1), .val (.int p2), .val (.int p3), .val (.int p4), .val (.int p5), .unset, .unset, .unset, .unset, .unset, .unset, .unset]) (plainFor_of_name pn_4) hn (fun m => by first | (simp [entryFrame, mkF, argsToLocals, Value.category, maxLocals]; done) | rfl) ?_
  refine W.iconst 1 at_0 rfl (1 : Int32) rfl ?_
  refine W.iload 3 at_1 rfl rfl ?_
  refine W.ldcI 5 at_3 rfl (wd_0 hw) ?_
  refine W.iand 6 at_5 rfl (p5 &&& (2147483647 : Int32)) rfl ?_
  refine W.iconst 7 at_6 rfl (3 : Int32) rfl ?_
  refine W.irem 8 at_7 rfl (by decide) ((p5 &&& (2147483647 : Int32)) % (3 : Int32)) rfl ?_
  refine W.iadd 9 at_8 rfl (3 : Int32) hN ?_
  refine W.istore 11 at_9 rfl #[.val (.int p0), .val (.int p1), .val (.int p2), .val (.int p3), .val (.int p4), .val (.int p5), .val (.int (3 : Int32)), .unset, .unset, .unset, .unset, .unset, .unset] rfl ?_
  refine W.new 14 at_11 rfl (wd_1 hw) (wd_2 hw) (wd_3 hw) (by decide) (by decide) ?_
  intro h1378 o1378 g1378 ge1378 X1378 K1378 E1378 D1378
  have f1379 : Fld _ _ o1378 "com/example/pathweave/pathweave/eval/Relation" "values" "[I" .null := D1378 (Or.inl (wd_12 hw)) (ty := (.array .int)) (by decide)
  have f1380 : Fld _ _ o1378 "com/example/pathweave/pathweave/eval/Relation" "slots" "[I" .null := D1378 (Or.inl (wd_21 hw)) (ty := (.array .int)) (by decide)
  have f1381 : Fld _ _ o1378 "com/example/pathweave/pathweave/eval/Relation" "indexes" "Ljava/util/Map;" .null := D1378 (Or.inr (wd_39 hw)) (ty := (.object "java/util/Map")) (by decide)
  have f1382 : Fld _ _ o1378 "com/example/pathweave/pathweave/eval/Relation" "arity" "I" (.int (0 : Int32)) := D1378 (Or.inr (wd_41 hw)) (ty := .int) (by decide)
  have f1383 : Fld _ _ o1378 "com/example/pathweave/pathweave/eval/Relation" "size" "I" (.int (0 : Int32)) := D1378 (Or.inl (wd_56 hw)) (ty := .int) (by decide)
  show W _ _ _ _ _ _ _ _ _ _ _ 1 5 14 #[.val (.int p0), .val (.int p1), .val (.int p2), .val (.int p3), .val (.int p4), .val (.int p5), .val (.int (3 : Int32)), .unset, .unset, .unset, .unset, .unset, .unset] [(.ref o1378)]
  refine W.dup 15 at_14 rfl rfl ?_
  refine W.iload 17 at_15 rfl rfl ?_
  refine W.callInit (rest := [(.ref o1378)]) (argsL := [(.int (3 : Int32))]) (a := o1378) 20 at_17 rfl (fun hn => c_in l Z a0 hw o1378 (3 : Int32) _ n0 hn ge1378 E1378 f1379 f1380 f1381 f1382 f1383) rfl (wd_4 hw) (wd_5 hw) (wd_3 hw) (wd_6 hw) (by decide) pd_6 rfl rfl rfl (by decide) 1 (Nat.le_of_ble_eq_true rfl) (by decide) (by decide) (by decide) ?_
  rintro v1384 h1384 ⟨rfl, bv1384, bs1384, m1384, ⟨sz11384, sz21384, sz31384⟩, ⟨g11384, g21384, g31384⟩, ⟨n11384, n21384, n31384, n41384, n51384, n61384⟩, K1384, ⟨E1384, F11384, F21384, F31384, F41384, F51384, A11384, A21384, E21384, G11384, G21384⟩⟩
  have ne1385 : o1378 ≠ bv1384 := Nat.ne_of_lt (Nat.lt_of_lt_of_le E1378.lt sz11384)
  have ne1386 : o1378 ≠ bs1384 := Nat.ne_of_lt (Nat.lt_of_lt_of_le E1378.lt sz21384)
  have ne1387 : o1378 ≠ m1384 := Nat.ne_of_lt (Nat.lt_of_lt_of_le E1378.lt sz31384)
  show W _ _ _ _ _ _ _ _ _ _ _ 4 45 20 #[.val (.int p0), .val (.int p1), .val (.int p2), .val (.int p3), .val (.int p4), .val (.int p5), .val (.int (3 : Int32)), .unset, .unset, .unset, .unset, .unset, .unset] [(.ref o1378)]
  refine W.astore 22 at_20 rfl rfl #[.val (.int p0), .val (.int p1), .val (.int p2), .val (.int p3), .val (.int p4), .val (.int p5), .val (.int (3 : Int32)), .val (.ref o1378), .unset, .unset, .unset, .unset, .unset] rfl ?_
  refine W.iload 24 at_22 rfl rfl ?_
  refine W.newarray 26 at_24 rfl (wd_10 hw) rfl (by decide) 3 3 (by decide) (by decide) (by decide) (by decide) (by decide) rfl ?_
  intro h1388 b1388 g1388 ge1388 X1388 K1388 A1388
  have ne1389 : bs1384 ≠ b1388 := Nat.ne_of_lt (Nat.lt_of_lt_of_eq A21384.lt g1388.symm)
  have ne1390 : bv1384 ≠ b1388 := Nat.ne_of_lt (Nat.lt_of_lt_of_eq A11384.lt g1388.symm)
  have ne1391 : m1384 ≠ b1388 := Nat.ne_of_lt (Nat.lt_of_lt_of_eq E21384.lt g1388.symm)
  have ne1392 : o1378 ≠ b1388 := Nat.ne_of_lt (Nat.lt_of_lt_of_eq E1384.lt g1388.symm)
  have A1388 : Ary _ _ b1388 .int [(.int (0 : Int32)), (.int (0 : Int32)), (.int (0 : Int32))] := A1388
  show W _ _ _ _ _ _ _ _ _ _ _ 5 48 26 #[.val (.int p0), .val (.int p1), .val (.int p2), .val (.int p3), .val (.int p4), .val (.int p5), .val (.int (3 : Int32)), .val (.ref o1378), .unset, .unset, .unset, .unset, .unset] [(.ref b1388)]
  refine W.astore 28 at_26 rfl rfl #[.val (.int p0), .val (.int p1), .val (.int p2), .val (.int p3), .val (.int p4), .val (.int p5), .val (.int (3 : Int32)), .val (.ref o1378), .val (.ref b1388), .unset, .unset, .unset, .unset] rfl ?_
  refine W.iload 30 at_28 rfl rfl ?_
  refine W.newarray 32 at_30 rfl (wd_10 hw) rfl (by decide) 3 3 (by decide) (by decide) (by decide) (by decide) (by decide) rfl ?_
  intro h1393 b1393 g1393 ge1393 X1393 K1393 A1393
  have ne1394 : b1388 ≠ b1393 := Nat.ne_of_lt (Nat.lt_of_lt_of_eq A1388.lt g1393.symm)
  have q1395 := (A21384.keep K1388 nin0)
  have ne1396 : bs1384 ≠ b1393 := Nat.ne_of_lt (Nat.lt_of_lt_of_eq q1395.lt g1393.symm)
  have q1397 := (A11384.keep K1388 nin0)
  have ne1398 : bv1384 ≠ b1393 := Nat.ne_of_lt (Nat.lt_of_lt_of_eq q1397.lt g1393.symm)
  have q1399 := (E21384.keep K1388)
  have ne1400 : m1384 ≠ b1393 := Nat.ne_of_lt (Nat.lt_of_lt_of_eq q1399.lt g1393.symm)
  have q1401 := (E1384.keep K1388)
  have ne1402 : o1378 ≠ b1393 := Nat.ne_of_lt (Nat.lt_of_lt_of_eq q1401.lt g1393.symm)
  have A1393 : Ary _ _ b1393 .int [(.int (0 : Int32)), (.int (0 : Int32)), (.int (0 : Int32))] := A1393
  show W _ _ _ _ _ _ _ _ _ _ _ 6 51 32 #[.val (.int p0), .val (.int p1), .val (.int p2), .val (.int p3), .val (.int p4), .val (.int p5), .val (.int (3 : Int32)), .val (.ref o1378), .val (.ref b1388), .unset, .unset, .unset, .unset] [(.ref b1393)]
  refine W.astore 34 at_32 rfl rfl #[.val (.int p0), .val (.int p1), .val (.int p2), .val (.int p3), .val (.int p4), .val (.int p5), .val (.int (3 : Int32)), .val (.ref o1378), .val (.ref b1388), .val (.ref b1393), .unset, .unset, .unset] rfl ?_
  refine W.aload 36 at_34 rfl rfl rfl ?_
  refine W.iconst 37 at_36 rfl (0 : Int32) rfl ?_
  refine W.iloadN 38 at_37 rfl rfl ?_
  have q1403 := (A1388.keep K1393 nin0)
  refine W.iastore 39 at_38 rfl q1403 0 (by decide) (by decide) (Nat.le_of_ble_eq_true rfl) ge1388 ?_
  intro h1404 W1404 K1404 A1404
  have A1404 : Ary _ _ b1388 .int [(.int p0), (.int (0 : Int32)), (.int (0 : Int32))] := A1404
  refine W.aload 41 at_39 rfl rfl rfl ?_
  refine W.iconst 42 at_41 rfl (0 : Int32) rfl ?_
  refine W.iloadN 43 at_42 rfl rfl ?_
  have q1405 := (A1393.keep K1404 (ninS (Ne.symm ne1394) nin0))
  refine W.iastore 44 at_43 rfl q1405 0 (by decide) (by decide) (Nat.le_of_ble_eq_true rfl) ge1393 ?_
  intro h1406 W1406 K1406 A1406
  have A1406 : Ary _ _ b1393 .int [(.int p2), (.int (0 : Int32)), (.int (0 : Int32))] := A1406
  refine W.iload 46 at_44 rfl rfl ?_
  refine W.iconst 47 at_46 rfl (2 : Int32) rfl ?_
  refine W.icmp_lt 60 50 at_47 rfl rfl (fun hc => absurd hc (by decide)) (fun _ => ?_)
  refine W.aload 52 at_50 rfl rfl rfl ?_
  refine W.iconst 53 at_52 rfl (1 : Int32) rfl ?_
  refine W.iloadN 54 at_53 rfl rfl ?_
  have q1407 := (A1404.keep K1406 (ninS ne1394 nin0))
  refine W.iastore 55 at_54 rfl q1407 1 (by decide) (by decide) (Nat.le_of_ble_eq_true rfl) ge1388 ?_
  intro h1408 W1408 K1408 A1408
  have A1408 : Ary _ _ b1388 .int [(.int p0), (.int p1), (.int (0 : Int32))] := A1408
  refine W.aload 57 at_55 rfl rfl rfl ?_
  refine W.iconst 58 at_57 rfl (1 : Int32) rfl ?_
  refine W.iloadN 59 at_58 rfl rfl ?_
  have q1409 := (A1406.keep K1408 (ninS (Ne.symm ne1394) nin0))
  refine W.iastore 60 at_59 rfl q1409 1 (by decide) (by decide) (Nat.le_of_ble_eq_true rfl) ge1393 ?_
  intro h1410 W1410 K1410 A1410
  have A1410 : Ary _ _ b1393 .int [(.int p2), (.int p3), (.int (0 : Int32))] := A1410
  refine W.iload 62 at_60 rfl rfl ?_
  refine W.iconst 63 at_62 rfl (3 : Int32) rfl ?_
  refine W.icmp_lt 78 66 at_63 rfl rfl (fun hc => absurd hc (by decide)) (fun _ => ?_)
  refine W.aload 68 at_66 rfl rfl rfl ?_
  refine W.iconst 69 at_68 rfl (2 : Int32) rfl ?_
  refine W.iload 71 at_69 rfl rfl ?_
  have q1411 := (A1408.keep K1410 (ninS ne1394 nin0))
  refine W.iastore 72 at_71 rfl q1411 2 (by decide) (by decide) (Nat.le_of_ble_eq_true rfl) ge1388 ?_
  intro h1412 W1412 K1412 A1412
  have A1412 : Ary _ _ b1388 .int [(.int p0), (.int p1), (.int p4)] := A1412
  refine W.aload 74 at_72 rfl rfl rfl ?_
  refine W.iconst 75 at_74 rfl (2 : Int32) rfl ?_
  refine W.iload 77 at_75 rfl rfl ?_
  have q1413 := (A1410.keep K1412 (ninS (Ne.symm ne1394) nin0))
  refine W.iastore 78 at_77 rfl q1413 2 (by decide) (by decide) (Nat.le_of_ble_eq_true rfl) ge1393 ?_
  intro h1414 W1414 K1414 A1414
  have A1414 : Ary _ _ b1393 .int [(.int p2), (.int p3), (.int p5)] := A1414
  refine W.aload 80 at_78 rfl rfl rfl ?_
  refine W.aload 82 at_80 rfl rfl rfl ?_
  have q1415 := (((((((q1401.keep K1393).keep K1404).keep K1406).keep K1408).keep K1410).keep K1412).keep K1414)
  have q1416 := ((((((((F11384.keep K1388 nin0).keep K1393 nin0).keep K1404 (ninS ne1392 nin0)).keep K1406 (ninS ne1402 nin0)).keep K1408 (ninS ne1392 nin0)).keep K1410 (ninS ne1402 nin0)).keep K1412 (ninS ne1392 nin0)).keep K1414 (ninS ne1402 nin0))
  have q1417 := ((((((((F21384.keep K1388 nin0).keep K1393 nin0).keep K1404 (ninS ne1392 nin0)).keep K1406 (ninS ne1402 nin0)).keep K1408 (ninS ne1392 nin0)).keep K1410 (ninS ne1402 nin0)).keep K1412 (ninS ne1392 nin0)).keep K1414 (ninS ne1402 nin0))
  have q1418 := ((((((((F31384.keep K1388 nin0).keep K1393 nin0).keep K1404 (ninS ne1392 nin0)).keep K1406 (ninS ne1402 nin0)).keep K1408 (ninS ne1392 nin0)).keep K1410 (ninS ne1402 nin0)).keep K1412 (ninS ne1392 nin0)).keep K1414 (ninS ne1402 nin0))
  have q1419 := ((((((((F41384.keep K1388 nin0).keep K1393 nin0).keep K1404 (ninS ne1392 nin0)).keep K1406 (ninS ne1402 nin0)).keep K1408 (ninS ne1392 nin0)).keep K1410 (ninS ne1402 nin0)).keep K1412 (ninS ne1392 nin0)).keep K1414 (ninS ne1402 nin0))
  have q1420 := ((((((((F51384.keep K1388 nin0).keep K1393 nin0).keep K1404 (ninS ne1392 nin0)).keep K1406 (ninS ne1402 nin0)).keep K1408 (ninS ne1392 nin0)).keep K1410 (ninS ne1402 nin0)).keep K1412 (ninS ne1392 nin0)).keep K1414 (ninS ne1402 nin0))
  have q1421 := (((((((q1397.keep K1393 nin0).keep K1404 (ninS ne1390 nin0)).keep K1406 (ninS ne1398 nin0)).keep K1408 (ninS ne1390 nin0)).keep K1410 (ninS ne1398 nin0)).keep K1412 (ninS ne1390 nin0)).keep K1414 (ninS ne1398 nin0))
  have q1422 := (((((((q1395.keep K1393 nin0).keep K1404 (ninS ne1389 nin0)).keep K1406 (ninS ne1396 nin0)).keep K1408 (ninS ne1389 nin0)).keep K1410 (ninS ne1396 nin0)).keep K1412 (ninS ne1389 nin0)).keep K1414 (ninS ne1396 nin0))
  have q1423 := (A1412.keep K1414 (ninS ne1394 nin0))
  have q1424 := (((((((q1399.keep K1393).keep K1404).keep K1406).keep K1408).keep K1410).keep K1412).keep K1414)
  have q1425 := ((((((((G11384.keep K1388 nin0).keep K1393 nin0).keep K1404 (ninS ne1391 nin0)).keep K1406 (ninS ne1400 nin0)).keep K1408 (ninS ne1391 nin0)).keep K1410 (ninS ne1400 nin0)).keep K1412 (ninS ne1391 nin0)).keep K1414 (ninS ne1400 nin0))
  have q1426 := ((((((((G21384.keep K1388 nin0).keep K1393 nin0).keep K1404 (ninS ne1391 nin0)).keep K1406 (ninS ne1400 nin0)).keep K1408 (ninS ne1391 nin0)).keep K1410 (ninS ne1400 nin0)).keep K1412 (ninS ne1391 nin0)).keep K1414 (ninS ne1400 nin0))
  refine W.callV (rest := []) (argsL := [(.ref b1388)]) (a := o1378) 85 at_82 rfl (fun hn => c_a0_3 l Z a0 hw o1378 bv1384 bs1384 m1384 b1388 p0 p1 p4 (0 : Int32) _ n0 hn ge1378 g11384 g21384 g31384 n11384 n21384 n31384 ne1392 n41384 n51384 ne1390 n61384 ne1389 ne1391 q1415 q1416 q1417 q1418 q1419 q1420 q1421 q1422 q1423 q1424 q1425 q1426) q1415 (wd_42 hw) (wd_43 hw) (wd_45 hw) rfl (wd_44 hw) (wd_3 hw) (wd_46 hw) (by decide) pd_7 rfl rfl rfl (by decide) 0 (Nat.le_of_ble_eq_true rfl) (by decide) (by decide) (by decide) ?_
  rintro v1427 h1427 ⟨rfl, K1427, ⟨E1427, F11427, F41427, F51427, A11427⟩, F21427, A21427, F31427, E21427, G11427, G21427⟩
  show W _ _ _ _ _ _ _ _ _ _ _ 6 51 85 #[.val (.int p0), .val (.int p1), .val (.int p2), .val (.int p3), .val (.int p4), .val (.int p5), .val (.int (3 : Int32)), .val (.ref o1378), .val (.ref b1388), .val (.ref b1393), .unset, .unset, .unset] [(.int (1 : Int32))]
  refine W.pop1 86 at_85 rfl rfl ?_
  refine W.aload 88 at_86 rfl rfl rfl ?_
  refine W.aload 90 at_88 rfl rfl rfl ?_
  have q1428 := (A1414.keep K1427 (ninS (Ne.symm ne1402) (ninS (Ne.symm ne1398) (ninS (Ne.symm ne1396) (ninS (Ne.symm ne1400) nin0)))))
  refine W.callV (rest := []) (argsL := [(.ref b1393)]) (a := o1378) 93 at_90 rfl (fun hn => c_a1_3 l Z a0 hw o1378 bv1384 bs1384 m1384 b1393 p0 p1 p4 p2 p3 p5 ((0 : Int32) + (1 : Int32)) _ n0 hn ge1378 g11384 g21384 g31384 n11384 n21384 n31384 ne1402 n41384 n51384 ne1398 n61384 ne1396 ne1400 E1427 F11427 F21427 F31427 F41427 F51427 A11427 A21427 q1428 E21427 G11427 G21427) E1427 (wd_42 hw) (wd_43 hw) (wd_45 hw) rfl (wd_44 hw) (wd_3 hw) (wd_46 hw) (by decide) pd_7 rfl rfl rfl (by decide) 0 (Nat.le_of_ble_eq_true rfl) (by decide) (by decide) (by decide) ?_
  rintro v1429 h1429 ⟨⟨zr1429, rfl⟩, K1429, hd1429⟩
  show W _ _ _ _ _ _ _ _ _ _ _ 6 51 93 #[.val (.int p0), .val (.int p1), .val (.int p2), .val (.int p3), .val (.int p4), .val (.int p5), .val (.int (3 : Int32)), .val (.ref o1378), .val (.ref b1388), .val (.ref b1393), .unset, .unset, .unset] [(.int zr1429)]
  rcases hd1429 with ⟨hq1429, E1429, F11429, F41429, F51429, A11429⟩ | ⟨hq1429, E1429, F11429, F41429, F51429, A11429⟩
  · refine W.pop1 94 at_93 rfl rfl ?_
    refine W.iload 96 at_94 rfl rfl ?_
    refine W.iconst 97 at_96 rfl (1 : Int32) rfl ?_
    refine W.icmp_ne 115 100 at_97 rfl rfl (fun _ => ?_) (fun hc => absurd hc (by decide))
    refine W.iload 117 at_115 rfl rfl ?_
    refine W.iconst 118 at_117 rfl (2 : Int32) rfl ?_
    refine W.icmp_ne 141 121 at_118 rfl rfl (fun _ => ?_) (fun hc => absurd hc (by decide))
    refine W.iloadN 142 at_141 rfl rfl ?_
    refine W.iloadN 143 at_142 rfl rfl ?_
    refine W.icmp_ne 162 146 at_143 rfl rfl (fun hc => absurd hq1429.1 hc) (fun _ => ?_)
    refine W.iloadN 147 at_146 rfl rfl ?_
    refine W.iloadN 148 at_147 rfl rfl ?_
    refine W.icmp_ne 162 151 at_148 rfl rfl (fun hc => absurd hq1429.2.1 hc) (fun _ => ?_)
    refine W.iload 153 at_151 rfl rfl ?_
    refine W.iload 155 at_153 rfl rfl ?_
    refine W.icmp_ne 162 158 at_155 rfl rfl (fun hc => absurd hq1429.2.2 hc) (fun _ => ?_)
    refine W.iconst 159 at_158 rfl (1 : Int32) rfl ?_
    refine W.goto 163 at_159 rfl ?_
    refine W.istore 165 at_163 rfl #[.val (.int p0), .val (.int p1), .val (.int p2), .val (.int p3), .val (.int p4), .val (.int p5), .val (.int (3 : Int32)), .val (.ref o1378), .val (.ref b1388), .val (.ref b1393), .val (.int (1 : Int32)), .unset, .unset] rfl ?_
    refine W.iload 167 at_165 rfl rfl ?_
    refine W.if_eq 174 170 at_167 rfl rfl (fun hc => absurd hc (by decide)) (fun _ => ?_)
    refine W.iconst 171 at_170 rfl (1 : Int32) rfl ?_
    refine W.goto 175 at_171 rfl ?_
    refine W.istore 177 at_175 rfl #[.val (.int p0), .val (.int p1), .val (.int p2), .val (.int p3), .val (.int p4), .val (.int p5), .val (.int (3 : Int32)), .val (.ref o1378), .val (.ref b1388), .val (.ref b1393), .val (.int (1 : Int32)), .val (.int (1 : Int32)), .unset] rfl ?_
    refine W.aload 179 at_177 rfl rfl rfl ?_
    refine W.callV (rest := []) (argsL := []) (a := o1378) 182 at_179 rfl (fun hn => c_size l Z a0 hw o1378 (1 : Int32) _ n0 hn F51429) E1429 (wd_74 hw) (wd_75 hw) (wd_77 hw) rfl (wd_76 hw) (wd_3 hw) (wd_78 hw) (by decide) pd_8 rfl rfl rfl (by decide) 0 (Nat.le_of_ble_eq_true rfl) (by decide) (by decide) (by decide) ?_
    rintro v1430 h1430 ⟨rfl, rfl⟩
    show W _ _ _ _ _ _ _ _ _ _ _ 6 51 182 #[.val (.int p0), .val (.int p1), .val (.int p2), .val (.int p3), .val (.int p4), .val (.int p5), .val (.int (3 : Int32)), .val (.ref o1378), .val (.ref b1388), .val (.ref b1393), .val (.int (1 : Int32)), .val (.int (1 : Int32)), .unset] [(.int (1 : Int32))]
    refine W.iload 184 at_182 rfl rfl ?_
    refine W.icmp_eq 189 187 at_184 rfl rfl (fun _ => ?_) (fun hc => absurd (by decide) hc)
    refine W.aload 191 at_189 rfl rfl rfl ?_
    refine W.iconst 192 at_191 rfl (0 : Int32) rfl ?_
    refine W.iconst 193 at_192 rfl (0 : Int32) rfl ?_
    refine W.callV (rest := []) (argsL := [(.int (0 : Int32)), (.int (0 : Int32))]) (a := o1378) 196 at_193 rfl (fun hn => c_val l Z a0 hw o1378 bv1384 (0 : Int32) (0 : Int32) (3 : Int32) p0 _ 0 _ n0 hn F11429 F41429 A11429 (by decide) (by decide) rfl) E1429 (wd_79 hw) (wd_80 hw) (wd_82 hw) rfl (wd_81 hw) (wd_3 hw) (wd_83 hw) (by decide) pd_9 rfl rfl rfl (by decide) 0 (Nat.le_of_ble_eq_true rfl) (by decide) (by decide) (by decide) ?_
    rintro v1431 h1431 ⟨rfl, rfl⟩
    show W _ _ _ _ _ _ _ _ _ _ _ 6 51 196 #[.val (.int p0), .val (.int p1), .val (.int p2), .val (.int p3), .val (.int p4), .val (.int p5), .val (.int (3 : Int32)), .val (.ref o1378), .val (.ref b1388), .val (.ref b1393), .val (.int (1 : Int32)), .val (.int (1 : Int32)), .unset] [(.int p0)]
    refine W.iloadN 197 at_196 rfl rfl ?_
    refine W.icmp_ne 204 200 at_197 rfl rfl (fun hc => absurd rfl hc) (fun _ => ?_)
    refine W.iconst 201 at_200 rfl (1 : Int32) rfl ?_
    refine W.goto 205 at_201 rfl ?_
    refine W.istore 207 at_205 rfl #[.val (.int p0), .val (.int p1), .val (.int p2), .val (.int p3), .val (.int p4), .val (.int p5), .val (.int (3 : Int32)), .val (.ref o1378), .val (.ref b1388), .val (.ref b1393), .val (.int (1 : Int32)), .val (.int (1 : Int32)), .val (.int (1 : Int32))] rfl ?_
    refine W.iload 209 at_207 rfl rfl ?_
    refine W.iconst 210 at_209 rfl (2 : Int32) rfl ?_
    refine W.icmp_lt 236 213 at_210 rfl rfl (fun hc => absurd hc (by decide)) (fun _ => ?_)
    refine W.iload 215 at_213 rfl rfl ?_
    refine W.if_eq 233 218 at_215 rfl rfl (fun hc => absurd hc (by decide)) (fun _ => ?_)
    refine W.aload 220 at_218 rfl rfl rfl ?_
    refine W.iconst 221 at_220 rfl (0 : Int32) rfl ?_
    refine W.iconst 222 at_221 rfl (1 : Int32) rfl ?_
    refine W.callV (rest := []) (argsL := [(.int (0 : Int32)), (.int (1 : Int32))]) (a := o1378) 225 at_222 rfl (fun hn => c_val l Z a0 hw o1378 bv1384 (0 : Int32) (1 : Int32) (3 : Int32) p1 _ 1 _ n0 hn F11429 F41429 A11429 (by decide) (by decide) rfl) E1429 (wd_79 hw) (wd_80 hw) (wd_82 hw) rfl (wd_81 hw) (wd_3 hw) (wd_83 hw) (by decide) pd_9 rfl rfl rfl (by decide) 0 (Nat.le_of_ble_eq_true rfl) (by decide) (by decide) (by decide) ?_
    rintro v1432 h1432 ⟨rfl, rfl⟩
    show W _ _ _ _ _ _ _ _ _ _ _ 6 51 225 #[.val (.int p0), .val (.int p1), .val (.int p2), .val (.int p3), .val (.int p4), .val (.int p5), .val (.int (3 : Int32)), .val (.ref o1378), .val (.ref b1388), .val (.ref b1393), .val (.int (1 : Int32)), .val (.int (1 : Int32)), .val (.int (1 : Int32))] [(.int p1)]
    refine W.iloadN 226 at_225 rfl rfl ?_
    refine W.icmp_ne 233 229 at_226 rfl rfl (fun hc => absurd rfl hc) (fun _ => ?_)
    refine W.iconst 230 at_229 rfl (1 : Int32) rfl ?_
    refine W.goto 234 at_230 rfl ?_
    refine W.istore 236 at_234 rfl #[.val (.int p0), .val (.int p1), .val (.int p2), .val (.int p3), .val (.int p4), .val (.int p5), .val (.int (3 : Int32)), .val (.ref o1378), .val (.ref b1388), .val (.ref b1393), .val (.int (1 : Int32)), .val (.int (1 : Int32)), .val (.int (1 : Int32))] rfl ?_
    refine W.iload 238 at_236 rfl rfl ?_
    refine W.iconst 239 at_238 rfl (3 : Int32) rfl ?_
    refine W.icmp_lt 266 242 at_239 rfl rfl (fun hc => absurd hc (by decide)) (fun _ => ?_)
    refine W.iload 244 at_242 rfl rfl ?_
    refine W.if_eq 263 247 at_244 rfl rfl (fun hc => absurd hc (by decide)) (fun _ => ?_)
    refine W.aload 249 at_247 rfl rfl rfl ?_
    refine W.iconst 250 at_249 rfl (0 : Int32) rfl ?_
    refine W.iconst 251 at_250 rfl (2 : Int32) rfl ?_
    refine W.callV (rest := []) (argsL := [(.int (0 : Int32)), (.int (2 : Int32))]) (a := o1378) 254 at_251 rfl (fun hn => c_val l Z a0 hw o1378 bv1384 (0 : Int32) (2 : Int32) (3 : Int32) p4 _ 2 _ n0 hn F11429 F41429 A11429 (by decide) (by decide) rfl) E1429 (wd_79 hw) (wd_80 hw) (wd_82 hw) rfl (wd_81 hw) (wd_3 hw) (wd_83 hw) (by decide) pd_9 rfl rfl rfl (by decide) 0 (Nat.le_of_ble_eq_true rfl) (by decide) (by decide) (by decide) ?_
    rintro v1433 h1433 ⟨rfl, rfl⟩
    show W _ _ _ _ _ _ _ _ _ _ _ 6 51 254 #[.val (.int p0), .val (.int p1), .val (.int p2), .val (.int p3), .val (.int p4), .val (.int p5), .val (.int (3 : Int32)), .val (.ref o1378), .val (.ref b1388), .val (.ref b1393), .val (.int (1 : Int32)), .val (.int (1 : Int32)), .val (.int (1 : Int32))] [(.int p4)]
    refine W.iload 256 at_254 rfl rfl ?_
    refine W.icmp_ne 263 259 at_256 rfl rfl (fun hc => absurd rfl hc) (fun _ => ?_)
    refine W.iconst 260 at_259 rfl (1 : Int32) rfl ?_
    refine W.goto 264 at_260 rfl ?_
    refine W.istore 266 at_264 rfl #[.val (.int p0), .val (.int p1), .val (.int p2), .val (.int p3), .val (.int p4), .val (.int p5), .val (.int (3 : Int32)), .val (.ref o1378), .val (.ref b1388), .val (.ref b1393), .val (.int (1 : Int32)), .val (.int (1 : Int32)), .val (.int (1 : Int32))] rfl ?_
    refine W.iload 268 at_266 rfl rfl ?_
    refine W.if_ne 353 271 at_268 rfl rfl (fun _ => ?_) (fun hc => absurd hc (by decide))
    refine W.iload 355 at_353 rfl rfl ?_
    exact W.ireturnN (t := .boolean) at_355 rfl (by simp) (1 : Int32) rfl rfl (by decide) (by decide)
  · refine W.pop1 94 at_93 rfl rfl ?_
    refine W.iload 96 at_94 rfl rfl ?_
    refine W.iconst 97 at_96 rfl (1 : Int32) rfl ?_
    refine W.icmp_ne 115 100 at_97 rfl rfl (fun _ => ?_) (fun hc => absurd hc (by decide))
    refine W.iload 117 at_115 rfl rfl ?_
    refine W.iconst 118 at_117 rfl (2 : Int32) rfl ?_
    refine W.icmp_ne 141 121 at_118 rfl rfl (fun _ => ?_) (fun hc => absurd hc (by decide))
    refine W.iloadN 142 at_141 rfl rfl ?_
    refine W.iloadN 143 at_142 rfl rfl ?_
    refine W.icmp_ne 162 146 at_143 rfl rfl ?_ ?_
    · intro hc1434
      refine W.iconst 163 at_162 rfl (0 : Int32) rfl ?_
      refine W.istore 165 at_163 rfl #[.val (.int p0), .val (.int p1), .val (.int p2), .val (.int p3), .val (.int p4), .val (.int p5), .val (.int (3 : Int32)), .val (.ref o1378), .val (.ref b1388), .val (.ref b1393), .val (.int (0 : Int32)), .unset, .unset] rfl ?_
      refine W.iload 167 at_165 rfl rfl ?_
      refine W.if_eq 174 170 at_167 rfl rfl (fun _ => ?_) (fun hc => absurd (by decide) hc)
      refine W.iconst 175 at_174 rfl (2 : Int32) rfl ?_
      refine W.istore 177 at_175 rfl #[.val (.int p0), .val (.int p1), .val (.int p2), .val (.int p3), .val (.int p4), .val (.int p5), .val (.int (3 : Int32)), .val (.ref o1378), .val (.ref b1388), .val (.ref b1393), .val (.int (0 : Int32)), .val (.int (2 : Int32)), .unset] rfl ?_
      refine W.aload 179 at_177 rfl rfl rfl ?_
      refine W.callV (rest := []) (argsL := []) (a := o1378) 182 at_179 rfl (fun hn => c_size l Z a0 hw o1378 (2 : Int32) _ n0 hn F51429) E1429 (wd_74 hw) (wd_75 hw) (wd_77 hw) rfl (wd_76 hw) (wd_3 hw) (wd_78 hw) (by decide) pd_8 rfl rfl rfl (by decide) 0 (Nat.le_of_ble_eq_true rfl) (by decide) (by decide) (by decide) ?_
      rintro v1435 h1435 ⟨rfl, rfl⟩
      show W _ _ _ _ _ _ _ _ _ _ _ 6 51 182 #[.val (.int p0), .val (.int p1), .val (.int p2), .val (.int p3), .val (.int p4), .val (.int p5), .val (.int (3 : Int32)), .val (.ref o1378), .val (.ref b1388), .val (.ref b1393), .val (.int (0 : Int32)), .val (.int (2 : Int32)), .unset] [(.int (2 : Int32))]
      refine W.iload 184 at_182 rfl rfl ?_
      refine W.icmp_eq 189 187 at_184 rfl rfl (fun _ => ?_) (fun hc => absurd (by decide) hc)
      refine W.aload 191 at_189 rfl rfl rfl ?_
      refine W.iconst 192 at_191 rfl (0 : Int32) rfl ?_
      refine W.iconst 193 at_192 rfl (0 : Int32) rfl ?_
      refine W.callV (rest := []) (argsL := [(.int (0 : Int32)), (.int (0 : Int32))]) (a := o1378) 196 at_193 rfl (fun hn => c_val l Z a0 hw o1378 bv1384 (0 : Int32) (0 : Int32) (3 : Int32) p0 _ 0 _ n0 hn F11429 F41429 A11429 (by decide) (by decide) rfl) E1429 (wd_79 hw) (wd_80 hw) (wd_82 hw) rfl (wd_81 hw) (wd_3 hw) (wd_83 hw) (by decide) pd_9 rfl rfl rfl (by decide) 0 (Nat.le_of_ble_eq_true rfl) (by decide) (by decide) (by decide) ?_
      rintro v1436 h1436 ⟨rfl, rfl⟩
      show W _ _ _ _ _ _ _ _ _ _ _ 6 51 196 #[.val (.int p0), .val (.int p1), .val (.int p2), .val (.int p3), .val (.int p4), .val (.int p5), .val (.int (3 : Int32)), .val (.ref o1378), .val (.ref b1388), .val (.ref b1393), .val (.int (0 : Int32)), .val (.int (2 : Int32)), .unset] [(.int p0)]
      refine W.iloadN 197 at_196 rfl rfl ?_
      refine W.icmp_ne 204 200 at_197 rfl rfl (fun hc => absurd rfl hc) (fun _ => ?_)
      refine W.iconst 201 at_200 rfl (1 : Int32) rfl ?_
      refine W.goto 205 at_201 rfl ?_
      refine W.istore 207 at_205 rfl #[.val (.int p0), .val (.int p1), .val (.int p2), .val (.int p3), .val (.int p4), .val (.int p5), .val (.int (3 : Int32)), .val (.ref o1378), .val (.ref b1388), .val (.ref b1393), .val (.int (0 : Int32)), .val (.int (2 : Int32)), .val (.int (1 : Int32))] rfl ?_
      refine W.iload 209 at_207 rfl rfl ?_
      refine W.iconst 210 at_209 rfl (2 : Int32) rfl ?_
      refine W.icmp_lt 236 213 at_210 rfl rfl (fun hc => absurd hc (by decide)) (fun _ => ?_)
      refine W.iload 215 at_213 rfl rfl ?_
      refine W.if_eq 233 218 at_215 rfl rfl (fun hc => absurd hc (by decide)) (fun _ => ?_)
      refine W.aload 220 at_218 rfl rfl rfl ?_
      refine W.iconst 221 at_220 rfl (0 : Int32) rfl ?_
      refine W.iconst 222 at_221 rfl (1 : Int32) rfl ?_
      refine W.callV (rest := []) (argsL := [(.int (0 : Int32)), (.int (1 : Int32))]) (a := o1378) 225 at_222 rfl (fun hn => c_val l Z a0 hw o1378 bv1384 (0 : Int32) (1 : Int32) (3 : Int32) p1 _ 1 _ n0 hn F11429 F41429 A11429 (by decide) (by decide) rfl) E1429 (wd_79 hw) (wd_80 hw) (wd_82 hw) rfl (wd_81 hw) (wd_3 hw) (wd_83 hw) (by decide) pd_9 rfl rfl rfl (by decide) 0 (Nat.le_of_ble_eq_true rfl) (by decide) (by decide) (by decide) ?_
      rintro v1437 h1437 ⟨rfl, rfl⟩
      show W _ _ _ _ _ _ _ _ _ _ _ 6 51 225 #[.val (.int p0), .val (.int p1), .val (.int p2), .val (.int p3), .val (.int p4), .val (.int p5), .val (.int (3 : Int32)), .val (.ref o1378), .val (.ref b1388), .val (.ref b1393), .val (.int (0 : Int32)), .val (.int (2 : Int32)), .val (.int (1 : Int32))] [(.int p1)]
      refine W.iloadN 226 at_225 rfl rfl ?_
      refine W.icmp_ne 233 229 at_226 rfl rfl (fun hc => absurd rfl hc) (fun _ => ?_)
      refine W.iconst 230 at_229 rfl (1 : Int32) rfl ?_
      refine W.goto 234 at_230 rfl ?_
      refine W.istore 236 at_234 rfl #[.val (.int p0), .val (.int p1), .val (.int p2), .val (.int p3), .val (.int p4), .val (.int p5), .val (.int (3 : Int32)), .val (.ref o1378), .val (.ref b1388), .val (.ref b1393), .val (.int (0 : Int32)), .val (.int (2 : Int32)), .val (.int (1 : Int32))] rfl ?_
      refine W.iload 238 at_236 rfl rfl ?_
      refine W.iconst 239 at_238 rfl (3 : Int32) rfl ?_
      refine W.icmp_lt 266 242 at_239 rfl rfl (fun hc => absurd hc (by decide)) (fun _ => ?_)
      refine W.iload 244 at_242 rfl rfl ?_
      refine W.if_eq 263 247 at_244 rfl rfl (fun hc => absurd hc (by decide)) (fun _ => ?_)
      refine W.aload 249 at_247 rfl rfl rfl ?_
      refine W.iconst 250 at_249 rfl (0 : Int32) rfl ?_
      refine W.iconst 251 at_250 rfl (2 : Int32) rfl ?_
      refine W.callV (rest := []) (argsL := [(.int (0 : Int32)), (.int (2 : Int32))]) (a := o1378) 254 at_251 rfl (fun hn => c_val l Z a0 hw o1378 bv1384 (0 : Int32) (2 : Int32) (3 : Int32) p4 _ 2 _ n0 hn F11429 F41429 A11429 (by decide) (by decide) rfl) E1429 (wd_79 hw) (wd_80 hw) (wd_82 hw) rfl (wd_81 hw) (wd_3 hw) (wd_83 hw) (by decide) pd_9 rfl rfl rfl (by decide) 0 (Nat.le_of_ble_eq_true rfl) (by decide) (by decide) (by decide) ?_
      rintro v1438 h1438 ⟨rfl, rfl⟩
      show W _ _ _ _ _ _ _ _ _ _ _ 6 51 254 #[.val (.int p0), .val (.int p1), .val (.int p2), .val (.int p3), .val (.int p4), .val (.int p5), .val (.int (3 : Int32)), .val (.ref o1378), .val (.ref b1388), .val (.ref b1393), .val (.int (0 : Int32)), .val (.int (2 : Int32)), .val (.int (1 : Int32))] [(.int p4)]
      refine W.iload 256 at_254 rfl rfl ?_
      refine W.icmp_ne 263 259 at_256 rfl rfl (fun hc => absurd rfl hc) (fun _ => ?_)
      refine W.iconst 260 at_259 rfl (1 : Int32) rfl ?_
      refine W.goto 264 at_260 rfl ?_
      refine W.istore 266 at_264 rfl #[.val (.int p0), .val (.int p1), .val (.int p2), .val (.int p3), .val (.int p4), .val (.int p5), .val (.int (3 : Int32)), .val (.ref o1378), .val (.ref b1388), .val (.ref b1393), .val (.int (0 : Int32)), .val (.int (2 : Int32)), .val (.int (1 : Int32))] rfl ?_
      refine W.iload 268 at_266 rfl rfl ?_
      refine W.if_ne 353 271 at_268 rfl rfl (fun hc => absurd (by decide) hc) (fun _ => ?_)
      refine W.iload 273 at_271 rfl rfl ?_
      refine W.if_eq 291 276 at_273 rfl rfl (fun hc => absurd hc (by decide)) (fun _ => ?_)
      refine W.aload 278 at_276 rfl rfl rfl ?_
      refine W.iconst 279 at_278 rfl (1 : Int32) rfl ?_
      refine W.iconst 280 at_279 rfl (0 : Int32) rfl ?_
      refine W.callV (rest := []) (argsL := [(.int (1 : Int32)), (.int (0 : Int32))]) (a := o1378) 283 at_280 rfl (fun hn => c_val l Z a0 hw o1378 bv1384 (1 : Int32) (0 : Int32) (3 : Int32) p2 _ 3 _ n0 hn F11429 F41429 A11429 (by decide) (by decide) rfl) E1429 (wd_79 hw) (wd_80 hw) (wd_82 hw) rfl (wd_81 hw) (wd_3 hw) (wd_83 hw) (by decide) pd_9 rfl rfl rfl (by decide) 0 (Nat.le_of_ble_eq_true rfl) (by decide) (by decide) (by decide) ?_
      rintro v1439 h1439 ⟨rfl, rfl⟩
      show W _ _ _ _ _ _ _ _ _ _ _ 6 51 283 #[.val (.int p0), .val (.int p1), .val (.int p2), .val (.int p3), .val (.int p4), .val (.int p5), .val (.int (3 : Int32)), .val (.ref o1378), .val (.ref b1388), .val (.ref b1393), .val (.int (0 : Int32)), .val (.int (2 : Int32)), .val (.int (1 : Int32))] [(.int p2)]
      refine W.iloadN 284 at_283 rfl rfl ?_
      refine W.icmp_ne 291 287 at_284 rfl rfl (fun hc => absurd rfl hc) (fun _ => ?_)
      refine W.iconst 288 at_287 rfl (1 : Int32) rfl ?_
      refine W.goto 292 at_288 rfl ?_
      refine W.istore 294 at_292 rfl #[.val (.int p0), .val (.int p1), .val (.int p2), .val (.int p3), .val (.int p4), .val (.int p5), .val (.int (3 : Int32)), .val (.ref o1378), .val (.ref b1388), .val (.ref b1393), .val (.int (0 : Int32)), .val (.int (2 : Int32)), .val (.int (1 : Int32))] rfl ?_
      refine W.iload 296 at_294 rfl rfl ?_
      refine W.iconst 297 at_296 rfl (2 : Int32) rfl ?_
      refine W.icmp_lt 323 300 at_297 rfl rfl (fun hc => absurd hc (by decide)) (fun _ => ?_)
      refine W.iload 302 at_300 rfl rfl ?_
      refine W.if_eq 320 305 at_302 rfl rfl (fun hc => absurd hc (by decide)) (fun _ => ?_)
      refine W.aload 307 at_305 rfl rfl rfl ?_
      refine W.iconst 308 at_307 rfl (1 : Int32) rfl ?_
      refine W.iconst 309 at_308 rfl (1 : Int32) rfl ?_
      refine W.callV (rest := []) (argsL := [(.int (1 : Int32)), (.int (1 : Int32))]) (a := o1378) 312 at_309 rfl (fun hn => c_val l Z a0 hw o1378 bv1384 (1 : Int32) (1 : Int32) (3 : Int32) p3 _ 4 _ n0 hn F11429 F41429 A11429 (by decide) (by decide) rfl) E1429 (wd_79 hw) (wd_80 hw) (wd_82 hw) rfl (wd_81 hw) (wd_3 hw) (wd_83 hw) (by decide) pd_9 rfl rfl rfl (by decide) 0 (Nat.le_of_ble_eq_true rfl) (by decide) (by decide) (by decide) ?_
      rintro v1440 h1440 ⟨rfl, rfl⟩
      show W _ _ _ _ _ _ _ _ _ _ _ 6 51 312 #[.val (.int p0), .val (.int p1), .val (.int p2), .val (.int p3), .val (.int p4), .val (.int p5), .val (.int (3 : Int32)), .val (.ref o1378), .val (.ref b1388), .val (.ref b1393), .val (.int (0 : Int32)), .val (.int (2 : Int32)), .val (.int (1 : Int32))] [(.int p3)]
      refine W.iloadN 313 at_312 rfl rfl ?_
      refine W.icmp_ne 320 316 at_313 rfl rfl (fun hc => absurd rfl hc) (fun _ => ?_)
      refine W.iconst 317 at_316 rfl (1 : Int32) rfl ?_
      refine W.goto 321 at_317 rfl ?_
      refine W.istore 323 at_321 rfl #[.val (.int p0), .val (.int p1), .val (.int p2), .val (.int p3), .val (.int p4), .val (.int p5), .val (.int (3 : Int32)), .val (.ref o1378), .val (.ref b1388), .val (.ref b1393), .val (.int (0 : Int32)), .val (.int (2 : Int32)), .val (.int (1 : Int32))] rfl ?_
      refine W.iload 325 at_323 rfl rfl ?_
      refine W.iconst 326 at_325 rfl (3 : Int32) rfl ?_
      refine W.icmp_lt 353 329 at_326 rfl rfl (fun hc => absurd hc (by decide)) (fun _ => ?_)
      refine W.iload 331 at_329 rfl rfl ?_
      refine W.if_eq 350 334 at_331 rfl rfl (fun hc => absurd hc (by decide)) (fun _ => ?_)
      refine W.aload 336 at_334 rfl rfl rfl ?_
      refine W.iconst 337 at_336 rfl (1 : Int32) rfl ?_
      refine W.iconst 338 at_337 rfl (2 : Int32) rfl ?_
      refine W.callV (rest := []) (argsL := [(.int (1 : Int32)), (.int (2 : Int32))]) (a := o1378) 341 at_338 rfl (fun hn => c_val l Z a0 hw o1378 bv1384 (1 : Int32) (2 : Int32) (3 : Int32) p5 _ 5 _ n0 hn F11429 F41429 A11429 (by decide) (by decide) rfl) E1429 (wd_79 hw) (wd_80 hw) (wd_82 hw) rfl (wd_81 hw) (wd_3 hw) (wd_83 hw) (by decide) pd_9 rfl rfl rfl (by decide) 0 (Nat.le_of_ble_eq_true rfl) (by decide) (by decide) (by decide) ?_
      rintro v1441 h1441 ⟨rfl, rfl⟩
      show W _ _ _ _ _ _ _ _ _ _ _ 6 51 341 #[.val (.int p0), .val (.int p1), .val (.int p2), .val (.int p3), .val (.int p4), .val (.int p5), .val (.int (3 : Int32)), .val (.ref o1378), .val (.ref b1388), .val (.ref b1393), .val (.int (0 : Int32)), .val (.int (2 : Int32)), .val (.int (1 : Int32))] [(.int p5)]
      refine W.iload 343 at_341 rfl rfl ?_
      refine W.icmp_ne 350 346 at_343 rfl rfl (fun hc => absurd rfl hc) (fun _ => ?_)
      refine W.iconst 347 at_346 rfl (1 : Int32) rfl ?_
      refine W.goto 351 at_347 rfl ?_
      refine W.istore 353 at_351 rfl #[.val (.int p0), .val (.int p1), .val (.int p2), .val (.int p3), .val (.int p4), .val (.int p5), .val (.int (3 : Int32)), .val (.ref o1378), .val (.ref b1388), .val (.ref b1393), .val (.int (0 : Int32)), .val (.int (2 : Int32)), .val (.int (1 : Int32))] rfl ?_
      refine W.iload 355 at_353 rfl rfl ?_
      exact W.ireturnN (t := .boolean) at_355 rfl (by simp) (1 : Int32) rfl rfl (by decide) (by decide)
    · intro hc1434
      refine W.iloadN 147 at_146 rfl rfl ?_
      refine W.iloadN 148 at_147 rfl rfl ?_
      refine W.icmp_ne 162 151 at_148 rfl rfl ?_ ?_
      · intro hc1442
        refine W.iconst 163 at_162 rfl (0 : Int32) rfl ?_
        refine W.istore 165 at_163 rfl #[.val (.int p0), .val (.int p1), .val (.int p2), .val (.int p3), .val (.int p4), .val (.int p5), .val (.int (3 : Int32)), .val (.ref o1378), .val (.ref b1388), .val (.ref b1393), .val (.int (0 : Int32)), .unset, .unset] rfl ?_
        refine W.iload 167 at_165 rfl rfl ?_
        refine W.if_eq 174 170 at_167 rfl rfl (fun _ => ?_) (fun hc => absurd (by decide) hc)
        refine W.iconst 175 at_174 rfl (2 : Int32) rfl ?_
        refine W.istore 177 at_175 rfl #[.val (.int p0), .val (.int p1), .val (.int p2), .val (.int p3), .val (.int p4), .val (.int p5), .val (.int (3 : Int32)), .val (.ref o1378), .val (.ref b1388), .val (.ref b1393), .val (.int (0 : Int32)), .val (.int (2 : Int32)), .unset] rfl ?_
        refine W.aload 179 at_177 rfl rfl rfl ?_
        refine W.callV (rest := []) (argsL := []) (a := o1378) 182 at_179 rfl (fun hn => c_size l Z a0 hw o1378 (2 : Int32) _ n0 hn F51429) E1429 (wd_74 hw) (wd_75 hw) (wd_77 hw) rfl (wd_76 hw) (wd_3 hw) (wd_78 hw) (by decide) pd_8 rfl rfl rfl (by decide) 0 (Nat.le_of_ble_eq_true rfl) (by decide) (by decide) (by decide) ?_
        rintro v1443 h1443 ⟨rfl, rfl⟩
        show W _ _ _ _ _ _ _ _ _ _ _ 6 51 182 #[.val (.int p0), .val (.int p1), .val (.int p2), .val (.int p3), .val (.int p4), .val (.int p5), .val (.int (3 : Int32)), .val (.ref o1378), .val (.ref b1388), .val (.ref b1393), .val (.int (0 : Int32)), .val (.int (2 : Int32)), .unset] [(.int (2 : Int32))]
        refine W.iload 184 at_182 rfl rfl ?_
        refine W.icmp_eq 189 187 at_184 rfl rfl (fun _ => ?_) (fun hc => absurd (by decide) hc)
        refine W.aload 191 at_189 rfl rfl rfl ?_
        refine W.iconst 192 at_191 rfl (0 : Int32) rfl ?_
        refine W.iconst 193 at_192 rfl (0 : Int32) rfl ?_
        refine W.callV (rest := []) (argsL := [(.int (0 : Int32)), (.int (0 : Int32))]) (a := o1378) 196 at_193 rfl (fun hn => c_val l Z a0 hw o1378 bv1384 (0 : Int32) (0 : Int32) (3 : Int32) p0 _ 0 _ n0 hn F11429 F41429 A11429 (by decide) (by decide) rfl) E1429 (wd_79 hw) (wd_80 hw) (wd_82 hw) rfl (wd_81 hw) (wd_3 hw) (wd_83 hw) (by decide) pd_9 rfl rfl rfl (by decide) 0 (Nat.le_of_ble_eq_true rfl) (by decide) (by decide) (by decide) ?_
        rintro v1444 h1444 ⟨rfl, rfl⟩
        show W _ _ _ _ _ _ _ _ _ _ _ 6 51 196 #[.val (.int p0), .val (.int p1), .val (.int p2), .val (.int p3), .val (.int p4), .val (.int p5), .val (.int (3 : Int32)), .val (.ref o1378), .val (.ref b1388), .val (.ref b1393), .val (.int (0 : Int32)), .val (.int (2 : Int32)), .unset] [(.int p0)]
        refine W.iloadN 197 at_196 rfl rfl ?_
        refine W.icmp_ne 204 200 at_197 rfl rfl (fun hc => absurd rfl hc) (fun _ => ?_)
        refine W.iconst 201 at_200 rfl (1 : Int32) rfl ?_
        refine W.goto 205 at_201 rfl ?_
        refine W.istore 207 at_205 rfl #[.val (.int p0), .val (.int p1), .val (.int p2), .val (.int p3), .val (.int p4), .val (.int p5), .val (.int (3 : Int32)), .val (.ref o1378), .val (.ref b1388), .val (.ref b1393), .val (.int (0 : Int32)), .val (.int (2 : Int32)), .val (.int (1 : Int32))] rfl ?_
        refine W.iload 209 at_207 rfl rfl ?_
        refine W.iconst 210 at_209 rfl (2 : Int32) rfl ?_
        refine W.icmp_lt 236 213 at_210 rfl rfl (fun hc => absurd hc (by decide)) (fun _ => ?_)
        refine W.iload 215 at_213 rfl rfl ?_
        refine W.if_eq 233 218 at_215 rfl rfl (fun hc => absurd hc (by decide)) (fun _ => ?_)
        refine W.aload 220 at_218 rfl rfl rfl ?_
        refine W.iconst 221 at_220 rfl (0 : Int32) rfl ?_
        refine W.iconst 222 at_221 rfl (1 : Int32) rfl ?_
        refine W.callV (rest := []) (argsL := [(.int (0 : Int32)), (.int (1 : Int32))]) (a := o1378) 225 at_222 rfl (fun hn => c_val l Z a0 hw o1378 bv1384 (0 : Int32) (1 : Int32) (3 : Int32) p1 _ 1 _ n0 hn F11429 F41429 A11429 (by decide) (by decide) rfl) E1429 (wd_79 hw) (wd_80 hw) (wd_82 hw) rfl (wd_81 hw) (wd_3 hw) (wd_83 hw) (by decide) pd_9 rfl rfl rfl (by decide) 0 (Nat.le_of_ble_eq_true rfl) (by decide) (by decide) (by decide) ?_
        rintro v1445 h1445 ⟨rfl, rfl⟩
        show W _ _ _ _ _ _ _ _ _ _ _ 6 51 225 #[.val (.int p0), .val (.int p1), .val (.int p2), .val (.int p3), .val (.int p4), .val (.int p5), .val (.int (3 : Int32)), .val (.ref o1378), .val (.ref b1388), .val (.ref b1393), .val (.int (0 : Int32)), .val (.int (2 : Int32)), .val (.int (1 : Int32))] [(.int p1)]
        refine W.iloadN 226 at_225 rfl rfl ?_
        refine W.icmp_ne 233 229 at_226 rfl rfl (fun hc => absurd rfl hc) (fun _ => ?_)
        refine W.iconst 230 at_229 rfl (1 : Int32) rfl ?_
        refine W.goto 234 at_230 rfl ?_
        refine W.istore 236 at_234 rfl #[.val (.int p0), .val (.int p1), .val (.int p2), .val (.int p3), .val (.int p4), .val (.int p5), .val (.int (3 : Int32)), .val (.ref o1378), .val (.ref b1388), .val (.ref b1393), .val (.int (0 : Int32)), .val (.int (2 : Int32)), .val (.int (1 : Int32))] rfl ?_
        refine W.iload 238 at_236 rfl rfl ?_
        refine W.iconst 239 at_238 rfl (3 : Int32) rfl ?_
        refine W.icmp_lt 266 242 at_239 rfl rfl (fun hc => absurd hc (by decide)) (fun _ => ?_)
        refine W.iload 244 at_242 rfl rfl ?_
        refine W.if_eq 263 247 at_244 rfl rfl (fun hc => absurd hc (by decide)) (fun _ => ?_)
        refine W.aload 249 at_247 rfl rfl rfl ?_
        refine W.iconst 250 at_249 rfl (0 : Int32) rfl ?_
        refine W.iconst 251 at_250 rfl (2 : Int32) rfl ?_
        refine W.callV (rest := []) (argsL := [(.int (0 : Int32)), (.int (2 : Int32))]) (a := o1378) 254 at_251 rfl (fun hn => c_val l Z a0 hw o1378 bv1384 (0 : Int32) (2 : Int32) (3 : Int32) p4 _ 2 _ n0 hn F11429 F41429 A11429 (by decide) (by decide) rfl) E1429 (wd_79 hw) (wd_80 hw) (wd_82 hw) rfl (wd_81 hw) (wd_3 hw) (wd_83 hw) (by decide) pd_9 rfl rfl rfl (by decide) 0 (Nat.le_of_ble_eq_true rfl) (by decide) (by decide) (by decide) ?_
        rintro v1446 h1446 ⟨rfl, rfl⟩
        show W _ _ _ _ _ _ _ _ _ _ _ 6 51 254 #[.val (.int p0), .val (.int p1), .val (.int p2), .val (.int p3), .val (.int p4), .val (.int p5), .val (.int (3 : Int32)), .val (.ref o1378), .val (.ref b1388), .val (.ref b1393), .val (.int (0 : Int32)), .val (.int (2 : Int32)), .val (.int (1 : Int32))] [(.int p4)]
        refine W.iload 256 at_254 rfl rfl ?_
        refine W.icmp_ne 263 259 at_256 rfl rfl (fun hc => absurd rfl hc) (fun _ => ?_)
        refine W.iconst 260 at_259 rfl (1 : Int32) rfl ?_
        refine W.goto 264 at_260 rfl ?_
        refine W.istore 266 at_264 rfl #[.val (.int p0), .val (.int p1), .val (.int p2), .val (.int p3), .val (.int p4), .val (.int p5), .val (.int (3 : Int32)), .val (.ref o1378), .val (.ref b1388), .val (.ref b1393), .val (.int (0 : Int32)), .val (.int (2 : Int32)), .val (.int (1 : Int32))] rfl ?_
        refine W.iload 268 at_266 rfl rfl ?_
        refine W.if_ne 353 271 at_268 rfl rfl (fun hc => absurd (by decide) hc) (fun _ => ?_)
        refine W.iload 273 at_271 rfl rfl ?_
        refine W.if_eq 291 276 at_273 rfl rfl (fun hc => absurd hc (by decide)) (fun _ => ?_)
        refine W.aload 278 at_276 rfl rfl rfl ?_
        refine W.iconst 279 at_278 rfl (1 : Int32) rfl ?_
        refine W.iconst 280 at_279 rfl (0 : Int32) rfl ?_
        refine W.callV (rest := []) (argsL := [(.int (1 : Int32)), (.int (0 : Int32))]) (a := o1378) 283 at_280 rfl (fun hn => c_val l Z a0 hw o1378 bv1384 (1 : Int32) (0 : Int32) (3 : Int32) p2 _ 3 _ n0 hn F11429 F41429 A11429 (by decide) (by decide) rfl) E1429 (wd_79 hw) (wd_80 hw) (wd_82 hw) rfl (wd_81 hw) (wd_3 hw) (wd_83 hw) (by decide) pd_9 rfl rfl rfl (by decide) 0 (Nat.le_of_ble_eq_true rfl) (by decide) (by decide) (by decide) ?_
        rintro v1447 h1447 ⟨rfl, rfl⟩
        show W _ _ _ _ _ _ _ _ _ _ _ 6 51 283 #[.val (.int p0), .val (.int p1), .val (.int p2), .val (.int p3), .val (.int p4), .val (.int p5), .val (.int (3 : Int32)), .val (.ref o1378), .val (.ref b1388), .val (.ref b1393), .val (.int (0 : Int32)), .val (.int (2 : Int32)), .val (.int (1 : Int32))] [(.int p2)]
        refine W.iloadN 284 at_283 rfl rfl ?_
        refine W.icmp_ne 291 287 at_284 rfl rfl (fun hc => absurd rfl hc) (fun _ => ?_)
        refine W.iconst 288 at_287 rfl (1 : Int32) rfl ?_
        refine W.goto 292 at_288 rfl ?_
        refine W.istore 294 at_292 rfl #[.val (.int p0), .val (.int p1), .val (.int p2), .val (.int p3), .val (.int p4), .val (.int p5), .val (.int (3 : Int32)), .val (.ref o1378), .val (.ref b1388), .val (.ref b1393), .val (.int (0 : Int32)), .val (.int (2 : Int32)), .val (.int (1 : Int32))] rfl ?_
        refine W.iload 296 at_294 rfl rfl ?_
        refine W.iconst 297 at_296 rfl (2 : Int32) rfl ?_
        refine W.icmp_lt 323 300 at_297 rfl rfl (fun hc => absurd hc (by decide)) (fun _ => ?_)
        refine W.iload 302 at_300 rfl rfl ?_
        refine W.if_eq 320 305 at_302 rfl rfl (fun hc => absurd hc (by decide)) (fun _ => ?_)
        refine W.aload 307 at_305 rfl rfl rfl ?_
        refine W.iconst 308 at_307 rfl (1 : Int32) rfl ?_
        refine W.iconst 309 at_308 rfl (1 : Int32) rfl ?_
        refine W.callV (rest := []) (argsL := [(.int (1 : Int32)), (.int (1 : Int32))]) (a := o1378) 312 at_309 rfl (fun hn => c_val l Z a0 hw o1378 bv1384 (1 : Int32) (1 : Int32) (3 : Int32) p3 _ 4 _ n0 hn F11429 F41429 A11429 (by decide) (by decide) rfl) E1429 (wd_79 hw) (wd_80 hw) (wd_82 hw) rfl (wd_81 hw) (wd_3 hw) (wd_83 hw) (by decide) pd_9 rfl rfl rfl (by decide) 0 (Nat.le_of_ble_eq_true rfl) (by decide) (by decide) (by decide) ?_
        rintro v1448 h1448 ⟨rfl, rfl⟩
        show W _ _ _ _ _ _ _ _ _ _ _ 6 51 312 #[.val (.int p0), .val (.int p1), .val (.int p2), .val (.int p3), .val (.int p4), .val (.int p5), .val (.int (3 : Int32)), .val (.ref o1378), .val (.ref b1388), .val (.ref b1393), .val (.int (0 : Int32)), .val (.int (2 : Int32)), .val (.int (1 : Int32))] [(.int p3)]
        refine W.iloadN 313 at_312 rfl rfl ?_
        refine W.icmp_ne 320 316 at_313 rfl rfl (fun hc => absurd rfl hc) (fun _ => ?_)
        refine W.iconst 317 at_316 rfl (1 : Int32) rfl ?_
        refine W.goto 321 at_317 rfl ?_
        refine W.istore 323 at_321 rfl #[.val (.int p0), .val (.int p1), .val (.int p2), .val (.int p3), .val (.int p4), .val (.int p5), .val (.int (3 : Int32)), .val (.ref o1378), .val (.ref b1388), .val (.ref b1393), .val (.int (0 : Int32)), .val (.int (2 : Int32)), .val (.int (1 : Int32))] rfl ?_
        refine W.iload 325 at_323 rfl rfl ?_
        refine W.iconst 326 at_325 rfl (3 : Int32) rfl ?_
        refine W.icmp_lt 353 329 at_326 rfl rfl (fun hc => absurd hc (by decide)) (fun _ => ?_)
        refine W.iload 331 at_329 rfl rfl ?_
        refine W.if_eq 350 334 at_331 rfl rfl (fun hc => absurd hc (by decide)) (fun _ => ?_)
        refine W.aload 336 at_334 rfl rfl rfl ?_
        refine W.iconst 337 at_336 rfl (1 : Int32) rfl ?_
        refine W.iconst 338 at_337 rfl (2 : Int32) rfl ?_
        refine W.callV (rest := []) (argsL := [(.int (1 : Int32)), (.int (2 : Int32))]) (a := o1378) 341 at_338 rfl (fun hn => c_val l Z a0 hw o1378 bv1384 (1 : Int32) (2 : Int32) (3 : Int32) p5 _ 5 _ n0 hn F11429 F41429 A11429 (by decide) (by decide) rfl) E1429 (wd_79 hw) (wd_80 hw) (wd_82 hw) rfl (wd_81 hw) (wd_3 hw) (wd_83 hw) (by decide) pd_9 rfl rfl rfl (by decide) 0 (Nat.le_of_ble_eq_true rfl) (by decide) (by decide) (by decide) ?_
        rintro v1449 h1449 ⟨rfl, rfl⟩
        show W _ _ _ _ _ _ _ _ _ _ _ 6 51 341 #[.val (.int p0), .val (.int p1), .val (.int p2), .val (.int p3), .val (.int p4), .val (.int p5), .val (.int (3 : Int32)), .val (.ref o1378), .val (.ref b1388), .val (.ref b1393), .val (.int (0 : Int32)), .val (.int (2 : Int32)), .val (.int (1 : Int32))] [(.int p5)]
        refine W.iload 343 at_341 rfl rfl ?_
        refine W.icmp_ne 350 346 at_343 rfl rfl (fun hc => absurd rfl hc) (fun _ => ?_)
        refine W.iconst 347 at_346 rfl (1 : Int32) rfl ?_
        refine W.goto 351 at_347 rfl ?_
        refine W.istore 353 at_351 rfl #[.val (.int p0), .val (.int p1), .val (.int p2), .val (.int p3), .val (.int p4), .val (.int p5), .val (.int (3 : Int32)), .val (.ref o1378), .val (.ref b1388), .val (.ref b1393), .val (.int (0 : Int32)), .val (.int (2 : Int32)), .val (.int (1 : Int32))] rfl ?_
        refine W.iload 355 at_353 rfl rfl ?_
        exact W.ireturnN (t := .boolean) at_355 rfl (by simp) (1 : Int32) rfl rfl (by decide) (by decide)
      · intro hc1442
        refine W.iload 153 at_151 rfl rfl ?_
        refine W.iload 155 at_153 rfl rfl ?_
        refine W.icmp_ne 162 158 at_155 rfl rfl (fun _ => ?_) (fun hc => absurd hc (fun z => hq1429 ⟨hc1434, hc1442, z⟩))
        refine W.iconst 163 at_162 rfl (0 : Int32) rfl ?_
        refine W.istore 165 at_163 rfl #[.val (.int p0), .val (.int p1), .val (.int p2), .val (.int p3), .val (.int p4), .val (.int p5), .val (.int (3 : Int32)), .val (.ref o1378), .val (.ref b1388), .val (.ref b1393), .val (.int (0 : Int32)), .unset, .unset] rfl ?_
        refine W.iload 167 at_165 rfl rfl ?_
        refine W.if_eq 174 170 at_167 rfl rfl (fun _ => ?_) (fun hc => absurd (by decide) hc)
        refine W.iconst 175 at_174 rfl (2 : Int32) rfl ?_
        refine W.istore 177 at_175 rfl #[.val (.int p0), .val (.int p1), .val (.int p2), .val (.int p3), .val (.int p4), .val (.int p5), .val (.int (3 : Int32)), .val (.ref o1378), .val (.ref b1388), .val (.ref b1393), .val (.int (0 : Int32)), .val (.int (2 : Int32)), .unset] rfl ?_
        refine W.aload 179 at_177 rfl rfl rfl ?_
        refine W.callV (rest := []) (argsL := []) (a := o1378) 182 at_179 rfl (fun hn => c_size l Z a0 hw o1378 (2 : Int32) _ n0 hn F51429) E1429 (wd_74 hw) (wd_75 hw) (wd_77 hw) rfl (wd_76 hw) (wd_3 hw) (wd_78 hw) (by decide) pd_8 rfl rfl rfl (by decide) 0 (Nat.le_of_ble_eq_true rfl) (by decide) (by decide) (by decide) ?_
        rintro v1450 h1450 ⟨rfl, rfl⟩
        show W _ _ _ _ _ _ _ _ _ _ _ 6 51 182 #[.val (.int p0), .val (.int p1), .val (.int p2), .val (.int p3), .val (.int p4), .val (.int p5), .val (.int (3 : Int32)), .val (.ref o1378), .val (.ref b1388), .val (.ref b1393), .val (.int (0 : Int32)), .val (.int (2 : Int32)), .unset] [(.int (2 : Int32))]
        refine W.iload 184 at_182 rfl rfl ?_
        refine W.icmp_eq 189 187 at_184 rfl rfl (fun _ => ?_) (fun hc => absurd (by decide) hc)
        refine W.aload 191 at_189 rfl rfl rfl ?_
        refine W.iconst 192 at_191 rfl (0 : Int32) rfl ?_
        refine W.iconst 193 at_192 rfl (0 : Int32) rfl ?_
        refine W.callV (rest := []) (argsL := [(.int (0 : Int32)), (.int (0 : Int32))]) (a := o1378) 196 at_193 rfl (fun hn => c_val l Z a0 hw o1378 bv1384 (0 : Int32) (0 : Int32) (3 : Int32) p0 _ 0 _ n0 hn F11429 F41429 A11429 (by decide) (by decide) rfl) E1429 (wd_79 hw) (wd_80 hw) (wd_82 hw) rfl (wd_81 hw) (wd_3 hw) (wd_83 hw) (by decide) pd_9 rfl rfl rfl (by decide) 0 (Nat.le_of_ble_eq_true rfl) (by decide) (by decide) (by decide) ?_
        rintro v1451 h1451 ⟨rfl, rfl⟩
        show W _ _ _ _ _ _ _ _ _ _ _ 6 51 196 #[.val (.int p0), .val (.int p1), .val (.int p2), .val (.int p3), .val (.int p4), .val (.int p5), .val (.int (3 : Int32)), .val (.ref o1378), .val (.ref b1388), .val (.ref b1393), .val (.int (0 : Int32)), .val (.int (2 : Int32)), .unset] [(.int p0)]
        refine W.iloadN 197 at_196 rfl rfl ?_
        refine W.icmp_ne 204 200 at_197 rfl rfl (fun hc => absurd rfl hc) (fun _ => ?_)
        refine W.iconst 201 at_200 rfl (1 : Int32) rfl ?_
        refine W.goto 205 at_201 rfl ?_
        refine W.istore 207 at_205 rfl #[.val (.int p0), .val (.int p1), .val (.int p2), .val (.int p3), .val (.int p4), .val (.int p5), .val (.int (3 : Int32)), .val (.ref o1378), .val (.ref b1388), .val (.ref b1393), .val (.int (0 : Int32)), .val (.int (2 : Int32)), .val (.int (1 : Int32))] rfl ?_
        refine W.iload 209 at_207 rfl rfl ?_
        refine W.iconst 210 at_209 rfl (2 : Int32) rfl ?_
        refine W.icmp_lt 236 213 at_210 rfl rfl (fun hc => absurd hc (by decide)) (fun _ => ?_)
        refine W.iload 215 at_213 rfl rfl ?_
        refine W.if_eq 233 218 at_215 rfl rfl (fun hc => absurd hc (by decide)) (fun _ => ?_)
        refine W.aload 220 at_218 rfl rfl rfl ?_
        refine W.iconst 221 at_220 rfl (0 : Int32) rfl ?_
        refine W.iconst 222 at_221 rfl (1 : Int32) rfl ?_
        refine W.callV (rest := []) (argsL := [(.int (0 : Int32)), (.int (1 : Int32))]) (a := o1378) 225 at_222 rfl (fun hn => c_val l Z a0 hw o1378 bv1384 (0 : Int32) (1 : Int32) (3 : Int32) p1 _ 1 _ n0 hn F11429 F41429 A11429 (by decide) (by decide) rfl) E1429 (wd_79 hw) (wd_80 hw) (wd_82 hw) rfl (wd_81 hw) (wd_3 hw) (wd_83 hw) (by decide) pd_9 rfl rfl rfl (by decide) 0 (Nat.le_of_ble_eq_true rfl) (by decide) (by decide) (by decide) ?_
        rintro v1452 h1452 ⟨rfl, rfl⟩
        show W _ _ _ _ _ _ _ _ _ _ _ 6 51 225 #[.val (.int p0), .val (.int p1), .val (.int p2), .val (.int p3), .val (.int p4), .val (.int p5), .val (.int (3 : Int32)), .val (.ref o1378), .val (.ref b1388), .val (.ref b1393), .val (.int (0 : Int32)), .val (.int (2 : Int32)), .val (.int (1 : Int32))] [(.int p1)]
        refine W.iloadN 226 at_225 rfl rfl ?_
        refine W.icmp_ne 233 229 at_226 rfl rfl (fun hc => absurd rfl hc) (fun _ => ?_)
        refine W.iconst 230 at_229 rfl (1 : Int32) rfl ?_
        refine W.goto 234 at_230 rfl ?_
        refine W.istore 236 at_234 rfl #[.val (.int p0), .val (.int p1), .val (.int p2), .val (.int p3), .val (.int p4), .val (.int p5), .val (.int (3 : Int32)), .val (.ref o1378), .val (.ref b1388), .val (.ref b1393), .val (.int (0 : Int32)), .val (.int (2 : Int32)), .val (.int (1 : Int32))] rfl ?_
        refine W.iload 238 at_236 rfl rfl ?_
        refine W.iconst 239 at_238 rfl (3 : Int32) rfl ?_
        refine W.icmp_lt 266 242 at_239 rfl rfl (fun hc => absurd hc (by decide)) (fun _ => ?_)
        refine W.iload 244 at_242 rfl rfl ?_
        refine W.if_eq 263 247 at_244 rfl rfl (fun hc => absurd hc (by decide)) (fun _ => ?_)
        refine W.aload 249 at_247 rfl rfl rfl ?_
        refine W.iconst 250 at_249 rfl (0 : Int32) rfl ?_
        refine W.iconst 251 at_250 rfl (2 : Int32) rfl ?_
        refine W.callV (rest := []) (argsL := [(.int (0 : Int32)), (.int (2 : Int32))]) (a := o1378) 254 at_251 rfl (fun hn => c_val l Z a0 hw o1378 bv1384 (0 : Int32) (2 : Int32) (3 : Int32) p4 _ 2 _ n0 hn F11429 F41429 A11429 (by decide) (by decide) rfl) E1429 (wd_79 hw) (wd_80 hw) (wd_82 hw) rfl (wd_81 hw) (wd_3 hw) (wd_83 hw) (by decide) pd_9 rfl rfl rfl (by decide) 0 (Nat.le_of_ble_eq_true rfl) (by decide) (by decide) (by decide) ?_
        rintro v1453 h1453 ⟨rfl, rfl⟩
        show W _ _ _ _ _ _ _ _ _ _ _ 6 51 254 #[.val (.int p0), .val (.int p1), .val (.int p2), .val (.int p3), .val (.int p4), .val (.int p5), .val (.int (3 : Int32)), .val (.ref o1378), .val (.ref b1388), .val (.ref b1393), .val (.int (0 : Int32)), .val (.int (2 : Int32)), .val (.int (1 : Int32))] [(.int p4)]
        refine W.iload 256 at_254 rfl rfl ?_
        refine W.icmp_ne 263 259 at_256 rfl rfl (fun hc => absurd rfl hc) (fun _ => ?_)
        refine W.iconst 260 at_259 rfl (1 : Int32) rfl ?_
        refine W.goto 264 at_260 rfl ?_
        refine W.istore 266 at_264 rfl #[.val (.int p0), .val (.int p1), .val (.int p2), .val (.int p3), .val (.int p4), .val (.int p5), .val (.int (3 : Int32)), .val (.ref o1378), .val (.ref b1388), .val (.ref b1393), .val (.int (0 : Int32)), .val (.int (2 : Int32)), .val (.int (1 : Int32))] rfl ?_
        refine W.iload 268 at_266 rfl rfl ?_
        refine W.if_ne 353 271 at_268 rfl rfl (fun hc => absurd (by decide) hc) (fun _ => ?_)
        refine W.iload 273 at_271 rfl rfl ?_
        refine W.if_eq 291 276 at_273 rfl rfl (fun hc => absurd hc (by decide)) (fun _ => ?_)
        refine W.aload 278 at_276 rfl rfl rfl ?_
        refine W.iconst 279 at_278 rfl (1 : Int32) rfl ?_
        refine W.iconst 280 at_279 rfl (0 : Int32) rfl ?_
        refine W.callV (rest := []) (argsL := [(.int (1 : Int32)), (.int (0 : Int32))]) (a := o1378) 283 at_280 rfl (fun hn => c_val l Z a0 hw o1378 bv1384 (1 : Int32) (0 : Int32) (3 : Int32) p2 _ 3 _ n0 hn F11429 F41429 A11429 (by decide) (by decide) rfl) E1429 (wd_79 hw) (wd_80 hw) (wd_82 hw) rfl (wd_81 hw) (wd_3 hw) (wd_83 hw) (by decide) pd_9 rfl rfl rfl (by decide) 0 (Nat.le_of_ble_eq_true rfl) (by decide) (by decide) (by decide) ?_
        rintro v1454 h1454 ⟨rfl, rfl⟩
        show W _ _ _ _ _ _ _ _ _ _ _ 6 51 283 #[.val (.int p0), .val (.int p1), .val (.int p2), .val (.int p3), .val (.int p4), .val (.int p5), .val (.int (3 : Int32)), .val (.ref o1378), .val (.ref b1388), .val (.ref b1393), .val (.int (0 : Int32)), .val (.int (2 : Int32)), .val (.int (1 : Int32))] [(.int p2)]
        refine W.iloadN 284 at_283 rfl rfl ?_
        refine W.icmp_ne 291 287 at_284 rfl rfl (fun hc => absurd rfl hc) (fun _ => ?_)
        refine W.iconst 288 at_287 rfl (1 : Int32) rfl ?_
        refine W.goto 292 at_288 rfl ?_
        refine W.istore 294 at_292 rfl #[.val (.int p0), .val (.int p1), .val (.int p2), .val (.int p3), .val (.int p4), .val (.int p5), .val (.int (3 : Int32)), .val (.ref o1378), .val (.ref b1388), .val (.ref b1393), .val (.int (0 : Int32)), .val (.int (2 : Int32)), .val (.int (1 : Int32))] rfl ?_
        refine W.iload 296 at_294 rfl rfl ?_
        refine W.iconst 297 at_296 rfl (2 : Int32) rfl ?_
        refine W.icmp_lt 323 300 at_297 rfl rfl (fun hc => absurd hc (by decide)) (fun _ => ?_)
        refine W.iload 302 at_300 rfl rfl ?_
        refine W.if_eq 320 305 at_302 rfl rfl (fun hc => absurd hc (by decide)) (fun _ => ?_)
        refine W.aload 307 at_305 rfl rfl rfl ?_
        refine W.iconst 308 at_307 rfl (1 : Int32) rfl ?_
        refine W.iconst 309 at_308 rfl (1 : Int32) rfl ?_
        refine W.callV (rest := []) (argsL := [(.int (1 : Int32)), (.int (1 : Int32))]) (a := o1378) 312 at_309 rfl (fun hn => c_val l Z a0 hw o1378 bv1384 (1 : Int32) (1 : Int32) (3 : Int32) p3 _ 4 _ n0 hn F11429 F41429 A11429 (by decide) (by decide) rfl) E1429 (wd_79 hw) (wd_80 hw) (wd_82 hw) rfl (wd_81 hw) (wd_3 hw) (wd_83 hw) (by decide) pd_9 rfl rfl rfl (by decide) 0 (Nat.le_of_ble_eq_true rfl) (by decide) (by decide) (by decide) ?_
        rintro v1455 h1455 ⟨rfl, rfl⟩
        show W _ _ _ _ _ _ _ _ _ _ _ 6 51 312 #[.val (.int p0), .val (.int p1), .val (.int p2), .val (.int p3), .val (.int p4), .val (.int p5), .val (.int (3 : Int32)), .val (.ref o1378), .val (.ref b1388), .val (.ref b1393), .val (.int (0 : Int32)), .val (.int (2 : Int32)), .val (.int (1 : Int32))] [(.int p3)]
        refine W.iloadN 313 at_312 rfl rfl ?_
        refine W.icmp_ne 320 316 at_313 rfl rfl (fun hc => absurd rfl hc) (fun _ => ?_)
        refine W.iconst 317 at_316 rfl (1 : Int32) rfl ?_
        refine W.goto 321 at_317 rfl ?_
        refine W.istore 323 at_321 rfl #[.val (.int p0), .val (.int p1), .val (.int p2), .val (.int p3), .val (.int p4), .val (.int p5), .val (.int (3 : Int32)), .val (.ref o1378), .val (.ref b1388), .val (.ref b1393), .val (.int (0 : Int32)), .val (.int (2 : Int32)), .val (.int (1 : Int32))] rfl ?_
        refine W.iload 325 at_323 rfl rfl ?_
        refine W.iconst 326 at_325 rfl (3 : Int32) rfl ?_
        refine W.icmp_lt 353 329 at_326 rfl rfl (fun hc => absurd hc (by decide)) (fun _ => ?_)
        refine W.iload 331 at_329 rfl rfl ?_
        refine W.if_eq 350 334 at_331 rfl rfl (fun hc => absurd hc (by decide)) (fun _ => ?_)
        refine W.aload 336 at_334 rfl rfl rfl ?_
        refine W.iconst 337 at_336 rfl (1 : Int32) rfl ?_
        refine W.iconst 338 at_337 rfl (2 : Int32) rfl ?_
        refine W.callV (rest := []) (argsL := [(.int (1 : Int32)), (.int (2 : Int32))]) (a := o1378) 341 at_338 rfl (fun hn => c_val l Z a0 hw o1378 bv1384 (1 : Int32) (2 : Int32) (3 : Int32) p5 _ 5 _ n0 hn F11429 F41429 A11429 (by decide) (by decide) rfl) E1429 (wd_79 hw) (wd_80 hw) (wd_82 hw) rfl (wd_81 hw) (wd_3 hw) (wd_83 hw) (by decide) pd_9 rfl rfl rfl (by decide) 0 (Nat.le_of_ble_eq_true rfl) (by decide) (by decide) (by decide) ?_
        rintro v1456 h1456 ⟨rfl, rfl⟩
        show W _ _ _ _ _ _ _ _ _ _ _ 6 51 341 #[.val (.int p0), .val (.int p1), .val (.int p2), .val (.int p3), .val (.int p4), .val (.int p5), .val (.int (3 : Int32)), .val (.ref o1378), .val (.ref b1388), .val (.ref b1393), .val (.int (0 : Int32)), .val (.int (2 : Int32)), .val (.int (1 : Int32))] [(.int p5)]
        refine W.iload 343 at_341 rfl rfl ?_
        refine W.icmp_ne 350 346 at_343 rfl rfl (fun hc => absurd rfl hc) (fun _ => ?_)
        refine W.iconst 347 at_346 rfl (1 : Int32) rfl ?_
        refine W.goto 351 at_347 rfl ?_
        refine W.istore 353 at_351 rfl #[.val (.int p0), .val (.int p1), .val (.int p2), .val (.int p3), .val (.int p4), .val (.int p5), .val (.int (3 : Int32)), .val (.ref o1378), .val (.ref b1388), .val (.ref b1393), .val (.int (0 : Int32)), .val (.int (2 : Int32)), .val (.int (1 : Int32))] rfl ?_
        refine W.iload 355 at_353 rfl rfl ?_
        exact W.ireturnN (t := .boolean) at_355 rfl (by simp) (1 : Int32) rfl rfl (by decide) (by decide)
theorem own_mod3 (x : Int32) : 1 + (x &&& 2147483647) % 3 = 1 ∨ 1 + (x &&& 2147483647) % 3 = 2 ∨ 1 + (x &&& 2147483647) % 3 = 3 := by
  have h1 := c_mask x 2147483647 31 (by decide) (by decide)
  have h2 := (c_irem (x &&& 2147483647) 3 3 rfl).1 (by omega)
  have h3 := c_iadd 1 ((x &&& 2147483647) % 3)
  have r := rng32 (1 + (x &&& 2147483647) % 3)
  have e1 : (1 : Int32).toInt = 1 := rfl
  have e2 : (2 : Int32).toInt = 2 := rfl
  have e3 : (3 : Int32).toInt = 3 := rfl
  simp only [← Int32.toInt_inj]
  omega
theorem law_ok (l : Launch) (Z : State) (a0 : Array Value) (hw : ∀ d ∈ tables_1, d.before a0 Z = true) (p0 p1 p2 p3 p4 p5 : Int32) (h : Heap) (n0 : Nat) (hn : n0 ≤ h.size) : ConW tables_1 l Z x code maxLocals ret room_1 #[(.int p0), (.int p1), (.int p2), (.int p3), (.int p4), (.int p5)] h n0 (fun r _ => r = some (.int 1)) := by
  rcases own_mod3 p5 with q | q | q
  · exact law_1 l Z a0 hw p0 p1 p2 p3 p4 p5 h n0 hn q
  · exact law_2 l Z a0 hw p0 p1 p2 p3 p4 p5 h n0 hn q
  · exact law_3 l Z a0 hw p0 p1 p2 p3 p4 p5 h n0 hn q
set_option maxRecDepth 65536 in
set_option maxHeartbeats 40000000 in
theorem comes_1 {Post : Tables → Env → Array Value → State → Outcome → State → Prop} (hpost : ∀ tb e args s v u, (limb_1_1.after args s (.returned v) u = true ∧ limb_1_2.after args s (.returned v) u = true ∧ True) → FrameEnd s (.returned v) u (Jvm.fieldLocs frame_1_writes args s ++ Jvm.arrayLocs frame_1_arrays args s ++ Jvm.staticLocs frame_1_statics s) 24 192 → Post tb e args s (.returned v) u) :
    ArmFor flags0 classFile x code maxLocals ret World_1 tables_1 room_1 Calls_1 rest_1 Pre_1 Post := by
  intro l hfl _ _ p e ha hc hk s m args below hf hA hF happ hP
  obtain ⟨hcalls, hrest, hpre⟩ := hP
  obtain ⟨-, -, -, hnamed, -, -, -, hat⟩ := (Spec.applies_iff hf).mp happ
  obtain ⟨hg, hn⟩ := and_e (Cond.before_iff.mp (show (Jvm.Cond.and given_1 narrow_1).before args s = true from hpre))
  obtain ⟨hcnt, hg1⟩ := and_e hg
  obtain ⟨k0, hh0⟩ := and_e hg1
  obtain ⟨k1, hh1⟩ := and_e hh0
  obtain ⟨k2, hh2⟩ := and_e hh1
  obtain ⟨k3, hh3⟩ := and_e hh2
  obtain ⟨k4, hh4⟩ := and_e hh3
  have k5 := hh4
  obtain ⟨w0, w1, w2, w3, w4, w5, rfl⟩ : ∃ w0 w1 w2 w3 w4 w5 : Value, args = #[w0, w1, w2, w3, w4, w5] := by
    have hs : args.size = 6 := by simpa [Cond.value, given_1] using hcnt
    obtain ⟨L⟩ := args
    match L, hs with
    | [w0, w1, w2, w3, w4, w5], _ => exact ⟨w0, w1, w2, w3, w4, w5, rfl⟩
  have hw := fun d (hd : d ∈ tables_1) => atoms_spec (ws := Jvm.Cond.code x code maxLocals ret :: tables_1) hat d (List.mem_cons_of_mem _ hd)
  have hfit : Fit s := fun {y c} hc i hi => by
    obtain ⟨ha, rfl⟩ := Array.getElem?_eq_some_iff.mp hc
    have q := List.all_eq_true.mp ((Array.all_eq_true_iff_forall_mem.mp hF) _ (Array.getElem_mem ha)) i (List.mem_range.mpr hi)
    simpa [Array.getElem?_eq_getElem hi] using q
  obtain ⟨i0, ei0⟩ := is_v k0
  obtain rfl : w0 = (.int i0) := Option.some.inj ei0
  obtain ⟨i1, ei1⟩ := is_v k1
  obtain rfl : w1 = (.int i1) := Option.some.inj ei1
  obtain ⟨i2, ei2⟩ := is_v k2
  obtain rfl : w2 = (.int i2) := Option.some.inj ei2
  obtain ⟨i3, ei3⟩ := is_v k3
  obtain rfl : w3 = (.int i3) := Option.some.inj ei3
  obtain ⟨i4, ei4⟩ := is_v k4
  obtain rfl : w4 = (.int i4) := Option.some.inj ei4
  obtain ⟨i5, ei5⟩ := is_v k5
  obtain rfl : w5 = (.int i5) := Option.some.inj ei5
  obtain ⟨n, o, h1, h2, h3, _, L, rfl, ⟨rfl, N⟩, hq⟩ := law_ok l s _ hw i0 i1 i2 i3 i4 i5 s.heap s.heap.size (Nat.le_refl _) p e ha hc hk s m _ below hf ((Spec.applies_iff_loose hf).mp happ).1 ⟨rfl, State.Warmed39.refl s, rfl⟩ trivial
  refine ⟨n, _, h1, h2, h3, hpost _ _ _ _ _ _ ⟨Cond.after_iff.mpr rfl, Cond.after_iff.mpr (eq_i res_at (Term.int_eval (1)) rfl), trivial⟩ ⟨hq.1, hq.2.1, (hq.2.2.sift fun y hy => Or.inr (N y hy)).mono (by decide) (by decide)⟩⟩
theorem main_1_1 : Claimed_1_1 := comes_1 fun _ _ _ _ _ _ h hF => ⟨h.1, hF⟩
theorem main_1_2 : Claimed_1_2 := comes_1 fun _ _ _ _ _ _ h hF => ⟨h.2.1, hF⟩
end Jvm.Pilot.@@N@@
namespace Jvm.Pilot.@@N@@
open Jvm Jvm.ClassFile Sem Op Lib Jvm.Free Jvm.Stand Jvm.Pilot.@@N@@.Jvm.D
/-! MADE BY PROGRAM (witnessworld.py) out of the Statement's table words and the real class files: 14 classes; the members and pool entries that the words name. The judged class is class 1, her method 1. -/
namespace start1
open Jvm.ClassFile
def u (s : String) : CpInfo := .utf8 (stringToUtf16 s)
/-- a pool by its gaps: so many unusable entries, then the entry; so many at the end -/
def gap : Nat → List CpInfo → List CpInfo
  | 0, r => r
  | n + 1, r => .unusable :: gap n r
def poolList (es : List (Nat × CpInfo)) (last : Nat) : List CpInfo := es.foldr (fun e r => gap e.1 (e.2 :: r)) (gap last [])
def pool (es : List (Nat × CpInfo)) (last : Nat) : Array CpInfo := ⟨poolList es last⟩
def fileOf (pool : Array CpInfo) (this : Nat) (attrs : Array Attribute := #[]) (ms : Array MethodInfo := #[]) (fl : Nat := 33) (sup : Nat := 0) (ifs : Array Nat := #[]) (fds : Array FieldInfo := #[]) : ClassFile where
  minorVersion := 0
  majorVersion := 65
  constantPool := pool
  accessFlags := fl
  thisClass := this
  superClass := sup
  interfaces := ifs
  fields := fds
  methods := ms
  attributes := attrs
def plain (name : String) (sup : Option ClassId) : Class where
  name := name
  kind := .ordinary
  loader := none
  accessFlags := 33
  super := sup
  interfaces := #[]
  cf := none
  fields := #[]
  methods := #[]
  instanceTypes := #[]
  staticTypes := #[]
  resolved := #[]
  callSites := []
  init := .initialized
  statics := none
  mirror := none

def pool0 : Array CpInfo := pool [(5, u "<init>"), (0, u "()V"), (1, .class_ 10), (1, u "java/lang/Object")] 113

def k0c0 : Code := { maxStack := 0, maxLocals := 1, code := object_method_1_code, exceptionTable := #[], attributes := #[] }
def k0m0 : Method := { name := "<init>", desc := "()V", sig := { parameters := [], returnType := none }, accessFlags := 1, code := some k0c0 }
/-- java/lang/Object -/
def k0 : Class := { plain "java/lang/Object" none with
  accessFlags := 33
  interfaces := #[]
  cf := some (fileOf pool0 8 #[] #[{ accessFlags := 1, nameIndex := 5, descriptorIndex := 6, attributes := #[] }] 33 0 #[] #[])
  fields := #[]
  methods := #[k0m0]
  instanceTypes := #[]
  staticTypes := #[]
  resolved := Array.replicate 124 none
  statics := none }

def pool1 : Array CpInfo := pool [(2, .class_ 4), (1, u "java/lang/Object"), (0, u "<init>"), (0, u "()V"), (0, .integer 2147483647), (0, .class_ 9), (0, u "com/example/pathweave/pathweave/eval/Relation"), (0, .methodref 8 11), (0, .nameAndType 5 12), (0, u "(I)V"), (0, .methodref 8 14), (0, .nameAndType 15 16), (0, u "add"), (0, u "([I)Z"), (0, .methodref 8 18), (0, .nameAndType 19 20), (0, u "size"), (0, u "()I"), (0, .methodref 8 22), (0, .nameAndType 23 24), (0, u "value"), (0, u "(II)I"), (0, .class_ 26), (0, u "com/example/pathweave/pathweave/eval/RelationValuePinLaw"), (2, u "law"), (0, u "(IIIIII)Z")] 5

def k1m0 : Method := { name := "<init>", desc := "()V", sig := { parameters := [], returnType := none }, accessFlags := 1, code := none }
def k1c1 : Code := { maxStack := 3, maxLocals := 13, code := code, exceptionTable := #[], attributes := #[] }
def k1m1 : Method := { name := "law", desc := "(IIIIII)Z", sig := { parameters := [.int, .int, .int, .int, .int, .int], returnType := some .boolean }, accessFlags := 9, code := some k1c1 }
/-- com/example/pathweave/pathweave/eval/RelationValuePinLaw -/
def k1 : Class := { plain "com/example/pathweave/pathweave/eval/RelationValuePinLaw" (some 0) with
  accessFlags := 49
  interfaces := #[]
  cf := some (fileOf pool1 25 #[] #[{ accessFlags := 1, nameIndex := 5, descriptorIndex := 6, attributes := #[] }, { accessFlags := 9, nameIndex := 29, descriptorIndex := 30, attributes := #[] }] 49 2 #[] #[])
  fields := #[]
  methods := #[k1m0, k1m1]
  instanceTypes := #[]
  staticTypes := #[]
  resolved := Array.replicate 36 none
  statics := none }

def pool2 : Array CpInfo := pool [(1, .methodref 2 3), (0, .class_ 4), (0, .nameAndType 5 6), (0, u "java/lang/Object"), (0, u "<init>"), (0, u "()V"), (0, .fieldref 8 9), (0, .class_ 10), (0, .nameAndType 11 12), (0, u "com/example/pathweave/pathweave/eval/Relation"), (0, u "values"), (0, u "[I"), (0, .methodref 8 14), (0, .nameAndType 15 16), (0, u "emptySlots"), (0, u "(I)[I"), (0, .fieldref 8 18), (0, .nameAndType 19 12), (0, u "slots"), (0, .class_ 21), (0, u "java/util/HashMap"), (0, .methodref 20 3), (0, .fieldref 8 24), (0, .nameAndType 25 26), (0, u "indexes"), (0, u "Ljava/util/Map;"), (0, .fieldref 8 28), (0, .nameAndType 29 30), (0, u "arity"), (0, u "I"), (0, .fieldref 8 32), (0, .nameAndType 33 30), (0, u "size"), (0, .methodref 8 35), (0, .nameAndType 36 37), (0, u "find"), (0, u "([I)I"), (5, u "(II)I"), (1, .class_ 47), (1, u "java/util/Arrays"), (2, .methodref 51 52), (0, .class_ 53), (0, .nameAndType 54 55), (0, u "java/lang/System"), (0, u "arraycopy"), (0, u "(Ljava/lang/Object;ILjava/lang/Object;II)V"), (3, .interfaceMethodref 60 61), (0, .class_ 62), (0, .nameAndType 63 6), (0, u "java/util/Map"), (0, u "clear"), (0, .methodref 8 65), (0, .nameAndType 66 67), (0, u "hash"), (0, u "([III)I"), (0, .methodref 8 69), (0, .nameAndType 70 71), (0, u "same"), (0, u "(I[I)Z"), (6, .class_ 79), (0, u "com/example/pathweave/pathweave/eval/Relation$Match"), (11, .class_ 92), (0, u "com/example/pathweave/pathweave/eval/Relation$Index"), (3, .methodref 45 97), (0, .nameAndType 98 99), (0, u "fill"), (0, u "([II)V"), (0, .integer 2246822507), (3, u "EMPTY"), (4, u "(I)V"), (2, u "()I"), (0, u "value"), (0, u "add"), (0, u "([I)Z")] 30

def k2c0 : Code := { maxStack := 3, maxLocals := 2, code := prog_30_method_1_code, exceptionTable := #[], attributes := #[] }
def k2m0 : Method := { name := "<init>", desc := "(I)V", sig := { parameters := [.int], returnType := none }, accessFlags := 0, code := some k2c0 }
def k2c1 : Code := { maxStack := 1, maxLocals := 1, code := prog_30_method_3_code, exceptionTable := #[], attributes := #[] }
def k2m1 : Method := { name := "size", desc := "()I", sig := { parameters := [], returnType := some .int }, accessFlags := 0, code := some k2c1 }
def k2c2 : Code := { maxStack := 3, maxLocals := 3, code := prog_30_method_4_code, exceptionTable := #[], attributes := #[] }
def k2m2 : Method := { name := "value", desc := "(II)I", sig := { parameters := [.int, .int], returnType := some .int }, accessFlags := 0, code := some k2c2 }
def k2c3 : Code := { maxStack := 6, maxLocals := 3, code := prog_30_method_5_code, exceptionTable := #[], attributes := #[] }
def k2m3 : Method := { name := "add", desc := "([I)Z", sig := { parameters := [(.array .int)], returnType := some .boolean }, accessFlags := 0, code := some k2c3 }
def k2c4 : Code := { maxStack := 3, maxLocals := 4, code := prog_30_method_6_code, exceptionTable := #[], attributes := #[] }
def k2m4 : Method := { name := "find", desc := "([I)I", sig := { parameters := [(.array .int)], returnType := some .int }, accessFlags := 2, code := some k2c4 }
def k2c5 : Code := { maxStack := 3, maxLocals := 4, code := prog_30_method_7_code, exceptionTable := #[], attributes := #[] }
def k2m5 : Method := { name := "same", desc := "(I[I)Z", sig := { parameters := [.int, (.array .int)], returnType := some .boolean }, accessFlags := 2, code := some k2c5 }
def k2c6 : Code := { maxStack := 2, maxLocals := 2, code := prog_30_method_10_code, exceptionTable := #[], attributes := #[] }
def k2m6 : Method := { name := "emptySlots", desc := "(I)[I", sig := { parameters := [.int], returnType := some (.array .int) }, accessFlags := 10, code := some k2c6 }
def k2c7 : Code := { maxStack := 3, maxLocals := 5, code := prog_30_method_11_code, exceptionTable := #[], attributes := #[] }
def k2m7 : Method := { name := "hash", desc := "([III)I", sig := { parameters := [(.array .int), .int, .int], returnType := some .int }, accessFlags := 10, code := some k2c7 }
/-- com/example/pathweave/pathweave/eval/Relation -/
def k2 : Class := { plain "com/example/pathweave/pathweave/eval/Relation" (some 0) with
  accessFlags := 48
  interfaces := #[]
  cf := some (fileOf pool2 8 #[.nestMembers #[91, 78]] #[{ accessFlags := 0, nameIndex := 5, descriptorIndex := 109, attributes := #[] }, { accessFlags := 0, nameIndex := 33, descriptorIndex := 112, attributes := #[] }, { accessFlags := 0, nameIndex := 113, descriptorIndex := 43, attributes := #[] }, { accessFlags := 0, nameIndex := 114, descriptorIndex := 115, attributes := #[] }, { accessFlags := 2, nameIndex := 36, descriptorIndex := 37, attributes := #[] }, { accessFlags := 2, nameIndex := 70, descriptorIndex := 71, attributes := #[] }, { accessFlags := 10, nameIndex := 15, descriptorIndex := 16, attributes := #[] }, { accessFlags := 10, nameIndex := 66, descriptorIndex := 67, attributes := #[] }] 48 2 #[] #[{ accessFlags := 26, nameIndex := 104, descriptorIndex := 30, attributes := #[] }, { accessFlags := 18, nameIndex := 29, descriptorIndex := 30, attributes := #[] }, { accessFlags := 2, nameIndex := 11, descriptorIndex := 12, attributes := #[] }, { accessFlags := 2, nameIndex := 33, descriptorIndex := 30, attributes := #[] }, { accessFlags := 2, nameIndex := 19, descriptorIndex := 12, attributes := #[] }, { accessFlags := 18, nameIndex := 25, descriptorIndex := 26, attributes := #[] }])
  fields := #[{ name := "EMPTY", type := .int, accessFlags := 26, slot := 0, constantValue := 0 }, { name := "arity", type := .int, accessFlags := 18, slot := 0, constantValue := 0 }, { name := "values", type := (.array .int), accessFlags := 2, slot := 1, constantValue := 0 }, { name := "size", type := .int, accessFlags := 2, slot := 2, constantValue := 0 }, { name := "slots", type := (.array .int), accessFlags := 2, slot := 3, constantValue := 0 }, { name := "indexes", type := (.object "java/util/Map"), accessFlags := 18, slot := 4, constantValue := 0 }]
  methods := #[k2m0, k2m1, k2m2, k2m3, k2m4, k2m5, k2m6, k2m7]
  instanceTypes := #[.int, (.array .int), .int, (.array .int), (.object "java/util/Map")]
  staticTypes := #[.int]
  resolved := Array.replicate 146 none
  statics := none }

def pool3 : Array CpInfo := pool [(2, .class_ 4), (1, u "java/lang/Object"), (0, u "<init>"), (0, u "()V"), (7, .class_ 16), (1, u "java/util/Arrays"), (57, .class_ 76), (1, u "java/util/Arrays$NaturalOrder"), (36, .class_ 115), (1, u "java/util/Arrays$LegacyMergeSort"), (1, u "Z"), (257, .class_ 376), (0, u "java/util/Arrays$ArrayList"), (68, u "$assertionsDisabled"), (269, u "MIN_ARRAY_SORT_GRAN"), (0, u "I"), (2, u "INSERTIONSORT_THRESHOLD"), (120, u "fill"), (4, u "([II)V"), (129, .class_ 976), (0, u "java/util/Arrays$ArrayItr")] 52

def k3m0 : Method := { name := "<init>", desc := "()V", sig := { parameters := [], returnType := none }, accessFlags := 2, code := none }
def k3c1 : Code := { maxStack := 3, maxLocals := 4, code := jdk_65_method_103_code, exceptionTable := #[], attributes := #[] }
def k3m1 : Method := { name := "fill", desc := "([II)V", sig := { parameters := [(.array .int), .int], returnType := none }, accessFlags := 9, code := some k3c1 }
/-- java/util/Arrays -/
def k3 : Class := { plain "java/util/Arrays" (some 0) with
  accessFlags := 49
  interfaces := #[]
  cf := some (fileOf pool3 14 #[.nestMembers #[975, 375, 113, 74]] #[{ accessFlags := 2, nameIndex := 5, descriptorIndex := 6, attributes := #[] }, { accessFlags := 9, nameIndex := 840, descriptorIndex := 845, attributes := #[] }] 49 2 #[] #[{ accessFlags := 26, nameIndex := 715, descriptorIndex := 716, attributes := #[] }, { accessFlags := 26, nameIndex := 719, descriptorIndex := 716, attributes := #[] }, { accessFlags := 4120, nameIndex := 445, descriptorIndex := 117, attributes := #[] }])
  fields := #[{ name := "MIN_ARRAY_SORT_GRAN", type := .int, accessFlags := 26, slot := 0, constantValue := 0 }, { name := "INSERTIONSORT_THRESHOLD", type := .int, accessFlags := 26, slot := 1, constantValue := 0 }, { name := "$assertionsDisabled", type := .boolean, accessFlags := 4120, slot := 2, constantValue := 0 }]
  methods := #[k3m0, k3m1]
  instanceTypes := #[]
  staticTypes := #[.int, .int, .boolean]
  resolved := Array.replicate 1029 none
  statics := none }

def pool4 : Array CpInfo := pool [(2, .class_ 4), (1, u "java/util/Map"), (31, .class_ 37), (0, u "java/util/Map$Entry"), (55, .class_ 94), (0, u "java/lang/Object"), (34, u "clear"), (0, u "()V")] 132

def k4m0 : Method := { name := "clear", desc := "()V", sig := { parameters := [], returnType := none }, accessFlags := 1025, code := none }
/-- java/util/Map -/
def k4 : Class := { plain "java/util/Map" (some 0) with
  accessFlags := 1537
  interfaces := #[]
  cf := some (fileOf pool4 2 #[.nestMembers #[36]] #[{ accessFlags := 1025, nameIndex := 129, descriptorIndex := 130, attributes := #[] }] 1537 93 #[] #[])
  fields := #[]
  methods := #[k4m0]
  instanceTypes := #[]
  staticTypes := #[]
  resolved := Array.replicate 263 none
  statics := none }

def pool5 : Array CpInfo := pool [(1, .methodref 2 3), (0, .class_ 4), (0, .nameAndType 5 6), (0, u "java/lang/Object"), (0, u "<init>"), (0, u "()V"), (1, .class_ 10), (1, u "java/util/AbstractMap"), (42, .class_ 54), (0, u "java/util/Map"), (9, u "keySet"), (0, u "Ljava/util/Set;"), (0, .class_ 67), (0, u "java/util/AbstractMap$1"), (5, u "values"), (0, u "Ljava/util/Collection;"), (0, .class_ 76), (0, u "java/util/AbstractMap$2"), (104, .class_ 182), (0, u "java/util/AbstractMap$ViewCollection"), (0, .class_ 184), (0, u "java/util/AbstractMap$SimpleImmutableEntry"), (0, .class_ 186), (0, u "java/util/AbstractMap$SimpleEntry"), (0, .class_ 188), (0, u "java/util/AbstractMap$2$1"), (0, .class_ 190), (0, u "java/util/AbstractMap$1$1")] 5

def k5c0 : Code := { maxStack := 1, maxLocals := 1, code := jdk_71_method_1_code, exceptionTable := #[], attributes := #[] }
def k5m0 : Method := { name := "<init>", desc := "()V", sig := { parameters := [], returnType := none }, accessFlags := 4, code := some k5c0 }
/-- java/util/AbstractMap -/
def k5 : Class := { plain "java/util/AbstractMap" (some 0) with
  accessFlags := 1057
  interfaces := #[4]
  cf := some (fileOf pool5 8 #[.nestMembers #[181, 183, 185, 75, 187, 66, 189]] #[{ accessFlags := 4, nameIndex := 5, descriptorIndex := 6, attributes := #[] }] 1057 2 #[53] #[{ accessFlags := 128, nameIndex := 64, descriptorIndex := 65, attributes := #[] }, { accessFlags := 128, nameIndex := 73, descriptorIndex := 74, attributes := #[] }])
  fields := #[{ name := "keySet", type := (.object "java/util/Set"), accessFlags := 128, slot := 0, constantValue := 0 }, { name := "values", type := (.object "java/util/Collection"), accessFlags := 128, slot := 1, constantValue := 0 }]
  methods := #[k5m0]
  instanceTypes := #[(.object "java/util/Set"), (.object "java/util/Collection")]
  staticTypes := #[]
  resolved := Array.replicate 196 none
  statics := none }

def pool6 : Array CpInfo := pool [(1, .class_ 2), (0, u "java/lang/Cloneable"), (0, .class_ 4), (0, u "java/lang/Object")] 2

/-- java/lang/Cloneable -/
def k6 : Class := { plain "java/lang/Cloneable" (some 0) with
  accessFlags := 1537
  interfaces := #[]
  cf := some (fileOf pool6 1 #[] #[] 1537 3 #[] #[])
  fields := #[]
  methods := #[]
  instanceTypes := #[]
  staticTypes := #[]
  resolved := Array.replicate 7 none
  statics := none }

def pool7 : Array CpInfo := pool [(1, .class_ 2), (0, u "java/io/Serializable"), (0, .class_ 4), (0, u "java/lang/Object")] 2

/-- java/io/Serializable -/
def k7 : Class := { plain "java/io/Serializable" (some 0) with
  accessFlags := 1537
  interfaces := #[]
  cf := some (fileOf pool7 1 #[] #[] 1537 3 #[] #[])
  fields := #[]
  methods := #[]
  instanceTypes := #[]
  staticTypes := #[]
  resolved := Array.replicate 7 none
  statics := none }

def pool8 : Array CpInfo := pool [(40, .class_ 41), (0, u "java/util/HashMap"), (1, .methodref 44 45), (0, .class_ 46), (0, .nameAndType 47 48), (0, u "java/util/AbstractMap"), (0, u "<init>"), (0, u "()V"), (32, .fieldref 40 82), (0, .nameAndType 83 84), (0, u "loadFactor"), (0, u "F"), (5, u "threshold"), (0, u "I"), (0, .float 1061158912), (8, .class_ 103), (1, u "java/util/Map"), (0, u "size"), (0, .fieldref 40 106), (0, .nameAndType 107 108), (0, u "table"), (0, u "[Ljava/util/HashMap$Node;"), (14, u "entrySet"), (39, .class_ 165), (1, u "java/util/HashMap$Node"), (14, .class_ 181), (0, u "java/util/HashMap$TreeNode"), (20, .fieldref 40 203), (0, .nameAndType 204 91), (0, u "modCount"), (37, u "Ljava/util/Set;"), (0, .class_ 244), (0, u "java/util/HashMap$KeySet"), (18, .class_ 264), (0, u "java/util/HashMap$Values"), (3, .class_ 269), (0, u "java/util/HashMap$EntrySet"), (76, .class_ 348), (1, u "java/util/HashMap$UnsafeHolder"), (43, .class_ 393), (0, u "java/lang/Cloneable"), (0, .class_ 395), (0, u "java/io/Serializable"), (0, u "serialVersionUID"), (0, u "J"), (3, u "DEFAULT_INITIAL_CAPACITY"), (1, u "MAXIMUM_CAPACITY"), (0, u "DEFAULT_LOAD_FACTOR"), (0, u "TREEIFY_THRESHOLD"), (1, u "UNTREEIFY_THRESHOLD"), (1, u "MIN_TREEIFY_CAPACITY"), (92, u "clear"), (93, .class_ 597), (0, u "java/util/HashMap$EntrySpliterator"), (0, .class_ 599), (0, u "java/util/HashMap$ValueSpliterator"), (0, .class_ 601), (0, u "java/util/HashMap$KeySpliterator"), (0, .class_ 603), (0, u "java/util/HashMap$HashMapSpliterator"), (0, .class_ 605), (0, u "java/util/HashMap$EntryIterator"), (0, .class_ 607), (0, u "java/util/HashMap$ValueIterator"), (0, .class_ 609), (0, u "java/util/HashMap$KeyIterator"), (0, .class_ 611), (0, u "java/util/HashMap$HashIterator")] 17

def k8c0 : Code := { maxStack := 2, maxLocals := 1, code := jdk_69_method_7_code, exceptionTable := #[], attributes := #[] }
def k8m0 : Method := { name := "<init>", desc := "()V", sig := { parameters := [], returnType := none }, accessFlags := 1, code := some k8c0 }
def k8c1 : Code := { maxStack := 3, maxLocals := 3, code := jdk_69_method_22_code, exceptionTable := #[], attributes := #[] }
def k8m1 : Method := { name := "clear", desc := "()V", sig := { parameters := [], returnType := none }, accessFlags := 1, code := some k8c1 }
/-- java/util/HashMap -/
def k8 : Class := { plain "java/util/HashMap" (some 5) with
  accessFlags := 33
  interfaces := #[4, 6, 7]
  cf := some (fileOf pool8 40 #[.nestMembers #[180, 596, 598, 600, 602, 604, 606, 608, 610, 346, 268, 263, 243, 163]] #[{ accessFlags := 1, nameIndex := 47, descriptorIndex := 48, attributes := #[] }, { accessFlags := 1, nameIndex := 502, descriptorIndex := 48, attributes := #[] }] 33 44 #[101, 392, 394] #[{ accessFlags := 26, nameIndex := 396, descriptorIndex := 397, attributes := #[] }, { accessFlags := 24, nameIndex := 401, descriptorIndex := 91, attributes := #[] }, { accessFlags := 24, nameIndex := 403, descriptorIndex := 91, attributes := #[] }, { accessFlags := 24, nameIndex := 404, descriptorIndex := 84, attributes := #[] }, { accessFlags := 24, nameIndex := 405, descriptorIndex := 91, attributes := #[] }, { accessFlags := 24, nameIndex := 407, descriptorIndex := 91, attributes := #[] }, { accessFlags := 24, nameIndex := 409, descriptorIndex := 91, attributes := #[] }, { accessFlags := 128, nameIndex := 107, descriptorIndex := 108, attributes := #[] }, { accessFlags := 128, nameIndex := 123, descriptorIndex := 242, attributes := #[] }, { accessFlags := 128, nameIndex := 104, descriptorIndex := 91, attributes := #[] }, { accessFlags := 128, nameIndex := 204, descriptorIndex := 91, attributes := #[] }, { accessFlags := 0, nameIndex := 90, descriptorIndex := 91, attributes := #[] }, { accessFlags := 16, nameIndex := 83, descriptorIndex := 84, attributes := #[] }])
  fields := #[{ name := "serialVersionUID", type := .long, accessFlags := 26, slot := 0, constantValue := 0 }, { name := "DEFAULT_INITIAL_CAPACITY", type := .int, accessFlags := 24, slot := 1, constantValue := 0 }, { name := "MAXIMUM_CAPACITY", type := .int, accessFlags := 24, slot := 2, constantValue := 0 }, { name := "DEFAULT_LOAD_FACTOR", type := .float, accessFlags := 24, slot := 3, constantValue := 0 }, { name := "TREEIFY_THRESHOLD", type := .int, accessFlags := 24, slot := 4, constantValue := 0 }, { name := "UNTREEIFY_THRESHOLD", type := .int, accessFlags := 24, slot := 5, constantValue := 0 }, { name := "MIN_TREEIFY_CAPACITY", type := .int, accessFlags := 24, slot := 6, constantValue := 0 }, { name := "table", type := (.array (.object "java/util/HashMap$Node")), accessFlags := 128, slot := 2, constantValue := 0 }, { name := "entrySet", type := (.object "java/util/Set"), accessFlags := 128, slot := 3, constantValue := 0 }, { name := "size", type := .int, accessFlags := 128, slot := 4, constantValue := 0 }, { name := "modCount", type := .int, accessFlags := 128, slot := 5, constantValue := 0 }, { name := "threshold", type := .int, accessFlags := 0, slot := 6, constantValue := 0 }, { name := "loadFactor", type := .float, accessFlags := 16, slot := 7, constantValue := 0 }]
  methods := #[k8m0, k8m1]
  instanceTypes := #[(.object "java/util/Set"), (.object "java/util/Collection"), (.array (.object "java/util/HashMap$Node")), (.object "java/util/Set"), .int, .int, .int, .float]
  staticTypes := #[.long, .int, .int, .float, .int, .int, .int]
  resolved := Array.replicate 629 none
  statics := none }

def pool9 : Array CpInfo := pool [(2, .class_ 4), (1, u "java/lang/Object"), (0, u "<init>"), (0, u "()V"), (1, .class_ 10), (1, u "java/lang/System"), (0, u "allowSecurityManager"), (0, u "I"), (16, u "cons"), (0, u "Ljava/io/Console;"), (77, .class_ 110), (1, u "java/lang/System$CallersHolder"), (43, u "initialErrStream"), (0, u "Ljava/io/PrintStream;"), (19, u "security"), (0, u "Ljava/lang/SecurityManager;"), (31, .class_ 209), (0, u "java/lang/System$1"), (7, u "props"), (0, u "Ljava/util/Properties;"), (2, u "lineSeparator"), (0, u "Ljava/lang/String;"), (96, .class_ 321), (1, u "java/lang/System$LoggerFinder"), (5, .class_ 328), (0, u "java/lang/System$Logger"), (67, u "err"), (2, u "out"), (91, u "notSupportedJnuEncoding"), (15, u "in"), (17, u "initialIn"), (0, u "Ljava/io/InputStream;"), (35, u "bootLayer"), (0, u "Ljava/lang/ModuleLayer;"), (99, .class_ 664), (0, u "java/lang/System$2"), (9, u "NEVER"), (2, u "MAYBE"), (49, u "arraycopy"), (0, u "(Ljava/lang/Object;ILjava/lang/Object;II)V"), (72, .class_ 802), (0, u "java/lang/System$Logger$Level")] 31

def k9m0 : Method := { name := "<init>", desc := "()V", sig := { parameters := [], returnType := none }, accessFlags := 2, code := none }
def k9m1 : Method := { name := "arraycopy", desc := "(Ljava/lang/Object;ILjava/lang/Object;II)V", sig := { parameters := [(.object "java/lang/Object"), .int, (.object "java/lang/Object"), .int, .int], returnType := none }, accessFlags := 265, code := none }
/-- java/lang/System -/
def k9 : Class := { plain "java/lang/System" (some 0) with
  accessFlags := 49
  interfaces := #[]
  cf := some (fileOf pool9 8 #[.nestMembers #[319, 327, 801, 108, 663, 208]] #[{ accessFlags := 2, nameIndex := 5, descriptorIndex := 6, attributes := #[] }, { accessFlags := 265, nameIndex := 727, descriptorIndex := 728, attributes := #[] }] 49 2 #[] #[{ accessFlags := 25, nameIndex := 507, descriptorIndex := 526, attributes := #[] }, { accessFlags := 25, nameIndex := 399, descriptorIndex := 155, attributes := #[] }, { accessFlags := 25, nameIndex := 396, descriptorIndex := 155, attributes := #[] }, { accessFlags := 10, nameIndex := 525, descriptorIndex := 526, attributes := #[] }, { accessFlags := 26, nameIndex := 674, descriptorIndex := 12, attributes := #[] }, { accessFlags := 26, nameIndex := 677, descriptorIndex := 12, attributes := #[] }, { accessFlags := 10, nameIndex := 11, descriptorIndex := 12, attributes := #[] }, { accessFlags := 74, nameIndex := 175, descriptorIndex := 176, attributes := #[] }, { accessFlags := 10, nameIndex := 491, descriptorIndex := 222, attributes := #[] }, { accessFlags := 74, nameIndex := 29, descriptorIndex := 30, attributes := #[] }, { accessFlags := 74, nameIndex := 154, descriptorIndex := 155, attributes := #[] }, { accessFlags := 10, nameIndex := 217, descriptorIndex := 218, attributes := #[] }, { accessFlags := 10, nameIndex := 221, descriptorIndex := 222, attributes := #[] }, { accessFlags := 8, nameIndex := 562, descriptorIndex := 563, attributes := #[] }])
  fields := #[{ name := "in", type := (.object "java/io/InputStream"), accessFlags := 25, slot := 0, constantValue := 0 }, { name := "out", type := (.object "java/io/PrintStream"), accessFlags := 25, slot := 1, constantValue := 0 }, { name := "err", type := (.object "java/io/PrintStream"), accessFlags := 25, slot := 2, constantValue := 0 }, { name := "initialIn", type := (.object "java/io/InputStream"), accessFlags := 10, slot := 3, constantValue := 0 }, { name := "NEVER", type := .int, accessFlags := 26, slot := 4, constantValue := 0 }, { name := "MAYBE", type := .int, accessFlags := 26, slot := 5, constantValue := 0 }, { name := "allowSecurityManager", type := .int, accessFlags := 10, slot := 6, constantValue := 0 }, { name := "security", type := (.object "java/lang/SecurityManager"), accessFlags := 74, slot := 7, constantValue := 0 }, { name := "notSupportedJnuEncoding", type := (.object "java/lang/String"), accessFlags := 10, slot := 8, constantValue := 0 }, { name := "cons", type := (.object "java/io/Console"), accessFlags := 74, slot := 9, constantValue := 0 }, { name := "initialErrStream", type := (.object "java/io/PrintStream"), accessFlags := 74, slot := 10, constantValue := 0 }, { name := "props", type := (.object "java/util/Properties"), accessFlags := 10, slot := 11, constantValue := 0 }, { name := "lineSeparator", type := (.object "java/lang/String"), accessFlags := 10, slot := 12, constantValue := 0 }, { name := "bootLayer", type := (.object "java/lang/ModuleLayer"), accessFlags := 8, slot := 13, constantValue := 0 }]
  methods := #[k9m0, k9m1]
  instanceTypes := #[]
  staticTypes := #[(.object "java/io/InputStream"), (.object "java/io/PrintStream"), (.object "java/io/PrintStream"), (.object "java/io/InputStream"), .int, .int, .int, (.object "java/lang/SecurityManager"), (.object "java/lang/String"), (.object "java/io/Console"), (.object "java/io/PrintStream"), (.object "java/util/Properties"), (.object "java/lang/String"), (.object "java/lang/ModuleLayer")]
  resolved := Array.replicate 834 none
  statics := none }

/-- the primitive byte -/
def k10 : Class := { plain "byte" none with kind := .primitive 'B', accessFlags := 0x411 }
/-- [B -/
def k11 : Class := { plain "[B" (some 0) with kind := .array 10 .byte, interfaces := #[6, 7], accessFlags := 1041 }

/-- the primitive int -/
def k12 : Class := { plain "int" none with kind := .primitive 'I', accessFlags := 0x411 }
/-- [I -/
def k13 : Class := { plain "[I" (some 0) with kind := .array 12 .int, interfaces := #[6, 7], accessFlags := 1041 }

def heap : Heap := #[]
def classes : Array Class := #[k0, k1, k2, k3, k4, k5, k6, k7, k8, k9, k10, k11, k12, k13]
def interned : List (Array UInt16 × Addr) := []
def slotsUsed : Nat := 0
def theMethod : MethodId := ⟨1, 1⟩
def args0 : Array Value := #[.int 3, .int 9, .int 4, .int 3, .int 9, .int 4]
def aboutOver (below : List Frame) : State where
  vm := { classes := classes, interned := interned.toArray }
  heap := heap
  slotsUsed := slotsUsed
  threads := #[{ frames := .invoking theMethod args0 :: below }]
def below0 : List Frame := [.native { method := ⟨0, 0⟩, args := #[] }]
def about1 : State := aboutOver below0
def p0 : Program := .bare "" "" ""
def e0 : Env := launch0.env 0 0 0
theorem w_frames : about1.frames = Frame.invoking theMethod args0 :: below0 := rfl
set_option maxRecDepth 65536 in
theorem w_args : argsFit about1.vm theMethod args0 = true := by decide +kernel
set_option maxRecDepth 65536 in
theorem w_heap : heapFits about1 = true := by decide +kernel
set_option maxRecDepth 65536 in
theorem w_runnable : about1.curStatus? = some .runnable := by decide +kernel
set_option maxRecDepth 65536 in
theorem w_alone : about1.alone = true := by decide +kernel
set_option maxRecDepth 65536 in
theorem w_named : about1.methodNamed? x = some theMethod := by decide +kernel
set_option maxRecDepth 65536 in
theorem w_hears : about1.hears theMethod below0 = true := by decide +kernel
set_option maxRecDepth 65536 in
theorem w_ripe : about1.ripe theMethod args0 below0 = true := by decide +kernel
theorem w_running : about1.status = .running := rfl
set_option maxRecDepth 65536 in
theorem w_room : about1.hasRoom e0.platform room_1 = true :=
  launch0.hasRoom_least _ room_1 (by decide +kernel) (by decide +kernel) (by decide +kernel) (by decide +kernel) (by decide +kernel) (by decide +kernel)
theorem allAtoms_all (ts : List Jvm.Cond) (a : Array Jvm.Value) (st : Jvm.State) : (allAtoms ts).before a st = ts.all (fun c => c.before a st) := by
  induction ts with
  | nil => rfl
  | cons c t ih =>
    show (Jvm.Cond.and c (allAtoms t)).before a st = _
    rw [Jvm.Cond.before_and, ih, List.all_cons]
def words1 : List Jvm.Cond := Jvm.Cond.code x code maxLocals ret :: tables_1
/-- a 'code' word, met by the world's own term for the bytes: nothing is compared byte by byte -/
theorem code_word {y : MethodName} {bytes : ByteArray} {mx : Nat} {rt : Option FieldType} {a : Array Value} {s : State} {m : MethodId} {meth : Method} {c : Code} (h1 : s.methodNamed? y = some m) (h2 : s.vm.method? m = some meth) (h3 : meth.code = some c) (h4 : c.code = bytes)
    (h5 : (c.maxLocals == mx && c.exceptionTable.isEmpty && decide (c.maxStack ≤ mostOperands) && decide (meth.sig.returnType = rt) && !meth.locks && decide (parseMethodDescriptor y.desc = some meth.sig)) = true) : (Jvm.Cond.code y bytes mx rt).before a s = true := by
  simp only [Bool.and_eq_true, beq_iff_eq, Bool.not_eq_true', decide_eq_true_eq] at h5
  obtain ⟨⟨⟨⟨⟨g1, g2⟩, g3⟩, g4⟩, g5⟩, g6⟩ := h5
  simp [Cond.before, Cond.holds, Cond.value, h1, h2, h3, h4, g1, g2, g3, g4, g5, g6]
def isCode : Jvm.Cond → Bool
  | .code _ _ _ _ => true
  | _ => false
theorem all_split {L : List Jvm.Cond} {P : Jvm.Cond → Bool} (h1 : L.all (fun c => isCode c || P c) = true) (h2 : ∀ c ∈ L.filter isCode, P c = true) : L.all P = true := by
  refine List.all_eq_true.mpr fun c hc => ?_
  have h := List.all_eq_true.mp h1 c hc
  rcases Bool.eq_false_or_eq_true (isCode c) with hi | hi
  · exact h2 c (List.mem_filter.mpr ⟨hc, hi⟩)
  · simpa [hi] using h
set_option maxRecDepth 65536 in
theorem w_c0 : (Jvm.Cond.code x code maxLocals ret).before args0 about1 = true := code_word (m := ⟨1, 1⟩) (meth := k1m1) (c := k1c1) (by decide +kernel) rfl rfl rfl (by decide +kernel)
set_option maxRecDepth 65536 in
theorem w_c1 : (Jvm.Cond.code ({ cls := "com/example/pathweave/pathweave/eval/Relation", name := "<init>", desc := "(I)V" } : Jvm.MethodName) prog_30_method_1_code (2 : Nat) (Option.none : Option Jvm.ClassFile.FieldType)).before args0 about1 = true := code_word (m := ⟨2, 0⟩) (meth := k2m0) (c := k2c0) (by decide +kernel) rfl rfl rfl (by decide +kernel)
set_option maxRecDepth 65536 in
theorem w_c2 : (Jvm.Cond.code ({ cls := "java/lang/Object", name := "<init>", desc := "()V" } : Jvm.MethodName) object_method_1_code (1 : Nat) (Option.none : Option Jvm.ClassFile.FieldType)).before args0 about1 = true := code_word (m := ⟨0, 0⟩) (meth := k0m0) (c := k0c0) (by decide +kernel) rfl rfl rfl (by decide +kernel)
set_option maxRecDepth 65536 in
theorem w_c3 : (Jvm.Cond.code ({ cls := "com/example/pathweave/pathweave/eval/Relation", name := "emptySlots", desc := "(I)[I" } : Jvm.MethodName) prog_30_method_10_code (2 : Nat) (Option.some (Jvm.ClassFile.FieldType.array Jvm.ClassFile.FieldType.int))).before args0 about1 = true := code_word (m := ⟨2, 6⟩) (meth := k2m6) (c := k2c6) (by decide +kernel) rfl rfl rfl (by decide +kernel)
set_option maxRecDepth 65536 in
theorem w_c4 : (Jvm.Cond.code ({ cls := "java/util/Arrays", name := "fill", desc := "([II)V" } : Jvm.MethodName) jdk_65_method_103_code (4 : Nat) (Option.none : Option Jvm.ClassFile.FieldType)).before args0 about1 = true := code_word (m := ⟨3, 1⟩) (meth := k3m1) (c := k3c1) (by decide +kernel) rfl rfl rfl (by decide +kernel)
set_option maxRecDepth 65536 in
theorem w_c5 : (Jvm.Cond.code ({ cls := "java/util/HashMap", name := "<init>", desc := "()V" } : Jvm.MethodName) jdk_69_method_7_code (1 : Nat) (Option.none : Option Jvm.ClassFile.FieldType)).before args0 about1 = true := code_word (m := ⟨8, 0⟩) (meth := k8m0) (c := k8c0) (by decide +kernel) rfl rfl rfl (by decide +kernel)
set_option maxRecDepth 65536 in
theorem w_c6 : (Jvm.Cond.code ({ cls := "java/util/AbstractMap", name := "<init>", desc := "()V" } : Jvm.MethodName) jdk_71_method_1_code (1 : Nat) (Option.none : Option Jvm.ClassFile.FieldType)).before args0 about1 = true := code_word (m := ⟨5, 0⟩) (meth := k5m0) (c := k5c0) (by decide +kernel) rfl rfl rfl (by decide +kernel)
set_option maxRecDepth 65536 in
theorem w_c7 : (Jvm.Cond.code ({ cls := "com/example/pathweave/pathweave/eval/Relation", name := "add", desc := "([I)Z" } : Jvm.MethodName) prog_30_method_5_code (3 : Nat) (Option.some Jvm.ClassFile.FieldType.boolean)).before args0 about1 = true := code_word (m := ⟨2, 3⟩) (meth := k2m3) (c := k2c3) (by decide +kernel) rfl rfl rfl (by decide +kernel)
set_option maxRecDepth 65536 in
theorem w_c8 : (Jvm.Cond.code ({ cls := "com/example/pathweave/pathweave/eval/Relation", name := "find", desc := "([I)I" } : Jvm.MethodName) prog_30_method_6_code (4 : Nat) (Option.some Jvm.ClassFile.FieldType.int)).before args0 about1 = true := code_word (m := ⟨2, 4⟩) (meth := k2m4) (c := k2c4) (by decide +kernel) rfl rfl rfl (by decide +kernel)
set_option maxRecDepth 65536 in
theorem w_c9 : (Jvm.Cond.code ({ cls := "com/example/pathweave/pathweave/eval/Relation", name := "hash", desc := "([III)I" } : Jvm.MethodName) prog_30_method_11_code (5 : Nat) (Option.some Jvm.ClassFile.FieldType.int)).before args0 about1 = true := code_word (m := ⟨2, 7⟩) (meth := k2m7) (c := k2c7) (by decide +kernel) rfl rfl rfl (by decide +kernel)
set_option maxRecDepth 65536 in
theorem w_c10 : (Jvm.Cond.code ({ cls := "java/util/HashMap", name := "clear", desc := "()V" } : Jvm.MethodName) jdk_69_method_22_code (3 : Nat) (Option.none : Option Jvm.ClassFile.FieldType)).before args0 about1 = true := code_word (m := ⟨8, 1⟩) (meth := k8m1) (c := k8c1) (by decide +kernel) rfl rfl rfl (by decide +kernel)
set_option maxRecDepth 65536 in
theorem w_c11 : (Jvm.Cond.code ({ cls := "com/example/pathweave/pathweave/eval/Relation", name := "size", desc := "()I" } : Jvm.MethodName) prog_30_method_3_code (1 : Nat) (Option.some Jvm.ClassFile.FieldType.int)).before args0 about1 = true := code_word (m := ⟨2, 1⟩) (meth := k2m1) (c := k2c1) (by decide +kernel) rfl rfl rfl (by decide +kernel)
set_option maxRecDepth 65536 in
theorem w_c12 : (Jvm.Cond.code ({ cls := "com/example/pathweave/pathweave/eval/Relation", name := "value", desc := "(II)I" } : Jvm.MethodName) prog_30_method_4_code (3 : Nat) (Option.some Jvm.ClassFile.FieldType.int)).before args0 about1 = true := code_word (m := ⟨2, 2⟩) (meth := k2m2) (c := k2c2) (by decide +kernel) rfl rfl rfl (by decide +kernel)
set_option maxRecDepth 65536 in
theorem w_c13 : (Jvm.Cond.code ({ cls := "com/example/pathweave/pathweave/eval/Relation", name := "same", desc := "(I[I)Z" } : Jvm.MethodName) prog_30_method_7_code (4 : Nat) (Option.some Jvm.ClassFile.FieldType.boolean)).before args0 about1 = true := code_word (m := ⟨2, 5⟩) (meth := k2m5) (c := k2c5) (by decide +kernel) rfl rfl rfl (by decide +kernel)
def codes1 : List Jvm.Cond := [Jvm.Cond.code x code maxLocals ret, Jvm.Cond.code ({ cls := "com/example/pathweave/pathweave/eval/Relation", name := "<init>", desc := "(I)V" } : Jvm.MethodName) prog_30_method_1_code (2 : Nat) (Option.none : Option Jvm.ClassFile.FieldType), Jvm.Cond.code ({ cls := "java/lang/Object", name := "<init>", desc := "()V" } : Jvm.MethodName) object_method_1_code (1 : Nat) (Option.none : Option Jvm.ClassFile.FieldType), Jvm.Cond.code ({ cls := "com/example/pathweave/pathweave/eval/Relation", name := "emptySlots", desc := "(I)[I" } : Jvm.MethodName) prog_30_method_10_code (2 : Nat) (Option.some (Jvm.ClassFile.FieldType.array Jvm.ClassFile.FieldType.int)), Jvm.Cond.code ({ cls := "java/util/Arrays", name := "fill", desc := "([II)V" } : Jvm.MethodName) jdk_65_method_103_code (4 : Nat) (Option.none : Option Jvm.ClassFile.FieldType), Jvm.Cond.code ({ cls := "java/util/HashMap", name := "<init>", desc := "()V" } : Jvm.MethodName) jdk_69_method_7_code (1 : Nat) (Option.none : Option Jvm.ClassFile.FieldType), Jvm.Cond.code ({ cls := "java/util/AbstractMap", name := "<init>", desc := "()V" } : Jvm.MethodName) jdk_71_method_1_code (1 : Nat) (Option.none : Option Jvm.ClassFile.FieldType), Jvm.Cond.code ({ cls := "com/example/pathweave/pathweave/eval/Relation", name := "add", desc := "([I)Z" } : Jvm.MethodName) prog_30_method_5_code (3 : Nat) (Option.some Jvm.ClassFile.FieldType.boolean), Jvm.Cond.code ({ cls := "com/example/pathweave/pathweave/eval/Relation", name := "find", desc := "([I)I" } : Jvm.MethodName) prog_30_method_6_code (4 : Nat) (Option.some Jvm.ClassFile.FieldType.int), Jvm.Cond.code ({ cls := "com/example/pathweave/pathweave/eval/Relation", name := "hash", desc := "([III)I" } : Jvm.MethodName) prog_30_method_11_code (5 : Nat) (Option.some Jvm.ClassFile.FieldType.int), Jvm.Cond.code ({ cls := "java/util/HashMap", name := "clear", desc := "()V" } : Jvm.MethodName) jdk_69_method_22_code (3 : Nat) (Option.none : Option Jvm.ClassFile.FieldType), Jvm.Cond.code ({ cls := "com/example/pathweave/pathweave/eval/Relation", name := "size", desc := "()I" } : Jvm.MethodName) prog_30_method_3_code (1 : Nat) (Option.some Jvm.ClassFile.FieldType.int), Jvm.Cond.code ({ cls := "com/example/pathweave/pathweave/eval/Relation", name := "value", desc := "(II)I" } : Jvm.MethodName) prog_30_method_4_code (3 : Nat) (Option.some Jvm.ClassFile.FieldType.int), Jvm.Cond.code ({ cls := "com/example/pathweave/pathweave/eval/Relation", name := "same", desc := "(I[I)Z" } : Jvm.MethodName) prog_30_method_7_code (4 : Nat) (Option.some Jvm.ClassFile.FieldType.boolean)]
set_option maxRecDepth 65536 in
theorem codes_eq : words1.filter isCode = codes1 := rfl
theorem w_codes : ∀ c ∈ words1.filter isCode, c.before args0 about1 = true := by
  rw [codes_eq]
  intro c hc
  simp only [codes1, List.mem_cons, List.not_mem_nil, or_false] at hc
  rcases hc with rfl | rfl | rfl | rfl | rfl | rfl | rfl | rfl | rfl | rfl | rfl | rfl | rfl | rfl
  · exact w_c0
  · exact w_c1
  · exact w_c2
  · exact w_c3
  · exact w_c4
  · exact w_c5
  · exact w_c6
  · exact w_c7
  · exact w_c8
  · exact w_c9
  · exact w_c10
  · exact w_c11
  · exact w_c12
  · exact w_c13
set_option maxRecDepth 65536 in
theorem w_t1 : (words1.take 24).all (fun c => isCode c || c.before args0 about1) = true := by decide +kernel
set_option maxRecDepth 65536 in
theorem w_t2 : ((words1.drop 24).take 24).all (fun c => isCode c || c.before args0 about1) = true := by decide +kernel
set_option maxRecDepth 65536 in
theorem w_t3 : (((words1.drop 24).drop 24).take 24).all (fun c => isCode c || c.before args0 about1) = true := by decide +kernel
set_option maxRecDepth 65536 in
theorem w_t4 : (((words1.drop 24).drop 24).drop 24).all (fun c => isCode c || c.before args0 about1) = true := by decide +kernel
theorem w_tables : (allAtoms (Jvm.Cond.code x code maxLocals ret :: tables_1)).before args0 about1 = true := by
  rw [allAtoms_all]
  show words1.all (fun c => c.before args0 about1) = true
  refine all_split ?_ w_codes
  rw [← List.take_append_drop 24 words1, List.all_append, w_t1, ← List.take_append_drop 24 (words1.drop 24), List.all_append, w_t2, ← List.take_append_drop 24 ((words1.drop 24).drop 24), List.all_append, w_t3, w_t4]
  rfl
set_option maxRecDepth 65536 in
theorem w_case : (Jvm.Cond.and given_1 narrow_1).before args0 about1 = true := by decide +kernel
theorem w_applies : (headSpec (Jvm.Cond.code x code maxLocals ret :: tables_1) room_1).applies x e0.platform about1 = true :=
  (Spec.applies_iff w_frames).mpr ⟨w_running, w_runnable, w_alone, w_named, w_hears, w_ripe, w_room, w_tables⟩
theorem atStart : AtStart classFile x code maxLocals ret World_1 tables_1 room_1 Calls_1 rest_1 Pre_1 launch0 p0 e0 about1 theMethod args0 below0 :=
  ⟨lists_1, trivial, launch0.admits_env _ _ _, launch0.least_env, fairChoices_fair.cas, fairChoices_fair.clock, w_frames, w_args, w_heap, w_applies, trivial, trivial, w_case⟩
end start1
theorem witness_1 : WitnessClaimed_1 := ⟨start1.p0, start1.e0, start1.about1, start1.theMethod, start1.args0, start1.below0, start1.atStart⟩
end Jvm.Pilot.@@N@@
