import JvmDerived
import JvmDerived.Pilot.@@N@@Statement
import JvmDerived.Pilot.@@N@@Code
set_option linter.unusedVariables false
set_option linter.unusedSimpArgs false
namespace Jvm.Wk
abbrev F4 := Fin 4
abbrev F2 := Fin 2
open Sem ClassFile Op Lib Jvm.Stand Jvm.Free Jvm.LawKit Jvm.RoadKit
/-- the array at a holds just these values -/
def Ary (Z : State) (h : Heap) (a : Addr) (ty : FieldType) (vs : List Value) : Prop :=
  ∃ c : Cell, Arr Z h a c ty ∧ c.slots.toList = vs ∧ (∀ v ∈ vs, fits ty v = true) ∧ vs.length < 2 ^ 31
abbrev FEnd := State → Outcome → State → List Loc → Nat → Nat → Prop
/-- the wide frame: String constants may have been resolved, the table of interned texts may have grown -/
def FEW (s : State) (o : Outcome) (t : State) (L : List Loc) (k n : Nat) : Prop := (∃ v : Option Value, o = Outcome.returned v) ∧ s.Warmed39 t.vm ∧ (∀ (j : Nat) (p : Array UInt16 × Addr), s.vm.interned.size ≤ j → t.vm.interned[j]? = some p → s.heap.size ≤ p.2 ∧ p.2 < t.heap.size) ∧ s.sameButNew { t with vm := s.vm } L k n
def Endz (FE : FEnd) (p : Program) (e : Env) (below : List Frame) (s : State) (R : Room) (n0 : Nat) (P : Option Value → Heap → Prop) (T : State) (g : JFrame) : Prop :=
  ∃ s₂ o, Steps p.tables e below (T.setTop g) s₂ ∧ s₂.status = .running ∧ Ended s₂ below o ∧ ∃ v L, o = .returned v ∧ (P v s₂.heap ∧ Fr n0 L) ∧ FE s o s₂ L R.cells R.slots
/-- from pc, with these locals, this stack and this heap, the body comes to its end, and P holds there -/
def WG (FE : FEnd) (l : Launch) (R : Room) (Z : State) (own nm : String) (bytes : ByteArray) (maxL : Nat) (ret : Option FieldType) (n0 : Nat) (P : Option Value → Heap → Prop) (h : Heap) (cells slots pc : Nat) (Ls : Array Slot) (st : List Value) : Prop :=
  ∀ (p : Program) (e : Env) (s : State) (m : MethodId) (args : Array Value) (below : List Frame) (meth : Method) (c : Code) (T : State) (locs : List Loc),
    p.tables.exec = Jvm.exec → Z.Warmed39 s.vm → c.code = bytes → c.maxLocals = maxL → s.vm.findClass own = some m.cls → meth.sig.returnType = ret → meth.locks = false → meth.name = nm → n0 ≤ s.heap.size →
    Stand p l e R s m args below meth c T locs cells slots → T.heap = h → Fr n0 locs → Endz FE p e below s R n0 P T (mkF m pc Ls st)
abbrev W := WG FrameEnd
/-- a method's contract where it is called with these arguments over this heap -/
def ConG (FE : FEnd) (ws : List Jvm.Cond) (l : Launch) (Z : State) (y : MethodName) (bytes : ByteArray) (maxL : Nat) (ret : Option FieldType) (rm : Room) (as : Array Value) (h : Heap) (n0 : Nat) (P : Option Value → Heap → Prop) : Prop :=
  MetFree l y (head1 (Jvm.Cond.code y bytes maxL ret :: ws) rm) (fun a U => a = as ∧ Z.Warmed39 U.vm ∧ U.heap = h) (fun _ _ _ _ _ => True) (fun _ U o U' => ∃ v L, o = .returned v ∧ (P v U'.heap ∧ Fr n0 L) ∧ FE U o U' L rm.cells rm.slots)
abbrev ConW := ConG FrameEnd
abbrev Con := ConW []
section Rules
variable {FE : FEnd} {l : Launch} {R : Room} {Z : State} {own nm : String} {bytes : ByteArray} {maxL : Nat} {ret : Option FieldType} {n0 : Nat} {P : Option Value → Heap → Prop} {h : Heap} {cells slots pc : Nat} {Ls : Array Slot} {st : List Value} {a0 : Array Value}
theorem Endz.step {p : Program} {e : Env} {below : List Frame} {s : State} {T T' : State} {g g' : JFrame} (k : Endz FE p e below s R n0 P T' g') (f : ∀ t, Steps p.tables e below (T'.setTop g') t → Steps p.tables e below (T.setTop g) t) : Endz FE p e below s R n0 P T g := by
  obtain ⟨s₂, o, h1, h2⟩ := k
  exact ⟨s₂, o, f _ h1, h2⟩
theorem WG.step {pc' : Nat} {Ls' : Array Slot} {st' : List Value} (k : WG FE l R Z own nm bytes maxL ret n0 P h cells slots pc' Ls' st')
    (f : ∀ (p : Program) (e : Env) (s : State) (m : MethodId) (args : Array Value) (below : List Frame) (meth : Method) (c : Code) (T : State) (locs : List Loc), p.tables.exec = Jvm.exec → Z.Warmed39 s.vm → c.code = bytes → s.vm.findClass own = some m.cls → Stand p l e R s m args below meth c T locs cells slots → T.heap = h →
      ∀ t, Steps p.tables e below (T.setTop (mkF m pc' Ls' st')) t → Steps p.tables e below (T.setTop (mkF m pc Ls st)) t) : WG FE l R Z own nm bytes maxL ret n0 P h cells slots pc Ls st := by
  intro p e s m args below meth c T locs hx hZ hby hml hown hret hlk hnm hn0 X eT N
  exact (k p e s m args below meth c T locs hx hZ hby hml hown hret hlk hnm hn0 X eT N).step (f p e s m args below meth c T locs hx hZ hby hown X eT)
theorem WG.post {P' : Option Value → Heap → Prop} (k : WG FE l R Z own nm bytes maxL ret n0 P' h cells slots pc Ls st) (f : ∀ v h', P' v h' → P v h') : WG FE l R Z own nm bytes maxL ret n0 P h cells slots pc Ls st := by
  intro p e s m args below meth c T locs hx hZ hby hml hown hret hlk hnm hn0 X eT N
  obtain ⟨s₂, o, h1, h2, h3, v, L, h4, h5, h6⟩ := k p e s m args below meth c T locs hx hZ hby hml hown hret hlk hnm hn0 X eT N
  exact ⟨s₂, o, h1, h2, h3, v, L, h4, ⟨f _ _ h5.1, h5.2⟩, h6⟩
theorem WG.mono {cells' slots' : Nat} (k : WG FE l R Z own nm bytes maxL ret n0 P h cells' slots' pc Ls st) (hc : cells ≤ cells') (hs : slots ≤ slots') : WG FE l R Z own nm bytes maxL ret n0 P h cells slots pc Ls st := by
  intro p e s m args below meth c T locs hx hZ hby hml hown hret hlk hnm hn0 X eT N
  exact k p e s m args below meth c T locs hx hZ hby hml hown hret hlk hnm hn0 { X with same := X.same.mono hc hs } eT N
theorem ConG.post {ws : List Jvm.Cond} {y : MethodName} {rm : Room} {as : Array Value} {P' : Option Value → Heap → Prop} (k : ConG FE ws l Z y bytes maxL ret rm as h n0 P') (f : ∀ v h', P' v h' → P v h') : ConG FE ws l Z y bytes maxL ret rm as h n0 P := by
  intro p e ha hc hk s m args below hf happ hP hK
  obtain ⟨n, o, h1, h2, h3, v, L, h4, h5, h6⟩ := k p e ha hc hk s m args below hf happ hP hK
  exact ⟨n, o, h1, h2, h3, v, L, h4, ⟨f _ _ h5.1, h5.2⟩, h6⟩
theorem ConG.of_W {ws : List Jvm.Cond} {y : MethodName} {rm : Room} {as : Array Value} (hy : plainFor y = true) (hn : n0 ≤ h.size) (hef : ∀ m, entryFrame m as maxL = mkF m 0 Ls []) (k : WG FE l rm Z y.cls y.name bytes maxL ret n0 P h 0 0 0 Ls []) : ConG FE ws l Z y bytes maxL ret rm as h n0 P := by
  refine MetFree.of_bodySF hy hisR ?_
  intro p e s m args below meth c s₁ Bd hml0 hP hK
  obtain ⟨rfl, hZ, hh⟩ := hP
  have hown : s.vm.findClass y.cls = some m.cls := findClass_of_methodNamed Bd.named
  have hnm := (name_of_methodNamed Bd.named Bd.method).1
  have X0 : Stand p l e rm s m _ below meth c s₁ [] 0 0 := Stand.of_body Bd
  have e0 : s₁.heap = h := by rw [← hh, Bd.state]; rfl
  obtain ⟨s₂, o, h1, h2⟩ := k p e s m _ below meth c s₁ [] Bd.exec hZ Bd.bytes hml0 hown Bd.returns (BodyLoose.notSynchronized Bd) hnm (by rw [hh]; exact hn) X0 e0 (Fr.nil n0)
  exact ⟨s₂, o, castTop (hef m) h1, h2⟩
/-! pure steps -/
theorem W.iadd {x y : Int32} (n : Nat) (hd : decode bytes pc = .ok (.iadd, 1)) (hn : pc + 1 = n) (v : Int32) (hv : x + y = v) (k : WG FE l R Z own nm bytes maxL ret n0 P h cells slots n Ls (.int v :: st)) : WG FE l R Z own nm bytes maxL ret n0 P h cells slots pc Ls (.int y :: .int x :: st) := by
  subst hn
  exact k.step fun p e s m args below meth c T locs hx hZ hby hown X eT t q => XS.iadd X.here hx rfl (hb hby hd) rfl (hv ▸ q)
theorem W.ladd {x y : Int64} (n : Nat) (hd : decode bytes pc = .ok (.ladd, 1)) (hn : pc + 1 = n) (v : Int64) (hv : x + y = v) (k : WG FE l R Z own nm bytes maxL ret n0 P h cells slots n Ls (.long v :: st)) : WG FE l R Z own nm bytes maxL ret n0 P h cells slots pc Ls (.long y :: .long x :: st) := by
  subst hn
  exact k.step fun p e s m args below meth c T locs hx hZ hby hown X eT t q => XS.ladd X.here hx rfl (hb hby hd) rfl (hv ▸ q)
theorem W.isub {x y : Int32} (n : Nat) (hd : decode bytes pc = .ok (.isub, 1)) (hn : pc + 1 = n) (v : Int32) (hv : x - y = v) (k : WG FE l R Z own nm bytes maxL ret n0 P h cells slots n Ls (.int v :: st)) : WG FE l R Z own nm bytes maxL ret n0 P h cells slots pc Ls (.int y :: .int x :: st) := by
  subst hn
  exact k.step fun p e s m args below meth c T locs hx hZ hby hown X eT t q => XS.isub X.here hx rfl (hb hby hd) rfl (hv ▸ q)
theorem W.lsub {x y : Int64} (n : Nat) (hd : decode bytes pc = .ok (.lsub, 1)) (hn : pc + 1 = n) (v : Int64) (hv : x - y = v) (k : WG FE l R Z own nm bytes maxL ret n0 P h cells slots n Ls (.long v :: st)) : WG FE l R Z own nm bytes maxL ret n0 P h cells slots pc Ls (.long y :: .long x :: st) := by
  subst hn
  exact k.step fun p e s m args below meth c T locs hx hZ hby hown X eT t q => XS.lsub X.here hx rfl (hb hby hd) rfl (hv ▸ q)
theorem W.imul {x y : Int32} (n : Nat) (hd : decode bytes pc = .ok (.imul, 1)) (hn : pc + 1 = n) (v : Int32) (hv : x * y = v) (k : WG FE l R Z own nm bytes maxL ret n0 P h cells slots n Ls (.int v :: st)) : WG FE l R Z own nm bytes maxL ret n0 P h cells slots pc Ls (.int y :: .int x :: st) := by
  subst hn
  exact k.step fun p e s m args below meth c T locs hx hZ hby hown X eT t q => XS.imul X.here hx rfl (hb hby hd) rfl (hv ▸ q)
theorem W.lmul {x y : Int64} (n : Nat) (hd : decode bytes pc = .ok (.lmul, 1)) (hn : pc + 1 = n) (v : Int64) (hv : x * y = v) (k : WG FE l R Z own nm bytes maxL ret n0 P h cells slots n Ls (.long v :: st)) : WG FE l R Z own nm bytes maxL ret n0 P h cells slots pc Ls (.long y :: .long x :: st) := by
  subst hn
  exact k.step fun p e s m args below meth c T locs hx hZ hby hown X eT t q => XS.lmul X.here hx rfl (hb hby hd) rfl (hv ▸ q)
theorem W.iand {x y : Int32} (n : Nat) (hd : decode bytes pc = .ok (.iand, 1)) (hn : pc + 1 = n) (v : Int32) (hv : x &&& y = v) (k : WG FE l R Z own nm bytes maxL ret n0 P h cells slots n Ls (.int v :: st)) : WG FE l R Z own nm bytes maxL ret n0 P h cells slots pc Ls (.int y :: .int x :: st) := by
  subst hn
  exact k.step fun p e s m args below meth c T locs hx hZ hby hown X eT t q => XS.iand X.here hx rfl (hb hby hd) rfl (hv ▸ q)
theorem W.land {x y : Int64} (n : Nat) (hd : decode bytes pc = .ok (.land, 1)) (hn : pc + 1 = n) (v : Int64) (hv : x &&& y = v) (k : WG FE l R Z own nm bytes maxL ret n0 P h cells slots n Ls (.long v :: st)) : WG FE l R Z own nm bytes maxL ret n0 P h cells slots pc Ls (.long y :: .long x :: st) := by
  subst hn
  exact k.step fun p e s m args below meth c T locs hx hZ hby hown X eT t q => XS.land X.here hx rfl (hb hby hd) rfl (hv ▸ q)
theorem W.ior {x y : Int32} (n : Nat) (hd : decode bytes pc = .ok (.ior, 1)) (hn : pc + 1 = n) (v : Int32) (hv : x ||| y = v) (k : WG FE l R Z own nm bytes maxL ret n0 P h cells slots n Ls (.int v :: st)) : WG FE l R Z own nm bytes maxL ret n0 P h cells slots pc Ls (.int y :: .int x :: st) := by
  subst hn
  exact k.step fun p e s m args below meth c T locs hx hZ hby hown X eT t q => XS.ior X.here hx rfl (hb hby hd) rfl (hv ▸ q)
theorem W.lor {x y : Int64} (n : Nat) (hd : decode bytes pc = .ok (.lor, 1)) (hn : pc + 1 = n) (v : Int64) (hv : x ||| y = v) (k : WG FE l R Z own nm bytes maxL ret n0 P h cells slots n Ls (.long v :: st)) : WG FE l R Z own nm bytes maxL ret n0 P h cells slots pc Ls (.long y :: .long x :: st) := by
  subst hn
  exact k.step fun p e s m args below meth c T locs hx hZ hby hown X eT t q => XS.lor X.here hx rfl (hb hby hd) rfl (hv ▸ q)
theorem W.ixor {x y : Int32} (n : Nat) (hd : decode bytes pc = .ok (.ixor, 1)) (hn : pc + 1 = n) (v : Int32) (hv : x ^^^ y = v) (k : WG FE l R Z own nm bytes maxL ret n0 P h cells slots n Ls (.int v :: st)) : WG FE l R Z own nm bytes maxL ret n0 P h cells slots pc Ls (.int y :: .int x :: st) := by
  subst hn
  exact k.step fun p e s m args below meth c T locs hx hZ hby hown X eT t q => XS.ixor X.here hx rfl (hb hby hd) rfl (hv ▸ q)
theorem W.lxor {x y : Int64} (n : Nat) (hd : decode bytes pc = .ok (.lxor, 1)) (hn : pc + 1 = n) (v : Int64) (hv : x ^^^ y = v) (k : WG FE l R Z own nm bytes maxL ret n0 P h cells slots n Ls (.long v :: st)) : WG FE l R Z own nm bytes maxL ret n0 P h cells slots pc Ls (.long y :: .long x :: st) := by
  subst hn
  exact k.step fun p e s m args below meth c T locs hx hZ hby hown X eT t q => XS.lxor X.here hx rfl (hb hby hd) rfl (hv ▸ q)
theorem W.idiv {x y : Int32} (n : Nat) (hd : decode bytes pc = .ok (.idiv, 1)) (hn : pc + 1 = n) (hy : y ≠ 0) (v : Int32) (hv : x / y = v) (k : WG FE l R Z own nm bytes maxL ret n0 P h cells slots n Ls (.int v :: st)) : WG FE l R Z own nm bytes maxL ret n0 P h cells slots pc Ls (.int y :: .int x :: st) := by
  subst hn
  exact k.step fun p e s m args below meth c T locs hx hZ hby hown X eT t q => XS.idiv X.here hx rfl (hb hby hd) rfl hy (hv ▸ q)
theorem W.irem {x y : Int32} (n : Nat) (hd : decode bytes pc = .ok (.irem, 1)) (hn : pc + 1 = n) (hy : y ≠ 0) (v : Int32) (hv : x % y = v) (k : WG FE l R Z own nm bytes maxL ret n0 P h cells slots n Ls (.int v :: st)) : WG FE l R Z own nm bytes maxL ret n0 P h cells slots pc Ls (.int y :: .int x :: st) := by
  subst hn
  exact k.step fun p e s m args below meth c T locs hx hZ hby hown X eT t q => iremM X hx rfl (hb hby hd) rfl hy (hv ▸ q)
theorem W.ldiv {x y : Int64} (n : Nat) (hd : decode bytes pc = .ok (.ldiv, 1)) (hn : pc + 1 = n) (hy : y ≠ 0) (v : Int64) (hv : x / y = v) (k : WG FE l R Z own nm bytes maxL ret n0 P h cells slots n Ls (.long v :: st)) : WG FE l R Z own nm bytes maxL ret n0 P h cells slots pc Ls (.long y :: .long x :: st) := by
  subst hn
  exact k.step fun p e s m args below meth c T locs hx hZ hby hown X eT t q => XS.ldiv X.here hx rfl (hb hby hd) rfl hy (hv ▸ q)
theorem W.lrem {x y : Int64} (n : Nat) (hd : decode bytes pc = .ok (.lrem, 1)) (hn : pc + 1 = n) (hy : y ≠ 0) (v : Int64) (hv : x % y = v) (k : WG FE l R Z own nm bytes maxL ret n0 P h cells slots n Ls (.long v :: st)) : WG FE l R Z own nm bytes maxL ret n0 P h cells slots pc Ls (.long y :: .long x :: st) := by
  subst hn
  exact k.step fun p e s m args below meth c T locs hx hZ hby hown X eT t q => XS.lrem X.here hx rfl (hb hby hd) rfl hy ((lrem_mod x y).trans hv ▸ q)
theorem W.ishl {x y : Int32} (n : Nat) (hd : decode bytes pc = .ok (.ishl, 1)) (hn : pc + 1 = n) (v : Int32) (hv : x <<< (y &&& 31) = v) (k : WG FE l R Z own nm bytes maxL ret n0 P h cells slots n Ls (.int v :: st)) : WG FE l R Z own nm bytes maxL ret n0 P h cells slots pc Ls (.int y :: .int x :: st) := by
  subst hn
  exact k.step fun p e s m args below meth c T locs hx hZ hby hown X eT t q => XS.ishl X.here hx rfl (hb hby hd) rfl (hv ▸ q)
theorem W.ishr {x y : Int32} (n : Nat) (hd : decode bytes pc = .ok (.ishr, 1)) (hn : pc + 1 = n) (v : Int32) (hv : x >>> (y &&& 31) = v) (k : WG FE l R Z own nm bytes maxL ret n0 P h cells slots n Ls (.int v :: st)) : WG FE l R Z own nm bytes maxL ret n0 P h cells slots pc Ls (.int y :: .int x :: st) := by
  subst hn
  exact k.step fun p e s m args below meth c T locs hx hZ hby hown X eT t q => XS.ishr X.here hx rfl (hb hby hd) rfl (hv ▸ q)
theorem W.iushr {x y : Int32} (n : Nat) (hd : decode bytes pc = .ok (.iushr, 1)) (hn : pc + 1 = n) (v : Int32) (hv : (x.toUInt32 >>> (y &&& 31).toUInt32).toInt32 = v) (k : WG FE l R Z own nm bytes maxL ret n0 P h cells slots n Ls (.int v :: st)) : WG FE l R Z own nm bytes maxL ret n0 P h cells slots pc Ls (.int y :: .int x :: st) := by
  subst hn
  exact k.step fun p e s m args below meth c T locs hx hZ hby hown X eT t q => XS.iushr X.here hx rfl (hb hby hd) rfl (hv ▸ q)
theorem W.lshl {x : Int64} {y : Int32} (n : Nat) (hd : decode bytes pc = .ok (.lshl, 1)) (hn : pc + 1 = n) (v : Int64) (hv : x <<< (y &&& 0x3f).toInt64 = v) (k : WG FE l R Z own nm bytes maxL ret n0 P h cells slots n Ls (.long v :: st)) : WG FE l R Z own nm bytes maxL ret n0 P h cells slots pc Ls (.int y :: .long x :: st) := by
  subst hn
  exact k.step fun p e s m args below meth c T locs hx hZ hby hown X eT t q => XS.lshl X.here hx rfl (hb hby hd) rfl (hv ▸ q)
theorem W.lshr {x : Int64} {y : Int32} (n : Nat) (hd : decode bytes pc = .ok (.lshr, 1)) (hn : pc + 1 = n) (v : Int64) (hv : x >>> (y &&& 0x3f).toInt64 = v) (k : WG FE l R Z own nm bytes maxL ret n0 P h cells slots n Ls (.long v :: st)) : WG FE l R Z own nm bytes maxL ret n0 P h cells slots pc Ls (.int y :: .long x :: st) := by
  subst hn
  exact k.step fun p e s m args below meth c T locs hx hZ hby hown X eT t q => XS.lshr X.here hx rfl (hb hby hd) rfl (hv ▸ q)
theorem W.lushr {x : Int64} {y : Int32} (n : Nat) (hd : decode bytes pc = .ok (.lushr, 1)) (hn : pc + 1 = n) (v : Int64) (hv : (x.toUInt64 >>> (y &&& 0x3f).toInt64.toUInt64).toInt64 = v) (k : WG FE l R Z own nm bytes maxL ret n0 P h cells slots n Ls (.long v :: st)) : WG FE l R Z own nm bytes maxL ret n0 P h cells slots pc Ls (.int y :: .long x :: st) := by
  subst hn
  exact k.step fun p e s m args below meth c T locs hx hZ hby hown X eT t q => XS.lushr X.here hx rfl (hb hby hd) rfl (hv ▸ q)
theorem W.ineg {x : Int32} (n : Nat) (hd : decode bytes pc = .ok (.ineg, 1)) (hn : pc + 1 = n) (v : Int32) (hv : -x = v) (k : WG FE l R Z own nm bytes maxL ret n0 P h cells slots n Ls (.int v :: st)) : WG FE l R Z own nm bytes maxL ret n0 P h cells slots pc Ls (.int x :: st) := by
  subst hn
  exact k.step fun p e s m args below meth c T locs hx hZ hby hown X eT t q => XS.ineg X.here hx rfl (hb hby hd) rfl (hv ▸ q)
theorem W.lneg {x : Int64} (n : Nat) (hd : decode bytes pc = .ok (.lneg, 1)) (hn : pc + 1 = n) (v : Int64) (hv : -x = v) (k : WG FE l R Z own nm bytes maxL ret n0 P h cells slots n Ls (.long v :: st)) : WG FE l R Z own nm bytes maxL ret n0 P h cells slots pc Ls (.long x :: st) := by
  subst hn
  exact k.step fun p e s m args below meth c T locs hx hZ hby hown X eT t q => XS.lneg X.here hx rfl (hb hby hd) rfl (hv ▸ q)
theorem W.i2l {x : Int32} (n : Nat) (hd : decode bytes pc = .ok (.i2l, 1)) (hn : pc + 1 = n) (v : Int64) (hv : x.toInt64 = v) (k : WG FE l R Z own nm bytes maxL ret n0 P h cells slots n Ls (.long v :: st)) : WG FE l R Z own nm bytes maxL ret n0 P h cells slots pc Ls (.int x :: st) := by
  subst hn
  exact k.step fun p e s m args below meth c T locs hx hZ hby hown X eT t q => XS.i2l X.here hx rfl (hb hby hd) rfl (hv ▸ q)
theorem W.l2i {x : Int64} (n : Nat) (hd : decode bytes pc = .ok (.l2i, 1)) (hn : pc + 1 = n) (v : Int32) (hv : x.toInt32 = v) (k : WG FE l R Z own nm bytes maxL ret n0 P h cells slots n Ls (.int v :: st)) : WG FE l R Z own nm bytes maxL ret n0 P h cells slots pc Ls (.long x :: st) := by
  subst hn
  exact k.step fun p e s m args below meth c T locs hx hZ hby hown X eT t q => XS.l2i X.here hx rfl (hb hby hd) rfl (hv ▸ q)
theorem W.i2b {x : Int32} (n : Nat) (hd : decode bytes pc = .ok (.i2b, 1)) (hn : pc + 1 = n) (v : Int32) (hv : x.toInt8.toInt32 = v) (k : WG FE l R Z own nm bytes maxL ret n0 P h cells slots n Ls (.int v :: st)) : WG FE l R Z own nm bytes maxL ret n0 P h cells slots pc Ls (.int x :: st) := by
  subst hn
  exact k.step fun p e s m args below meth c T locs hx hZ hby hown X eT t q => XS.i2b X.here hx rfl (hb hby hd) rfl (hv ▸ q)
theorem W.i2s {x : Int32} (n : Nat) (hd : decode bytes pc = .ok (.i2s, 1)) (hn : pc + 1 = n) (v : Int32) (hv : x.toInt16.toInt32 = v) (k : WG FE l R Z own nm bytes maxL ret n0 P h cells slots n Ls (.int v :: st)) : WG FE l R Z own nm bytes maxL ret n0 P h cells slots pc Ls (.int x :: st) := by
  subst hn
  exact k.step fun p e s m args below meth c T locs hx hZ hby hown X eT t q => XS.i2s X.here hx rfl (hb hby hd) rfl (hv ▸ q)
theorem W.i2c {x : Int32} (n : Nat) (hd : decode bytes pc = .ok (.i2c, 1)) (hn : pc + 1 = n) (v : Int32) (hv : x.toUInt32.toUInt16.toUInt32.toInt32 = v) (k : WG FE l R Z own nm bytes maxL ret n0 P h cells slots n Ls (.int v :: st)) : WG FE l R Z own nm bytes maxL ret n0 P h cells slots pc Ls (.int x :: st) := by
  subst hn
  exact k.step fun p e s m args below meth c T locs hx hZ hby hown X eT t q => XS.i2c X.here hx rfl (hb hby hd) rfl (hv ▸ q)
theorem W.lcmp {x y : Int64} (n : Nat) (hd : decode bytes pc = .ok (.lcmp, 1)) (hn : pc + 1 = n) (v : Int32) (hv : lcmpW x y = v) (k : WG FE l R Z own nm bytes maxL ret n0 P h cells slots n Ls (.int v :: st)) : WG FE l R Z own nm bytes maxL ret n0 P h cells slots pc Ls (.long y :: .long x :: st) := by
  subst hn
  exact k.step fun p e s m args below meth c T locs hx hZ hby hown X eT t q => XS.lcmp X.here hx rfl (hb hby hd) rfl ((show (if x > y then 1 else if x = y then 0 else -1) = v from hv) ▸ q)
theorem W.iconst {i : Int} (n : Nat) (hd : decode bytes pc = .ok (.iconst i, 1)) (hn : pc + 1 = n) (v : Int32) (hv : Int32.ofInt i = v) (k : WG FE l R Z own nm bytes maxL ret n0 P h cells slots n Ls (.int v :: st)) : WG FE l R Z own nm bytes maxL ret n0 P h cells slots pc Ls st := by
  subst hn
  exact k.step fun p e s m args below meth c T locs hx hZ hby hown X eT t q => XS.iconst X.here hx rfl (hb hby hd) (hv ▸ q)
theorem W.bipush {i : Int} (n : Nat) (hd : decode bytes pc = .ok (.bipush i, 2)) (hn : pc + 2 = n) (v : Int32) (hv : (Int8.ofInt i).toInt32 = v) (k : WG FE l R Z own nm bytes maxL ret n0 P h cells slots n Ls (.int v :: st)) : WG FE l R Z own nm bytes maxL ret n0 P h cells slots pc Ls st := by
  subst hn
  exact k.step fun p e s m args below meth c T locs hx hZ hby hown X eT t q => XS.bipush X.here hx rfl (hb hby hd) (hv ▸ q)
theorem W.sipush {i : Int} (n : Nat) (hd : decode bytes pc = .ok (.sipush i, 3)) (hn : pc + 3 = n) (v : Int32) (hv : (Int16.ofInt i).toInt32 = v) (k : WG FE l R Z own nm bytes maxL ret n0 P h cells slots n Ls (.int v :: st)) : WG FE l R Z own nm bytes maxL ret n0 P h cells slots pc Ls st := by
  subst hn
  exact k.step fun p e s m args below meth c T locs hx hZ hby hown X eT t q => XS.sipush X.here hx rfl (hb hby hd) (hv ▸ q)
theorem W.lconst {i : F2} (n : Nat) (hd : decode bytes pc = .ok (.lconst i, 1)) (hn : pc + 1 = n) (v : Int64) (hv : Int64.ofNat i = v) (k : WG FE l R Z own nm bytes maxL ret n0 P h cells slots n Ls (.long v :: st)) : WG FE l R Z own nm bytes maxL ret n0 P h cells slots pc Ls st := by
  subst hn
  exact k.step fun p e s m args below meth c T locs hx hZ hby hown X eT t q => XS.lconst X.here hx rfl (hb hby hd) (hv ▸ q)
theorem W.aconst_null (n : Nat) (hd : decode bytes pc = .ok (.aconst_null, 1)) (hn : pc + 1 = n) (k : WG FE l R Z own nm bytes maxL ret n0 P h cells slots n Ls (.null :: st)) : WG FE l R Z own nm bytes maxL ret n0 P h cells slots pc Ls st := by
  subst hn
  exact k.step fun p e s m args below meth c T locs hx hZ hby hown X eT t q => XS.aconstNull X.here hx rfl (hb hby hd) q
theorem W.ldcI {i : Nat} {v : Int32} (n : Nat) (hd : decode bytes pc = .ok (.ldc i, 2)) (hn : pc + 2 = n) (w : (Jvm.Cond.constant own i v).before a0 Z = true) (k : WG FE l R Z own nm bytes maxL ret n0 P h cells slots n Ls (.int v :: st)) : WG FE l R Z own nm bytes maxL ret n0 P h cells slots pc Ls st := by
  subst hn
  exact k.step fun p e s m args below meth c T locs hx hZ hby hown X eT t q => X.ldcI hx hown (mvT hZ w) rfl (hb hby hd) q
theorem W.ldcWI {i : Nat} {v : Int32} (n : Nat) (hd : decode bytes pc = .ok (.ldc_w i, 3)) (hn : pc + 3 = n) (w : (Jvm.Cond.constant own i v).before a0 Z = true) (k : WG FE l R Z own nm bytes maxL ret n0 P h cells slots n Ls (.int v :: st)) : WG FE l R Z own nm bytes maxL ret n0 P h cells slots pc Ls st := by
  subst hn
  exact k.step fun p e s m args below meth c T locs hx hZ hby hown X eT t q => X.ldcWI hx hown (mvT hZ w) rfl (hb hby hd) q
theorem W.ldc2J {i : Nat} {v : Int64} (n : Nat) (hd : decode bytes pc = .ok (.ldc2_w i, 3)) (hn : pc + 3 = n) (w : (Jvm.Cond.constantLong own i v).before a0 Z = true) (k : WG FE l R Z own nm bytes maxL ret n0 P h cells slots n Ls (.long v :: st)) : WG FE l R Z own nm bytes maxL ret n0 P h cells slots pc Ls st := by
  subst hn
  exact k.step fun p e s m args below meth c T locs hx hZ hby hown X eT t q => X.ldc2J hx hown (mvT hZ w) rfl (hb hby hd) q
theorem W.ldcF {i : Nat} {v : UInt32} (n : Nat) (hd : decode bytes pc = .ok (.ldc i, 2)) (hn : pc + 2 = n) (w : (Jvm.Cond.constantFloat own i v).before a0 Z = true) (k : WG FE l R Z own nm bytes maxL ret n0 P h cells slots n Ls (.float v :: st)) : WG FE l R Z own nm bytes maxL ret n0 P h cells slots pc Ls st := by
  subst hn
  exact k.step fun p e s m args below meth c T locs hx hZ hby hown X eT t q => X.ldcFloatC hx hown (mvT hZ w) (g := mkF m pc Ls st) rfl (hb hby hd) t q
theorem W.ldcR {i : Nat} {text : String} {a : Addr} (n : Nat) (hd : decode bytes pc = .ok (.ldc i, 2)) (hn : pc + 2 = n) (w : (Jvm.Cond.stringRef own i text).before a0 Z = true) (L : RoadKit.Lit Z own i a) (k : WG FE l R Z own nm bytes maxL ret n0 P h cells slots n Ls (.ref a :: st)) : WG FE l R Z own nm bytes maxL ret n0 P h cells slots pc Ls st := by
  subst hn
  exact k.step fun p e s m args below meth c T locs hx hZ hby hown X eT t q => RoadKit.ldcR X hx hZ hown w L (g := mkF m pc Ls st) rfl (hb hby hd) t q
theorem W.iload {i : Nat} {v : Int32} (n : Nat) (hd : decode bytes pc = .ok (.iload i, 2)) (hn : pc + 2 = n) (hl : Ls[i]? = some (.val (.int v))) (k : WG FE l R Z own nm bytes maxL ret n0 P h cells slots n Ls (.int v :: st)) : WG FE l R Z own nm bytes maxL ret n0 P h cells slots pc Ls st := by
  subst hn
  exact k.step fun p e s m args below meth c T locs hx hZ hby hown X eT t q => XS.iload X.here hx rfl (hb hby hd) hl q
theorem W.iloadN {i : F4} {v : Int32} (n : Nat) (hd : decode bytes pc = .ok (.iload_n i, 1)) (hn : pc + 1 = n) (hl : Ls[i.val]? = some (.val (.int v))) (k : WG FE l R Z own nm bytes maxL ret n0 P h cells slots n Ls (.int v :: st)) : WG FE l R Z own nm bytes maxL ret n0 P h cells slots pc Ls st := by
  subst hn
  exact k.step fun p e s m args below meth c T locs hx hZ hby hown X eT t q => XS.iloadN X.here hx rfl (hb hby hd) hl q
theorem W.lload {i : Nat} {v : Int64} (n : Nat) (hd : decode bytes pc = .ok (.lload i, 2)) (hn : pc + 2 = n) (hl : Ls[i]? = some (.val (.long v))) (k : WG FE l R Z own nm bytes maxL ret n0 P h cells slots n Ls (.long v :: st)) : WG FE l R Z own nm bytes maxL ret n0 P h cells slots pc Ls st := by
  subst hn
  exact k.step fun p e s m args below meth c T locs hx hZ hby hown X eT t q => XS.lload X.here hx rfl (hb hby hd) hl q
theorem W.lloadN {i : F4} {v : Int64} (n : Nat) (hd : decode bytes pc = .ok (.lload_n i, 1)) (hn : pc + 1 = n) (hl : Ls[i.val]? = some (.val (.long v))) (k : WG FE l R Z own nm bytes maxL ret n0 P h cells slots n Ls (.long v :: st)) : WG FE l R Z own nm bytes maxL ret n0 P h cells slots pc Ls st := by
  subst hn
  exact k.step fun p e s m args below meth c T locs hx hZ hby hown X eT t q => XS.lloadN X.here hx rfl (hb hby hd) hl q
theorem W.aload {i : Nat} {v : Value} (n : Nat) (hd : decode bytes pc = .ok (.aload i, 2)) (hn : pc + 2 = n) (hl : Ls[i]? = some (.val v)) (hv : v.isRef = true) (k : WG FE l R Z own nm bytes maxL ret n0 P h cells slots n Ls (v :: st)) : WG FE l R Z own nm bytes maxL ret n0 P h cells slots pc Ls st := by
  subst hn
  exact k.step fun p e s m args below meth c T locs hx hZ hby hown X eT t q => XS.aload X.here hx rfl (hb hby hd) hl hv q
theorem W.aloadN {i : F4} {v : Value} (n : Nat) (hd : decode bytes pc = .ok (.aload_n i, 1)) (hn : pc + 1 = n) (hl : Ls[i.val]? = some (.val v)) (hv : v.isRef = true) (k : WG FE l R Z own nm bytes maxL ret n0 P h cells slots n Ls (v :: st)) : WG FE l R Z own nm bytes maxL ret n0 P h cells slots pc Ls st := by
  subst hn
  exact k.step fun p e s m args below meth c T locs hx hZ hby hown X eT t q => XS.aloadN X.here hx rfl (hb hby hd) hl hv q
theorem W.istore {i : Nat} {v : Int32} (n : Nat) (hd : decode bytes pc = .ok (.istore i, 2)) (hn : pc + 2 = n) (Ls' : Array Slot) (hl : storeLocals Ls i (.int v) = some Ls') (k : WG FE l R Z own nm bytes maxL ret n0 P h cells slots n Ls' st) : WG FE l R Z own nm bytes maxL ret n0 P h cells slots pc Ls (.int v :: st) := by
  subst hn
  exact k.step fun p e s m args below meth c T locs hx hZ hby hown X eT t q => XS.istore X.here hx rfl (hb hby hd) rfl hl q
theorem W.istoreN {i : F4} {v : Int32} (n : Nat) (hd : decode bytes pc = .ok (.istore_n i, 1)) (hn : pc + 1 = n) (Ls' : Array Slot) (hl : storeLocals Ls i.val (.int v) = some Ls') (k : WG FE l R Z own nm bytes maxL ret n0 P h cells slots n Ls' st) : WG FE l R Z own nm bytes maxL ret n0 P h cells slots pc Ls (.int v :: st) := by
  subst hn
  exact k.step fun p e s m args below meth c T locs hx hZ hby hown X eT t q => XS.istoreN X.here hx rfl (hb hby hd) rfl hl q
theorem W.lstore {i : Nat} {v : Int64} (n : Nat) (hd : decode bytes pc = .ok (.lstore i, 2)) (hn : pc + 2 = n) (Ls' : Array Slot) (hl : storeLocals Ls i (.long v) = some Ls') (k : WG FE l R Z own nm bytes maxL ret n0 P h cells slots n Ls' st) : WG FE l R Z own nm bytes maxL ret n0 P h cells slots pc Ls (.long v :: st) := by
  subst hn
  exact k.step fun p e s m args below meth c T locs hx hZ hby hown X eT t q => XS.lstore X.here hx rfl (hb hby hd) rfl hl q
theorem W.lstoreN {i : F4} {v : Int64} (n : Nat) (hd : decode bytes pc = .ok (.lstore_n i, 1)) (hn : pc + 1 = n) (Ls' : Array Slot) (hl : storeLocals Ls i.val (.long v) = some Ls') (k : WG FE l R Z own nm bytes maxL ret n0 P h cells slots n Ls' st) : WG FE l R Z own nm bytes maxL ret n0 P h cells slots pc Ls (.long v :: st) := by
  subst hn
  exact k.step fun p e s m args below meth c T locs hx hZ hby hown X eT t q => XS.lstoreN X.here hx rfl (hb hby hd) rfl hl q
theorem W.astore {i : Nat} {v : Value} (n : Nat) (hd : decode bytes pc = .ok (.astore i, 2)) (hn : pc + 2 = n) (hv : v.isRef = true) (Ls' : Array Slot) (hl : storeLocals Ls i v = some Ls') (k : WG FE l R Z own nm bytes maxL ret n0 P h cells slots n Ls' st) : WG FE l R Z own nm bytes maxL ret n0 P h cells slots pc Ls (v :: st) := by
  subst hn
  exact k.step fun p e s m args below meth c T locs hx hZ hby hown X eT t q => XS.astore X.here hx rfl (hb hby hd) rfl hv hl q
theorem W.astoreN {i : F4} {v : Value} (n : Nat) (hd : decode bytes pc = .ok (.astore_n i, 1)) (hn : pc + 1 = n) (hv : v.isRef = true) (Ls' : Array Slot) (hl : storeLocals Ls i.val v = some Ls') (k : WG FE l R Z own nm bytes maxL ret n0 P h cells slots n Ls' st) : WG FE l R Z own nm bytes maxL ret n0 P h cells slots pc Ls (v :: st) := by
  subst hn
  exact k.step fun p e s m args below meth c T locs hx hZ hby hown X eT t q => XS.astoreN X.here hx rfl (hb hby hd) rfl hv hl q
theorem W.iinc {i : Nat} {cst : Int} {x : Int32} (n : Nat) (hd : decode bytes pc = .ok (.iinc i cst, 3)) (hn : pc + 3 = n) (hx0 : Ls[i]? = some (.val (.int x))) (v : Int32) (hv : x + Int32.ofInt cst = v) (Ls' : Array Slot) (hl : storeLocals Ls i (.int v) = some Ls') (k : WG FE l R Z own nm bytes maxL ret n0 P h cells slots n Ls' st) : WG FE l R Z own nm bytes maxL ret n0 P h cells slots pc Ls st := by
  subst hn
  exact k.step fun p e s m args below meth c T locs hx hZ hby hown X eT t q => XS.iinc X.here hx rfl (hb hby hd) hx0 (hv ▸ hl) q
theorem W.dup {v : Value} (n : Nat) (hd : decode bytes pc = .ok (.dup, 1)) (hn : pc + 1 = n) (hc : v.category = 1) (k : WG FE l R Z own nm bytes maxL ret n0 P h cells slots n Ls (v :: v :: st)) : WG FE l R Z own nm bytes maxL ret n0 P h cells slots pc Ls (v :: st) := by
  subst hn
  exact k.step fun p e s m args below meth c T locs hx hZ hby hown X eT t q => XS.dup X.here hx rfl (hb hby hd) rfl hc q
theorem W.pop1 {v : Value} (n : Nat) (hd : decode bytes pc = .ok (.pop, 1)) (hn : pc + 1 = n) (hc : v.category = 1) (k : WG FE l R Z own nm bytes maxL ret n0 P h cells slots n Ls st) : WG FE l R Z own nm bytes maxL ret n0 P h cells slots pc Ls (v :: st) := by
  subst hn
  exact k.step fun p e s m args below meth c T locs hx hZ hby hown X eT t q => XS.pop X.here hx rfl (hb hby hd) rfl hc q
theorem W.dup_x1 {v w : Value} (n : Nat) (hd : decode bytes pc = .ok (.dup_x1, 1)) (hn : pc + 1 = n) (hc : v.category = 1) (hc' : w.category = 1) (k : WG FE l R Z own nm bytes maxL ret n0 P h cells slots n Ls (v :: w :: v :: st)) : WG FE l R Z own nm bytes maxL ret n0 P h cells slots pc Ls (v :: w :: st) := by
  subst hn
  exact k.step fun p e s m args below meth c T locs hx hZ hby hown X eT t q => XS.dupX1 X.here hx rfl (hb hby hd) rfl hc hc' q
theorem W.dup2 {v w : Value} (n : Nat) (hd : decode bytes pc = .ok (.dup2, 1)) (hn : pc + 1 = n) (hc : v.category = 1) (hc' : w.category = 1) (k : WG FE l R Z own nm bytes maxL ret n0 P h cells slots n Ls (v :: w :: v :: w :: st)) : WG FE l R Z own nm bytes maxL ret n0 P h cells slots pc Ls (v :: w :: st) := by
  subst hn
  exact k.step fun p e s m args below meth c T locs hx hZ hby hown X eT t q => XT.dup2 X.here hx rfl (hb hby hd) rfl hc hc' q
theorem W.goto {o : Int} (n : Nat) (hd : decode bytes pc = .ok (.goto o, 3)) (hn : (pc : Int) + o = (n : Int)) (k : WG FE l R Z own nm bytes maxL ret n0 P h cells slots n Ls st) : WG FE l R Z own nm bytes maxL ret n0 P h cells slots pc Ls st :=
  k.step fun p e s m args below meth c T locs hx hZ hby hown X eT t q => XS.goto X.here hx rfl (pc0 := pc) (pc' := n) rfl (hb hby hd) (by omega) (by omega) q
theorem W.icmp_lt {x y : Int32} {o : Int} (n n' : Nat) (hd : decode bytes pc = .ok (.if_icmp .lt o, 3)) (hn : (pc : Int) + o = (n : Int)) (hn' : pc + 3 = n') (k : x < y → WG FE l R Z own nm bytes maxL ret n0 P h cells slots n Ls st) (k' : ¬ x < y → WG FE l R Z own nm bytes maxL ret n0 P h cells slots n' Ls st) : WG FE l R Z own nm bytes maxL ret n0 P h cells slots pc Ls (.int y :: .int x :: st) := by
  subst hn'
  by_cases hc : x < y
  · exact (k hc).step fun p e s m args below meth c T locs hx hZ hby hown X eT t q => XS.icmpYes X.here hx rfl (pc0 := pc) (pc' := n) rfl (hb hby hd) rfl (tlt hc).1 (by omega) (by omega) q
  · exact (k' hc).step fun p e s m args below meth c T locs hx hZ hby hown X eT t q => XS.icmpNo X.here hx rfl (hb hby hd) rfl (flt hc).1 q
theorem W.if_lt {x : Int32} {o : Int} (n n' : Nat) (hd : decode bytes pc = .ok (.ifCond .lt o, 3)) (hn : (pc : Int) + o = (n : Int)) (hn' : pc + 3 = n') (k : x < (0 : Int32) → WG FE l R Z own nm bytes maxL ret n0 P h cells slots n Ls st) (k' : ¬ x < (0 : Int32) → WG FE l R Z own nm bytes maxL ret n0 P h cells slots n' Ls st) : WG FE l R Z own nm bytes maxL ret n0 P h cells slots pc Ls (.int x :: st) := by
  subst hn'
  by_cases hc : x < (0 : Int32)
  · exact (k hc).step fun p e s m args below meth c T locs hx hZ hby hown X eT t q => XS.ifYes X.here hx rfl (pc0 := pc) (pc' := n) rfl (hb hby hd) rfl ((if0 _ _).trans (tlt hc).1) (by omega) (by omega) q
  · exact (k' hc).step fun p e s m args below meth c T locs hx hZ hby hown X eT t q => XS.ifNo X.here hx rfl (hb hby hd) rfl ((if0 _ _).trans (flt hc).1) q
theorem W.icmp_ge {x y : Int32} {o : Int} (n n' : Nat) (hd : decode bytes pc = .ok (.if_icmp .ge o, 3)) (hn : (pc : Int) + o = (n : Int)) (hn' : pc + 3 = n') (k : ¬ x < y → WG FE l R Z own nm bytes maxL ret n0 P h cells slots n Ls st) (k' : x < y → WG FE l R Z own nm bytes maxL ret n0 P h cells slots n' Ls st) : WG FE l R Z own nm bytes maxL ret n0 P h cells slots pc Ls (.int y :: .int x :: st) := by
  subst hn'
  by_cases hc : x < y
  · exact (k' hc).step fun p e s m args below meth c T locs hx hZ hby hown X eT t q => XS.icmpNo X.here hx rfl (hb hby hd) rfl (tlt hc).2.1 q
  · exact (k hc).step fun p e s m args below meth c T locs hx hZ hby hown X eT t q => XS.icmpYes X.here hx rfl (pc0 := pc) (pc' := n) rfl (hb hby hd) rfl (flt hc).2.1 (by omega) (by omega) q
theorem W.if_ge {x : Int32} {o : Int} (n n' : Nat) (hd : decode bytes pc = .ok (.ifCond .ge o, 3)) (hn : (pc : Int) + o = (n : Int)) (hn' : pc + 3 = n') (k : ¬ x < (0 : Int32) → WG FE l R Z own nm bytes maxL ret n0 P h cells slots n Ls st) (k' : x < (0 : Int32) → WG FE l R Z own nm bytes maxL ret n0 P h cells slots n' Ls st) : WG FE l R Z own nm bytes maxL ret n0 P h cells slots pc Ls (.int x :: st) := by
  subst hn'
  by_cases hc : x < (0 : Int32)
  · exact (k' hc).step fun p e s m args below meth c T locs hx hZ hby hown X eT t q => XS.ifNo X.here hx rfl (hb hby hd) rfl ((if0 _ _).trans (tlt hc).2.1) q
  · exact (k hc).step fun p e s m args below meth c T locs hx hZ hby hown X eT t q => XS.ifYes X.here hx rfl (pc0 := pc) (pc' := n) rfl (hb hby hd) rfl ((if0 _ _).trans (flt hc).2.1) (by omega) (by omega) q
theorem W.icmp_gt {x y : Int32} {o : Int} (n n' : Nat) (hd : decode bytes pc = .ok (.if_icmp .gt o, 3)) (hn : (pc : Int) + o = (n : Int)) (hn' : pc + 3 = n') (k : y < x → WG FE l R Z own nm bytes maxL ret n0 P h cells slots n Ls st) (k' : ¬ y < x → WG FE l R Z own nm bytes maxL ret n0 P h cells slots n' Ls st) : WG FE l R Z own nm bytes maxL ret n0 P h cells slots pc Ls (.int y :: .int x :: st) := by
  subst hn'
  by_cases hc : y < x
  · exact (k hc).step fun p e s m args below meth c T locs hx hZ hby hown X eT t q => XS.icmpYes X.here hx rfl (pc0 := pc) (pc' := n) rfl (hb hby hd) rfl (tlt hc).2.2.1 (by omega) (by omega) q
  · exact (k' hc).step fun p e s m args below meth c T locs hx hZ hby hown X eT t q => XS.icmpNo X.here hx rfl (hb hby hd) rfl (flt hc).2.2.1 q
theorem W.if_gt {x : Int32} {o : Int} (n n' : Nat) (hd : decode bytes pc = .ok (.ifCond .gt o, 3)) (hn : (pc : Int) + o = (n : Int)) (hn' : pc + 3 = n') (k : (0 : Int32) < x → WG FE l R Z own nm bytes maxL ret n0 P h cells slots n Ls st) (k' : ¬ (0 : Int32) < x → WG FE l R Z own nm bytes maxL ret n0 P h cells slots n' Ls st) : WG FE l R Z own nm bytes maxL ret n0 P h cells slots pc Ls (.int x :: st) := by
  subst hn'
  by_cases hc : (0 : Int32) < x
  · exact (k hc).step fun p e s m args below meth c T locs hx hZ hby hown X eT t q => XS.ifYes X.here hx rfl (pc0 := pc) (pc' := n) rfl (hb hby hd) rfl ((if0 _ _).trans (tlt hc).2.2.1) (by omega) (by omega) q
  · exact (k' hc).step fun p e s m args below meth c T locs hx hZ hby hown X eT t q => XS.ifNo X.here hx rfl (hb hby hd) rfl ((if0 _ _).trans (flt hc).2.2.1) q
theorem W.icmp_le {x y : Int32} {o : Int} (n n' : Nat) (hd : decode bytes pc = .ok (.if_icmp .le o, 3)) (hn : (pc : Int) + o = (n : Int)) (hn' : pc + 3 = n') (k : ¬ y < x → WG FE l R Z own nm bytes maxL ret n0 P h cells slots n Ls st) (k' : y < x → WG FE l R Z own nm bytes maxL ret n0 P h cells slots n' Ls st) : WG FE l R Z own nm bytes maxL ret n0 P h cells slots pc Ls (.int y :: .int x :: st) := by
  subst hn'
  by_cases hc : y < x
  · exact (k' hc).step fun p e s m args below meth c T locs hx hZ hby hown X eT t q => XS.icmpNo X.here hx rfl (hb hby hd) rfl (tlt hc).2.2.2 q
  · exact (k hc).step fun p e s m args below meth c T locs hx hZ hby hown X eT t q => XS.icmpYes X.here hx rfl (pc0 := pc) (pc' := n) rfl (hb hby hd) rfl (flt hc).2.2.2 (by omega) (by omega) q
theorem W.if_le {x : Int32} {o : Int} (n n' : Nat) (hd : decode bytes pc = .ok (.ifCond .le o, 3)) (hn : (pc : Int) + o = (n : Int)) (hn' : pc + 3 = n') (k : ¬ (0 : Int32) < x → WG FE l R Z own nm bytes maxL ret n0 P h cells slots n Ls st) (k' : (0 : Int32) < x → WG FE l R Z own nm bytes maxL ret n0 P h cells slots n' Ls st) : WG FE l R Z own nm bytes maxL ret n0 P h cells slots pc Ls (.int x :: st) := by
  subst hn'
  by_cases hc : (0 : Int32) < x
  · exact (k' hc).step fun p e s m args below meth c T locs hx hZ hby hown X eT t q => XS.ifNo X.here hx rfl (hb hby hd) rfl ((if0 _ _).trans (tlt hc).2.2.2) q
  · exact (k hc).step fun p e s m args below meth c T locs hx hZ hby hown X eT t q => XS.ifYes X.here hx rfl (pc0 := pc) (pc' := n) rfl (hb hby hd) rfl ((if0 _ _).trans (flt hc).2.2.2) (by omega) (by omega) q
theorem W.icmp_eq {x y : Int32} {o : Int} (n n' : Nat) (hd : decode bytes pc = .ok (.if_icmp .eq o, 3)) (hn : (pc : Int) + o = (n : Int)) (hn' : pc + 3 = n') (k : x = y → WG FE l R Z own nm bytes maxL ret n0 P h cells slots n Ls st) (k' : ¬ x = y → WG FE l R Z own nm bytes maxL ret n0 P h cells slots n' Ls st) : WG FE l R Z own nm bytes maxL ret n0 P h cells slots pc Ls (.int y :: .int x :: st) := by
  subst hn'
  by_cases hc : x = y
  · exact (k hc).step fun p e s m args below meth c T locs hx hZ hby hown X eT t q => XS.icmpYes X.here hx rfl (pc0 := pc) (pc' := n) rfl (hb hby hd) rfl (teq hc).1 (by omega) (by omega) q
  · exact (k' hc).step fun p e s m args below meth c T locs hx hZ hby hown X eT t q => XS.icmpNo X.here hx rfl (hb hby hd) rfl (feq hc).1 q
theorem W.if_eq {x : Int32} {o : Int} (n n' : Nat) (hd : decode bytes pc = .ok (.ifCond .eq o, 3)) (hn : (pc : Int) + o = (n : Int)) (hn' : pc + 3 = n') (k : x = (0 : Int32) → WG FE l R Z own nm bytes maxL ret n0 P h cells slots n Ls st) (k' : ¬ x = (0 : Int32) → WG FE l R Z own nm bytes maxL ret n0 P h cells slots n' Ls st) : WG FE l R Z own nm bytes maxL ret n0 P h cells slots pc Ls (.int x :: st) := by
  subst hn'
  by_cases hc : x = (0 : Int32)
  · exact (k hc).step fun p e s m args below meth c T locs hx hZ hby hown X eT t q => XS.ifYes X.here hx rfl (pc0 := pc) (pc' := n) rfl (hb hby hd) rfl ((if0 _ _).trans (teq hc).1) (by omega) (by omega) q
  · exact (k' hc).step fun p e s m args below meth c T locs hx hZ hby hown X eT t q => XS.ifNo X.here hx rfl (hb hby hd) rfl ((if0 _ _).trans (feq hc).1) q
theorem W.icmp_ne {x y : Int32} {o : Int} (n n' : Nat) (hd : decode bytes pc = .ok (.if_icmp .ne o, 3)) (hn : (pc : Int) + o = (n : Int)) (hn' : pc + 3 = n') (k : ¬ x = y → WG FE l R Z own nm bytes maxL ret n0 P h cells slots n Ls st) (k' : x = y → WG FE l R Z own nm bytes maxL ret n0 P h cells slots n' Ls st) : WG FE l R Z own nm bytes maxL ret n0 P h cells slots pc Ls (.int y :: .int x :: st) := by
  subst hn'
  by_cases hc : x = y
  · exact (k' hc).step fun p e s m args below meth c T locs hx hZ hby hown X eT t q => XS.icmpNo X.here hx rfl (hb hby hd) rfl (teq hc).2 q
  · exact (k hc).step fun p e s m args below meth c T locs hx hZ hby hown X eT t q => XS.icmpYes X.here hx rfl (pc0 := pc) (pc' := n) rfl (hb hby hd) rfl (feq hc).2 (by omega) (by omega) q
theorem W.if_ne {x : Int32} {o : Int} (n n' : Nat) (hd : decode bytes pc = .ok (.ifCond .ne o, 3)) (hn : (pc : Int) + o = (n : Int)) (hn' : pc + 3 = n') (k : ¬ x = (0 : Int32) → WG FE l R Z own nm bytes maxL ret n0 P h cells slots n Ls st) (k' : x = (0 : Int32) → WG FE l R Z own nm bytes maxL ret n0 P h cells slots n' Ls st) : WG FE l R Z own nm bytes maxL ret n0 P h cells slots pc Ls (.int x :: st) := by
  subst hn'
  by_cases hc : x = (0 : Int32)
  · exact (k' hc).step fun p e s m args below meth c T locs hx hZ hby hown X eT t q => XS.ifNo X.here hx rfl (hb hby hd) rfl ((if0 _ _).trans (teq hc).2) q
  · exact (k hc).step fun p e s m args below meth c T locs hx hZ hby hown X eT t q => XS.ifYes X.here hx rfl (pc0 := pc) (pc' := n) rfl (hb hby hd) rfl ((if0 _ _).trans (feq hc).2) (by omega) (by omega) q
theorem W.ifnull_null {o : Int} (n : Nat) (hd : decode bytes pc = .ok (.ifnull o, 3)) (hn : (pc : Int) + o = (n : Int)) (k : WG FE l R Z own nm bytes maxL ret n0 P h cells slots n Ls st) : WG FE l R Z own nm bytes maxL ret n0 P h cells slots pc Ls (.null :: st) := by
  exact k.step fun p e s m args below meth c T locs hx hZ hby hown X eT t q => XS.ifnullYes X.here hx rfl (pc0 := pc) (pc' := n) rfl (hb hby hd) rfl (by omega) (by omega) q
theorem W.ifnull_ref {o : Int} {a : Addr} (n : Nat) (hd : decode bytes pc = .ok (.ifnull o, 3)) (hn : pc + 3 = n) (k : WG FE l R Z own nm bytes maxL ret n0 P h cells slots n Ls st) : WG FE l R Z own nm bytes maxL ret n0 P h cells slots pc Ls (.ref a :: st) := by
  subst hn
  exact k.step fun p e s m args below meth c T locs hx hZ hby hown X eT t q => XS.ifnullNo X.here hx rfl (hb hby hd) rfl q
theorem W.ifnonnull_null {o : Int} (n : Nat) (hd : decode bytes pc = .ok (.ifnonnull o, 3)) (hn : pc + 3 = n) (k : WG FE l R Z own nm bytes maxL ret n0 P h cells slots n Ls st) : WG FE l R Z own nm bytes maxL ret n0 P h cells slots pc Ls (.null :: st) := by
  subst hn
  exact k.step fun p e s m args below meth c T locs hx hZ hby hown X eT t q => XS.ifnonnullNo X.here hx rfl (hb hby hd) rfl q
theorem W.ifnonnull_ref {o : Int} {a : Addr} (n : Nat) (hd : decode bytes pc = .ok (.ifnonnull o, 3)) (hn : (pc : Int) + o = (n : Int)) (k : WG FE l R Z own nm bytes maxL ret n0 P h cells slots n Ls st) : WG FE l R Z own nm bytes maxL ret n0 P h cells slots pc Ls (.ref a :: st) := by
  exact k.step fun p e s m args below meth c T locs hx hZ hby hown X eT t q => XS.ifnonnullYes X.here hx rfl (pc0 := pc) (pc' := n) rfl (hb hby hd) rfl (by omega) (by omega) q
theorem W.acmp_eq {x y : Value} {o : Int} (n n' : Nat) (hd : decode bytes pc = .ok (.if_acmp .eq o, 3)) (hn : (pc : Int) + o = (n : Int)) (hn' : pc + 3 = n') (h1 : x.isRef = true) (h2 : y.isRef = true) (k : x = y → WG FE l R Z own nm bytes maxL ret n0 P h cells slots n Ls st) (k' : ¬ x = y → WG FE l R Z own nm bytes maxL ret n0 P h cells slots n' Ls st) : WG FE l R Z own nm bytes maxL ret n0 P h cells slots pc Ls (y :: x :: st) := by
  subst hn'
  by_cases hc : x = y
  · exact (k hc).step fun p e s m args below meth c T locs hx hZ hby hown X eT t q => RoadKit.acmp X hx rfl h1 h2 (pc0 := pc) (pc' := n) (same := true) rfl (hb hby hd) rfl (decide_eq_true hc) (by omega) (by simp [acV]; try omega) q
  · exact (k' hc).step fun p e s m args below meth c T locs hx hZ hby hown X eT t q => RoadKit.acmp X hx rfl h1 h2 (pc0 := pc) (pc' := pc + 3) (same := false) rfl (hb hby hd) rfl (decide_eq_false hc) (by omega) (by simp [acV]; try omega) q
theorem W.acmp_ne {x y : Value} {o : Int} (n n' : Nat) (hd : decode bytes pc = .ok (.if_acmp .ne o, 3)) (hn : (pc : Int) + o = (n : Int)) (hn' : pc + 3 = n') (h1 : x.isRef = true) (h2 : y.isRef = true) (k : ¬ x = y → WG FE l R Z own nm bytes maxL ret n0 P h cells slots n Ls st) (k' : x = y → WG FE l R Z own nm bytes maxL ret n0 P h cells slots n' Ls st) : WG FE l R Z own nm bytes maxL ret n0 P h cells slots pc Ls (y :: x :: st) := by
  subst hn'
  by_cases hc : x = y
  · exact (k' hc).step fun p e s m args below meth c T locs hx hZ hby hown X eT t q => RoadKit.acmp X hx rfl h1 h2 (pc0 := pc) (pc' := pc + 3) (same := true) rfl (hb hby hd) rfl (decide_eq_true hc) (by omega) (by simp [acV]; try omega) q
  · exact (k hc).step fun p e s m args below meth c T locs hx hZ hby hown X eT t q => RoadKit.acmp X hx rfl h1 h2 (pc0 := pc) (pc' := n) (same := false) rfl (hb hby hd) rfl (decide_eq_false hc) (by omega) (by simp [acV]; try omega) q
theorem W.lookup {d : Int} {ps : Array (Int × Int)} {len : Nat} {x : Int32} (o : Int) (n : Nat) (hd : decode bytes pc = .ok (.lookupswitch d ps, len)) (hsort : (ps.toList.zip (ps.toList.drop 1)).all (fun (a, next) => a.1 < next.1) = true) (ho : Op.lookupswitch.offset ps.toList d x.toInt = o) (hn : (pc : Int) + o = (n : Int)) (k : WG FE l R Z own nm bytes maxL ret n0 P h cells slots n Ls st) : WG FE l R Z own nm bytes maxL ret n0 P h cells slots pc Ls (.int x :: st) := by
  refine k.step fun p e s m args below meth c T locs hx hZ hby hown X eT t q => ?_
  have hd' := hb hby hd
  have ho' : 0 ≤ (pc : Int) + o := by omega
  have hp : ((pc : Int) + o).toNat = n := by omega
  jvm_step X.here [X.here.top, hx, hd', Op.lookupswitch.wp_chain, hsort, ho, ho', hp]
  exact ⟨by simpa using hsort, q⟩
/-! the heap -/
theorem Fr.one {k : Nat} {L : List Loc} {a : Addr} {sl : Nat} (N : Fr k L) (q : k ≤ a) : Fr k (L ++ [⟨a, sl⟩]) := N.app fun y hy => by cases List.mem_singleton.mp hy; exact q
theorem Keep.of_ext {h h' : Heap} (E : Ext h h') : Keep h h' [] := (Keep.refl h []).ext E
theorem size_le {p : Program} {e : Env} {s : State} {m : MethodId} {args : Array Value} {below : List Frame} {meth : Method} {c : Code} {T : State} {locs : List Loc} (X : Stand p l e R s m args below meth c T locs cells slots) : s.heap.size ≤ T.heap.size := X.same.2.1
theorem W.getfield {i : Nat} {R0 O f d host : String} {a : Addr} {v : Value} (n : Nat) (hd : decode bytes pc = .ok (.getfield i, 3)) (hn : pc + 3 = n) (w : (Jvm.Cond.fieldLink own i R0 f d).before a0 Z = true ∨ (Jvm.Cond.fieldLinkNest own i R0 f d host).before a0 Z = true) (via : Via Z R0 O f d) (F : Fld Z h a O f d v) (k : WG FE l R Z own nm bytes maxL ret n0 P h cells slots n Ls (v :: st)) : WG FE l R Z own nm bytes maxL ret n0 P h cells slots pc Ls (.ref a :: st) := by
  subst hn
  intro p e s m args below meth c T locs hx hZ hby hml hown hret hlk hnm hn0 X eT N
  obtain ⟨T', X', e', st'⟩ := getF X hx hZ hown w via eT F (g := mkF m pc Ls (.ref a :: st)) rfl rfl (hb hby hd)
  exact (k p e s m args below meth c T' locs hx hZ hby hml hown hret hlk hnm hn0 X' e' N).step st'
theorem W.getstatic {i : Nat} {R0 O f d host : String} {v : Value} (n : Nat) (hd : decode bytes pc = .ok (.getstatic i, 3)) (hn : pc + 3 = n) (w : (Jvm.Cond.fieldLink own i R0 f d).before a0 Z = true ∨ (Jvm.Cond.fieldLinkNest own i R0 f d host).before a0 Z = true) (via : Via Z R0 O f d) (F : Sta Z h O f d v) (k : WG FE l R Z own nm bytes maxL ret n0 P h cells slots n Ls (v :: st)) : WG FE l R Z own nm bytes maxL ret n0 P h cells slots pc Ls st := by
  subst hn
  intro p e s m args below meth c T locs hx hZ hby hml hown hret hlk hnm hn0 X eT N
  obtain ⟨T', X', e', st'⟩ := getS2 X hx hZ hown w via eT F (g := mkF m pc Ls st) rfl (hb hby hd)
  exact (k p e s m args below meth c T' locs hx hZ hby hml hown hret hlk hnm hn0 X' e' N).step st'
theorem W.putfield {i kk : Nat} {R0 O f d host C : String} {ty : FieldType} {a : Addr} {v old : Value} (n : Nat) (hd : decode bytes pc = .ok (.putfield i, 3)) (hn : pc + 3 = n) (w : (Jvm.Cond.fieldLink own i R0 f d).before a0 Z = true ∨ (Jvm.Cond.fieldLinkNest own i R0 f d host).before a0 Z = true) (via : Via Z R0 O f d) (F : Fld Z h a O f d old) (E : Exa Z h a C)
    (L : (Jvm.Cond.lays C O f d).before a0 Z = true ∨ ((Jvm.Cond.laysFinal C O f d).before a0 Z = true ∧ own = O ∧ nm = "<init>")) (wi : (Jvm.Cond.instantiable C kk).before a0 Z = true) (hty : parseFieldDescriptor d = some ty) (hv : narrow ty v = v) (hf : fits ty v = true) (ge : n0 ≤ a)
    (k : ∀ h', Wr h h' a (RoadKit.slotOf Z O f d) v → Fld Z h' a O f d v → Exa Z h' a C → Keep h h' [a] → WG FE l R Z own nm bytes maxL ret n0 P h' cells slots n Ls st) : WG FE l R Z own nm bytes maxL ret n0 P h cells slots pc Ls (v :: .ref a :: st) := by
  subst hn
  intro p e s m args below meth c T locs hx hZ hby hml hown hret hlk hnm hn0 X eT N
  obtain ⟨T', h', X', e', W', st'⟩ := putF X hx hZ hown w via eT F E (L.imp id fun q => ⟨q.1, q.2.1, hnm.trans q.2.2⟩) wi hty hv hf (g := mkF m pc Ls (v :: .ref a :: st)) rfl rfl (hb hby hd)
  exact (k h' W' (F.same W') (E.wr W') (Keep.of_wr W') p e s m args below meth c T' _ hx hZ hby hml hown hret hlk hnm hn0 X' e' (Fr.one N ge)).step st'
theorem W.putfieldN {i kk : Nat} {R0 O f d C : String} {ty : FieldType} {a : Addr} {v old : Value} (n : Nat) (hd : decode bytes pc = .ok (.putfield i, 3)) (hn : pc + 3 = n) (w : (Jvm.Cond.fieldLink own i R0 f d).before a0 Z = true) (via : Via Z R0 O f d) (F : Fld Z h a O f d old) (E : Exa Z h a C)
    (L : (Jvm.Cond.lays C O f d).before a0 Z = true ∨ ((Jvm.Cond.laysFinal C O f d).before a0 Z = true ∧ own = O ∧ nm = "<init>")) (wi : (Jvm.Cond.instantiable C kk).before a0 Z = true) (hty : parseFieldDescriptor d = some ty) (v' : Value) (hv : narrow ty v = v') (hf : fits ty v' = true) (ge : n0 ≤ a)
    (k : ∀ h', Wr h h' a (RoadKit.slotOf Z O f d) v' → Fld Z h' a O f d v' → Exa Z h' a C → Keep h h' [a] → WG FE l R Z own nm bytes maxL ret n0 P h' cells slots n Ls st) : WG FE l R Z own nm bytes maxL ret n0 P h cells slots pc Ls (v :: .ref a :: st) := by
  subst hn
  intro p e s m args below meth c T locs hx hZ hby hml hown hret hlk hnm hn0 X eT N
  obtain ⟨T', h', X', e', W', st'⟩ := putFN X hx hZ hown w via eT F E (L.imp id fun q => ⟨q.1, q.2.1, hnm.trans q.2.2⟩) wi hty hv hf (g := mkF m pc Ls (v :: .ref a :: st)) rfl rfl (hb hby hd)
  exact (k h' W' (F.same W') (E.wr W') (Keep.of_wr W') p e s m args below meth c T' _ hx hZ hby hml hown hret hlk hnm hn0 X' e' (Fr.one N ge)).step st'
theorem W.new {i ns : Nat} {C : String} (n : Nat) (hd : decode bytes pc = .ok (.new i, 3)) (hn : pc + 3 = n) (w : (Jvm.Cond.classLink own i C).before a0 Z = true) (wi : (Jvm.Cond.instantiable C ns).before a0 Z = true) (wz : (Jvm.Cond.initialized C).before a0 Z = true) (hc : cells + 1 ≤ R.cells) (hs : slots + ns ≤ R.slots)
    (k : ∀ h' b, b = h.size → n0 ≤ b → Ext h h' → Keep h h' [] → Exa Z h' b C → (∀ {O f d : String} {ty : FieldType}, Laid Z a0 C O f d → parseFieldDescriptor d = some ty → Fld Z h' b O f d (defaultValue ty)) → WG FE l R Z own nm bytes maxL ret n0 P h' (cells + 1) (slots + ns) n Ls (.ref b :: st)) : WG FE l R Z own nm bytes maxL ret n0 P h cells slots pc Ls st := by
  subst hn
  intro p e s m args below meth c T locs hx hZ hby hml hown hret hlk hnm hn0 X eT N
  obtain ⟨T', h', X', e', E', A', D', -, st'⟩ := newO X hx hZ hown w wi wz eT (g := mkF m pc Ls st) rfl (hb hby hd) hc hs
  have hb0 : n0 ≤ h.size := Nat.le_trans hn0 (eT ▸ size_le X)
  exact (k h' h.size rfl hb0 E' (Keep.of_ext E') A' D' p e s m args below meth c T' _ hx hZ hby hml hown hret hlk hnm hn0 X' e' N).step st'
theorem Ary.lt {a : Addr} {ty : FieldType} {vs : List Value} (A : Ary Z h a ty vs) : a < h.size := by obtain ⟨c, A, -⟩ := A; exact A.lt
theorem Ary.keep {h' : Heap} {ws : List Addr} {a : Addr} {ty : FieldType} {vs : List Value} (A : Ary Z h a ty vs) (K : Keep h h' ws) (q : a ∉ ws) : Ary Z h' a ty vs := by obtain ⟨c, A, r⟩ := A; exact ⟨c, ⟨K.2.1 a c A.1 q, A.2⟩, r⟩
theorem Ary.new {k : ClassId} {a : Addr} {ty : FieldType} {z : Int32} (A : Arr Z h a (newA k ty z) ty) (hf : fits ty (defaultValue ty) = true) : Ary Z h a ty (List.replicate z.toNatClampNeg (defaultValue ty)) :=
  ⟨_, A, by simp [newA], fun v hv => by rw [(List.mem_replicate.mp hv).2]; exact hf, by rw [List.length_replicate]; have := Int32.toInt_lt z; simp only [Int32.toNatClampNeg]; omega⟩
theorem Ary.set {h' : Heap} {a : Addr} {ty : FieldType} {vs : List Value} {i : Nat} {v : Value} (A : Ary Z h a ty vs) (W' : Wr h h' a i v) (hf : fits ty v = true) : Ary Z h' a ty (vs.set i v) := by
  obtain ⟨c, A, rfl, F, S⟩ := A
  exact ⟨_, A.same W', by simp [Cell.setSlot], fun w hw => (List.mem_or_eq_of_mem_set hw).elim (fun q => F w q) (fun q => q ▸ hf), by simpa using S⟩
theorem Ary.arv {a : Addr} {ty : FieldType} {vs : List Value} (A : Ary Z h a ty vs) (d : Value) : ∃ k, Arv Z h a k ty vs.length.toInt32 vs d := by
  obtain ⟨c, A, rfl, F, S⟩ := A
  have hz : (c.slots.toList.length.toInt32).toInt = c.slots.toList.length := Int32.toInt_ofNat_small S
  have hn : (c.slots.toList.length.toInt32).toNatClampNeg = c.slots.size := by simp only [Int32.toNatClampNeg]; rw [hz]; simp
  refine ⟨c.cls, c, A, rfl, hn.symm, fun q => ?_, fun i hi => ?_, fun i hi => ?_⟩
  · have := Int32.lt_iff_toInt_lt.mp q; rw [hz] at this; have e0 : (0 : Int32).toInt = 0 := rfl; omega
  · rw [List.getD_eq_getElem?_getD]; simp [hi]
  · rw [List.getD_eq_getElem?_getD]; exact F _ (by simp [hi])
theorem Ary.of_arv {a : Addr} {k : ClassId} {ty : FieldType} {vs : List Value} {z : Int32} {d : Value} (A : Arv Z h a k ty z vs d) (hz : z.toNatClampNeg = vs.length) : Ary Z h a ty vs := by
  obtain ⟨c, A, q1, q2, q3, H, G⟩ := A
  have hl : c.slots.toList = vs := by
    apply List.ext_getElem?
    intro i
    by_cases hi : i < c.slots.size
    · have := H i hi
      rw [List.getD_eq_getElem?_getD, List.getElem?_eq_getElem (by omega)] at this
      rw [List.getElem?_eq_getElem (l := vs) (by omega)]
      simpa using this
    · rw [List.getElem?_eq_none (by simpa using hi), List.getElem?_eq_none (by omega)]
  refine ⟨c, A, hl, fun v hv => ?_, ?_⟩
  · obtain ⟨i, hi, rfl⟩ := List.getElem_of_mem hv
    have := G i (by omega)
    rwa [List.getD_eq_getElem?_getD, List.getElem?_eq_getElem hi] at this
  · have := Int32.toInt_lt z; simp only [Int32.toNatClampNeg] at hz; omega
theorem W.newarray {aty : ArrayType} {ty : FieldType} {x : Int32} (n : Nat) (hd : decode bytes pc = .ok (.newarray aty, 2)) (hn : pc + 2 = n) (w : (Jvm.Cond.arrayClass ty).before a0 Z = true) (hty : newarray.typeOf aty = ty) (hx0 : ¬ x < 0) (len cap : Nat) (hlen : x.toNatClampNeg = len) (hcap : len ≤ cap) (hb8 : cap * 8 ≤ 536870912) (hc : cells + 1 ≤ R.cells) (hs : slots + cap ≤ R.slots) (hfd : fits ty (defaultValue ty) = true)
    (k : ∀ h' b, b = h.size → n0 ≤ b → Ext h h' → Keep h h' [] → Ary Z h' b ty (List.replicate len (defaultValue ty)) → WG FE l R Z own nm bytes maxL ret n0 P h' (cells + 1) (slots + cap) n Ls (.ref b :: st)) : WG FE l R Z own nm bytes maxL ret n0 P h cells slots pc Ls (.int x :: st) := by
  subst hn hty hlen
  intro p e s m args below meth c T locs hx hZ hby hml hown hret hlk hnm hn0 X eT N
  obtain ⟨T', h', cA, X', e', E', A', st'⟩ := newP X hx hZ w eT (g := mkF m pc Ls (.int x :: st)) rfl (hb hby hd) rfl hx0 hcap hb8 hc hs
  have hb0 : n0 ≤ h.size := Nat.le_trans hn0 (eT ▸ size_le X)
  exact (k h' h.size rfl hb0 E' (Keep.of_ext E') (Ary.new A' hfd) p e s m args below meth c T' _ hx hZ hby hml hown hret hlk hnm hn0 X' e' N).step st'
theorem W.newarrayE {aty : ArrayType} {ty : FieldType} {x : Int32} {ad : String} (n : Nat) (hd : decode bytes pc = .ok (.newarray aty, 2)) (hn : pc + 2 = n) (w : (Jvm.Cond.arrayClass ty).before a0 Z = true) (hty : newarray.typeOf aty = ty) (had : "[" ++ ty.toString = ad) (hx0 : ¬ x < 0) (len cap : Nat) (hlen : x.toNatClampNeg = len) (hcap : len ≤ cap) (hb8 : cap * 8 ≤ 536870912) (hc : cells + 1 ≤ R.cells) (hs : slots + cap ≤ R.slots) (hfd : fits ty (defaultValue ty) = true)
    (k : ∀ h' b, b = h.size → n0 ≤ b → Ext h h' → Keep h h' [] → Ary Z h' b ty (List.replicate len (defaultValue ty)) → Exa Z h' b ad → WG FE l R Z own nm bytes maxL ret n0 P h' (cells + 1) (slots + cap) n Ls (.ref b :: st)) : WG FE l R Z own nm bytes maxL ret n0 P h cells slots pc Ls (.int x :: st) := by
  subst hn hty hlen
  intro p e s m args below meth c T locs hx hZ hby hml hown hret hlk hnm hn0 X eT N
  obtain ⟨T', h', cA, X', e', E', A', B', st'⟩ := newPE X hx hZ w eT (g := mkF m pc Ls (.int x :: st)) rfl (hb hby hd) rfl hx0 hcap hb8 hc hs had
  have hb0 : n0 ≤ h.size := Nat.le_trans hn0 (eT ▸ size_le X)
  exact (k h' h.size rfl hb0 E' (Keep.of_ext E') (Ary.new A' hfd) B' p e s m args below meth c T' _ hx hZ hby hml hown hret hlk hnm hn0 X' e' N).step st'
theorem ary_in {c : Cell} {vs : List Value} {j : Int32} {i : Nat} (hc : c.slots.toList = vs) (hj : j.toNatClampNeg = i) (h0 : ¬ j < 0) (hi : i < vs.length) : ¬ (j < 0 ∨ c.slots.size ≤ j.toNatClampNeg) := by
  subst hc hj; rintro (q | q)
  · exact h0 q
  · exact absurd hi (by simpa using q)
theorem W.arraylength {a : Addr} {ty : FieldType} {vs : List Value} (n : Nat) (hd : decode bytes pc = .ok (.arraylength, 1)) (hn : pc + 1 = n) (A : Ary Z h a ty vs) (v : Int32) (hv : vs.length.toInt32 = v) (k : WG FE l R Z own nm bytes maxL ret n0 P h cells slots n Ls (.int v :: st)) : WG FE l R Z own nm bytes maxL ret n0 P h cells slots pc Ls (.ref a :: st) := by
  subst hn
  obtain ⟨c, A, rfl, F, S⟩ := A
  have e : c.slots.size.toInt32 = v := by rw [← hv]; simp
  exact k.step fun p e' s m args below meth c' T locs hx hZ hby hown X eT t q => X.arraylength hx (by rw [eT]; exact A.1) (State.isArrayOf_alike hZ.alike A.2.1) (g := mkF m pc Ls (.ref a :: st)) rfl rfl (hb hby hd) t (e ▸ q)

theorem W.iaload {a : Addr} {vs : List Value} {j : Int32} (n : Nat) (hd : decode bytes pc = .ok (.iaload, 1)) (hn : pc + 1 = n) (A : Ary Z h a .int vs) (i : Nat) (hj : j.toNatClampNeg = i) (h0 : ¬ j < 0) (v : Value) (hv : vs[i]? = some v) (k : WG FE l R Z own nm bytes maxL ret n0 P h cells slots n Ls (v :: st)) : WG FE l R Z own nm bytes maxL ret n0 P h cells slots pc Ls (.int j :: .ref a :: st) := by
  subst hn
  obtain ⟨c, A, hc, F, S⟩ := A
  have hi : i < vs.length := (List.getElem?_eq_some_iff.mp hv).1
  have hin := ary_in hc hj h0 hi
  have hat : c.slots[j.toNatClampNeg]? = some v := by rw [hj, ← hv, ← hc]; simp
  exact k.step fun p e' s m args below meth c' T locs hx hZ hby hown X eT t q => X.iaload hx (j := j) (v := v) (by rw [eT]; exact A.1) (State.isArrayOf_alike hZ.alike A.2.1) A.2.2 hin hat (g := mkF m pc Ls (.int j :: .ref a :: st)) rfl rfl (hb hby hd) t q
theorem W.laload {a : Addr} {vs : List Value} {j : Int32} (n : Nat) (hd : decode bytes pc = .ok (.laload, 1)) (hn : pc + 1 = n) (A : Ary Z h a .long vs) (i : Nat) (hj : j.toNatClampNeg = i) (h0 : ¬ j < 0) (v : Value) (hv : vs[i]? = some v) (k : WG FE l R Z own nm bytes maxL ret n0 P h cells slots n Ls (v :: st)) : WG FE l R Z own nm bytes maxL ret n0 P h cells slots pc Ls (.int j :: .ref a :: st) := by
  subst hn
  obtain ⟨c, A, hc, F, S⟩ := A
  have hi : i < vs.length := (List.getElem?_eq_some_iff.mp hv).1
  have hin := ary_in hc hj h0 hi
  have hat : c.slots[j.toNatClampNeg]? = some v := by rw [hj, ← hv, ← hc]; simp
  exact k.step fun p e' s m args below meth c' T locs hx hZ hby hown X eT t q => X.laload hx (j := j) (v := v) (by rw [eT]; exact A.1) (State.isArrayOf_alike hZ.alike A.2.1) A.2.2 hin hat (g := mkF m pc Ls (.int j :: .ref a :: st)) rfl rfl (hb hby hd) t q
theorem W.caload {a : Addr} {vs : List Value} {j : Int32} (n : Nat) (hd : decode bytes pc = .ok (.caload, 1)) (hn : pc + 1 = n) (A : Ary Z h a .char vs) (i : Nat) (hj : j.toNatClampNeg = i) (h0 : ¬ j < 0) (v : Value) (hv : vs[i]? = some v) (k : WG FE l R Z own nm bytes maxL ret n0 P h cells slots n Ls (v :: st)) : WG FE l R Z own nm bytes maxL ret n0 P h cells slots pc Ls (.int j :: .ref a :: st) := by
  subst hn
  obtain ⟨c, A, hc, F, S⟩ := A
  have hi : i < vs.length := (List.getElem?_eq_some_iff.mp hv).1
  have hin := ary_in hc hj h0 hi
  have hat : c.slots[j.toNatClampNeg]? = some v := by rw [hj, ← hv, ← hc]; simp
  exact k.step fun p e' s m args below meth c' T locs hx hZ hby hown X eT t q => X.caload hx (j := j) (v := v) (by rw [eT]; exact A.1) (State.isArrayOf_alike hZ.alike A.2.1) A.2.2 hin hat (g := mkF m pc Ls (.int j :: .ref a :: st)) rfl rfl (hb hby hd) t q
theorem W.baload {a : Addr} {vs : List Value} {j : Int32} (n : Nat) (hd : decode bytes pc = .ok (.baload, 1)) (hn : pc + 1 = n) (A : Ary Z h a .byte vs) (i : Nat) (hj : j.toNatClampNeg = i) (h0 : ¬ j < 0) (v : Value) (hv : vs[i]? = some v) (k : WG FE l R Z own nm bytes maxL ret n0 P h cells slots n Ls (v :: st)) : WG FE l R Z own nm bytes maxL ret n0 P h cells slots pc Ls (.int j :: .ref a :: st) := by
  subst hn
  obtain ⟨c, A, hc, F, S⟩ := A
  have hi : i < vs.length := (List.getElem?_eq_some_iff.mp hv).1
  have hin := ary_in hc hj h0 hi
  have hat : c.slots[j.toNatClampNeg]? = some v := by rw [hj, ← hv, ← hc]; simp
  exact k.step fun p e' s m args below meth c' T locs hx hZ hby hown X eT t q => X.baloadBytes hx (j := j) (v := v) (by rw [eT]; exact A.1) (State.isArrayOf_alike hZ.alike A.2.1) A.2.2 hin hat (g := mkF m pc Ls (.int j :: .ref a :: st)) rfl rfl (hb hby hd) t q
theorem W.aaload {a : Addr} {vs : List Value} {j : Int32} {ty : FieldType} (n : Nat) (hd : decode bytes pc = .ok (.aaload, 1)) (hn : pc + 1 = n) (A : Ary Z h a ty vs) (hty : ty.isReference = true) (i : Nat) (hj : j.toNatClampNeg = i) (h0 : ¬ j < 0) (v : Value) (hv : vs[i]? = some v) (k : WG FE l R Z own nm bytes maxL ret n0 P h cells slots n Ls (v :: st)) : WG FE l R Z own nm bytes maxL ret n0 P h cells slots pc Ls (.int j :: .ref a :: st) := by
  subst hn
  obtain ⟨c, A, hc, F, S⟩ := A
  have hi : i < vs.length := (List.getElem?_eq_some_iff.mp hv).1
  have hin := ary_in hc hj h0 hi
  have hat : c.slots[j.toNatClampNeg]? = some v := by rw [hj, ← hv, ← hc]; simp
  exact k.step fun p e' s m args below meth c' T locs hx hZ hby hown X eT t q => X.aaload hx (j := j) (v := v) (by rw [eT]; exact A.1) (State.isArrayOf_alike hZ.alike A.2.1) hty A.2.2 hin hat (g := mkF m pc Ls (.int j :: .ref a :: st)) rfl rfl (hb hby hd) t q
theorem W.iastore {a : Addr} {vs : List Value} {j : Int32} {x : Int32} (n : Nat) (hd : decode bytes pc = .ok (.iastore, 1)) (hn : pc + 1 = n) (A : Ary Z h a .int vs) (i : Nat) (hj : j.toNatClampNeg = i) (h0 : ¬ j < 0) (hi : i < vs.length) (ge : n0 ≤ a)
    (k : ∀ h', Wr h h' a i (.int x) → Keep h h' [a] → Ary Z h' a .int (vs.set i (.int x)) → WG FE l R Z own nm bytes maxL ret n0 P h' cells slots n Ls st) : WG FE l R Z own nm bytes maxL ret n0 P h cells slots pc Ls (.int x :: .int j :: .ref a :: st) := by
  subst hn
  intro p e s m args below meth c T locs hx hZ hby hml hown hret hlk hnm hn0 X eT N
  have A0 := A
  obtain ⟨cl, A, hc, F, S⟩ := A
  obtain ⟨T', h', X', e', W', st'⟩ := stI X hx hZ eT A (ary_in hc hj h0 hi) (g := mkF m pc Ls (.int x :: .int j :: .ref a :: st)) rfl rfl (hb hby hd)
  subst hj
  exact (k h' W' (Keep.of_wr W') (A0.set W' rfl) p e s m args below meth c T' _ hx hZ hby hml hown hret hlk hnm hn0 X' e' (Fr.one N ge)).step st'

theorem W.lastore {a : Addr} {vs : List Value} {j : Int32} {x : Int64} (n : Nat) (hd : decode bytes pc = .ok (.lastore, 1)) (hn : pc + 1 = n) (A : Ary Z h a .long vs) (i : Nat) (hj : j.toNatClampNeg = i) (h0 : ¬ j < 0) (hi : i < vs.length) (ge : n0 ≤ a)
    (k : ∀ h', Wr h h' a i (.long x) → Keep h h' [a] → Ary Z h' a .long (vs.set i (.long x)) → WG FE l R Z own nm bytes maxL ret n0 P h' cells slots n Ls st) : WG FE l R Z own nm bytes maxL ret n0 P h cells slots pc Ls (.long x :: .int j :: .ref a :: st) := by
  subst hn
  intro p e s m args below meth c T locs hx hZ hby hml hown hret hlk hnm hn0 X eT N
  have A0 := A
  obtain ⟨cl, A, hc, F, S⟩ := A
  obtain ⟨T', h', X', e', W', st'⟩ := stJ X hx hZ eT A (ary_in hc hj h0 hi) (g := mkF m pc Ls (.long x :: .int j :: .ref a :: st)) rfl rfl (hb hby hd)
  subst hj
  exact (k h' W' (Keep.of_wr W') (A0.set W' rfl) p e s m args below meth c T' _ hx hZ hby hml hown hret hlk hnm hn0 X' e' (Fr.one N ge)).step st'

theorem W.castore {a : Addr} {vs : List Value} {j : Int32} {x : Int32} (n : Nat) (hd : decode bytes pc = .ok (.castore, 1)) (hn : pc + 1 = n) (A : Ary Z h a .char vs) (i : Nat) (hj : j.toNatClampNeg = i) (h0 : ¬ j < 0) (hi : i < vs.length) (x' : Int32) (hx' : nar .char x = x') (ge : n0 ≤ a)
    (k : ∀ h', Wr h h' a i (.int x') → Keep h h' [a] → Ary Z h' a .char (vs.set i (.int x')) → WG FE l R Z own nm bytes maxL ret n0 P h' cells slots n Ls st) : WG FE l R Z own nm bytes maxL ret n0 P h cells slots pc Ls (.int x :: .int j :: .ref a :: st) := by
  subst hn hx'
  intro p e s m args below meth c T locs hx hZ hby hml hown hret hlk hnm hn0 X eT N
  have A0 := A
  obtain ⟨cl, A, hc, F, S⟩ := A
  obtain ⟨T', h', X', e', W', st'⟩ := stC X hx hZ eT A (ary_in hc hj h0 hi) (g := mkF m pc Ls (.int x :: .int j :: .ref a :: st)) rfl rfl (hb hby hd)
  subst hj
  exact (k h' W' (Keep.of_wr W') (A0.set W' (fits_nar_char _)) p e s m args below meth c T' _ hx hZ hby hml hown hret hlk hnm hn0 X' e' (Fr.one N ge)).step st'

theorem W.bastore {a : Addr} {vs : List Value} {j : Int32} {x : Int32} (n : Nat) (hd : decode bytes pc = .ok (.bastore, 1)) (hn : pc + 1 = n) (A : Ary Z h a .byte vs) (i : Nat) (hj : j.toNatClampNeg = i) (h0 : ¬ j < 0) (hi : i < vs.length) (x' : Int32) (hx' : nar .byte x = x') (ge : n0 ≤ a)
    (k : ∀ h', Wr h h' a i (.int x') → Keep h h' [a] → Ary Z h' a .byte (vs.set i (.int x')) → WG FE l R Z own nm bytes maxL ret n0 P h' cells slots n Ls st) : WG FE l R Z own nm bytes maxL ret n0 P h cells slots pc Ls (.int x :: .int j :: .ref a :: st) := by
  subst hn hx'
  intro p e s m args below meth c T locs hx hZ hby hml hown hret hlk hnm hn0 X eT N
  have A0 := A
  obtain ⟨cl, A, hc, F, S⟩ := A
  obtain ⟨T', h', X', e', W', st'⟩ := stB X hx hZ eT A (ary_in hc hj h0 hi) (g := mkF m pc Ls (.int x :: .int j :: .ref a :: st)) rfl rfl (hb hby hd)
  subst hj
  exact (k h' W' (Keep.of_wr W') (A0.set W' (fits_nar_byte _)) p e s m args below meth c T' _ hx hZ hby hml hown hret hlk hnm hn0 X' e' (Fr.one N ge)).step st'

theorem W.bastoreZ {a : Addr} {vs : List Value} {j : Int32} {x : Int32} (n : Nat) (hd : decode bytes pc = .ok (.bastore, 1)) (hn : pc + 1 = n) (A : Ary Z h a .boolean vs) (i : Nat) (hj : j.toNatClampNeg = i) (h0 : ¬ j < 0) (hi : i < vs.length) (x' : Int32) (hx' : nar .boolean x = x') (ge : n0 ≤ a)
    (k : ∀ h', Wr h h' a i (.int x') → Keep h h' [a] → Ary Z h' a .boolean (vs.set i (.int x')) → WG FE l R Z own nm bytes maxL ret n0 P h' cells slots n Ls st) : WG FE l R Z own nm bytes maxL ret n0 P h cells slots pc Ls (.int x :: .int j :: .ref a :: st) := by
  subst hn hx'
  intro p e s m args below meth c T locs hx hZ hby hml hown hret hlk hnm hn0 X eT N
  have A0 := A
  obtain ⟨cl, A, hc, F, S⟩ := A
  obtain ⟨T', h', X', e', W', st'⟩ := stZ X hx hZ eT A (ary_in hc hj h0 hi) (g := mkF m pc Ls (.int x :: .int j :: .ref a :: st)) rfl rfl (hb hby hd)
  subst hj
  exact (k h' W' (Keep.of_wr W') (A0.set W' (fits_nar_bool _)) p e s m args below meth c T' _ hx hZ hby hml hown hret hlk hnm hn0 X' e' (Fr.one N ge)).step st'

theorem Sta.keep0 {h' : Heap} {C f d : String} {v : Value} (K : Keep h h' []) (F : Sta Z h C f d v) : Sta Z h' C f d v := by
  obtain ⟨cf, i, k, fd, st, cell, h1, h2, h3, h4, h5, r⟩ := F; exact ⟨cf, i, k, fd, st, cell, h1, h2, h3, h4, K.2.1 _ _ h5 nin0, r⟩
/-- an array of references, and what may lie in it -/
def AryO (Z : State) (h : Heap) (a : Addr) (C : String) (vs : List Value) : Prop :=
  ∃ c : Cell, Arr Z h a c (.object C) ∧ Ovr Z c.cls C ∧ c.slots.toList = vs ∧ (∀ v ∈ vs, fits (.object C) v = true) ∧ vs.length < 2 ^ 31
theorem AryO.ary {a : Addr} {C : String} {vs : List Value} (A : AryO Z h a C vs) : Ary Z h a (.object C) vs := by obtain ⟨c, A, -, r⟩ := A; exact ⟨c, A, r⟩
theorem AryO.lt {a : Addr} {C : String} {vs : List Value} (A : AryO Z h a C vs) : a < h.size := A.ary.lt
theorem AryO.keep {h' : Heap} {ws : List Addr} {a : Addr} {C : String} {vs : List Value} (A : AryO Z h a C vs) (K : Keep h h' ws) (q : a ∉ ws) : AryO Z h' a C vs := by obtain ⟨c, A, r⟩ := A; exact ⟨c, ⟨K.2.1 a c A.1 q, A.2⟩, r⟩
theorem W.anewarray {i : Nat} {C : String} {x : Int32} (n : Nat) (hd : decode bytes pc = .ok (.anewarray i, 3)) (hn : pc + 3 = n) (w1 : (Jvm.Cond.classLink own i C).before a0 Z = true) (w2 : (Jvm.Cond.arrayOver (.object C)).before a0 Z = true) (hx0 : ¬ x < 0) (len cap : Nat) (hlen : x.toNatClampNeg = len) (hcap : len ≤ cap) (hb8 : cap * 8 ≤ 536870912) (hc : cells + 1 ≤ R.cells) (hs : slots + cap ≤ R.slots)
    (k : ∀ h' b, b = h.size → n0 ≤ b → Ext h h' → Keep h h' [] → AryO Z h' b C (List.replicate len .null) → WG FE l R Z own nm bytes maxL ret n0 P h' (cells + 1) (slots + cap) n Ls (.ref b :: st)) : WG FE l R Z own nm bytes maxL ret n0 P h cells slots pc Ls (.int x :: st) := by
  subst hn hlen
  intro p e s m args below meth c T locs hx hZ hby hml hown hret hlk hnm hn0 X eT N
  obtain ⟨T', h', cA, X', e', E', A', O', st'⟩ := newR X hx hZ hown w1 w2 eT (g := mkF m pc Ls (.int x :: st)) rfl (hb hby hd) rfl hx0 hcap hb8 hc hs
  have hb0 : n0 ≤ h.size := Nat.le_trans hn0 (eT ▸ size_le X)
  obtain ⟨cc, B1, B2⟩ := Ary.new A' rfl
  refine (k h' h.size rfl hb0 E' (Keep.of_ext E') ⟨_, A', O', ?_, ?_, ?_⟩ p e s m args below meth c T' _ hx hZ hby hml hown hret hlk hnm hn0 X' e' N).step st'
  · simp [newA, defaultValue]
  · intro v hv; rw [(List.mem_replicate.mp hv).2]; rfl
  · rw [List.length_replicate]; have := Int32.toInt_lt x; simp only [Int32.toNatClampNeg]; omega
theorem W.aastore {a y : Addr} {C : String} {vs : List Value} {j : Int32} (n : Nat) (hd : decode bytes pc = .ok (.aastore, 1)) (hn : pc + 1 = n) (A : AryO Z h a C vs) (I : Ins Z h y C true) (i : Nat) (hj : j.toNatClampNeg = i) (h0 : ¬ j < 0) (hi : i < vs.length) (ge : n0 ≤ a)
    (k : ∀ h', Wr h h' a i (.ref y) → Keep h h' [a] → AryO Z h' a C (vs.set i (.ref y)) → WG FE l R Z own nm bytes maxL ret n0 P h' cells slots n Ls st) : WG FE l R Z own nm bytes maxL ret n0 P h cells slots pc Ls (.ref y :: .int j :: .ref a :: st) := by
  subst hn
  intro p e s m args below meth c T locs hx hZ hby hml hown hret hlk hnm hn0 X eT N
  obtain ⟨cl, A, O, hc, F, S⟩ := A
  obtain ⟨T', h', X', e', W', st'⟩ := stR X hx hZ eT A (ary_in hc hj h0 hi) rfl (Sto.of A O I) (g := mkF m pc Ls (.ref y :: .int j :: .ref a :: st)) rfl rfl (hb hby hd)
  subst hj
  refine (k h' W' (Keep.of_wr W') ⟨_, A.same W', O, ?_, ?_, ?_⟩ p e s m args below meth c T' _ hx hZ hby hml hown hret hlk hnm hn0 X' e' (Fr.one N ge)).step st'
  · simp [Cell.setSlot, hc]
  · exact fun w hw => (List.mem_or_eq_of_mem_set hw).elim (fun q => F w q) (fun q => q ▸ rfl)
  · simpa using S
/-! calls and returns -/
theorem W.initObj {i : Nat} {a : Addr} (n : Nat) (hd : decode bytes pc = .ok (.invokespecial i, 3)) (hn : pc + 3 = n) (w1 : (Jvm.Cond.methodLink own i Lib.objectInit).before a0 Z = true) (w2 : (Jvm.Cond.instanceMethod Lib.objectInit).before a0 Z = true) (w3 : (Jvm.Cond.code Lib.objectInit ⟨#[0xb1]⟩ 1 none).before a0 Z = true) (hsz : Ls.size = maxL) (hf : 1 ≤ R.frames) (W0 : Nat) (hW : (st.map fun v => v.category).sum ≤ W0) (hl : W0 + 12 ≤ R.locals)
    (k : WG FE l R Z own nm bytes maxL ret n0 P h cells slots n Ls st) : WG FE l R Z own nm bytes maxL ret n0 P h cells slots pc Ls (.ref a :: st) := by
  subst hn
  intro p e s m args below meth c T locs hx hZ hby hml hown hret hlk hnm hn0 X eT N
  obtain ⟨T', X', e', st'⟩ := initO X hx hZ hown w1 w2 w3 eT (g := mkF m pc Ls (.ref a :: st)) rfl (by rw [hml]; exact hsz) rfl (hb hby hd) hf (W := W0) (by show 2 * 0 + _ ≤ _; omega) hl
  exact (k p e s m args below meth c T' locs hx hZ hby hml hown hret hlk hnm hn0 X' e' N).step st'
section Calls
variable {y : MethodName} {bytes' : ByteArray} {maxL' : Nat} {ret' : Option FieldType} {rm : Room} {P' : Option Value → Heap → Prop} {rest argsL : List Value} {i : Nat}
theorem W.callS (n : Nat) (hd : decode bytes pc = .ok (.invokestatic i, 3)) (hn : pc + 3 = n) (C : n0 ≤ h.size → Con l Z y bytes' maxL' ret' rm argsL.toArray h n0 P') (w1 : (Jvm.Cond.methodLink own i y).before a0 Z = true) (w2 : (Jvm.Cond.static y).before a0 Z = true) (w3 : (Jvm.Cond.initialized y.cls).before a0 Z = true) (w4 : (Jvm.Cond.code y bytes' maxL' ret').before a0 Z = true)
    (hy : y.cls ≠ "java/lang/invoke/MethodHandle" ∧ y.cls ≠ "java/lang/invoke/VarHandle") {ps : List FieldType} {r : Option FieldType} (hpd : parseMethodDescriptor y.desc = some ⟨ps, r⟩) (hlen : argsL.length = ps.length) (hst : st = argsL.reverse ++ rest) (hsz : Ls.size = maxL) (hf : rm.frames + 1 ≤ R.frames) (W0 : Nat) (hW : (rest.map fun v => v.category).sum ≤ W0) (hl : W0 + (maxL' + 11) + rm.locals ≤ R.locals) (hc : cells + rm.cells ≤ R.cells) (hs : slots + rm.slots ≤ R.slots)
    (k : ∀ v h', P' v h' → WG FE l R Z own nm bytes maxL ret n0 P h' (cells + rm.cells) (slots + rm.slots) n Ls (v.toList ++ rest)) : WG FE l R Z own nm bytes maxL ret n0 P h cells slots pc Ls st := by
  subst hn hst
  intro p e s m args below meth c T locs hx hZ hby hml hown hret hlk hnm hn0 X eT N
  obtain ⟨v, _, ⟨T', L', c', n'⟩, -, X', ⟨Lc, hQ, l', y', z'⟩, st'⟩ := Jvm.LawKit.callS X hx (y := y) hown (mvT hZ w1) (mvT hZ w2) (mvT hZ w3) (mvT hZ w4) hy (backOf (W := W0) (Z := Z) (h := h) (bytes := bytes') (maxL := maxL') (rm := rm) (Q := fun v h' L => P' v h' ∧ Fr n0 L) (C (Nat.le_trans hn0 (eT ▸ size_le X))) hZ w4 w3 hf hl) (g := mkF m pc Ls (argsL.reverse ++ rest)) rfl (by rw [hml]; exact hsz) (argsL := argsL) (rest := rest) (lenOf hpd hlen) rfl (by show 2 * 0 + _ ≤ _; omega) (hb hby hd) (fun _ _ => ⟨rfl, eT, hc, hs⟩)
  dsimp only [Pt.U, Pt.locs, Pt.cells, Pt.slots] at X' l' y' z' st' hQ
  subst l' y' z'
  exact (k v T'.heap hQ.1 p e s m args below meth c T' _ hx hZ hby hml hown hret hlk hnm hn0 X' rfl (Fr.app N hQ.2)).step st'
theorem W.callInit {a : Addr} (n : Nat) (hd : decode bytes pc = .ok (.invokespecial i, 3)) (hn : pc + 3 = n) (C : n0 ≤ h.size → Con l Z y bytes' maxL' none rm (.ref a :: argsL).toArray h n0 P') (hi : y.name = "<init>") (w1 : (Jvm.Cond.methodLink own i y).before a0 Z = true) (w2 : (Jvm.Cond.instanceMethod y).before a0 Z = true) (w3 : (Jvm.Cond.initialized y.cls).before a0 Z = true) (w4 : (Jvm.Cond.code y bytes' maxL' none).before a0 Z = true)
    (hy : y.cls ≠ "java/lang/invoke/MethodHandle" ∧ y.cls ≠ "java/lang/invoke/VarHandle") {ps : List FieldType} {r : Option FieldType} (hpd : parseMethodDescriptor y.desc = some ⟨ps, r⟩) (hlen : argsL.length = ps.length) (hst : st = argsL.reverse ++ .ref a :: rest) (hsz : Ls.size = maxL) (hf : rm.frames + 1 ≤ R.frames) (W0 : Nat) (hW : (rest.map fun v => v.category).sum ≤ W0) (hl : W0 + (maxL' + 11) + rm.locals ≤ R.locals) (hc : cells + rm.cells ≤ R.cells) (hs : slots + rm.slots ≤ R.slots)
    (k : ∀ v h', P' v h' → WG FE l R Z own nm bytes maxL ret n0 P h' (cells + rm.cells) (slots + rm.slots) n Ls (v.toList ++ rest)) : WG FE l R Z own nm bytes maxL ret n0 P h cells slots pc Ls st := by
  subst hn hst
  intro p e s m args below meth c T locs hx hZ hby hml hown hret hlk hnm hn0 X eT N
  obtain ⟨v, _, ⟨T', L', c', n'⟩, -, X', ⟨Lc, hQ, l', y', z'⟩, st'⟩ := X.specialBack hx (y := y) hi hown (mvT hZ w1) (mvT hZ w2) (mvT hZ w4) hy (backOf (W := W0) (Z := Z) (h := h) (bytes := bytes') (maxL := maxL') (rm := rm) (Q := fun v h' L => P' v h' ∧ Fr n0 L) (C (Nat.le_trans hn0 (eT ▸ size_le X))) hZ w4 w3 hf hl) (g := mkF m pc Ls (argsL.reverse ++ .ref a :: rest)) rfl (by rw [hml]; exact hsz) (Steps.refl _) (a := a) (argsL := argsL) (rest := rest) (lenOf hpd hlen) rfl (by show 2 * 0 + _ ≤ _; omega) (hb hby hd) (fun _ _ => ⟨rfl, eT, hc, hs⟩)
  dsimp only [Pt.U, Pt.locs, Pt.cells, Pt.slots] at X' l' y' z' st' hQ
  subst l' y' z'
  exact (k v T'.heap hQ.1 p e s m args below meth c T' _ hx hZ hby hml hown hret hlk hnm hn0 X' rfl (Fr.app N hQ.2)).step fun t q => st'.trans q
theorem W.callV {C0 : String} {a : Addr} (n : Nat) (hd : decode bytes pc = .ok (.invokevirtual i, 3)) (hn : pc + 3 = n) (C : n0 ≤ h.size → Con l Z y bytes' maxL' ret' rm (.ref a :: argsL).toArray h n0 P') (E : Exa Z h a C0) (w1 : (Jvm.Cond.methodLink own i y).before a0 Z = true) (w2 : (Jvm.Cond.declares y).before a0 Z = true) (w5 : (Jvm.Cond.selects C0 y y).before a0 Z = true) (hcy : C0 = y.cls) (w6 : (Jvm.Cond.instanceMethod y).before a0 Z = true) (w3 : (Jvm.Cond.initialized y.cls).before a0 Z = true) (w4 : (Jvm.Cond.code y bytes' maxL' ret').before a0 Z = true)
    (hy : y.cls ≠ "java/lang/invoke/MethodHandle" ∧ y.cls ≠ "java/lang/invoke/VarHandle") {ps : List FieldType} {r : Option FieldType} (hpd : parseMethodDescriptor y.desc = some ⟨ps, r⟩) (hlen : argsL.length = ps.length) (hst : st = argsL.reverse ++ .ref a :: rest) (hsz : Ls.size = maxL) (hf : rm.frames + 1 ≤ R.frames) (W0 : Nat) (hW : (rest.map fun v => v.category).sum ≤ W0) (hl : W0 + (maxL' + 11) + rm.locals ≤ R.locals) (hc : cells + rm.cells ≤ R.cells) (hs : slots + rm.slots ≤ R.slots)
    (k : ∀ v h', P' v h' → WG FE l R Z own nm bytes maxL ret n0 P h' (cells + rm.cells) (slots + rm.slots) n Ls (v.toList ++ rest)) : WG FE l R Z own nm bytes maxL ret n0 P h cells slots pc Ls st := by
  subst hn hst hcy
  intro p e s m args below meth c T locs hx hZ hby hml hown hret hlk hnm hn0 X eT N
  obtain ⟨cq, kq, qa, qb, qc⟩ := isOf hZ eT E
  obtain ⟨v, _, ⟨T', L', c', n'⟩, -, X', ⟨Lc, hQ, l', y', z'⟩, st'⟩ := X.virtualBack hx (y := y) (z := y) hown (mvT hZ w1) (mvT hZ w2) (notFace_of_selects (args := #[]) (mvT hZ w5)) (mvT hZ w5) (mvT hZ w6) hy (backOf (W := W0) (Z := Z) (h := h) (bytes := bytes') (maxL := maxL') (rm := rm) (Q := fun v h' L => P' v h' ∧ Fr n0 L) (C (Nat.le_trans hn0 (eT ▸ size_le X))) hZ w4 w3 hf hl) qa qc (g := mkF m pc Ls (argsL.reverse ++ .ref a :: rest)) rfl (by rw [hml]; exact hsz) (Steps.refl _) (argsL := argsL) (rest := rest) (lenOf hpd hlen) rfl (by show 2 * 0 + _ ≤ _; omega) (hb hby hd) (fun _ _ => ⟨rfl, eT, hc, hs⟩)
  dsimp only [Pt.U, Pt.locs, Pt.cells, Pt.slots] at X' l' y' z' st' hQ
  subst l' y' z'
  exact (k v T'.heap hQ.1 p e s m args below meth c T' _ hx hZ hby hml hown hret hlk hnm hn0 X' rfl (Fr.app N hQ.2)).step fun t q => st'.trans q
theorem W.callP {C0 : String} {a : Addr} {kk : Nat} (n : Nat) (hd : decode bytes pc = .ok (.invokevirtual i, 3)) (hn : pc + 3 = n) (C : n0 ≤ h.size → Con l Z y bytes' maxL' ret' rm (.ref a :: argsL).toArray h n0 P') (E : Exa Z h a C0) (w1 : (Jvm.Cond.methodLink own i y).before a0 Z = true) (wp : (Jvm.Cond.privateMethod y).before a0 Z = true) (wi : (Jvm.Cond.instantiable y.cls kk).before a0 Z = true) (w6 : (Jvm.Cond.instanceMethod y).before a0 Z = true) (w3 : (Jvm.Cond.initialized y.cls).before a0 Z = true) (w4 : (Jvm.Cond.code y bytes' maxL' ret').before a0 Z = true)
    (hy : y.cls ≠ "java/lang/invoke/MethodHandle" ∧ y.cls ≠ "java/lang/invoke/VarHandle") {ps : List FieldType} {r : Option FieldType} (hpd : parseMethodDescriptor y.desc = some ⟨ps, r⟩) (hlen : argsL.length = ps.length) (hst : st = argsL.reverse ++ .ref a :: rest) (hsz : Ls.size = maxL) (hf : rm.frames + 1 ≤ R.frames) (W0 : Nat) (hW : (rest.map fun v => v.category).sum ≤ W0) (hl : W0 + (maxL' + 11) + rm.locals ≤ R.locals) (hc : cells + rm.cells ≤ R.cells) (hs : slots + rm.slots ≤ R.slots)
    (k : ∀ v h', P' v h' → WG FE l R Z own nm bytes maxL ret n0 P h' (cells + rm.cells) (slots + rm.slots) n Ls (v.toList ++ rest)) : WG FE l R Z own nm bytes maxL ret n0 P h cells slots pc Ls st := by
  subst hn hst
  intro p e s m args below meth c T locs hx hZ hby hml hown hret hlk hnm hn0 X eT N
  obtain ⟨cI, kI, i1, i2, i3, i4, -⟩ := Cond.instantiable_spec (mvT (args := args) hZ wi)
  have hni : kI.isInterface = false := by cases hi : kI.isInterface <;> simp [hi] at i4 ⊢
  have hpriv := Cond.privateMethod_at (mvP hZ wp (args := args))
  have hsel := selects_self_of_private i1 i2 hni hpriv (mvT (args := args) hZ w6) hy
  obtain ⟨cell, hc1, hc2⟩ := E.cell
  obtain ⟨v, _, ⟨T', L', c', n'⟩, -, X', ⟨Lc, hQ, l', y', z'⟩, st'⟩ := X.privateBack hx (y := y) hown (mvT hZ w1) (mvT hZ w6) hsel hpriv (mvT hZ w4) hy (backOf (W := W0) (Z := Z) (h := h) (bytes := bytes') (maxL := maxL') (rm := rm) (Q := fun v h' L => P' v h' ∧ Fr n0 L) (C (Nat.le_trans hn0 (eT ▸ size_le X))) hZ w4 w3 hf hl) (g := mkF m pc Ls (argsL.reverse ++ .ref a :: rest)) rfl (by rw [hml]; exact hsz) (Steps.refl _) (a := a) (cell := cell) (by rw [eT]; exact hc1) hc2 (argsL := argsL) (rest := rest) (lenOf hpd hlen) rfl (by show 2 * 0 + _ ≤ _; omega) (hb hby hd) (fun _ _ => ⟨rfl, eT, hc, hs⟩)
  dsimp only [Pt.U, Pt.locs, Pt.cells, Pt.slots] at X' l' y' z' st' hQ
  subst l' y' z'
  exact (k v T'.heap hQ.1 p e s m args below meth c T' _ hx hZ hby hml hown hret hlk hnm hn0 X' rfl (Fr.app N hQ.2)).step fun t q => st'.trans q
theorem W.callI {xi : MethodName} {C0 : String} {a : Addr} {cnt : Nat} (n : Nat) (hd : decode bytes pc = .ok (.invokeinterface i cnt, 5)) (hn : pc + 5 = n) (C : n0 ≤ h.size → Con l Z y bytes' maxL' ret' rm (.ref a :: argsL).toArray h n0 P') (E : Exa Z h a C0) (w1 : (Jvm.Cond.methodLink own i xi).before a0 Z = true) (w2 : (Jvm.Cond.declares xi).before a0 Z = true) (wf : (Jvm.Cond.interfaceMethod xi.cls xi.cls xi.name xi.desc).before a0 Z = true) (w5 : (Jvm.Cond.selects C0 xi y).before a0 Z = true) (w6 : (Jvm.Cond.instanceMethod y).before a0 Z = true) (wp : (Jvm.Cond.publicMethod y).before a0 Z = true) (wu : (Jvm.Cond.unhidden C0 xi.name xi.desc).before a0 Z = true) (wk : (Jvm.Cond.castable C0 xi.cls).before a0 Z = true) (w3 : (Jvm.Cond.initialized y.cls).before a0 Z = true) (w4 : (Jvm.Cond.code y bytes' maxL' ret').before a0 Z = true)
    (hy : xi.cls ≠ "java/lang/invoke/MethodHandle" ∧ xi.cls ≠ "java/lang/invoke/VarHandle") {ps : List FieldType} {r : Option FieldType} (hpd : parseMethodDescriptor xi.desc = some ⟨ps, r⟩) (hlen : argsL.length = ps.length) (hst : st = argsL.reverse ++ .ref a :: rest) (hsz : Ls.size = maxL) (hf : rm.frames + 1 ≤ R.frames) (W0 : Nat) (hW : (rest.map fun v => v.category).sum ≤ W0) (hl : W0 + (maxL' + 11) + rm.locals ≤ R.locals) (hc : cells + rm.cells ≤ R.cells) (hs : slots + rm.slots ≤ R.slots)
    (k : ∀ v h', P' v h' → WG FE l R Z own nm bytes maxL ret n0 P h' (cells + rm.cells) (slots + rm.slots) n Ls (v.toList ++ rest)) : WG FE l R Z own nm bytes maxL ret n0 P h cells slots pc Ls st := by
  subst hn hst
  intro p e s m args below meth c T locs hx hZ hby hml hown hret hlk hnm hn0 X eT N
  obtain ⟨cq, kq, qa, qb, qc⟩ := isOf hZ eT E
  obtain ⟨v, _, ⟨T', L', c', n'⟩, -, X', ⟨Lc, hQ, l', y', z'⟩, st'⟩ := X.interfaceBack hx (xi := xi) (y := y) hown (mvT hZ w1) (mvT hZ w2) (mvT hZ wf (by simp [Jvm.Cond.onTables, Jvm.Cond.keepsFace, Jvm.Cond.keeps, Jvm.Cond.steady, Jvm.Cond.faceAtom, hy])) (mvT hZ w5) (mvT hZ w6) (mvT hZ wp) (mvT hZ wu) (mvT hZ wk) hy (backOf (W := W0) (Z := Z) (h := h) (bytes := bytes') (maxL := maxL') (rm := rm) (Q := fun v h' L => P' v h' ∧ Fr n0 L) (C (Nat.le_trans hn0 (eT ▸ size_le X))) hZ w4 w3 hf hl) qa qb qc (g := mkF m pc Ls (argsL.reverse ++ .ref a :: rest)) rfl (by rw [hml]; exact hsz) (Steps.refl _) (argsL := argsL) (rest := rest) (lenOf hpd hlen) rfl (by show 2 * 0 + _ ≤ _; omega) (hb hby hd) (fun _ _ => ⟨rfl, eT, hc, hs⟩)
  dsimp only [Pt.U, Pt.locs, Pt.cells, Pt.slots] at X' l' y' z' st' hQ
  subst l' y' z'
  exact (k v T'.heap hQ.1 p e s m args below meth c T' _ hx hZ hby hml hown hret hlk hnm hn0 X' rfl (Fr.app N hQ.2)).step fun t q => st'.trans q
end Calls
theorem W.checkcast {i : Nat} {K : String} {a : Addr} (n : Nat) (hd : decode bytes pc = .ok (.checkcast i, 3)) (hn : pc + 3 = n) (w : (Jvm.Cond.classLink own i K).before a0 Z = true) (F : Ins Z h a K true) (k : WG FE l R Z own nm bytes maxL ret n0 P h cells slots n Ls (.ref a :: st)) : WG FE l R Z own nm bytes maxL ret n0 P h cells slots pc Ls (.ref a :: st) := by
  subst hn
  intro p e s m args below meth c T locs hx hZ hby hml hown hret hlk hnm hn0 X eT N
  obtain ⟨T', X', e', st'⟩ := castY X hx hZ hown w eT F (g := mkF m pc Ls (.ref a :: st)) rfl rfl (hb hby hd)
  exact (k p e s m args below meth c T' locs hx hZ hby hml hown hret hlk hnm hn0 X' e' N).step st'
theorem W.instYes {i : Nat} {K : String} {a : Addr} (n : Nat) (hd : decode bytes pc = .ok (.instanceof i, 3)) (hn : pc + 3 = n) (w : (Jvm.Cond.classLink own i K).before a0 Z = true) (F : Ins Z h a K true) (k : WG FE l R Z own nm bytes maxL ret n0 P h cells slots n Ls (.int 1 :: st)) : WG FE l R Z own nm bytes maxL ret n0 P h cells slots pc Ls (.ref a :: st) := by
  subst hn
  intro p e s m args below meth c T locs hx hZ hby hml hown hret hlk hnm hn0 X eT N
  obtain ⟨T', X', e', st'⟩ := instY X hx hZ hown w eT F (g := mkF m pc Ls (.ref a :: st)) rfl rfl (hb hby hd)
  exact (k p e s m args below meth c T' locs hx hZ hby hml hown hret hlk hnm hn0 X' e' N).step st'
theorem W.instNo {i : Nat} {K C : String} {a : Addr} (n : Nat) (hd : decode bytes pc = .ok (.instanceof i, 3)) (hn : pc + 3 = n) (w : (Jvm.Cond.classLink own i K).before a0 Z = true) (E : Exa Z h a C) (F : ∃ c t, Z.vm.findClass C = some c ∧ Z.vm.findClass K = some t ∧ Z.vm.assignable c t = false) (k : WG FE l R Z own nm bytes maxL ret n0 P h cells slots n Ls (.int 0 :: st)) : WG FE l R Z own nm bytes maxL ret n0 P h cells slots pc Ls (.ref a :: st) := by
  subst hn
  intro p e s m args below meth c T locs hx hZ hby hml hown hret hlk hnm hn0 X eT N
  obtain ⟨T', X', e', st'⟩ := RoadKit.instNo X hx hZ hown w eT E F (g := mkF m pc Ls (.ref a :: st)) rfl rfl (hb hby hd)
  exact (k p e s m args below meth c T' locs hx hZ hby hml hown hret hlk hnm hn0 X' e' N).step st'
theorem W.instNull {i : Nat} (n : Nat) (hd : decode bytes pc = .ok (.instanceof i, 3)) (hn : pc + 3 = n) (k : WG FE l R Z own nm bytes maxL ret n0 P h cells slots n Ls (.int 0 :: st)) : WG FE l R Z own nm bytes maxL ret n0 P h cells slots pc Ls (.null :: st) := by
  subst hn
  exact k.step fun p e s m args below meth c T locs hx hZ hby hown X eT t q => X.instanceofNull hx (g := mkF m pc Ls (.null :: st)) rfl rfl (hb hby hd) t q
theorem ary_us {vs : List Value} {d : Value} (i k : Nat) (hs : i + k ≤ vs.length) : (List.range k).map (fun j => vs.getD (i + j) d) = (vs.drop i).take k := by
  apply List.ext_getElem?
  intro j
  by_cases hj : j < k
  · simp [hj, List.getD_eq_getElem?_getD, List.getElem?_eq_getElem (show i + j < vs.length by omega)]
  · simp [hj]; omega
theorem W.arraycopy {i : Nat} {a b : Addr} {ty : FieldType} {vs vd : List Value} {sp dp nn : Int32} (n : Nat) (hd : decode bytes pc = .ok (.invokestatic i, 3)) (hn : pc + 3 = n) (w1 : (Jvm.Cond.methodLink own i Jvm.Stand.acN).before a0 Z = true) (w2 : (Jvm.Cond.native Jvm.Stand.acN).before a0 Z = true) (w3 : (Jvm.Cond.static Jvm.Stand.acN).before a0 Z = true) (w4 : (Jvm.Cond.initialized "java/lang/System").before a0 Z = true)
    (A : Ary Z h a ty vs) (B : Ary Z h b ty vd) (hk : refKind ty = false) (si di ni : Nat) (h1 : sp.toNatClampNeg = si) (h1' : ¬ sp < 0) (h2 : dp.toNatClampNeg = di) (h2' : ¬ dp < 0) (h3 : nn.toNatClampNeg = ni) (h3' : ¬ nn < 0) (hs : si + ni ≤ vs.length) (hdl : di + ni ≤ vd.length) (ge : n0 ≤ b) (hsz : Ls.size = maxL) (hf : 1 ≤ R.frames) (W0 : Nat) (hW : (st.map fun v => v.category).sum ≤ W0) (hl : W0 + (nativeFrameWords "java/lang/System" "arraycopy" 5 + 11) ≤ R.locals)
    (k : ∀ h', Keep h h' [b] → Ary Z h' b ty (vd.take di ++ (vs.drop si).take ni ++ vd.drop (di + ni)) → WG FE l R Z own nm bytes maxL ret n0 P h' cells slots n Ls st) : WG FE l R Z own nm bytes maxL ret n0 P h cells slots pc Ls (.int nn :: .int dp :: .ref b :: .int sp :: .ref a :: st) := by
  subst hn h1 h2 h3
  intro p e s m args below meth c T locs hx hZ hby hml hown hret hlk hnm hn0 X eT N
  have za : vs.length.toInt32.toNatClampNeg = vs.length := by
    have S : vs.length < 2 ^ 31 := by obtain ⟨_, _, _, _, S⟩ := A; exact S
    have hz : (vs.length.toInt32).toInt = vs.length := Int32.toInt_ofNat_small S
    simp only [Int32.toNatClampNeg]; rw [hz]; simp
  have zb : vd.length.toInt32.toNatClampNeg = vd.length := by
    have S : vd.length < 2 ^ 31 := by obtain ⟨_, _, _, _, S⟩ := B; exact S
    have hz : (vd.length.toInt32).toInt = vd.length := Int32.toInt_ofNat_small S
    simp only [Int32.toNatClampNeg]; rw [hz]; simp
  obtain ⟨ka, A'⟩ := A.arv .null
  obtain ⟨kb, B'⟩ := B.arv .null
  obtain ⟨T', h', L', X', e', N', K', C', st'⟩ := cpA X hx hZ hown w1 w2 w3 w4 eT A' B' (Or.inl ⟨rfl, hk⟩) h1' h2' h3' (by rw [za]; exact hs) (by rw [zb]; exact hdl) rfl hdl N ge (g := mkF m pc Ls (.int nn :: .int dp :: .ref b :: .int sp :: .ref a :: st)) rfl (by rw [hml]; exact hsz) rfl (hb hby hd) hf (W := W0) (by show 2 * 0 + _ ≤ _; omega) hl
  rw [ary_us _ _ hs] at C'
  have hlen : vd.length.toInt32.toNatClampNeg = (vd.take dp.toNatClampNeg ++ (vs.drop sp.toNatClampNeg).take nn.toNatClampNeg ++ vd.drop (dp.toNatClampNeg + nn.toNatClampNeg)).length := by
    rw [zb]; simp only [List.length_append, List.length_take, List.length_drop]; omega
  exact (k h' K' (Ary.of_arv C' hlen) p e s m args below meth c T' L' hx hZ hby hml hown hret hlk hnm hn0 X' e' N').step st'
theorem W.cloneArr {i : Nat} {a : Addr} {ty : FieldType} {vs : List Value} {ad : String} (n : Nat) (hd : decode bytes pc = .ok (.invokevirtual i, 3)) (hn : pc + 3 = n) (w1 : (Jvm.Cond.methodLink own i ⟨ad, "clone", "()Ljava/lang/Object;"⟩).before a0 Z = true) (w2 : (Jvm.Cond.sameMethod ad "java/lang/Object" "clone" "()Ljava/lang/Object;").before a0 Z = true) (w3 : (Jvm.Cond.native ⟨"java/lang/Object", "clone", "()Ljava/lang/Object;"⟩).before a0 Z = true)
    (w4 : (Jvm.Cond.instanceMethod ⟨"java/lang/Object", "clone", "()Ljava/lang/Object;"⟩).before a0 Z = true) (w5 : (Jvm.Cond.selects ad ⟨ad, "clone", "()Ljava/lang/Object;"⟩ ⟨"java/lang/Object", "clone", "()Ljava/lang/Object;"⟩).before a0 Z = true) (w6 : (Jvm.Cond.castable ad "java/lang/Cloneable").before a0 Z = true)
    (A : Ary Z h a ty vs) (E : Exa Z h a ad) (hsz : Ls.size = maxL) (hf : 1 ≤ R.frames) (W0 cap : Nat) (hW : (st.map fun v => v.category).sum ≤ W0) (hl : W0 + 14 ≤ R.locals) (hcap : vs.length ≤ cap) (hc : cells + 1 ≤ R.cells) (hs : slots + cap ≤ R.slots)
    (k : ∀ h' b, b = h.size → n0 ≤ b → Ext h h' → Keep h h' [] → Ary Z h' b ty vs → Exa Z h' b ad → WG FE l R Z own nm bytes maxL ret n0 P h' (cells + 1) (slots + cap) n Ls (.ref b :: st)) : WG FE l R Z own nm bytes maxL ret n0 P h cells slots pc Ls (.ref a :: st) := by
  subst hn
  intro p e s m args below meth c T locs hx hZ hby hml hown hret hlk hnm hn0 X eT N
  have za : vs.length.toInt32.toNatClampNeg = vs.length := by
    have S : vs.length < 2 ^ 31 := by obtain ⟨_, _, _, _, S⟩ := A; exact S
    have hz : (vs.length.toInt32).toInt = vs.length := Int32.toInt_ofNat_small S
    simp only [Int32.toNatClampNeg]; rw [hz]; simp
  obtain ⟨ka, A'⟩ := A.arv .null
  obtain ⟨T', h', X', e', E', B', C', st'⟩ := cloneH X hx hZ hown w1 w2 w3 w4 w5 w6 eT A'.arh E (g := mkF m pc Ls (.ref a :: st)) rfl (by rw [hml]; exact hsz) rfl (hb hby hd) hf (W := W0) (cap := cap) (by show 2 * 0 + _ ≤ _; omega) hl (by rw [za]; exact hcap) hc hs
  have hb0 : n0 ≤ h.size := Nat.le_trans hn0 (eT ▸ size_le X)
  exact (k h' h.size rfl hb0 E' (Keep.of_ext E') (Ary.of_arv (show Arv Z h' h.size ka ty vs.length.toInt32 vs .null from B') za) C' p e s m args below meth c T' _ hx hZ hby hml hown hret hlk hnm hn0 X' e' N).step st'
theorem W.ireturn {x : Int32} (hd : decode bytes pc = .ok (.ireturn, 1)) (hr : ret = some .int) (hp : P (some (.int x)) h) (hc : cells ≤ R.cells) (hs : slots ≤ R.slots) (hFE : ∀ {s : State} {o : Outcome} {t : State} {L : List Loc} {k n : Nat}, FrameEnd s o t L k n → FE s o t L k n := by first | exact fun q => q | exact fun q => RoadKit.wide q) : WG FE l R Z own nm bytes maxL ret n0 P h cells slots pc Ls (.int x :: st) := by
  intro p e s m args below meth c T locs hx hZ hby hml hown hret hlk hnm hn0 X eT N
  obtain ⟨fs, hr', hrun, hended, hW, hsame⟩ := X.leave (v := some (.int x)) (fun q => by rw [hret, hr] at q; cases q) hlk
  exact ⟨_, _, retOut X hx (t := .int) (i := .ireturn) (hret.trans hr) rfl (Or.inl ⟨rfl, Or.inl rfl, _, rfl⟩) (hb hby hd) hr', hrun, hended, _, _, rfl, ⟨by show P _ T.heap; rw [eT]; exact hp, N⟩, hFE ⟨⟨_, rfl⟩, hW, hsame.mono hc hs⟩⟩
theorem W.ireturnN {x : Int32} {t : FieldType} (hd : decode bytes pc = .ok (.ireturn, 1)) (hr : ret = some t) (ht : t = .boolean ∨ t = .byte ∨ t = .char ∨ t = .short) (x' : Int32) (hx' : nar t x = x') (hp : P (some (.int x')) h) (hc : cells ≤ R.cells) (hs : slots ≤ R.slots) (hFE : ∀ {s : State} {o : Outcome} {t : State} {L : List Loc} {k n : Nat}, FrameEnd s o t L k n → FE s o t L k n := by first | exact fun q => q | exact fun q => RoadKit.wide q) : WG FE l R Z own nm bytes maxL ret n0 P h cells slots pc Ls (.int x :: st) := by
  subst hx'
  intro p e s m args below meth c T locs hx hZ hby hml hown hret hlk hnm hn0 X eT N
  obtain ⟨fs, hr', hrun, hended, hW, hsame⟩ := X.leave (v := some (.int (nar t x))) (fun q => by rw [hret, hr] at q; cases q) hlk
  exact ⟨_, _, retN X hx (hret.trans hr) ht (hb hby hd) hr', hrun, hended, _, _, rfl, ⟨by show P _ T.heap; rw [eT]; exact hp, N⟩, hFE ⟨⟨_, rfl⟩, hW, hsame.mono hc hs⟩⟩
theorem W.lreturn {x : Int64} (hd : decode bytes pc = .ok (.lreturn, 1)) (hr : ret = some .long) (hp : P (some (.long x)) h) (hc : cells ≤ R.cells) (hs : slots ≤ R.slots) (hFE : ∀ {s : State} {o : Outcome} {t : State} {L : List Loc} {k n : Nat}, FrameEnd s o t L k n → FE s o t L k n := by first | exact fun q => q | exact fun q => RoadKit.wide q) : WG FE l R Z own nm bytes maxL ret n0 P h cells slots pc Ls (.long x :: st) := by
  intro p e s m args below meth c T locs hx hZ hby hml hown hret hlk hnm hn0 X eT N
  obtain ⟨fs, hr', hrun, hended, hW, hsame⟩ := X.leave (v := some (.long x)) (fun q => by rw [hret, hr] at q; cases q) hlk
  exact ⟨_, _, retOut X hx (t := .long) (i := .lreturn) (hret.trans hr) rfl (Or.inr (Or.inl ⟨rfl, rfl, _, rfl⟩)) (hb hby hd) hr', hrun, hended, _, _, rfl, ⟨by show P _ T.heap; rw [eT]; exact hp, N⟩, hFE ⟨⟨_, rfl⟩, hW, hsame.mono hc hs⟩⟩
theorem W.areturn {v : Value} {t : FieldType} (hd : decode bytes pc = .ok (.areturn, 1)) (hr : ret = some t) (ht : t.isReference = true) (hv : v.isRef = true) (hn : narrow t v = v) (hp : P (some v) h) (hc : cells ≤ R.cells) (hs : slots ≤ R.slots) (hFE : ∀ {s : State} {o : Outcome} {t : State} {L : List Loc} {k n : Nat}, FrameEnd s o t L k n → FE s o t L k n := by first | exact fun q => q | exact fun q => RoadKit.wide q) : WG FE l R Z own nm bytes maxL ret n0 P h cells slots pc Ls (v :: st) := by
  intro p e s m args below meth c T locs hx hZ hby hml hown hret hlk hnm hn0 X eT N
  obtain ⟨fs, hr', hrun, hended, hW, hsame⟩ := X.leave (v := some v) (fun q => by rw [hret, hr] at q; cases q) hlk
  exact ⟨_, _, retOut X hx (t := t) (i := .areturn) (hret.trans hr) hn (Or.inr (Or.inr (Or.inr (Or.inr ⟨rfl, ht, hv⟩)))) (hb hby hd) hr', hrun, hended, _, _, rfl, ⟨by show P _ T.heap; rw [eT]; exact hp, N⟩, hFE ⟨⟨_, rfl⟩, hW, hsame.mono hc hs⟩⟩
theorem W.return_ (hd : decode bytes pc = .ok (.return_, 1)) (hr : ret = none) (hp : P none h) (hc : cells ≤ R.cells) (hs : slots ≤ R.slots) (hFE : ∀ {s : State} {o : Outcome} {t : State} {L : List Loc} {k n : Nat}, FrameEnd s o t L k n → FE s o t L k n := by first | exact fun q => q | exact fun q => RoadKit.wide q) : WG FE l R Z own nm bytes maxL ret n0 P h cells slots pc Ls [] := by
  intro p e s m args below meth c T locs hx hZ hby hml hown hret hlk hnm hn0 X eT N
  obtain ⟨fs, hr', hrun, hended, hW, hsame⟩ := X.leave (v := none) (fun q => rfl) hlk
  exact ⟨_, _, X.returnOut hx (hret.trans hr) (hb hby hd) hr', hrun, hended, _, _, rfl, ⟨by show P _ T.heap; rw [eT]; exact hp, N⟩, hFE ⟨⟨_, rfl⟩, hW, hsame.mono hc hs⟩⟩
theorem WG.widen (k : W l R Z own nm bytes maxL ret n0 P h cells slots pc Ls st) : WG FEW l R Z own nm bytes maxL ret n0 P h cells slots pc Ls st := by
  intro p e s m args below meth c T locs hx hZ hby hml hown hret hlk hnm hn0 X eT N
  obtain ⟨s₂, o, h1, h2, h3, v, L, h4, h5, h6⟩ := k p e s m args below meth c T locs hx hZ hby hml hown hret hlk hnm hn0 X eT N
  exact ⟨s₂, o, h1, h2, h3, v, L, h4, h5, RoadKit.wide h6⟩
/-- a String constant that may be new: what comes behind it is walked with the narrow frame, and may not shrink the heap -/
theorem W.ldcS {i : Nat} {text : String} (n : Nat) (hd : decode bytes pc = .ok (.ldc i, 2)) (hn : pc + 2 = n) (w : (Jvm.Cond.stringLink own i text).before a0 Z = true) (wS : ∀ a ∈ Bundle.stringAtoms, a.before a0 Z = true) (sl : Nat) (hlen : 4 * text.toList.length ≤ sl) (hbig : sl ≤ 536870912) (hc : cells + 2 ≤ R.cells) (hs : slots + (sl + 4) ≤ R.slots)
    (k : ∀ h' a, Ext h h' → Keep h h' [] → W l R Z own nm bytes maxL ret n0 (fun v hf => P v hf ∧ h'.size ≤ hf.size) h' (cells + 2) (slots + (sl + 4)) n Ls (.ref a :: st)) : WG FEW l R Z own nm bytes maxL ret n0 P h cells slots pc Ls st := by
  subst hn
  intro p e s m args below meth c T locs hx hZ hby hml hown hret hlk hnm hn0 X eT N
  have hsame : s.setVm s.vm = s := rfl
  obtain ⟨a, T', h', k1, X', e', E', hS, hk1, hZ', hown', st'⟩ := RoadKit.ldcS (vm0 := s.vm) (s := s) X hx hZ hown w wS eT (k0 := h.size) ((State.WarmedH.refl s).since _) (Nat.le_refl _) (g := mkF m pc Ls st) rfl (hb hby hd) hlen hbig hc hs
  obtain ⟨s₂, o, h1, h2, h3, v, L, h4, h5, h6⟩ := k h' a E' (Keep.of_ext E') p e (s.setVm T'.vm) m args below meth c T' locs hx hZ' hby hml hown' hret hlk hnm hn0 X' e' N
  obtain ⟨q1, q2, q3⟩ := h6
  obtain ⟨w1, w2, w3⟩ := hS.ended q2 (Nat.le_trans hk1 h5.1.2) q3
  exact ⟨s₂, o, st' _ h1, h2, h3, v, L, h4, ⟨h5.1.1, h5.2⟩, q1, w1, w2, w3⟩
end Rules
end Jvm.Wk

namespace Jvm.Pilot.@@N@@
open Jvm Jvm.ClassFile Sem Op Lib Jvm.Free Jvm.Stand Jvm.LawKit Jvm.RoadKit Jvm.Wk Bundle Jvm.Pilot.@@N@@.Jvm.D
theorem d_jdk_29_method_65_0 : decode jdk_29_method_65_code 0 = .ok (.iload_n 0, 1) := by decide +kernel
theorem d_jdk_29_method_65_1 : decode jdk_29_method_65_code 1 = .ok (.iload_n 1, 1) := by decide +kernel
theorem d_jdk_29_method_65_2 : decode jdk_29_method_65_code 2 = .ok (.if_icmp .lt 7, 3) := by decide +kernel
theorem d_jdk_29_method_65_9 : decode jdk_29_method_65_code 9 = .ok (.iload_n 1, 1) := by decide +kernel
theorem d_jdk_29_method_65_10 : decode jdk_29_method_65_code 10 = .ok (.ireturn, 1) := by decide +kernel
theorem d_jdk_29_method_65_5 : decode jdk_29_method_65_code 5 = .ok (.iload_n 0, 1) := by decide +kernel
theorem d_jdk_29_method_65_6 : decode jdk_29_method_65_code 6 = .ok (.goto 4, 3) := by decide +kernel
theorem d_prog_72_method_8_0 : decode prog_72_method_8_code 0 = .ok (.iload_n 0, 1) := by decide +kernel
theorem d_prog_72_method_8_1 : decode prog_72_method_8_code 1 = .ok (.iconst 0, 1) := by decide +kernel
theorem d_prog_72_method_8_2 : decode prog_72_method_8_code 2 = .ok (.invokestatic 52, 3) := by decide +kernel
theorem wd_27 {Z : State} {a0 : Array Value} (hw : ∀ d ∈ tables_1, d.before a0 Z = true) : (Jvm.Cond.methodLink "com/example/tallymark/tallymark/LogDating" (52 : Nat) ({ cls := "java/lang/Math", name := "max", desc := "(II)I" } : Jvm.MethodName)).before a0 Z = true := hw _ (List.mem_of_getElem? (i := 27) rfl)
theorem wd_30 {Z : State} {a0 : Array Value} (hw : ∀ d ∈ tables_1, d.before a0 Z = true) : (Jvm.Cond.code ({ cls := "java/lang/Math", name := "max", desc := "(II)I" } : Jvm.MethodName) jdk_29_method_65_code (2 : Nat) (Option.some Jvm.ClassFile.FieldType.int)).before a0 Z = true := hw _ (List.mem_of_getElem? (i := 30) rfl)
theorem pd_0 : parseMethodDescriptor "(II)I" = some ⟨[.int, .int], some .int⟩ := by decide +kernel
theorem wd_28 {Z : State} {a0 : Array Value} (hw : ∀ d ∈ tables_1, d.before a0 Z = true) : (Jvm.Cond.static ({ cls := "java/lang/Math", name := "max", desc := "(II)I" } : Jvm.MethodName)).before a0 Z = true := hw _ (List.mem_of_getElem? (i := 28) rfl)
theorem wd_29 {Z : State} {a0 : Array Value} (hw : ∀ d ∈ tables_1, d.before a0 Z = true) : (Jvm.Cond.initialized "java/lang/Math").before a0 Z = true := hw _ (List.mem_of_getElem? (i := 29) rfl)
theorem d_prog_72_method_8_5 : decode prog_72_method_8_code 5 = .ok (.ireturn, 1) := by decide +kernel
theorem pn_0 : plainName "com/example/tallymark/tallymark/LogDating" = true := by first | (simp [plainName, overriddenIn]; done) | decide +kernel
theorem d_prog_72_method_1_0 : decode prog_72_method_1_code 0 = .ok (.aload_n 0, 1) := by decide +kernel
theorem d_prog_72_method_1_1 : decode prog_72_method_1_code 1 = .ok (.invokespecial 1, 3) := by decide +kernel
theorem wd_10 {Z : State} {a0 : Array Value} (hw : ∀ d ∈ tables_1, d.before a0 Z = true) : (Jvm.Cond.methodLink "com/example/tallymark/tallymark/LogDating" (1 : Nat) ({ cls := "java/lang/Object", name := "<init>", desc := "()V" } : Jvm.MethodName)).before a0 Z = true := hw _ (List.mem_of_getElem? (i := 10) rfl)
theorem wd_12 {Z : State} {a0 : Array Value} (hw : ∀ d ∈ tables_1, d.before a0 Z = true) : (Jvm.Cond.code ({ cls := "java/lang/Object", name := "<init>", desc := "()V" } : Jvm.MethodName) object_method_1_code (1 : Nat) (Option.none : Option Jvm.ClassFile.FieldType)).before a0 Z = true := hw _ (List.mem_of_getElem? (i := 12) rfl)
theorem wd_11 {Z : State} {a0 : Array Value} (hw : ∀ d ∈ tables_1, d.before a0 Z = true) : (Jvm.Cond.instanceMethod ({ cls := "java/lang/Object", name := "<init>", desc := "()V" } : Jvm.MethodName)).before a0 Z = true := hw _ (List.mem_of_getElem? (i := 11) rfl)
theorem d_prog_72_method_1_4 : decode prog_72_method_1_code 4 = .ok (.aload_n 0, 1) := by decide +kernel
theorem d_prog_72_method_1_5 : decode prog_72_method_1_code 5 = .ok (.ldc2_w 9, 3) := by decide +kernel
theorem wd_13 {Z : State} {a0 : Array Value} (hw : ∀ d ∈ tables_1, d.before a0 Z = true) : (Jvm.Cond.constantLong "com/example/tallymark/tallymark/LogDating" (9 : Nat) (-9223372036854775808 : Int64)).before a0 Z = true := hw _ (List.mem_of_getElem? (i := 13) rfl)
theorem d_prog_72_method_1_8 : decode prog_72_method_1_code 8 = .ok (.putfield 11, 3) := by decide +kernel
theorem wd_14 {Z : State} {a0 : Array Value} (hw : ∀ d ∈ tables_1, d.before a0 Z = true) : (Jvm.Cond.fieldLink "com/example/tallymark/tallymark/LogDating" (11 : Nat) "com/example/tallymark/tallymark/LogDating" "day" "J").before a0 Z = true := hw _ (List.mem_of_getElem? (i := 14) rfl)
theorem wd_15 {Z : State} {a0 : Array Value} (hw : ∀ d ∈ tables_1, d.before a0 Z = true) : (Jvm.Cond.lays "com/example/tallymark/tallymark/LogDating" "com/example/tallymark/tallymark/LogDating" "day" "J").before a0 Z = true := hw _ (List.mem_of_getElem? (i := 15) rfl)
theorem wd_5 {Z : State} {a0 : Array Value} (hw : ∀ d ∈ tables_1, d.before a0 Z = true) : (Jvm.Cond.instantiable "com/example/tallymark/tallymark/LogDating" (5 : Nat)).before a0 Z = true := hw _ (List.mem_of_getElem? (i := 5) rfl)
theorem d_prog_72_method_1_11 : decode prog_72_method_1_code 11 = .ok (.return_, 1) := by decide +kernel
theorem wd_23 {Z : State} {a0 : Array Value} (hw : ∀ d ∈ tables_1, d.before a0 Z = true) : (Jvm.Cond.lays "com/example/tallymark/tallymark/LogDating" "com/example/tallymark/tallymark/LogDating" "stamped" "J").before a0 Z = true := hw _ (List.mem_of_getElem? (i := 23) rfl)
theorem sne_0 {Z : State} {a0 : Array Value} (hw : ∀ d ∈ tables_1, d.before a0 Z = true) : RoadKit.slotOf Z "com/example/tallymark/tallymark/LogDating" "stamped" "J" ≠ RoadKit.slotOf Z "com/example/tallymark/tallymark/LogDating" "day" "J" := slot_ne (C := "com/example/tallymark/tallymark/LogDating") (Or.inl (wd_23 hw)) (Or.inl (wd_15 hw)) (by decide) (t := .long) (t' := .long) (by decide) (by decide)
theorem wd_32 {Z : State} {a0 : Array Value} (hw : ∀ d ∈ tables_1, d.before a0 Z = true) : (Jvm.Cond.lays "com/example/tallymark/tallymark/LogDating" "com/example/tallymark/tallymark/LogDating" "previous" "I").before a0 Z = true := hw _ (List.mem_of_getElem? (i := 32) rfl)
theorem sne_1 {Z : State} {a0 : Array Value} (hw : ∀ d ∈ tables_1, d.before a0 Z = true) : RoadKit.slotOf Z "com/example/tallymark/tallymark/LogDating" "previous" "I" ≠ RoadKit.slotOf Z "com/example/tallymark/tallymark/LogDating" "day" "J" := slot_ne (C := "com/example/tallymark/tallymark/LogDating") (Or.inl (wd_32 hw)) (Or.inl (wd_15 hw)) (by decide) (t := .int) (t' := .long) (by decide) (by decide)
theorem wd_59 {Z : State} {a0 : Array Value} (hw : ∀ d ∈ tables_1, d.before a0 Z = true) : (Jvm.Cond.lays "com/example/tallymark/tallymark/LogDating" "com/example/tallymark/tallymark/LogDating" "unusableFile" "Ljava/lang/String;").before a0 Z = true := hw _ (List.mem_of_getElem? (i := 59) rfl)
theorem sne_2 {Z : State} {a0 : Array Value} (hw : ∀ d ∈ tables_1, d.before a0 Z = true) : RoadKit.slotOf Z "com/example/tallymark/tallymark/LogDating" "unusableFile" "Ljava/lang/String;" ≠ RoadKit.slotOf Z "com/example/tallymark/tallymark/LogDating" "day" "J" := slot_ne (C := "com/example/tallymark/tallymark/LogDating") (Or.inl (wd_59 hw)) (Or.inl (wd_15 hw)) (by decide) (t := (.object "java/lang/String")) (t' := .long) (by decide) (by decide)
theorem wd_61 {Z : State} {a0 : Array Value} (hw : ∀ d ∈ tables_1, d.before a0 Z = true) : (Jvm.Cond.lays "com/example/tallymark/tallymark/LogDating" "com/example/tallymark/tallymark/LogDating" "unusable" "J").before a0 Z = true := hw _ (List.mem_of_getElem? (i := 61) rfl)
theorem sne_3 {Z : State} {a0 : Array Value} (hw : ∀ d ∈ tables_1, d.before a0 Z = true) : RoadKit.slotOf Z "com/example/tallymark/tallymark/LogDating" "unusable" "J" ≠ RoadKit.slotOf Z "com/example/tallymark/tallymark/LogDating" "day" "J" := slot_ne (C := "com/example/tallymark/tallymark/LogDating") (Or.inl (wd_61 hw)) (Or.inl (wd_15 hw)) (by decide) (t := .long) (t' := .long) (by decide) (by decide)
theorem d_prog_72_method_3_0 : decode prog_72_method_3_code 0 = .ok (.aload_n 0, 1) := by decide +kernel
theorem d_prog_72_method_3_1 : decode prog_72_method_3_code 1 = .ok (.lload_n 1, 1) := by decide +kernel
theorem d_prog_72_method_3_2 : decode prog_72_method_3_code 2 = .ok (.putfield 11, 3) := by decide +kernel
theorem d_prog_72_method_3_5 : decode prog_72_method_3_code 5 = .ok (.aload_n 0, 1) := by decide +kernel
theorem d_prog_72_method_3_6 : decode prog_72_method_3_code 6 = .ok (.lload_n 1, 1) := by decide +kernel
theorem d_prog_72_method_3_7 : decode prog_72_method_3_code 7 = .ok (.putfield 17, 3) := by decide +kernel
theorem wd_22 {Z : State} {a0 : Array Value} (hw : ∀ d ∈ tables_1, d.before a0 Z = true) : (Jvm.Cond.fieldLink "com/example/tallymark/tallymark/LogDating" (17 : Nat) "com/example/tallymark/tallymark/LogDating" "stamped" "J").before a0 Z = true := hw _ (List.mem_of_getElem? (i := 22) rfl)
theorem d_prog_72_method_3_10 : decode prog_72_method_3_code 10 = .ok (.aload_n 0, 1) := by decide +kernel
theorem d_prog_72_method_3_11 : decode prog_72_method_3_code 11 = .ok (.iload_n 3, 1) := by decide +kernel
theorem d_prog_72_method_3_12 : decode prog_72_method_3_code 12 = .ok (.invokestatic 31, 3) := by decide +kernel
theorem wd_24 {Z : State} {a0 : Array Value} (hw : ∀ d ∈ tables_1, d.before a0 Z = true) : (Jvm.Cond.methodLink "com/example/tallymark/tallymark/LogDating" (31 : Nat) ({ cls := "com/example/tallymark/tallymark/LogDating", name := "startOf", desc := "(I)I" } : Jvm.MethodName)).before a0 Z = true := hw _ (List.mem_of_getElem? (i := 24) rfl)
theorem wd_26 {Z : State} {a0 : Array Value} (hw : ∀ d ∈ tables_1, d.before a0 Z = true) : (Jvm.Cond.code ({ cls := "com/example/tallymark/tallymark/LogDating", name := "startOf", desc := "(I)I" } : Jvm.MethodName) prog_72_method_8_code (1 : Nat) (Option.some Jvm.ClassFile.FieldType.int)).before a0 Z = true := hw _ (List.mem_of_getElem? (i := 26) rfl)
theorem pd_1 : parseMethodDescriptor "(I)I" = some ⟨[.int], some .int⟩ := by decide +kernel
theorem wd_25 {Z : State} {a0 : Array Value} (hw : ∀ d ∈ tables_1, d.before a0 Z = true) : (Jvm.Cond.static ({ cls := "com/example/tallymark/tallymark/LogDating", name := "startOf", desc := "(I)I" } : Jvm.MethodName)).before a0 Z = true := hw _ (List.mem_of_getElem? (i := 25) rfl)
theorem wd_6 {Z : State} {a0 : Array Value} (hw : ∀ d ∈ tables_1, d.before a0 Z = true) : (Jvm.Cond.initialized "com/example/tallymark/tallymark/LogDating").before a0 Z = true := hw _ (List.mem_of_getElem? (i := 6) rfl)
theorem d_prog_72_method_3_15 : decode prog_72_method_3_code 15 = .ok (.putfield 20, 3) := by decide +kernel
theorem wd_31 {Z : State} {a0 : Array Value} (hw : ∀ d ∈ tables_1, d.before a0 Z = true) : (Jvm.Cond.fieldLink "com/example/tallymark/tallymark/LogDating" (20 : Nat) "com/example/tallymark/tallymark/LogDating" "previous" "I").before a0 Z = true := hw _ (List.mem_of_getElem? (i := 31) rfl)
theorem sne_4 {Z : State} {a0 : Array Value} (hw : ∀ d ∈ tables_1, d.before a0 Z = true) : RoadKit.slotOf Z "com/example/tallymark/tallymark/LogDating" "previous" "I" ≠ RoadKit.slotOf Z "com/example/tallymark/tallymark/LogDating" "stamped" "J" := slot_ne (C := "com/example/tallymark/tallymark/LogDating") (Or.inl (wd_32 hw)) (Or.inl (wd_23 hw)) (by decide) (t := .int) (t' := .long) (by decide) (by decide)
theorem d_prog_72_method_3_18 : decode prog_72_method_3_code 18 = .ok (.return_, 1) := by decide +kernel
theorem sne_5 {Z : State} {a0 : Array Value} (hw : ∀ d ∈ tables_1, d.before a0 Z = true) : RoadKit.slotOf Z "com/example/tallymark/tallymark/LogDating" "day" "J" ≠ RoadKit.slotOf Z "com/example/tallymark/tallymark/LogDating" "stamped" "J" := slot_ne (C := "com/example/tallymark/tallymark/LogDating") (Or.inl (wd_15 hw)) (Or.inl (wd_23 hw)) (by decide) (t := .long) (t' := .long) (by decide) (by decide)
theorem sne_6 {Z : State} {a0 : Array Value} (hw : ∀ d ∈ tables_1, d.before a0 Z = true) : RoadKit.slotOf Z "com/example/tallymark/tallymark/LogDating" "day" "J" ≠ RoadKit.slotOf Z "com/example/tallymark/tallymark/LogDating" "previous" "I" := slot_ne (C := "com/example/tallymark/tallymark/LogDating") (Or.inl (wd_15 hw)) (Or.inl (wd_32 hw)) (by decide) (t := .long) (t' := .int) (by decide) (by decide)
theorem sne_7 {Z : State} {a0 : Array Value} (hw : ∀ d ∈ tables_1, d.before a0 Z = true) : RoadKit.slotOf Z "com/example/tallymark/tallymark/LogDating" "stamped" "J" ≠ RoadKit.slotOf Z "com/example/tallymark/tallymark/LogDating" "previous" "I" := slot_ne (C := "com/example/tallymark/tallymark/LogDating") (Or.inl (wd_23 hw)) (Or.inl (wd_32 hw)) (by decide) (t := .long) (t' := .int) (by decide) (by decide)
theorem sne_8 {Z : State} {a0 : Array Value} (hw : ∀ d ∈ tables_1, d.before a0 Z = true) : RoadKit.slotOf Z "com/example/tallymark/tallymark/LogDating" "unusableFile" "Ljava/lang/String;" ≠ RoadKit.slotOf Z "com/example/tallymark/tallymark/LogDating" "stamped" "J" := slot_ne (C := "com/example/tallymark/tallymark/LogDating") (Or.inl (wd_59 hw)) (Or.inl (wd_23 hw)) (by decide) (t := (.object "java/lang/String")) (t' := .long) (by decide) (by decide)
theorem sne_9 {Z : State} {a0 : Array Value} (hw : ∀ d ∈ tables_1, d.before a0 Z = true) : RoadKit.slotOf Z "com/example/tallymark/tallymark/LogDating" "unusableFile" "Ljava/lang/String;" ≠ RoadKit.slotOf Z "com/example/tallymark/tallymark/LogDating" "previous" "I" := slot_ne (C := "com/example/tallymark/tallymark/LogDating") (Or.inl (wd_59 hw)) (Or.inl (wd_32 hw)) (by decide) (t := (.object "java/lang/String")) (t' := .int) (by decide) (by decide)
theorem sne_10 {Z : State} {a0 : Array Value} (hw : ∀ d ∈ tables_1, d.before a0 Z = true) : RoadKit.slotOf Z "com/example/tallymark/tallymark/LogDating" "unusable" "J" ≠ RoadKit.slotOf Z "com/example/tallymark/tallymark/LogDating" "stamped" "J" := slot_ne (C := "com/example/tallymark/tallymark/LogDating") (Or.inl (wd_61 hw)) (Or.inl (wd_23 hw)) (by decide) (t := .long) (t' := .long) (by decide) (by decide)
theorem sne_11 {Z : State} {a0 : Array Value} (hw : ∀ d ∈ tables_1, d.before a0 Z = true) : RoadKit.slotOf Z "com/example/tallymark/tallymark/LogDating" "unusable" "J" ≠ RoadKit.slotOf Z "com/example/tallymark/tallymark/LogDating" "previous" "I" := slot_ne (C := "com/example/tallymark/tallymark/LogDating") (Or.inl (wd_61 hw)) (Or.inl (wd_32 hw)) (by decide) (t := .long) (t' := .int) (by decide) (by decide)
theorem d_prog_72_method_5_0 : decode prog_72_method_5_code 0 = .ok (.aload_n 0, 1) := by decide +kernel
theorem d_prog_72_method_5_1 : decode prog_72_method_5_code 1 = .ok (.ldc2_w 9, 3) := by decide +kernel
theorem d_prog_72_method_5_4 : decode prog_72_method_5_code 4 = .ok (.putfield 11, 3) := by decide +kernel
theorem d_prog_72_method_5_7 : decode prog_72_method_5_code 7 = .ok (.aload_n 0, 1) := by decide +kernel
theorem d_prog_72_method_5_8 : decode prog_72_method_5_code 8 = .ok (.aload_n 1, 1) := by decide +kernel
theorem d_prog_72_method_5_9 : decode prog_72_method_5_code 9 = .ok (.putfield 24, 3) := by decide +kernel
theorem wd_58 {Z : State} {a0 : Array Value} (hw : ∀ d ∈ tables_1, d.before a0 Z = true) : (Jvm.Cond.fieldLink "com/example/tallymark/tallymark/LogDating" (24 : Nat) "com/example/tallymark/tallymark/LogDating" "unusableFile" "Ljava/lang/String;").before a0 Z = true := hw _ (List.mem_of_getElem? (i := 58) rfl)
theorem d_prog_72_method_5_12 : decode prog_72_method_5_code 12 = .ok (.aload_n 0, 1) := by decide +kernel
theorem d_prog_72_method_5_13 : decode prog_72_method_5_code 13 = .ok (.lload_n 2, 1) := by decide +kernel
theorem d_prog_72_method_5_14 : decode prog_72_method_5_code 14 = .ok (.putfield 28, 3) := by decide +kernel
theorem wd_60 {Z : State} {a0 : Array Value} (hw : ∀ d ∈ tables_1, d.before a0 Z = true) : (Jvm.Cond.fieldLink "com/example/tallymark/tallymark/LogDating" (28 : Nat) "com/example/tallymark/tallymark/LogDating" "unusable" "J").before a0 Z = true := hw _ (List.mem_of_getElem? (i := 60) rfl)
theorem sne_12 {Z : State} {a0 : Array Value} (hw : ∀ d ∈ tables_1, d.before a0 Z = true) : RoadKit.slotOf Z "com/example/tallymark/tallymark/LogDating" "unusable" "J" ≠ RoadKit.slotOf Z "com/example/tallymark/tallymark/LogDating" "unusableFile" "Ljava/lang/String;" := slot_ne (C := "com/example/tallymark/tallymark/LogDating") (Or.inl (wd_61 hw)) (Or.inl (wd_59 hw)) (by decide) (t := .long) (t' := (.object "java/lang/String")) (by decide) (by decide)
theorem d_prog_72_method_5_17 : decode prog_72_method_5_code 17 = .ok (.return_, 1) := by decide +kernel
theorem sne_13 {Z : State} {a0 : Array Value} (hw : ∀ d ∈ tables_1, d.before a0 Z = true) : RoadKit.slotOf Z "com/example/tallymark/tallymark/LogDating" "day" "J" ≠ RoadKit.slotOf Z "com/example/tallymark/tallymark/LogDating" "unusableFile" "Ljava/lang/String;" := slot_ne (C := "com/example/tallymark/tallymark/LogDating") (Or.inl (wd_15 hw)) (Or.inl (wd_59 hw)) (by decide) (t := .long) (t' := (.object "java/lang/String")) (by decide) (by decide)
theorem sne_14 {Z : State} {a0 : Array Value} (hw : ∀ d ∈ tables_1, d.before a0 Z = true) : RoadKit.slotOf Z "com/example/tallymark/tallymark/LogDating" "day" "J" ≠ RoadKit.slotOf Z "com/example/tallymark/tallymark/LogDating" "unusable" "J" := slot_ne (C := "com/example/tallymark/tallymark/LogDating") (Or.inl (wd_15 hw)) (Or.inl (wd_61 hw)) (by decide) (t := .long) (t' := .long) (by decide) (by decide)
theorem sne_15 {Z : State} {a0 : Array Value} (hw : ∀ d ∈ tables_1, d.before a0 Z = true) : RoadKit.slotOf Z "com/example/tallymark/tallymark/LogDating" "stamped" "J" ≠ RoadKit.slotOf Z "com/example/tallymark/tallymark/LogDating" "unusableFile" "Ljava/lang/String;" := slot_ne (C := "com/example/tallymark/tallymark/LogDating") (Or.inl (wd_23 hw)) (Or.inl (wd_59 hw)) (by decide) (t := .long) (t' := (.object "java/lang/String")) (by decide) (by decide)
theorem sne_16 {Z : State} {a0 : Array Value} (hw : ∀ d ∈ tables_1, d.before a0 Z = true) : RoadKit.slotOf Z "com/example/tallymark/tallymark/LogDating" "stamped" "J" ≠ RoadKit.slotOf Z "com/example/tallymark/tallymark/LogDating" "unusable" "J" := slot_ne (C := "com/example/tallymark/tallymark/LogDating") (Or.inl (wd_23 hw)) (Or.inl (wd_61 hw)) (by decide) (t := .long) (t' := .long) (by decide) (by decide)
theorem sne_17 {Z : State} {a0 : Array Value} (hw : ∀ d ∈ tables_1, d.before a0 Z = true) : RoadKit.slotOf Z "com/example/tallymark/tallymark/LogDating" "previous" "I" ≠ RoadKit.slotOf Z "com/example/tallymark/tallymark/LogDating" "unusableFile" "Ljava/lang/String;" := slot_ne (C := "com/example/tallymark/tallymark/LogDating") (Or.inl (wd_32 hw)) (Or.inl (wd_59 hw)) (by decide) (t := .int) (t' := (.object "java/lang/String")) (by decide) (by decide)
theorem sne_18 {Z : State} {a0 : Array Value} (hw : ∀ d ∈ tables_1, d.before a0 Z = true) : RoadKit.slotOf Z "com/example/tallymark/tallymark/LogDating" "previous" "I" ≠ RoadKit.slotOf Z "com/example/tallymark/tallymark/LogDating" "unusable" "J" := slot_ne (C := "com/example/tallymark/tallymark/LogDating") (Or.inl (wd_32 hw)) (Or.inl (wd_61 hw)) (by decide) (t := .int) (t' := .long) (by decide) (by decide)
theorem d_prog_72_method_6_0 : decode prog_72_method_6_code 0 = .ok (.aload_n 0, 1) := by decide +kernel
theorem d_prog_72_method_6_1 : decode prog_72_method_6_code 1 = .ok (.getfield 11, 3) := by decide +kernel
theorem d_prog_72_method_6_4 : decode prog_72_method_6_code 4 = .ok (.ldc2_w 9, 3) := by decide +kernel
theorem d_prog_72_method_6_7 : decode prog_72_method_6_code 7 = .ok (.lcmp, 1) := by decide +kernel
theorem d_prog_72_method_6_8 : decode prog_72_method_6_code 8 = .ok (.ifCond .ne 7, 3) := by decide +kernel
theorem d_prog_72_method_6_11 : decode prog_72_method_6_code 11 = .ok (.ldc2_w 9, 3) := by decide +kernel
theorem d_prog_72_method_6_14 : decode prog_72_method_6_code 14 = .ok (.lreturn, 1) := by decide +kernel
theorem d_prog_72_method_6_15 : decode prog_72_method_6_code 15 = .ok (.iload_n 1, 1) := by decide +kernel
theorem d_prog_72_method_6_16 : decode prog_72_method_6_code 16 = .ok (.aload_n 0, 1) := by decide +kernel
theorem d_prog_72_method_6_17 : decode prog_72_method_6_code 17 = .ok (.getfield 20, 3) := by decide +kernel
theorem d_prog_72_method_6_20 : decode prog_72_method_6_code 20 = .ok (.isub, 1) := by decide +kernel
theorem d_prog_72_method_6_21 : decode prog_72_method_6_code 21 = .ok (.istore_n 2, 1) := by decide +kernel
theorem d_prog_72_method_6_22 : decode prog_72_method_6_code 22 = .ok (.iload_n 2, 1) := by decide +kernel
theorem d_prog_72_method_6_23 : decode prog_72_method_6_code 23 = .ok (.ldc 39, 2) := by decide +kernel
theorem wd_39 {Z : State} {a0 : Array Value} (hw : ∀ d ∈ tables_1, d.before a0 Z = true) : (Jvm.Cond.constant "com/example/tallymark/tallymark/LogDating" (39 : Nat) (82800 : Int32)).before a0 Z = true := hw _ (List.mem_of_getElem? (i := 39) rfl)
theorem d_prog_72_method_6_25 : decode prog_72_method_6_code 25 = .ok (.if_icmp .lt 7, 3) := by decide +kernel
theorem d_prog_72_method_6_32 : decode prog_72_method_6_code 32 = .ok (.iconst 0, 1) := by decide +kernel
theorem d_prog_72_method_6_33 : decode prog_72_method_6_code 33 = .ok (.istore_n 3, 1) := by decide +kernel
theorem d_prog_72_method_6_34 : decode prog_72_method_6_code 34 = .ok (.iload_n 3, 1) := by decide +kernel
theorem d_prog_72_method_6_35 : decode prog_72_method_6_code 35 = .ok (.ifCond .eq 19, 3) := by decide +kernel
theorem d_prog_72_method_6_54 : decode prog_72_method_6_code 54 = .ok (.iconst 0, 1) := by decide +kernel
theorem d_prog_72_method_6_55 : decode prog_72_method_6_code 55 = .ok (.istore 4, 2) := by decide +kernel
theorem d_prog_72_method_6_57 : decode prog_72_method_6_code 57 = .ok (.iload_n 2, 1) := by decide +kernel
theorem d_prog_72_method_6_58 : decode prog_72_method_6_code 58 = .ok (.sipush (-3600), 3) := by decide +kernel
theorem d_prog_72_method_6_61 : decode prog_72_method_6_code 61 = .ok (.if_icmp .ge 16, 3) := by decide +kernel
theorem d_prog_72_method_6_77 : decode prog_72_method_6_code 77 = .ok (.iload_n 3, 1) := by decide +kernel
theorem d_prog_72_method_6_78 : decode prog_72_method_6_code 78 = .ok (.ifCond .eq 18, 3) := by decide +kernel
theorem d_prog_72_method_6_96 : decode prog_72_method_6_code 96 = .ok (.iload 4, 2) := by decide +kernel
theorem d_prog_72_method_6_98 : decode prog_72_method_6_code 98 = .ok (.ifCond .ne 8, 3) := by decide +kernel
theorem d_prog_72_method_6_101 : decode prog_72_method_6_code 101 = .ok (.aload_n 0, 1) := by decide +kernel
theorem d_prog_72_method_6_102 : decode prog_72_method_6_code 102 = .ok (.iload_n 1, 1) := by decide +kernel
theorem d_prog_72_method_6_103 : decode prog_72_method_6_code 103 = .ok (.putfield 20, 3) := by decide +kernel
theorem d_prog_72_method_6_106 : decode prog_72_method_6_code 106 = .ok (.aload_n 0, 1) := by decide +kernel
theorem d_prog_72_method_6_107 : decode prog_72_method_6_code 107 = .ok (.getfield 11, 3) := by decide +kernel
theorem d_prog_72_method_6_110 : decode prog_72_method_6_code 110 = .ok (.lreturn, 1) := by decide +kernel
theorem d_prog_72_method_6_64 : decode prog_72_method_6_code 64 = .ok (.aload_n 0, 1) := by decide +kernel
theorem d_prog_72_method_6_65 : decode prog_72_method_6_code 65 = .ok (.dup, 1) := by decide +kernel
theorem d_prog_72_method_6_66 : decode prog_72_method_6_code 66 = .ok (.getfield 11, 3) := by decide +kernel
theorem d_prog_72_method_6_69 : decode prog_72_method_6_code 69 = .ok (.lconst 1, 1) := by decide +kernel
theorem d_prog_72_method_6_70 : decode prog_72_method_6_code 70 = .ok (.ladd, 1) := by decide +kernel
theorem d_prog_72_method_6_71 : decode prog_72_method_6_code 71 = .ok (.putfield 11, 3) := by decide +kernel
theorem d_prog_72_method_6_74 : decode prog_72_method_6_code 74 = .ok (.goto 22, 3) := by decide +kernel
theorem d_prog_72_method_6_28 : decode prog_72_method_6_code 28 = .ok (.iconst 1, 1) := by decide +kernel
theorem d_prog_72_method_6_29 : decode prog_72_method_6_code 29 = .ok (.goto 4, 3) := by decide +kernel
theorem d_prog_72_method_6_38 : decode prog_72_method_6_code 38 = .ok (.aload_n 0, 1) := by decide +kernel
theorem d_prog_72_method_6_39 : decode prog_72_method_6_code 39 = .ok (.getfield 11, 3) := by decide +kernel
theorem d_prog_72_method_6_42 : decode prog_72_method_6_code 42 = .ok (.aload_n 0, 1) := by decide +kernel
theorem d_prog_72_method_6_43 : decode prog_72_method_6_code 43 = .ok (.getfield 17, 3) := by decide +kernel
theorem d_prog_72_method_6_46 : decode prog_72_method_6_code 46 = .ok (.lcmp, 1) := by decide +kernel
theorem d_prog_72_method_6_47 : decode prog_72_method_6_code 47 = .ok (.ifCond .ne 7, 3) := by decide +kernel
theorem d_prog_72_method_6_81 : decode prog_72_method_6_code 81 = .ok (.iload 4, 2) := by decide +kernel
theorem d_prog_72_method_6_83 : decode prog_72_method_6_code 83 = .ok (.ifCond .ne 13, 3) := by decide +kernel
theorem d_prog_72_method_6_86 : decode prog_72_method_6_code 86 = .ok (.aload_n 0, 1) := by decide +kernel
theorem d_prog_72_method_6_87 : decode prog_72_method_6_code 87 = .ok (.dup, 1) := by decide +kernel
theorem d_prog_72_method_6_88 : decode prog_72_method_6_code 88 = .ok (.getfield 11, 3) := by decide +kernel
theorem d_prog_72_method_6_91 : decode prog_72_method_6_code 91 = .ok (.lconst 1, 1) := by decide +kernel
theorem d_prog_72_method_6_92 : decode prog_72_method_6_code 92 = .ok (.lsub, 1) := by decide +kernel
theorem d_prog_72_method_6_93 : decode prog_72_method_6_code 93 = .ok (.putfield 11, 3) := by decide +kernel
theorem d_prog_72_method_6_50 : decode prog_72_method_6_code 50 = .ok (.iconst 1, 1) := by decide +kernel
theorem d_prog_72_method_6_51 : decode prog_72_method_6_code 51 = .ok (.goto 4, 3) := by decide +kernel
theorem d_method_3_0 : decode method_3_code 0 = .ok (.iload_n 1, 1) := by decide +kernel
theorem d_method_3_1 : decode method_3_code 1 = .ok (.ifCond .ne 7, 3) := by decide +kernel
theorem d_method_3_4 : decode method_3_code 4 = .ok (.ldc2_w 43, 3) := by decide +kernel
theorem wd_44 {Z : State} {a0 : Array Value} (hw : ∀ d ∈ tables_1, d.before a0 Z = true) : (Jvm.Cond.constantLong "com/example/tallymark/tallymark/LogDatingOfPinLaw" (43 : Nat) (-9223372036854775808 : Int64)).before a0 Z = true := hw _ (List.mem_of_getElem? (i := 44) rfl)
theorem d_method_3_7 : decode method_3_code 7 = .ok (.lreturn, 1) := by decide +kernel
theorem pn_1 : plainName "com/example/tallymark/tallymark/LogDatingOfPinLaw" = true := by first | (simp [plainName, overriddenIn]; done) | decide +kernel
theorem d_method_3_8 : decode method_3_code 8 = .ok (.aload_n 0, 1) := by decide +kernel
theorem d_method_3_9 : decode method_3_code 9 = .ok (.iconst 0, 1) := by decide +kernel
theorem d_method_3_10 : decode method_3_code 10 = .ok (.laload, 1) := by decide +kernel
theorem d_method_3_11 : decode method_3_code 11 = .ok (.lstore_n 3, 1) := by decide +kernel
theorem d_method_3_12 : decode method_3_code 12 = .ok (.aload_n 0, 1) := by decide +kernel
theorem d_method_3_13 : decode method_3_code 13 = .ok (.iconst 1, 1) := by decide +kernel
theorem d_method_3_14 : decode method_3_code 14 = .ok (.laload, 1) := by decide +kernel
theorem d_method_3_15 : decode method_3_code 15 = .ok (.l2i, 1) := by decide +kernel
theorem d_method_3_16 : decode method_3_code 16 = .ok (.istore 5, 2) := by decide +kernel
theorem d_method_3_18 : decode method_3_code 18 = .ok (.iload_n 2, 1) := by decide +kernel
theorem d_method_3_19 : decode method_3_code 19 = .ok (.ldc 11, 2) := by decide +kernel
theorem wd_3 {Z : State} {a0 : Array Value} (hw : ∀ d ∈ tables_1, d.before a0 Z = true) : (Jvm.Cond.constant "com/example/tallymark/tallymark/LogDatingOfPinLaw" (11 : Nat) (86400 : Int32)).before a0 Z = true := hw _ (List.mem_of_getElem? (i := 3) rfl)
theorem d_method_3_21 : decode method_3_code 21 = .ok (.isub, 1) := by decide +kernel
theorem d_method_3_22 : decode method_3_code 22 = .ok (.iload 5, 2) := by decide +kernel
theorem d_method_3_24 : decode method_3_code 24 = .ok (.isub, 1) := by decide +kernel
theorem d_method_3_25 : decode method_3_code 25 = .ok (.sipush (-3600), 3) := by decide +kernel
theorem d_method_3_28 : decode method_3_code 28 = .ok (.if_icmp .lt 11, 3) := by decide +kernel
theorem d_method_3_39 : decode method_3_code 39 = .ok (.iload_n 2, 1) := by decide +kernel
theorem d_method_3_40 : decode method_3_code 40 = .ok (.iload 5, 2) := by decide +kernel
theorem d_method_3_42 : decode method_3_code 42 = .ok (.isub, 1) := by decide +kernel
theorem d_method_3_43 : decode method_3_code 43 = .ok (.sipush (-3600), 3) := by decide +kernel
theorem d_method_3_46 : decode method_3_code 46 = .ok (.if_icmp .lt 9, 3) := by decide +kernel
theorem d_method_3_55 : decode method_3_code 55 = .ok (.lconst 1, 1) := by decide +kernel
theorem d_method_3_56 : decode method_3_code 56 = .ok (.lstore 6, 2) := by decide +kernel
theorem d_method_3_58 : decode method_3_code 58 = .ok (.lload_n 3, 1) := by decide +kernel
theorem d_method_3_59 : decode method_3_code 59 = .ok (.lload 6, 2) := by decide +kernel
theorem d_method_3_61 : decode method_3_code 61 = .ok (.ladd, 1) := by decide +kernel
theorem d_method_3_62 : decode method_3_code 62 = .ok (.aload_n 0, 1) := by decide +kernel
theorem d_method_3_63 : decode method_3_code 63 = .ok (.iconst 2, 1) := by decide +kernel
theorem d_method_3_64 : decode method_3_code 64 = .ok (.laload, 1) := by decide +kernel
theorem d_method_3_65 : decode method_3_code 65 = .ok (.lcmp, 1) := by decide +kernel
theorem d_method_3_66 : decode method_3_code 66 = .ok (.ifCond .ge 7, 3) := by decide +kernel
theorem d_method_3_73 : decode method_3_code 73 = .ok (.aload_n 0, 1) := by decide +kernel
theorem d_method_3_74 : decode method_3_code 74 = .ok (.iconst 0, 1) := by decide +kernel
theorem d_method_3_75 : decode method_3_code 75 = .ok (.lload_n 3, 1) := by decide +kernel
theorem d_method_3_76 : decode method_3_code 76 = .ok (.lload 6, 2) := by decide +kernel
theorem d_method_3_78 : decode method_3_code 78 = .ok (.ladd, 1) := by decide +kernel
theorem d_method_3_79 : decode method_3_code 79 = .ok (.lastore, 1) := by decide +kernel
theorem d_method_3_80 : decode method_3_code 80 = .ok (.aload_n 0, 1) := by decide +kernel
theorem d_method_3_81 : decode method_3_code 81 = .ok (.iconst 1, 1) := by decide +kernel
theorem d_method_3_82 : decode method_3_code 82 = .ok (.iload_n 2, 1) := by decide +kernel
theorem d_method_3_83 : decode method_3_code 83 = .ok (.i2l, 1) := by decide +kernel
theorem d_method_3_84 : decode method_3_code 84 = .ok (.lastore, 1) := by decide +kernel
theorem d_method_3_85 : decode method_3_code 85 = .ok (.lload_n 3, 1) := by decide +kernel
theorem d_method_3_86 : decode method_3_code 86 = .ok (.lload 6, 2) := by decide +kernel
theorem d_method_3_88 : decode method_3_code 88 = .ok (.ladd, 1) := by decide +kernel
theorem d_method_3_89 : decode method_3_code 89 = .ok (.lreturn, 1) := by decide +kernel
theorem d_method_3_49 : decode method_3_code 49 = .ok (.lconst 0, 1) := by decide +kernel
theorem d_method_3_50 : decode method_3_code 50 = .ok (.lstore 6, 2) := by decide +kernel
theorem d_method_3_52 : decode method_3_code 52 = .ok (.goto 6, 3) := by decide +kernel
theorem d_method_3_31 : decode method_3_code 31 = .ok (.ldc2_w 45, 3) := by decide +kernel
theorem wd_62 {Z : State} {a0 : Array Value} (hw : ∀ d ∈ tables_1, d.before a0 Z = true) : (Jvm.Cond.constantLong "com/example/tallymark/tallymark/LogDatingOfPinLaw" (45 : Nat) (-1 : Int64)).before a0 Z = true := hw _ (List.mem_of_getElem? (i := 62) rfl)
theorem d_method_3_34 : decode method_3_code 34 = .ok (.lstore 6, 2) := by decide +kernel
theorem d_method_3_36 : decode method_3_code 36 = .ok (.goto 22, 3) := by decide +kernel
theorem d_method_3_69 : decode method_3_code 69 = .ok (.aload_n 0, 1) := by decide +kernel
theorem d_method_3_70 : decode method_3_code 70 = .ok (.iconst 2, 1) := by decide +kernel
theorem d_method_3_71 : decode method_3_code 71 = .ok (.laload, 1) := by decide +kernel
theorem d_method_3_72 : decode method_3_code 72 = .ok (.lreturn, 1) := by decide +kernel
theorem wd_34 {Z : State} {a0 : Array Value} (hw : ∀ d ∈ tables_1, d.before a0 Z = true) : (Jvm.Cond.methodLink "com/example/tallymark/tallymark/LogDatingOfPinLaw" (31 : Nat) ({ cls := "com/example/tallymark/tallymark/LogDating", name := "of", desc := "(I)J" } : Jvm.MethodName)).before a0 Z = true := hw _ (List.mem_of_getElem? (i := 34) rfl)
theorem wd_37 {Z : State} {a0 : Array Value} (hw : ∀ d ∈ tables_1, d.before a0 Z = true) : (Jvm.Cond.selects "com/example/tallymark/tallymark/LogDating" ({ cls := "com/example/tallymark/tallymark/LogDating", name := "of", desc := "(I)J" } : Jvm.MethodName) ({ cls := "com/example/tallymark/tallymark/LogDating", name := "of", desc := "(I)J" } : Jvm.MethodName)).before a0 Z = true := hw _ (List.mem_of_getElem? (i := 37) rfl)
theorem wd_38 {Z : State} {a0 : Array Value} (hw : ∀ d ∈ tables_1, d.before a0 Z = true) : (Jvm.Cond.code ({ cls := "com/example/tallymark/tallymark/LogDating", name := "of", desc := "(I)J" } : Jvm.MethodName) prog_72_method_6_code (5 : Nat) (Option.some Jvm.ClassFile.FieldType.long)).before a0 Z = true := hw _ (List.mem_of_getElem? (i := 38) rfl)
theorem pd_2 : parseMethodDescriptor "(I)J" = some ⟨[.int], some .long⟩ := by decide +kernel
theorem wd_35 {Z : State} {a0 : Array Value} (hw : ∀ d ∈ tables_1, d.before a0 Z = true) : (Jvm.Cond.declares ({ cls := "com/example/tallymark/tallymark/LogDating", name := "of", desc := "(I)J" } : Jvm.MethodName)).before a0 Z = true := hw _ (List.mem_of_getElem? (i := 35) rfl)
theorem wd_36 {Z : State} {a0 : Array Value} (hw : ∀ d ∈ tables_1, d.before a0 Z = true) : (Jvm.Cond.instanceMethod ({ cls := "com/example/tallymark/tallymark/LogDating", name := "of", desc := "(I)J" } : Jvm.MethodName)).before a0 Z = true := hw _ (List.mem_of_getElem? (i := 36) rfl)
theorem wd_40 {Z : State} {a0 : Array Value} (hw : ∀ d ∈ tables_1, d.before a0 Z = true) : (Jvm.Cond.methodLink "com/example/tallymark/tallymark/LogDatingOfPinLaw" (35 : Nat) ({ cls := "com/example/tallymark/tallymark/LogDatingOfPinLaw", name := "expect", desc := "([JZI)J" } : Jvm.MethodName)).before a0 Z = true := hw _ (List.mem_of_getElem? (i := 40) rfl)
theorem wd_43 {Z : State} {a0 : Array Value} (hw : ∀ d ∈ tables_1, d.before a0 Z = true) : (Jvm.Cond.code ({ cls := "com/example/tallymark/tallymark/LogDatingOfPinLaw", name := "expect", desc := "([JZI)J" } : Jvm.MethodName) method_3_code (8 : Nat) (Option.some Jvm.ClassFile.FieldType.long)).before a0 Z = true := hw _ (List.mem_of_getElem? (i := 43) rfl)
theorem pd_3 : parseMethodDescriptor "([JZI)J" = some ⟨[(.array .long), .boolean, .int], some .long⟩ := by decide +kernel
theorem wd_41 {Z : State} {a0 : Array Value} (hw : ∀ d ∈ tables_1, d.before a0 Z = true) : (Jvm.Cond.static ({ cls := "com/example/tallymark/tallymark/LogDatingOfPinLaw", name := "expect", desc := "([JZI)J" } : Jvm.MethodName)).before a0 Z = true := hw _ (List.mem_of_getElem? (i := 41) rfl)
theorem wd_42 {Z : State} {a0 : Array Value} (hw : ∀ d ∈ tables_1, d.before a0 Z = true) : (Jvm.Cond.initialized "com/example/tallymark/tallymark/LogDatingOfPinLaw").before a0 Z = true := hw _ (List.mem_of_getElem? (i := 42) rfl)
theorem wd_46 {Z : State} {a0 : Array Value} (hw : ∀ d ∈ tables_1, d.before a0 Z = true) : (Jvm.Cond.initialized "java/lang/String").before a0 Z = true := hw _ (List.mem_of_getElem? (i := 46) rfl)
theorem wd_47 {Z : State} {a0 : Array Value} (hw : ∀ d ∈ tables_1, d.before a0 Z = true) : (Jvm.Cond.instantiable "java/lang/String" (4 : Nat)).before a0 Z = true := hw _ (List.mem_of_getElem? (i := 47) rfl)
theorem wd_48 {Z : State} {a0 : Array Value} (hw : ∀ d ∈ tables_1, d.before a0 Z = true) : (Jvm.Cond.arrayClass Jvm.ClassFile.FieldType.byte).before a0 Z = true := hw _ (List.mem_of_getElem? (i := 48) rfl)
theorem wd_49 {Z : State} {a0 : Array Value} (hw : ∀ d ∈ tables_1, d.before a0 Z = true) : (Jvm.Cond.laysFinal "java/lang/String" "java/lang/String" "value" "[B").before a0 Z = true := hw _ (List.mem_of_getElem? (i := 49) rfl)
theorem wd_50 {Z : State} {a0 : Array Value} (hw : ∀ d ∈ tables_1, d.before a0 Z = true) : (Jvm.Cond.laysFinal "java/lang/String" "java/lang/String" "coder" "B").before a0 Z = true := hw _ (List.mem_of_getElem? (i := 50) rfl)
theorem wd_51 {Z : State} {a0 : Array Value} (hw : ∀ d ∈ tables_1, d.before a0 Z = true) : (Jvm.Cond.soleField "java/lang/String" "value").before a0 Z = true := hw _ (List.mem_of_getElem? (i := 51) rfl)
theorem wd_52 {Z : State} {a0 : Array Value} (hw : ∀ d ∈ tables_1, d.before a0 Z = true) : (Jvm.Cond.soleField "java/lang/String" "coder").before a0 Z = true := hw _ (List.mem_of_getElem? (i := 52) rfl)
theorem wd_0 {Z : State} {a0 : Array Value} (hw : ∀ d ∈ tables_1, d.before a0 Z = true) : (Jvm.Cond.constantLong "com/example/tallymark/tallymark/LogDatingOfPinLaw" (7 : Nat) (1000000000 : Int64)).before a0 Z = true := hw _ (List.mem_of_getElem? (i := 0) rfl)
theorem wd_1 {Z : State} {a0 : Array Value} (hw : ∀ d ∈ tables_1, d.before a0 Z = true) : (Jvm.Cond.constant "com/example/tallymark/tallymark/LogDatingOfPinLaw" (9 : Nat) (2147483647 : Int32)).before a0 Z = true := hw _ (List.mem_of_getElem? (i := 1) rfl)
theorem wd_2 {Z : State} {a0 : Array Value} (hw : ∀ d ∈ tables_1, d.before a0 Z = true) : (Jvm.Cond.constant "com/example/tallymark/tallymark/LogDatingOfPinLaw" (10 : Nat) (86401 : Int32)).before a0 Z = true := hw _ (List.mem_of_getElem? (i := 2) rfl)
theorem wd_4 {Z : State} {a0 : Array Value} (hw : ∀ d ∈ tables_1, d.before a0 Z = true) : (Jvm.Cond.classLink "com/example/tallymark/tallymark/LogDatingOfPinLaw" (12 : Nat) "com/example/tallymark/tallymark/LogDating").before a0 Z = true := hw _ (List.mem_of_getElem? (i := 4) rfl)
theorem wd_7 {Z : State} {a0 : Array Value} (hw : ∀ d ∈ tables_1, d.before a0 Z = true) : (Jvm.Cond.methodLink "com/example/tallymark/tallymark/LogDatingOfPinLaw" (14 : Nat) ({ cls := "com/example/tallymark/tallymark/LogDating", name := "<init>", desc := "()V" } : Jvm.MethodName)).before a0 Z = true := hw _ (List.mem_of_getElem? (i := 7) rfl)
theorem wd_9 {Z : State} {a0 : Array Value} (hw : ∀ d ∈ tables_1, d.before a0 Z = true) : (Jvm.Cond.code ({ cls := "com/example/tallymark/tallymark/LogDating", name := "<init>", desc := "()V" } : Jvm.MethodName) prog_72_method_1_code (1 : Nat) (Option.none : Option Jvm.ClassFile.FieldType)).before a0 Z = true := hw _ (List.mem_of_getElem? (i := 9) rfl)
theorem pd_4 : parseMethodDescriptor "()V" = some ⟨[], none⟩ := by decide +kernel
theorem wd_8 {Z : State} {a0 : Array Value} (hw : ∀ d ∈ tables_1, d.before a0 Z = true) : (Jvm.Cond.instanceMethod ({ cls := "com/example/tallymark/tallymark/LogDating", name := "<init>", desc := "()V" } : Jvm.MethodName)).before a0 Z = true := hw _ (List.mem_of_getElem? (i := 8) rfl)
theorem wd_16 {Z : State} {a0 : Array Value} (hw : ∀ d ∈ tables_1, d.before a0 Z = true) : (Jvm.Cond.arrayClass Jvm.ClassFile.FieldType.long).before a0 Z = true := hw _ (List.mem_of_getElem? (i := 16) rfl)
theorem wd_45 {Z : State} {a0 : Array Value} (hw : ∀ d ∈ tables_1, d.before a0 Z = true) : (Jvm.Cond.stringLink "com/example/tallymark/tallymark/LogDatingOfPinLaw" (25 : Nat) "f").before a0 Z = true := hw _ (List.mem_of_getElem? (i := 45) rfl)
theorem wd_53 {Z : State} {a0 : Array Value} (hw : ∀ d ∈ tables_1, d.before a0 Z = true) : (Jvm.Cond.methodLink "com/example/tallymark/tallymark/LogDatingOfPinLaw" (27 : Nat) ({ cls := "com/example/tallymark/tallymark/LogDating", name := "unusable", desc := "(Ljava/lang/String;J)V" } : Jvm.MethodName)).before a0 Z = true := hw _ (List.mem_of_getElem? (i := 53) rfl)
theorem wd_56 {Z : State} {a0 : Array Value} (hw : ∀ d ∈ tables_1, d.before a0 Z = true) : (Jvm.Cond.selects "com/example/tallymark/tallymark/LogDating" ({ cls := "com/example/tallymark/tallymark/LogDating", name := "unusable", desc := "(Ljava/lang/String;J)V" } : Jvm.MethodName) ({ cls := "com/example/tallymark/tallymark/LogDating", name := "unusable", desc := "(Ljava/lang/String;J)V" } : Jvm.MethodName)).before a0 Z = true := hw _ (List.mem_of_getElem? (i := 56) rfl)
theorem wd_57 {Z : State} {a0 : Array Value} (hw : ∀ d ∈ tables_1, d.before a0 Z = true) : (Jvm.Cond.code ({ cls := "com/example/tallymark/tallymark/LogDating", name := "unusable", desc := "(Ljava/lang/String;J)V" } : Jvm.MethodName) prog_72_method_5_code (4 : Nat) (Option.none : Option Jvm.ClassFile.FieldType)).before a0 Z = true := hw _ (List.mem_of_getElem? (i := 57) rfl)
theorem pd_5 : parseMethodDescriptor "(Ljava/lang/String;J)V" = some ⟨[(.object "java/lang/String"), .long], none⟩ := by decide +kernel
theorem wd_54 {Z : State} {a0 : Array Value} (hw : ∀ d ∈ tables_1, d.before a0 Z = true) : (Jvm.Cond.declares ({ cls := "com/example/tallymark/tallymark/LogDating", name := "unusable", desc := "(Ljava/lang/String;J)V" } : Jvm.MethodName)).before a0 Z = true := hw _ (List.mem_of_getElem? (i := 54) rfl)
theorem wd_55 {Z : State} {a0 : Array Value} (hw : ∀ d ∈ tables_1, d.before a0 Z = true) : (Jvm.Cond.instanceMethod ({ cls := "com/example/tallymark/tallymark/LogDating", name := "unusable", desc := "(Ljava/lang/String;J)V" } : Jvm.MethodName)).before a0 Z = true := hw _ (List.mem_of_getElem? (i := 55) rfl)
theorem wd_17 {Z : State} {a0 : Array Value} (hw : ∀ d ∈ tables_1, d.before a0 Z = true) : (Jvm.Cond.methodLink "com/example/tallymark/tallymark/LogDatingOfPinLaw" (15 : Nat) ({ cls := "com/example/tallymark/tallymark/LogDating", name := "stamp", desc := "(JI)V" } : Jvm.MethodName)).before a0 Z = true := hw _ (List.mem_of_getElem? (i := 17) rfl)
theorem wd_20 {Z : State} {a0 : Array Value} (hw : ∀ d ∈ tables_1, d.before a0 Z = true) : (Jvm.Cond.selects "com/example/tallymark/tallymark/LogDating" ({ cls := "com/example/tallymark/tallymark/LogDating", name := "stamp", desc := "(JI)V" } : Jvm.MethodName) ({ cls := "com/example/tallymark/tallymark/LogDating", name := "stamp", desc := "(JI)V" } : Jvm.MethodName)).before a0 Z = true := hw _ (List.mem_of_getElem? (i := 20) rfl)
theorem wd_21 {Z : State} {a0 : Array Value} (hw : ∀ d ∈ tables_1, d.before a0 Z = true) : (Jvm.Cond.code ({ cls := "com/example/tallymark/tallymark/LogDating", name := "stamp", desc := "(JI)V" } : Jvm.MethodName) prog_72_method_3_code (4 : Nat) (Option.none : Option Jvm.ClassFile.FieldType)).before a0 Z = true := hw _ (List.mem_of_getElem? (i := 21) rfl)
theorem pd_6 : parseMethodDescriptor "(JI)V" = some ⟨[.long, .int], none⟩ := by decide +kernel
theorem wd_18 {Z : State} {a0 : Array Value} (hw : ∀ d ∈ tables_1, d.before a0 Z = true) : (Jvm.Cond.declares ({ cls := "com/example/tallymark/tallymark/LogDating", name := "stamp", desc := "(JI)V" } : Jvm.MethodName)).before a0 Z = true := hw _ (List.mem_of_getElem? (i := 18) rfl)
theorem wd_19 {Z : State} {a0 : Array Value} (hw : ∀ d ∈ tables_1, d.before a0 Z = true) : (Jvm.Cond.instanceMethod ({ cls := "com/example/tallymark/tallymark/LogDating", name := "stamp", desc := "(JI)V" } : Jvm.MethodName)).before a0 Z = true := hw _ (List.mem_of_getElem? (i := 19) rfl)
theorem wd_33 {Z : State} {a0 : Array Value} (hw : ∀ d ∈ tables_1, d.before a0 Z = true) : (Jvm.Cond.methodLink "com/example/tallymark/tallymark/LogDatingOfPinLaw" (19 : Nat) ({ cls := "java/lang/Math", name := "max", desc := "(II)I" } : Jvm.MethodName)).before a0 Z = true := hw _ (List.mem_of_getElem? (i := 33) rfl)
def own_max (x y : Int32) : Int32 := if x < y then y else x
theorem own_max_def (x y : Int32) : own_max x y = if x < y then y else x := rfl
/-- the day and the second after a line of the second x -/
def own_next (D : Int64) (p : Int32) (st : Int64) (x : Int32) : Int64 × Int32 := if x - p < -3600 then (D + 1, x) else if x - p < 82800 then (D, x) else if D = st then (D, p) else (D - 1, x)
theorem own_next_def (D : Int64) (p : Int32) (st : Int64) (x : Int32) : own_next D p st x = if x - p < -3600 then (D + 1, x) else if x - p < 82800 then (D, x) else if D = st then (D, p) else (D - 1, x) := rfl
def own_sec (x : Int32) : Prop := 0 ≤ x.toInt ∧ x.toInt < 86400
def own_inv (i : Int) (D : Int64) (p : Int32) (st : Int64) : Prop := st.toInt ≤ D.toInt ∧ D.toInt ≤ st.toInt + i ∧ -1000000000 < st.toInt ∧ st.toInt < 1000000000 ∧ own_sec p
theorem own_far {z : Int32} (h : ¬ z < 82800) : ¬ z < -3600 := by
  rw [Int32.lt_iff_toInt_lt] at h ⊢; have e1 : (82800 : Int32).toInt = 82800 := rfl; have e2 : (-3600 : Int32).toInt = -3600 := rfl; omega
theorem own_86 {x p : Int32} (hx : own_sec x) (hp : own_sec p) : ((x - 86400) - p < -3600) = (x - p < 82800) := by
  obtain ⟨a1, a2⟩ := hx; obtain ⟨b1, b2⟩ := hp
  have h1 := c_isub x 86400; have r1 := rng32 (x - 86400); have h2 := c_isub (x - 86400) p; have r2 := rng32 ((x - 86400) - p); have h3 := c_isub x p; have r3 := rng32 (x - p)
  have e0 : (86400 : Int32).toInt = 86400 := rfl; have e1 : (82800 : Int32).toInt = 82800 := rfl; have e2 : (-3600 : Int32).toInt = -3600 := rfl
  rw [Int32.lt_iff_toInt_lt, Int32.lt_iff_toInt_lt]; apply propext; omega
theorem own_l2 (p : Int32) : p.toInt64.toInt32 = p := by simp
theorem own_sub1 (D : Int64) : D + (-1) = D - 1 := by rw [Int64.sub_eq_add_neg]
theorem own_min {i : Int} {D : Int64} {p : Int32} {st : Int64} (h : own_inv i D p st) : ¬ D = (-9223372036854775808 : Int64) := by
  obtain ⟨h1, h2, h3, h4, -⟩ := h; intro q; rw [q] at h1; have e : (-9223372036854775808 : Int64).toInt = -9223372036854775808 := rfl; omega
theorem own_j1 {i : Int} {D : Int64} {p : Int32} {st : Int64} (h : own_inv i D p st) (hi : i ≤ 3) : (D + (-1) < st) = (D = st) := by
  obtain ⟨h1, h2, h3, h4, -⟩ := h; have a := c_ladd D (-1); have r := rng64 (D + (-1)); have e : (-1 : Int64).toInt = -1 := rfl
  rw [Int64.lt_iff_toInt_lt, ← Int64.toInt_inj]; apply propext; omega
theorem own_j0 {i : Int} {D : Int64} {p : Int32} {st : Int64} (h : own_inv i D p st) : ¬ (D + 0 < st) := by
  obtain ⟨h1, h2, h3, h4, -⟩ := h; rw [Int64.add_zero, Int64.lt_iff_toInt_lt]; omega
theorem own_j2 {i : Int} {D : Int64} {p : Int32} {st : Int64} (h : own_inv i D p st) (hi : i ≤ 3) : ¬ (D + 1 < st) := by
  obtain ⟨h1, h2, h3, h4, -⟩ := h; have a := c_ladd D 1; have r := rng64 (D + 1); have e : (1 : Int64).toInt = 1 := rfl
  rw [Int64.lt_iff_toInt_lt]; omega
theorem own_inv_next {i : Int} {D : Int64} {p : Int32} {st : Int64} {x : Int32} (h : own_inv i D p st) (h0 : 0 ≤ i) (hi : i ≤ 3) (hx : own_sec x) : own_inv (i + 1) (own_next D p st x).1 (own_next D p st x).2 st := by
  have h' := h
  obtain ⟨h1, h2, h3, h4, h5⟩ := h
  have a := c_ladd D 1; have r := rng64 (D + 1); have e : (1 : Int64).toInt = 1 := rfl; have b := c_lsub D 1; have r2 := rng64 (D - 1)
  rw [own_next_def]
  by_cases q1 : x - p < -3600
  · rw [if_pos q1]; exact ⟨by show _ ≤ (D + 1).toInt; omega, by show (D + 1).toInt ≤ _; omega, h3, h4, hx⟩
  · rw [if_neg q1]
    by_cases q2 : x - p < 82800
    · rw [if_pos q2]; exact ⟨h1, by show D.toInt ≤ _; omega, h3, h4, hx⟩
    · rw [if_neg q2]
      by_cases q3 : D = st
      · rw [if_pos q3]; exact ⟨h1, by show D.toInt ≤ _; omega, h3, h4, h5⟩
      · rw [if_neg q3]; have : D.toInt ≠ st.toInt := fun z => q3 (Int64.toInt_inj.mp z)
        exact ⟨by show _ ≤ (D - 1).toInt; omega, by show (D - 1).toInt ≤ _; omega, h3, h4, hx⟩
set_option maxRecDepth 65536 in
set_option maxHeartbeats 40000000 in
theorem c_max (l : Launch) (Z : State) (a0 : Array Value) (hw : ∀ d ∈ tables_1, d.before a0 Z = true) (x y : Int32) (h : Heap) (n0 : Nat) (hn : n0 ≤ h.size) : Con l Z (⟨"java/lang/Math", "max", "(II)I"⟩ : MethodName) jdk_29_method_65_code 2 (some .int) ({ frames := 0, cells := 0, slots := 0, locals := 0 } : Room) #[(.int x), (.int y)] h n0 (fun r h' => r = some (.int (own_max x y)) ∧ h' = h) := by
  refine ConG.of_W (Ls := #[.val (.int x), .val (.int y)]) (Jvm.Free.JP.mathPlain rfl (by decide +kernel)) hn (fun m => by first | (simp [entryFrame, mkF, argsToLocals, Value.category]; done) | rfl) ?_
  refine W.iloadN 1 d_jdk_29_method_65_0 rfl rfl ?_
  refine W.iloadN 2 d_jdk_29_method_65_1 rfl rfl ?_
  refine W.icmp_lt 9 5 d_jdk_29_method_65_2 rfl rfl ?_ ?_
  · intro hc1001
    refine W.iloadN 10 d_jdk_29_method_65_9 rfl rfl ?_
    exact W.ireturn d_jdk_29_method_65_10 rfl ⟨by rw [own_max_def]; simp [hc1001], rfl⟩ (by decide) (by decide)
  · intro hc1001
    refine W.iloadN 6 d_jdk_29_method_65_5 rfl rfl ?_
    refine W.goto 10 d_jdk_29_method_65_6 rfl ?_
    exact W.ireturn d_jdk_29_method_65_10 rfl ⟨by rw [own_max_def]; simp [hc1001], rfl⟩ (by decide) (by decide)
set_option maxRecDepth 65536 in
set_option maxHeartbeats 40000000 in
theorem c_so (l : Launch) (Z : State) (a0 : Array Value) (hw : ∀ d ∈ tables_1, d.before a0 Z = true) (x : Int32) (h : Heap) (n0 : Nat) (hn : n0 ≤ h.size) : Con l Z (⟨"com/example/tallymark/tallymark/LogDating", "startOf", "(I)I"⟩ : MethodName) prog_72_method_8_code 1 (some .int) ({ frames := 1, cells := 0, slots := 0, locals := 20 } : Room) #[(.int x)] h n0 (fun r h' => r = some (.int (own_max x (0 : Int32))) ∧ h' = h) := by
  refine ConG.of_W (Ls := #[.val (.int x)]) (plainFor_of_name pn_0) hn (fun m => by first | (simp [entryFrame, mkF, argsToLocals, Value.category]; done) | rfl) ?_
  refine W.iloadN 1 d_prog_72_method_8_0 rfl rfl ?_
  refine W.iconst 2 d_prog_72_method_8_1 rfl (0 : Int32) rfl ?_
  refine W.callS (rest := []) (argsL := [(.int x), (.int (0 : Int32))]) 5 d_prog_72_method_8_2 rfl (fun hn => c_max l Z a0 hw x (0 : Int32) _ n0 hn) (wd_27 hw) (wd_28 hw) (wd_29 hw) (wd_30 hw) (by decide) pd_0 rfl rfl rfl (by decide) 0 (Nat.le_of_ble_eq_true rfl) (by decide) (by decide) (by decide) ?_
  rintro v1002 h1002 ⟨rfl, rfl⟩
  show WG _ _ _ _ _ _ _ _ _ _ _ _ 0 0 5 #[.val (.int x)] [(.int (own_max x (0 : Int32)))]
  exact W.ireturn d_prog_72_method_8_5 rfl ⟨rfl, rfl⟩ (by decide) (by decide)
set_option maxRecDepth 65536 in
set_option maxHeartbeats 40000000 in
theorem c_in (l : Launch) (Z : State) (a0 : Array Value) (hw : ∀ d ∈ tables_1, d.before a0 Z = true) (a : Addr) (h : Heap) (n0 : Nat) (hn : n0 ≤ h.size) (ga : n0 ≤ a) (E : Exa Z h a "com/example/tallymark/tallymark/LogDating") (F1 : Fld Z h a "com/example/tallymark/tallymark/LogDating" "day" "J" (.long (0 : Int64))) (F2 : Fld Z h a "com/example/tallymark/tallymark/LogDating" "stamped" "J" (.long (0 : Int64))) (F3 : Fld Z h a "com/example/tallymark/tallymark/LogDating" "previous" "I" (.int (0 : Int32))) (F4 : Fld Z h a "com/example/tallymark/tallymark/LogDating" "unusableFile" "Ljava/lang/String;" .null) (F5 : Fld Z h a "com/example/tallymark/tallymark/LogDating" "unusable" "J" (.long (0 : Int64))) : Con l Z (⟨"com/example/tallymark/tallymark/LogDating", "<init>", "()V"⟩ : MethodName) prog_72_method_1_code 1 none ({ frames := 1, cells := 0, slots := 0, locals := 20 } : Room) #[(.ref a)] h n0 (fun r h' => r = none ∧ Exa Z h' a "com/example/tallymark/tallymark/LogDating" ∧ Fld Z h' a "com/example/tallymark/tallymark/LogDating" "day" "J" (.long (-9223372036854775808 : Int64)) ∧ Fld Z h' a "com/example/tallymark/tallymark/LogDating" "stamped" "J" (.long (0 : Int64)) ∧ Fld Z h' a "com/example/tallymark/tallymark/LogDating" "previous" "I" (.int (0 : Int32)) ∧ Keep h h' [a] ∧ Fld Z h' a "com/example/tallymark/tallymark/LogDating" "unusableFile" "Ljava/lang/String;" .null ∧ Fld Z h' a "com/example/tallymark/tallymark/LogDating" "unusable" "J" (.long (0 : Int64))) := by
  refine ConG.of_W (Ls := #[.val (.ref a)]) (plainFor_of_name pn_0) hn (fun m => by first | (simp [entryFrame, mkF, argsToLocals, Value.category]; done) | rfl) ?_
  refine W.aloadN 1 d_prog_72_method_1_0 rfl rfl rfl ?_
  refine W.initObj 4 d_prog_72_method_1_1 rfl (wd_10 hw) (wd_11 hw) (wd_12 hw) rfl (by decide) 0 (Nat.le_of_ble_eq_true rfl) (by decide) ?_
  refine W.aloadN 5 d_prog_72_method_1_4 rfl rfl rfl ?_
  refine W.ldc2J 8 d_prog_72_method_1_5 rfl (wd_13 hw) ?_
  refine W.putfield 11 d_prog_72_method_1_8 rfl (host := "") (Or.inl (wd_14 hw)) Via.refl F1 E (Or.inl (wd_15 hw)) (wd_5 hw) (ty := .long) (by decide) rfl rfl ga ?_
  intro h1003 W1003 F1003 E1003 K1003
  have kc1004 := Keep.trans (ws := [a]) (Keep.refl _ [a]) K1003 (allS (Or.inl (List.mem_of_getElem? (i := 0) rfl)) all0)
  have q1005 := (F2.other W1003 (Or.inr (sne_0 hw)))
  have q1006 := (F3.other W1003 (Or.inr (sne_1 hw)))
  have q1007 := (F4.other W1003 (Or.inr (sne_2 hw)))
  have q1008 := (F5.other W1003 (Or.inr (sne_3 hw)))
  exact W.return_ d_prog_72_method_1_11 rfl ⟨rfl, E1003, F1003, q1005, q1006, kc1004, q1007, q1008⟩ (by decide) (by decide)
set_option maxRecDepth 65536 in
set_option maxHeartbeats 40000000 in
theorem c_st (l : Launch) (Z : State) (a0 : Array Value) (hw : ∀ d ∈ tables_1, d.before a0 Z = true) (a : Addr) (d : Int64) (x : Int32) (h : Heap) (n0 : Nat) (hn : n0 ≤ h.size) (ga : n0 ≤ a) (E : Exa Z h a "com/example/tallymark/tallymark/LogDating") (F1 : Fld Z h a "com/example/tallymark/tallymark/LogDating" "day" "J" (.long (-9223372036854775808 : Int64))) (F2 : Fld Z h a "com/example/tallymark/tallymark/LogDating" "stamped" "J" (.long (0 : Int64))) (F3 : Fld Z h a "com/example/tallymark/tallymark/LogDating" "previous" "I" (.int (0 : Int32))) (F4 : Fld Z h a "com/example/tallymark/tallymark/LogDating" "unusableFile" "Ljava/lang/String;" .null) (F5 : Fld Z h a "com/example/tallymark/tallymark/LogDating" "unusable" "J" (.long (0 : Int64))) : Con l Z (⟨"com/example/tallymark/tallymark/LogDating", "stamp", "(JI)V"⟩ : MethodName) prog_72_method_3_code 4 none ({ frames := 2, cells := 0, slots := 0, locals := 50 } : Room) #[(.ref a), (.long d), (.int x)] h n0 (fun r h' => r = none ∧ Exa Z h' a "com/example/tallymark/tallymark/LogDating" ∧ Fld Z h' a "com/example/tallymark/tallymark/LogDating" "day" "J" (.long d) ∧ Fld Z h' a "com/example/tallymark/tallymark/LogDating" "stamped" "J" (.long d) ∧ Fld Z h' a "com/example/tallymark/tallymark/LogDating" "previous" "I" (.int (own_max x (0 : Int32))) ∧ Keep h h' [a] ∧ Fld Z h' a "com/example/tallymark/tallymark/LogDating" "unusableFile" "Ljava/lang/String;" .null ∧ Fld Z h' a "com/example/tallymark/tallymark/LogDating" "unusable" "J" (.long (0 : Int64))) := by
  refine ConG.of_W (Ls := #[.val (.ref a), .val (.long d), .second, .val (.int x)]) (plainFor_of_name pn_0) hn (fun m => by first | (simp [entryFrame, mkF, argsToLocals, Value.category]; done) | rfl) ?_
  refine W.aloadN 1 d_prog_72_method_3_0 rfl rfl rfl ?_
  refine W.lloadN 2 d_prog_72_method_3_1 rfl rfl ?_
  refine W.putfield 5 d_prog_72_method_3_2 rfl (host := "") (Or.inl (wd_14 hw)) Via.refl F1 E (Or.inl (wd_15 hw)) (wd_5 hw) (ty := .long) (by decide) rfl rfl ga ?_
  intro h1009 W1009 F1009 E1009 K1009
  have kc1010 := Keep.trans (ws := [a]) (Keep.refl _ [a]) K1009 (allS (Or.inl (List.mem_of_getElem? (i := 0) rfl)) all0)
  refine W.aloadN 6 d_prog_72_method_3_5 rfl rfl rfl ?_
  refine W.lloadN 7 d_prog_72_method_3_6 rfl rfl ?_
  have q1011 := (F2.other W1009 (Or.inr (sne_0 hw)))
  refine W.putfield 10 d_prog_72_method_3_7 rfl (host := "") (Or.inl (wd_22 hw)) Via.refl q1011 E1009 (Or.inl (wd_23 hw)) (wd_5 hw) (ty := .long) (by decide) rfl rfl ga ?_
  intro h1012 W1012 F1012 E1012 K1012
  have kc1013 := Keep.trans (ws := [a]) kc1010 K1012 (allS (Or.inl (List.mem_of_getElem? (i := 0) rfl)) all0)
  refine W.aloadN 11 d_prog_72_method_3_10 rfl rfl rfl ?_
  refine W.iloadN 12 d_prog_72_method_3_11 rfl rfl ?_
  refine W.callS (rest := [(.ref a)]) (argsL := [(.int x)]) 15 d_prog_72_method_3_12 rfl (fun hn => c_so l Z a0 hw x _ n0 hn) (wd_24 hw) (wd_25 hw) (wd_6 hw) (wd_26 hw) (by decide) pd_1 rfl rfl rfl (by decide) 1 (Nat.le_of_ble_eq_true rfl) (by decide) (by decide) (by decide) ?_
  rintro v1014 h1014 ⟨rfl, rfl⟩
  show WG _ _ _ _ _ _ _ _ _ _ _ _ 0 0 15 #[.val (.ref a), .val (.long d), .second, .val (.int x)] [(.int (own_max x (0 : Int32))), (.ref a)]
  have q1015 := ((F3.other W1009 (Or.inr (sne_1 hw))).other W1012 (Or.inr (sne_4 hw)))
  refine W.putfield 18 d_prog_72_method_3_15 rfl (host := "") (Or.inl (wd_31 hw)) Via.refl q1015 E1012 (Or.inl (wd_32 hw)) (wd_5 hw) (ty := .int) (by decide) rfl rfl ga ?_
  intro h1016 W1016 F1016 E1016 K1016
  have kc1017 := Keep.trans (ws := [a]) kc1013 K1016 (allS (Or.inl (List.mem_of_getElem? (i := 0) rfl)) all0)
  have q1018 := ((F1009.other W1012 (Or.inr (sne_5 hw))).other W1016 (Or.inr (sne_6 hw)))
  have q1019 := (F1012.other W1016 (Or.inr (sne_7 hw)))
  have q1020 := (((F4.other W1009 (Or.inr (sne_2 hw))).other W1012 (Or.inr (sne_8 hw))).other W1016 (Or.inr (sne_9 hw)))
  have q1021 := (((F5.other W1009 (Or.inr (sne_3 hw))).other W1012 (Or.inr (sne_10 hw))).other W1016 (Or.inr (sne_11 hw)))
  exact W.return_ d_prog_72_method_3_18 rfl ⟨rfl, E1016, q1018, q1019, F1016, kc1017, q1020, q1021⟩ (by decide) (by decide)
set_option maxRecDepth 65536 in
set_option maxHeartbeats 40000000 in
theorem c_un (l : Launch) (Z : State) (a0 : Array Value) (hw : ∀ d ∈ tables_1, d.before a0 Z = true) (a b : Addr) (d st u : Int64) (p : Int32) (h : Heap) (n0 : Nat) (hn : n0 ≤ h.size) (ga : n0 ≤ a) (E : Exa Z h a "com/example/tallymark/tallymark/LogDating") (F1 : Fld Z h a "com/example/tallymark/tallymark/LogDating" "day" "J" (.long d)) (F2 : Fld Z h a "com/example/tallymark/tallymark/LogDating" "stamped" "J" (.long st)) (F3 : Fld Z h a "com/example/tallymark/tallymark/LogDating" "previous" "I" (.int p)) (F4 : Fld Z h a "com/example/tallymark/tallymark/LogDating" "unusableFile" "Ljava/lang/String;" .null) (F5 : Fld Z h a "com/example/tallymark/tallymark/LogDating" "unusable" "J" (.long (0 : Int64))) : Con l Z (⟨"com/example/tallymark/tallymark/LogDating", "unusable", "(Ljava/lang/String;J)V"⟩ : MethodName) prog_72_method_5_code 4 none ({ frames := 0, cells := 0, slots := 0, locals := 0 } : Room) #[(.ref a), (.ref b), (.long u)] h n0 (fun r h' => r = none ∧ Exa Z h' a "com/example/tallymark/tallymark/LogDating" ∧ Fld Z h' a "com/example/tallymark/tallymark/LogDating" "day" "J" (.long (-9223372036854775808 : Int64)) ∧ Fld Z h' a "com/example/tallymark/tallymark/LogDating" "stamped" "J" (.long st) ∧ Fld Z h' a "com/example/tallymark/tallymark/LogDating" "previous" "I" (.int p) ∧ Keep h h' [a]) := by
  refine ConG.of_W (Ls := #[.val (.ref a), .val (.ref b), .val (.long u), .second]) (plainFor_of_name pn_0) hn (fun m => by first | (simp [entryFrame, mkF, argsToLocals, Value.category]; done) | rfl) ?_
  refine W.aloadN 1 d_prog_72_method_5_0 rfl rfl rfl ?_
  refine W.ldc2J 4 d_prog_72_method_5_1 rfl (wd_13 hw) ?_
  refine W.putfield 7 d_prog_72_method_5_4 rfl (host := "") (Or.inl (wd_14 hw)) Via.refl F1 E (Or.inl (wd_15 hw)) (wd_5 hw) (ty := .long) (by decide) rfl rfl ga ?_
  intro h1022 W1022 F1022 E1022 K1022
  have kc1023 := Keep.trans (ws := [a]) (Keep.refl _ [a]) K1022 (allS (Or.inl (List.mem_of_getElem? (i := 0) rfl)) all0)
  refine W.aloadN 8 d_prog_72_method_5_7 rfl rfl rfl ?_
  refine W.aloadN 9 d_prog_72_method_5_8 rfl rfl rfl ?_
  have q1024 := (F4.other W1022 (Or.inr (sne_2 hw)))
  refine W.putfield 12 d_prog_72_method_5_9 rfl (host := "") (Or.inl (wd_58 hw)) Via.refl q1024 E1022 (Or.inl (wd_59 hw)) (wd_5 hw) (ty := (.object "java/lang/String")) (by decide) rfl rfl ga ?_
  intro h1025 W1025 F1025 E1025 K1025
  have kc1026 := Keep.trans (ws := [a]) kc1023 K1025 (allS (Or.inl (List.mem_of_getElem? (i := 0) rfl)) all0)
  refine W.aloadN 13 d_prog_72_method_5_12 rfl rfl rfl ?_
  refine W.lloadN 14 d_prog_72_method_5_13 rfl rfl ?_
  have q1027 := ((F5.other W1022 (Or.inr (sne_3 hw))).other W1025 (Or.inr (sne_12 hw)))
  refine W.putfield 17 d_prog_72_method_5_14 rfl (host := "") (Or.inl (wd_60 hw)) Via.refl q1027 E1025 (Or.inl (wd_61 hw)) (wd_5 hw) (ty := .long) (by decide) rfl rfl ga ?_
  intro h1028 W1028 F1028 E1028 K1028
  have kc1029 := Keep.trans (ws := [a]) kc1026 K1028 (allS (Or.inl (List.mem_of_getElem? (i := 0) rfl)) all0)
  have q1030 := ((F1022.other W1025 (Or.inr (sne_13 hw))).other W1028 (Or.inr (sne_14 hw)))
  have q1031 := (((F2.other W1022 (Or.inr (sne_0 hw))).other W1025 (Or.inr (sne_15 hw))).other W1028 (Or.inr (sne_16 hw)))
  have q1032 := (((F3.other W1022 (Or.inr (sne_1 hw))).other W1025 (Or.inr (sne_17 hw))).other W1028 (Or.inr (sne_18 hw)))
  exact W.return_ d_prog_72_method_5_17 rfl ⟨rfl, E1028, q1030, q1031, q1032, kc1029⟩ (by decide) (by decide)
set_option maxRecDepth 65536 in
set_option maxHeartbeats 40000000 in
theorem c_ofN (l : Launch) (Z : State) (a0 : Array Value) (hw : ∀ d ∈ tables_1, d.before a0 Z = true) (a : Addr) (x : Int32) (st : Int64) (p : Int32) (h : Heap) (n0 : Nat) (hn : n0 ≤ h.size) (ga : n0 ≤ a) (E : Exa Z h a "com/example/tallymark/tallymark/LogDating") (F1 : Fld Z h a "com/example/tallymark/tallymark/LogDating" "day" "J" (.long (-9223372036854775808 : Int64))) (F2 : Fld Z h a "com/example/tallymark/tallymark/LogDating" "stamped" "J" (.long st)) (F3 : Fld Z h a "com/example/tallymark/tallymark/LogDating" "previous" "I" (.int p)) : Con l Z (⟨"com/example/tallymark/tallymark/LogDating", "of", "(I)J"⟩ : MethodName) prog_72_method_6_code 5 (some .long) ({ frames := 0, cells := 0, slots := 0, locals := 0 } : Room) #[(.ref a), (.int x)] h n0 (fun r h' => r = some (.long (-9223372036854775808 : Int64)) ∧ h' = h) := by
  refine ConG.of_W (Ls := #[.val (.ref a), .val (.int x), .unset, .unset, .unset]) (plainFor_of_name pn_0) hn (fun m => by first | (simp [entryFrame, mkF, argsToLocals, Value.category]; done) | rfl) ?_
  refine W.aloadN 1 d_prog_72_method_6_0 rfl rfl rfl ?_
  refine W.getfield 4 d_prog_72_method_6_1 rfl (host := "") (Or.inl (wd_14 hw)) Via.refl F1 ?_
  refine W.ldc2J 7 d_prog_72_method_6_4 rfl (wd_13 hw) ?_
  refine W.lcmp 8 d_prog_72_method_6_7 rfl (0 : Int32) (by decide) ?_
  refine W.if_ne 15 11 d_prog_72_method_6_8 rfl rfl (fun hc => absurd (by decide) hc) (fun _ => ?_)
  refine W.ldc2J 14 d_prog_72_method_6_11 rfl (wd_13 hw) ?_
  exact W.lreturn d_prog_72_method_6_14 rfl ⟨rfl, rfl⟩ (by decide) (by decide)
set_option maxRecDepth 65536 in
set_option maxHeartbeats 40000000 in
theorem c_of (l : Launch) (Z : State) (a0 : Array Value) (hw : ∀ d ∈ tables_1, d.before a0 Z = true) (a : Addr) (x : Int32) (D st : Int64) (p : Int32) (i : Int) (h : Heap) (n0 : Nat) (hn : n0 ≤ h.size) (hI : own_inv i D p st) (ga : n0 ≤ a) (E : Exa Z h a "com/example/tallymark/tallymark/LogDating") (F1 : Fld Z h a "com/example/tallymark/tallymark/LogDating" "day" "J" (.long D)) (F2 : Fld Z h a "com/example/tallymark/tallymark/LogDating" "stamped" "J" (.long st)) (F3 : Fld Z h a "com/example/tallymark/tallymark/LogDating" "previous" "I" (.int p)) : Con l Z (⟨"com/example/tallymark/tallymark/LogDating", "of", "(I)J"⟩ : MethodName) prog_72_method_6_code 5 (some .long) ({ frames := 0, cells := 0, slots := 0, locals := 0 } : Room) #[(.ref a), (.int x)] h n0 (fun r h' => r = some (.long (own_next D p st x).1) ∧ Exa Z h' a "com/example/tallymark/tallymark/LogDating" ∧ Fld Z h' a "com/example/tallymark/tallymark/LogDating" "day" "J" (.long (own_next D p st x).1) ∧ Fld Z h' a "com/example/tallymark/tallymark/LogDating" "stamped" "J" (.long st) ∧ Fld Z h' a "com/example/tallymark/tallymark/LogDating" "previous" "I" (.int (own_next D p st x).2) ∧ Keep h h' [a]) := by
  refine ConG.of_W (Ls := #[.val (.ref a), .val (.int x), .unset, .unset, .unset]) (plainFor_of_name pn_0) hn (fun m => by first | (simp [entryFrame, mkF, argsToLocals, Value.category]; done) | rfl) ?_
  refine W.aloadN 1 d_prog_72_method_6_0 rfl rfl rfl ?_
  refine W.getfield 4 d_prog_72_method_6_1 rfl (host := "") (Or.inl (wd_14 hw)) Via.refl F1 ?_
  refine W.ldc2J 7 d_prog_72_method_6_4 rfl (wd_13 hw) ?_
  refine W.lcmp 8 d_prog_72_method_6_7 rfl (lcmpW D (-9223372036854775808 : Int64)) rfl ?_
  refine W.if_ne 15 11 d_prog_72_method_6_8 rfl rfl (fun _ => ?_) (fun hc => absurd hc (fun q => own_min hI ((lw_eq _ _).mp q)))
  refine W.iloadN 16 d_prog_72_method_6_15 rfl rfl ?_
  refine W.aloadN 17 d_prog_72_method_6_16 rfl rfl rfl ?_
  refine W.getfield 20 d_prog_72_method_6_17 rfl (host := "") (Or.inl (wd_31 hw)) Via.refl F3 ?_
  refine W.isub 21 d_prog_72_method_6_20 rfl (x - p) rfl ?_
  refine W.istoreN 22 d_prog_72_method_6_21 rfl #[.val (.ref a), .val (.int x), .val (.int (x - p)), .unset, .unset] rfl ?_
  refine W.iloadN 23 d_prog_72_method_6_22 rfl rfl ?_
  refine W.ldcI 25 d_prog_72_method_6_23 rfl (wd_39 hw) ?_
  refine W.icmp_lt 32 28 d_prog_72_method_6_25 rfl rfl ?_ ?_
  · intro hc1033
    refine W.iconst 33 d_prog_72_method_6_32 rfl (0 : Int32) rfl ?_
    refine W.istoreN 34 d_prog_72_method_6_33 rfl #[.val (.ref a), .val (.int x), .val (.int (x - p)), .val (.int (0 : Int32)), .unset] rfl ?_
    refine W.iloadN 35 d_prog_72_method_6_34 rfl rfl ?_
    refine W.if_eq 54 38 d_prog_72_method_6_35 rfl rfl (fun _ => ?_) (fun hc => absurd (by decide) hc)
    refine W.iconst 55 d_prog_72_method_6_54 rfl (0 : Int32) rfl ?_
    refine W.istore 57 d_prog_72_method_6_55 rfl #[.val (.ref a), .val (.int x), .val (.int (x - p)), .val (.int (0 : Int32)), .val (.int (0 : Int32))] rfl ?_
    refine W.iloadN 58 d_prog_72_method_6_57 rfl rfl ?_
    refine W.sipush 61 d_prog_72_method_6_58 rfl (-3600 : Int32) rfl ?_
    refine W.icmp_ge 77 64 d_prog_72_method_6_61 rfl rfl ?_ ?_
    · intro hc1034
      refine W.iloadN 78 d_prog_72_method_6_77 rfl rfl ?_
      refine W.if_eq 96 81 d_prog_72_method_6_78 rfl rfl (fun _ => ?_) (fun hc => absurd (by decide) hc)
      refine W.iload 98 d_prog_72_method_6_96 rfl rfl ?_
      refine W.if_ne 106 101 d_prog_72_method_6_98 rfl rfl (fun hc => absurd (by decide) hc) (fun _ => ?_)
      refine W.aloadN 102 d_prog_72_method_6_101 rfl rfl rfl ?_
      refine W.iloadN 103 d_prog_72_method_6_102 rfl rfl ?_
      refine W.putfield 106 d_prog_72_method_6_103 rfl (host := "") (Or.inl (wd_31 hw)) Via.refl F3 E (Or.inl (wd_32 hw)) (wd_5 hw) (ty := .int) (by decide) rfl rfl ga ?_
      intro h1035 W1035 F1035 E1035 K1035
      have kc1036 := Keep.trans (ws := [a]) (Keep.refl _ [a]) K1035 (allS (Or.inl (List.mem_of_getElem? (i := 0) rfl)) all0)
      refine W.aloadN 107 d_prog_72_method_6_106 rfl rfl rfl ?_
      have q1037 := (F1.other W1035 (Or.inr (sne_6 hw)))
      refine W.getfield 110 d_prog_72_method_6_107 rfl (host := "") (Or.inl (wd_14 hw)) Via.refl q1037 ?_
      have e1038 : own_next D p st x = (D, x) := by rw [own_next_def, if_neg hc1034, if_pos hc1033]
      have q1039 := (F2.other W1035 (Or.inr (sne_7 hw)))
      exact W.lreturn d_prog_72_method_6_110 rfl ⟨by rw [e1038], by rw [e1038]; exact ⟨E1035, q1037, q1039, F1035, kc1036⟩⟩ (by decide) (by decide)
    · intro hc1034
      refine W.aloadN 65 d_prog_72_method_6_64 rfl rfl rfl ?_
      refine W.dup 66 d_prog_72_method_6_65 rfl rfl ?_
      refine W.getfield 69 d_prog_72_method_6_66 rfl (host := "") (Or.inl (wd_14 hw)) Via.refl F1 ?_
      refine W.lconst 70 d_prog_72_method_6_69 rfl (1 : Int64) rfl ?_
      refine W.ladd 71 d_prog_72_method_6_70 rfl (D + (1 : Int64)) rfl ?_
      refine W.putfield 74 d_prog_72_method_6_71 rfl (host := "") (Or.inl (wd_14 hw)) Via.refl F1 E (Or.inl (wd_15 hw)) (wd_5 hw) (ty := .long) (by decide) rfl rfl ga ?_
      intro h1040 W1040 F1040 E1040 K1040
      have kc1041 := Keep.trans (ws := [a]) (Keep.refl _ [a]) K1040 (allS (Or.inl (List.mem_of_getElem? (i := 0) rfl)) all0)
      refine W.goto 96 d_prog_72_method_6_74 rfl ?_
      refine W.iload 98 d_prog_72_method_6_96 rfl rfl ?_
      refine W.if_ne 106 101 d_prog_72_method_6_98 rfl rfl (fun hc => absurd (by decide) hc) (fun _ => ?_)
      refine W.aloadN 102 d_prog_72_method_6_101 rfl rfl rfl ?_
      refine W.iloadN 103 d_prog_72_method_6_102 rfl rfl ?_
      have q1042 := (F3.other W1040 (Or.inr (sne_1 hw)))
      refine W.putfield 106 d_prog_72_method_6_103 rfl (host := "") (Or.inl (wd_31 hw)) Via.refl q1042 E1040 (Or.inl (wd_32 hw)) (wd_5 hw) (ty := .int) (by decide) rfl rfl ga ?_
      intro h1043 W1043 F1043 E1043 K1043
      have kc1044 := Keep.trans (ws := [a]) kc1041 K1043 (allS (Or.inl (List.mem_of_getElem? (i := 0) rfl)) all0)
      refine W.aloadN 107 d_prog_72_method_6_106 rfl rfl rfl ?_
      have q1045 := (F1040.other W1043 (Or.inr (sne_6 hw)))
      refine W.getfield 110 d_prog_72_method_6_107 rfl (host := "") (Or.inl (wd_14 hw)) Via.refl q1045 ?_
      have e1046 : own_next D p st x = ((D + (1 : Int64)), x) := by rw [own_next_def, if_pos hc1034]
      have q1047 := ((F2.other W1040 (Or.inr (sne_0 hw))).other W1043 (Or.inr (sne_7 hw)))
      exact W.lreturn d_prog_72_method_6_110 rfl ⟨by rw [e1046], by rw [e1046]; exact ⟨E1043, q1045, q1047, F1043, kc1044⟩⟩ (by decide) (by decide)
  · intro hc1033
    refine W.iconst 29 d_prog_72_method_6_28 rfl (1 : Int32) rfl ?_
    refine W.goto 33 d_prog_72_method_6_29 rfl ?_
    refine W.istoreN 34 d_prog_72_method_6_33 rfl #[.val (.ref a), .val (.int x), .val (.int (x - p)), .val (.int (1 : Int32)), .unset] rfl ?_
    refine W.iloadN 35 d_prog_72_method_6_34 rfl rfl ?_
    refine W.if_eq 54 38 d_prog_72_method_6_35 rfl rfl (fun hc => absurd hc (by decide)) (fun _ => ?_)
    refine W.aloadN 39 d_prog_72_method_6_38 rfl rfl rfl ?_
    refine W.getfield 42 d_prog_72_method_6_39 rfl (host := "") (Or.inl (wd_14 hw)) Via.refl F1 ?_
    refine W.aloadN 43 d_prog_72_method_6_42 rfl rfl rfl ?_
    refine W.getfield 46 d_prog_72_method_6_43 rfl (host := "") (Or.inl (wd_22 hw)) Via.refl F2 ?_
    refine W.lcmp 47 d_prog_72_method_6_46 rfl (lcmpW D st) rfl ?_
    refine W.if_ne 54 50 d_prog_72_method_6_47 rfl rfl ?_ ?_
    · intro hc1048
      refine W.iconst 55 d_prog_72_method_6_54 rfl (0 : Int32) rfl ?_
      refine W.istore 57 d_prog_72_method_6_55 rfl #[.val (.ref a), .val (.int x), .val (.int (x - p)), .val (.int (1 : Int32)), .val (.int (0 : Int32))] rfl ?_
      refine W.iloadN 58 d_prog_72_method_6_57 rfl rfl ?_
      refine W.sipush 61 d_prog_72_method_6_58 rfl (-3600 : Int32) rfl ?_
      refine W.icmp_ge 77 64 d_prog_72_method_6_61 rfl rfl (fun _ => ?_) (fun hc => absurd hc (own_far hc1033))
      refine W.iloadN 78 d_prog_72_method_6_77 rfl rfl ?_
      refine W.if_eq 96 81 d_prog_72_method_6_78 rfl rfl (fun hc => absurd hc (by decide)) (fun _ => ?_)
      refine W.iload 83 d_prog_72_method_6_81 rfl rfl ?_
      refine W.if_ne 96 86 d_prog_72_method_6_83 rfl rfl (fun hc => absurd (by decide) hc) (fun _ => ?_)
      refine W.aloadN 87 d_prog_72_method_6_86 rfl rfl rfl ?_
      refine W.dup 88 d_prog_72_method_6_87 rfl rfl ?_
      refine W.getfield 91 d_prog_72_method_6_88 rfl (host := "") (Or.inl (wd_14 hw)) Via.refl F1 ?_
      refine W.lconst 92 d_prog_72_method_6_91 rfl (1 : Int64) rfl ?_
      refine W.lsub 93 d_prog_72_method_6_92 rfl (D - (1 : Int64)) rfl ?_
      refine W.putfield 96 d_prog_72_method_6_93 rfl (host := "") (Or.inl (wd_14 hw)) Via.refl F1 E (Or.inl (wd_15 hw)) (wd_5 hw) (ty := .long) (by decide) rfl rfl ga ?_
      intro h1049 W1049 F1049 E1049 K1049
      have kc1050 := Keep.trans (ws := [a]) (Keep.refl _ [a]) K1049 (allS (Or.inl (List.mem_of_getElem? (i := 0) rfl)) all0)
      refine W.iload 98 d_prog_72_method_6_96 rfl rfl ?_
      refine W.if_ne 106 101 d_prog_72_method_6_98 rfl rfl (fun hc => absurd (by decide) hc) (fun _ => ?_)
      refine W.aloadN 102 d_prog_72_method_6_101 rfl rfl rfl ?_
      refine W.iloadN 103 d_prog_72_method_6_102 rfl rfl ?_
      have q1051 := (F3.other W1049 (Or.inr (sne_1 hw)))
      refine W.putfield 106 d_prog_72_method_6_103 rfl (host := "") (Or.inl (wd_31 hw)) Via.refl q1051 E1049 (Or.inl (wd_32 hw)) (wd_5 hw) (ty := .int) (by decide) rfl rfl ga ?_
      intro h1052 W1052 F1052 E1052 K1052
      have kc1053 := Keep.trans (ws := [a]) kc1050 K1052 (allS (Or.inl (List.mem_of_getElem? (i := 0) rfl)) all0)
      refine W.aloadN 107 d_prog_72_method_6_106 rfl rfl rfl ?_
      have q1054 := (F1049.other W1052 (Or.inr (sne_6 hw)))
      refine W.getfield 110 d_prog_72_method_6_107 rfl (host := "") (Or.inl (wd_14 hw)) Via.refl q1054 ?_
      have e1055 : own_next D p st x = ((D - (1 : Int64)), x) := by rw [own_next_def, if_neg (own_far hc1033), if_neg hc1033, if_neg (fun q => hc1048 ((lw_eq _ _).mpr q))]
      have q1056 := ((F2.other W1049 (Or.inr (sne_0 hw))).other W1052 (Or.inr (sne_7 hw)))
      exact W.lreturn d_prog_72_method_6_110 rfl ⟨by rw [e1055], by rw [e1055]; exact ⟨E1052, q1054, q1056, F1052, kc1053⟩⟩ (by decide) (by decide)
    · intro hc1048
      refine W.iconst 51 d_prog_72_method_6_50 rfl (1 : Int32) rfl ?_
      refine W.goto 55 d_prog_72_method_6_51 rfl ?_
      refine W.istore 57 d_prog_72_method_6_55 rfl #[.val (.ref a), .val (.int x), .val (.int (x - p)), .val (.int (1 : Int32)), .val (.int (1 : Int32))] rfl ?_
      refine W.iloadN 58 d_prog_72_method_6_57 rfl rfl ?_
      refine W.sipush 61 d_prog_72_method_6_58 rfl (-3600 : Int32) rfl ?_
      refine W.icmp_ge 77 64 d_prog_72_method_6_61 rfl rfl (fun _ => ?_) (fun hc => absurd hc (own_far hc1033))
      refine W.iloadN 78 d_prog_72_method_6_77 rfl rfl ?_
      refine W.if_eq 96 81 d_prog_72_method_6_78 rfl rfl (fun hc => absurd hc (by decide)) (fun _ => ?_)
      refine W.iload 83 d_prog_72_method_6_81 rfl rfl ?_
      refine W.if_ne 96 86 d_prog_72_method_6_83 rfl rfl (fun _ => ?_) (fun hc => absurd hc (by decide))
      refine W.iload 98 d_prog_72_method_6_96 rfl rfl ?_
      refine W.if_ne 106 101 d_prog_72_method_6_98 rfl rfl (fun _ => ?_) (fun hc => absurd hc (by decide))
      refine W.aloadN 107 d_prog_72_method_6_106 rfl rfl rfl ?_
      refine W.getfield 110 d_prog_72_method_6_107 rfl (host := "") (Or.inl (wd_14 hw)) Via.refl F1 ?_
      have e1057 : own_next D p st x = (D, p) := by rw [own_next_def, if_neg (own_far hc1033), if_neg hc1033, if_pos ((lw_eq _ _).mp hc1048)]
      exact W.lreturn d_prog_72_method_6_110 rfl ⟨by rw [e1057], by rw [e1057]; exact ⟨E, F1, F2, F3, (Keep.refl _ [a])⟩⟩ (by decide) (by decide)
set_option maxRecDepth 65536 in
set_option maxHeartbeats 40000000 in
theorem c_exN (l : Launch) (Z : State) (a0 : Array Value) (hw : ∀ d ∈ tables_1, d.before a0 Z = true) (b : Addr) (x : Int32) (h : Heap) (n0 : Nat) (hn : n0 ≤ h.size) : Con l Z (⟨"com/example/tallymark/tallymark/LogDatingOfPinLaw", "expect", "([JZI)J"⟩ : MethodName) method_3_code 8 (some .long) ({ frames := 0, cells := 0, slots := 0, locals := 0 } : Room) #[(.ref b), (.int (0 : Int32)), (.int x)] h n0 (fun r h' => r = some (.long (-9223372036854775808 : Int64)) ∧ h' = h) := by
  refine ConG.of_W (Ls := #[.val (.ref b), .val (.int (0 : Int32)), .val (.int x), .unset, .unset, .unset, .unset, .unset]) (plainFor_of_name pn_1) hn (fun m => by first | (simp [entryFrame, mkF, argsToLocals, Value.category]; done) | rfl) ?_
  refine W.iloadN 1 d_method_3_0 rfl rfl ?_
  refine W.if_ne 8 4 d_method_3_1 rfl rfl (fun hc => absurd (by decide) hc) (fun _ => ?_)
  refine W.ldc2J 7 d_method_3_4 rfl (wd_44 hw) ?_
  exact W.lreturn d_method_3_7 rfl ⟨rfl, rfl⟩ (by decide) (by decide)
set_option maxRecDepth 65536 in
set_option maxHeartbeats 40000000 in
theorem c_ex (l : Launch) (Z : State) (a0 : Array Value) (hw : ∀ d ∈ tables_1, d.before a0 Z = true) (b : Addr) (x : Int32) (D st : Int64) (p : Int32) (i : Int) (h : Heap) (n0 : Nat) (hn : n0 ≤ h.size) (hI : own_inv i D p st) (hi : i ≤ 3) (hx : own_sec x) (gb : n0 ≤ b) (A : Ary Z h b .long [(.long D), (.long p.toInt64), (.long st)]) : Con l Z (⟨"com/example/tallymark/tallymark/LogDatingOfPinLaw", "expect", "([JZI)J"⟩ : MethodName) method_3_code 8 (some .long) ({ frames := 0, cells := 0, slots := 0, locals := 0 } : Room) #[(.ref b), (.int (1 : Int32)), (.int x)] h n0 (fun r h' => r = some (.long (own_next D p st x).1) ∧ Ary Z h' b .long [(.long (own_next D p st x).1), (.long ((own_next D p st x).2).toInt64), (.long st)] ∧ Keep h h' [b]) := by
  refine ConG.of_W (Ls := #[.val (.ref b), .val (.int (1 : Int32)), .val (.int x), .unset, .unset, .unset, .unset, .unset]) (plainFor_of_name pn_1) hn (fun m => by first | (simp [entryFrame, mkF, argsToLocals, Value.category]; done) | rfl) ?_
  refine W.iloadN 1 d_method_3_0 rfl rfl ?_
  refine W.if_ne 8 4 d_method_3_1 rfl rfl (fun _ => ?_) (fun hc => absurd hc (by decide))
  refine W.aloadN 9 d_method_3_8 rfl rfl rfl ?_
  refine W.iconst 10 d_method_3_9 rfl (0 : Int32) rfl ?_
  refine W.laload 11 d_method_3_10 rfl A 0 (by decide) (by decide) (.long D) rfl ?_
  refine W.lstoreN 12 d_method_3_11 rfl #[.val (.ref b), .val (.int (1 : Int32)), .val (.int x), .val (.long D), .second, .unset, .unset, .unset] rfl ?_
  refine W.aloadN 13 d_method_3_12 rfl rfl rfl ?_
  refine W.iconst 14 d_method_3_13 rfl (1 : Int32) rfl ?_
  refine W.laload 15 d_method_3_14 rfl A 1 (by decide) (by decide) (.long p.toInt64) rfl ?_
  refine W.l2i 16 d_method_3_15 rfl p (own_l2 p) ?_
  refine W.istore 18 d_method_3_16 rfl #[.val (.ref b), .val (.int (1 : Int32)), .val (.int x), .val (.long D), .second, .val (.int p), .unset, .unset] rfl ?_
  refine W.iloadN 19 d_method_3_18 rfl rfl ?_
  refine W.ldcI 21 d_method_3_19 rfl (wd_3 hw) ?_
  refine W.isub 22 d_method_3_21 rfl (x - (86400 : Int32)) rfl ?_
  refine W.iload 24 d_method_3_22 rfl rfl ?_
  refine W.isub 25 d_method_3_24 rfl ((x - (86400 : Int32)) - p) rfl ?_
  refine W.sipush 28 d_method_3_25 rfl (-3600 : Int32) rfl ?_
  refine W.icmp_lt 39 31 d_method_3_28 rfl rfl ?_ ?_
  · intro hc1058
    refine W.iloadN 40 d_method_3_39 rfl rfl ?_
    refine W.iload 42 d_method_3_40 rfl rfl ?_
    refine W.isub 43 d_method_3_42 rfl (x - p) rfl ?_
    refine W.sipush 46 d_method_3_43 rfl (-3600 : Int32) rfl ?_
    refine W.icmp_lt 55 49 d_method_3_46 rfl rfl ?_ ?_
    · intro hc1059
      refine W.lconst 56 d_method_3_55 rfl (1 : Int64) rfl ?_
      refine W.lstore 58 d_method_3_56 rfl #[.val (.ref b), .val (.int (1 : Int32)), .val (.int x), .val (.long D), .second, .val (.int p), .val (.long (1 : Int64)), .second] rfl ?_
      refine W.lloadN 59 d_method_3_58 rfl rfl ?_
      refine W.lload 61 d_method_3_59 rfl rfl ?_
      refine W.ladd 62 d_method_3_61 rfl (D + (1 : Int64)) rfl ?_
      refine W.aloadN 63 d_method_3_62 rfl rfl rfl ?_
      refine W.iconst 64 d_method_3_63 rfl (2 : Int32) rfl ?_
      refine W.laload 65 d_method_3_64 rfl A 2 (by decide) (by decide) (.long st) rfl ?_
      refine W.lcmp 66 d_method_3_65 rfl (lcmpW (D + (1 : Int64)) st) rfl ?_
      refine W.if_ge 73 69 d_method_3_66 rfl rfl (fun _ => ?_) (fun hc => absurd hc (fun q => own_j2 hI hi ((lw_lt _ _).mp q)))
      refine W.aloadN 74 d_method_3_73 rfl rfl rfl ?_
      refine W.iconst 75 d_method_3_74 rfl (0 : Int32) rfl ?_
      refine W.lloadN 76 d_method_3_75 rfl rfl ?_
      refine W.lload 78 d_method_3_76 rfl rfl ?_
      refine W.ladd 79 d_method_3_78 rfl (D + (1 : Int64)) rfl ?_
      refine W.lastore 80 d_method_3_79 rfl A 0 (by decide) (by decide) (Nat.le_of_ble_eq_true rfl) gb ?_
      intro h1060 W1060 K1060 A1060
      have kc1061 := Keep.trans (ws := [b]) (Keep.refl _ [b]) K1060 (allS (Or.inl (List.mem_of_getElem? (i := 0) rfl)) all0)
      have A1060 : Ary _ _ b .long [(.long (D + (1 : Int64))), (.long p.toInt64), (.long st)] := A1060
      refine W.aloadN 81 d_method_3_80 rfl rfl rfl ?_
      refine W.iconst 82 d_method_3_81 rfl (1 : Int32) rfl ?_
      refine W.iloadN 83 d_method_3_82 rfl rfl ?_
      refine W.i2l 84 d_method_3_83 rfl (x.toInt64) rfl ?_
      refine W.lastore 85 d_method_3_84 rfl A1060 1 (by decide) (by decide) (Nat.le_of_ble_eq_true rfl) gb ?_
      intro h1062 W1062 K1062 A1062
      have kc1063 := Keep.trans (ws := [b]) kc1061 K1062 (allS (Or.inl (List.mem_of_getElem? (i := 0) rfl)) all0)
      have A1062 : Ary _ _ b .long [(.long (D + (1 : Int64))), (.long (x.toInt64)), (.long st)] := A1062
      refine W.lloadN 86 d_method_3_85 rfl rfl ?_
      refine W.lload 88 d_method_3_86 rfl rfl ?_
      refine W.ladd 89 d_method_3_88 rfl (D + (1 : Int64)) rfl ?_
      have e1064 : own_next D p st x = ((D + 1), x) := by rw [own_next_def, if_pos hc1059]
      exact W.lreturn d_method_3_89 rfl ⟨by rw [e1064], by rw [e1064]; exact ⟨A1062, kc1063⟩⟩ (by decide) (by decide)
    · intro hc1059
      refine W.lconst 50 d_method_3_49 rfl (0 : Int64) rfl ?_
      refine W.lstore 52 d_method_3_50 rfl #[.val (.ref b), .val (.int (1 : Int32)), .val (.int x), .val (.long D), .second, .val (.int p), .val (.long (0 : Int64)), .second] rfl ?_
      refine W.goto 58 d_method_3_52 rfl ?_
      refine W.lloadN 59 d_method_3_58 rfl rfl ?_
      refine W.lload 61 d_method_3_59 rfl rfl ?_
      refine W.ladd 62 d_method_3_61 rfl (D + (0 : Int64)) rfl ?_
      refine W.aloadN 63 d_method_3_62 rfl rfl rfl ?_
      refine W.iconst 64 d_method_3_63 rfl (2 : Int32) rfl ?_
      refine W.laload 65 d_method_3_64 rfl A 2 (by decide) (by decide) (.long st) rfl ?_
      refine W.lcmp 66 d_method_3_65 rfl (lcmpW (D + (0 : Int64)) st) rfl ?_
      refine W.if_ge 73 69 d_method_3_66 rfl rfl (fun _ => ?_) (fun hc => absurd hc (fun q => own_j0 hI ((lw_lt _ _).mp q)))
      refine W.aloadN 74 d_method_3_73 rfl rfl rfl ?_
      refine W.iconst 75 d_method_3_74 rfl (0 : Int32) rfl ?_
      refine W.lloadN 76 d_method_3_75 rfl rfl ?_
      refine W.lload 78 d_method_3_76 rfl rfl ?_
      refine W.ladd 79 d_method_3_78 rfl (D + (0 : Int64)) rfl ?_
      refine W.lastore 80 d_method_3_79 rfl A 0 (by decide) (by decide) (Nat.le_of_ble_eq_true rfl) gb ?_
      intro h1065 W1065 K1065 A1065
      have kc1066 := Keep.trans (ws := [b]) (Keep.refl _ [b]) K1065 (allS (Or.inl (List.mem_of_getElem? (i := 0) rfl)) all0)
      have A1065 : Ary _ _ b .long [(.long (D + (0 : Int64))), (.long p.toInt64), (.long st)] := A1065
      refine W.aloadN 81 d_method_3_80 rfl rfl rfl ?_
      refine W.iconst 82 d_method_3_81 rfl (1 : Int32) rfl ?_
      refine W.iloadN 83 d_method_3_82 rfl rfl ?_
      refine W.i2l 84 d_method_3_83 rfl (x.toInt64) rfl ?_
      refine W.lastore 85 d_method_3_84 rfl A1065 1 (by decide) (by decide) (Nat.le_of_ble_eq_true rfl) gb ?_
      intro h1067 W1067 K1067 A1067
      have kc1068 := Keep.trans (ws := [b]) kc1066 K1067 (allS (Or.inl (List.mem_of_getElem? (i := 0) rfl)) all0)
      have A1067 : Ary _ _ b .long [(.long (D + (0 : Int64))), (.long (x.toInt64)), (.long st)] := A1067
      refine W.lloadN 86 d_method_3_85 rfl rfl ?_
      refine W.lload 88 d_method_3_86 rfl rfl ?_
      refine W.ladd 89 d_method_3_88 rfl (D + (0 : Int64)) rfl ?_
      have e1069 : own_next D p st x = (D, x) := by rw [own_next_def, if_neg hc1059, if_pos (by rw [← own_86 hx hI.2.2.2.2]; exact hc1058)]
      exact W.lreturn d_method_3_89 rfl ⟨by rw [e1069]; show some (Value.long (D + 0)) = some (Value.long D); rw [Int64.add_zero], by rw [e1069]; exact ⟨by have q := A1067; rw [Int64.add_zero] at q; exact q, kc1068⟩⟩ (by decide) (by decide)
  · intro hc1058
    refine W.ldc2J 34 d_method_3_31 rfl (wd_62 hw) ?_
    refine W.lstore 36 d_method_3_34 rfl #[.val (.ref b), .val (.int (1 : Int32)), .val (.int x), .val (.long D), .second, .val (.int p), .val (.long (-1 : Int64)), .second] rfl ?_
    refine W.goto 58 d_method_3_36 rfl ?_
    refine W.lloadN 59 d_method_3_58 rfl rfl ?_
    refine W.lload 61 d_method_3_59 rfl rfl ?_
    refine W.ladd 62 d_method_3_61 rfl (D + (-1 : Int64)) rfl ?_
    refine W.aloadN 63 d_method_3_62 rfl rfl rfl ?_
    refine W.iconst 64 d_method_3_63 rfl (2 : Int32) rfl ?_
    refine W.laload 65 d_method_3_64 rfl A 2 (by decide) (by decide) (.long st) rfl ?_
    refine W.lcmp 66 d_method_3_65 rfl (lcmpW (D + (-1 : Int64)) st) rfl ?_
    refine W.if_ge 73 69 d_method_3_66 rfl rfl ?_ ?_
    · intro hc1070
      refine W.aloadN 74 d_method_3_73 rfl rfl rfl ?_
      refine W.iconst 75 d_method_3_74 rfl (0 : Int32) rfl ?_
      refine W.lloadN 76 d_method_3_75 rfl rfl ?_
      refine W.lload 78 d_method_3_76 rfl rfl ?_
      refine W.ladd 79 d_method_3_78 rfl (D + (-1 : Int64)) rfl ?_
      refine W.lastore 80 d_method_3_79 rfl A 0 (by decide) (by decide) (Nat.le_of_ble_eq_true rfl) gb ?_
      intro h1071 W1071 K1071 A1071
      have kc1072 := Keep.trans (ws := [b]) (Keep.refl _ [b]) K1071 (allS (Or.inl (List.mem_of_getElem? (i := 0) rfl)) all0)
      have A1071 : Ary _ _ b .long [(.long (D + (-1 : Int64))), (.long p.toInt64), (.long st)] := A1071
      refine W.aloadN 81 d_method_3_80 rfl rfl rfl ?_
      refine W.iconst 82 d_method_3_81 rfl (1 : Int32) rfl ?_
      refine W.iloadN 83 d_method_3_82 rfl rfl ?_
      refine W.i2l 84 d_method_3_83 rfl (x.toInt64) rfl ?_
      refine W.lastore 85 d_method_3_84 rfl A1071 1 (by decide) (by decide) (Nat.le_of_ble_eq_true rfl) gb ?_
      intro h1073 W1073 K1073 A1073
      have kc1074 := Keep.trans (ws := [b]) kc1072 K1073 (allS (Or.inl (List.mem_of_getElem? (i := 0) rfl)) all0)
      have A1073 : Ary _ _ b .long [(.long (D + (-1 : Int64))), (.long (x.toInt64)), (.long st)] := A1073
      refine W.lloadN 86 d_method_3_85 rfl rfl ?_
      refine W.lload 88 d_method_3_86 rfl rfl ?_
      refine W.ladd 89 d_method_3_88 rfl (D + (-1 : Int64)) rfl ?_
      have e1075 : own_next D p st x = ((D - 1), x) := by rw [own_next_def, if_neg (own_far (by rw [← own_86 hx hI.2.2.2.2]; exact hc1058)), if_neg (by rw [← own_86 hx hI.2.2.2.2]; exact hc1058), if_neg (by rw [← own_j1 hI hi]; exact fun q => hc1070 ((lw_lt _ _).mpr q))]
      exact W.lreturn d_method_3_89 rfl ⟨by rw [e1075]; show some (Value.long (D + (-1 : Int64))) = some (Value.long (D - 1)); rw [own_sub1], by rw [e1075, ← own_sub1]; exact ⟨A1073, kc1074⟩⟩ (by decide) (by decide)
    · intro hc1070
      refine W.aloadN 70 d_method_3_69 rfl rfl rfl ?_
      refine W.iconst 71 d_method_3_70 rfl (2 : Int32) rfl ?_
      refine W.laload 72 d_method_3_71 rfl A 2 (by decide) (by decide) (.long st) rfl ?_
      have e1076 : own_next D p st x = (D, p) := by rw [own_next_def, if_neg (own_far (by rw [← own_86 hx hI.2.2.2.2]; exact hc1058)), if_neg (by rw [← own_86 hx hI.2.2.2.2]; exact hc1058), if_pos (by rw [← own_j1 hI hi]; exact (lw_lt _ _).mp hc1070)]
      have hst : D = st := by rw [← own_j1 hI hi]; exact (lw_lt _ _).mp hc1070
      exact W.lreturn d_method_3_72 rfl ⟨by rw [e1076]; show some (Value.long st) = some (Value.long D); rw [hst], by rw [e1076]; exact ⟨A, (Keep.refl _ [b])⟩⟩ (by decide) (by decide)
set_option maxRecDepth 65536 in
set_option maxHeartbeats 40000000 in
theorem l128u (l : Launch) (Z : State) (a0 : Array Value) (hw : ∀ d ∈ tables_1, d.before a0 Z = true) (p0 d : Int64) (p1 p2 p3 p4 p5 s0 xa xb xc mm : Int32) (a b : Addr) (st : Int64) (p : Int32) (h : Heap) (n0 : Nat) (ga : n0 ≤ a) (E : Exa Z h a "com/example/tallymark/tallymark/LogDating") (F1 : Fld Z h a "com/example/tallymark/tallymark/LogDating" "day" "J" (.long (-9223372036854775808 : Int64))) (F2 : Fld Z h a "com/example/tallymark/tallymark/LogDating" "stamped" "J" (.long st)) (F3 : Fld Z h a "com/example/tallymark/tallymark/LogDating" "previous" "I" (.int p)) : W l room_1 Z "com/example/tallymark/tallymark/LogDatingOfPinLaw" "law" code maxLocals ret n0 (fun r hf => r = some (.int 1) ∧ hf = h) h 6 60 128 #[.val (.long p0), .second, .val (.int p1), .val (.int p2), .val (.int p3), .val (.int p4), .val (.int p5), .val (.long d), .second, .val (.int s0), .val (.int xa), .val (.int xb), .val (.int xc), .val (.int mm), .val (.ref a), .val (.ref b), .val (.int (0 : Int32)), .unset, .unset, .unset, .unset, .unset, .unset, .unset, .unset, .unset, .unset, .unset, .unset] [] := by
  refine W.aload 130 at_128 rfl rfl rfl ?_
  refine W.iload 132 at_130 rfl rfl ?_
  refine W.callV (rest := []) (argsL := [(.int xa)]) (a := a) 135 at_132 rfl (fun hn => c_ofN l Z a0 hw a xa st p _ n0 hn ga E F1 F2 F3) E (wd_34 hw) (wd_35 hw) (wd_37 hw) rfl (wd_36 hw) (wd_6 hw) (wd_38 hw) (by decide) pd_2 rfl rfl rfl (by decide) 0 (Nat.le_of_ble_eq_true rfl) (by decide) (by decide) (by decide) ?_
  rintro v1077 h1077 ⟨rfl, rfl⟩
  show WG _ _ _ _ _ _ _ _ _ _ _ _ 6 60 135 #[.val (.long p0), .second, .val (.int p1), .val (.int p2), .val (.int p3), .val (.int p4), .val (.int p5), .val (.long d), .second, .val (.int s0), .val (.int xa), .val (.int xb), .val (.int xc), .val (.int mm), .val (.ref a), .val (.ref b), .val (.int (0 : Int32)), .unset, .unset, .unset, .unset, .unset, .unset, .unset, .unset, .unset, .unset, .unset, .unset] [(.long (-9223372036854775808 : Int64))]
  refine W.lstore 137 at_135 rfl #[.val (.long p0), .second, .val (.int p1), .val (.int p2), .val (.int p3), .val (.int p4), .val (.int p5), .val (.long d), .second, .val (.int s0), .val (.int xa), .val (.int xb), .val (.int xc), .val (.int mm), .val (.ref a), .val (.ref b), .val (.int (0 : Int32)), .val (.long (-9223372036854775808 : Int64)), .second, .unset, .unset, .unset, .unset, .unset, .unset, .unset, .unset, .unset, .unset] rfl ?_
  refine W.aload 139 at_137 rfl rfl rfl ?_
  refine W.iload 141 at_139 rfl rfl ?_
  refine W.iload 143 at_141 rfl rfl ?_
  refine W.callS (rest := []) (argsL := [(.ref b), (.int (0 : Int32)), (.int xa)]) 146 at_143 rfl (fun hn => c_exN l Z a0 hw b xa _ n0 hn) (wd_40 hw) (wd_41 hw) (wd_42 hw) (wd_43 hw) (by decide) pd_3 rfl rfl rfl (by decide) 0 (Nat.le_of_ble_eq_true rfl) (by decide) (by decide) (by decide) ?_
  rintro v1078 h1078 ⟨rfl, rfl⟩
  show WG _ _ _ _ _ _ _ _ _ _ _ _ 6 60 146 #[.val (.long p0), .second, .val (.int p1), .val (.int p2), .val (.int p3), .val (.int p4), .val (.int p5), .val (.long d), .second, .val (.int s0), .val (.int xa), .val (.int xb), .val (.int xc), .val (.int mm), .val (.ref a), .val (.ref b), .val (.int (0 : Int32)), .val (.long (-9223372036854775808 : Int64)), .second, .unset, .unset, .unset, .unset, .unset, .unset, .unset, .unset, .unset, .unset] [(.long (-9223372036854775808 : Int64))]
  refine W.lstore 148 at_146 rfl #[.val (.long p0), .second, .val (.int p1), .val (.int p2), .val (.int p3), .val (.int p4), .val (.int p5), .val (.long d), .second, .val (.int s0), .val (.int xa), .val (.int xb), .val (.int xc), .val (.int mm), .val (.ref a), .val (.ref b), .val (.int (0 : Int32)), .val (.long (-9223372036854775808 : Int64)), .second, .val (.long (-9223372036854775808 : Int64)), .second, .unset, .unset, .unset, .unset, .unset, .unset, .unset, .unset] rfl ?_
  refine W.aload 150 at_148 rfl rfl rfl ?_
  refine W.iload 152 at_150 rfl rfl ?_
  refine W.callV (rest := []) (argsL := [(.int xb)]) (a := a) 155 at_152 rfl (fun hn => c_ofN l Z a0 hw a xb st p _ n0 hn ga E F1 F2 F3) E (wd_34 hw) (wd_35 hw) (wd_37 hw) rfl (wd_36 hw) (wd_6 hw) (wd_38 hw) (by decide) pd_2 rfl rfl rfl (by decide) 0 (Nat.le_of_ble_eq_true rfl) (by decide) (by decide) (by decide) ?_
  rintro v1079 h1079 ⟨rfl, rfl⟩
  show WG _ _ _ _ _ _ _ _ _ _ _ _ 6 60 155 #[.val (.long p0), .second, .val (.int p1), .val (.int p2), .val (.int p3), .val (.int p4), .val (.int p5), .val (.long d), .second, .val (.int s0), .val (.int xa), .val (.int xb), .val (.int xc), .val (.int mm), .val (.ref a), .val (.ref b), .val (.int (0 : Int32)), .val (.long (-9223372036854775808 : Int64)), .second, .val (.long (-9223372036854775808 : Int64)), .second, .unset, .unset, .unset, .unset, .unset, .unset, .unset, .unset] [(.long (-9223372036854775808 : Int64))]
  refine W.lstore 157 at_155 rfl #[.val (.long p0), .second, .val (.int p1), .val (.int p2), .val (.int p3), .val (.int p4), .val (.int p5), .val (.long d), .second, .val (.int s0), .val (.int xa), .val (.int xb), .val (.int xc), .val (.int mm), .val (.ref a), .val (.ref b), .val (.int (0 : Int32)), .val (.long (-9223372036854775808 : Int64)), .second, .val (.long (-9223372036854775808 : Int64)), .second, .val (.long (-9223372036854775808 : Int64)), .second, .unset, .unset, .unset, .unset, .unset, .unset] rfl ?_
  refine W.aload 159 at_157 rfl rfl rfl ?_
  refine W.iload 161 at_159 rfl rfl ?_
  refine W.iload 163 at_161 rfl rfl ?_
  refine W.callS (rest := []) (argsL := [(.ref b), (.int (0 : Int32)), (.int xb)]) 166 at_163 rfl (fun hn => c_exN l Z a0 hw b xb _ n0 hn) (wd_40 hw) (wd_41 hw) (wd_42 hw) (wd_43 hw) (by decide) pd_3 rfl rfl rfl (by decide) 0 (Nat.le_of_ble_eq_true rfl) (by decide) (by decide) (by decide) ?_
  rintro v1080 h1080 ⟨rfl, rfl⟩
  show WG _ _ _ _ _ _ _ _ _ _ _ _ 6 60 166 #[.val (.long p0), .second, .val (.int p1), .val (.int p2), .val (.int p3), .val (.int p4), .val (.int p5), .val (.long d), .second, .val (.int s0), .val (.int xa), .val (.int xb), .val (.int xc), .val (.int mm), .val (.ref a), .val (.ref b), .val (.int (0 : Int32)), .val (.long (-9223372036854775808 : Int64)), .second, .val (.long (-9223372036854775808 : Int64)), .second, .val (.long (-9223372036854775808 : Int64)), .second, .unset, .unset, .unset, .unset, .unset, .unset] [(.long (-9223372036854775808 : Int64))]
  refine W.lstore 168 at_166 rfl #[.val (.long p0), .second, .val (.int p1), .val (.int p2), .val (.int p3), .val (.int p4), .val (.int p5), .val (.long d), .second, .val (.int s0), .val (.int xa), .val (.int xb), .val (.int xc), .val (.int mm), .val (.ref a), .val (.ref b), .val (.int (0 : Int32)), .val (.long (-9223372036854775808 : Int64)), .second, .val (.long (-9223372036854775808 : Int64)), .second, .val (.long (-9223372036854775808 : Int64)), .second, .val (.long (-9223372036854775808 : Int64)), .second, .unset, .unset, .unset, .unset] rfl ?_
  refine W.aload 170 at_168 rfl rfl rfl ?_
  refine W.iload 172 at_170 rfl rfl ?_
  refine W.callV (rest := []) (argsL := [(.int xc)]) (a := a) 175 at_172 rfl (fun hn => c_ofN l Z a0 hw a xc st p _ n0 hn ga E F1 F2 F3) E (wd_34 hw) (wd_35 hw) (wd_37 hw) rfl (wd_36 hw) (wd_6 hw) (wd_38 hw) (by decide) pd_2 rfl rfl rfl (by decide) 0 (Nat.le_of_ble_eq_true rfl) (by decide) (by decide) (by decide) ?_
  rintro v1081 h1081 ⟨rfl, rfl⟩
  show WG _ _ _ _ _ _ _ _ _ _ _ _ 6 60 175 #[.val (.long p0), .second, .val (.int p1), .val (.int p2), .val (.int p3), .val (.int p4), .val (.int p5), .val (.long d), .second, .val (.int s0), .val (.int xa), .val (.int xb), .val (.int xc), .val (.int mm), .val (.ref a), .val (.ref b), .val (.int (0 : Int32)), .val (.long (-9223372036854775808 : Int64)), .second, .val (.long (-9223372036854775808 : Int64)), .second, .val (.long (-9223372036854775808 : Int64)), .second, .val (.long (-9223372036854775808 : Int64)), .second, .unset, .unset, .unset, .unset] [(.long (-9223372036854775808 : Int64))]
  refine W.lstore 177 at_175 rfl #[.val (.long p0), .second, .val (.int p1), .val (.int p2), .val (.int p3), .val (.int p4), .val (.int p5), .val (.long d), .second, .val (.int s0), .val (.int xa), .val (.int xb), .val (.int xc), .val (.int mm), .val (.ref a), .val (.ref b), .val (.int (0 : Int32)), .val (.long (-9223372036854775808 : Int64)), .second, .val (.long (-9223372036854775808 : Int64)), .second, .val (.long (-9223372036854775808 : Int64)), .second, .val (.long (-9223372036854775808 : Int64)), .second, .val (.long (-9223372036854775808 : Int64)), .second, .unset, .unset] rfl ?_
  refine W.aload 179 at_177 rfl rfl rfl ?_
  refine W.iload 181 at_179 rfl rfl ?_
  refine W.iload 183 at_181 rfl rfl ?_
  refine W.callS (rest := []) (argsL := [(.ref b), (.int (0 : Int32)), (.int xc)]) 186 at_183 rfl (fun hn => c_exN l Z a0 hw b xc _ n0 hn) (wd_40 hw) (wd_41 hw) (wd_42 hw) (wd_43 hw) (by decide) pd_3 rfl rfl rfl (by decide) 0 (Nat.le_of_ble_eq_true rfl) (by decide) (by decide) (by decide) ?_
  rintro v1082 h1082 ⟨rfl, rfl⟩
  show WG _ _ _ _ _ _ _ _ _ _ _ _ 6 60 186 #[.val (.long p0), .second, .val (.int p1), .val (.int p2), .val (.int p3), .val (.int p4), .val (.int p5), .val (.long d), .second, .val (.int s0), .val (.int xa), .val (.int xb), .val (.int xc), .val (.int mm), .val (.ref a), .val (.ref b), .val (.int (0 : Int32)), .val (.long (-9223372036854775808 : Int64)), .second, .val (.long (-9223372036854775808 : Int64)), .second, .val (.long (-9223372036854775808 : Int64)), .second, .val (.long (-9223372036854775808 : Int64)), .second, .val (.long (-9223372036854775808 : Int64)), .second, .unset, .unset] [(.long (-9223372036854775808 : Int64))]
  refine W.lstore 188 at_186 rfl #[.val (.long p0), .second, .val (.int p1), .val (.int p2), .val (.int p3), .val (.int p4), .val (.int p5), .val (.long d), .second, .val (.int s0), .val (.int xa), .val (.int xb), .val (.int xc), .val (.int mm), .val (.ref a), .val (.ref b), .val (.int (0 : Int32)), .val (.long (-9223372036854775808 : Int64)), .second, .val (.long (-9223372036854775808 : Int64)), .second, .val (.long (-9223372036854775808 : Int64)), .second, .val (.long (-9223372036854775808 : Int64)), .second, .val (.long (-9223372036854775808 : Int64)), .second, .val (.long (-9223372036854775808 : Int64)), .second] rfl ?_
  refine W.lload 190 at_188 rfl rfl ?_
  refine W.lload 192 at_190 rfl rfl ?_
  refine W.lcmp 193 at_192 rfl (0 : Int32) (by decide) ?_
  refine W.if_ne 216 196 at_193 rfl rfl (fun hc => absurd (by decide) hc) (fun _ => ?_)
  refine W.lload 198 at_196 rfl rfl ?_
  refine W.lload 200 at_198 rfl rfl ?_
  refine W.lcmp 201 at_200 rfl (0 : Int32) (by decide) ?_
  refine W.if_ne 216 204 at_201 rfl rfl (fun hc => absurd (by decide) hc) (fun _ => ?_)
  refine W.lload 206 at_204 rfl rfl ?_
  refine W.lload 208 at_206 rfl rfl ?_
  refine W.lcmp 209 at_208 rfl (0 : Int32) (by decide) ?_
  refine W.if_ne 216 212 at_209 rfl rfl (fun hc => absurd (by decide) hc) (fun _ => ?_)
  refine W.iconst 213 at_212 rfl (1 : Int32) rfl ?_
  refine W.goto 217 at_213 rfl ?_
  exact W.ireturnN (t := .boolean) at_217 rfl (by simp) (1 : Int32) rfl ⟨rfl, rfl⟩ (by decide) (by decide)
set_option maxRecDepth 65536 in
set_option maxHeartbeats 40000000 in
theorem l128d (l : Launch) (Z : State) (a0 : Array Value) (hw : ∀ d ∈ tables_1, d.before a0 Z = true) (p0 d : Int64) (p1 p2 p3 p4 p5 s0 xa xb xc mm : Int32) (a b : Addr) (p : Int32) (h : Heap) (n0 : Nat) (ga : n0 ≤ a) (E : Exa Z h a "com/example/tallymark/tallymark/LogDating") (F1 : Fld Z h a "com/example/tallymark/tallymark/LogDating" "day" "J" (.long d)) (F2 : Fld Z h a "com/example/tallymark/tallymark/LogDating" "stamped" "J" (.long d)) (F3 : Fld Z h a "com/example/tallymark/tallymark/LogDating" "previous" "I" (.int p)) (gb : n0 ≤ b) (ne : a ≠ b) (A : Ary Z h b .long [(.long d), (.long p.toInt64), (.long d)]) (hI : own_inv 0 d p d) (hxa : own_sec xa) (hxb : own_sec xb) (hxc : own_sec xc) : W l room_1 Z "com/example/tallymark/tallymark/LogDatingOfPinLaw" "law" code maxLocals ret n0 (fun r _ => r = some (.int 1)) h 6 60 128 #[.val (.long p0), .second, .val (.int p1), .val (.int p2), .val (.int p3), .val (.int p4), .val (.int p5), .val (.long d), .second, .val (.int s0), .val (.int xa), .val (.int xb), .val (.int xc), .val (.int mm), .val (.ref a), .val (.ref b), .val (.int (1 : Int32)), .unset, .unset, .unset, .unset, .unset, .unset, .unset, .unset, .unset, .unset, .unset, .unset] [] := by
  refine W.aload 130 at_128 rfl rfl rfl ?_
  refine W.iload 132 at_130 rfl rfl ?_
  refine W.callV (rest := []) (argsL := [(.int xa)]) (a := a) 135 at_132 rfl (fun hn => c_of l Z a0 hw a xa d d p 0 _ n0 hn hI ga E F1 F2 F3) E (wd_34 hw) (wd_35 hw) (wd_37 hw) rfl (wd_36 hw) (wd_6 hw) (wd_38 hw) (by decide) pd_2 rfl rfl rfl (by decide) 0 (Nat.le_of_ble_eq_true rfl) (by decide) (by decide) (by decide) ?_
  rintro v1083 h1083 ⟨rfl, E1083, F11083, F21083, F31083, K1083⟩
  show WG _ _ _ _ _ _ _ _ _ _ _ _ 6 60 135 #[.val (.long p0), .second, .val (.int p1), .val (.int p2), .val (.int p3), .val (.int p4), .val (.int p5), .val (.long d), .second, .val (.int s0), .val (.int xa), .val (.int xb), .val (.int xc), .val (.int mm), .val (.ref a), .val (.ref b), .val (.int (1 : Int32)), .unset, .unset, .unset, .unset, .unset, .unset, .unset, .unset, .unset, .unset, .unset, .unset] [(.long (own_next d p d xa).1)]
  refine W.lstore 137 at_135 rfl #[.val (.long p0), .second, .val (.int p1), .val (.int p2), .val (.int p3), .val (.int p4), .val (.int p5), .val (.long d), .second, .val (.int s0), .val (.int xa), .val (.int xb), .val (.int xc), .val (.int mm), .val (.ref a), .val (.ref b), .val (.int (1 : Int32)), .val (.long (own_next d p d xa).1), .second, .unset, .unset, .unset, .unset, .unset, .unset, .unset, .unset, .unset, .unset] rfl ?_
  refine W.aload 139 at_137 rfl rfl rfl ?_
  refine W.iload 141 at_139 rfl rfl ?_
  refine W.iload 143 at_141 rfl rfl ?_
  have q1084 := (A.keep K1083 (ninS (Ne.symm ne) nin0))
  refine W.callS (rest := []) (argsL := [(.ref b), (.int (1 : Int32)), (.int xa)]) 146 at_143 rfl (fun hn => c_ex l Z a0 hw b xa d d p 0 _ n0 hn hI (by decide) hxa gb q1084) (wd_40 hw) (wd_41 hw) (wd_42 hw) (wd_43 hw) (by decide) pd_3 rfl rfl rfl (by decide) 0 (Nat.le_of_ble_eq_true rfl) (by decide) (by decide) (by decide) ?_
  rintro v1085 h1085 ⟨rfl, A1085, K1085⟩
  show WG _ _ _ _ _ _ _ _ _ _ _ _ 6 60 146 #[.val (.long p0), .second, .val (.int p1), .val (.int p2), .val (.int p3), .val (.int p4), .val (.int p5), .val (.long d), .second, .val (.int s0), .val (.int xa), .val (.int xb), .val (.int xc), .val (.int mm), .val (.ref a), .val (.ref b), .val (.int (1 : Int32)), .val (.long (own_next d p d xa).1), .second, .unset, .unset, .unset, .unset, .unset, .unset, .unset, .unset, .unset, .unset] [(.long (own_next d p d xa).1)]
  refine W.lstore 148 at_146 rfl #[.val (.long p0), .second, .val (.int p1), .val (.int p2), .val (.int p3), .val (.int p4), .val (.int p5), .val (.long d), .second, .val (.int s0), .val (.int xa), .val (.int xb), .val (.int xc), .val (.int mm), .val (.ref a), .val (.ref b), .val (.int (1 : Int32)), .val (.long (own_next d p d xa).1), .second, .val (.long (own_next d p d xa).1), .second, .unset, .unset, .unset, .unset, .unset, .unset, .unset, .unset] rfl ?_
  refine W.aload 150 at_148 rfl rfl rfl ?_
  refine W.iload 152 at_150 rfl rfl ?_
  have q1086 := (E1083.keep K1085)
  have q1087 := (F11083.keep K1085 (ninS ne nin0))
  have q1088 := (F21083.keep K1085 (ninS ne nin0))
  have q1089 := (F31083.keep K1085 (ninS ne nin0))
  refine W.callV (rest := []) (argsL := [(.int xb)]) (a := a) 155 at_152 rfl (fun hn => c_of l Z a0 hw a xb (own_next d p d xa).1 d (own_next d p d xa).2 1 _ n0 hn (own_inv_next hI (by decide) (by decide) hxa) ga q1086 q1087 q1088 q1089) q1086 (wd_34 hw) (wd_35 hw) (wd_37 hw) rfl (wd_36 hw) (wd_6 hw) (wd_38 hw) (by decide) pd_2 rfl rfl rfl (by decide) 0 (Nat.le_of_ble_eq_true rfl) (by decide) (by decide) (by decide) ?_
  rintro v1090 h1090 ⟨rfl, E1090, F11090, F21090, F31090, K1090⟩
  show WG _ _ _ _ _ _ _ _ _ _ _ _ 6 60 155 #[.val (.long p0), .second, .val (.int p1), .val (.int p2), .val (.int p3), .val (.int p4), .val (.int p5), .val (.long d), .second, .val (.int s0), .val (.int xa), .val (.int xb), .val (.int xc), .val (.int mm), .val (.ref a), .val (.ref b), .val (.int (1 : Int32)), .val (.long (own_next d p d xa).1), .second, .val (.long (own_next d p d xa).1), .second, .unset, .unset, .unset, .unset, .unset, .unset, .unset, .unset] [(.long (own_next (own_next d p d xa).1 (own_next d p d xa).2 d xb).1)]
  refine W.lstore 157 at_155 rfl #[.val (.long p0), .second, .val (.int p1), .val (.int p2), .val (.int p3), .val (.int p4), .val (.int p5), .val (.long d), .second, .val (.int s0), .val (.int xa), .val (.int xb), .val (.int xc), .val (.int mm), .val (.ref a), .val (.ref b), .val (.int (1 : Int32)), .val (.long (own_next d p d xa).1), .second, .val (.long (own_next d p d xa).1), .second, .val (.long (own_next (own_next d p d xa).1 (own_next d p d xa).2 d xb).1), .second, .unset, .unset, .unset, .unset, .unset, .unset] rfl ?_
  refine W.aload 159 at_157 rfl rfl rfl ?_
  refine W.iload 161 at_159 rfl rfl ?_
  refine W.iload 163 at_161 rfl rfl ?_
  have q1091 := (A1085.keep K1090 (ninS (Ne.symm ne) nin0))
  refine W.callS (rest := []) (argsL := [(.ref b), (.int (1 : Int32)), (.int xb)]) 166 at_163 rfl (fun hn => c_ex l Z a0 hw b xb (own_next d p d xa).1 d (own_next d p d xa).2 1 _ n0 hn (own_inv_next hI (by decide) (by decide) hxa) (by decide) hxb gb q1091) (wd_40 hw) (wd_41 hw) (wd_42 hw) (wd_43 hw) (by decide) pd_3 rfl rfl rfl (by decide) 0 (Nat.le_of_ble_eq_true rfl) (by decide) (by decide) (by decide) ?_
  rintro v1092 h1092 ⟨rfl, A1092, K1092⟩
  show WG _ _ _ _ _ _ _ _ _ _ _ _ 6 60 166 #[.val (.long p0), .second, .val (.int p1), .val (.int p2), .val (.int p3), .val (.int p4), .val (.int p5), .val (.long d), .second, .val (.int s0), .val (.int xa), .val (.int xb), .val (.int xc), .val (.int mm), .val (.ref a), .val (.ref b), .val (.int (1 : Int32)), .val (.long (own_next d p d xa).1), .second, .val (.long (own_next d p d xa).1), .second, .val (.long (own_next (own_next d p d xa).1 (own_next d p d xa).2 d xb).1), .second, .unset, .unset, .unset, .unset, .unset, .unset] [(.long (own_next (own_next d p d xa).1 (own_next d p d xa).2 d xb).1)]
  refine W.lstore 168 at_166 rfl #[.val (.long p0), .second, .val (.int p1), .val (.int p2), .val (.int p3), .val (.int p4), .val (.int p5), .val (.long d), .second, .val (.int s0), .val (.int xa), .val (.int xb), .val (.int xc), .val (.int mm), .val (.ref a), .val (.ref b), .val (.int (1 : Int32)), .val (.long (own_next d p d xa).1), .second, .val (.long (own_next d p d xa).1), .second, .val (.long (own_next (own_next d p d xa).1 (own_next d p d xa).2 d xb).1), .second, .val (.long (own_next (own_next d p d xa).1 (own_next d p d xa).2 d xb).1), .second, .unset, .unset, .unset, .unset] rfl ?_
  refine W.aload 170 at_168 rfl rfl rfl ?_
  refine W.iload 172 at_170 rfl rfl ?_
  have q1093 := (E1090.keep K1092)
  have q1094 := (F11090.keep K1092 (ninS ne nin0))
  have q1095 := (F21090.keep K1092 (ninS ne nin0))
  have q1096 := (F31090.keep K1092 (ninS ne nin0))
  refine W.callV (rest := []) (argsL := [(.int xc)]) (a := a) 175 at_172 rfl (fun hn => c_of l Z a0 hw a xc (own_next (own_next d p d xa).1 (own_next d p d xa).2 d xb).1 d (own_next (own_next d p d xa).1 (own_next d p d xa).2 d xb).2 2 _ n0 hn (own_inv_next (own_inv_next hI (by decide) (by decide) hxa) (by decide) (by decide) hxb) ga q1093 q1094 q1095 q1096) q1093 (wd_34 hw) (wd_35 hw) (wd_37 hw) rfl (wd_36 hw) (wd_6 hw) (wd_38 hw) (by decide) pd_2 rfl rfl rfl (by decide) 0 (Nat.le_of_ble_eq_true rfl) (by decide) (by decide) (by decide) ?_
  rintro v1097 h1097 ⟨rfl, E1097, F11097, F21097, F31097, K1097⟩
  show WG _ _ _ _ _ _ _ _ _ _ _ _ 6 60 175 #[.val (.long p0), .second, .val (.int p1), .val (.int p2), .val (.int p3), .val (.int p4), .val (.int p5), .val (.long d), .second, .val (.int s0), .val (.int xa), .val (.int xb), .val (.int xc), .val (.int mm), .val (.ref a), .val (.ref b), .val (.int (1 : Int32)), .val (.long (own_next d p d xa).1), .second, .val (.long (own_next d p d xa).1), .second, .val (.long (own_next (own_next d p d xa).1 (own_next d p d xa).2 d xb).1), .second, .val (.long (own_next (own_next d p d xa).1 (own_next d p d xa).2 d xb).1), .second, .unset, .unset, .unset, .unset] [(.long (own_next (own_next (own_next d p d xa).1 (own_next d p d xa).2 d xb).1 (own_next (own_next d p d xa).1 (own_next d p d xa).2 d xb).2 d xc).1)]
  refine W.lstore 177 at_175 rfl #[.val (.long p0), .second, .val (.int p1), .val (.int p2), .val (.int p3), .val (.int p4), .val (.int p5), .val (.long d), .second, .val (.int s0), .val (.int xa), .val (.int xb), .val (.int xc), .val (.int mm), .val (.ref a), .val (.ref b), .val (.int (1 : Int32)), .val (.long (own_next d p d xa).1), .second, .val (.long (own_next d p d xa).1), .second, .val (.long (own_next (own_next d p d xa).1 (own_next d p d xa).2 d xb).1), .second, .val (.long (own_next (own_next d p d xa).1 (own_next d p d xa).2 d xb).1), .second, .val (.long (own_next (own_next (own_next d p d xa).1 (own_next d p d xa).2 d xb).1 (own_next (own_next d p d xa).1 (own_next d p d xa).2 d xb).2 d xc).1), .second, .unset, .unset] rfl ?_
  refine W.aload 179 at_177 rfl rfl rfl ?_
  refine W.iload 181 at_179 rfl rfl ?_
  refine W.iload 183 at_181 rfl rfl ?_
  have q1098 := (A1092.keep K1097 (ninS (Ne.symm ne) nin0))
  refine W.callS (rest := []) (argsL := [(.ref b), (.int (1 : Int32)), (.int xc)]) 186 at_183 rfl (fun hn => c_ex l Z a0 hw b xc (own_next (own_next d p d xa).1 (own_next d p d xa).2 d xb).1 d (own_next (own_next d p d xa).1 (own_next d p d xa).2 d xb).2 2 _ n0 hn (own_inv_next (own_inv_next hI (by decide) (by decide) hxa) (by decide) (by decide) hxb) (by decide) hxc gb q1098) (wd_40 hw) (wd_41 hw) (wd_42 hw) (wd_43 hw) (by decide) pd_3 rfl rfl rfl (by decide) 0 (Nat.le_of_ble_eq_true rfl) (by decide) (by decide) (by decide) ?_
  rintro v1099 h1099 ⟨rfl, A1099, K1099⟩
  show WG _ _ _ _ _ _ _ _ _ _ _ _ 6 60 186 #[.val (.long p0), .second, .val (.int p1), .val (.int p2), .val (.int p3), .val (.int p4), .val (.int p5), .val (.long d), .second, .val (.int s0), .val (.int xa), .val (.int xb), .val (.int xc), .val (.int mm), .val (.ref a), .val (.ref b), .val (.int (1 : Int32)), .val (.long (own_next d p d xa).1), .second, .val (.long (own_next d p d xa).1), .second, .val (.long (own_next (own_next d p d xa).1 (own_next d p d xa).2 d xb).1), .second, .val (.long (own_next (own_next d p d xa).1 (own_next d p d xa).2 d xb).1), .second, .val (.long (own_next (own_next (own_next d p d xa).1 (own_next d p d xa).2 d xb).1 (own_next (own_next d p d xa).1 (own_next d p d xa).2 d xb).2 d xc).1), .second, .unset, .unset] [(.long (own_next (own_next (own_next d p d xa).1 (own_next d p d xa).2 d xb).1 (own_next (own_next d p d xa).1 (own_next d p d xa).2 d xb).2 d xc).1)]
  refine W.lstore 188 at_186 rfl #[.val (.long p0), .second, .val (.int p1), .val (.int p2), .val (.int p3), .val (.int p4), .val (.int p5), .val (.long d), .second, .val (.int s0), .val (.int xa), .val (.int xb), .val (.int xc), .val (.int mm), .val (.ref a), .val (.ref b), .val (.int (1 : Int32)), .val (.long (own_next d p d xa).1), .second, .val (.long (own_next d p d xa).1), .second, .val (.long (own_next (own_next d p d xa).1 (own_next d p d xa).2 d xb).1), .second, .val (.long (own_next (own_next d p d xa).1 (own_next d p d xa).2 d xb).1), .second, .val (.long (own_next (own_next (own_next d p d xa).1 (own_next d p d xa).2 d xb).1 (own_next (own_next d p d xa).1 (own_next d p d xa).2 d xb).2 d xc).1), .second, .val (.long (own_next (own_next (own_next d p d xa).1 (own_next d p d xa).2 d xb).1 (own_next (own_next d p d xa).1 (own_next d p d xa).2 d xb).2 d xc).1), .second] rfl ?_
  refine W.lload 190 at_188 rfl rfl ?_
  refine W.lload 192 at_190 rfl rfl ?_
  refine W.lcmp 193 at_192 rfl (lcmpW (own_next d p d xa).1 (own_next d p d xa).1) rfl ?_
  refine W.if_ne 216 196 at_193 rfl rfl (fun hc => absurd ((lw_eq _ _).mpr rfl) hc) (fun _ => ?_)
  refine W.lload 198 at_196 rfl rfl ?_
  refine W.lload 200 at_198 rfl rfl ?_
  refine W.lcmp 201 at_200 rfl (lcmpW (own_next (own_next d p d xa).1 (own_next d p d xa).2 d xb).1 (own_next (own_next d p d xa).1 (own_next d p d xa).2 d xb).1) rfl ?_
  refine W.if_ne 216 204 at_201 rfl rfl (fun hc => absurd ((lw_eq _ _).mpr rfl) hc) (fun _ => ?_)
  refine W.lload 206 at_204 rfl rfl ?_
  refine W.lload 208 at_206 rfl rfl ?_
  refine W.lcmp 209 at_208 rfl (lcmpW (own_next (own_next (own_next d p d xa).1 (own_next d p d xa).2 d xb).1 (own_next (own_next d p d xa).1 (own_next d p d xa).2 d xb).2 d xc).1 (own_next (own_next (own_next d p d xa).1 (own_next d p d xa).2 d xb).1 (own_next (own_next d p d xa).1 (own_next d p d xa).2 d xb).2 d xc).1) rfl ?_
  refine W.if_ne 216 212 at_209 rfl rfl (fun hc => absurd ((lw_eq _ _).mpr rfl) hc) (fun _ => ?_)
  refine W.iconst 213 at_212 rfl (1 : Int32) rfl ?_
  refine W.goto 217 at_213 rfl ?_
  exact W.ireturnN (t := .boolean) at_217 rfl (by simp) (1 : Int32) rfl rfl (by decide) (by decide)
theorem own_wS {Z : State} {a0 : Array Value} (hw : ∀ d ∈ tables_1, d.before a0 Z = true) : ∀ a ∈ Bundle.stringAtoms, a.before a0 Z = true := by
  intro a ha
  simp only [Bundle.stringAtoms, List.mem_cons, List.not_mem_nil, or_false] at ha
  rcases ha with rfl | rfl | rfl | rfl | rfl | rfl | rfl
  · exact (wd_46 hw)
  · exact (wd_47 hw)
  · exact (wd_48 hw)
  · exact (wd_49 hw)
  · exact (wd_50 hw)
  · exact (wd_51 hw)
  · exact (wd_52 hw)
theorem own_secm (x : Int32) : own_sec ((x &&& 2147483647) % 86400) := by
  have h1 := c_mask x 2147483647 31 (by decide) (by decide)
  have h2 := (c_irem (x &&& 2147483647) 86400 86400 rfl).1 (by omega)
  unfold own_sec; omega
theorem own_s0 (x : Int32) : own_sec (own_max ((x &&& 2147483647) % 86401 - 1) 0) := by
  have h1 := c_mask x 2147483647 31 (by decide) (by decide)
  have h2 := (c_irem (x &&& 2147483647) 86401 86401 rfl).1 (by omega)
  have h3 := c_isub ((x &&& 2147483647) % 86401) 1; have r := rng32 ((x &&& 2147483647) % 86401 - 1); have e1 : (1 : Int32).toInt = 1 := rfl; have e0 : (0 : Int32).toInt = 0 := rfl
  rw [own_max_def]
  by_cases q : (x &&& 2147483647) % 86401 - 1 < 0
  · rw [if_pos q]; exact ⟨by decide, by decide⟩
  · rw [if_neg q]; rw [Int32.lt_iff_toInt_lt] at q; exact ⟨by omega, by omega⟩
theorem own_d (x : Int64) : -1000000000 < (x % 1000000000).toInt ∧ (x % 1000000000).toInt < 1000000000 := by
  have e : (1000000000 : Int64).toInt = 1000000000 := rfl
  rw [Int64.toInt_mod, e]; have := tr x.toInt 1000000000; omega
set_option maxRecDepth 65536 in
set_option maxHeartbeats 40000000 in
theorem law_ok (l : Launch) (Z : State) (a0 : Array Value) (hw : ∀ d ∈ tables_1, d.before a0 Z = true) (p0 : Int64) (p1 p2 p3 p4 p5 : Int32) (h : Heap) (n0 : Nat) (hn : n0 ≤ h.size) : ConG FEW tables_1 l Z x code maxLocals ret room_1 #[(.long p0), (.int p1), (.int p2), (.int p3), (.int p4), (.int p5)] h n0 (fun r _ => r = some (.int 1)) := by
  refine ConG.of_W (Ls := #[.val (.long p0), .second, .val (.int p1), .val (.int p2), .val (.int p3), .val (.int p4), .val (.int p5), .unset, .unset, .unset, .unset, .unset, .unset, .unset, .unset, .unset, .unset, .unset, .unset, .unset, .unset, .unset, .unset, .unset, .unset, .unset, .unset, .unset, .unset]) (plainFor_of_name pn_1) hn (fun m => by first | (simp [entryFrame, mkF, argsToLocals, Value.category, maxLocals]; done) | rfl) ?_
  refine W.lloadN 1 at_0 rfl rfl ?_
  refine W.ldc2J 4 at_1 rfl (wd_0 hw) ?_
  refine W.lrem 5 at_4 rfl (by decide) (p0 % (1000000000 : Int64)) rfl ?_
  refine W.lstore 7 at_5 rfl #[.val (.long p0), .second, .val (.int p1), .val (.int p2), .val (.int p3), .val (.int p4), .val (.int p5), .val (.long (p0 % (1000000000 : Int64))), .second, .unset, .unset, .unset, .unset, .unset, .unset, .unset, .unset, .unset, .unset, .unset, .unset, .unset, .unset, .unset, .unset, .unset, .unset, .unset, .unset] rfl ?_
  refine W.iloadN 8 at_7 rfl rfl ?_
  refine W.ldcI 10 at_8 rfl (wd_1 hw) ?_
  refine W.iand 11 at_10 rfl (p1 &&& (2147483647 : Int32)) rfl ?_
  refine W.ldcI 13 at_11 rfl (wd_2 hw) ?_
  refine W.irem 14 at_13 rfl (by decide) ((p1 &&& (2147483647 : Int32)) % (86401 : Int32)) rfl ?_
  refine W.iconst 15 at_14 rfl (1 : Int32) rfl ?_
  refine W.isub 16 at_15 rfl (((p1 &&& (2147483647 : Int32)) % (86401 : Int32)) - (1 : Int32)) rfl ?_
  refine W.istore 18 at_16 rfl #[.val (.long p0), .second, .val (.int p1), .val (.int p2), .val (.int p3), .val (.int p4), .val (.int p5), .val (.long (p0 % (1000000000 : Int64))), .second, .val (.int (((p1 &&& (2147483647 : Int32)) % (86401 : Int32)) - (1 : Int32))), .unset, .unset, .unset, .unset, .unset, .unset, .unset, .unset, .unset, .unset, .unset, .unset, .unset, .unset, .unset, .unset, .unset, .unset, .unset] rfl ?_
  refine W.iloadN 19 at_18 rfl rfl ?_
  refine W.ldcI 21 at_19 rfl (wd_1 hw) ?_
  refine W.iand 22 at_21 rfl (p2 &&& (2147483647 : Int32)) rfl ?_
  refine W.ldcI 24 at_22 rfl (wd_3 hw) ?_
  refine W.irem 25 at_24 rfl (by decide) ((p2 &&& (2147483647 : Int32)) % (86400 : Int32)) rfl ?_
  refine W.istore 27 at_25 rfl #[.val (.long p0), .second, .val (.int p1), .val (.int p2), .val (.int p3), .val (.int p4), .val (.int p5), .val (.long (p0 % (1000000000 : Int64))), .second, .val (.int (((p1 &&& (2147483647 : Int32)) % (86401 : Int32)) - (1 : Int32))), .val (.int ((p2 &&& (2147483647 : Int32)) % (86400 : Int32))), .unset, .unset, .unset, .unset, .unset, .unset, .unset, .unset, .unset, .unset, .unset, .unset, .unset, .unset, .unset, .unset, .unset, .unset] rfl ?_
  refine W.iload 29 at_27 rfl rfl ?_
  refine W.ldcI 31 at_29 rfl (wd_1 hw) ?_
  refine W.iand 32 at_31 rfl (p3 &&& (2147483647 : Int32)) rfl ?_
  refine W.ldcI 34 at_32 rfl (wd_3 hw) ?_
  refine W.irem 35 at_34 rfl (by decide) ((p3 &&& (2147483647 : Int32)) % (86400 : Int32)) rfl ?_
  refine W.istore 37 at_35 rfl #[.val (.long p0), .second, .val (.int p1), .val (.int p2), .val (.int p3), .val (.int p4), .val (.int p5), .val (.long (p0 % (1000000000 : Int64))), .second, .val (.int (((p1 &&& (2147483647 : Int32)) % (86401 : Int32)) - (1 : Int32))), .val (.int ((p2 &&& (2147483647 : Int32)) % (86400 : Int32))), .val (.int ((p3 &&& (2147483647 : Int32)) % (86400 : Int32))), .unset, .unset, .unset, .unset, .unset, .unset, .unset, .unset, .unset, .unset, .unset, .unset, .unset, .unset, .unset, .unset, .unset] rfl ?_
  refine W.iload 39 at_37 rfl rfl ?_
  refine W.ldcI 41 at_39 rfl (wd_1 hw) ?_
  refine W.iand 42 at_41 rfl (p4 &&& (2147483647 : Int32)) rfl ?_
  refine W.ldcI 44 at_42 rfl (wd_3 hw) ?_
  refine W.irem 45 at_44 rfl (by decide) ((p4 &&& (2147483647 : Int32)) % (86400 : Int32)) rfl ?_
  refine W.istore 47 at_45 rfl #[.val (.long p0), .second, .val (.int p1), .val (.int p2), .val (.int p3), .val (.int p4), .val (.int p5), .val (.long (p0 % (1000000000 : Int64))), .second, .val (.int (((p1 &&& (2147483647 : Int32)) % (86401 : Int32)) - (1 : Int32))), .val (.int ((p2 &&& (2147483647 : Int32)) % (86400 : Int32))), .val (.int ((p3 &&& (2147483647 : Int32)) % (86400 : Int32))), .val (.int ((p4 &&& (2147483647 : Int32)) % (86400 : Int32))), .unset, .unset, .unset, .unset, .unset, .unset, .unset, .unset, .unset, .unset, .unset, .unset, .unset, .unset, .unset, .unset] rfl ?_
  refine W.iload 49 at_47 rfl rfl ?_
  refine W.iconst 50 at_49 rfl (3 : Int32) rfl ?_
  refine W.iand 51 at_50 rfl (p5 &&& (3 : Int32)) rfl ?_
  refine W.istore 53 at_51 rfl #[.val (.long p0), .second, .val (.int p1), .val (.int p2), .val (.int p3), .val (.int p4), .val (.int p5), .val (.long (p0 % (1000000000 : Int64))), .second, .val (.int (((p1 &&& (2147483647 : Int32)) % (86401 : Int32)) - (1 : Int32))), .val (.int ((p2 &&& (2147483647 : Int32)) % (86400 : Int32))), .val (.int ((p3 &&& (2147483647 : Int32)) % (86400 : Int32))), .val (.int ((p4 &&& (2147483647 : Int32)) % (86400 : Int32))), .val (.int (p5 &&& (3 : Int32))), .unset, .unset, .unset, .unset, .unset, .unset, .unset, .unset, .unset, .unset, .unset, .unset, .unset, .unset, .unset] rfl ?_
  refine W.new 56 at_53 rfl (wd_4 hw) (wd_5 hw) (wd_6 hw) (by decide) (by decide) ?_
  intro h1100 o1100 g1100 ge1100 X1100 K1100 E1100 D1100
  have f1101 : Fld _ _ o1100 "com/example/tallymark/tallymark/LogDating" "day" "J" (.long (0 : Int64)) := D1100 (Or.inl (wd_15 hw)) (ty := .long) (by decide)
  have f1102 : Fld _ _ o1100 "com/example/tallymark/tallymark/LogDating" "stamped" "J" (.long (0 : Int64)) := D1100 (Or.inl (wd_23 hw)) (ty := .long) (by decide)
  have f1103 : Fld _ _ o1100 "com/example/tallymark/tallymark/LogDating" "previous" "I" (.int (0 : Int32)) := D1100 (Or.inl (wd_32 hw)) (ty := .int) (by decide)
  have f1104 : Fld _ _ o1100 "com/example/tallymark/tallymark/LogDating" "unusableFile" "Ljava/lang/String;" .null := D1100 (Or.inl (wd_59 hw)) (ty := (.object "java/lang/String")) (by decide)
  have f1105 : Fld _ _ o1100 "com/example/tallymark/tallymark/LogDating" "unusable" "J" (.long (0 : Int64)) := D1100 (Or.inl (wd_61 hw)) (ty := .long) (by decide)
  show WG _ _ _ _ _ _ _ _ _ _ _ _ 1 5 56 #[.val (.long p0), .second, .val (.int p1), .val (.int p2), .val (.int p3), .val (.int p4), .val (.int p5), .val (.long (p0 % (1000000000 : Int64))), .second, .val (.int (((p1 &&& (2147483647 : Int32)) % (86401 : Int32)) - (1 : Int32))), .val (.int ((p2 &&& (2147483647 : Int32)) % (86400 : Int32))), .val (.int ((p3 &&& (2147483647 : Int32)) % (86400 : Int32))), .val (.int ((p4 &&& (2147483647 : Int32)) % (86400 : Int32))), .val (.int (p5 &&& (3 : Int32))), .unset, .unset, .unset, .unset, .unset, .unset, .unset, .unset, .unset, .unset, .unset, .unset, .unset, .unset, .unset] [(.ref o1100)]
  refine W.dup 57 at_56 rfl rfl ?_
  refine W.callInit (rest := [(.ref o1100)]) (argsL := []) (a := o1100) 60 at_57 rfl (fun hn => c_in l Z a0 hw o1100 _ n0 hn ge1100 E1100 f1101 f1102 f1103 f1104 f1105) rfl (wd_7 hw) (wd_8 hw) (wd_6 hw) (wd_9 hw) (by decide) pd_4 rfl rfl rfl (by decide) 1 (Nat.le_of_ble_eq_true rfl) (by decide) (by decide) (by decide) ?_
  rintro v1106 h1106 ⟨rfl, E1106, F11106, F21106, F31106, K1106, G41106, G51106⟩
  show WG _ _ _ _ _ _ _ _ _ _ _ _ 1 5 60 #[.val (.long p0), .second, .val (.int p1), .val (.int p2), .val (.int p3), .val (.int p4), .val (.int p5), .val (.long (p0 % (1000000000 : Int64))), .second, .val (.int (((p1 &&& (2147483647 : Int32)) % (86401 : Int32)) - (1 : Int32))), .val (.int ((p2 &&& (2147483647 : Int32)) % (86400 : Int32))), .val (.int ((p3 &&& (2147483647 : Int32)) % (86400 : Int32))), .val (.int ((p4 &&& (2147483647 : Int32)) % (86400 : Int32))), .val (.int (p5 &&& (3 : Int32))), .unset, .unset, .unset, .unset, .unset, .unset, .unset, .unset, .unset, .unset, .unset, .unset, .unset, .unset, .unset] [(.ref o1100)]
  refine W.astore 62 at_60 rfl rfl #[.val (.long p0), .second, .val (.int p1), .val (.int p2), .val (.int p3), .val (.int p4), .val (.int p5), .val (.long (p0 % (1000000000 : Int64))), .second, .val (.int (((p1 &&& (2147483647 : Int32)) % (86401 : Int32)) - (1 : Int32))), .val (.int ((p2 &&& (2147483647 : Int32)) % (86400 : Int32))), .val (.int ((p3 &&& (2147483647 : Int32)) % (86400 : Int32))), .val (.int ((p4 &&& (2147483647 : Int32)) % (86400 : Int32))), .val (.int (p5 &&& (3 : Int32))), .val (.ref o1100), .unset, .unset, .unset, .unset, .unset, .unset, .unset, .unset, .unset, .unset, .unset, .unset, .unset, .unset] rfl ?_
  refine W.iconst 63 at_62 rfl (3 : Int32) rfl ?_
  refine W.newarray 65 at_63 rfl (wd_16 hw) rfl (by decide) 3 3 (by decide) (by decide) (by decide) (by decide) (by decide) rfl ?_
  intro h1107 b1107 g1107 ge1107 X1107 K1107 A1107
  have ne1108 : o1100 ≠ b1107 := Nat.ne_of_lt (Nat.lt_of_lt_of_eq E1106.lt g1107.symm)
  have A1107 : Ary _ _ b1107 .long [(.long (0 : Int64)), (.long (0 : Int64)), (.long (0 : Int64))] := A1107
  show WG _ _ _ _ _ _ _ _ _ _ _ _ 2 8 65 #[.val (.long p0), .second, .val (.int p1), .val (.int p2), .val (.int p3), .val (.int p4), .val (.int p5), .val (.long (p0 % (1000000000 : Int64))), .second, .val (.int (((p1 &&& (2147483647 : Int32)) % (86401 : Int32)) - (1 : Int32))), .val (.int ((p2 &&& (2147483647 : Int32)) % (86400 : Int32))), .val (.int ((p3 &&& (2147483647 : Int32)) % (86400 : Int32))), .val (.int ((p4 &&& (2147483647 : Int32)) % (86400 : Int32))), .val (.int (p5 &&& (3 : Int32))), .val (.ref o1100), .unset, .unset, .unset, .unset, .unset, .unset, .unset, .unset, .unset, .unset, .unset, .unset, .unset, .unset] [(.ref b1107)]
  refine W.astore 67 at_65 rfl rfl #[.val (.long p0), .second, .val (.int p1), .val (.int p2), .val (.int p3), .val (.int p4), .val (.int p5), .val (.long (p0 % (1000000000 : Int64))), .second, .val (.int (((p1 &&& (2147483647 : Int32)) % (86401 : Int32)) - (1 : Int32))), .val (.int ((p2 &&& (2147483647 : Int32)) % (86400 : Int32))), .val (.int ((p3 &&& (2147483647 : Int32)) % (86400 : Int32))), .val (.int ((p4 &&& (2147483647 : Int32)) % (86400 : Int32))), .val (.int (p5 &&& (3 : Int32))), .val (.ref o1100), .val (.ref b1107), .unset, .unset, .unset, .unset, .unset, .unset, .unset, .unset, .unset, .unset, .unset, .unset, .unset] rfl ?_
  refine W.iconst 68 at_67 rfl (0 : Int32) rfl ?_
  refine W.istore 70 at_68 rfl #[.val (.long p0), .second, .val (.int p1), .val (.int p2), .val (.int p3), .val (.int p4), .val (.int p5), .val (.long (p0 % (1000000000 : Int64))), .second, .val (.int (((p1 &&& (2147483647 : Int32)) % (86401 : Int32)) - (1 : Int32))), .val (.int ((p2 &&& (2147483647 : Int32)) % (86400 : Int32))), .val (.int ((p3 &&& (2147483647 : Int32)) % (86400 : Int32))), .val (.int ((p4 &&& (2147483647 : Int32)) % (86400 : Int32))), .val (.int (p5 &&& (3 : Int32))), .val (.ref o1100), .val (.ref b1107), .val (.int (0 : Int32)), .unset, .unset, .unset, .unset, .unset, .unset, .unset, .unset, .unset, .unset, .unset, .unset] rfl ?_
  refine W.iload 72 at_70 rfl rfl ?_
  refine W.iconst 73 at_72 rfl (1 : Int32) rfl ?_
  refine W.icmp_eq 111 76 at_73 rfl rfl ?_ ?_
  · intro hc1109
    refine W.iload 113 at_111 rfl rfl ?_
    refine W.iconst 114 at_113 rfl (2 : Int32) rfl ?_
    refine W.icmp_ne 128 117 at_114 rfl rfl ?_ ?_
    · intro hc1110
      have q1111 := (E1106.keep K1107)
      have q1112 := (F11106.keep K1107 nin0)
      have q1113 := (F21106.keep K1107 nin0)
      have q1114 := (F31106.keep K1107 nin0)
      exact WG.widen (((l128u l Z a0 hw p0 (p0 % (1000000000 : Int64)) p1 p2 p3 p4 p5 (((p1 &&& (2147483647 : Int32)) % (86401 : Int32)) - (1 : Int32)) ((p2 &&& (2147483647 : Int32)) % (86400 : Int32)) ((p3 &&& (2147483647 : Int32)) % (86400 : Int32)) ((p4 &&& (2147483647 : Int32)) % (86400 : Int32)) (p5 &&& (3 : Int32)) o1100 b1107 (0 : Int64) (0 : Int32) _ n0 ge1100 q1111 q1112 q1113 q1114).mono (by decide) (by decide)).post (fun r hf q => q.1))
    · intro hc1110
      refine W.aload 119 at_117 rfl rfl rfl ?_
      refine W.ldcS 121 at_119 rfl (wd_45 hw) (own_wS hw) 4 (by decide) (by decide) (by decide) (by decide) ?_
      intro h1115 a1115 X1115 K1115
      show WG _ _ _ _ _ _ _ _ _ _ _ _ 4 16 121 #[.val (.long p0), .second, .val (.int p1), .val (.int p2), .val (.int p3), .val (.int p4), .val (.int p5), .val (.long (p0 % (1000000000 : Int64))), .second, .val (.int (((p1 &&& (2147483647 : Int32)) % (86401 : Int32)) - (1 : Int32))), .val (.int ((p2 &&& (2147483647 : Int32)) % (86400 : Int32))), .val (.int ((p3 &&& (2147483647 : Int32)) % (86400 : Int32))), .val (.int ((p4 &&& (2147483647 : Int32)) % (86400 : Int32))), .val (.int (p5 &&& (3 : Int32))), .val (.ref o1100), .val (.ref b1107), .val (.int (0 : Int32)), .unset, .unset, .unset, .unset, .unset, .unset, .unset, .unset, .unset, .unset, .unset, .unset] [(.ref a1115), (.ref o1100)]
      refine W.lconst 122 at_121 rfl (1 : Int64) rfl ?_
      have q1116 := ((E1106.keep K1107).keep K1115)
      have q1117 := ((F11106.keep K1107 nin0).keep K1115 nin0)
      have q1118 := ((F21106.keep K1107 nin0).keep K1115 nin0)
      have q1119 := ((F31106.keep K1107 nin0).keep K1115 nin0)
      have q1120 := ((G41106.keep K1107 nin0).keep K1115 nin0)
      have q1121 := ((G51106.keep K1107 nin0).keep K1115 nin0)
      refine W.callV (rest := []) (argsL := [(.ref a1115), (.long (1 : Int64))]) (a := o1100) 125 at_122 rfl (fun hn => c_un l Z a0 hw o1100 a1115 (-9223372036854775808 : Int64) (0 : Int64) (1 : Int64) (0 : Int32) _ n0 hn ge1100 q1116 q1117 q1118 q1119 q1120 q1121) q1116 (wd_53 hw) (wd_54 hw) (wd_56 hw) rfl (wd_55 hw) (wd_6 hw) (wd_57 hw) (by decide) pd_5 rfl rfl rfl (by decide) 0 (Nat.le_of_ble_eq_true rfl) (by decide) (by decide) (by decide) ?_
      rintro v1122 h1122 ⟨rfl, E1122, F11122, F21122, F31122, K1122⟩
      show WG _ _ _ _ _ _ _ _ _ _ _ _ 4 16 125 #[.val (.long p0), .second, .val (.int p1), .val (.int p2), .val (.int p3), .val (.int p4), .val (.int p5), .val (.long (p0 % (1000000000 : Int64))), .second, .val (.int (((p1 &&& (2147483647 : Int32)) % (86401 : Int32)) - (1 : Int32))), .val (.int ((p2 &&& (2147483647 : Int32)) % (86400 : Int32))), .val (.int ((p3 &&& (2147483647 : Int32)) % (86400 : Int32))), .val (.int ((p4 &&& (2147483647 : Int32)) % (86400 : Int32))), .val (.int (p5 &&& (3 : Int32))), .val (.ref o1100), .val (.ref b1107), .val (.int (0 : Int32)), .unset, .unset, .unset, .unset, .unset, .unset, .unset, .unset, .unset, .unset, .unset, .unset] []
      refine W.iconst 126 at_125 rfl (0 : Int32) rfl ?_
      refine W.istore 128 at_126 rfl #[.val (.long p0), .second, .val (.int p1), .val (.int p2), .val (.int p3), .val (.int p4), .val (.int p5), .val (.long (p0 % (1000000000 : Int64))), .second, .val (.int (((p1 &&& (2147483647 : Int32)) % (86401 : Int32)) - (1 : Int32))), .val (.int ((p2 &&& (2147483647 : Int32)) % (86400 : Int32))), .val (.int ((p3 &&& (2147483647 : Int32)) % (86400 : Int32))), .val (.int ((p4 &&& (2147483647 : Int32)) % (86400 : Int32))), .val (.int (p5 &&& (3 : Int32))), .val (.ref o1100), .val (.ref b1107), .val (.int (0 : Int32)), .unset, .unset, .unset, .unset, .unset, .unset, .unset, .unset, .unset, .unset, .unset, .unset] rfl ?_
      exact ((l128u l Z a0 hw p0 (p0 % (1000000000 : Int64)) p1 p2 p3 p4 p5 (((p1 &&& (2147483647 : Int32)) % (86401 : Int32)) - (1 : Int32)) ((p2 &&& (2147483647 : Int32)) % (86400 : Int32)) ((p3 &&& (2147483647 : Int32)) % (86400 : Int32)) ((p4 &&& (2147483647 : Int32)) % (86400 : Int32)) (p5 &&& (3 : Int32)) o1100 b1107 (0 : Int64) (0 : Int32) _ n0 ge1100 E1122 F11122 F21122 F31122).mono (by decide) (by decide)).post (fun r hf q => ⟨q.1, by rw [q.2]; exact K1122.1⟩)
  · intro hc1109
    refine W.aload 78 at_76 rfl rfl rfl ?_
    refine W.lload 80 at_78 rfl rfl ?_
    refine W.iload 82 at_80 rfl rfl ?_
    have q1123 := (E1106.keep K1107)
    have q1124 := (F11106.keep K1107 nin0)
    have q1125 := (F21106.keep K1107 nin0)
    have q1126 := (F31106.keep K1107 nin0)
    have q1127 := (G41106.keep K1107 nin0)
    have q1128 := (G51106.keep K1107 nin0)
    refine W.callV (rest := []) (argsL := [(.long (p0 % (1000000000 : Int64))), (.int (((p1 &&& (2147483647 : Int32)) % (86401 : Int32)) - (1 : Int32)))]) (a := o1100) 85 at_82 rfl (fun hn => c_st l Z a0 hw o1100 (p0 % (1000000000 : Int64)) (((p1 &&& (2147483647 : Int32)) % (86401 : Int32)) - (1 : Int32)) _ n0 hn ge1100 q1123 q1124 q1125 q1126 q1127 q1128) q1123 (wd_17 hw) (wd_18 hw) (wd_20 hw) rfl (wd_19 hw) (wd_6 hw) (wd_21 hw) (by decide) pd_6 rfl rfl rfl (by decide) 0 (Nat.le_of_ble_eq_true rfl) (by decide) (by decide) (by decide) ?_
    rintro v1129 h1129 ⟨rfl, E1129, F11129, F21129, F31129, K1129, G41129, G51129⟩
    show WG _ _ _ _ _ _ _ _ _ _ _ _ 2 8 85 #[.val (.long p0), .second, .val (.int p1), .val (.int p2), .val (.int p3), .val (.int p4), .val (.int p5), .val (.long (p0 % (1000000000 : Int64))), .second, .val (.int (((p1 &&& (2147483647 : Int32)) % (86401 : Int32)) - (1 : Int32))), .val (.int ((p2 &&& (2147483647 : Int32)) % (86400 : Int32))), .val (.int ((p3 &&& (2147483647 : Int32)) % (86400 : Int32))), .val (.int ((p4 &&& (2147483647 : Int32)) % (86400 : Int32))), .val (.int (p5 &&& (3 : Int32))), .val (.ref o1100), .val (.ref b1107), .val (.int (0 : Int32)), .unset, .unset, .unset, .unset, .unset, .unset, .unset, .unset, .unset, .unset, .unset, .unset] []
    refine W.aload 87 at_85 rfl rfl rfl ?_
    refine W.iconst 88 at_87 rfl (0 : Int32) rfl ?_
    refine W.lload 90 at_88 rfl rfl ?_
    have q1130 := (A1107.keep K1129 (ninS (Ne.symm ne1108) nin0))
    refine W.lastore 91 at_90 rfl q1130 0 (by decide) (by decide) (Nat.le_of_ble_eq_true rfl) ge1107 ?_
    intro h1131 W1131 K1131 A1131
    have A1131 : Ary _ _ b1107 .long [(.long (p0 % (1000000000 : Int64))), (.long (0 : Int64)), (.long (0 : Int64))] := A1131
    refine W.aload 93 at_91 rfl rfl rfl ?_
    refine W.iconst 94 at_93 rfl (1 : Int32) rfl ?_
    refine W.iload 96 at_94 rfl rfl ?_
    refine W.iconst 97 at_96 rfl (0 : Int32) rfl ?_
    refine W.callS (rest := [(.int (1 : Int32)), (.ref b1107)]) (argsL := [(.int (((p1 &&& (2147483647 : Int32)) % (86401 : Int32)) - (1 : Int32))), (.int (0 : Int32))]) 100 at_97 rfl (fun hn => c_max l Z a0 hw (((p1 &&& (2147483647 : Int32)) % (86401 : Int32)) - (1 : Int32)) (0 : Int32) _ n0 hn) (wd_33 hw) (wd_28 hw) (wd_29 hw) (wd_30 hw) (by decide) pd_0 rfl rfl rfl (by decide) 2 (Nat.le_of_ble_eq_true rfl) (by decide) (by decide) (by decide) ?_
    rintro v1132 h1132 ⟨rfl, rfl⟩
    show WG _ _ _ _ _ _ _ _ _ _ _ _ 2 8 100 #[.val (.long p0), .second, .val (.int p1), .val (.int p2), .val (.int p3), .val (.int p4), .val (.int p5), .val (.long (p0 % (1000000000 : Int64))), .second, .val (.int (((p1 &&& (2147483647 : Int32)) % (86401 : Int32)) - (1 : Int32))), .val (.int ((p2 &&& (2147483647 : Int32)) % (86400 : Int32))), .val (.int ((p3 &&& (2147483647 : Int32)) % (86400 : Int32))), .val (.int ((p4 &&& (2147483647 : Int32)) % (86400 : Int32))), .val (.int (p5 &&& (3 : Int32))), .val (.ref o1100), .val (.ref b1107), .val (.int (0 : Int32)), .unset, .unset, .unset, .unset, .unset, .unset, .unset, .unset, .unset, .unset, .unset, .unset] [(.int (own_max (((p1 &&& (2147483647 : Int32)) % (86401 : Int32)) - (1 : Int32)) (0 : Int32))), (.int (1 : Int32)), (.ref b1107)]
    refine W.i2l 101 at_100 rfl ((own_max (((p1 &&& (2147483647 : Int32)) % (86401 : Int32)) - (1 : Int32)) (0 : Int32)).toInt64) rfl ?_
    refine W.lastore 102 at_101 rfl A1131 1 (by decide) (by decide) (Nat.le_of_ble_eq_true rfl) ge1107 ?_
    intro h1133 W1133 K1133 A1133
    have A1133 : Ary _ _ b1107 .long [(.long (p0 % (1000000000 : Int64))), (.long ((own_max (((p1 &&& (2147483647 : Int32)) % (86401 : Int32)) - (1 : Int32)) (0 : Int32)).toInt64)), (.long (0 : Int64))] := A1133
    refine W.aload 104 at_102 rfl rfl rfl ?_
    refine W.iconst 105 at_104 rfl (2 : Int32) rfl ?_
    refine W.lload 107 at_105 rfl rfl ?_
    refine W.lastore 108 at_107 rfl A1133 2 (by decide) (by decide) (Nat.le_of_ble_eq_true rfl) ge1107 ?_
    intro h1134 W1134 K1134 A1134
    have A1134 : Ary _ _ b1107 .long [(.long (p0 % (1000000000 : Int64))), (.long ((own_max (((p1 &&& (2147483647 : Int32)) % (86401 : Int32)) - (1 : Int32)) (0 : Int32)).toInt64)), (.long (p0 % (1000000000 : Int64)))] := A1134
    refine W.iconst 109 at_108 rfl (1 : Int32) rfl ?_
    refine W.istore 111 at_109 rfl #[.val (.long p0), .second, .val (.int p1), .val (.int p2), .val (.int p3), .val (.int p4), .val (.int p5), .val (.long (p0 % (1000000000 : Int64))), .second, .val (.int (((p1 &&& (2147483647 : Int32)) % (86401 : Int32)) - (1 : Int32))), .val (.int ((p2 &&& (2147483647 : Int32)) % (86400 : Int32))), .val (.int ((p3 &&& (2147483647 : Int32)) % (86400 : Int32))), .val (.int ((p4 &&& (2147483647 : Int32)) % (86400 : Int32))), .val (.int (p5 &&& (3 : Int32))), .val (.ref o1100), .val (.ref b1107), .val (.int (1 : Int32)), .unset, .unset, .unset, .unset, .unset, .unset, .unset, .unset, .unset, .unset, .unset, .unset] rfl ?_
    refine W.iload 113 at_111 rfl rfl ?_
    refine W.iconst 114 at_113 rfl (2 : Int32) rfl ?_
    refine W.icmp_ne 128 117 at_114 rfl rfl ?_ ?_
    · intro hc1135
      have q1136 := (((E1129.keep K1131).keep K1133).keep K1134)
      have q1137 := (((F11129.keep K1131 (ninS ne1108 nin0)).keep K1133 (ninS ne1108 nin0)).keep K1134 (ninS ne1108 nin0))
      have q1138 := (((F21129.keep K1131 (ninS ne1108 nin0)).keep K1133 (ninS ne1108 nin0)).keep K1134 (ninS ne1108 nin0))
      have q1139 := (((F31129.keep K1131 (ninS ne1108 nin0)).keep K1133 (ninS ne1108 nin0)).keep K1134 (ninS ne1108 nin0))
      exact WG.widen ((l128d l Z a0 hw p0 (p0 % (1000000000 : Int64)) p1 p2 p3 p4 p5 (((p1 &&& (2147483647 : Int32)) % (86401 : Int32)) - (1 : Int32)) ((p2 &&& (2147483647 : Int32)) % (86400 : Int32)) ((p3 &&& (2147483647 : Int32)) % (86400 : Int32)) ((p4 &&& (2147483647 : Int32)) % (86400 : Int32)) (p5 &&& (3 : Int32)) o1100 b1107 (own_max (((p1 &&& (2147483647 : Int32)) % (86401 : Int32)) - (1 : Int32)) (0 : Int32)) _ n0 ge1100 q1136 q1137 q1138 q1139 ge1107 ne1108 A1134 ⟨by omega, by omega, (own_d p0).1, (own_d p0).2, own_s0 p1⟩ (own_secm p2) (own_secm p3) (own_secm p4)).mono (by decide) (by decide))
    · intro hc1135
      refine W.aload 119 at_117 rfl rfl rfl ?_
      refine W.ldcS 121 at_119 rfl (wd_45 hw) (own_wS hw) 4 (by decide) (by decide) (by decide) (by decide) ?_
      intro h1140 a1140 X1140 K1140
      show WG _ _ _ _ _ _ _ _ _ _ _ _ 4 16 121 #[.val (.long p0), .second, .val (.int p1), .val (.int p2), .val (.int p3), .val (.int p4), .val (.int p5), .val (.long (p0 % (1000000000 : Int64))), .second, .val (.int (((p1 &&& (2147483647 : Int32)) % (86401 : Int32)) - (1 : Int32))), .val (.int ((p2 &&& (2147483647 : Int32)) % (86400 : Int32))), .val (.int ((p3 &&& (2147483647 : Int32)) % (86400 : Int32))), .val (.int ((p4 &&& (2147483647 : Int32)) % (86400 : Int32))), .val (.int (p5 &&& (3 : Int32))), .val (.ref o1100), .val (.ref b1107), .val (.int (1 : Int32)), .unset, .unset, .unset, .unset, .unset, .unset, .unset, .unset, .unset, .unset, .unset, .unset] [(.ref a1140), (.ref o1100)]
      refine W.lconst 122 at_121 rfl (1 : Int64) rfl ?_
      have q1141 := ((((E1129.keep K1131).keep K1133).keep K1134).keep K1140)
      have q1142 := ((((F11129.keep K1131 (ninS ne1108 nin0)).keep K1133 (ninS ne1108 nin0)).keep K1134 (ninS ne1108 nin0)).keep K1140 nin0)
      have q1143 := ((((F21129.keep K1131 (ninS ne1108 nin0)).keep K1133 (ninS ne1108 nin0)).keep K1134 (ninS ne1108 nin0)).keep K1140 nin0)
      have q1144 := ((((F31129.keep K1131 (ninS ne1108 nin0)).keep K1133 (ninS ne1108 nin0)).keep K1134 (ninS ne1108 nin0)).keep K1140 nin0)
      have q1145 := ((((G41129.keep K1131 (ninS ne1108 nin0)).keep K1133 (ninS ne1108 nin0)).keep K1134 (ninS ne1108 nin0)).keep K1140 nin0)
      have q1146 := ((((G51129.keep K1131 (ninS ne1108 nin0)).keep K1133 (ninS ne1108 nin0)).keep K1134 (ninS ne1108 nin0)).keep K1140 nin0)
      refine W.callV (rest := []) (argsL := [(.ref a1140), (.long (1 : Int64))]) (a := o1100) 125 at_122 rfl (fun hn => c_un l Z a0 hw o1100 a1140 (p0 % (1000000000 : Int64)) (p0 % (1000000000 : Int64)) (1 : Int64) (own_max (((p1 &&& (2147483647 : Int32)) % (86401 : Int32)) - (1 : Int32)) (0 : Int32)) _ n0 hn ge1100 q1141 q1142 q1143 q1144 q1145 q1146) q1141 (wd_53 hw) (wd_54 hw) (wd_56 hw) rfl (wd_55 hw) (wd_6 hw) (wd_57 hw) (by decide) pd_5 rfl rfl rfl (by decide) 0 (Nat.le_of_ble_eq_true rfl) (by decide) (by decide) (by decide) ?_
      rintro v1147 h1147 ⟨rfl, E1147, F11147, F21147, F31147, K1147⟩
      show WG _ _ _ _ _ _ _ _ _ _ _ _ 4 16 125 #[.val (.long p0), .second, .val (.int p1), .val (.int p2), .val (.int p3), .val (.int p4), .val (.int p5), .val (.long (p0 % (1000000000 : Int64))), .second, .val (.int (((p1 &&& (2147483647 : Int32)) % (86401 : Int32)) - (1 : Int32))), .val (.int ((p2 &&& (2147483647 : Int32)) % (86400 : Int32))), .val (.int ((p3 &&& (2147483647 : Int32)) % (86400 : Int32))), .val (.int ((p4 &&& (2147483647 : Int32)) % (86400 : Int32))), .val (.int (p5 &&& (3 : Int32))), .val (.ref o1100), .val (.ref b1107), .val (.int (1 : Int32)), .unset, .unset, .unset, .unset, .unset, .unset, .unset, .unset, .unset, .unset, .unset, .unset] []
      refine W.iconst 126 at_125 rfl (0 : Int32) rfl ?_
      refine W.istore 128 at_126 rfl #[.val (.long p0), .second, .val (.int p1), .val (.int p2), .val (.int p3), .val (.int p4), .val (.int p5), .val (.long (p0 % (1000000000 : Int64))), .second, .val (.int (((p1 &&& (2147483647 : Int32)) % (86401 : Int32)) - (1 : Int32))), .val (.int ((p2 &&& (2147483647 : Int32)) % (86400 : Int32))), .val (.int ((p3 &&& (2147483647 : Int32)) % (86400 : Int32))), .val (.int ((p4 &&& (2147483647 : Int32)) % (86400 : Int32))), .val (.int (p5 &&& (3 : Int32))), .val (.ref o1100), .val (.ref b1107), .val (.int (0 : Int32)), .unset, .unset, .unset, .unset, .unset, .unset, .unset, .unset, .unset, .unset, .unset, .unset] rfl ?_
      exact ((l128u l Z a0 hw p0 (p0 % (1000000000 : Int64)) p1 p2 p3 p4 p5 (((p1 &&& (2147483647 : Int32)) % (86401 : Int32)) - (1 : Int32)) ((p2 &&& (2147483647 : Int32)) % (86400 : Int32)) ((p3 &&& (2147483647 : Int32)) % (86400 : Int32)) ((p4 &&& (2147483647 : Int32)) % (86400 : Int32)) (p5 &&& (3 : Int32)) o1100 b1107 (p0 % (1000000000 : Int64)) (own_max (((p1 &&& (2147483647 : Int32)) % (86401 : Int32)) - (1 : Int32)) (0 : Int32)) _ n0 ge1100 E1147 F11147 F21147 F31147).mono (by decide) (by decide)).post (fun r hf q => ⟨q.1, by rw [q.2]; exact K1147.1⟩)
set_option maxRecDepth 65536 in
set_option maxHeartbeats 40000000 in
theorem comes_1 {Post : Tables → Env → Array Value → State → Outcome → State → Prop} (hpost : ∀ tb e args s v u, (limb_1_1.after args s (.returned v) u = true ∧ limb_1_2.after args s (.returned v) u = true ∧ True) → FEW s (.returned v) u (Jvm.fieldLocs frame_1_writes args s ++ Jvm.arrayLocs frame_1_arrays args s ++ Jvm.staticLocs frame_1_statics s) 16 1152 → Post tb e args s (.returned v) u) :
    ArmFor flags0 classFile x code maxLocals ret World_1 tables_1 room_1 Calls_1 rest_1 Pre_1 Post := by
  intro l hfl _ _ p e ha hc hk s m args below hf hA hF happ hP
  obtain ⟨hcalls, hrest, hpre⟩ := hP
  obtain ⟨-, -, -, hnamed, -, -, -, hat⟩ := (Spec.applies_iff hf).mp happ
  obtain ⟨hg, hn⟩ := and_e (Cond.before_iff.mp (show (Jvm.Cond.and given_1 narrow_1).before args s = true from hpre))
  obtain ⟨hcnt, hg1⟩ := and_e hg
  obtain ⟨k0, hh0⟩ := and_e hg1
  obtain ⟨k1, hh1⟩ := and_e hh0
  obtain ⟨k2, hh2⟩ := and_e hh1
  obtain ⟨k3, hh3⟩ := and_e hh2
  obtain ⟨k4, hh4⟩ := and_e hh3
  have k5 := hh4
  obtain ⟨w0, w1, w2, w3, w4, w5, rfl⟩ : ∃ w0 w1 w2 w3 w4 w5 : Value, args = #[w0, w1, w2, w3, w4, w5] := by
    have hs : args.size = 6 := by simpa [Cond.value, given_1] using hcnt
    obtain ⟨L⟩ := args
    match L, hs with
    | [w0, w1, w2, w3, w4, w5], _ => exact ⟨w0, w1, w2, w3, w4, w5, rfl⟩
  have hw := fun d (hd : d ∈ tables_1) => atoms_spec (ws := Jvm.Cond.code x code maxLocals ret :: tables_1) hat d (List.mem_cons_of_mem _ hd)
  have hfit : Fit s := fun {y c} hc i hi => by
    obtain ⟨ha, rfl⟩ := Array.getElem?_eq_some_iff.mp hc
    have q := List.all_eq_true.mp ((Array.all_eq_true_iff_forall_mem.mp hF) _ (Array.getElem_mem ha)) i (List.mem_range.mpr hi)
    simpa [Array.getElem?_eq_getElem hi] using q
  obtain ⟨i0, ei0⟩ := isL_v k0
  obtain rfl : w0 = (.long i0) := Option.some.inj ei0
  obtain ⟨i1, ei1⟩ := is_v k1
  obtain rfl : w1 = (.int i1) := Option.some.inj ei1
  obtain ⟨i2, ei2⟩ := is_v k2
  obtain rfl : w2 = (.int i2) := Option.some.inj ei2
  obtain ⟨i3, ei3⟩ := is_v k3
  obtain rfl : w3 = (.int i3) := Option.some.inj ei3
  obtain ⟨i4, ei4⟩ := is_v k4
  obtain rfl : w4 = (.int i4) := Option.some.inj ei4
  obtain ⟨i5, ei5⟩ := is_v k5
  obtain rfl : w5 = (.int i5) := Option.some.inj ei5
  obtain ⟨n, o, h1, h2, h3, _, L, rfl, ⟨rfl, N⟩, hq⟩ := law_ok l s _ hw i0 i1 i2 i3 i4 i5 s.heap s.heap.size (Nat.le_refl _) p e ha hc hk s m _ below hf ((Spec.applies_iff_loose hf).mp happ).1 ⟨rfl, State.Warmed39.refl s, rfl⟩ trivial
  refine ⟨n, _, h1, h2, h3, hpost _ _ _ _ _ _ ⟨Cond.after_iff.mpr rfl, Cond.after_iff.mpr (eq_i res_at (Term.int_eval (1)) rfl), trivial⟩ ⟨hq.1, hq.2.1, hq.2.2.1, (hq.2.2.2.sift fun y hy => Or.inr (N y hy)).mono (by decide) (by decide)⟩⟩
theorem main_1_1 : Claimed_1_1 := comes_1 fun _ _ _ _ _ _ h hF => ⟨h.1, hF⟩
theorem main_1_2 : Claimed_1_2 := comes_1 fun _ _ _ _ _ _ h hF => ⟨h.2.1, hF⟩
end Jvm.Pilot.@@N@@
namespace Jvm.Pilot.@@N@@
open Jvm Jvm.ClassFile Sem Op Lib Jvm.Free Jvm.Stand Jvm.Pilot.@@N@@.Jvm.D
/-! MADE BY PROGRAM (witnessworld.py) out of the Statement's table words and the real class files: 17 classes; the members and pool entries that the words name. The judged class is class 1, her method 1. -/
namespace start1
open Jvm.ClassFile
def u (s : String) : CpInfo := .utf8 (stringToUtf16 s)
/-- a pool by its gaps: so many unusable entries, then the entry; so many at the end -/
def gap : Nat → List CpInfo → List CpInfo
  | 0, r => r
  | n + 1, r => .unusable :: gap n r
def poolList (es : List (Nat × CpInfo)) (last : Nat) : List CpInfo := es.foldr (fun e r => gap e.1 (e.2 :: r)) (gap last [])
def pool (es : List (Nat × CpInfo)) (last : Nat) : Array CpInfo := ⟨poolList es last⟩
def fileOf (pool : Array CpInfo) (this : Nat) (attrs : Array Attribute := #[]) (ms : Array MethodInfo := #[]) (fl : Nat := 33) (sup : Nat := 0) (ifs : Array Nat := #[]) (fds : Array FieldInfo := #[]) : ClassFile where
  minorVersion := 0
  majorVersion := 65
  constantPool := pool
  accessFlags := fl
  thisClass := this
  superClass := sup
  interfaces := ifs
  fields := fds
  methods := ms
  attributes := attrs
def plain (name : String) (sup : Option ClassId) : Class where
  name := name
  kind := .ordinary
  loader := none
  accessFlags := 33
  super := sup
  interfaces := #[]
  cf := none
  fields := #[]
  methods := #[]
  instanceTypes := #[]
  staticTypes := #[]
  resolved := #[]
  callSites := []
  init := .initialized
  statics := none
  mirror := none

def pool0 : Array CpInfo := pool [(5, u "<init>"), (0, u "()V"), (1, .class_ 10), (1, u "java/lang/Object")] 113

def k0c0 : Code := { maxStack := 0, maxLocals := 1, code := object_method_1_code, exceptionTable := #[], attributes := #[] }
def k0m0 : Method := { name := "<init>", desc := "()V", sig := { parameters := [], returnType := none }, accessFlags := 1, code := some k0c0 }
/-- java/lang/Object -/
def k0 : Class := { plain "java/lang/Object" none with
  accessFlags := 33
  interfaces := #[]
  cf := some (fileOf pool0 8 #[] #[{ accessFlags := 1, nameIndex := 5, descriptorIndex := 6, attributes := #[] }] 33 0 #[] #[])
  fields := #[]
  methods := #[k0m0]
  instanceTypes := #[]
  staticTypes := #[]
  resolved := Array.replicate 124 none
  statics := none }

def pool1 : Array CpInfo := pool [(2, .class_ 4), (0, .nameAndType 5 6), (0, u "java/lang/Object"), (0, u "<init>"), (0, u "()V"), (0, .long 1000000000), (1, .integer 2147483647), (0, .integer 86401), (0, .integer 86400), (0, .class_ 13), (0, u "com/example/tallymark/tallymark/LogDating"), (0, .methodref 12 3), (0, .methodref 12 16), (0, .nameAndType 17 18), (0, u "stamp"), (0, u "(JI)V"), (0, .methodref 20 21), (0, .class_ 22), (0, .nameAndType 23 24), (0, u "java/lang/Math"), (0, u "max"), (0, u "(II)I"), (0, .string 26), (0, u "f"), (0, .methodref 12 28), (0, .nameAndType 29 30), (0, u "unusable"), (0, u "(Ljava/lang/String;J)V"), (0, .methodref 12 32), (0, .nameAndType 33 34), (0, u "of"), (0, u "(I)J"), (0, .methodref 36 37), (0, .class_ 38), (0, .nameAndType 39 40), (0, u "com/example/tallymark/tallymark/LogDatingOfPinLaw"), (0, u "expect"), (0, u "([JZI)J"), (2, .long 9223372036854775808), (1, .long 18446744073709551615), (3, u "law"), (0, u "(JIIIII)Z")] 5

def k1m0 : Method := { name := "<init>", desc := "()V", sig := { parameters := [], returnType := none }, accessFlags := 1, code := none }
def k1c1 : Code := { maxStack := 4, maxLocals := 29, code := code, exceptionTable := #[], attributes := #[] }
def k1m1 : Method := { name := "law", desc := "(JIIIII)Z", sig := { parameters := [.long, .int, .int, .int, .int, .int], returnType := some .boolean }, accessFlags := 9, code := some k1c1 }
def k1c2 : Code := { maxStack := 6, maxLocals := 8, code := method_3_code, exceptionTable := #[], attributes := #[] }
def k1m2 : Method := { name := "expect", desc := "([JZI)J", sig := { parameters := [(.array .long), .boolean, .int], returnType := some .long }, accessFlags := 10, code := some k1c2 }
/-- com/example/tallymark/tallymark/LogDatingOfPinLaw -/
def k1 : Class := { plain "com/example/tallymark/tallymark/LogDatingOfPinLaw" (some 0) with
  accessFlags := 49
  interfaces := #[]
  cf := some (fileOf pool1 36 #[] #[{ accessFlags := 1, nameIndex := 5, descriptorIndex := 6, attributes := #[] }, { accessFlags := 9, nameIndex := 49, descriptorIndex := 50, attributes := #[] }, { accessFlags := 10, nameIndex := 39, descriptorIndex := 40, attributes := #[] }] 49 2 #[] #[])
  fields := #[]
  methods := #[k1m0, k1m1, k1m2]
  instanceTypes := #[]
  staticTypes := #[]
  resolved := Array.replicate 56 none
  statics := none }

def pool2 : Array CpInfo := pool [(1, .methodref 2 3), (0, .class_ 4), (0, .nameAndType 5 6), (0, u "java/lang/Object"), (0, u "<init>"), (0, u "()V"), (2, .long 9223372036854775808), (1, .fieldref 12 13), (0, .class_ 14), (0, .nameAndType 15 16), (0, u "com/example/tallymark/tallymark/LogDating"), (0, u "day"), (0, u "J"), (0, .fieldref 12 18), (0, .nameAndType 19 16), (0, u "stamped"), (0, .fieldref 12 21), (0, .nameAndType 22 23), (0, u "previous"), (0, u "I"), (0, .fieldref 12 25), (0, .nameAndType 26 27), (0, u "unusableFile"), (0, u "Ljava/lang/String;"), (0, .fieldref 12 29), (0, .nameAndType 30 16), (0, u "unusable"), (0, .methodref 12 32), (0, .nameAndType 33 34), (0, u "startOf"), (0, u "(I)I"), (4, .integer 82800), (12, .methodref 53 54), (0, .class_ 55), (0, .nameAndType 56 57), (0, u "java/lang/Math"), (0, u "max"), (0, u "(II)I"), (0, u "WRITTEN_LATE"), (5, u "stamp"), (0, u "(JI)V"), (3, u "(Ljava/lang/String;J)V"), (0, u "of"), (0, u "(I)J")] 20

def k2c0 : Code := { maxStack := 3, maxLocals := 1, code := prog_72_method_1_code, exceptionTable := #[], attributes := #[] }
def k2m0 : Method := { name := "<init>", desc := "()V", sig := { parameters := [], returnType := none }, accessFlags := 0, code := some k2c0 }
def k2c1 : Code := { maxStack := 3, maxLocals := 4, code := prog_72_method_3_code, exceptionTable := #[], attributes := #[] }
def k2m1 : Method := { name := "stamp", desc := "(JI)V", sig := { parameters := [.long, .int], returnType := none }, accessFlags := 0, code := some k2c1 }
def k2c2 : Code := { maxStack := 3, maxLocals := 4, code := prog_72_method_5_code, exceptionTable := #[], attributes := #[] }
def k2m2 : Method := { name := "unusable", desc := "(Ljava/lang/String;J)V", sig := { parameters := [(.object "java/lang/String"), .long], returnType := none }, accessFlags := 0, code := some k2c2 }
def k2c3 : Code := { maxStack := 5, maxLocals := 5, code := prog_72_method_6_code, exceptionTable := #[], attributes := #[] }
def k2m3 : Method := { name := "of", desc := "(I)J", sig := { parameters := [.int], returnType := some .long }, accessFlags := 0, code := some k2c3 }
def k2c4 : Code := { maxStack := 2, maxLocals := 1, code := prog_72_method_8_code, exceptionTable := #[], attributes := #[] }
def k2m4 : Method := { name := "startOf", desc := "(I)I", sig := { parameters := [.int], returnType := some .int }, accessFlags := 10, code := some k2c4 }
/-- com/example/tallymark/tallymark/LogDating -/
def k2 : Class := { plain "com/example/tallymark/tallymark/LogDating" (some 0) with
  accessFlags := 32
  interfaces := #[]
  cf := some (fileOf pool2 12 #[] #[{ accessFlags := 0, nameIndex := 5, descriptorIndex := 6, attributes := #[] }, { accessFlags := 0, nameIndex := 64, descriptorIndex := 65, attributes := #[] }, { accessFlags := 0, nameIndex := 30, descriptorIndex := 69, attributes := #[] }, { accessFlags := 0, nameIndex := 70, descriptorIndex := 71, attributes := #[] }, { accessFlags := 10, nameIndex := 33, descriptorIndex := 34, attributes := #[] }] 32 2 #[] #[{ accessFlags := 26, nameIndex := 58, descriptorIndex := 23, attributes := #[] }, { accessFlags := 2, nameIndex := 15, descriptorIndex := 16, attributes := #[] }, { accessFlags := 2, nameIndex := 19, descriptorIndex := 16, attributes := #[] }, { accessFlags := 2, nameIndex := 22, descriptorIndex := 23, attributes := #[] }, { accessFlags := 2, nameIndex := 26, descriptorIndex := 27, attributes := #[] }, { accessFlags := 2, nameIndex := 30, descriptorIndex := 16, attributes := #[] }])
  fields := #[{ name := "WRITTEN_LATE", type := .int, accessFlags := 26, slot := 0, constantValue := 0 }, { name := "day", type := .long, accessFlags := 2, slot := 0, constantValue := 0 }, { name := "stamped", type := .long, accessFlags := 2, slot := 1, constantValue := 0 }, { name := "previous", type := .int, accessFlags := 2, slot := 2, constantValue := 0 }, { name := "unusableFile", type := (.object "java/lang/String"), accessFlags := 2, slot := 3, constantValue := 0 }, { name := "unusable", type := .long, accessFlags := 2, slot := 4, constantValue := 0 }]
  methods := #[k2m0, k2m1, k2m2, k2m3, k2m4]
  instanceTypes := #[.long, .long, .int, (.object "java/lang/String"), .long]
  staticTypes := #[.int]
  resolved := Array.replicate 92 none
  statics := none }

def pool3 : Array CpInfo := pool [(1, .class_ 2), (0, u "java/lang/Math"), (1, .class_ 6), (1, u "java/lang/Object"), (0, u "<init>"), (0, u "()V"), (89, .class_ 100), (1, u "java/lang/Math$RandomNumberGeneratorHolder"), (71, u "negativeZeroFloatBits"), (0, u "J"), (2, u "negativeZeroDoubleBits"), (21, u "max"), (46, u "$assertionsDisabled"), (0, u "Z"), (88, u "(II)I"), (2, u "twoToTheDoubleScaleDown"), (0, u "D"), (4, u "twoToTheDoubleScaleUp"), (9, u "E"), (3, u "PI"), (2, u "TAU"), (2, u "DEGREES_TO_RADIANS"), (0, u "RADIANS_TO_DEGREES")] 94

def k3m0 : Method := { name := "<init>", desc := "()V", sig := { parameters := [], returnType := none }, accessFlags := 2, code := none }
def k3c1 : Code := { maxStack := 2, maxLocals := 2, code := jdk_29_method_65_code, exceptionTable := #[], attributes := #[] }
def k3m1 : Method := { name := "max", desc := "(II)I", sig := { parameters := [.int, .int], returnType := some .int }, accessFlags := 9, code := some k3c1 }
/-- java/lang/Math -/
def k3 : Class := { plain "java/lang/Math" (some 0) with
  accessFlags := 49
  interfaces := #[]
  cf := some (fileOf pool3 1 #[.nestMembers #[98]] #[{ accessFlags := 2, nameIndex := 7, descriptorIndex := 8, attributes := #[] }, { accessFlags := 9, nameIndex := 198, descriptorIndex := 335, attributes := #[] }] 49 4 #[] #[{ accessFlags := 25, nameIndex := 354, descriptorIndex := 339, attributes := #[] }, { accessFlags := 25, nameIndex := 358, descriptorIndex := 339, attributes := #[] }, { accessFlags := 25, nameIndex := 361, descriptorIndex := 339, attributes := #[] }, { accessFlags := 26, nameIndex := 364, descriptorIndex := 339, attributes := #[] }, { accessFlags := 26, nameIndex := 365, descriptorIndex := 339, attributes := #[] }, { accessFlags := 26, nameIndex := 172, descriptorIndex := 173, attributes := #[] }, { accessFlags := 26, nameIndex := 176, descriptorIndex := 173, attributes := #[] }, { accessFlags := 8, nameIndex := 344, descriptorIndex := 339, attributes := #[] }, { accessFlags := 8, nameIndex := 338, descriptorIndex := 339, attributes := #[] }, { accessFlags := 4120, nameIndex := 245, descriptorIndex := 246, attributes := #[] }])
  fields := #[{ name := "E", type := .double, accessFlags := 25, slot := 0, constantValue := 0 }, { name := "PI", type := .double, accessFlags := 25, slot := 1, constantValue := 0 }, { name := "TAU", type := .double, accessFlags := 25, slot := 2, constantValue := 0 }, { name := "DEGREES_TO_RADIANS", type := .double, accessFlags := 26, slot := 3, constantValue := 0 }, { name := "RADIANS_TO_DEGREES", type := .double, accessFlags := 26, slot := 4, constantValue := 0 }, { name := "negativeZeroFloatBits", type := .long, accessFlags := 26, slot := 5, constantValue := 0 }, { name := "negativeZeroDoubleBits", type := .long, accessFlags := 26, slot := 6, constantValue := 0 }, { name := "twoToTheDoubleScaleUp", type := .double, accessFlags := 8, slot := 7, constantValue := 0 }, { name := "twoToTheDoubleScaleDown", type := .double, accessFlags := 8, slot := 8, constantValue := 0 }, { name := "$assertionsDisabled", type := .boolean, accessFlags := 4120, slot := 9, constantValue := 0 }]
  methods := #[k3m0, k3m1]
  instanceTypes := #[]
  staticTypes := #[.double, .double, .double, .double, .double, .long, .long, .double, .double, .boolean]
  resolved := Array.replicate 460 none
  statics := none }

def pool4 : Array CpInfo := pool [(1, .class_ 2), (0, u "java/io/Serializable"), (0, .class_ 4), (0, u "java/lang/Object")] 2

/-- java/io/Serializable -/
def k4 : Class := { plain "java/io/Serializable" (some 0) with
  accessFlags := 1537
  interfaces := #[]
  cf := some (fileOf pool4 1 #[] #[] 1537 3 #[] #[])
  fields := #[]
  methods := #[]
  instanceTypes := #[]
  staticTypes := #[]
  resolved := Array.replicate 7 none
  statics := none }

def pool5 : Array CpInfo := pool [(1, .class_ 2), (0, u "java/lang/Comparable"), (0, .class_ 4), (0, u "java/lang/Object")] 7

/-- java/lang/Comparable -/
def k5 : Class := { plain "java/lang/Comparable" (some 0) with
  accessFlags := 1537
  interfaces := #[]
  cf := some (fileOf pool5 1 #[] #[] 1537 3 #[] #[])
  fields := #[]
  methods := #[]
  instanceTypes := #[]
  staticTypes := #[]
  resolved := Array.replicate 12 none
  statics := none }

def pool6 : Array CpInfo := pool [(2, .class_ 4), (1, u "java/lang/CharSequence"), (42, .class_ 48), (0, u "java/lang/CharSequence$1CodePointIterator"), (10, .class_ 60), (0, u "java/lang/CharSequence$1CharIterator"), (5, .class_ 67), (0, u "java/lang/Object")] 63

/-- java/lang/CharSequence -/
def k6 : Class := { plain "java/lang/CharSequence" (some 0) with
  accessFlags := 1537
  interfaces := #[]
  cf := some (fileOf pool6 2 #[.nestMembers #[47, 59]] #[] 1537 66 #[] #[])
  fields := #[]
  methods := #[]
  instanceTypes := #[]
  staticTypes := #[]
  resolved := Array.replicate 131 none
  statics := none }

def pool7 : Array CpInfo := pool [(1, .class_ 2), (0, u "java/lang/constant/Constable"), (0, .class_ 4), (0, u "java/lang/Object")] 6

/-- java/lang/constant/Constable -/
def k7 : Class := { plain "java/lang/constant/Constable" (some 0) with
  accessFlags := 1537
  interfaces := #[]
  cf := some (fileOf pool7 1 #[] #[] 1537 3 #[] #[])
  fields := #[]
  methods := #[]
  instanceTypes := #[]
  staticTypes := #[]
  resolved := Array.replicate 11 none
  statics := none }

def pool8 : Array CpInfo := pool [(1, .class_ 2), (0, u "java/lang/constant/ConstantDesc"), (0, .class_ 4), (0, u "java/lang/Object")] 32

/-- java/lang/constant/ConstantDesc -/
def k8 : Class := { plain "java/lang/constant/ConstantDesc" (some 0) with
  accessFlags := 1537
  interfaces := #[]
  cf := some (fileOf pool8 1 #[] #[] 1537 3 #[] #[])
  fields := #[]
  methods := #[]
  instanceTypes := #[]
  staticTypes := #[]
  resolved := Array.replicate 37 none
  statics := none }

def pool9 : Array CpInfo := pool [(2, .class_ 4), (1, u "java/lang/Object"), (0, u "<init>"), (0, u "()V"), (3, .class_ 12), (1, u "java/lang/String"), (0, u "value"), (0, u "[B"), (2, u "coder"), (0, u "B"), (2, u "hash"), (0, u "I"), (2, u "hashIsZero"), (0, u "Z"), (13, u "COMPACT_STRINGS"), (534, .class_ 576), (0, u "java/lang/CharSequence"), (22, u "CASE_INSENSITIVE_ORDER"), (0, u "Ljava/util/Comparator;"), (500, u "serialPersistentFields"), (0, u "[Ljava/io/ObjectStreamField;"), (0, .class_ 1104), (0, u "java/lang/String$CaseInsensitiveComparator"), (1, .class_ 1107), (0, u "java/io/Serializable"), (0, .class_ 1109), (0, u "java/lang/Comparable"), (0, .class_ 1111), (0, u "java/lang/constant/Constable"), (0, .class_ 1113), (0, u "java/lang/constant/ConstantDesc"), (2, u "serialVersionUID"), (0, u "J"), (3, u "REPL"), (0, u "C"), (2, u "LATIN1"), (1, u "UTF16")] 323

def k9m0 : Method := { name := "<init>", desc := "()V", sig := { parameters := [], returnType := none }, accessFlags := 1, code := none }
/-- java/lang/String -/
def k9 : Class := { plain "java/lang/String" (some 0) with
  accessFlags := 49
  interfaces := #[4, 5, 6, 7, 8]
  cf := some (fileOf pool9 10 #[.nestMembers #[1103]] #[{ accessFlags := 1, nameIndex := 5, descriptorIndex := 6, attributes := #[] }] 49 2 #[1106, 1108, 575, 1110, 1112] #[{ accessFlags := 18, nameIndex := 13, descriptorIndex := 14, attributes := #[] }, { accessFlags := 18, nameIndex := 17, descriptorIndex := 18, attributes := #[] }, { accessFlags := 2, nameIndex := 21, descriptorIndex := 22, attributes := #[] }, { accessFlags := 2, nameIndex := 25, descriptorIndex := 26, attributes := #[] }, { accessFlags := 26, nameIndex := 1116, descriptorIndex := 1117, attributes := #[] }, { accessFlags := 24, nameIndex := 40, descriptorIndex := 26, attributes := #[] }, { accessFlags := 26, nameIndex := 1101, descriptorIndex := 1102, attributes := #[] }, { accessFlags := 26, nameIndex := 1121, descriptorIndex := 1122, attributes := #[] }, { accessFlags := 25, nameIndex := 599, descriptorIndex := 600, attributes := #[] }, { accessFlags := 24, nameIndex := 1125, descriptorIndex := 18, attributes := #[] }, { accessFlags := 24, nameIndex := 1127, descriptorIndex := 18, attributes := #[] }])
  fields := #[{ name := "value", type := (.array .byte), accessFlags := 18, slot := 0, constantValue := 0 }, { name := "coder", type := .byte, accessFlags := 18, slot := 1, constantValue := 0 }, { name := "hash", type := .int, accessFlags := 2, slot := 2, constantValue := 0 }, { name := "hashIsZero", type := .boolean, accessFlags := 2, slot := 3, constantValue := 0 }, { name := "serialVersionUID", type := .long, accessFlags := 26, slot := 0, constantValue := 0 }, { name := "COMPACT_STRINGS", type := .boolean, accessFlags := 24, slot := 1, constantValue := 0 }, { name := "serialPersistentFields", type := (.array (.object "java/io/ObjectStreamField")), accessFlags := 26, slot := 2, constantValue := 0 }, { name := "REPL", type := .char, accessFlags := 26, slot := 3, constantValue := 0 }, { name := "CASE_INSENSITIVE_ORDER", type := (.object "java/util/Comparator"), accessFlags := 25, slot := 4, constantValue := 0 }, { name := "LATIN1", type := .byte, accessFlags := 24, slot := 5, constantValue := 0 }, { name := "UTF16", type := .byte, accessFlags := 24, slot := 6, constantValue := 0 }]
  methods := #[k9m0]
  instanceTypes := #[(.array .byte), .byte, .int, .boolean]
  staticTypes := #[.long, .boolean, (.array (.object "java/io/ObjectStreamField")), .char, (.object "java/util/Comparator"), .byte, .byte]
  resolved := Array.replicate 1451 none
  statics := none }

def pool10 : Array CpInfo := pool [(1, u "java/lang/Cloneable"), (0, .class_ 1), (0, u "java/lang/Object"), (0, .class_ 3)] 3

/-- java/lang/Cloneable -/
def k10 : Class := { plain "java/lang/Cloneable" (some 0) with
  accessFlags := 1537
  interfaces := #[]
  cf := some (fileOf pool10 2 #[] #[] 1537 4 #[] #[])
  fields := #[]
  methods := #[]
  instanceTypes := #[]
  staticTypes := #[]
  resolved := Array.replicate 8 none
  statics := none }

/-- the primitive byte -/
def k11 : Class := { plain "byte" none with kind := .primitive 'B', accessFlags := 0x411 }
/-- [B -/
def k12 : Class := { plain "[B" (some 0) with kind := .array 11 .byte, interfaces := #[10, 4], accessFlags := 1041 }

/-- the primitive int -/
def k13 : Class := { plain "int" none with kind := .primitive 'I', accessFlags := 0x411 }
/-- [I -/
def k14 : Class := { plain "[I" (some 0) with kind := .array 13 .int, interfaces := #[10, 4], accessFlags := 1041 }

/-- the primitive long -/
def k15 : Class := { plain "long" none with kind := .primitive 'J', accessFlags := 0x411 }
/-- [J -/
def k16 : Class := { plain "[J" (some 0) with kind := .array 15 .long, interfaces := #[10, 4], accessFlags := 1041 }

def heap : Heap := #[]
def classes : Array Class := #[k0, k1, k2, k3, k4, k5, k6, k7, k8, k9, k10, k11, k12, k13, k14, k15, k16]
def interned : List (Array UInt16 × Addr) := []
def slotsUsed : Nat := 0
def theMethod : MethodId := ⟨1, 1⟩
def args0 : Array Value := #[.long 3, .int 9, .int 4, .int 3, .int 9, .int 2]
def aboutOver (below : List Frame) : State where
  vm := { classes := classes, interned := interned.toArray }
  heap := heap
  slotsUsed := slotsUsed
  threads := #[{ frames := .invoking theMethod args0 :: below }]
def below0 : List Frame := [.native { method := ⟨0, 0⟩, args := #[] }]
def about1 : State := aboutOver below0
def p0 : Program := .bare "" "" ""
def e0 : Env := launch0.env 0 0 0
theorem w_frames : about1.frames = Frame.invoking theMethod args0 :: below0 := rfl
set_option maxRecDepth 65536 in
theorem w_args : argsFit about1.vm theMethod args0 = true := by decide +kernel
set_option maxRecDepth 65536 in
theorem w_heap : heapFits about1 = true := by decide +kernel
set_option maxRecDepth 65536 in
theorem w_runnable : about1.curStatus? = some .runnable := by decide +kernel
set_option maxRecDepth 65536 in
theorem w_alone : about1.alone = true := by decide +kernel
set_option maxRecDepth 65536 in
theorem w_named : about1.methodNamed? x = some theMethod := by decide +kernel
set_option maxRecDepth 65536 in
theorem w_hears : about1.hears theMethod below0 = true := by decide +kernel
set_option maxRecDepth 65536 in
theorem w_ripe : about1.ripe theMethod args0 below0 = true := by decide +kernel
theorem w_running : about1.status = .running := rfl
set_option maxRecDepth 65536 in
theorem w_room : about1.hasRoom e0.platform room_1 = true :=
  launch0.hasRoom_least _ room_1 (by decide +kernel) (by decide +kernel) (by decide +kernel) (by decide +kernel) (by decide +kernel) (by decide +kernel)
theorem allAtoms_all (ts : List Jvm.Cond) (a : Array Jvm.Value) (st : Jvm.State) : (allAtoms ts).before a st = ts.all (fun c => c.before a st) := by
  induction ts with
  | nil => rfl
  | cons c t ih =>
    show (Jvm.Cond.and c (allAtoms t)).before a st = _
    rw [Jvm.Cond.before_and, ih, List.all_cons]
def words1 : List Jvm.Cond := Jvm.Cond.code x code maxLocals ret :: tables_1
/-- a 'code' word, met by the world's own term for the bytes: nothing is compared byte by byte -/
theorem code_word {y : MethodName} {bytes : ByteArray} {mx : Nat} {rt : Option FieldType} {a : Array Value} {s : State} {m : MethodId} {meth : Method} {c : Code} (h1 : s.methodNamed? y = some m) (h2 : s.vm.method? m = some meth) (h3 : meth.code = some c) (h4 : c.code = bytes)
    (h5 : (c.maxLocals == mx && c.exceptionTable.isEmpty && decide (c.maxStack ≤ mostOperands) && decide (meth.sig.returnType = rt) && !meth.locks && decide (parseMethodDescriptor y.desc = some meth.sig)) = true) : (Jvm.Cond.code y bytes mx rt).before a s = true := by
  simp only [Bool.and_eq_true, beq_iff_eq, Bool.not_eq_true', decide_eq_true_eq] at h5
  obtain ⟨⟨⟨⟨⟨g1, g2⟩, g3⟩, g4⟩, g5⟩, g6⟩ := h5
  simp [Cond.before, Cond.holds, Cond.value, h1, h2, h3, h4, g1, g2, g3, g4, g5, g6]
def isCode : Jvm.Cond → Bool
  | .code _ _ _ _ => true
  | _ => false
theorem all_split {L : List Jvm.Cond} {P : Jvm.Cond → Bool} (h1 : L.all (fun c => isCode c || P c) = true) (h2 : ∀ c ∈ L.filter isCode, P c = true) : L.all P = true := by
  refine List.all_eq_true.mpr fun c hc => ?_
  have h := List.all_eq_true.mp h1 c hc
  rcases Bool.eq_false_or_eq_true (isCode c) with hi | hi
  · exact h2 c (List.mem_filter.mpr ⟨hc, hi⟩)
  · simpa [hi] using h
set_option maxRecDepth 65536 in
theorem w_c0 : (Jvm.Cond.code x code maxLocals ret).before args0 about1 = true := code_word (m := ⟨1, 1⟩) (meth := k1m1) (c := k1c1) (by decide +kernel) rfl rfl rfl (by decide +kernel)
set_option maxRecDepth 65536 in
theorem w_c1 : (Jvm.Cond.code ({ cls := "com/example/tallymark/tallymark/LogDating", name := "<init>", desc := "()V" } : Jvm.MethodName) prog_72_method_1_code (1 : Nat) (Option.none : Option Jvm.ClassFile.FieldType)).before args0 about1 = true := code_word (m := ⟨2, 0⟩) (meth := k2m0) (c := k2c0) (by decide +kernel) rfl rfl rfl (by decide +kernel)
set_option maxRecDepth 65536 in
theorem w_c2 : (Jvm.Cond.code ({ cls := "java/lang/Object", name := "<init>", desc := "()V" } : Jvm.MethodName) object_method_1_code (1 : Nat) (Option.none : Option Jvm.ClassFile.FieldType)).before args0 about1 = true := code_word (m := ⟨0, 0⟩) (meth := k0m0) (c := k0c0) (by decide +kernel) rfl rfl rfl (by decide +kernel)
set_option maxRecDepth 65536 in
theorem w_c3 : (Jvm.Cond.code ({ cls := "com/example/tallymark/tallymark/LogDating", name := "stamp", desc := "(JI)V" } : Jvm.MethodName) prog_72_method_3_code (4 : Nat) (Option.none : Option Jvm.ClassFile.FieldType)).before args0 about1 = true := code_word (m := ⟨2, 1⟩) (meth := k2m1) (c := k2c1) (by decide +kernel) rfl rfl rfl (by decide +kernel)
set_option maxRecDepth 65536 in
theorem w_c4 : (Jvm.Cond.code ({ cls := "com/example/tallymark/tallymark/LogDating", name := "startOf", desc := "(I)I" } : Jvm.MethodName) prog_72_method_8_code (1 : Nat) (Option.some Jvm.ClassFile.FieldType.int)).before args0 about1 = true := code_word (m := ⟨2, 4⟩) (meth := k2m4) (c := k2c4) (by decide +kernel) rfl rfl rfl (by decide +kernel)
set_option maxRecDepth 65536 in
theorem w_c5 : (Jvm.Cond.code ({ cls := "java/lang/Math", name := "max", desc := "(II)I" } : Jvm.MethodName) jdk_29_method_65_code (2 : Nat) (Option.some Jvm.ClassFile.FieldType.int)).before args0 about1 = true := code_word (m := ⟨3, 1⟩) (meth := k3m1) (c := k3c1) (by decide +kernel) rfl rfl rfl (by decide +kernel)
set_option maxRecDepth 65536 in
theorem w_c6 : (Jvm.Cond.code ({ cls := "com/example/tallymark/tallymark/LogDating", name := "of", desc := "(I)J" } : Jvm.MethodName) prog_72_method_6_code (5 : Nat) (Option.some Jvm.ClassFile.FieldType.long)).before args0 about1 = true := code_word (m := ⟨2, 3⟩) (meth := k2m3) (c := k2c3) (by decide +kernel) rfl rfl rfl (by decide +kernel)
set_option maxRecDepth 65536 in
theorem w_c7 : (Jvm.Cond.code ({ cls := "com/example/tallymark/tallymark/LogDatingOfPinLaw", name := "expect", desc := "([JZI)J" } : Jvm.MethodName) method_3_code (8 : Nat) (Option.some Jvm.ClassFile.FieldType.long)).before args0 about1 = true := code_word (m := ⟨1, 2⟩) (meth := k1m2) (c := k1c2) (by decide +kernel) rfl rfl rfl (by decide +kernel)
set_option maxRecDepth 65536 in
theorem w_c8 : (Jvm.Cond.code ({ cls := "com/example/tallymark/tallymark/LogDating", name := "unusable", desc := "(Ljava/lang/String;J)V" } : Jvm.MethodName) prog_72_method_5_code (4 : Nat) (Option.none : Option Jvm.ClassFile.FieldType)).before args0 about1 = true := code_word (m := ⟨2, 2⟩) (meth := k2m2) (c := k2c2) (by decide +kernel) rfl rfl rfl (by decide +kernel)
def codes1 : List Jvm.Cond := [Jvm.Cond.code x code maxLocals ret, Jvm.Cond.code ({ cls := "com/example/tallymark/tallymark/LogDating", name := "<init>", desc := "()V" } : Jvm.MethodName) prog_72_method_1_code (1 : Nat) (Option.none : Option Jvm.ClassFile.FieldType), Jvm.Cond.code ({ cls := "java/lang/Object", name := "<init>", desc := "()V" } : Jvm.MethodName) object_method_1_code (1 : Nat) (Option.none : Option Jvm.ClassFile.FieldType), Jvm.Cond.code ({ cls := "com/example/tallymark/tallymark/LogDating", name := "stamp", desc := "(JI)V" } : Jvm.MethodName) prog_72_method_3_code (4 : Nat) (Option.none : Option Jvm.ClassFile.FieldType), Jvm.Cond.code ({ cls := "com/example/tallymark/tallymark/LogDating", name := "startOf", desc := "(I)I" } : Jvm.MethodName) prog_72_method_8_code (1 : Nat) (Option.some Jvm.ClassFile.FieldType.int), Jvm.Cond.code ({ cls := "java/lang/Math", name := "max", desc := "(II)I" } : Jvm.MethodName) jdk_29_method_65_code (2 : Nat) (Option.some Jvm.ClassFile.FieldType.int), Jvm.Cond.code ({ cls := "com/example/tallymark/tallymark/LogDating", name := "of", desc := "(I)J" } : Jvm.MethodName) prog_72_method_6_code (5 : Nat) (Option.some Jvm.ClassFile.FieldType.long), Jvm.Cond.code ({ cls := "com/example/tallymark/tallymark/LogDatingOfPinLaw", name := "expect", desc := "([JZI)J" } : Jvm.MethodName) method_3_code (8 : Nat) (Option.some Jvm.ClassFile.FieldType.long), Jvm.Cond.code ({ cls := "com/example/tallymark/tallymark/LogDating", name := "unusable", desc := "(Ljava/lang/String;J)V" } : Jvm.MethodName) prog_72_method_5_code (4 : Nat) (Option.none : Option Jvm.ClassFile.FieldType)]
set_option maxRecDepth 65536 in
theorem codes_eq : words1.filter isCode = codes1 := rfl
theorem w_codes : ∀ c ∈ words1.filter isCode, c.before args0 about1 = true := by
  rw [codes_eq]
  intro c hc
  simp only [codes1, List.mem_cons, List.not_mem_nil, or_false] at hc
  rcases hc with rfl | rfl | rfl | rfl | rfl | rfl | rfl | rfl | rfl
  · exact w_c0
  · exact w_c1
  · exact w_c2
  · exact w_c3
  · exact w_c4
  · exact w_c5
  · exact w_c6
  · exact w_c7
  · exact w_c8
set_option maxRecDepth 65536 in
theorem w_t1 : (words1.take 24).all (fun c => isCode c || c.before args0 about1) = true := by decide +kernel
set_option maxRecDepth 65536 in
theorem w_t2 : ((words1.drop 24).take 24).all (fun c => isCode c || c.before args0 about1) = true := by decide +kernel
set_option maxRecDepth 65536 in
theorem w_t3 : ((words1.drop 24).drop 24).all (fun c => isCode c || c.before args0 about1) = true := by decide +kernel
theorem w_tables : (allAtoms (Jvm.Cond.code x code maxLocals ret :: tables_1)).before args0 about1 = true := by
  rw [allAtoms_all]
  show words1.all (fun c => c.before args0 about1) = true
  refine all_split ?_ w_codes
  rw [← List.take_append_drop 24 words1, List.all_append, w_t1, ← List.take_append_drop 24 (words1.drop 24), List.all_append, w_t2, w_t3]
  rfl
set_option maxRecDepth 65536 in
theorem w_case : (Jvm.Cond.and given_1 narrow_1).before args0 about1 = true := by decide +kernel
theorem w_applies : (headSpec (Jvm.Cond.code x code maxLocals ret :: tables_1) room_1).applies x e0.platform about1 = true :=
  (Spec.applies_iff w_frames).mpr ⟨w_running, w_runnable, w_alone, w_named, w_hears, w_ripe, w_room, w_tables⟩
theorem atStart : AtStart classFile x code maxLocals ret World_1 tables_1 room_1 Calls_1 rest_1 Pre_1 launch0 p0 e0 about1 theMethod args0 below0 :=
  ⟨lists_1, trivial, launch0.admits_env _ _ _, launch0.least_env, fairChoices_fair.cas, fairChoices_fair.clock, w_frames, w_args, w_heap, w_applies, trivial, trivial, w_case⟩
end start1
theorem witness_1 : WitnessClaimed_1 := ⟨start1.p0, start1.e0, start1.about1, start1.theMethod, start1.args0, start1.below0, start1.atStart⟩
end Jvm.Pilot.@@N@@
