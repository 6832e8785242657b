import JvmDerived
import JvmDerived.Pilot.@@N@@Statement
import JvmDerived.Pilot.@@N@@Code
set_option linter.unusedVariables false
set_option linter.unusedSimpArgs false
set_option maxRecDepth 65536
set_option maxHeartbeats 40000000
namespace Jvm.Wk
abbrev F4 := Fin 4
abbrev F2 := Fin 2
open Sem ClassFile Op Lib Jvm.Stand Jvm.Free Jvm.LawKit Jvm.RoadKit
/-- the array at a holds just these values -/
def Ary (Z : State) (h : Heap) (a : Addr) (ty : FieldType) (vs : List Value) : Prop :=
  ∃ c : Cell, Arr Z h a c ty ∧ c.slots.toList = vs ∧ (∀ v ∈ vs, fits ty v = true) ∧ vs.length < 2 ^ 31
abbrev FEnd := State → Outcome → State → List Loc → Nat → Nat → Prop
/-- the wide frame: String constants may have been resolved, the table of interned texts may have grown -/
def FEW (s : State) (o : Outcome) (t : State) (L : List Loc) (k n : Nat) : Prop := (∃ v : Option Value, o = Outcome.returned v) ∧ s.Warmed39 t.vm ∧ (∀ (j : Nat) (p : Array UInt16 × Addr), s.vm.interned.size ≤ j → t.vm.interned[j]? = some p → s.heap.size ≤ p.2 ∧ p.2 < t.heap.size) ∧ s.sameButNew { t with vm := s.vm } L k n
def Endz (FE : FEnd) (p : Program) (e : Env) (below : List Frame) (s : State) (R : Room) (n0 : Nat) (P : Option Value → Heap → Prop) (T : State) (g : JFrame) : Prop :=
  ∃ s₂ o, Steps p.tables e below (T.setTop g) s₂ ∧ s₂.status = .running ∧ Ended s₂ below o ∧ ∃ v L, o = .returned v ∧ (P v s₂.heap ∧ Fr n0 L) ∧ FE s o s₂ L R.cells R.slots
/-- from pc, with these locals, this stack and this heap, the body comes to its end, and P holds there -/
def WG (FE : FEnd) (l : Launch) (R : Room) (Z : State) (own nm : String) (bytes : ByteArray) (maxL : Nat) (ret : Option FieldType) (n0 : Nat) (P : Option Value → Heap → Prop) (h : Heap) (cells slots pc : Nat) (Ls : Array Slot) (st : List Value) : Prop :=
  ∀ (p : Program) (e : Env) (s : State) (m : MethodId) (args : Array Value) (below : List Frame) (meth : Method) (c : Code) (T : State) (locs : List Loc),
    p.tables.exec = Jvm.exec → Z.Warmed39 s.vm → c.code = bytes → c.maxLocals = maxL → s.vm.findClass own = some m.cls → meth.sig.returnType = ret → meth.locks = false → meth.name = nm → n0 ≤ s.heap.size →
    Stand p l e R s m args below meth c T locs cells slots → T.heap = h → Fr n0 locs → Endz FE p e below s R n0 P T (mkF m pc Ls st)
abbrev W := WG FrameEnd
/-- a method's contract where it is called with these arguments over this heap -/
def ConG (FE : FEnd) (ws : List Jvm.Cond) (l : Launch) (Z : State) (y : MethodName) (bytes : ByteArray) (maxL : Nat) (ret : Option FieldType) (rm : Room) (as : Array Value) (h : Heap) (n0 : Nat) (P : Option Value → Heap → Prop) : Prop :=
  MetFree l y (head1 (Jvm.Cond.code y bytes maxL ret :: ws) rm) (fun a U => a = as ∧ Z.Warmed39 U.vm ∧ U.heap = h) (fun _ _ _ _ _ => True) (fun _ U o U' => ∃ v L, o = .returned v ∧ (P v U'.heap ∧ Fr n0 L) ∧ FE U o U' L rm.cells rm.slots)
abbrev ConW := ConG FrameEnd
abbrev Con := ConW []
section Rules
variable {FE : FEnd} {l : Launch} {R : Room} {Z : State} {own nm : String} {bytes : ByteArray} {maxL : Nat} {ret : Option FieldType} {n0 : Nat} {P : Option Value → Heap → Prop} {h : Heap} {cells slots pc : Nat} {Ls : Array Slot} {st : List Value} {a0 : Array Value}
theorem Endz.step {p : Program} {e : Env} {below : List Frame} {s : State} {T T' : State} {g g' : JFrame} (k : Endz FE p e below s R n0 P T' g') (f : ∀ t, Steps p.tables e below (T'.setTop g') t → Steps p.tables e below (T.setTop g) t) : Endz FE p e below s R n0 P T g := by
  obtain ⟨s₂, o, h1, h2⟩ := k
  exact ⟨s₂, o, f _ h1, h2⟩
theorem WG.step {pc' : Nat} {Ls' : Array Slot} {st' : List Value} (k : WG FE l R Z own nm bytes maxL ret n0 P h cells slots pc' Ls' st')
    (f : ∀ (p : Program) (e : Env) (s : State) (m : MethodId) (args : Array Value) (below : List Frame) (meth : Method) (c : Code) (T : State) (locs : List Loc), p.tables.exec = Jvm.exec → Z.Warmed39 s.vm → c.code = bytes → s.vm.findClass own = some m.cls → Stand p l e R s m args below meth c T locs cells slots → T.heap = h →
      ∀ t, Steps p.tables e below (T.setTop (mkF m pc' Ls' st')) t → Steps p.tables e below (T.setTop (mkF m pc Ls st)) t) : WG FE l R Z own nm bytes maxL ret n0 P h cells slots pc Ls st := by
  intro p e s m args below meth c T locs hx hZ hby hml hown hret hlk hnm hn0 X eT N
  exact (k p e s m args below meth c T locs hx hZ hby hml hown hret hlk hnm hn0 X eT N).step (f p e s m args below meth c T locs hx hZ hby hown X eT)
theorem WG.post {P' : Option Value → Heap → Prop} (k : WG FE l R Z own nm bytes maxL ret n0 P' h cells slots pc Ls st) (f : ∀ v h', P' v h' → P v h') : WG FE l R Z own nm bytes maxL ret n0 P h cells slots pc Ls st := by
  intro p e s m args below meth c T locs hx hZ hby hml hown hret hlk hnm hn0 X eT N
  obtain ⟨s₂, o, h1, h2, h3, v, L, h4, h5, h6⟩ := k p e s m args below meth c T locs hx hZ hby hml hown hret hlk hnm hn0 X eT N
  exact ⟨s₂, o, h1, h2, h3, v, L, h4, ⟨f _ _ h5.1, h5.2⟩, h6⟩
theorem WG.mono {cells' slots' : Nat} (k : WG FE l R Z own nm bytes maxL ret n0 P h cells' slots' pc Ls st) (hc : cells ≤ cells') (hs : slots ≤ slots') : WG FE l R Z own nm bytes maxL ret n0 P h cells slots pc Ls st := by
  intro p e s m args below meth c T locs hx hZ hby hml hown hret hlk hnm hn0 X eT N
  exact k p e s m args below meth c T locs hx hZ hby hml hown hret hlk hnm hn0 { X with same := X.same.mono hc hs } eT N
theorem ConG.post {ws : List Jvm.Cond} {y : MethodName} {rm : Room} {as : Array Value} {P' : Option Value → Heap → Prop} (k : ConG FE ws l Z y bytes maxL ret rm as h n0 P') (f : ∀ v h', P' v h' → P v h') : ConG FE ws l Z y bytes maxL ret rm as h n0 P := by
  intro p e ha hc hk s m args below hf happ hP hK
  obtain ⟨n, o, h1, h2, h3, v, L, h4, h5, h6⟩ := k p e ha hc hk s m args below hf happ hP hK
  exact ⟨n, o, h1, h2, h3, v, L, h4, ⟨f _ _ h5.1, h5.2⟩, h6⟩
theorem ConG.of_W {ws : List Jvm.Cond} {y : MethodName} {rm : Room} {as : Array Value} (hy : plainFor y = true) (hn : n0 ≤ h.size) (hef : ∀ m, entryFrame m as maxL = mkF m 0 Ls []) (k : WG FE l rm Z y.cls y.name bytes maxL ret n0 P h 0 0 0 Ls []) : ConG FE ws l Z y bytes maxL ret rm as h n0 P := by
  refine MetFree.of_bodySF hy hisR ?_
  intro p e s m args below meth c s₁ Bd hml0 hP hK
  obtain ⟨rfl, hZ, hh⟩ := hP
  have hown : s.vm.findClass y.cls = some m.cls := findClass_of_methodNamed Bd.named
  have hnm := (name_of_methodNamed Bd.named Bd.method).1
  have X0 : Stand p l e rm s m _ below meth c s₁ [] 0 0 := Stand.of_body Bd
  have e0 : s₁.heap = h := by rw [← hh, Bd.state]; rfl
  obtain ⟨s₂, o, h1, h2⟩ := k p e s m _ below meth c s₁ [] Bd.exec hZ Bd.bytes hml0 hown Bd.returns (BodyLoose.notSynchronized Bd) hnm (by rw [hh]; exact hn) X0 e0 (Fr.nil n0)
  exact ⟨s₂, o, castTop (hef m) h1, h2⟩
/-! pure steps -/
theorem W.iadd {x y : Int32} (n : Nat) (hd : decode bytes pc = .ok (.iadd, 1)) (hn : pc + 1 = n) (v : Int32) (hv : x + y = v) (k : WG FE l R Z own nm bytes maxL ret n0 P h cells slots n Ls (.int v :: st)) : WG FE l R Z own nm bytes maxL ret n0 P h cells slots pc Ls (.int y :: .int x :: st) := by
  subst hn
  exact k.step fun p e s m args below meth c T locs hx hZ hby hown X eT t q => XS.iadd X.here hx rfl (hb hby hd) rfl (hv ▸ q)
theorem W.isub {x y : Int32} (n : Nat) (hd : decode bytes pc = .ok (.isub, 1)) (hn : pc + 1 = n) (v : Int32) (hv : x - y = v) (k : WG FE l R Z own nm bytes maxL ret n0 P h cells slots n Ls (.int v :: st)) : WG FE l R Z own nm bytes maxL ret n0 P h cells slots pc Ls (.int y :: .int x :: st) := by
  subst hn
  exact k.step fun p e s m args below meth c T locs hx hZ hby hown X eT t q => XS.isub X.here hx rfl (hb hby hd) rfl (hv ▸ q)
theorem W.imul {x y : Int32} (n : Nat) (hd : decode bytes pc = .ok (.imul, 1)) (hn : pc + 1 = n) (v : Int32) (hv : x * y = v) (k : WG FE l R Z own nm bytes maxL ret n0 P h cells slots n Ls (.int v :: st)) : WG FE l R Z own nm bytes maxL ret n0 P h cells slots pc Ls (.int y :: .int x :: st) := by
  subst hn
  exact k.step fun p e s m args below meth c T locs hx hZ hby hown X eT t q => XS.imul X.here hx rfl (hb hby hd) rfl (hv ▸ q)
theorem W.iand {x y : Int32} (n : Nat) (hd : decode bytes pc = .ok (.iand, 1)) (hn : pc + 1 = n) (v : Int32) (hv : x &&& y = v) (k : WG FE l R Z own nm bytes maxL ret n0 P h cells slots n Ls (.int v :: st)) : WG FE l R Z own nm bytes maxL ret n0 P h cells slots pc Ls (.int y :: .int x :: st) := by
  subst hn
  exact k.step fun p e s m args below meth c T locs hx hZ hby hown X eT t q => XS.iand X.here hx rfl (hb hby hd) rfl (hv ▸ q)
theorem W.irem {x y : Int32} (n : Nat) (hd : decode bytes pc = .ok (.irem, 1)) (hn : pc + 1 = n) (hy : y ≠ 0) (v : Int32) (hv : x % y = v) (k : WG FE l R Z own nm bytes maxL ret n0 P h cells slots n Ls (.int v :: st)) : WG FE l R Z own nm bytes maxL ret n0 P h cells slots pc Ls (.int y :: .int x :: st) := by
  subst hn
  exact k.step fun p e s m args below meth c T locs hx hZ hby hown X eT t q => iremM X hx rfl (hb hby hd) rfl hy (hv ▸ q)
theorem W.iushr {x y : Int32} (n : Nat) (hd : decode bytes pc = .ok (.iushr, 1)) (hn : pc + 1 = n) (v : Int32) (hv : (x.toUInt32 >>> (y &&& 31).toUInt32).toInt32 = v) (k : WG FE l R Z own nm bytes maxL ret n0 P h cells slots n Ls (.int v :: st)) : WG FE l R Z own nm bytes maxL ret n0 P h cells slots pc Ls (.int y :: .int x :: st) := by
  subst hn
  exact k.step fun p e s m args below meth c T locs hx hZ hby hown X eT t q => XS.iushr X.here hx rfl (hb hby hd) rfl (hv ▸ q)
theorem W.iconst {i : Int} (n : Nat) (hd : decode bytes pc = .ok (.iconst i, 1)) (hn : pc + 1 = n) (v : Int32) (hv : Int32.ofInt i = v) (k : WG FE l R Z own nm bytes maxL ret n0 P h cells slots n Ls (.int v :: st)) : WG FE l R Z own nm bytes maxL ret n0 P h cells slots pc Ls st := by
  subst hn
  exact k.step fun p e s m args below meth c T locs hx hZ hby hown X eT t q => XS.iconst X.here hx rfl (hb hby hd) (hv ▸ q)
theorem W.bipush {i : Int} (n : Nat) (hd : decode bytes pc = .ok (.bipush i, 2)) (hn : pc + 2 = n) (v : Int32) (hv : (Int8.ofInt i).toInt32 = v) (k : WG FE l R Z own nm bytes maxL ret n0 P h cells slots n Ls (.int v :: st)) : WG FE l R Z own nm bytes maxL ret n0 P h cells slots pc Ls st := by
  subst hn
  exact k.step fun p e s m args below meth c T locs hx hZ hby hown X eT t q => XS.bipush X.here hx rfl (hb hby hd) (hv ▸ q)
theorem W.lconst {i : F2} (n : Nat) (hd : decode bytes pc = .ok (.lconst i, 1)) (hn : pc + 1 = n) (v : Int64) (hv : Int64.ofNat i = v) (k : WG FE l R Z own nm bytes maxL ret n0 P h cells slots n Ls (.long v :: st)) : WG FE l R Z own nm bytes maxL ret n0 P h cells slots pc Ls st := by
  subst hn
  exact k.step fun p e s m args below meth c T locs hx hZ hby hown X eT t q => XS.lconst X.here hx rfl (hb hby hd) (hv ▸ q)
theorem W.aconst_null (n : Nat) (hd : decode bytes pc = .ok (.aconst_null, 1)) (hn : pc + 1 = n) (k : WG FE l R Z own nm bytes maxL ret n0 P h cells slots n Ls (.null :: st)) : WG FE l R Z own nm bytes maxL ret n0 P h cells slots pc Ls st := by
  subst hn
  exact k.step fun p e s m args below meth c T locs hx hZ hby hown X eT t q => XS.aconstNull X.here hx rfl (hb hby hd) q
theorem W.ldcI {i : Nat} {v : Int32} (n : Nat) (hd : decode bytes pc = .ok (.ldc i, 2)) (hn : pc + 2 = n) (w : (Jvm.Cond.constant own i v).before a0 Z = true) (k : WG FE l R Z own nm bytes maxL ret n0 P h cells slots n Ls (.int v :: st)) : WG FE l R Z own nm bytes maxL ret n0 P h cells slots pc Ls st := by
  subst hn
  exact k.step fun p e s m args below meth c T locs hx hZ hby hown X eT t q => X.ldcI hx hown (mvT hZ w) rfl (hb hby hd) q
theorem W.ldc2J {i : Nat} {v : Int64} (n : Nat) (hd : decode bytes pc = .ok (.ldc2_w i, 3)) (hn : pc + 3 = n) (w : (Jvm.Cond.constantLong own i v).before a0 Z = true) (k : WG FE l R Z own nm bytes maxL ret n0 P h cells slots n Ls (.long v :: st)) : WG FE l R Z own nm bytes maxL ret n0 P h cells slots pc Ls st := by
  subst hn
  exact k.step fun p e s m args below meth c T locs hx hZ hby hown X eT t q => X.ldc2J hx hown (mvT hZ w) rfl (hb hby hd) q
theorem W.iload {i : Nat} {v : Int32} (n : Nat) (hd : decode bytes pc = .ok (.iload i, 2)) (hn : pc + 2 = n) (hl : Ls[i]? = some (.val (.int v))) (k : WG FE l R Z own nm bytes maxL ret n0 P h cells slots n Ls (.int v :: st)) : WG FE l R Z own nm bytes maxL ret n0 P h cells slots pc Ls st := by
  subst hn
  exact k.step fun p e s m args below meth c T locs hx hZ hby hown X eT t q => XS.iload X.here hx rfl (hb hby hd) hl q
theorem W.iloadN {i : F4} {v : Int32} (n : Nat) (hd : decode bytes pc = .ok (.iload_n i, 1)) (hn : pc + 1 = n) (hl : Ls[i.val]? = some (.val (.int v))) (k : WG FE l R Z own nm bytes maxL ret n0 P h cells slots n Ls (.int v :: st)) : WG FE l R Z own nm bytes maxL ret n0 P h cells slots pc Ls st := by
  subst hn
  exact k.step fun p e s m args below meth c T locs hx hZ hby hown X eT t q => XS.iloadN X.here hx rfl (hb hby hd) hl q
theorem W.aload {i : Nat} {v : Value} (n : Nat) (hd : decode bytes pc = .ok (.aload i, 2)) (hn : pc + 2 = n) (hl : Ls[i]? = some (.val v)) (hv : v.isRef = true) (k : WG FE l R Z own nm bytes maxL ret n0 P h cells slots n Ls (v :: st)) : WG FE l R Z own nm bytes maxL ret n0 P h cells slots pc Ls st := by
  subst hn
  exact k.step fun p e s m args below meth c T locs hx hZ hby hown X eT t q => XS.aload X.here hx rfl (hb hby hd) hl hv q
theorem W.aloadN {i : F4} {v : Value} (n : Nat) (hd : decode bytes pc = .ok (.aload_n i, 1)) (hn : pc + 1 = n) (hl : Ls[i.val]? = some (.val v)) (hv : v.isRef = true) (k : WG FE l R Z own nm bytes maxL ret n0 P h cells slots n Ls (v :: st)) : WG FE l R Z own nm bytes maxL ret n0 P h cells slots pc Ls st := by
  subst hn
  exact k.step fun p e s m args below meth c T locs hx hZ hby hown X eT t q => XS.aloadN X.here hx rfl (hb hby hd) hl hv q
theorem W.istore {i : Nat} {v : Int32} (n : Nat) (hd : decode bytes pc = .ok (.istore i, 2)) (hn : pc + 2 = n) (Ls' : Array Slot) (hl : storeLocals Ls i (.int v) = some Ls') (k : WG FE l R Z own nm bytes maxL ret n0 P h cells slots n Ls' st) : WG FE l R Z own nm bytes maxL ret n0 P h cells slots pc Ls (.int v :: st) := by
  subst hn
  exact k.step fun p e s m args below meth c T locs hx hZ hby hown X eT t q => XS.istore X.here hx rfl (hb hby hd) rfl hl q
theorem W.istoreN {i : F4} {v : Int32} (n : Nat) (hd : decode bytes pc = .ok (.istore_n i, 1)) (hn : pc + 1 = n) (Ls' : Array Slot) (hl : storeLocals Ls i.val (.int v) = some Ls') (k : WG FE l R Z own nm bytes maxL ret n0 P h cells slots n Ls' st) : WG FE l R Z own nm bytes maxL ret n0 P h cells slots pc Ls (.int v :: st) := by
  subst hn
  exact k.step fun p e s m args below meth c T locs hx hZ hby hown X eT t q => XS.istoreN X.here hx rfl (hb hby hd) rfl hl q
theorem W.astore {i : Nat} {v : Value} (n : Nat) (hd : decode bytes pc = .ok (.astore i, 2)) (hn : pc + 2 = n) (hv : v.isRef = true) (Ls' : Array Slot) (hl : storeLocals Ls i v = some Ls') (k : WG FE l R Z own nm bytes maxL ret n0 P h cells slots n Ls' st) : WG FE l R Z own nm bytes maxL ret n0 P h cells slots pc Ls (v :: st) := by
  subst hn
  exact k.step fun p e s m args below meth c T locs hx hZ hby hown X eT t q => XS.astore X.here hx rfl (hb hby hd) rfl hv hl q
theorem W.astoreN {i : F4} {v : Value} (n : Nat) (hd : decode bytes pc = .ok (.astore_n i, 1)) (hn : pc + 1 = n) (hv : v.isRef = true) (Ls' : Array Slot) (hl : storeLocals Ls i.val v = some Ls') (k : WG FE l R Z own nm bytes maxL ret n0 P h cells slots n Ls' st) : WG FE l R Z own nm bytes maxL ret n0 P h cells slots pc Ls (v :: st) := by
  subst hn
  exact k.step fun p e s m args below meth c T locs hx hZ hby hown X eT t q => XS.astoreN X.here hx rfl (hb hby hd) rfl hv hl q
theorem W.iinc {i : Nat} {cst : Int} {x : Int32} (n : Nat) (hd : decode bytes pc = .ok (.iinc i cst, 3)) (hn : pc + 3 = n) (hx0 : Ls[i]? = some (.val (.int x))) (v : Int32) (hv : x + Int32.ofInt cst = v) (Ls' : Array Slot) (hl : storeLocals Ls i (.int v) = some Ls') (k : WG FE l R Z own nm bytes maxL ret n0 P h cells slots n Ls' st) : WG FE l R Z own nm bytes maxL ret n0 P h cells slots pc Ls st := by
  subst hn
  exact k.step fun p e s m args below meth c T locs hx hZ hby hown X eT t q => XS.iinc X.here hx rfl (hb hby hd) hx0 (hv ▸ hl) q
theorem W.dup {v : Value} (n : Nat) (hd : decode bytes pc = .ok (.dup, 1)) (hn : pc + 1 = n) (hc : v.category = 1) (k : WG FE l R Z own nm bytes maxL ret n0 P h cells slots n Ls (v :: v :: st)) : WG FE l R Z own nm bytes maxL ret n0 P h cells slots pc Ls (v :: st) := by
  subst hn
  exact k.step fun p e s m args below meth c T locs hx hZ hby hown X eT t q => XS.dup X.here hx rfl (hb hby hd) rfl hc q
theorem W.pop1 {v : Value} (n : Nat) (hd : decode bytes pc = .ok (.pop, 1)) (hn : pc + 1 = n) (hc : v.category = 1) (k : WG FE l R Z own nm bytes maxL ret n0 P h cells slots n Ls st) : WG FE l R Z own nm bytes maxL ret n0 P h cells slots pc Ls (v :: st) := by
  subst hn
  exact k.step fun p e s m args below meth c T locs hx hZ hby hown X eT t q => XS.pop X.here hx rfl (hb hby hd) rfl hc q
theorem W.goto {o : Int} (n : Nat) (hd : decode bytes pc = .ok (.goto o, 3)) (hn : (pc : Int) + o = (n : Int)) (k : WG FE l R Z own nm bytes maxL ret n0 P h cells slots n Ls st) : WG FE l R Z own nm bytes maxL ret n0 P h cells slots pc Ls st :=
  k.step fun p e s m args below meth c T locs hx hZ hby hown X eT t q => XS.goto X.here hx rfl (pc0 := pc) (pc' := n) rfl (hb hby hd) (by omega) (by omega) q
theorem W.icmp_lt {x y : Int32} {o : Int} (n n' : Nat) (hd : decode bytes pc = .ok (.if_icmp .lt o, 3)) (hn : (pc : Int) + o = (n : Int)) (hn' : pc + 3 = n') (k : x < y → WG FE l R Z own nm bytes maxL ret n0 P h cells slots n Ls st) (k' : ¬ x < y → WG FE l R Z own nm bytes maxL ret n0 P h cells slots n' Ls st) : WG FE l R Z own nm bytes maxL ret n0 P h cells slots pc Ls (.int y :: .int x :: st) := by
  subst hn'
  by_cases hc : x < y
  · exact (k hc).step fun p e s m args below meth c T locs hx hZ hby hown X eT t q => XS.icmpYes X.here hx rfl (pc0 := pc) (pc' := n) rfl (hb hby hd) rfl (tlt hc).1 (by omega) (by omega) q
  · exact (k' hc).step fun p e s m args below meth c T locs hx hZ hby hown X eT t q => XS.icmpNo X.here hx rfl (hb hby hd) rfl (flt hc).1 q
theorem W.icmp_ge {x y : Int32} {o : Int} (n n' : Nat) (hd : decode bytes pc = .ok (.if_icmp .ge o, 3)) (hn : (pc : Int) + o = (n : Int)) (hn' : pc + 3 = n') (k : ¬ x < y → WG FE l R Z own nm bytes maxL ret n0 P h cells slots n Ls st) (k' : x < y → WG FE l R Z own nm bytes maxL ret n0 P h cells slots n' Ls st) : WG FE l R Z own nm bytes maxL ret n0 P h cells slots pc Ls (.int y :: .int x :: st) := by
  subst hn'
  by_cases hc : x < y
  · exact (k' hc).step fun p e s m args below meth c T locs hx hZ hby hown X eT t q => XS.icmpNo X.here hx rfl (hb hby hd) rfl (tlt hc).2.1 q
  · exact (k hc).step fun p e s m args below meth c T locs hx hZ hby hown X eT t q => XS.icmpYes X.here hx rfl (pc0 := pc) (pc' := n) rfl (hb hby hd) rfl (flt hc).2.1 (by omega) (by omega) q
theorem W.icmp_gt {x y : Int32} {o : Int} (n n' : Nat) (hd : decode bytes pc = .ok (.if_icmp .gt o, 3)) (hn : (pc : Int) + o = (n : Int)) (hn' : pc + 3 = n') (k : y < x → WG FE l R Z own nm bytes maxL ret n0 P h cells slots n Ls st) (k' : ¬ y < x → WG FE l R Z own nm bytes maxL ret n0 P h cells slots n' Ls st) : WG FE l R Z own nm bytes maxL ret n0 P h cells slots pc Ls (.int y :: .int x :: st) := by
  subst hn'
  by_cases hc : y < x
  · exact (k hc).step fun p e s m args below meth c T locs hx hZ hby hown X eT t q => XS.icmpYes X.here hx rfl (pc0 := pc) (pc' := n) rfl (hb hby hd) rfl (tlt hc).2.2.1 (by omega) (by omega) q
  · exact (k' hc).step fun p e s m args below meth c T locs hx hZ hby hown X eT t q => XS.icmpNo X.here hx rfl (hb hby hd) rfl (flt hc).2.2.1 q
theorem W.icmp_eq {x y : Int32} {o : Int} (n n' : Nat) (hd : decode bytes pc = .ok (.if_icmp .eq o, 3)) (hn : (pc : Int) + o = (n : Int)) (hn' : pc + 3 = n') (k : x = y → WG FE l R Z own nm bytes maxL ret n0 P h cells slots n Ls st) (k' : ¬ x = y → WG FE l R Z own nm bytes maxL ret n0 P h cells slots n' Ls st) : WG FE l R Z own nm bytes maxL ret n0 P h cells slots pc Ls (.int y :: .int x :: st) := by
  subst hn'
  by_cases hc : x = y
  · exact (k hc).step fun p e s m args below meth c T locs hx hZ hby hown X eT t q => XS.icmpYes X.here hx rfl (pc0 := pc) (pc' := n) rfl (hb hby hd) rfl (teq hc).1 (by omega) (by omega) q
  · exact (k' hc).step fun p e s m args below meth c T locs hx hZ hby hown X eT t q => XS.icmpNo X.here hx rfl (hb hby hd) rfl (feq hc).1 q
theorem W.if_eq {x : Int32} {o : Int} (n n' : Nat) (hd : decode bytes pc = .ok (.ifCond .eq o, 3)) (hn : (pc : Int) + o = (n : Int)) (hn' : pc + 3 = n') (k : x = (0 : Int32) → WG FE l R Z own nm bytes maxL ret n0 P h cells slots n Ls st) (k' : ¬ x = (0 : Int32) → WG FE l R Z own nm bytes maxL ret n0 P h cells slots n' Ls st) : WG FE l R Z own nm bytes maxL ret n0 P h cells slots pc Ls (.int x :: st) := by
  subst hn'
  by_cases hc : x = (0 : Int32)
  · exact (k hc).step fun p e s m args below meth c T locs hx hZ hby hown X eT t q => XS.ifYes X.here hx rfl (pc0 := pc) (pc' := n) rfl (hb hby hd) rfl ((if0 _ _).trans (teq hc).1) (by omega) (by omega) q
  · exact (k' hc).step fun p e s m args below meth c T locs hx hZ hby hown X eT t q => XS.ifNo X.here hx rfl (hb hby hd) rfl ((if0 _ _).trans (feq hc).1) q
theorem W.icmp_ne {x y : Int32} {o : Int} (n n' : Nat) (hd : decode bytes pc = .ok (.if_icmp .ne o, 3)) (hn : (pc : Int) + o = (n : Int)) (hn' : pc + 3 = n') (k : ¬ x = y → WG FE l R Z own nm bytes maxL ret n0 P h cells slots n Ls st) (k' : x = y → WG FE l R Z own nm bytes maxL ret n0 P h cells slots n' Ls st) : WG FE l R Z own nm bytes maxL ret n0 P h cells slots pc Ls (.int y :: .int x :: st) := by
  subst hn'
  by_cases hc : x = y
  · exact (k' hc).step fun p e s m args below meth c T locs hx hZ hby hown X eT t q => XS.icmpNo X.here hx rfl (hb hby hd) rfl (teq hc).2 q
  · exact (k hc).step fun p e s m args below meth c T locs hx hZ hby hown X eT t q => XS.icmpYes X.here hx rfl (pc0 := pc) (pc' := n) rfl (hb hby hd) rfl (feq hc).2 (by omega) (by omega) q
theorem W.if_ne {x : Int32} {o : Int} (n n' : Nat) (hd : decode bytes pc = .ok (.ifCond .ne o, 3)) (hn : (pc : Int) + o = (n : Int)) (hn' : pc + 3 = n') (k : ¬ x = (0 : Int32) → WG FE l R Z own nm bytes maxL ret n0 P h cells slots n Ls st) (k' : x = (0 : Int32) → WG FE l R Z own nm bytes maxL ret n0 P h cells slots n' Ls st) : WG FE l R Z own nm bytes maxL ret n0 P h cells slots pc Ls (.int x :: st) := by
  subst hn'
  by_cases hc : x = (0 : Int32)
  · exact (k' hc).step fun p e s m args below meth c T locs hx hZ hby hown X eT t q => XS.ifNo X.here hx rfl (hb hby hd) rfl ((if0 _ _).trans (teq hc).2) q
  · exact (k hc).step fun p e s m args below meth c T locs hx hZ hby hown X eT t q => XS.ifYes X.here hx rfl (pc0 := pc) (pc' := n) rfl (hb hby hd) rfl ((if0 _ _).trans (feq hc).2) (by omega) (by omega) q
theorem W.ifnull_null {o : Int} (n : Nat) (hd : decode bytes pc = .ok (.ifnull o, 3)) (hn : (pc : Int) + o = (n : Int)) (k : WG FE l R Z own nm bytes maxL ret n0 P h cells slots n Ls st) : WG FE l R Z own nm bytes maxL ret n0 P h cells slots pc Ls (.null :: st) := by
  exact k.step fun p e s m args below meth c T locs hx hZ hby hown X eT t q => XS.ifnullYes X.here hx rfl (pc0 := pc) (pc' := n) rfl (hb hby hd) rfl (by omega) (by omega) q
theorem W.ifnull_ref {o : Int} {a : Addr} (n : Nat) (hd : decode bytes pc = .ok (.ifnull o, 3)) (hn : pc + 3 = n) (k : WG FE l R Z own nm bytes maxL ret n0 P h cells slots n Ls st) : WG FE l R Z own nm bytes maxL ret n0 P h cells slots pc Ls (.ref a :: st) := by
  subst hn
  exact k.step fun p e s m args below meth c T locs hx hZ hby hown X eT t q => XS.ifnullNo X.here hx rfl (hb hby hd) rfl q
theorem W.ifnonnull_null {o : Int} (n : Nat) (hd : decode bytes pc = .ok (.ifnonnull o, 3)) (hn : pc + 3 = n) (k : WG FE l R Z own nm bytes maxL ret n0 P h cells slots n Ls st) : WG FE l R Z own nm bytes maxL ret n0 P h cells slots pc Ls (.null :: st) := by
  subst hn
  exact k.step fun p e s m args below meth c T locs hx hZ hby hown X eT t q => XS.ifnonnullNo X.here hx rfl (hb hby hd) rfl q
theorem W.acmp_eq {x y : Value} {o : Int} (n n' : Nat) (hd : decode bytes pc = .ok (.if_acmp .eq o, 3)) (hn : (pc : Int) + o = (n : Int)) (hn' : pc + 3 = n') (h1 : x.isRef = true) (h2 : y.isRef = true) (k : x = y → WG FE l R Z own nm bytes maxL ret n0 P h cells slots n Ls st) (k' : ¬ x = y → WG FE l R Z own nm bytes maxL ret n0 P h cells slots n' Ls st) : WG FE l R Z own nm bytes maxL ret n0 P h cells slots pc Ls (y :: x :: st) := by
  subst hn'
  by_cases hc : x = y
  · exact (k hc).step fun p e s m args below meth c T locs hx hZ hby hown X eT t q => RoadKit.acmp X hx rfl h1 h2 (pc0 := pc) (pc' := n) (same := true) rfl (hb hby hd) rfl (decide_eq_true hc) (by omega) (by simp [acV]; try omega) q
  · exact (k' hc).step fun p e s m args below meth c T locs hx hZ hby hown X eT t q => RoadKit.acmp X hx rfl h1 h2 (pc0 := pc) (pc' := pc + 3) (same := false) rfl (hb hby hd) rfl (decide_eq_false hc) (by omega) (by simp [acV]; try omega) q
theorem W.acmp_ne {x y : Value} {o : Int} (n n' : Nat) (hd : decode bytes pc = .ok (.if_acmp .ne o, 3)) (hn : (pc : Int) + o = (n : Int)) (hn' : pc + 3 = n') (h1 : x.isRef = true) (h2 : y.isRef = true) (k : ¬ x = y → WG FE l R Z own nm bytes maxL ret n0 P h cells slots n Ls st) (k' : x = y → WG FE l R Z own nm bytes maxL ret n0 P h cells slots n' Ls st) : WG FE l R Z own nm bytes maxL ret n0 P h cells slots pc Ls (y :: x :: st) := by
  subst hn'
  by_cases hc : x = y
  · exact (k' hc).step fun p e s m args below meth c T locs hx hZ hby hown X eT t q => RoadKit.acmp X hx rfl h1 h2 (pc0 := pc) (pc' := pc + 3) (same := true) rfl (hb hby hd) rfl (decide_eq_true hc) (by omega) (by simp [acV]; try omega) q
  · exact (k hc).step fun p e s m args below meth c T locs hx hZ hby hown X eT t q => RoadKit.acmp X hx rfl h1 h2 (pc0 := pc) (pc' := n) (same := false) rfl (hb hby hd) rfl (decide_eq_false hc) (by omega) (by simp [acV]; try omega) q
/-! the heap -/
theorem Fr.one {k : Nat} {L : List Loc} {a : Addr} {sl : Nat} (N : Fr k L) (q : k ≤ a) : Fr k (L ++ [⟨a, sl⟩]) := N.app fun y hy => by cases List.mem_singleton.mp hy; exact q
theorem Keep.of_ext {h h' : Heap} (E : Ext h h') : Keep h h' [] := (Keep.refl h []).ext E
theorem size_le {p : Program} {e : Env} {s : State} {m : MethodId} {args : Array Value} {below : List Frame} {meth : Method} {c : Code} {T : State} {locs : List Loc} (X : Stand p l e R s m args below meth c T locs cells slots) : s.heap.size ≤ T.heap.size := X.same.2.1
theorem W.getfield {i : Nat} {R0 O f d host : String} {a : Addr} {v : Value} (n : Nat) (hd : decode bytes pc = .ok (.getfield i, 3)) (hn : pc + 3 = n) (w : (Jvm.Cond.fieldLink own i R0 f d).before a0 Z = true ∨ (Jvm.Cond.fieldLinkNest own i R0 f d host).before a0 Z = true) (via : Via Z R0 O f d) (F : Fld Z h a O f d v) (k : WG FE l R Z own nm bytes maxL ret n0 P h cells slots n Ls (v :: st)) : WG FE l R Z own nm bytes maxL ret n0 P h cells slots pc Ls (.ref a :: st) := by
  subst hn
  intro p e s m args below meth c T locs hx hZ hby hml hown hret hlk hnm hn0 X eT N
  obtain ⟨T', X', e', st'⟩ := getF X hx hZ hown w via eT F (g := mkF m pc Ls (.ref a :: st)) rfl rfl (hb hby hd)
  exact (k p e s m args below meth c T' locs hx hZ hby hml hown hret hlk hnm hn0 X' e' N).step st'
theorem W.putfield {i kk : Nat} {R0 O f d host C : String} {ty : FieldType} {a : Addr} {v old : Value} (n : Nat) (hd : decode bytes pc = .ok (.putfield i, 3)) (hn : pc + 3 = n) (w : (Jvm.Cond.fieldLink own i R0 f d).before a0 Z = true ∨ (Jvm.Cond.fieldLinkNest own i R0 f d host).before a0 Z = true) (via : Via Z R0 O f d) (F : Fld Z h a O f d old) (E : Exa Z h a C)
    (L : (Jvm.Cond.lays C O f d).before a0 Z = true ∨ ((Jvm.Cond.laysFinal C O f d).before a0 Z = true ∧ own = O ∧ nm = "<init>")) (wi : (Jvm.Cond.instantiable C kk).before a0 Z = true) (hty : parseFieldDescriptor d = some ty) (hv : narrow ty v = v) (hf : fits ty v = true) (ge : n0 ≤ a)
    (k : ∀ h', Wr h h' a (RoadKit.slotOf Z O f d) v → Fld Z h' a O f d v → Exa Z h' a C → Keep h h' [a] → WG FE l R Z own nm bytes maxL ret n0 P h' cells slots n Ls st) : WG FE l R Z own nm bytes maxL ret n0 P h cells slots pc Ls (v :: .ref a :: st) := by
  subst hn
  intro p e s m args below meth c T locs hx hZ hby hml hown hret hlk hnm hn0 X eT N
  obtain ⟨T', h', X', e', W', st'⟩ := putF X hx hZ hown w via eT F E (L.imp id fun q => ⟨q.1, q.2.1, hnm.trans q.2.2⟩) wi hty hv hf (g := mkF m pc Ls (v :: .ref a :: st)) rfl rfl (hb hby hd)
  exact (k h' W' (F.same W') (E.wr W') (Keep.of_wr W') p e s m args below meth c T' _ hx hZ hby hml hown hret hlk hnm hn0 X' e' (Fr.one N ge)).step st'
theorem W.putfieldN {i kk : Nat} {R0 O f d C : String} {ty : FieldType} {a : Addr} {v old : Value} (n : Nat) (hd : decode bytes pc = .ok (.putfield i, 3)) (hn : pc + 3 = n) (w : (Jvm.Cond.fieldLink own i R0 f d).before a0 Z = true) (via : Via Z R0 O f d) (F : Fld Z h a O f d old) (E : Exa Z h a C)
    (L : (Jvm.Cond.lays C O f d).before a0 Z = true ∨ ((Jvm.Cond.laysFinal C O f d).before a0 Z = true ∧ own = O ∧ nm = "<init>")) (wi : (Jvm.Cond.instantiable C kk).before a0 Z = true) (hty : parseFieldDescriptor d = some ty) (v' : Value) (hv : narrow ty v = v') (hf : fits ty v' = true) (ge : n0 ≤ a)
    (k : ∀ h', Wr h h' a (RoadKit.slotOf Z O f d) v' → Fld Z h' a O f d v' → Exa Z h' a C → Keep h h' [a] → WG FE l R Z own nm bytes maxL ret n0 P h' cells slots n Ls st) : WG FE l R Z own nm bytes maxL ret n0 P h cells slots pc Ls (v :: .ref a :: st) := by
  subst hn
  intro p e s m args below meth c T locs hx hZ hby hml hown hret hlk hnm hn0 X eT N
  obtain ⟨T', h', X', e', W', st'⟩ := putFN X hx hZ hown w via eT F E (L.imp id fun q => ⟨q.1, q.2.1, hnm.trans q.2.2⟩) wi hty hv hf (g := mkF m pc Ls (v :: .ref a :: st)) rfl rfl (hb hby hd)
  exact (k h' W' (F.same W') (E.wr W') (Keep.of_wr W') p e s m args below meth c T' _ hx hZ hby hml hown hret hlk hnm hn0 X' e' (Fr.one N ge)).step st'
theorem W.new {i ns : Nat} {C : String} (n : Nat) (hd : decode bytes pc = .ok (.new i, 3)) (hn : pc + 3 = n) (w : (Jvm.Cond.classLink own i C).before a0 Z = true) (wi : (Jvm.Cond.instantiable C ns).before a0 Z = true) (wz : (Jvm.Cond.initialized C).before a0 Z = true) (hc : cells + 1 ≤ R.cells) (hs : slots + ns ≤ R.slots)
    (k : ∀ h' b, b = h.size → n0 ≤ b → Ext h h' → Keep h h' [] → Exa Z h' b C → (∀ {O f d : String} {ty : FieldType}, Laid Z a0 C O f d → parseFieldDescriptor d = some ty → Fld Z h' b O f d (defaultValue ty)) → WG FE l R Z own nm bytes maxL ret n0 P h' (cells + 1) (slots + ns) n Ls (.ref b :: st)) : WG FE l R Z own nm bytes maxL ret n0 P h cells slots pc Ls st := by
  subst hn
  intro p e s m args below meth c T locs hx hZ hby hml hown hret hlk hnm hn0 X eT N
  obtain ⟨T', h', X', e', E', A', D', -, st'⟩ := newO X hx hZ hown w wi wz eT (g := mkF m pc Ls st) rfl (hb hby hd) hc hs
  have hb0 : n0 ≤ h.size := Nat.le_trans hn0 (eT ▸ size_le X)
  exact (k h' h.size rfl hb0 E' (Keep.of_ext E') A' D' p e s m args below meth c T' _ hx hZ hby hml hown hret hlk hnm hn0 X' e' N).step st'
theorem Ary.lt {a : Addr} {ty : FieldType} {vs : List Value} (A : Ary Z h a ty vs) : a < h.size := by obtain ⟨c, A, -⟩ := A; exact A.lt
theorem Ary.keep {h' : Heap} {ws : List Addr} {a : Addr} {ty : FieldType} {vs : List Value} (A : Ary Z h a ty vs) (K : Keep h h' ws) (q : a ∉ ws) : Ary Z h' a ty vs := by obtain ⟨c, A, r⟩ := A; exact ⟨c, ⟨K.2.1 a c A.1 q, A.2⟩, r⟩
theorem Ary.new {k : ClassId} {a : Addr} {ty : FieldType} {z : Int32} (A : Arr Z h a (newA k ty z) ty) (hf : fits ty (defaultValue ty) = true) : Ary Z h a ty (List.replicate z.toNatClampNeg (defaultValue ty)) :=
  ⟨_, A, by simp [newA], fun v hv => by rw [(List.mem_replicate.mp hv).2]; exact hf, by rw [List.length_replicate]; have := Int32.toInt_lt z; simp only [Int32.toNatClampNeg]; omega⟩
theorem Ary.set {h' : Heap} {a : Addr} {ty : FieldType} {vs : List Value} {i : Nat} {v : Value} (A : Ary Z h a ty vs) (W' : Wr h h' a i v) (hf : fits ty v = true) : Ary Z h' a ty (vs.set i v) := by
  obtain ⟨c, A, rfl, F, S⟩ := A
  exact ⟨_, A.same W', by simp [Cell.setSlot], fun w hw => (List.mem_or_eq_of_mem_set hw).elim (fun q => F w q) (fun q => q ▸ hf), by simpa using S⟩
theorem Ary.arv {a : Addr} {ty : FieldType} {vs : List Value} (A : Ary Z h a ty vs) (d : Value) : ∃ k, Arv Z h a k ty vs.length.toInt32 vs d := by
  obtain ⟨c, A, rfl, F, S⟩ := A
  have hz : (c.slots.toList.length.toInt32).toInt = c.slots.toList.length := Int32.toInt_ofNat_small S
  have hn : (c.slots.toList.length.toInt32).toNatClampNeg = c.slots.size := by simp only [Int32.toNatClampNeg]; rw [hz]; simp
  refine ⟨c.cls, c, A, rfl, hn.symm, fun q => ?_, fun i hi => ?_, fun i hi => ?_⟩
  · have := Int32.lt_iff_toInt_lt.mp q; rw [hz] at this; have e0 : (0 : Int32).toInt = 0 := rfl; omega
  · rw [List.getD_eq_getElem?_getD]; simp [hi]
  · rw [List.getD_eq_getElem?_getD]; exact F _ (by simp [hi])
theorem Ary.of_arv {a : Addr} {k : ClassId} {ty : FieldType} {vs : List Value} {z : Int32} {d : Value} (A : Arv Z h a k ty z vs d) (hz : z.toNatClampNeg = vs.length) : Ary Z h a ty vs := by
  obtain ⟨c, A, q1, q2, q3, H, G⟩ := A
  have hl : c.slots.toList = vs := by
    apply List.ext_getElem?
    intro i
    by_cases hi : i < c.slots.size
    · have := H i hi
      rw [List.getD_eq_getElem?_getD, List.getElem?_eq_getElem (by omega)] at this
      rw [List.getElem?_eq_getElem (l := vs) (by omega)]
      simpa using this
    · rw [List.getElem?_eq_none (by simpa using hi), List.getElem?_eq_none (by omega)]
  refine ⟨c, A, hl, fun v hv => ?_, ?_⟩
  · obtain ⟨i, hi, rfl⟩ := List.getElem_of_mem hv
    have := G i (by omega)
    rwa [List.getD_eq_getElem?_getD, List.getElem?_eq_getElem hi] at this
  · have := Int32.toInt_lt z; simp only [Int32.toNatClampNeg] at hz; omega
theorem W.newarray {aty : ArrayType} {ty : FieldType} {x : Int32} (n : Nat) (hd : decode bytes pc = .ok (.newarray aty, 2)) (hn : pc + 2 = n) (w : (Jvm.Cond.arrayClass ty).before a0 Z = true) (hty : newarray.typeOf aty = ty) (hx0 : ¬ x < 0) (len cap : Nat) (hlen : x.toNatClampNeg = len) (hcap : len ≤ cap) (hb8 : cap * 8 ≤ 536870912) (hc : cells + 1 ≤ R.cells) (hs : slots + cap ≤ R.slots) (hfd : fits ty (defaultValue ty) = true)
    (k : ∀ h' b, b = h.size → n0 ≤ b → Ext h h' → Keep h h' [] → Ary Z h' b ty (List.replicate len (defaultValue ty)) → WG FE l R Z own nm bytes maxL ret n0 P h' (cells + 1) (slots + cap) n Ls (.ref b :: st)) : WG FE l R Z own nm bytes maxL ret n0 P h cells slots pc Ls (.int x :: st) := by
  subst hn hty hlen
  intro p e s m args below meth c T locs hx hZ hby hml hown hret hlk hnm hn0 X eT N
  obtain ⟨T', h', cA, X', e', E', A', st'⟩ := newP X hx hZ w eT (g := mkF m pc Ls (.int x :: st)) rfl (hb hby hd) rfl hx0 hcap hb8 hc hs
  have hb0 : n0 ≤ h.size := Nat.le_trans hn0 (eT ▸ size_le X)
  exact (k h' h.size rfl hb0 E' (Keep.of_ext E') (Ary.new A' hfd) p e s m args below meth c T' _ hx hZ hby hml hown hret hlk hnm hn0 X' e' N).step st'
theorem ary_in {c : Cell} {vs : List Value} {j : Int32} {i : Nat} (hc : c.slots.toList = vs) (hj : j.toNatClampNeg = i) (h0 : ¬ j < 0) (hi : i < vs.length) : ¬ (j < 0 ∨ c.slots.size ≤ j.toNatClampNeg) := by
  subst hc hj; rintro (q | q)
  · exact h0 q
  · exact absurd hi (by simpa using q)
theorem W.arraylength {a : Addr} {ty : FieldType} {vs : List Value} (n : Nat) (hd : decode bytes pc = .ok (.arraylength, 1)) (hn : pc + 1 = n) (A : Ary Z h a ty vs) (v : Int32) (hv : vs.length.toInt32 = v) (k : WG FE l R Z own nm bytes maxL ret n0 P h cells slots n Ls (.int v :: st)) : WG FE l R Z own nm bytes maxL ret n0 P h cells slots pc Ls (.ref a :: st) := by
  subst hn
  obtain ⟨c, A, rfl, F, S⟩ := A
  have e : c.slots.size.toInt32 = v := by rw [← hv]; simp
  exact k.step fun p e' s m args below meth c' T locs hx hZ hby hown X eT t q => X.arraylength hx (by rw [eT]; exact A.1) (State.isArrayOf_alike hZ.alike A.2.1) (g := mkF m pc Ls (.ref a :: st)) rfl rfl (hb hby hd) t (e ▸ q)

theorem W.iaload {a : Addr} {vs : List Value} {j : Int32} (n : Nat) (hd : decode bytes pc = .ok (.iaload, 1)) (hn : pc + 1 = n) (A : Ary Z h a .int vs) (i : Nat) (hj : j.toNatClampNeg = i) (h0 : ¬ j < 0) (v : Value) (hv : vs[i]? = some v) (k : WG FE l R Z own nm bytes maxL ret n0 P h cells slots n Ls (v :: st)) : WG FE l R Z own nm bytes maxL ret n0 P h cells slots pc Ls (.int j :: .ref a :: st) := by
  subst hn
  obtain ⟨c, A, hc, F, S⟩ := A
  have hi : i < vs.length := (List.getElem?_eq_some_iff.mp hv).1
  have hin := ary_in hc hj h0 hi
  have hat : c.slots[j.toNatClampNeg]? = some v := by rw [hj, ← hv, ← hc]; simp
  exact k.step fun p e' s m args below meth c' T locs hx hZ hby hown X eT t q => X.iaload hx (j := j) (v := v) (by rw [eT]; exact A.1) (State.isArrayOf_alike hZ.alike A.2.1) A.2.2 hin hat (g := mkF m pc Ls (.int j :: .ref a :: st)) rfl rfl (hb hby hd) t q
theorem W.iastore {a : Addr} {vs : List Value} {j : Int32} {x : Int32} (n : Nat) (hd : decode bytes pc = .ok (.iastore, 1)) (hn : pc + 1 = n) (A : Ary Z h a .int vs) (i : Nat) (hj : j.toNatClampNeg = i) (h0 : ¬ j < 0) (hi : i < vs.length) (ge : n0 ≤ a)
    (k : ∀ h', Wr h h' a i (.int x) → Keep h h' [a] → Ary Z h' a .int (vs.set i (.int x)) → WG FE l R Z own nm bytes maxL ret n0 P h' cells slots n Ls st) : WG FE l R Z own nm bytes maxL ret n0 P h cells slots pc Ls (.int x :: .int j :: .ref a :: st) := by
  subst hn
  intro p e s m args below meth c T locs hx hZ hby hml hown hret hlk hnm hn0 X eT N
  have A0 := A
  obtain ⟨cl, A, hc, F, S⟩ := A
  obtain ⟨T', h', X', e', W', st'⟩ := stI X hx hZ eT A (ary_in hc hj h0 hi) (g := mkF m pc Ls (.int x :: .int j :: .ref a :: st)) rfl rfl (hb hby hd)
  subst hj
  exact (k h' W' (Keep.of_wr W') (A0.set W' rfl) p e s m args below meth c T' _ hx hZ hby hml hown hret hlk hnm hn0 X' e' (Fr.one N ge)).step st'

theorem W.lastore {a : Addr} {vs : List Value} {j : Int32} {x : Int64} (n : Nat) (hd : decode bytes pc = .ok (.lastore, 1)) (hn : pc + 1 = n) (A : Ary Z h a .long vs) (i : Nat) (hj : j.toNatClampNeg = i) (h0 : ¬ j < 0) (hi : i < vs.length) (ge : n0 ≤ a)
    (k : ∀ h', Wr h h' a i (.long x) → Keep h h' [a] → Ary Z h' a .long (vs.set i (.long x)) → WG FE l R Z own nm bytes maxL ret n0 P h' cells slots n Ls st) : WG FE l R Z own nm bytes maxL ret n0 P h cells slots pc Ls (.long x :: .int j :: .ref a :: st) := by
  subst hn
  intro p e s m args below meth c T locs hx hZ hby hml hown hret hlk hnm hn0 X eT N
  have A0 := A
  obtain ⟨cl, A, hc, F, S⟩ := A
  obtain ⟨T', h', X', e', W', st'⟩ := stJ X hx hZ eT A (ary_in hc hj h0 hi) (g := mkF m pc Ls (.long x :: .int j :: .ref a :: st)) rfl rfl (hb hby hd)
  subst hj
  exact (k h' W' (Keep.of_wr W') (A0.set W' rfl) p e s m args below meth c T' _ hx hZ hby hml hown hret hlk hnm hn0 X' e' (Fr.one N ge)).step st'

theorem Sta.keep0 {h' : Heap} {C f d : String} {v : Value} (K : Keep h h' []) (F : Sta Z h C f d v) : Sta Z h' C f d v := by
  obtain ⟨cf, i, k, fd, st, cell, h1, h2, h3, h4, h5, r⟩ := F; exact ⟨cf, i, k, fd, st, cell, h1, h2, h3, h4, K.2.1 _ _ h5 nin0, r⟩
/-- an array of references, and what may lie in it -/
def AryO (Z : State) (h : Heap) (a : Addr) (C : String) (vs : List Value) : Prop :=
  ∃ c : Cell, Arr Z h a c (.object C) ∧ Ovr Z c.cls C ∧ c.slots.toList = vs ∧ (∀ v ∈ vs, fits (.object C) v = true) ∧ vs.length < 2 ^ 31
theorem AryO.ary {a : Addr} {C : String} {vs : List Value} (A : AryO Z h a C vs) : Ary Z h a (.object C) vs := by obtain ⟨c, A, -, r⟩ := A; exact ⟨c, A, r⟩
theorem AryO.lt {a : Addr} {C : String} {vs : List Value} (A : AryO Z h a C vs) : a < h.size := A.ary.lt
theorem AryO.keep {h' : Heap} {ws : List Addr} {a : Addr} {C : String} {vs : List Value} (A : AryO Z h a C vs) (K : Keep h h' ws) (q : a ∉ ws) : AryO Z h' a C vs := by obtain ⟨c, A, r⟩ := A; exact ⟨c, ⟨K.2.1 a c A.1 q, A.2⟩, r⟩
/-! calls and returns -/
theorem W.initObj {i : Nat} {a : Addr} (n : Nat) (hd : decode bytes pc = .ok (.invokespecial i, 3)) (hn : pc + 3 = n) (w1 : (Jvm.Cond.methodLink own i Lib.objectInit).before a0 Z = true) (w2 : (Jvm.Cond.instanceMethod Lib.objectInit).before a0 Z = true) (w3 : (Jvm.Cond.code Lib.objectInit ⟨#[0xb1]⟩ 1 none).before a0 Z = true) (hsz : Ls.size = maxL) (hf : 1 ≤ R.frames) (W0 : Nat) (hW : (st.map fun v => v.category).sum ≤ W0) (hl : W0 + 12 ≤ R.locals)
    (k : WG FE l R Z own nm bytes maxL ret n0 P h cells slots n Ls st) : WG FE l R Z own nm bytes maxL ret n0 P h cells slots pc Ls (.ref a :: st) := by
  subst hn
  intro p e s m args below meth c T locs hx hZ hby hml hown hret hlk hnm hn0 X eT N
  obtain ⟨T', X', e', st'⟩ := initO X hx hZ hown w1 w2 w3 eT (g := mkF m pc Ls (.ref a :: st)) rfl (by rw [hml]; exact hsz) rfl (hb hby hd) hf (W := W0) (by show 2 * 0 + _ ≤ _; omega) hl
  exact (k p e s m args below meth c T' locs hx hZ hby hml hown hret hlk hnm hn0 X' e' N).step st'
section Calls
variable {y : MethodName} {bytes' : ByteArray} {maxL' : Nat} {ret' : Option FieldType} {rm : Room} {P' : Option Value → Heap → Prop} {rest argsL : List Value} {i : Nat}
theorem W.callS (n : Nat) (hd : decode bytes pc = .ok (.invokestatic i, 3)) (hn : pc + 3 = n) (C : n0 ≤ h.size → Con l Z y bytes' maxL' ret' rm argsL.toArray h n0 P') (w1 : (Jvm.Cond.methodLink own i y).before a0 Z = true) (w2 : (Jvm.Cond.static y).before a0 Z = true) (w3 : (Jvm.Cond.initialized y.cls).before a0 Z = true) (w4 : (Jvm.Cond.code y bytes' maxL' ret').before a0 Z = true)
    (hy : y.cls ≠ "java/lang/invoke/MethodHandle" ∧ y.cls ≠ "java/lang/invoke/VarHandle") {ps : List FieldType} {r : Option FieldType} (hpd : parseMethodDescriptor y.desc = some ⟨ps, r⟩) (hlen : argsL.length = ps.length) (hst : st = argsL.reverse ++ rest) (hsz : Ls.size = maxL) (hf : rm.frames + 1 ≤ R.frames) (W0 : Nat) (hW : (rest.map fun v => v.category).sum ≤ W0) (hl : W0 + (maxL' + 11) + rm.locals ≤ R.locals) (hc : cells + rm.cells ≤ R.cells) (hs : slots + rm.slots ≤ R.slots)
    (k : ∀ v h', P' v h' → WG FE l R Z own nm bytes maxL ret n0 P h' (cells + rm.cells) (slots + rm.slots) n Ls (v.toList ++ rest)) : WG FE l R Z own nm bytes maxL ret n0 P h cells slots pc Ls st := by
  subst hn hst
  intro p e s m args below meth c T locs hx hZ hby hml hown hret hlk hnm hn0 X eT N
  obtain ⟨v, _, ⟨T', L', c', n'⟩, -, X', ⟨Lc, hQ, l', y', z'⟩, st'⟩ := Jvm.LawKit.callS X hx (y := y) hown (mvT hZ w1) (mvT hZ w2) (mvT hZ w3) (mvT hZ w4) hy (backOf (W := W0) (Z := Z) (h := h) (bytes := bytes') (maxL := maxL') (rm := rm) (Q := fun v h' L => P' v h' ∧ Fr n0 L) (C (Nat.le_trans hn0 (eT ▸ size_le X))) hZ w4 w3 hf hl) (g := mkF m pc Ls (argsL.reverse ++ rest)) rfl (by rw [hml]; exact hsz) (argsL := argsL) (rest := rest) (lenOf hpd hlen) rfl (by show 2 * 0 + _ ≤ _; omega) (hb hby hd) (fun _ _ => ⟨rfl, eT, hc, hs⟩)
  dsimp only [Pt.U, Pt.locs, Pt.cells, Pt.slots] at X' l' y' z' st' hQ
  subst l' y' z'
  exact (k v T'.heap hQ.1 p e s m args below meth c T' _ hx hZ hby hml hown hret hlk hnm hn0 X' rfl (Fr.app N hQ.2)).step st'
theorem W.callInit {a : Addr} (n : Nat) (hd : decode bytes pc = .ok (.invokespecial i, 3)) (hn : pc + 3 = n) (C : n0 ≤ h.size → Con l Z y bytes' maxL' none rm (.ref a :: argsL).toArray h n0 P') (hi : y.name = "<init>") (w1 : (Jvm.Cond.methodLink own i y).before a0 Z = true) (w2 : (Jvm.Cond.instanceMethod y).before a0 Z = true) (w3 : (Jvm.Cond.initialized y.cls).before a0 Z = true) (w4 : (Jvm.Cond.code y bytes' maxL' none).before a0 Z = true)
    (hy : y.cls ≠ "java/lang/invoke/MethodHandle" ∧ y.cls ≠ "java/lang/invoke/VarHandle") {ps : List FieldType} {r : Option FieldType} (hpd : parseMethodDescriptor y.desc = some ⟨ps, r⟩) (hlen : argsL.length = ps.length) (hst : st = argsL.reverse ++ .ref a :: rest) (hsz : Ls.size = maxL) (hf : rm.frames + 1 ≤ R.frames) (W0 : Nat) (hW : (rest.map fun v => v.category).sum ≤ W0) (hl : W0 + (maxL' + 11) + rm.locals ≤ R.locals) (hc : cells + rm.cells ≤ R.cells) (hs : slots + rm.slots ≤ R.slots)
    (k : ∀ v h', P' v h' → WG FE l R Z own nm bytes maxL ret n0 P h' (cells + rm.cells) (slots + rm.slots) n Ls (v.toList ++ rest)) : WG FE l R Z own nm bytes maxL ret n0 P h cells slots pc Ls st := by
  subst hn hst
  intro p e s m args below meth c T locs hx hZ hby hml hown hret hlk hnm hn0 X eT N
  obtain ⟨v, _, ⟨T', L', c', n'⟩, -, X', ⟨Lc, hQ, l', y', z'⟩, st'⟩ := X.specialBack hx (y := y) hi hown (mvT hZ w1) (mvT hZ w2) (mvT hZ w4) hy (backOf (W := W0) (Z := Z) (h := h) (bytes := bytes') (maxL := maxL') (rm := rm) (Q := fun v h' L => P' v h' ∧ Fr n0 L) (C (Nat.le_trans hn0 (eT ▸ size_le X))) hZ w4 w3 hf hl) (g := mkF m pc Ls (argsL.reverse ++ .ref a :: rest)) rfl (by rw [hml]; exact hsz) (Steps.refl _) (a := a) (argsL := argsL) (rest := rest) (lenOf hpd hlen) rfl (by show 2 * 0 + _ ≤ _; omega) (hb hby hd) (fun _ _ => ⟨rfl, eT, hc, hs⟩)
  dsimp only [Pt.U, Pt.locs, Pt.cells, Pt.slots] at X' l' y' z' st' hQ
  subst l' y' z'
  exact (k v T'.heap hQ.1 p e s m args below meth c T' _ hx hZ hby hml hown hret hlk hnm hn0 X' rfl (Fr.app N hQ.2)).step fun t q => st'.trans q
theorem W.callV {C0 : String} {a : Addr} (n : Nat) (hd : decode bytes pc = .ok (.invokevirtual i, 3)) (hn : pc + 3 = n) (C : n0 ≤ h.size → Con l Z y bytes' maxL' ret' rm (.ref a :: argsL).toArray h n0 P') (E : Exa Z h a C0) (w1 : (Jvm.Cond.methodLink own i y).before a0 Z = true) (w2 : (Jvm.Cond.declares y).before a0 Z = true) (w5 : (Jvm.Cond.selects C0 y y).before a0 Z = true) (hcy : C0 = y.cls) (w6 : (Jvm.Cond.instanceMethod y).before a0 Z = true) (w3 : (Jvm.Cond.initialized y.cls).before a0 Z = true) (w4 : (Jvm.Cond.code y bytes' maxL' ret').before a0 Z = true)
    (hy : y.cls ≠ "java/lang/invoke/MethodHandle" ∧ y.cls ≠ "java/lang/invoke/VarHandle") {ps : List FieldType} {r : Option FieldType} (hpd : parseMethodDescriptor y.desc = some ⟨ps, r⟩) (hlen : argsL.length = ps.length) (hst : st = argsL.reverse ++ .ref a :: rest) (hsz : Ls.size = maxL) (hf : rm.frames + 1 ≤ R.frames) (W0 : Nat) (hW : (rest.map fun v => v.category).sum ≤ W0) (hl : W0 + (maxL' + 11) + rm.locals ≤ R.locals) (hc : cells + rm.cells ≤ R.cells) (hs : slots + rm.slots ≤ R.slots)
    (k : ∀ v h', P' v h' → WG FE l R Z own nm bytes maxL ret n0 P h' (cells + rm.cells) (slots + rm.slots) n Ls (v.toList ++ rest)) : WG FE l R Z own nm bytes maxL ret n0 P h cells slots pc Ls st := by
  subst hn hst hcy
  intro p e s m args below meth c T locs hx hZ hby hml hown hret hlk hnm hn0 X eT N
  obtain ⟨cq, kq, qa, qb, qc⟩ := isOf hZ eT E
  obtain ⟨v, _, ⟨T', L', c', n'⟩, -, X', ⟨Lc, hQ, l', y', z'⟩, st'⟩ := X.virtualBack hx (y := y) (z := y) hown (mvT hZ w1) (mvT hZ w2) (notFace_of_selects (args := #[]) (mvT hZ w5)) (mvT hZ w5) (mvT hZ w6) hy (backOf (W := W0) (Z := Z) (h := h) (bytes := bytes') (maxL := maxL') (rm := rm) (Q := fun v h' L => P' v h' ∧ Fr n0 L) (C (Nat.le_trans hn0 (eT ▸ size_le X))) hZ w4 w3 hf hl) qa qc (g := mkF m pc Ls (argsL.reverse ++ .ref a :: rest)) rfl (by rw [hml]; exact hsz) (Steps.refl _) (argsL := argsL) (rest := rest) (lenOf hpd hlen) rfl (by show 2 * 0 + _ ≤ _; omega) (hb hby hd) (fun _ _ => ⟨rfl, eT, hc, hs⟩)
  dsimp only [Pt.U, Pt.locs, Pt.cells, Pt.slots] at X' l' y' z' st' hQ
  subst l' y' z'
  exact (k v T'.heap hQ.1 p e s m args below meth c T' _ hx hZ hby hml hown hret hlk hnm hn0 X' rfl (Fr.app N hQ.2)).step fun t q => st'.trans q
theorem W.callP {C0 : String} {a : Addr} {kk : Nat} (n : Nat) (hd : decode bytes pc = .ok (.invokevirtual i, 3)) (hn : pc + 3 = n) (C : n0 ≤ h.size → Con l Z y bytes' maxL' ret' rm (.ref a :: argsL).toArray h n0 P') (E : Exa Z h a C0) (w1 : (Jvm.Cond.methodLink own i y).before a0 Z = true) (wp : (Jvm.Cond.privateMethod y).before a0 Z = true) (wi : (Jvm.Cond.instantiable y.cls kk).before a0 Z = true) (w6 : (Jvm.Cond.instanceMethod y).before a0 Z = true) (w3 : (Jvm.Cond.initialized y.cls).before a0 Z = true) (w4 : (Jvm.Cond.code y bytes' maxL' ret').before a0 Z = true)
    (hy : y.cls ≠ "java/lang/invoke/MethodHandle" ∧ y.cls ≠ "java/lang/invoke/VarHandle") {ps : List FieldType} {r : Option FieldType} (hpd : parseMethodDescriptor y.desc = some ⟨ps, r⟩) (hlen : argsL.length = ps.length) (hst : st = argsL.reverse ++ .ref a :: rest) (hsz : Ls.size = maxL) (hf : rm.frames + 1 ≤ R.frames) (W0 : Nat) (hW : (rest.map fun v => v.category).sum ≤ W0) (hl : W0 + (maxL' + 11) + rm.locals ≤ R.locals) (hc : cells + rm.cells ≤ R.cells) (hs : slots + rm.slots ≤ R.slots)
    (k : ∀ v h', P' v h' → WG FE l R Z own nm bytes maxL ret n0 P h' (cells + rm.cells) (slots + rm.slots) n Ls (v.toList ++ rest)) : WG FE l R Z own nm bytes maxL ret n0 P h cells slots pc Ls st := by
  subst hn hst
  intro p e s m args below meth c T locs hx hZ hby hml hown hret hlk hnm hn0 X eT N
  obtain ⟨cI, kI, i1, i2, i3, i4, -⟩ := Cond.instantiable_spec (mvT (args := args) hZ wi)
  have hni : kI.isInterface = false := by cases hi : kI.isInterface <;> simp [hi] at i4 ⊢
  have hpriv := Cond.privateMethod_at (mvP hZ wp (args := args))
  have hsel := selects_self_of_private i1 i2 hni hpriv (mvT (args := args) hZ w6) hy
  obtain ⟨cell, hc1, hc2⟩ := E.cell
  obtain ⟨v, _, ⟨T', L', c', n'⟩, -, X', ⟨Lc, hQ, l', y', z'⟩, st'⟩ := X.privateBack hx (y := y) hown (mvT hZ w1) (mvT hZ w6) hsel hpriv (mvT hZ w4) hy (backOf (W := W0) (Z := Z) (h := h) (bytes := bytes') (maxL := maxL') (rm := rm) (Q := fun v h' L => P' v h' ∧ Fr n0 L) (C (Nat.le_trans hn0 (eT ▸ size_le X))) hZ w4 w3 hf hl) (g := mkF m pc Ls (argsL.reverse ++ .ref a :: rest)) rfl (by rw [hml]; exact hsz) (Steps.refl _) (a := a) (cell := cell) (by rw [eT]; exact hc1) hc2 (argsL := argsL) (rest := rest) (lenOf hpd hlen) rfl (by show 2 * 0 + _ ≤ _; omega) (hb hby hd) (fun _ _ => ⟨rfl, eT, hc, hs⟩)
  dsimp only [Pt.U, Pt.locs, Pt.cells, Pt.slots] at X' l' y' z' st' hQ
  subst l' y' z'
  exact (k v T'.heap hQ.1 p e s m args below meth c T' _ hx hZ hby hml hown hret hlk hnm hn0 X' rfl (Fr.app N hQ.2)).step fun t q => st'.trans q
end Calls
theorem ary_us {vs : List Value} {d : Value} (i k : Nat) (hs : i + k ≤ vs.length) : (List.range k).map (fun j => vs.getD (i + j) d) = (vs.drop i).take k := by
  apply List.ext_getElem?
  intro j
  by_cases hj : j < k
  · simp [hj, List.getD_eq_getElem?_getD, List.getElem?_eq_getElem (show i + j < vs.length by omega)]
  · simp [hj]; omega
theorem W.ireturn {x : Int32} (hd : decode bytes pc = .ok (.ireturn, 1)) (hr : ret = some .int) (hp : P (some (.int x)) h) (hc : cells ≤ R.cells) (hs : slots ≤ R.slots) (hFE : ∀ {s : State} {o : Outcome} {t : State} {L : List Loc} {k n : Nat}, FrameEnd s o t L k n → FE s o t L k n := by first | exact fun q => q | exact fun q => RoadKit.wide q) : WG FE l R Z own nm bytes maxL ret n0 P h cells slots pc Ls (.int x :: st) := by
  intro p e s m args below meth c T locs hx hZ hby hml hown hret hlk hnm hn0 X eT N
  obtain ⟨fs, hr', hrun, hended, hW, hsame⟩ := X.leave (v := some (.int x)) (fun q => by rw [hret, hr] at q; cases q) hlk
  exact ⟨_, _, retOut X hx (t := .int) (i := .ireturn) (hret.trans hr) rfl (Or.inl ⟨rfl, Or.inl rfl, _, rfl⟩) (hb hby hd) hr', hrun, hended, _, _, rfl, ⟨by show P _ T.heap; rw [eT]; exact hp, N⟩, hFE ⟨⟨_, rfl⟩, hW, hsame.mono hc hs⟩⟩
theorem W.ireturnN {x : Int32} {t : FieldType} (hd : decode bytes pc = .ok (.ireturn, 1)) (hr : ret = some t) (ht : t = .boolean ∨ t = .byte ∨ t = .char ∨ t = .short) (x' : Int32) (hx' : nar t x = x') (hp : P (some (.int x')) h) (hc : cells ≤ R.cells) (hs : slots ≤ R.slots) (hFE : ∀ {s : State} {o : Outcome} {t : State} {L : List Loc} {k n : Nat}, FrameEnd s o t L k n → FE s o t L k n := by first | exact fun q => q | exact fun q => RoadKit.wide q) : WG FE l R Z own nm bytes maxL ret n0 P h cells slots pc Ls (.int x :: st) := by
  subst hx'
  intro p e s m args below meth c T locs hx hZ hby hml hown hret hlk hnm hn0 X eT N
  obtain ⟨fs, hr', hrun, hended, hW, hsame⟩ := X.leave (v := some (.int (nar t x))) (fun q => by rw [hret, hr] at q; cases q) hlk
  exact ⟨_, _, retN X hx (hret.trans hr) ht (hb hby hd) hr', hrun, hended, _, _, rfl, ⟨by show P _ T.heap; rw [eT]; exact hp, N⟩, hFE ⟨⟨_, rfl⟩, hW, hsame.mono hc hs⟩⟩
theorem W.areturn {v : Value} {t : FieldType} (hd : decode bytes pc = .ok (.areturn, 1)) (hr : ret = some t) (ht : t.isReference = true) (hv : v.isRef = true) (hn : narrow t v = v) (hp : P (some v) h) (hc : cells ≤ R.cells) (hs : slots ≤ R.slots) (hFE : ∀ {s : State} {o : Outcome} {t : State} {L : List Loc} {k n : Nat}, FrameEnd s o t L k n → FE s o t L k n := by first | exact fun q => q | exact fun q => RoadKit.wide q) : WG FE l R Z own nm bytes maxL ret n0 P h cells slots pc Ls (v :: st) := by
  intro p e s m args below meth c T locs hx hZ hby hml hown hret hlk hnm hn0 X eT N
  obtain ⟨fs, hr', hrun, hended, hW, hsame⟩ := X.leave (v := some v) (fun q => by rw [hret, hr] at q; cases q) hlk
  exact ⟨_, _, retOut X hx (t := t) (i := .areturn) (hret.trans hr) hn (Or.inr (Or.inr (Or.inr (Or.inr ⟨rfl, ht, hv⟩)))) (hb hby hd) hr', hrun, hended, _, _, rfl, ⟨by show P _ T.heap; rw [eT]; exact hp, N⟩, hFE ⟨⟨_, rfl⟩, hW, hsame.mono hc hs⟩⟩
theorem W.return_ (hd : decode bytes pc = .ok (.return_, 1)) (hr : ret = none) (hp : P none h) (hc : cells ≤ R.cells) (hs : slots ≤ R.slots) (hFE : ∀ {s : State} {o : Outcome} {t : State} {L : List Loc} {k n : Nat}, FrameEnd s o t L k n → FE s o t L k n := by first | exact fun q => q | exact fun q => RoadKit.wide q) : WG FE l R Z own nm bytes maxL ret n0 P h cells slots pc Ls [] := by
  intro p e s m args below meth c T locs hx hZ hby hml hown hret hlk hnm hn0 X eT N
  obtain ⟨fs, hr', hrun, hended, hW, hsame⟩ := X.leave (v := none) (fun q => rfl) hlk
  exact ⟨_, _, X.returnOut hx (hret.trans hr) (hb hby hd) hr', hrun, hended, _, _, rfl, ⟨by show P _ T.heap; rw [eT]; exact hp, N⟩, hFE ⟨⟨_, rfl⟩, hW, hsame.mono hc hs⟩⟩
theorem WG.widen (k : W l R Z own nm bytes maxL ret n0 P h cells slots pc Ls st) : WG FEW l R Z own nm bytes maxL ret n0 P h cells slots pc Ls st := by
  intro p e s m args below meth c T locs hx hZ hby hml hown hret hlk hnm hn0 X eT N
  obtain ⟨s₂, o, h1, h2, h3, v, L, h4, h5, h6⟩ := k p e s m args below meth c T locs hx hZ hby hml hown hret hlk hnm hn0 X eT N
  exact ⟨s₂, o, h1, h2, h3, v, L, h4, h5, RoadKit.wide h6⟩
end Rules
end Jvm.Wk

namespace Jvm.Pilot.@@N@@
open Jvm Jvm.ClassFile Sem Op Lib Jvm.Free Jvm.Stand Jvm.LawKit Jvm.RoadKit Jvm.Wk Bundle Jvm.Pilot.@@N@@.Jvm.D
abbrev HwT (Z : State) (a0 : Array Value) : Prop := ∀ d ∈ tables_1, d.before a0 Z = true
theorem d_jdk_29_method_69_0 : decode jdk_29_method_69_code 0 = .ok (.iload_n 0, 1) := by decide +kernel
theorem d_jdk_29_method_69_1 : decode jdk_29_method_69_code 1 = .ok (.iload_n 1, 1) := by decide +kernel
theorem d_jdk_29_method_69_2 : decode jdk_29_method_69_code 2 = .ok (.if_icmp .gt 7, 3) := by decide +kernel
theorem d_jdk_29_method_69_9 : decode jdk_29_method_69_code 9 = .ok (.iload_n 1, 1) := by decide +kernel
theorem d_jdk_29_method_69_10 : decode jdk_29_method_69_code 10 = .ok (.ireturn, 1) := by decide +kernel
theorem d_jdk_29_method_69_5 : decode jdk_29_method_69_code 5 = .ok (.iload_n 0, 1) := by decide +kernel
theorem d_jdk_29_method_69_6 : decode jdk_29_method_69_code 6 = .ok (.goto 4, 3) := by decide +kernel
theorem d_jdk_29_method_65_0 : decode jdk_29_method_65_code 0 = .ok (.iload_n 0, 1) := by decide +kernel
theorem d_jdk_29_method_65_1 : decode jdk_29_method_65_code 1 = .ok (.iload_n 1, 1) := by decide +kernel
theorem d_jdk_29_method_65_2 : decode jdk_29_method_65_code 2 = .ok (.if_icmp .lt 7, 3) := by decide +kernel
theorem d_jdk_29_method_65_9 : decode jdk_29_method_65_code 9 = .ok (.iload_n 1, 1) := by decide +kernel
theorem d_jdk_29_method_65_10 : decode jdk_29_method_65_code 10 = .ok (.ireturn, 1) := by decide +kernel
theorem d_jdk_29_method_65_5 : decode jdk_29_method_65_code 5 = .ok (.iload_n 0, 1) := by decide +kernel
theorem d_jdk_29_method_65_6 : decode jdk_29_method_65_code 6 = .ok (.goto 4, 3) := by decide +kernel
theorem d_method_3_0 : decode method_3_code 0 = .ok (.iload_n 1, 1) := by decide +kernel
theorem d_method_3_1 : decode method_3_code 1 = .ok (.ifCond .eq 11, 3) := by decide +kernel
theorem d_method_3_12 : decode method_3_code 12 = .ok (.iload_n 2, 1) := by decide +kernel
theorem d_method_3_13 : decode method_3_code 13 = .ok (.iload_n 3, 1) := by decide +kernel
theorem d_method_3_14 : decode method_3_code 14 = .ok (.invokestatic 45, 3) := by decide +kernel
theorem wd_144 {Z : State} {a0 : Array Value} (hw : HwT Z a0) : (Jvm.Cond.methodLink "com/example/eccentra/eccentra/MainVertexDistancesPinLaw" (45 : Nat) ({ cls := "java/lang/Math", name := "min", desc := "(II)I" } : Jvm.MethodName)).before a0 Z = true := hw _ (List.mem_of_getElem? (i := 144) rfl)
theorem wd_147 {Z : State} {a0 : Array Value} (hw : HwT Z a0) : (Jvm.Cond.code ({ cls := "java/lang/Math", name := "min", desc := "(II)I" } : Jvm.MethodName) jdk_29_method_69_code (2 : Nat) (Option.some Jvm.ClassFile.FieldType.int)).before a0 Z = true := hw _ (List.mem_of_getElem? (i := 147) rfl)
theorem pd_0 : parseMethodDescriptor "(II)I" = some ⟨[.int, .int], some .int⟩ := by decide +kernel
theorem wd_145 {Z : State} {a0 : Array Value} (hw : HwT Z a0) : (Jvm.Cond.static ({ cls := "java/lang/Math", name := "min", desc := "(II)I" } : Jvm.MethodName)).before a0 Z = true := hw _ (List.mem_of_getElem? (i := 145) rfl)
theorem wd_146 {Z : State} {a0 : Array Value} (hw : HwT Z a0) : (Jvm.Cond.initialized "java/lang/Math").before a0 Z = true := hw _ (List.mem_of_getElem? (i := 146) rfl)
theorem d_method_3_17 : decode method_3_code 17 = .ok (.iconst 3, 1) := by decide +kernel
theorem d_method_3_18 : decode method_3_code 18 = .ok (.imul, 1) := by decide +kernel
theorem d_method_3_19 : decode method_3_code 19 = .ok (.iload_n 2, 1) := by decide +kernel
theorem d_method_3_20 : decode method_3_code 20 = .ok (.iload_n 3, 1) := by decide +kernel
theorem d_method_3_21 : decode method_3_code 21 = .ok (.invokestatic 51, 3) := by decide +kernel
theorem wd_148 {Z : State} {a0 : Array Value} (hw : HwT Z a0) : (Jvm.Cond.methodLink "com/example/eccentra/eccentra/MainVertexDistancesPinLaw" (51 : Nat) ({ cls := "java/lang/Math", name := "max", desc := "(II)I" } : Jvm.MethodName)).before a0 Z = true := hw _ (List.mem_of_getElem? (i := 148) rfl)
theorem wd_150 {Z : State} {a0 : Array Value} (hw : HwT Z a0) : (Jvm.Cond.code ({ cls := "java/lang/Math", name := "max", desc := "(II)I" } : Jvm.MethodName) jdk_29_method_65_code (2 : Nat) (Option.some Jvm.ClassFile.FieldType.int)).before a0 Z = true := hw _ (List.mem_of_getElem? (i := 150) rfl)
theorem wd_149 {Z : State} {a0 : Array Value} (hw : HwT Z a0) : (Jvm.Cond.static ({ cls := "java/lang/Math", name := "max", desc := "(II)I" } : Jvm.MethodName)).before a0 Z = true := hw _ (List.mem_of_getElem? (i := 149) rfl)
theorem d_method_3_24 : decode method_3_code 24 = .ok (.iadd, 1) := by decide +kernel
theorem d_method_3_25 : decode method_3_code 25 = .ok (.istore 4, 2) := by decide +kernel
theorem d_method_3_27 : decode method_3_code 27 = .ok (.iload_n 0, 1) := by decide +kernel
theorem d_method_3_28 : decode method_3_code 28 = .ok (.iload 4, 2) := by decide +kernel
theorem d_method_3_30 : decode method_3_code 30 = .ok (.iushr, 1) := by decide +kernel
theorem d_method_3_31 : decode method_3_code 31 = .ok (.iconst 1, 1) := by decide +kernel
theorem d_method_3_32 : decode method_3_code 32 = .ok (.iand, 1) := by decide +kernel
theorem d_method_3_33 : decode method_3_code 33 = .ok (.ifCond .eq 7, 3) := by decide +kernel
theorem d_method_3_40 : decode method_3_code 40 = .ok (.iconst 0, 1) := by decide +kernel
theorem d_method_3_41 : decode method_3_code 41 = .ok (.ireturn, 1) := by decide +kernel
theorem d_method_3_36 : decode method_3_code 36 = .ok (.iconst 1, 1) := by decide +kernel
theorem d_method_3_37 : decode method_3_code 37 = .ok (.goto 4, 3) := by decide +kernel
theorem pn_0 : plainName "com/example/eccentra/eccentra/MainVertexDistancesPinLaw" = true := by first | (simp [plainName, overriddenIn]; done) | decide +kernel
theorem d_method_3_4 : decode method_3_code 4 = .ok (.iload_n 2, 1) := by decide +kernel
theorem d_method_3_5 : decode method_3_code 5 = .ok (.iconst 3, 1) := by decide +kernel
theorem d_method_3_6 : decode method_3_code 6 = .ok (.imul, 1) := by decide +kernel
theorem d_method_3_7 : decode method_3_code 7 = .ok (.iload_n 3, 1) := by decide +kernel
theorem d_method_3_8 : decode method_3_code 8 = .ok (.iadd, 1) := by decide +kernel
theorem d_method_3_9 : decode method_3_code 9 = .ok (.goto 16, 3) := by decide +kernel
theorem d_method_4_0 : decode method_4_code 0 = .ok (.iload 4, 2) := by decide +kernel
theorem d_method_4_2 : decode method_4_code 2 = .ok (.iload_n 3, 1) := by decide +kernel
theorem d_method_4_3 : decode method_4_code 3 = .ok (.if_icmp .eq 44, 3) := by decide +kernel
theorem d_method_4_47 : decode method_4_code 47 = .ok (.iload 6, 2) := by decide +kernel
theorem d_method_4_49 : decode method_4_code 49 = .ok (.ireturn, 1) := by decide +kernel
theorem d_method_4_6 : decode method_4_code 6 = .ok (.iload_n 2, 1) := by decide +kernel
theorem d_method_4_7 : decode method_4_code 7 = .ok (.ifCond .eq 17, 3) := by decide +kernel
theorem d_method_4_10 : decode method_4_code 10 = .ok (.iload_n 0, 1) := by decide +kernel
theorem d_method_4_11 : decode method_4_code 11 = .ok (.iload_n 1, 1) := by decide +kernel
theorem d_method_4_12 : decode method_4_code 12 = .ok (.iload_n 3, 1) := by decide +kernel
theorem d_method_4_13 : decode method_4_code 13 = .ok (.iload 4, 2) := by decide +kernel
theorem d_method_4_15 : decode method_4_code 15 = .ok (.invokestatic 54, 3) := by decide +kernel
theorem wd_9 {Z : State} {a0 : Array Value} (hw : HwT Z a0) : (Jvm.Cond.methodLink "com/example/eccentra/eccentra/MainVertexDistancesPinLaw" (54 : Nat) ({ cls := "com/example/eccentra/eccentra/MainVertexDistancesPinLaw", name := "has", desc := "(IZII)Z" } : Jvm.MethodName)).before a0 Z = true := hw _ (List.mem_of_getElem? (i := 9) rfl)
theorem wd_11 {Z : State} {a0 : Array Value} (hw : HwT Z a0) : (Jvm.Cond.code ({ cls := "com/example/eccentra/eccentra/MainVertexDistancesPinLaw", name := "has", desc := "(IZII)Z" } : Jvm.MethodName) method_3_code (5 : Nat) (Option.some Jvm.ClassFile.FieldType.boolean)).before a0 Z = true := hw _ (List.mem_of_getElem? (i := 11) rfl)
theorem pd_1 : parseMethodDescriptor "(IZII)Z" = some ⟨[.int, .boolean, .int, .int], some .boolean⟩ := by decide +kernel
theorem wd_10 {Z : State} {a0 : Array Value} (hw : HwT Z a0) : (Jvm.Cond.static ({ cls := "com/example/eccentra/eccentra/MainVertexDistancesPinLaw", name := "has", desc := "(IZII)Z" } : Jvm.MethodName)).before a0 Z = true := hw _ (List.mem_of_getElem? (i := 10) rfl)
theorem wd_4 {Z : State} {a0 : Array Value} (hw : HwT Z a0) : (Jvm.Cond.initialized "com/example/eccentra/eccentra/MainVertexDistancesPinLaw").before a0 Z = true := hw _ (List.mem_of_getElem? (i := 4) rfl)
theorem d_method_4_18 : decode method_4_code 18 = .ok (.ifCond .eq 29, 3) := by decide +kernel
theorem d_method_4_21 : decode method_4_code 21 = .ok (.goto 14, 3) := by decide +kernel
theorem d_method_4_35 : decode method_4_code 35 = .ok (.aload 5, 2) := by decide +kernel
theorem d_method_4_37 : decode method_4_code 37 = .ok (.iload 6, 2) := by decide +kernel
theorem d_method_4_39 : decode method_4_code 39 = .ok (.iload 4, 2) := by decide +kernel
theorem d_method_4_41 : decode method_4_code 41 = .ok (.iastore, 1) := by decide +kernel
theorem d_method_4_42 : decode method_4_code 42 = .ok (.iload 6, 2) := by decide +kernel
theorem d_method_4_44 : decode method_4_code 44 = .ok (.iconst 1, 1) := by decide +kernel
theorem d_method_4_45 : decode method_4_code 45 = .ok (.iadd, 1) := by decide +kernel
theorem d_method_4_46 : decode method_4_code 46 = .ok (.ireturn, 1) := by decide +kernel
theorem d_method_5_0 : decode method_5_code 0 = .ok (.iload_n 0, 1) := by decide +kernel
theorem d_method_5_1 : decode method_5_code 1 = .ok (.iload_n 1, 1) := by decide +kernel
theorem d_method_5_2 : decode method_5_code 2 = .ok (.iload_n 2, 1) := by decide +kernel
theorem d_method_5_3 : decode method_5_code 3 = .ok (.iload_n 3, 1) := by decide +kernel
theorem d_method_5_4 : decode method_5_code 4 = .ok (.iconst 0, 1) := by decide +kernel
theorem d_method_5_5 : decode method_5_code 5 = .ok (.aload 4, 2) := by decide +kernel
theorem d_method_5_7 : decode method_5_code 7 = .ok (.iload 5, 2) := by decide +kernel
theorem d_method_5_9 : decode method_5_code 9 = .ok (.invokestatic 58, 3) := by decide +kernel
theorem wd_6 {Z : State} {a0 : Array Value} (hw : HwT Z a0) : (Jvm.Cond.methodLink "com/example/eccentra/eccentra/MainVertexDistancesPinLaw" (58 : Nat) ({ cls := "com/example/eccentra/eccentra/MainVertexDistancesPinLaw", name := "put", desc := "(IZZII[II)I" } : Jvm.MethodName)).before a0 Z = true := hw _ (List.mem_of_getElem? (i := 6) rfl)
theorem wd_8 {Z : State} {a0 : Array Value} (hw : HwT Z a0) : (Jvm.Cond.code ({ cls := "com/example/eccentra/eccentra/MainVertexDistancesPinLaw", name := "put", desc := "(IZZII[II)I" } : Jvm.MethodName) method_4_code (7 : Nat) (Option.some Jvm.ClassFile.FieldType.int)).before a0 Z = true := hw _ (List.mem_of_getElem? (i := 8) rfl)
theorem pd_2 : parseMethodDescriptor "(IZZII[II)I" = some ⟨[.int, .boolean, .boolean, .int, .int, (.array .int), .int], some .int⟩ := by decide +kernel
theorem wd_7 {Z : State} {a0 : Array Value} (hw : HwT Z a0) : (Jvm.Cond.static ({ cls := "com/example/eccentra/eccentra/MainVertexDistancesPinLaw", name := "put", desc := "(IZZII[II)I" } : Jvm.MethodName)).before a0 Z = true := hw _ (List.mem_of_getElem? (i := 7) rfl)
theorem d_method_5_12 : decode method_5_code 12 = .ok (.istore 6, 2) := by decide +kernel
theorem d_method_5_14 : decode method_5_code 14 = .ok (.iload_n 0, 1) := by decide +kernel
theorem d_method_5_15 : decode method_5_code 15 = .ok (.iload_n 1, 1) := by decide +kernel
theorem d_method_5_16 : decode method_5_code 16 = .ok (.iload_n 2, 1) := by decide +kernel
theorem d_method_5_17 : decode method_5_code 17 = .ok (.iload_n 3, 1) := by decide +kernel
theorem d_method_5_18 : decode method_5_code 18 = .ok (.iconst 1, 1) := by decide +kernel
theorem d_method_5_19 : decode method_5_code 19 = .ok (.aload 4, 2) := by decide +kernel
theorem d_method_5_21 : decode method_5_code 21 = .ok (.iload 6, 2) := by decide +kernel
theorem d_method_5_23 : decode method_5_code 23 = .ok (.invokestatic 58, 3) := by decide +kernel
theorem d_method_5_26 : decode method_5_code 26 = .ok (.istore 6, 2) := by decide +kernel
theorem d_method_5_28 : decode method_5_code 28 = .ok (.iload_n 0, 1) := by decide +kernel
theorem d_method_5_29 : decode method_5_code 29 = .ok (.iload_n 1, 1) := by decide +kernel
theorem d_method_5_30 : decode method_5_code 30 = .ok (.iload_n 2, 1) := by decide +kernel
theorem d_method_5_31 : decode method_5_code 31 = .ok (.iload_n 3, 1) := by decide +kernel
theorem d_method_5_32 : decode method_5_code 32 = .ok (.iconst 2, 1) := by decide +kernel
theorem d_method_5_33 : decode method_5_code 33 = .ok (.aload 4, 2) := by decide +kernel
theorem d_method_5_35 : decode method_5_code 35 = .ok (.iload 6, 2) := by decide +kernel
theorem d_method_5_37 : decode method_5_code 37 = .ok (.invokestatic 58, 3) := by decide +kernel
theorem d_method_5_40 : decode method_5_code 40 = .ok (.ireturn, 1) := by decide +kernel
theorem d_method_4_24 : decode method_4_code 24 = .ok (.iload_n 0, 1) := by decide +kernel
theorem d_method_4_25 : decode method_4_code 25 = .ok (.iload_n 1, 1) := by decide +kernel
theorem d_method_4_26 : decode method_4_code 26 = .ok (.iload 4, 2) := by decide +kernel
theorem d_method_4_28 : decode method_4_code 28 = .ok (.iload_n 3, 1) := by decide +kernel
theorem d_method_4_29 : decode method_4_code 29 = .ok (.invokestatic 54, 3) := by decide +kernel
theorem d_method_4_32 : decode method_4_code 32 = .ok (.ifCond .eq 15, 3) := by decide +kernel
theorem d_prog_7_method_10_0 : decode prog_7_method_10_code 0 = .ok (.aload_n 0, 1) := by decide +kernel
theorem d_prog_7_method_10_1 : decode prog_7_method_10_code 1 = .ok (.getfield 17, 3) := by decide +kernel
theorem wd_27 {Z : State} {a0 : Array Value} (hw : HwT Z a0) : (Jvm.Cond.fieldLink "com/example/eccentra/eccentra/Graph" (17 : Nat) "com/example/eccentra/eccentra/Graph" "outOffsets" "[I").before a0 Z = true := hw _ (List.mem_of_getElem? (i := 27) rfl)
theorem d_prog_7_method_10_4 : decode prog_7_method_10_code 4 = .ok (.iload_n 1, 1) := by decide +kernel
theorem d_prog_7_method_10_5 : decode prog_7_method_10_code 5 = .ok (.iconst 1, 1) := by decide +kernel
theorem d_prog_7_method_10_6 : decode prog_7_method_10_code 6 = .ok (.iadd, 1) := by decide +kernel
theorem d_prog_7_method_10_7 : decode prog_7_method_10_code 7 = .ok (.iaload, 1) := by decide +kernel
theorem d_prog_7_method_10_8 : decode prog_7_method_10_code 8 = .ok (.ireturn, 1) := by decide +kernel
theorem pn_1 : plainName "com/example/eccentra/eccentra/Graph" = true := by first | (simp [plainName, overriddenIn]; done) | decide +kernel
theorem d_prog_7_method_9_0 : decode prog_7_method_9_code 0 = .ok (.aload_n 0, 1) := by decide +kernel
theorem d_prog_7_method_9_1 : decode prog_7_method_9_code 1 = .ok (.getfield 17, 3) := by decide +kernel
theorem d_prog_7_method_9_4 : decode prog_7_method_9_code 4 = .ok (.iload_n 1, 1) := by decide +kernel
theorem d_prog_7_method_9_5 : decode prog_7_method_9_code 5 = .ok (.iaload, 1) := by decide +kernel
theorem d_prog_7_method_9_6 : decode prog_7_method_9_code 6 = .ok (.ireturn, 1) := by decide +kernel
theorem d_prog_7_method_11_0 : decode prog_7_method_11_code 0 = .ok (.aload_n 0, 1) := by decide +kernel
theorem d_prog_7_method_11_1 : decode prog_7_method_11_code 1 = .ok (.getfield 21, 3) := by decide +kernel
theorem wd_29 {Z : State} {a0 : Array Value} (hw : HwT Z a0) : (Jvm.Cond.fieldLink "com/example/eccentra/eccentra/Graph" (21 : Nat) "com/example/eccentra/eccentra/Graph" "outTargets" "[I").before a0 Z = true := hw _ (List.mem_of_getElem? (i := 29) rfl)
theorem d_prog_7_method_11_4 : decode prog_7_method_11_code 4 = .ok (.iload_n 1, 1) := by decide +kernel
theorem d_prog_7_method_11_5 : decode prog_7_method_11_code 5 = .ok (.iaload, 1) := by decide +kernel
theorem d_prog_7_method_11_6 : decode prog_7_method_11_code 6 = .ok (.ireturn, 1) := by decide +kernel
theorem d_prog_7_method_13_0 : decode prog_7_method_13_code 0 = .ok (.aload_n 0, 1) := by decide +kernel
theorem d_prog_7_method_13_1 : decode prog_7_method_13_code 1 = .ok (.getfield 24, 3) := by decide +kernel
theorem wd_31 {Z : State} {a0 : Array Value} (hw : HwT Z a0) : (Jvm.Cond.fieldLink "com/example/eccentra/eccentra/Graph" (24 : Nat) "com/example/eccentra/eccentra/Graph" "inOffsets" "[I").before a0 Z = true := hw _ (List.mem_of_getElem? (i := 31) rfl)
theorem d_prog_7_method_13_4 : decode prog_7_method_13_code 4 = .ok (.iload_n 1, 1) := by decide +kernel
theorem d_prog_7_method_13_5 : decode prog_7_method_13_code 5 = .ok (.iconst 1, 1) := by decide +kernel
theorem d_prog_7_method_13_6 : decode prog_7_method_13_code 6 = .ok (.iadd, 1) := by decide +kernel
theorem d_prog_7_method_13_7 : decode prog_7_method_13_code 7 = .ok (.iaload, 1) := by decide +kernel
theorem d_prog_7_method_13_8 : decode prog_7_method_13_code 8 = .ok (.ireturn, 1) := by decide +kernel
theorem d_prog_7_method_12_0 : decode prog_7_method_12_code 0 = .ok (.aload_n 0, 1) := by decide +kernel
theorem d_prog_7_method_12_1 : decode prog_7_method_12_code 1 = .ok (.getfield 24, 3) := by decide +kernel
theorem d_prog_7_method_12_4 : decode prog_7_method_12_code 4 = .ok (.iload_n 1, 1) := by decide +kernel
theorem d_prog_7_method_12_5 : decode prog_7_method_12_code 5 = .ok (.iaload, 1) := by decide +kernel
theorem d_prog_7_method_12_6 : decode prog_7_method_12_code 6 = .ok (.ireturn, 1) := by decide +kernel
theorem d_prog_7_method_14_0 : decode prog_7_method_14_code 0 = .ok (.aload_n 0, 1) := by decide +kernel
theorem d_prog_7_method_14_1 : decode prog_7_method_14_code 1 = .ok (.getfield 27, 3) := by decide +kernel
theorem wd_33 {Z : State} {a0 : Array Value} (hw : HwT Z a0) : (Jvm.Cond.fieldLink "com/example/eccentra/eccentra/Graph" (27 : Nat) "com/example/eccentra/eccentra/Graph" "inSources" "[I").before a0 Z = true := hw _ (List.mem_of_getElem? (i := 33) rfl)
theorem d_prog_7_method_14_4 : decode prog_7_method_14_code 4 = .ok (.iload_n 1, 1) := by decide +kernel
theorem d_prog_7_method_14_5 : decode prog_7_method_14_code 5 = .ok (.iaload, 1) := by decide +kernel
theorem d_prog_7_method_14_6 : decode prog_7_method_14_code 6 = .ok (.ireturn, 1) := by decide +kernel
theorem d_prog_3_method_5_0 : decode prog_3_method_5_code 0 = .ok (.aload_n 0, 1) := by decide +kernel
theorem d_prog_3_method_5_1 : decode prog_3_method_5_code 1 = .ok (.getfield 32, 3) := by decide +kernel
theorem wd_76 {Z : State} {a0 : Array Value} (hw : HwT Z a0) : (Jvm.Cond.fieldLink "com/example/eccentra/eccentra/BreadthFirst" (32 : Nat) "com/example/eccentra/eccentra/BreadthFirst" "reachedOrder" "[I").before a0 Z = true := hw _ (List.mem_of_getElem? (i := 76) rfl)
theorem d_prog_3_method_5_4 : decode prog_3_method_5_code 4 = .ok (.iload_n 1, 1) := by decide +kernel
theorem d_prog_3_method_5_5 : decode prog_3_method_5_code 5 = .ok (.iaload, 1) := by decide +kernel
theorem d_prog_3_method_5_6 : decode prog_3_method_5_code 6 = .ok (.ireturn, 1) := by decide +kernel
theorem pn_2 : plainName "com/example/eccentra/eccentra/BreadthFirst" = true := by first | (simp [plainName, overriddenIn]; done) | decide +kernel
theorem d_prog_3_method_6_0 : decode prog_3_method_6_code 0 = .ok (.aload_n 0, 1) := by decide +kernel
theorem d_prog_3_method_6_1 : decode prog_3_method_6_code 1 = .ok (.getfield 19, 3) := by decide +kernel
theorem wd_68 {Z : State} {a0 : Array Value} (hw : HwT Z a0) : (Jvm.Cond.fieldLink "com/example/eccentra/eccentra/BreadthFirst" (19 : Nat) "com/example/eccentra/eccentra/BreadthFirst" "distance" "[I").before a0 Z = true := hw _ (List.mem_of_getElem? (i := 68) rfl)
theorem d_prog_3_method_6_4 : decode prog_3_method_6_code 4 = .ok (.iload_n 1, 1) := by decide +kernel
theorem d_prog_3_method_6_5 : decode prog_3_method_6_code 5 = .ok (.iaload, 1) := by decide +kernel
theorem d_prog_3_method_6_6 : decode prog_3_method_6_code 6 = .ok (.ireturn, 1) := by decide +kernel
theorem d_prog_3_method_4_0 : decode prog_3_method_4_code 0 = .ok (.aload_n 0, 1) := by decide +kernel
theorem d_prog_3_method_4_1 : decode prog_3_method_4_code 1 = .ok (.getfield 39, 3) := by decide +kernel
theorem wd_87 {Z : State} {a0 : Array Value} (hw : HwT Z a0) : (Jvm.Cond.fieldLink "com/example/eccentra/eccentra/BreadthFirst" (39 : Nat) "com/example/eccentra/eccentra/BreadthFirst" "reachedCount" "I").before a0 Z = true := hw _ (List.mem_of_getElem? (i := 87) rfl)
theorem d_prog_3_method_4_4 : decode prog_3_method_4_code 4 = .ok (.ireturn, 1) := by decide +kernel
theorem d_prog_7_method_2_0 : decode prog_7_method_2_code 0 = .ok (.aload_n 0, 1) := by decide +kernel
theorem d_prog_7_method_2_1 : decode prog_7_method_2_code 1 = .ok (.getfield 7, 3) := by decide +kernel
theorem wd_23 {Z : State} {a0 : Array Value} (hw : HwT Z a0) : (Jvm.Cond.fieldLink "com/example/eccentra/eccentra/Graph" (7 : Nat) "com/example/eccentra/eccentra/Graph" "labels" "[J").before a0 Z = true := hw _ (List.mem_of_getElem? (i := 23) rfl)
theorem d_prog_7_method_2_4 : decode prog_7_method_2_code 4 = .ok (.arraylength, 1) := by decide +kernel
theorem d_prog_7_method_2_5 : decode prog_7_method_2_code 5 = .ok (.ireturn, 1) := by decide +kernel
theorem d_prog_7_method_3_0 : decode prog_7_method_3_code 0 = .ok (.aload_n 0, 1) := by decide +kernel
theorem d_prog_7_method_3_1 : decode prog_7_method_3_code 1 = .ok (.getfield 13, 3) := by decide +kernel
theorem wd_25 {Z : State} {a0 : Array Value} (hw : HwT Z a0) : (Jvm.Cond.fieldLink "com/example/eccentra/eccentra/Graph" (13 : Nat) "com/example/eccentra/eccentra/Graph" "directed" "Z").before a0 Z = true := hw _ (List.mem_of_getElem? (i := 25) rfl)
theorem d_prog_7_method_3_4 : decode prog_7_method_3_code 4 = .ok (.ireturn, 1) := by decide +kernel
theorem d_jdk_65_method_103_0 : decode jdk_65_method_103_code 0 = .ok (.iconst 0, 1) := by decide +kernel
theorem d_jdk_65_method_103_1 : decode jdk_65_method_103_code 1 = .ok (.istore_n 2, 1) := by decide +kernel
theorem d_jdk_65_method_103_2 : decode jdk_65_method_103_code 2 = .ok (.aload_n 0, 1) := by decide +kernel
theorem d_jdk_65_method_103_3 : decode jdk_65_method_103_code 3 = .ok (.arraylength, 1) := by decide +kernel
theorem d_jdk_65_method_103_4 : decode jdk_65_method_103_code 4 = .ok (.istore_n 3, 1) := by decide +kernel
theorem d_jdk_65_method_103_5 : decode jdk_65_method_103_code 5 = .ok (.iload_n 2, 1) := by decide +kernel
theorem d_jdk_65_method_103_6 : decode jdk_65_method_103_code 6 = .ok (.iload_n 3, 1) := by decide +kernel
theorem d_jdk_65_method_103_7 : decode jdk_65_method_103_code 7 = .ok (.if_icmp .ge 13, 3) := by decide +kernel
theorem d_jdk_65_method_103_10 : decode jdk_65_method_103_code 10 = .ok (.aload_n 0, 1) := by decide +kernel
theorem d_jdk_65_method_103_11 : decode jdk_65_method_103_code 11 = .ok (.iload_n 2, 1) := by decide +kernel
theorem d_jdk_65_method_103_12 : decode jdk_65_method_103_code 12 = .ok (.iload_n 1, 1) := by decide +kernel
theorem d_jdk_65_method_103_13 : decode jdk_65_method_103_code 13 = .ok (.iastore, 1) := by decide +kernel
theorem d_jdk_65_method_103_14 : decode jdk_65_method_103_code 14 = .ok (.iinc 2 1, 3) := by decide +kernel
theorem d_jdk_65_method_103_17 : decode jdk_65_method_103_code 17 = .ok (.goto (-12), 3) := by decide +kernel
theorem d_jdk_65_method_103_20 : decode jdk_65_method_103_code 20 = .ok (.return_, 1) := by decide +kernel
theorem pn_3 : plainName "java/util/Arrays" = true := by first | (simp [plainName, overriddenIn]; done) | decide +kernel
theorem d_prog_7_method_1_0 : decode prog_7_method_1_code 0 = .ok (.aload_n 0, 1) := by decide +kernel
theorem d_prog_7_method_1_1 : decode prog_7_method_1_code 1 = .ok (.invokespecial 1, 3) := by decide +kernel
theorem wd_20 {Z : State} {a0 : Array Value} (hw : HwT Z a0) : (Jvm.Cond.methodLink "com/example/eccentra/eccentra/Graph" (1 : Nat) ({ cls := "java/lang/Object", name := "<init>", desc := "()V" } : Jvm.MethodName)).before a0 Z = true := hw _ (List.mem_of_getElem? (i := 20) rfl)
theorem wd_22 {Z : State} {a0 : Array Value} (hw : HwT Z a0) : (Jvm.Cond.code ({ cls := "java/lang/Object", name := "<init>", desc := "()V" } : Jvm.MethodName) object_method_1_code (1 : Nat) (Option.none : Option Jvm.ClassFile.FieldType)).before a0 Z = true := hw _ (List.mem_of_getElem? (i := 22) rfl)
theorem wd_21 {Z : State} {a0 : Array Value} (hw : HwT Z a0) : (Jvm.Cond.instanceMethod ({ cls := "java/lang/Object", name := "<init>", desc := "()V" } : Jvm.MethodName)).before a0 Z = true := hw _ (List.mem_of_getElem? (i := 21) rfl)
theorem d_prog_7_method_1_4 : decode prog_7_method_1_code 4 = .ok (.aload_n 0, 1) := by decide +kernel
theorem d_prog_7_method_1_5 : decode prog_7_method_1_code 5 = .ok (.aload_n 1, 1) := by decide +kernel
theorem d_prog_7_method_1_6 : decode prog_7_method_1_code 6 = .ok (.putfield 7, 3) := by decide +kernel
theorem wd_24 {Z : State} {a0 : Array Value} (hw : HwT Z a0) : (Jvm.Cond.laysFinal "com/example/eccentra/eccentra/Graph" "com/example/eccentra/eccentra/Graph" "labels" "[J").before a0 Z = true := hw _ (List.mem_of_getElem? (i := 24) rfl)
theorem wd_13 {Z : State} {a0 : Array Value} (hw : HwT Z a0) : (Jvm.Cond.instantiable "com/example/eccentra/eccentra/Graph" (6 : Nat)).before a0 Z = true := hw _ (List.mem_of_getElem? (i := 13) rfl)
theorem d_prog_7_method_1_9 : decode prog_7_method_1_code 9 = .ok (.aload_n 0, 1) := by decide +kernel
theorem d_prog_7_method_1_10 : decode prog_7_method_1_code 10 = .ok (.iload_n 2, 1) := by decide +kernel
theorem d_prog_7_method_1_11 : decode prog_7_method_1_code 11 = .ok (.putfield 13, 3) := by decide +kernel
theorem wd_26 {Z : State} {a0 : Array Value} (hw : HwT Z a0) : (Jvm.Cond.laysFinal "com/example/eccentra/eccentra/Graph" "com/example/eccentra/eccentra/Graph" "directed" "Z").before a0 Z = true := hw _ (List.mem_of_getElem? (i := 26) rfl)
theorem sne_0 {Z : State} {a0 : Array Value} (hw : HwT Z a0) : RoadKit.slotOf Z "com/example/eccentra/eccentra/Graph" "directed" "Z" ≠ RoadKit.slotOf Z "com/example/eccentra/eccentra/Graph" "labels" "[J" := slot_ne (C := "com/example/eccentra/eccentra/Graph") (Or.inr (wd_26 hw)) (Or.inr (wd_24 hw)) (by decide) (t := .boolean) (t' := (.array .long)) (by decide) (by decide)
theorem d_prog_7_method_1_14 : decode prog_7_method_1_code 14 = .ok (.aload_n 0, 1) := by decide +kernel
theorem d_prog_7_method_1_15 : decode prog_7_method_1_code 15 = .ok (.aload_n 3, 1) := by decide +kernel
theorem d_prog_7_method_1_16 : decode prog_7_method_1_code 16 = .ok (.putfield 17, 3) := by decide +kernel
theorem wd_28 {Z : State} {a0 : Array Value} (hw : HwT Z a0) : (Jvm.Cond.laysFinal "com/example/eccentra/eccentra/Graph" "com/example/eccentra/eccentra/Graph" "outOffsets" "[I").before a0 Z = true := hw _ (List.mem_of_getElem? (i := 28) rfl)
theorem sne_1 {Z : State} {a0 : Array Value} (hw : HwT Z a0) : RoadKit.slotOf Z "com/example/eccentra/eccentra/Graph" "outOffsets" "[I" ≠ RoadKit.slotOf Z "com/example/eccentra/eccentra/Graph" "labels" "[J" := slot_ne (C := "com/example/eccentra/eccentra/Graph") (Or.inr (wd_28 hw)) (Or.inr (wd_24 hw)) (by decide) (t := (.array .int)) (t' := (.array .long)) (by decide) (by decide)
theorem sne_2 {Z : State} {a0 : Array Value} (hw : HwT Z a0) : RoadKit.slotOf Z "com/example/eccentra/eccentra/Graph" "outOffsets" "[I" ≠ RoadKit.slotOf Z "com/example/eccentra/eccentra/Graph" "directed" "Z" := slot_ne (C := "com/example/eccentra/eccentra/Graph") (Or.inr (wd_28 hw)) (Or.inr (wd_26 hw)) (by decide) (t := (.array .int)) (t' := .boolean) (by decide) (by decide)
theorem d_prog_7_method_1_19 : decode prog_7_method_1_code 19 = .ok (.aload_n 0, 1) := by decide +kernel
theorem d_prog_7_method_1_20 : decode prog_7_method_1_code 20 = .ok (.aload 4, 2) := by decide +kernel
theorem d_prog_7_method_1_22 : decode prog_7_method_1_code 22 = .ok (.putfield 21, 3) := by decide +kernel
theorem wd_30 {Z : State} {a0 : Array Value} (hw : HwT Z a0) : (Jvm.Cond.laysFinal "com/example/eccentra/eccentra/Graph" "com/example/eccentra/eccentra/Graph" "outTargets" "[I").before a0 Z = true := hw _ (List.mem_of_getElem? (i := 30) rfl)
theorem sne_3 {Z : State} {a0 : Array Value} (hw : HwT Z a0) : RoadKit.slotOf Z "com/example/eccentra/eccentra/Graph" "outTargets" "[I" ≠ RoadKit.slotOf Z "com/example/eccentra/eccentra/Graph" "labels" "[J" := slot_ne (C := "com/example/eccentra/eccentra/Graph") (Or.inr (wd_30 hw)) (Or.inr (wd_24 hw)) (by decide) (t := (.array .int)) (t' := (.array .long)) (by decide) (by decide)
theorem sne_4 {Z : State} {a0 : Array Value} (hw : HwT Z a0) : RoadKit.slotOf Z "com/example/eccentra/eccentra/Graph" "outTargets" "[I" ≠ RoadKit.slotOf Z "com/example/eccentra/eccentra/Graph" "directed" "Z" := slot_ne (C := "com/example/eccentra/eccentra/Graph") (Or.inr (wd_30 hw)) (Or.inr (wd_26 hw)) (by decide) (t := (.array .int)) (t' := .boolean) (by decide) (by decide)
theorem sne_5 {Z : State} {a0 : Array Value} (hw : HwT Z a0) : RoadKit.slotOf Z "com/example/eccentra/eccentra/Graph" "outTargets" "[I" ≠ RoadKit.slotOf Z "com/example/eccentra/eccentra/Graph" "outOffsets" "[I" := slot_ne (C := "com/example/eccentra/eccentra/Graph") (Or.inr (wd_30 hw)) (Or.inr (wd_28 hw)) (by decide) (t := (.array .int)) (t' := (.array .int)) (by decide) (by decide)
theorem d_prog_7_method_1_25 : decode prog_7_method_1_code 25 = .ok (.aload_n 0, 1) := by decide +kernel
theorem d_prog_7_method_1_26 : decode prog_7_method_1_code 26 = .ok (.aload 5, 2) := by decide +kernel
theorem d_prog_7_method_1_28 : decode prog_7_method_1_code 28 = .ok (.putfield 24, 3) := by decide +kernel
theorem wd_32 {Z : State} {a0 : Array Value} (hw : HwT Z a0) : (Jvm.Cond.laysFinal "com/example/eccentra/eccentra/Graph" "com/example/eccentra/eccentra/Graph" "inOffsets" "[I").before a0 Z = true := hw _ (List.mem_of_getElem? (i := 32) rfl)
theorem sne_6 {Z : State} {a0 : Array Value} (hw : HwT Z a0) : RoadKit.slotOf Z "com/example/eccentra/eccentra/Graph" "inOffsets" "[I" ≠ RoadKit.slotOf Z "com/example/eccentra/eccentra/Graph" "labels" "[J" := slot_ne (C := "com/example/eccentra/eccentra/Graph") (Or.inr (wd_32 hw)) (Or.inr (wd_24 hw)) (by decide) (t := (.array .int)) (t' := (.array .long)) (by decide) (by decide)
theorem sne_7 {Z : State} {a0 : Array Value} (hw : HwT Z a0) : RoadKit.slotOf Z "com/example/eccentra/eccentra/Graph" "inOffsets" "[I" ≠ RoadKit.slotOf Z "com/example/eccentra/eccentra/Graph" "directed" "Z" := slot_ne (C := "com/example/eccentra/eccentra/Graph") (Or.inr (wd_32 hw)) (Or.inr (wd_26 hw)) (by decide) (t := (.array .int)) (t' := .boolean) (by decide) (by decide)
theorem sne_8 {Z : State} {a0 : Array Value} (hw : HwT Z a0) : RoadKit.slotOf Z "com/example/eccentra/eccentra/Graph" "inOffsets" "[I" ≠ RoadKit.slotOf Z "com/example/eccentra/eccentra/Graph" "outOffsets" "[I" := slot_ne (C := "com/example/eccentra/eccentra/Graph") (Or.inr (wd_32 hw)) (Or.inr (wd_28 hw)) (by decide) (t := (.array .int)) (t' := (.array .int)) (by decide) (by decide)
theorem sne_9 {Z : State} {a0 : Array Value} (hw : HwT Z a0) : RoadKit.slotOf Z "com/example/eccentra/eccentra/Graph" "inOffsets" "[I" ≠ RoadKit.slotOf Z "com/example/eccentra/eccentra/Graph" "outTargets" "[I" := slot_ne (C := "com/example/eccentra/eccentra/Graph") (Or.inr (wd_32 hw)) (Or.inr (wd_30 hw)) (by decide) (t := (.array .int)) (t' := (.array .int)) (by decide) (by decide)
theorem d_prog_7_method_1_31 : decode prog_7_method_1_code 31 = .ok (.aload_n 0, 1) := by decide +kernel
theorem d_prog_7_method_1_32 : decode prog_7_method_1_code 32 = .ok (.aload 6, 2) := by decide +kernel
theorem d_prog_7_method_1_34 : decode prog_7_method_1_code 34 = .ok (.putfield 27, 3) := by decide +kernel
theorem wd_34 {Z : State} {a0 : Array Value} (hw : HwT Z a0) : (Jvm.Cond.laysFinal "com/example/eccentra/eccentra/Graph" "com/example/eccentra/eccentra/Graph" "inSources" "[I").before a0 Z = true := hw _ (List.mem_of_getElem? (i := 34) rfl)
theorem sne_10 {Z : State} {a0 : Array Value} (hw : HwT Z a0) : RoadKit.slotOf Z "com/example/eccentra/eccentra/Graph" "inSources" "[I" ≠ RoadKit.slotOf Z "com/example/eccentra/eccentra/Graph" "labels" "[J" := slot_ne (C := "com/example/eccentra/eccentra/Graph") (Or.inr (wd_34 hw)) (Or.inr (wd_24 hw)) (by decide) (t := (.array .int)) (t' := (.array .long)) (by decide) (by decide)
theorem sne_11 {Z : State} {a0 : Array Value} (hw : HwT Z a0) : RoadKit.slotOf Z "com/example/eccentra/eccentra/Graph" "inSources" "[I" ≠ RoadKit.slotOf Z "com/example/eccentra/eccentra/Graph" "directed" "Z" := slot_ne (C := "com/example/eccentra/eccentra/Graph") (Or.inr (wd_34 hw)) (Or.inr (wd_26 hw)) (by decide) (t := (.array .int)) (t' := .boolean) (by decide) (by decide)
theorem sne_12 {Z : State} {a0 : Array Value} (hw : HwT Z a0) : RoadKit.slotOf Z "com/example/eccentra/eccentra/Graph" "inSources" "[I" ≠ RoadKit.slotOf Z "com/example/eccentra/eccentra/Graph" "outOffsets" "[I" := slot_ne (C := "com/example/eccentra/eccentra/Graph") (Or.inr (wd_34 hw)) (Or.inr (wd_28 hw)) (by decide) (t := (.array .int)) (t' := (.array .int)) (by decide) (by decide)
theorem sne_13 {Z : State} {a0 : Array Value} (hw : HwT Z a0) : RoadKit.slotOf Z "com/example/eccentra/eccentra/Graph" "inSources" "[I" ≠ RoadKit.slotOf Z "com/example/eccentra/eccentra/Graph" "outTargets" "[I" := slot_ne (C := "com/example/eccentra/eccentra/Graph") (Or.inr (wd_34 hw)) (Or.inr (wd_30 hw)) (by decide) (t := (.array .int)) (t' := (.array .int)) (by decide) (by decide)
theorem sne_14 {Z : State} {a0 : Array Value} (hw : HwT Z a0) : RoadKit.slotOf Z "com/example/eccentra/eccentra/Graph" "inSources" "[I" ≠ RoadKit.slotOf Z "com/example/eccentra/eccentra/Graph" "inOffsets" "[I" := slot_ne (C := "com/example/eccentra/eccentra/Graph") (Or.inr (wd_34 hw)) (Or.inr (wd_32 hw)) (by decide) (t := (.array .int)) (t' := (.array .int)) (by decide) (by decide)
theorem d_prog_7_method_1_37 : decode prog_7_method_1_code 37 = .ok (.return_, 1) := by decide +kernel
theorem sne_15 {Z : State} {a0 : Array Value} (hw : HwT Z a0) : RoadKit.slotOf Z "com/example/eccentra/eccentra/Graph" "labels" "[J" ≠ RoadKit.slotOf Z "com/example/eccentra/eccentra/Graph" "directed" "Z" := slot_ne (C := "com/example/eccentra/eccentra/Graph") (Or.inr (wd_24 hw)) (Or.inr (wd_26 hw)) (by decide) (t := (.array .long)) (t' := .boolean) (by decide) (by decide)
theorem sne_16 {Z : State} {a0 : Array Value} (hw : HwT Z a0) : RoadKit.slotOf Z "com/example/eccentra/eccentra/Graph" "labels" "[J" ≠ RoadKit.slotOf Z "com/example/eccentra/eccentra/Graph" "outOffsets" "[I" := slot_ne (C := "com/example/eccentra/eccentra/Graph") (Or.inr (wd_24 hw)) (Or.inr (wd_28 hw)) (by decide) (t := (.array .long)) (t' := (.array .int)) (by decide) (by decide)
theorem sne_17 {Z : State} {a0 : Array Value} (hw : HwT Z a0) : RoadKit.slotOf Z "com/example/eccentra/eccentra/Graph" "labels" "[J" ≠ RoadKit.slotOf Z "com/example/eccentra/eccentra/Graph" "outTargets" "[I" := slot_ne (C := "com/example/eccentra/eccentra/Graph") (Or.inr (wd_24 hw)) (Or.inr (wd_30 hw)) (by decide) (t := (.array .long)) (t' := (.array .int)) (by decide) (by decide)
theorem sne_18 {Z : State} {a0 : Array Value} (hw : HwT Z a0) : RoadKit.slotOf Z "com/example/eccentra/eccentra/Graph" "labels" "[J" ≠ RoadKit.slotOf Z "com/example/eccentra/eccentra/Graph" "inOffsets" "[I" := slot_ne (C := "com/example/eccentra/eccentra/Graph") (Or.inr (wd_24 hw)) (Or.inr (wd_32 hw)) (by decide) (t := (.array .long)) (t' := (.array .int)) (by decide) (by decide)
theorem sne_19 {Z : State} {a0 : Array Value} (hw : HwT Z a0) : RoadKit.slotOf Z "com/example/eccentra/eccentra/Graph" "labels" "[J" ≠ RoadKit.slotOf Z "com/example/eccentra/eccentra/Graph" "inSources" "[I" := slot_ne (C := "com/example/eccentra/eccentra/Graph") (Or.inr (wd_24 hw)) (Or.inr (wd_34 hw)) (by decide) (t := (.array .long)) (t' := (.array .int)) (by decide) (by decide)
theorem sne_20 {Z : State} {a0 : Array Value} (hw : HwT Z a0) : RoadKit.slotOf Z "com/example/eccentra/eccentra/Graph" "directed" "Z" ≠ RoadKit.slotOf Z "com/example/eccentra/eccentra/Graph" "outOffsets" "[I" := slot_ne (C := "com/example/eccentra/eccentra/Graph") (Or.inr (wd_26 hw)) (Or.inr (wd_28 hw)) (by decide) (t := .boolean) (t' := (.array .int)) (by decide) (by decide)
theorem sne_21 {Z : State} {a0 : Array Value} (hw : HwT Z a0) : RoadKit.slotOf Z "com/example/eccentra/eccentra/Graph" "directed" "Z" ≠ RoadKit.slotOf Z "com/example/eccentra/eccentra/Graph" "outTargets" "[I" := slot_ne (C := "com/example/eccentra/eccentra/Graph") (Or.inr (wd_26 hw)) (Or.inr (wd_30 hw)) (by decide) (t := .boolean) (t' := (.array .int)) (by decide) (by decide)
theorem sne_22 {Z : State} {a0 : Array Value} (hw : HwT Z a0) : RoadKit.slotOf Z "com/example/eccentra/eccentra/Graph" "directed" "Z" ≠ RoadKit.slotOf Z "com/example/eccentra/eccentra/Graph" "inOffsets" "[I" := slot_ne (C := "com/example/eccentra/eccentra/Graph") (Or.inr (wd_26 hw)) (Or.inr (wd_32 hw)) (by decide) (t := .boolean) (t' := (.array .int)) (by decide) (by decide)
theorem sne_23 {Z : State} {a0 : Array Value} (hw : HwT Z a0) : RoadKit.slotOf Z "com/example/eccentra/eccentra/Graph" "directed" "Z" ≠ RoadKit.slotOf Z "com/example/eccentra/eccentra/Graph" "inSources" "[I" := slot_ne (C := "com/example/eccentra/eccentra/Graph") (Or.inr (wd_26 hw)) (Or.inr (wd_34 hw)) (by decide) (t := .boolean) (t' := (.array .int)) (by decide) (by decide)
theorem sne_24 {Z : State} {a0 : Array Value} (hw : HwT Z a0) : RoadKit.slotOf Z "com/example/eccentra/eccentra/Graph" "outOffsets" "[I" ≠ RoadKit.slotOf Z "com/example/eccentra/eccentra/Graph" "outTargets" "[I" := slot_ne (C := "com/example/eccentra/eccentra/Graph") (Or.inr (wd_28 hw)) (Or.inr (wd_30 hw)) (by decide) (t := (.array .int)) (t' := (.array .int)) (by decide) (by decide)
theorem sne_25 {Z : State} {a0 : Array Value} (hw : HwT Z a0) : RoadKit.slotOf Z "com/example/eccentra/eccentra/Graph" "outOffsets" "[I" ≠ RoadKit.slotOf Z "com/example/eccentra/eccentra/Graph" "inOffsets" "[I" := slot_ne (C := "com/example/eccentra/eccentra/Graph") (Or.inr (wd_28 hw)) (Or.inr (wd_32 hw)) (by decide) (t := (.array .int)) (t' := (.array .int)) (by decide) (by decide)
theorem sne_26 {Z : State} {a0 : Array Value} (hw : HwT Z a0) : RoadKit.slotOf Z "com/example/eccentra/eccentra/Graph" "outOffsets" "[I" ≠ RoadKit.slotOf Z "com/example/eccentra/eccentra/Graph" "inSources" "[I" := slot_ne (C := "com/example/eccentra/eccentra/Graph") (Or.inr (wd_28 hw)) (Or.inr (wd_34 hw)) (by decide) (t := (.array .int)) (t' := (.array .int)) (by decide) (by decide)
theorem sne_27 {Z : State} {a0 : Array Value} (hw : HwT Z a0) : RoadKit.slotOf Z "com/example/eccentra/eccentra/Graph" "outTargets" "[I" ≠ RoadKit.slotOf Z "com/example/eccentra/eccentra/Graph" "inOffsets" "[I" := slot_ne (C := "com/example/eccentra/eccentra/Graph") (Or.inr (wd_30 hw)) (Or.inr (wd_32 hw)) (by decide) (t := (.array .int)) (t' := (.array .int)) (by decide) (by decide)
theorem sne_28 {Z : State} {a0 : Array Value} (hw : HwT Z a0) : RoadKit.slotOf Z "com/example/eccentra/eccentra/Graph" "outTargets" "[I" ≠ RoadKit.slotOf Z "com/example/eccentra/eccentra/Graph" "inSources" "[I" := slot_ne (C := "com/example/eccentra/eccentra/Graph") (Or.inr (wd_30 hw)) (Or.inr (wd_34 hw)) (by decide) (t := (.array .int)) (t' := (.array .int)) (by decide) (by decide)
theorem sne_29 {Z : State} {a0 : Array Value} (hw : HwT Z a0) : RoadKit.slotOf Z "com/example/eccentra/eccentra/Graph" "inOffsets" "[I" ≠ RoadKit.slotOf Z "com/example/eccentra/eccentra/Graph" "inSources" "[I" := slot_ne (C := "com/example/eccentra/eccentra/Graph") (Or.inr (wd_32 hw)) (Or.inr (wd_34 hw)) (by decide) (t := (.array .int)) (t' := (.array .int)) (by decide) (by decide)
theorem d_prog_19_method_1_0 : decode prog_19_method_1_code 0 = .ok (.aload_n 0, 1) := by decide +kernel
theorem d_prog_19_method_1_1 : decode prog_19_method_1_code 1 = .ok (.invokespecial 1, 3) := by decide +kernel
theorem wd_41 {Z : State} {a0 : Array Value} (hw : HwT Z a0) : (Jvm.Cond.methodLink "com/example/eccentra/eccentra/MainVertex" (1 : Nat) ({ cls := "java/lang/Object", name := "<init>", desc := "()V" } : Jvm.MethodName)).before a0 Z = true := hw _ (List.mem_of_getElem? (i := 41) rfl)
theorem d_prog_19_method_1_4 : decode prog_19_method_1_code 4 = .ok (.aload_n 0, 1) := by decide +kernel
theorem d_prog_19_method_1_5 : decode prog_19_method_1_code 5 = .ok (.iconst (-1), 1) := by decide +kernel
theorem d_prog_19_method_1_6 : decode prog_19_method_1_code 6 = .ok (.putfield 9, 3) := by decide +kernel
theorem wd_42 {Z : State} {a0 : Array Value} (hw : HwT Z a0) : (Jvm.Cond.fieldLink "com/example/eccentra/eccentra/MainVertex" (9 : Nat) "com/example/eccentra/eccentra/MainVertex" "vertex" "I").before a0 Z = true := hw _ (List.mem_of_getElem? (i := 42) rfl)
theorem wd_43 {Z : State} {a0 : Array Value} (hw : HwT Z a0) : (Jvm.Cond.lays "com/example/eccentra/eccentra/MainVertex" "com/example/eccentra/eccentra/MainVertex" "vertex" "I").before a0 Z = true := hw _ (List.mem_of_getElem? (i := 43) rfl)
theorem wd_36 {Z : State} {a0 : Array Value} (hw : HwT Z a0) : (Jvm.Cond.instantiable "com/example/eccentra/eccentra/MainVertex" (3 : Nat)).before a0 Z = true := hw _ (List.mem_of_getElem? (i := 36) rfl)
theorem d_prog_19_method_1_9 : decode prog_19_method_1_code 9 = .ok (.aload_n 0, 1) := by decide +kernel
theorem d_prog_19_method_1_10 : decode prog_19_method_1_code 10 = .ok (.aload_n 1, 1) := by decide +kernel
theorem d_prog_19_method_1_11 : decode prog_19_method_1_code 11 = .ok (.invokevirtual 15, 3) := by decide +kernel
theorem wd_44 {Z : State} {a0 : Array Value} (hw : HwT Z a0) : (Jvm.Cond.methodLink "com/example/eccentra/eccentra/MainVertex" (15 : Nat) ({ cls := "com/example/eccentra/eccentra/Graph", name := "vertexCount", desc := "()I" } : Jvm.MethodName)).before a0 Z = true := hw _ (List.mem_of_getElem? (i := 44) rfl)
theorem wd_47 {Z : State} {a0 : Array Value} (hw : HwT Z a0) : (Jvm.Cond.selects "com/example/eccentra/eccentra/Graph" ({ cls := "com/example/eccentra/eccentra/Graph", name := "vertexCount", desc := "()I" } : Jvm.MethodName) ({ cls := "com/example/eccentra/eccentra/Graph", name := "vertexCount", desc := "()I" } : Jvm.MethodName)).before a0 Z = true := hw _ (List.mem_of_getElem? (i := 47) rfl)
theorem wd_48 {Z : State} {a0 : Array Value} (hw : HwT Z a0) : (Jvm.Cond.code ({ cls := "com/example/eccentra/eccentra/Graph", name := "vertexCount", desc := "()I" } : Jvm.MethodName) prog_7_method_2_code (1 : Nat) (Option.some Jvm.ClassFile.FieldType.int)).before a0 Z = true := hw _ (List.mem_of_getElem? (i := 48) rfl)
theorem pd_3 : parseMethodDescriptor "()I" = some ⟨[], some .int⟩ := by decide +kernel
theorem wd_45 {Z : State} {a0 : Array Value} (hw : HwT Z a0) : (Jvm.Cond.declares ({ cls := "com/example/eccentra/eccentra/Graph", name := "vertexCount", desc := "()I" } : Jvm.MethodName)).before a0 Z = true := hw _ (List.mem_of_getElem? (i := 45) rfl)
theorem wd_46 {Z : State} {a0 : Array Value} (hw : HwT Z a0) : (Jvm.Cond.instanceMethod ({ cls := "com/example/eccentra/eccentra/Graph", name := "vertexCount", desc := "()I" } : Jvm.MethodName)).before a0 Z = true := hw _ (List.mem_of_getElem? (i := 46) rfl)
theorem wd_14 {Z : State} {a0 : Array Value} (hw : HwT Z a0) : (Jvm.Cond.initialized "com/example/eccentra/eccentra/Graph").before a0 Z = true := hw _ (List.mem_of_getElem? (i := 14) rfl)
theorem d_prog_19_method_1_14 : decode prog_19_method_1_code 14 = .ok (.newarray .int, 2) := by decide +kernel
theorem wd_1 {Z : State} {a0 : Array Value} (hw : HwT Z a0) : (Jvm.Cond.arrayClass Jvm.ClassFile.FieldType.int).before a0 Z = true := hw _ (List.mem_of_getElem? (i := 1) rfl)
theorem d_prog_19_method_1_16 : decode prog_19_method_1_code 16 = .ok (.putfield 21, 3) := by decide +kernel
theorem wd_49 {Z : State} {a0 : Array Value} (hw : HwT Z a0) : (Jvm.Cond.fieldLink "com/example/eccentra/eccentra/MainVertex" (21 : Nat) "com/example/eccentra/eccentra/MainVertex" "from" "[I").before a0 Z = true := hw _ (List.mem_of_getElem? (i := 49) rfl)
theorem wd_50 {Z : State} {a0 : Array Value} (hw : HwT Z a0) : (Jvm.Cond.laysFinal "com/example/eccentra/eccentra/MainVertex" "com/example/eccentra/eccentra/MainVertex" "from" "[I").before a0 Z = true := hw _ (List.mem_of_getElem? (i := 50) rfl)
theorem sne_30 {Z : State} {a0 : Array Value} (hw : HwT Z a0) : RoadKit.slotOf Z "com/example/eccentra/eccentra/MainVertex" "from" "[I" ≠ RoadKit.slotOf Z "com/example/eccentra/eccentra/MainVertex" "vertex" "I" := slot_ne (C := "com/example/eccentra/eccentra/MainVertex") (Or.inr (wd_50 hw)) (Or.inl (wd_43 hw)) (by decide) (t := (.array .int)) (t' := .int) (by decide) (by decide)
theorem d_prog_19_method_1_19 : decode prog_19_method_1_code 19 = .ok (.aload_n 0, 1) := by decide +kernel
theorem d_prog_19_method_1_20 : decode prog_19_method_1_code 20 = .ok (.aload_n 1, 1) := by decide +kernel
theorem d_prog_19_method_1_21 : decode prog_19_method_1_code 21 = .ok (.invokevirtual 25, 3) := by decide +kernel
theorem wd_51 {Z : State} {a0 : Array Value} (hw : HwT Z a0) : (Jvm.Cond.methodLink "com/example/eccentra/eccentra/MainVertex" (25 : Nat) ({ cls := "com/example/eccentra/eccentra/Graph", name := "isDirected", desc := "()Z" } : Jvm.MethodName)).before a0 Z = true := hw _ (List.mem_of_getElem? (i := 51) rfl)
theorem wd_54 {Z : State} {a0 : Array Value} (hw : HwT Z a0) : (Jvm.Cond.selects "com/example/eccentra/eccentra/Graph" ({ cls := "com/example/eccentra/eccentra/Graph", name := "isDirected", desc := "()Z" } : Jvm.MethodName) ({ cls := "com/example/eccentra/eccentra/Graph", name := "isDirected", desc := "()Z" } : Jvm.MethodName)).before a0 Z = true := hw _ (List.mem_of_getElem? (i := 54) rfl)
theorem wd_55 {Z : State} {a0 : Array Value} (hw : HwT Z a0) : (Jvm.Cond.code ({ cls := "com/example/eccentra/eccentra/Graph", name := "isDirected", desc := "()Z" } : Jvm.MethodName) prog_7_method_3_code (1 : Nat) (Option.some Jvm.ClassFile.FieldType.boolean)).before a0 Z = true := hw _ (List.mem_of_getElem? (i := 55) rfl)
theorem pd_4 : parseMethodDescriptor "()Z" = some ⟨[], some .boolean⟩ := by decide +kernel
theorem wd_52 {Z : State} {a0 : Array Value} (hw : HwT Z a0) : (Jvm.Cond.declares ({ cls := "com/example/eccentra/eccentra/Graph", name := "isDirected", desc := "()Z" } : Jvm.MethodName)).before a0 Z = true := hw _ (List.mem_of_getElem? (i := 52) rfl)
theorem wd_53 {Z : State} {a0 : Array Value} (hw : HwT Z a0) : (Jvm.Cond.instanceMethod ({ cls := "com/example/eccentra/eccentra/Graph", name := "isDirected", desc := "()Z" } : Jvm.MethodName)).before a0 Z = true := hw _ (List.mem_of_getElem? (i := 53) rfl)
theorem d_prog_19_method_1_24 : decode prog_19_method_1_code 24 = .ok (.ifCond .eq 12, 3) := by decide +kernel
theorem d_prog_19_method_1_36 : decode prog_19_method_1_code 36 = .ok (.aload_n 0, 1) := by decide +kernel
theorem d_prog_19_method_1_37 : decode prog_19_method_1_code 37 = .ok (.getfield 21, 3) := by decide +kernel
theorem d_prog_19_method_1_40 : decode prog_19_method_1_code 40 = .ok (.putfield 29, 3) := by decide +kernel
theorem wd_56 {Z : State} {a0 : Array Value} (hw : HwT Z a0) : (Jvm.Cond.fieldLink "com/example/eccentra/eccentra/MainVertex" (29 : Nat) "com/example/eccentra/eccentra/MainVertex" "to" "[I").before a0 Z = true := hw _ (List.mem_of_getElem? (i := 56) rfl)
theorem wd_57 {Z : State} {a0 : Array Value} (hw : HwT Z a0) : (Jvm.Cond.laysFinal "com/example/eccentra/eccentra/MainVertex" "com/example/eccentra/eccentra/MainVertex" "to" "[I").before a0 Z = true := hw _ (List.mem_of_getElem? (i := 57) rfl)
theorem sne_31 {Z : State} {a0 : Array Value} (hw : HwT Z a0) : RoadKit.slotOf Z "com/example/eccentra/eccentra/MainVertex" "to" "[I" ≠ RoadKit.slotOf Z "com/example/eccentra/eccentra/MainVertex" "vertex" "I" := slot_ne (C := "com/example/eccentra/eccentra/MainVertex") (Or.inr (wd_57 hw)) (Or.inl (wd_43 hw)) (by decide) (t := (.array .int)) (t' := .int) (by decide) (by decide)
theorem sne_32 {Z : State} {a0 : Array Value} (hw : HwT Z a0) : RoadKit.slotOf Z "com/example/eccentra/eccentra/MainVertex" "to" "[I" ≠ RoadKit.slotOf Z "com/example/eccentra/eccentra/MainVertex" "from" "[I" := slot_ne (C := "com/example/eccentra/eccentra/MainVertex") (Or.inr (wd_57 hw)) (Or.inr (wd_50 hw)) (by decide) (t := (.array .int)) (t' := (.array .int)) (by decide) (by decide)
theorem d_prog_19_method_1_43 : decode prog_19_method_1_code 43 = .ok (.return_, 1) := by decide +kernel
theorem sne_33 {Z : State} {a0 : Array Value} (hw : HwT Z a0) : RoadKit.slotOf Z "com/example/eccentra/eccentra/MainVertex" "vertex" "I" ≠ RoadKit.slotOf Z "com/example/eccentra/eccentra/MainVertex" "from" "[I" := slot_ne (C := "com/example/eccentra/eccentra/MainVertex") (Or.inl (wd_43 hw)) (Or.inr (wd_50 hw)) (by decide) (t := .int) (t' := (.array .int)) (by decide) (by decide)
theorem sne_34 {Z : State} {a0 : Array Value} (hw : HwT Z a0) : RoadKit.slotOf Z "com/example/eccentra/eccentra/MainVertex" "vertex" "I" ≠ RoadKit.slotOf Z "com/example/eccentra/eccentra/MainVertex" "to" "[I" := slot_ne (C := "com/example/eccentra/eccentra/MainVertex") (Or.inl (wd_43 hw)) (Or.inr (wd_57 hw)) (by decide) (t := .int) (t' := (.array .int)) (by decide) (by decide)
theorem sne_35 {Z : State} {a0 : Array Value} (hw : HwT Z a0) : RoadKit.slotOf Z "com/example/eccentra/eccentra/MainVertex" "from" "[I" ≠ RoadKit.slotOf Z "com/example/eccentra/eccentra/MainVertex" "to" "[I" := slot_ne (C := "com/example/eccentra/eccentra/MainVertex") (Or.inr (wd_50 hw)) (Or.inr (wd_57 hw)) (by decide) (t := (.array .int)) (t' := (.array .int)) (by decide) (by decide)
theorem pn_4 : plainName "com/example/eccentra/eccentra/MainVertex" = true := by first | (simp [plainName, overriddenIn]; done) | decide +kernel
theorem d_prog_19_method_1_27 : decode prog_19_method_1_code 27 = .ok (.aload_n 1, 1) := by decide +kernel
theorem d_prog_19_method_1_28 : decode prog_19_method_1_code 28 = .ok (.invokevirtual 15, 3) := by decide +kernel
theorem d_prog_19_method_1_31 : decode prog_19_method_1_code 31 = .ok (.newarray .int, 2) := by decide +kernel
theorem d_prog_19_method_1_33 : decode prog_19_method_1_code 33 = .ok (.goto 7, 3) := by decide +kernel
theorem d_prog_3_method_1_0 : decode prog_3_method_1_code 0 = .ok (.aload_n 0, 1) := by decide +kernel
theorem d_prog_3_method_1_1 : decode prog_3_method_1_code 1 = .ok (.invokespecial 1, 3) := by decide +kernel
theorem wd_64 {Z : State} {a0 : Array Value} (hw : HwT Z a0) : (Jvm.Cond.methodLink "com/example/eccentra/eccentra/BreadthFirst" (1 : Nat) ({ cls := "java/lang/Object", name := "<init>", desc := "()V" } : Jvm.MethodName)).before a0 Z = true := hw _ (List.mem_of_getElem? (i := 64) rfl)
theorem d_prog_3_method_1_4 : decode prog_3_method_1_code 4 = .ok (.aload_n 0, 1) := by decide +kernel
theorem d_prog_3_method_1_5 : decode prog_3_method_1_code 5 = .ok (.aload_n 1, 1) := by decide +kernel
theorem d_prog_3_method_1_6 : decode prog_3_method_1_code 6 = .ok (.putfield 7, 3) := by decide +kernel
theorem wd_65 {Z : State} {a0 : Array Value} (hw : HwT Z a0) : (Jvm.Cond.fieldLink "com/example/eccentra/eccentra/BreadthFirst" (7 : Nat) "com/example/eccentra/eccentra/BreadthFirst" "graph" "Lcom/example/eccentra/eccentra/Graph;").before a0 Z = true := hw _ (List.mem_of_getElem? (i := 65) rfl)
theorem wd_66 {Z : State} {a0 : Array Value} (hw : HwT Z a0) : (Jvm.Cond.laysFinal "com/example/eccentra/eccentra/BreadthFirst" "com/example/eccentra/eccentra/BreadthFirst" "graph" "Lcom/example/eccentra/eccentra/Graph;").before a0 Z = true := hw _ (List.mem_of_getElem? (i := 66) rfl)
theorem wd_59 {Z : State} {a0 : Array Value} (hw : HwT Z a0) : (Jvm.Cond.instantiable "com/example/eccentra/eccentra/BreadthFirst" (5 : Nat)).before a0 Z = true := hw _ (List.mem_of_getElem? (i := 59) rfl)
theorem d_prog_3_method_1_9 : decode prog_3_method_1_code 9 = .ok (.aload_n 0, 1) := by decide +kernel
theorem d_prog_3_method_1_10 : decode prog_3_method_1_code 10 = .ok (.aload_n 1, 1) := by decide +kernel
theorem d_prog_3_method_1_11 : decode prog_3_method_1_code 11 = .ok (.invokevirtual 13, 3) := by decide +kernel
theorem wd_67 {Z : State} {a0 : Array Value} (hw : HwT Z a0) : (Jvm.Cond.methodLink "com/example/eccentra/eccentra/BreadthFirst" (13 : Nat) ({ cls := "com/example/eccentra/eccentra/Graph", name := "vertexCount", desc := "()I" } : Jvm.MethodName)).before a0 Z = true := hw _ (List.mem_of_getElem? (i := 67) rfl)
theorem d_prog_3_method_1_14 : decode prog_3_method_1_code 14 = .ok (.newarray .int, 2) := by decide +kernel
theorem d_prog_3_method_1_16 : decode prog_3_method_1_code 16 = .ok (.putfield 19, 3) := by decide +kernel
theorem wd_69 {Z : State} {a0 : Array Value} (hw : HwT Z a0) : (Jvm.Cond.laysFinal "com/example/eccentra/eccentra/BreadthFirst" "com/example/eccentra/eccentra/BreadthFirst" "distance" "[I").before a0 Z = true := hw _ (List.mem_of_getElem? (i := 69) rfl)
theorem sne_36 {Z : State} {a0 : Array Value} (hw : HwT Z a0) : RoadKit.slotOf Z "com/example/eccentra/eccentra/BreadthFirst" "distance" "[I" ≠ RoadKit.slotOf Z "com/example/eccentra/eccentra/BreadthFirst" "graph" "Lcom/example/eccentra/eccentra/Graph;" := slot_ne (C := "com/example/eccentra/eccentra/BreadthFirst") (Or.inr (wd_69 hw)) (Or.inr (wd_66 hw)) (by decide) (t := (.array .int)) (t' := (.object "com/example/eccentra/eccentra/Graph")) (by decide) (by decide)
theorem d_prog_3_method_1_19 : decode prog_3_method_1_code 19 = .ok (.aload_n 0, 1) := by decide +kernel
theorem d_prog_3_method_1_20 : decode prog_3_method_1_code 20 = .ok (.getfield 19, 3) := by decide +kernel
theorem d_prog_3_method_1_23 : decode prog_3_method_1_code 23 = .ok (.iconst (-1), 1) := by decide +kernel
theorem d_prog_3_method_1_24 : decode prog_3_method_1_code 24 = .ok (.invokestatic 23, 3) := by decide +kernel
theorem wd_70 {Z : State} {a0 : Array Value} (hw : HwT Z a0) : (Jvm.Cond.methodLink "com/example/eccentra/eccentra/BreadthFirst" (23 : Nat) ({ cls := "java/util/Arrays", name := "fill", desc := "([II)V" } : Jvm.MethodName)).before a0 Z = true := hw _ (List.mem_of_getElem? (i := 70) rfl)
theorem wd_73 {Z : State} {a0 : Array Value} (hw : HwT Z a0) : (Jvm.Cond.code ({ cls := "java/util/Arrays", name := "fill", desc := "([II)V" } : Jvm.MethodName) jdk_65_method_103_code (4 : Nat) (Option.none : Option Jvm.ClassFile.FieldType)).before a0 Z = true := hw _ (List.mem_of_getElem? (i := 73) rfl)
theorem pd_5 : parseMethodDescriptor "([II)V" = some ⟨[(.array .int), .int], none⟩ := by decide +kernel
theorem wd_71 {Z : State} {a0 : Array Value} (hw : HwT Z a0) : (Jvm.Cond.static ({ cls := "java/util/Arrays", name := "fill", desc := "([II)V" } : Jvm.MethodName)).before a0 Z = true := hw _ (List.mem_of_getElem? (i := 71) rfl)
theorem wd_72 {Z : State} {a0 : Array Value} (hw : HwT Z a0) : (Jvm.Cond.initialized "java/util/Arrays").before a0 Z = true := hw _ (List.mem_of_getElem? (i := 72) rfl)
theorem d_prog_3_method_1_27 : decode prog_3_method_1_code 27 = .ok (.aload_n 0, 1) := by decide +kernel
theorem d_prog_3_method_1_28 : decode prog_3_method_1_code 28 = .ok (.aload_n 1, 1) := by decide +kernel
theorem d_prog_3_method_1_29 : decode prog_3_method_1_code 29 = .ok (.invokevirtual 13, 3) := by decide +kernel
theorem d_prog_3_method_1_32 : decode prog_3_method_1_code 32 = .ok (.newarray .int, 2) := by decide +kernel
theorem d_prog_3_method_1_34 : decode prog_3_method_1_code 34 = .ok (.putfield 29, 3) := by decide +kernel
theorem wd_74 {Z : State} {a0 : Array Value} (hw : HwT Z a0) : (Jvm.Cond.fieldLink "com/example/eccentra/eccentra/BreadthFirst" (29 : Nat) "com/example/eccentra/eccentra/BreadthFirst" "parent" "[I").before a0 Z = true := hw _ (List.mem_of_getElem? (i := 74) rfl)
theorem wd_75 {Z : State} {a0 : Array Value} (hw : HwT Z a0) : (Jvm.Cond.laysFinal "com/example/eccentra/eccentra/BreadthFirst" "com/example/eccentra/eccentra/BreadthFirst" "parent" "[I").before a0 Z = true := hw _ (List.mem_of_getElem? (i := 75) rfl)
theorem sne_37 {Z : State} {a0 : Array Value} (hw : HwT Z a0) : RoadKit.slotOf Z "com/example/eccentra/eccentra/BreadthFirst" "parent" "[I" ≠ RoadKit.slotOf Z "com/example/eccentra/eccentra/BreadthFirst" "graph" "Lcom/example/eccentra/eccentra/Graph;" := slot_ne (C := "com/example/eccentra/eccentra/BreadthFirst") (Or.inr (wd_75 hw)) (Or.inr (wd_66 hw)) (by decide) (t := (.array .int)) (t' := (.object "com/example/eccentra/eccentra/Graph")) (by decide) (by decide)
theorem sne_38 {Z : State} {a0 : Array Value} (hw : HwT Z a0) : RoadKit.slotOf Z "com/example/eccentra/eccentra/BreadthFirst" "parent" "[I" ≠ RoadKit.slotOf Z "com/example/eccentra/eccentra/BreadthFirst" "distance" "[I" := slot_ne (C := "com/example/eccentra/eccentra/BreadthFirst") (Or.inr (wd_75 hw)) (Or.inr (wd_69 hw)) (by decide) (t := (.array .int)) (t' := (.array .int)) (by decide) (by decide)
theorem d_prog_3_method_1_37 : decode prog_3_method_1_code 37 = .ok (.aload_n 0, 1) := by decide +kernel
theorem d_prog_3_method_1_38 : decode prog_3_method_1_code 38 = .ok (.aload_n 1, 1) := by decide +kernel
theorem d_prog_3_method_1_39 : decode prog_3_method_1_code 39 = .ok (.invokevirtual 13, 3) := by decide +kernel
theorem d_prog_3_method_1_42 : decode prog_3_method_1_code 42 = .ok (.newarray .int, 2) := by decide +kernel
theorem d_prog_3_method_1_44 : decode prog_3_method_1_code 44 = .ok (.putfield 32, 3) := by decide +kernel
theorem wd_77 {Z : State} {a0 : Array Value} (hw : HwT Z a0) : (Jvm.Cond.laysFinal "com/example/eccentra/eccentra/BreadthFirst" "com/example/eccentra/eccentra/BreadthFirst" "reachedOrder" "[I").before a0 Z = true := hw _ (List.mem_of_getElem? (i := 77) rfl)
theorem sne_39 {Z : State} {a0 : Array Value} (hw : HwT Z a0) : RoadKit.slotOf Z "com/example/eccentra/eccentra/BreadthFirst" "reachedOrder" "[I" ≠ RoadKit.slotOf Z "com/example/eccentra/eccentra/BreadthFirst" "graph" "Lcom/example/eccentra/eccentra/Graph;" := slot_ne (C := "com/example/eccentra/eccentra/BreadthFirst") (Or.inr (wd_77 hw)) (Or.inr (wd_66 hw)) (by decide) (t := (.array .int)) (t' := (.object "com/example/eccentra/eccentra/Graph")) (by decide) (by decide)
theorem sne_40 {Z : State} {a0 : Array Value} (hw : HwT Z a0) : RoadKit.slotOf Z "com/example/eccentra/eccentra/BreadthFirst" "reachedOrder" "[I" ≠ RoadKit.slotOf Z "com/example/eccentra/eccentra/BreadthFirst" "distance" "[I" := slot_ne (C := "com/example/eccentra/eccentra/BreadthFirst") (Or.inr (wd_77 hw)) (Or.inr (wd_69 hw)) (by decide) (t := (.array .int)) (t' := (.array .int)) (by decide) (by decide)
theorem sne_41 {Z : State} {a0 : Array Value} (hw : HwT Z a0) : RoadKit.slotOf Z "com/example/eccentra/eccentra/BreadthFirst" "reachedOrder" "[I" ≠ RoadKit.slotOf Z "com/example/eccentra/eccentra/BreadthFirst" "parent" "[I" := slot_ne (C := "com/example/eccentra/eccentra/BreadthFirst") (Or.inr (wd_77 hw)) (Or.inr (wd_75 hw)) (by decide) (t := (.array .int)) (t' := (.array .int)) (by decide) (by decide)
theorem d_prog_3_method_1_47 : decode prog_3_method_1_code 47 = .ok (.return_, 1) := by decide +kernel
theorem sne_42 {Z : State} {a0 : Array Value} (hw : HwT Z a0) : RoadKit.slotOf Z "com/example/eccentra/eccentra/BreadthFirst" "graph" "Lcom/example/eccentra/eccentra/Graph;" ≠ RoadKit.slotOf Z "com/example/eccentra/eccentra/BreadthFirst" "distance" "[I" := slot_ne (C := "com/example/eccentra/eccentra/BreadthFirst") (Or.inr (wd_66 hw)) (Or.inr (wd_69 hw)) (by decide) (t := (.object "com/example/eccentra/eccentra/Graph")) (t' := (.array .int)) (by decide) (by decide)
theorem sne_43 {Z : State} {a0 : Array Value} (hw : HwT Z a0) : RoadKit.slotOf Z "com/example/eccentra/eccentra/BreadthFirst" "graph" "Lcom/example/eccentra/eccentra/Graph;" ≠ RoadKit.slotOf Z "com/example/eccentra/eccentra/BreadthFirst" "parent" "[I" := slot_ne (C := "com/example/eccentra/eccentra/BreadthFirst") (Or.inr (wd_66 hw)) (Or.inr (wd_75 hw)) (by decide) (t := (.object "com/example/eccentra/eccentra/Graph")) (t' := (.array .int)) (by decide) (by decide)
theorem sne_44 {Z : State} {a0 : Array Value} (hw : HwT Z a0) : RoadKit.slotOf Z "com/example/eccentra/eccentra/BreadthFirst" "graph" "Lcom/example/eccentra/eccentra/Graph;" ≠ RoadKit.slotOf Z "com/example/eccentra/eccentra/BreadthFirst" "reachedOrder" "[I" := slot_ne (C := "com/example/eccentra/eccentra/BreadthFirst") (Or.inr (wd_66 hw)) (Or.inr (wd_77 hw)) (by decide) (t := (.object "com/example/eccentra/eccentra/Graph")) (t' := (.array .int)) (by decide) (by decide)
theorem sne_45 {Z : State} {a0 : Array Value} (hw : HwT Z a0) : RoadKit.slotOf Z "com/example/eccentra/eccentra/BreadthFirst" "distance" "[I" ≠ RoadKit.slotOf Z "com/example/eccentra/eccentra/BreadthFirst" "parent" "[I" := slot_ne (C := "com/example/eccentra/eccentra/BreadthFirst") (Or.inr (wd_69 hw)) (Or.inr (wd_75 hw)) (by decide) (t := (.array .int)) (t' := (.array .int)) (by decide) (by decide)
theorem sne_46 {Z : State} {a0 : Array Value} (hw : HwT Z a0) : RoadKit.slotOf Z "com/example/eccentra/eccentra/BreadthFirst" "distance" "[I" ≠ RoadKit.slotOf Z "com/example/eccentra/eccentra/BreadthFirst" "reachedOrder" "[I" := slot_ne (C := "com/example/eccentra/eccentra/BreadthFirst") (Or.inr (wd_69 hw)) (Or.inr (wd_77 hw)) (by decide) (t := (.array .int)) (t' := (.array .int)) (by decide) (by decide)
theorem sne_47 {Z : State} {a0 : Array Value} (hw : HwT Z a0) : RoadKit.slotOf Z "com/example/eccentra/eccentra/BreadthFirst" "parent" "[I" ≠ RoadKit.slotOf Z "com/example/eccentra/eccentra/BreadthFirst" "reachedOrder" "[I" := slot_ne (C := "com/example/eccentra/eccentra/BreadthFirst") (Or.inr (wd_75 hw)) (Or.inr (wd_77 hw)) (by decide) (t := (.array .int)) (t' := (.array .int)) (by decide) (by decide)
theorem wd_88 {Z : State} {a0 : Array Value} (hw : HwT Z a0) : (Jvm.Cond.lays "com/example/eccentra/eccentra/BreadthFirst" "com/example/eccentra/eccentra/BreadthFirst" "reachedCount" "I").before a0 Z = true := hw _ (List.mem_of_getElem? (i := 88) rfl)
theorem sne_48 {Z : State} {a0 : Array Value} (hw : HwT Z a0) : RoadKit.slotOf Z "com/example/eccentra/eccentra/BreadthFirst" "reachedCount" "I" ≠ RoadKit.slotOf Z "com/example/eccentra/eccentra/BreadthFirst" "graph" "Lcom/example/eccentra/eccentra/Graph;" := slot_ne (C := "com/example/eccentra/eccentra/BreadthFirst") (Or.inl (wd_88 hw)) (Or.inr (wd_66 hw)) (by decide) (t := .int) (t' := (.object "com/example/eccentra/eccentra/Graph")) (by decide) (by decide)
theorem sne_49 {Z : State} {a0 : Array Value} (hw : HwT Z a0) : RoadKit.slotOf Z "com/example/eccentra/eccentra/BreadthFirst" "reachedCount" "I" ≠ RoadKit.slotOf Z "com/example/eccentra/eccentra/BreadthFirst" "distance" "[I" := slot_ne (C := "com/example/eccentra/eccentra/BreadthFirst") (Or.inl (wd_88 hw)) (Or.inr (wd_69 hw)) (by decide) (t := .int) (t' := (.array .int)) (by decide) (by decide)
theorem sne_50 {Z : State} {a0 : Array Value} (hw : HwT Z a0) : RoadKit.slotOf Z "com/example/eccentra/eccentra/BreadthFirst" "reachedCount" "I" ≠ RoadKit.slotOf Z "com/example/eccentra/eccentra/BreadthFirst" "parent" "[I" := slot_ne (C := "com/example/eccentra/eccentra/BreadthFirst") (Or.inl (wd_88 hw)) (Or.inr (wd_75 hw)) (by decide) (t := .int) (t' := (.array .int)) (by decide) (by decide)
theorem sne_51 {Z : State} {a0 : Array Value} (hw : HwT Z a0) : RoadKit.slotOf Z "com/example/eccentra/eccentra/BreadthFirst" "reachedCount" "I" ≠ RoadKit.slotOf Z "com/example/eccentra/eccentra/BreadthFirst" "reachedOrder" "[I" := slot_ne (C := "com/example/eccentra/eccentra/BreadthFirst") (Or.inl (wd_88 hw)) (Or.inr (wd_77 hw)) (by decide) (t := .int) (t' := (.array .int)) (by decide) (by decide)
theorem d_prog_3_method_8_3 : decode prog_3_method_8_code 3 = .ok (.iload 4, 2) := by decide +kernel
theorem d_prog_3_method_8_5 : decode prog_3_method_8_code 5 = .ok (.aload_n 0, 1) := by decide +kernel
theorem d_prog_3_method_8_6 : decode prog_3_method_8_code 6 = .ok (.getfield 39, 3) := by decide +kernel
theorem d_prog_3_method_8_9 : decode prog_3_method_8_code 9 = .ok (.if_icmp .ge 22, 3) := by decide +kernel
theorem d_prog_3_method_8_12 : decode prog_3_method_8_code 12 = .ok (.aload_n 0, 1) := by decide +kernel
theorem d_prog_3_method_8_13 : decode prog_3_method_8_code 13 = .ok (.getfield 19, 3) := by decide +kernel
theorem d_prog_3_method_8_16 : decode prog_3_method_8_code 16 = .ok (.aload_n 0, 1) := by decide +kernel
theorem d_prog_3_method_8_17 : decode prog_3_method_8_code 17 = .ok (.getfield 32, 3) := by decide +kernel
theorem d_prog_3_method_8_20 : decode prog_3_method_8_code 20 = .ok (.iload 4, 2) := by decide +kernel
theorem d_prog_3_method_8_22 : decode prog_3_method_8_code 22 = .ok (.iaload, 1) := by decide +kernel
theorem d_prog_3_method_8_23 : decode prog_3_method_8_code 23 = .ok (.iconst (-1), 1) := by decide +kernel
theorem d_prog_3_method_8_24 : decode prog_3_method_8_code 24 = .ok (.iastore, 1) := by decide +kernel
theorem d_prog_3_method_8_25 : decode prog_3_method_8_code 25 = .ok (.iinc 4 1, 3) := by decide +kernel
theorem d_prog_3_method_8_28 : decode prog_3_method_8_code 28 = .ok (.goto (-25), 3) := by decide +kernel
theorem d_prog_3_method_8_147 : decode prog_3_method_8_code 147 = .ok (.iload 10, 2) := by decide +kernel
theorem d_prog_3_method_8_149 : decode prog_3_method_8_code 149 = .ok (.iload 9, 2) := by decide +kernel
theorem d_prog_3_method_8_151 : decode prog_3_method_8_code 151 = .ok (.if_icmp .ge 92, 3) := by decide +kernel
theorem d_prog_3_method_8_154 : decode prog_3_method_8_code 154 = .ok (.iload_n 2, 1) := by decide +kernel
theorem d_prog_3_method_8_155 : decode prog_3_method_8_code 155 = .ok (.ifCond .eq 15, 3) := by decide +kernel
theorem d_prog_3_method_8_170 : decode prog_3_method_8_code 170 = .ok (.aload_n 0, 1) := by decide +kernel
theorem d_prog_3_method_8_171 : decode prog_3_method_8_code 171 = .ok (.getfield 7, 3) := by decide +kernel
theorem d_prog_3_method_8_174 : decode prog_3_method_8_code 174 = .ok (.iload 10, 2) := by decide +kernel
theorem d_prog_3_method_8_176 : decode prog_3_method_8_code 176 = .ok (.invokevirtual 64, 3) := by decide +kernel
theorem wd_156 {Z : State} {a0 : Array Value} (hw : HwT Z a0) : (Jvm.Cond.methodLink "com/example/eccentra/eccentra/BreadthFirst" (64 : Nat) ({ cls := "com/example/eccentra/eccentra/Graph", name := "inSource", desc := "(I)I" } : Jvm.MethodName)).before a0 Z = true := hw _ (List.mem_of_getElem? (i := 156) rfl)
theorem wd_159 {Z : State} {a0 : Array Value} (hw : HwT Z a0) : (Jvm.Cond.selects "com/example/eccentra/eccentra/Graph" ({ cls := "com/example/eccentra/eccentra/Graph", name := "inSource", desc := "(I)I" } : Jvm.MethodName) ({ cls := "com/example/eccentra/eccentra/Graph", name := "inSource", desc := "(I)I" } : Jvm.MethodName)).before a0 Z = true := hw _ (List.mem_of_getElem? (i := 159) rfl)
theorem wd_160 {Z : State} {a0 : Array Value} (hw : HwT Z a0) : (Jvm.Cond.code ({ cls := "com/example/eccentra/eccentra/Graph", name := "inSource", desc := "(I)I" } : Jvm.MethodName) prog_7_method_14_code (2 : Nat) (Option.some Jvm.ClassFile.FieldType.int)).before a0 Z = true := hw _ (List.mem_of_getElem? (i := 160) rfl)
theorem pd_6 : parseMethodDescriptor "(I)I" = some ⟨[.int], some .int⟩ := by decide +kernel
theorem wd_157 {Z : State} {a0 : Array Value} (hw : HwT Z a0) : (Jvm.Cond.declares ({ cls := "com/example/eccentra/eccentra/Graph", name := "inSource", desc := "(I)I" } : Jvm.MethodName)).before a0 Z = true := hw _ (List.mem_of_getElem? (i := 157) rfl)
theorem wd_158 {Z : State} {a0 : Array Value} (hw : HwT Z a0) : (Jvm.Cond.instanceMethod ({ cls := "com/example/eccentra/eccentra/Graph", name := "inSource", desc := "(I)I" } : Jvm.MethodName)).before a0 Z = true := hw _ (List.mem_of_getElem? (i := 158) rfl)
theorem d_prog_3_method_8_179 : decode prog_3_method_8_code 179 = .ok (.istore 11, 2) := by decide +kernel
theorem d_prog_3_method_8_181 : decode prog_3_method_8_code 181 = .ok (.aload_n 0, 1) := by decide +kernel
theorem d_prog_3_method_8_182 : decode prog_3_method_8_code 182 = .ok (.getfield 19, 3) := by decide +kernel
theorem d_prog_3_method_8_185 : decode prog_3_method_8_code 185 = .ok (.iload 11, 2) := by decide +kernel
theorem d_prog_3_method_8_187 : decode prog_3_method_8_code 187 = .ok (.iaload, 1) := by decide +kernel
theorem d_prog_3_method_8_188 : decode prog_3_method_8_code 188 = .ok (.iconst (-1), 1) := by decide +kernel
theorem d_prog_3_method_8_189 : decode prog_3_method_8_code 189 = .ok (.if_icmp .ne 48, 3) := by decide +kernel
theorem d_prog_3_method_8_237 : decode prog_3_method_8_code 237 = .ok (.iinc 10 1, 3) := by decide +kernel
theorem d_prog_3_method_8_240 : decode prog_3_method_8_code 240 = .ok (.goto (-93), 3) := by decide +kernel
theorem d_prog_3_method_8_192 : decode prog_3_method_8_code 192 = .ok (.aload_n 3, 1) := by decide +kernel
theorem d_prog_3_method_8_193 : decode prog_3_method_8_code 193 = .ok (.ifnull 14, 3) := by decide +kernel
theorem d_prog_3_method_8_207 : decode prog_3_method_8_code 207 = .ok (.aload_n 0, 1) := by decide +kernel
theorem d_prog_3_method_8_208 : decode prog_3_method_8_code 208 = .ok (.getfield 19, 3) := by decide +kernel
theorem d_prog_3_method_8_211 : decode prog_3_method_8_code 211 = .ok (.iload 11, 2) := by decide +kernel
theorem d_prog_3_method_8_213 : decode prog_3_method_8_code 213 = .ok (.iload 8, 2) := by decide +kernel
theorem d_prog_3_method_8_215 : decode prog_3_method_8_code 215 = .ok (.iastore, 1) := by decide +kernel
theorem d_prog_3_method_8_216 : decode prog_3_method_8_code 216 = .ok (.aload_n 0, 1) := by decide +kernel
theorem d_prog_3_method_8_217 : decode prog_3_method_8_code 217 = .ok (.getfield 29, 3) := by decide +kernel
theorem d_prog_3_method_8_220 : decode prog_3_method_8_code 220 = .ok (.iload 11, 2) := by decide +kernel
theorem d_prog_3_method_8_222 : decode prog_3_method_8_code 222 = .ok (.iload 7, 2) := by decide +kernel
theorem d_prog_3_method_8_224 : decode prog_3_method_8_code 224 = .ok (.iastore, 1) := by decide +kernel
theorem d_prog_3_method_8_225 : decode prog_3_method_8_code 225 = .ok (.aload_n 0, 1) := by decide +kernel
theorem d_prog_3_method_8_226 : decode prog_3_method_8_code 226 = .ok (.getfield 32, 3) := by decide +kernel
theorem d_prog_3_method_8_229 : decode prog_3_method_8_code 229 = .ok (.iload 5, 2) := by decide +kernel
theorem d_prog_3_method_8_231 : decode prog_3_method_8_code 231 = .ok (.iinc 5 1, 3) := by decide +kernel
theorem d_prog_3_method_8_234 : decode prog_3_method_8_code 234 = .ok (.iload 11, 2) := by decide +kernel
theorem d_prog_3_method_8_236 : decode prog_3_method_8_code 236 = .ok (.iastore, 1) := by decide +kernel
theorem d_prog_3_method_8_66 : decode prog_3_method_8_code 66 = .ok (.iload 6, 2) := by decide +kernel
theorem d_prog_3_method_8_68 : decode prog_3_method_8_code 68 = .ok (.iload 5, 2) := by decide +kernel
theorem d_prog_3_method_8_70 : decode prog_3_method_8_code 70 = .ok (.if_icmp .ge 179, 3) := by decide +kernel
theorem d_prog_3_method_8_73 : decode prog_3_method_8_code 73 = .ok (.aload_n 0, 1) := by decide +kernel
theorem d_prog_3_method_8_74 : decode prog_3_method_8_code 74 = .ok (.getfield 32, 3) := by decide +kernel
theorem d_prog_3_method_8_77 : decode prog_3_method_8_code 77 = .ok (.iload 6, 2) := by decide +kernel
theorem d_prog_3_method_8_79 : decode prog_3_method_8_code 79 = .ok (.iaload, 1) := by decide +kernel
theorem d_prog_3_method_8_80 : decode prog_3_method_8_code 80 = .ok (.istore 7, 2) := by decide +kernel
theorem d_prog_3_method_8_82 : decode prog_3_method_8_code 82 = .ok (.aload_n 0, 1) := by decide +kernel
theorem d_prog_3_method_8_83 : decode prog_3_method_8_code 83 = .ok (.getfield 19, 3) := by decide +kernel
theorem d_prog_3_method_8_86 : decode prog_3_method_8_code 86 = .ok (.iload 7, 2) := by decide +kernel
theorem d_prog_3_method_8_88 : decode prog_3_method_8_code 88 = .ok (.iaload, 1) := by decide +kernel
theorem d_prog_3_method_8_89 : decode prog_3_method_8_code 89 = .ok (.iconst 1, 1) := by decide +kernel
theorem d_prog_3_method_8_90 : decode prog_3_method_8_code 90 = .ok (.iadd, 1) := by decide +kernel
theorem d_prog_3_method_8_91 : decode prog_3_method_8_code 91 = .ok (.istore 8, 2) := by decide +kernel
theorem d_prog_3_method_8_93 : decode prog_3_method_8_code 93 = .ok (.iload_n 2, 1) := by decide +kernel
theorem d_prog_3_method_8_94 : decode prog_3_method_8_code 94 = .ok (.ifCond .eq 15, 3) := by decide +kernel
theorem d_prog_3_method_8_109 : decode prog_3_method_8_code 109 = .ok (.aload_n 0, 1) := by decide +kernel
theorem d_prog_3_method_8_110 : decode prog_3_method_8_code 110 = .ok (.getfield 7, 3) := by decide +kernel
theorem d_prog_3_method_8_113 : decode prog_3_method_8_code 113 = .ok (.iload 7, 2) := by decide +kernel
theorem d_prog_3_method_8_115 : decode prog_3_method_8_code 115 = .ok (.invokevirtual 52, 3) := by decide +kernel
theorem wd_89 {Z : State} {a0 : Array Value} (hw : HwT Z a0) : (Jvm.Cond.methodLink "com/example/eccentra/eccentra/BreadthFirst" (52 : Nat) ({ cls := "com/example/eccentra/eccentra/Graph", name := "inEnd", desc := "(I)I" } : Jvm.MethodName)).before a0 Z = true := hw _ (List.mem_of_getElem? (i := 89) rfl)
theorem wd_92 {Z : State} {a0 : Array Value} (hw : HwT Z a0) : (Jvm.Cond.selects "com/example/eccentra/eccentra/Graph" ({ cls := "com/example/eccentra/eccentra/Graph", name := "inEnd", desc := "(I)I" } : Jvm.MethodName) ({ cls := "com/example/eccentra/eccentra/Graph", name := "inEnd", desc := "(I)I" } : Jvm.MethodName)).before a0 Z = true := hw _ (List.mem_of_getElem? (i := 92) rfl)
theorem wd_93 {Z : State} {a0 : Array Value} (hw : HwT Z a0) : (Jvm.Cond.code ({ cls := "com/example/eccentra/eccentra/Graph", name := "inEnd", desc := "(I)I" } : Jvm.MethodName) prog_7_method_13_code (2 : Nat) (Option.some Jvm.ClassFile.FieldType.int)).before a0 Z = true := hw _ (List.mem_of_getElem? (i := 93) rfl)
theorem wd_90 {Z : State} {a0 : Array Value} (hw : HwT Z a0) : (Jvm.Cond.declares ({ cls := "com/example/eccentra/eccentra/Graph", name := "inEnd", desc := "(I)I" } : Jvm.MethodName)).before a0 Z = true := hw _ (List.mem_of_getElem? (i := 90) rfl)
theorem wd_91 {Z : State} {a0 : Array Value} (hw : HwT Z a0) : (Jvm.Cond.instanceMethod ({ cls := "com/example/eccentra/eccentra/Graph", name := "inEnd", desc := "(I)I" } : Jvm.MethodName)).before a0 Z = true := hw _ (List.mem_of_getElem? (i := 91) rfl)
theorem d_prog_3_method_8_118 : decode prog_3_method_8_code 118 = .ok (.istore 9, 2) := by decide +kernel
theorem d_prog_3_method_8_120 : decode prog_3_method_8_code 120 = .ok (.iload_n 2, 1) := by decide +kernel
theorem d_prog_3_method_8_121 : decode prog_3_method_8_code 121 = .ok (.ifCond .eq 15, 3) := by decide +kernel
theorem d_prog_3_method_8_136 : decode prog_3_method_8_code 136 = .ok (.aload_n 0, 1) := by decide +kernel
theorem d_prog_3_method_8_137 : decode prog_3_method_8_code 137 = .ok (.getfield 7, 3) := by decide +kernel
theorem d_prog_3_method_8_140 : decode prog_3_method_8_code 140 = .ok (.iload 7, 2) := by decide +kernel
theorem d_prog_3_method_8_142 : decode prog_3_method_8_code 142 = .ok (.invokevirtual 58, 3) := by decide +kernel
theorem wd_94 {Z : State} {a0 : Array Value} (hw : HwT Z a0) : (Jvm.Cond.methodLink "com/example/eccentra/eccentra/BreadthFirst" (58 : Nat) ({ cls := "com/example/eccentra/eccentra/Graph", name := "inBegin", desc := "(I)I" } : Jvm.MethodName)).before a0 Z = true := hw _ (List.mem_of_getElem? (i := 94) rfl)
theorem wd_97 {Z : State} {a0 : Array Value} (hw : HwT Z a0) : (Jvm.Cond.selects "com/example/eccentra/eccentra/Graph" ({ cls := "com/example/eccentra/eccentra/Graph", name := "inBegin", desc := "(I)I" } : Jvm.MethodName) ({ cls := "com/example/eccentra/eccentra/Graph", name := "inBegin", desc := "(I)I" } : Jvm.MethodName)).before a0 Z = true := hw _ (List.mem_of_getElem? (i := 97) rfl)
theorem wd_98 {Z : State} {a0 : Array Value} (hw : HwT Z a0) : (Jvm.Cond.code ({ cls := "com/example/eccentra/eccentra/Graph", name := "inBegin", desc := "(I)I" } : Jvm.MethodName) prog_7_method_12_code (2 : Nat) (Option.some Jvm.ClassFile.FieldType.int)).before a0 Z = true := hw _ (List.mem_of_getElem? (i := 98) rfl)
theorem wd_95 {Z : State} {a0 : Array Value} (hw : HwT Z a0) : (Jvm.Cond.declares ({ cls := "com/example/eccentra/eccentra/Graph", name := "inBegin", desc := "(I)I" } : Jvm.MethodName)).before a0 Z = true := hw _ (List.mem_of_getElem? (i := 95) rfl)
theorem wd_96 {Z : State} {a0 : Array Value} (hw : HwT Z a0) : (Jvm.Cond.instanceMethod ({ cls := "com/example/eccentra/eccentra/Graph", name := "inBegin", desc := "(I)I" } : Jvm.MethodName)).before a0 Z = true := hw _ (List.mem_of_getElem? (i := 96) rfl)
theorem d_prog_3_method_8_145 : decode prog_3_method_8_code 145 = .ok (.istore 10, 2) := by decide +kernel
theorem d_prog_3_method_8_243 : decode prog_3_method_8_code 243 = .ok (.iinc 6 1, 3) := by decide +kernel
theorem d_prog_3_method_8_246 : decode prog_3_method_8_code 246 = .ok (.goto (-180), 3) := by decide +kernel
theorem d_prog_3_method_8_0 : decode prog_3_method_8_code 0 = .ok (.iconst 0, 1) := by decide +kernel
theorem d_prog_3_method_8_1 : decode prog_3_method_8_code 1 = .ok (.istore 4, 2) := by decide +kernel
theorem d_prog_3_method_8_31 : decode prog_3_method_8_code 31 = .ok (.aload_n 3, 1) := by decide +kernel
theorem d_prog_3_method_8_32 : decode prog_3_method_8_code 32 = .ok (.ifnonnull 7, 3) := by decide +kernel
theorem d_prog_3_method_8_35 : decode prog_3_method_8_code 35 = .ok (.iconst 0, 1) := by decide +kernel
theorem d_prog_3_method_8_36 : decode prog_3_method_8_code 36 = .ok (.goto 8, 3) := by decide +kernel
theorem d_prog_3_method_8_44 : decode prog_3_method_8_code 44 = .ok (.istore 4, 2) := by decide +kernel
theorem d_prog_3_method_8_46 : decode prog_3_method_8_code 46 = .ok (.aload_n 0, 1) := by decide +kernel
theorem d_prog_3_method_8_47 : decode prog_3_method_8_code 47 = .ok (.getfield 19, 3) := by decide +kernel
theorem d_prog_3_method_8_50 : decode prog_3_method_8_code 50 = .ok (.iload_n 1, 1) := by decide +kernel
theorem d_prog_3_method_8_51 : decode prog_3_method_8_code 51 = .ok (.iconst 0, 1) := by decide +kernel
theorem d_prog_3_method_8_52 : decode prog_3_method_8_code 52 = .ok (.iastore, 1) := by decide +kernel
theorem d_prog_3_method_8_53 : decode prog_3_method_8_code 53 = .ok (.aload_n 0, 1) := by decide +kernel
theorem d_prog_3_method_8_54 : decode prog_3_method_8_code 54 = .ok (.getfield 32, 3) := by decide +kernel
theorem d_prog_3_method_8_57 : decode prog_3_method_8_code 57 = .ok (.iconst 0, 1) := by decide +kernel
theorem d_prog_3_method_8_58 : decode prog_3_method_8_code 58 = .ok (.iload_n 1, 1) := by decide +kernel
theorem d_prog_3_method_8_59 : decode prog_3_method_8_code 59 = .ok (.iastore, 1) := by decide +kernel
theorem d_prog_3_method_8_60 : decode prog_3_method_8_code 60 = .ok (.iconst 1, 1) := by decide +kernel
theorem d_prog_3_method_8_61 : decode prog_3_method_8_code 61 = .ok (.istore 5, 2) := by decide +kernel
theorem d_prog_3_method_8_63 : decode prog_3_method_8_code 63 = .ok (.iconst 0, 1) := by decide +kernel
theorem d_prog_3_method_8_64 : decode prog_3_method_8_code 64 = .ok (.istore 6, 2) := by decide +kernel
theorem d_prog_3_method_8_249 : decode prog_3_method_8_code 249 = .ok (.aload_n 0, 1) := by decide +kernel
theorem d_prog_3_method_8_250 : decode prog_3_method_8_code 250 = .ok (.iload 5, 2) := by decide +kernel
theorem d_prog_3_method_8_252 : decode prog_3_method_8_code 252 = .ok (.putfield 39, 3) := by decide +kernel
theorem d_prog_3_method_8_255 : decode prog_3_method_8_code 255 = .ok (.aload_n 0, 1) := by decide +kernel
theorem d_prog_3_method_8_256 : decode prog_3_method_8_code 256 = .ok (.getfield 19, 3) := by decide +kernel
theorem sne_52 {Z : State} {a0 : Array Value} (hw : HwT Z a0) : RoadKit.slotOf Z "com/example/eccentra/eccentra/BreadthFirst" "distance" "[I" ≠ RoadKit.slotOf Z "com/example/eccentra/eccentra/BreadthFirst" "reachedCount" "I" := slot_ne (C := "com/example/eccentra/eccentra/BreadthFirst") (Or.inr (wd_69 hw)) (Or.inl (wd_88 hw)) (by decide) (t := (.array .int)) (t' := .int) (by decide) (by decide)
theorem d_prog_3_method_8_259 : decode prog_3_method_8_code 259 = .ok (.aload_n 0, 1) := by decide +kernel
theorem d_prog_3_method_8_260 : decode prog_3_method_8_code 260 = .ok (.getfield 32, 3) := by decide +kernel
theorem sne_53 {Z : State} {a0 : Array Value} (hw : HwT Z a0) : RoadKit.slotOf Z "com/example/eccentra/eccentra/BreadthFirst" "reachedOrder" "[I" ≠ RoadKit.slotOf Z "com/example/eccentra/eccentra/BreadthFirst" "reachedCount" "I" := slot_ne (C := "com/example/eccentra/eccentra/BreadthFirst") (Or.inr (wd_77 hw)) (Or.inl (wd_88 hw)) (by decide) (t := (.array .int)) (t' := .int) (by decide) (by decide)
theorem d_prog_3_method_8_263 : decode prog_3_method_8_code 263 = .ok (.iload 5, 2) := by decide +kernel
theorem d_prog_3_method_8_265 : decode prog_3_method_8_code 265 = .ok (.iconst 1, 1) := by decide +kernel
theorem d_prog_3_method_8_266 : decode prog_3_method_8_code 266 = .ok (.isub, 1) := by decide +kernel
theorem d_prog_3_method_8_267 : decode prog_3_method_8_code 267 = .ok (.iaload, 1) := by decide +kernel
theorem d_prog_3_method_8_268 : decode prog_3_method_8_code 268 = .ok (.iaload, 1) := by decide +kernel
theorem d_prog_3_method_8_269 : decode prog_3_method_8_code 269 = .ok (.ireturn, 1) := by decide +kernel
theorem sne_54 {Z : State} {a0 : Array Value} (hw : HwT Z a0) : RoadKit.slotOf Z "com/example/eccentra/eccentra/BreadthFirst" "graph" "Lcom/example/eccentra/eccentra/Graph;" ≠ RoadKit.slotOf Z "com/example/eccentra/eccentra/BreadthFirst" "reachedCount" "I" := slot_ne (C := "com/example/eccentra/eccentra/BreadthFirst") (Or.inr (wd_66 hw)) (Or.inl (wd_88 hw)) (by decide) (t := (.object "com/example/eccentra/eccentra/Graph")) (t' := .int) (by decide) (by decide)
theorem sne_55 {Z : State} {a0 : Array Value} (hw : HwT Z a0) : RoadKit.slotOf Z "com/example/eccentra/eccentra/BreadthFirst" "parent" "[I" ≠ RoadKit.slotOf Z "com/example/eccentra/eccentra/BreadthFirst" "reachedCount" "I" := slot_ne (C := "com/example/eccentra/eccentra/BreadthFirst") (Or.inr (wd_75 hw)) (Or.inl (wd_88 hw)) (by decide) (t := (.array .int)) (t' := .int) (by decide) (by decide)
theorem d_prog_3_method_2_0 : decode prog_3_method_2_code 0 = .ok (.aload_n 0, 1) := by decide +kernel
theorem d_prog_3_method_2_1 : decode prog_3_method_2_code 1 = .ok (.iload_n 1, 1) := by decide +kernel
theorem d_prog_3_method_2_2 : decode prog_3_method_2_code 2 = .ok (.iload_n 2, 1) := by decide +kernel
theorem d_prog_3_method_2_3 : decode prog_3_method_2_code 3 = .ok (.aconst_null, 1) := by decide +kernel
theorem d_prog_3_method_2_4 : decode prog_3_method_2_code 4 = .ok (.invokevirtual 35, 3) := by decide +kernel
theorem wd_83 {Z : State} {a0 : Array Value} (hw : HwT Z a0) : (Jvm.Cond.methodLink "com/example/eccentra/eccentra/BreadthFirst" (35 : Nat) ({ cls := "com/example/eccentra/eccentra/BreadthFirst", name := "search", desc := "(IZLcom/example/eccentra/eccentra/Components;)I" } : Jvm.MethodName)).before a0 Z = true := hw _ (List.mem_of_getElem? (i := 83) rfl)
theorem wd_86 {Z : State} {a0 : Array Value} (hw : HwT Z a0) : (Jvm.Cond.code ({ cls := "com/example/eccentra/eccentra/BreadthFirst", name := "search", desc := "(IZLcom/example/eccentra/eccentra/Components;)I" } : Jvm.MethodName) prog_3_method_8_code (12 : Nat) (Option.some Jvm.ClassFile.FieldType.int)).before a0 Z = true := hw _ (List.mem_of_getElem? (i := 86) rfl)
theorem pd_7 : parseMethodDescriptor "(IZLcom/example/eccentra/eccentra/Components;)I" = some ⟨[.int, .boolean, (.object "com/example/eccentra/eccentra/Components")], some .int⟩ := by decide +kernel
theorem wd_85 {Z : State} {a0 : Array Value} (hw : HwT Z a0) : (Jvm.Cond.privateMethod ({ cls := "com/example/eccentra/eccentra/BreadthFirst", name := "search", desc := "(IZLcom/example/eccentra/eccentra/Components;)I" } : Jvm.MethodName)).before a0 Z = true := hw _ (List.mem_of_getElem? (i := 85) rfl)
theorem wd_84 {Z : State} {a0 : Array Value} (hw : HwT Z a0) : (Jvm.Cond.instanceMethod ({ cls := "com/example/eccentra/eccentra/BreadthFirst", name := "search", desc := "(IZLcom/example/eccentra/eccentra/Components;)I" } : Jvm.MethodName)).before a0 Z = true := hw _ (List.mem_of_getElem? (i := 84) rfl)
theorem wd_60 {Z : State} {a0 : Array Value} (hw : HwT Z a0) : (Jvm.Cond.initialized "com/example/eccentra/eccentra/BreadthFirst").before a0 Z = true := hw _ (List.mem_of_getElem? (i := 60) rfl)
theorem d_prog_3_method_2_7 : decode prog_3_method_2_code 7 = .ok (.ireturn, 1) := by decide +kernel
theorem d_prog_3_method_8_158 : decode prog_3_method_8_code 158 = .ok (.aload_n 0, 1) := by decide +kernel
theorem d_prog_3_method_8_159 : decode prog_3_method_8_code 159 = .ok (.getfield 7, 3) := by decide +kernel
theorem d_prog_3_method_8_162 : decode prog_3_method_8_code 162 = .ok (.iload 10, 2) := by decide +kernel
theorem d_prog_3_method_8_164 : decode prog_3_method_8_code 164 = .ok (.invokevirtual 61, 3) := by decide +kernel
theorem wd_151 {Z : State} {a0 : Array Value} (hw : HwT Z a0) : (Jvm.Cond.methodLink "com/example/eccentra/eccentra/BreadthFirst" (61 : Nat) ({ cls := "com/example/eccentra/eccentra/Graph", name := "outTarget", desc := "(I)I" } : Jvm.MethodName)).before a0 Z = true := hw _ (List.mem_of_getElem? (i := 151) rfl)
theorem wd_154 {Z : State} {a0 : Array Value} (hw : HwT Z a0) : (Jvm.Cond.selects "com/example/eccentra/eccentra/Graph" ({ cls := "com/example/eccentra/eccentra/Graph", name := "outTarget", desc := "(I)I" } : Jvm.MethodName) ({ cls := "com/example/eccentra/eccentra/Graph", name := "outTarget", desc := "(I)I" } : Jvm.MethodName)).before a0 Z = true := hw _ (List.mem_of_getElem? (i := 154) rfl)
theorem wd_155 {Z : State} {a0 : Array Value} (hw : HwT Z a0) : (Jvm.Cond.code ({ cls := "com/example/eccentra/eccentra/Graph", name := "outTarget", desc := "(I)I" } : Jvm.MethodName) prog_7_method_11_code (2 : Nat) (Option.some Jvm.ClassFile.FieldType.int)).before a0 Z = true := hw _ (List.mem_of_getElem? (i := 155) rfl)
theorem wd_152 {Z : State} {a0 : Array Value} (hw : HwT Z a0) : (Jvm.Cond.declares ({ cls := "com/example/eccentra/eccentra/Graph", name := "outTarget", desc := "(I)I" } : Jvm.MethodName)).before a0 Z = true := hw _ (List.mem_of_getElem? (i := 152) rfl)
theorem wd_153 {Z : State} {a0 : Array Value} (hw : HwT Z a0) : (Jvm.Cond.instanceMethod ({ cls := "com/example/eccentra/eccentra/Graph", name := "outTarget", desc := "(I)I" } : Jvm.MethodName)).before a0 Z = true := hw _ (List.mem_of_getElem? (i := 153) rfl)
theorem d_prog_3_method_8_167 : decode prog_3_method_8_code 167 = .ok (.goto 12, 3) := by decide +kernel
theorem d_prog_3_method_8_97 : decode prog_3_method_8_code 97 = .ok (.aload_n 0, 1) := by decide +kernel
theorem d_prog_3_method_8_98 : decode prog_3_method_8_code 98 = .ok (.getfield 7, 3) := by decide +kernel
theorem d_prog_3_method_8_101 : decode prog_3_method_8_code 101 = .ok (.iload 7, 2) := by decide +kernel
theorem d_prog_3_method_8_103 : decode prog_3_method_8_code 103 = .ok (.invokevirtual 49, 3) := by decide +kernel
theorem wd_120 {Z : State} {a0 : Array Value} (hw : HwT Z a0) : (Jvm.Cond.methodLink "com/example/eccentra/eccentra/BreadthFirst" (49 : Nat) ({ cls := "com/example/eccentra/eccentra/Graph", name := "outEnd", desc := "(I)I" } : Jvm.MethodName)).before a0 Z = true := hw _ (List.mem_of_getElem? (i := 120) rfl)
theorem wd_123 {Z : State} {a0 : Array Value} (hw : HwT Z a0) : (Jvm.Cond.selects "com/example/eccentra/eccentra/Graph" ({ cls := "com/example/eccentra/eccentra/Graph", name := "outEnd", desc := "(I)I" } : Jvm.MethodName) ({ cls := "com/example/eccentra/eccentra/Graph", name := "outEnd", desc := "(I)I" } : Jvm.MethodName)).before a0 Z = true := hw _ (List.mem_of_getElem? (i := 123) rfl)
theorem wd_124 {Z : State} {a0 : Array Value} (hw : HwT Z a0) : (Jvm.Cond.code ({ cls := "com/example/eccentra/eccentra/Graph", name := "outEnd", desc := "(I)I" } : Jvm.MethodName) prog_7_method_10_code (2 : Nat) (Option.some Jvm.ClassFile.FieldType.int)).before a0 Z = true := hw _ (List.mem_of_getElem? (i := 124) rfl)
theorem wd_121 {Z : State} {a0 : Array Value} (hw : HwT Z a0) : (Jvm.Cond.declares ({ cls := "com/example/eccentra/eccentra/Graph", name := "outEnd", desc := "(I)I" } : Jvm.MethodName)).before a0 Z = true := hw _ (List.mem_of_getElem? (i := 121) rfl)
theorem wd_122 {Z : State} {a0 : Array Value} (hw : HwT Z a0) : (Jvm.Cond.instanceMethod ({ cls := "com/example/eccentra/eccentra/Graph", name := "outEnd", desc := "(I)I" } : Jvm.MethodName)).before a0 Z = true := hw _ (List.mem_of_getElem? (i := 122) rfl)
theorem d_prog_3_method_8_106 : decode prog_3_method_8_code 106 = .ok (.goto 12, 3) := by decide +kernel
theorem d_prog_3_method_8_124 : decode prog_3_method_8_code 124 = .ok (.aload_n 0, 1) := by decide +kernel
theorem d_prog_3_method_8_125 : decode prog_3_method_8_code 125 = .ok (.getfield 7, 3) := by decide +kernel
theorem d_prog_3_method_8_128 : decode prog_3_method_8_code 128 = .ok (.iload 7, 2) := by decide +kernel
theorem d_prog_3_method_8_130 : decode prog_3_method_8_code 130 = .ok (.invokevirtual 55, 3) := by decide +kernel
theorem wd_125 {Z : State} {a0 : Array Value} (hw : HwT Z a0) : (Jvm.Cond.methodLink "com/example/eccentra/eccentra/BreadthFirst" (55 : Nat) ({ cls := "com/example/eccentra/eccentra/Graph", name := "outBegin", desc := "(I)I" } : Jvm.MethodName)).before a0 Z = true := hw _ (List.mem_of_getElem? (i := 125) rfl)
theorem wd_128 {Z : State} {a0 : Array Value} (hw : HwT Z a0) : (Jvm.Cond.selects "com/example/eccentra/eccentra/Graph" ({ cls := "com/example/eccentra/eccentra/Graph", name := "outBegin", desc := "(I)I" } : Jvm.MethodName) ({ cls := "com/example/eccentra/eccentra/Graph", name := "outBegin", desc := "(I)I" } : Jvm.MethodName)).before a0 Z = true := hw _ (List.mem_of_getElem? (i := 128) rfl)
theorem wd_129 {Z : State} {a0 : Array Value} (hw : HwT Z a0) : (Jvm.Cond.code ({ cls := "com/example/eccentra/eccentra/Graph", name := "outBegin", desc := "(I)I" } : Jvm.MethodName) prog_7_method_9_code (2 : Nat) (Option.some Jvm.ClassFile.FieldType.int)).before a0 Z = true := hw _ (List.mem_of_getElem? (i := 129) rfl)
theorem wd_126 {Z : State} {a0 : Array Value} (hw : HwT Z a0) : (Jvm.Cond.declares ({ cls := "com/example/eccentra/eccentra/Graph", name := "outBegin", desc := "(I)I" } : Jvm.MethodName)).before a0 Z = true := hw _ (List.mem_of_getElem? (i := 126) rfl)
theorem wd_127 {Z : State} {a0 : Array Value} (hw : HwT Z a0) : (Jvm.Cond.instanceMethod ({ cls := "com/example/eccentra/eccentra/Graph", name := "outBegin", desc := "(I)I" } : Jvm.MethodName)).before a0 Z = true := hw _ (List.mem_of_getElem? (i := 127) rfl)
theorem d_prog_3_method_8_133 : decode prog_3_method_8_code 133 = .ok (.goto 12, 3) := by decide +kernel
theorem d_prog_19_method_4_24 : decode prog_19_method_4_code 24 = .ok (.iload 4, 2) := by decide +kernel
theorem d_prog_19_method_4_26 : decode prog_19_method_4_code 26 = .ok (.aload_n 1, 1) := by decide +kernel
theorem d_prog_19_method_4_27 : decode prog_19_method_4_code 27 = .ok (.invokevirtual 38, 3) := by decide +kernel
theorem wd_105 {Z : State} {a0 : Array Value} (hw : HwT Z a0) : (Jvm.Cond.methodLink "com/example/eccentra/eccentra/MainVertex" (38 : Nat) ({ cls := "com/example/eccentra/eccentra/BreadthFirst", name := "reachedCount", desc := "()I" } : Jvm.MethodName)).before a0 Z = true := hw _ (List.mem_of_getElem? (i := 105) rfl)
theorem wd_108 {Z : State} {a0 : Array Value} (hw : HwT Z a0) : (Jvm.Cond.selects "com/example/eccentra/eccentra/BreadthFirst" ({ cls := "com/example/eccentra/eccentra/BreadthFirst", name := "reachedCount", desc := "()I" } : Jvm.MethodName) ({ cls := "com/example/eccentra/eccentra/BreadthFirst", name := "reachedCount", desc := "()I" } : Jvm.MethodName)).before a0 Z = true := hw _ (List.mem_of_getElem? (i := 108) rfl)
theorem wd_109 {Z : State} {a0 : Array Value} (hw : HwT Z a0) : (Jvm.Cond.code ({ cls := "com/example/eccentra/eccentra/BreadthFirst", name := "reachedCount", desc := "()I" } : Jvm.MethodName) prog_3_method_4_code (1 : Nat) (Option.some Jvm.ClassFile.FieldType.int)).before a0 Z = true := hw _ (List.mem_of_getElem? (i := 109) rfl)
theorem wd_106 {Z : State} {a0 : Array Value} (hw : HwT Z a0) : (Jvm.Cond.declares ({ cls := "com/example/eccentra/eccentra/BreadthFirst", name := "reachedCount", desc := "()I" } : Jvm.MethodName)).before a0 Z = true := hw _ (List.mem_of_getElem? (i := 106) rfl)
theorem wd_107 {Z : State} {a0 : Array Value} (hw : HwT Z a0) : (Jvm.Cond.instanceMethod ({ cls := "com/example/eccentra/eccentra/BreadthFirst", name := "reachedCount", desc := "()I" } : Jvm.MethodName)).before a0 Z = true := hw _ (List.mem_of_getElem? (i := 107) rfl)
theorem d_prog_19_method_4_30 : decode prog_19_method_4_code 30 = .ok (.if_icmp .ge 27, 3) := by decide +kernel
theorem d_prog_19_method_4_33 : decode prog_19_method_4_code 33 = .ok (.aload_n 1, 1) := by decide +kernel
theorem d_prog_19_method_4_34 : decode prog_19_method_4_code 34 = .ok (.iload 4, 2) := by decide +kernel
theorem d_prog_19_method_4_36 : decode prog_19_method_4_code 36 = .ok (.invokevirtual 43, 3) := by decide +kernel
theorem wd_110 {Z : State} {a0 : Array Value} (hw : HwT Z a0) : (Jvm.Cond.methodLink "com/example/eccentra/eccentra/MainVertex" (43 : Nat) ({ cls := "com/example/eccentra/eccentra/BreadthFirst", name := "reached", desc := "(I)I" } : Jvm.MethodName)).before a0 Z = true := hw _ (List.mem_of_getElem? (i := 110) rfl)
theorem wd_113 {Z : State} {a0 : Array Value} (hw : HwT Z a0) : (Jvm.Cond.selects "com/example/eccentra/eccentra/BreadthFirst" ({ cls := "com/example/eccentra/eccentra/BreadthFirst", name := "reached", desc := "(I)I" } : Jvm.MethodName) ({ cls := "com/example/eccentra/eccentra/BreadthFirst", name := "reached", desc := "(I)I" } : Jvm.MethodName)).before a0 Z = true := hw _ (List.mem_of_getElem? (i := 113) rfl)
theorem wd_114 {Z : State} {a0 : Array Value} (hw : HwT Z a0) : (Jvm.Cond.code ({ cls := "com/example/eccentra/eccentra/BreadthFirst", name := "reached", desc := "(I)I" } : Jvm.MethodName) prog_3_method_5_code (2 : Nat) (Option.some Jvm.ClassFile.FieldType.int)).before a0 Z = true := hw _ (List.mem_of_getElem? (i := 114) rfl)
theorem wd_111 {Z : State} {a0 : Array Value} (hw : HwT Z a0) : (Jvm.Cond.declares ({ cls := "com/example/eccentra/eccentra/BreadthFirst", name := "reached", desc := "(I)I" } : Jvm.MethodName)).before a0 Z = true := hw _ (List.mem_of_getElem? (i := 111) rfl)
theorem wd_112 {Z : State} {a0 : Array Value} (hw : HwT Z a0) : (Jvm.Cond.instanceMethod ({ cls := "com/example/eccentra/eccentra/BreadthFirst", name := "reached", desc := "(I)I" } : Jvm.MethodName)).before a0 Z = true := hw _ (List.mem_of_getElem? (i := 112) rfl)
theorem d_prog_19_method_4_39 : decode prog_19_method_4_code 39 = .ok (.istore 5, 2) := by decide +kernel
theorem d_prog_19_method_4_41 : decode prog_19_method_4_code 41 = .ok (.aload_n 3, 1) := by decide +kernel
theorem d_prog_19_method_4_42 : decode prog_19_method_4_code 42 = .ok (.iload 5, 2) := by decide +kernel
theorem d_prog_19_method_4_44 : decode prog_19_method_4_code 44 = .ok (.aload_n 1, 1) := by decide +kernel
theorem d_prog_19_method_4_45 : decode prog_19_method_4_code 45 = .ok (.iload 5, 2) := by decide +kernel
theorem d_prog_19_method_4_47 : decode prog_19_method_4_code 47 = .ok (.invokevirtual 47, 3) := by decide +kernel
theorem wd_115 {Z : State} {a0 : Array Value} (hw : HwT Z a0) : (Jvm.Cond.methodLink "com/example/eccentra/eccentra/MainVertex" (47 : Nat) ({ cls := "com/example/eccentra/eccentra/BreadthFirst", name := "distance", desc := "(I)I" } : Jvm.MethodName)).before a0 Z = true := hw _ (List.mem_of_getElem? (i := 115) rfl)
theorem wd_118 {Z : State} {a0 : Array Value} (hw : HwT Z a0) : (Jvm.Cond.selects "com/example/eccentra/eccentra/BreadthFirst" ({ cls := "com/example/eccentra/eccentra/BreadthFirst", name := "distance", desc := "(I)I" } : Jvm.MethodName) ({ cls := "com/example/eccentra/eccentra/BreadthFirst", name := "distance", desc := "(I)I" } : Jvm.MethodName)).before a0 Z = true := hw _ (List.mem_of_getElem? (i := 118) rfl)
theorem wd_119 {Z : State} {a0 : Array Value} (hw : HwT Z a0) : (Jvm.Cond.code ({ cls := "com/example/eccentra/eccentra/BreadthFirst", name := "distance", desc := "(I)I" } : Jvm.MethodName) prog_3_method_6_code (2 : Nat) (Option.some Jvm.ClassFile.FieldType.int)).before a0 Z = true := hw _ (List.mem_of_getElem? (i := 119) rfl)
theorem wd_116 {Z : State} {a0 : Array Value} (hw : HwT Z a0) : (Jvm.Cond.declares ({ cls := "com/example/eccentra/eccentra/BreadthFirst", name := "distance", desc := "(I)I" } : Jvm.MethodName)).before a0 Z = true := hw _ (List.mem_of_getElem? (i := 116) rfl)
theorem wd_117 {Z : State} {a0 : Array Value} (hw : HwT Z a0) : (Jvm.Cond.instanceMethod ({ cls := "com/example/eccentra/eccentra/BreadthFirst", name := "distance", desc := "(I)I" } : Jvm.MethodName)).before a0 Z = true := hw _ (List.mem_of_getElem? (i := 117) rfl)
theorem d_prog_19_method_4_50 : decode prog_19_method_4_code 50 = .ok (.iastore, 1) := by decide +kernel
theorem d_prog_19_method_4_51 : decode prog_19_method_4_code 51 = .ok (.iinc 4 1, 3) := by decide +kernel
theorem d_prog_19_method_4_54 : decode prog_19_method_4_code 54 = .ok (.goto (-30), 3) := by decide +kernel
theorem d_prog_19_method_4_0 : decode prog_19_method_4_code 0 = .ok (.iload_n 2, 1) := by decide +kernel
theorem d_prog_19_method_4_1 : decode prog_19_method_4_code 1 = .ok (.ifCond .eq 10, 3) := by decide +kernel
theorem d_prog_19_method_4_11 : decode prog_19_method_4_code 11 = .ok (.aload_n 0, 1) := by decide +kernel
theorem d_prog_19_method_4_12 : decode prog_19_method_4_code 12 = .ok (.getfield 29, 3) := by decide +kernel
theorem d_prog_19_method_4_15 : decode prog_19_method_4_code 15 = .ok (.astore_n 3, 1) := by decide +kernel
theorem d_prog_19_method_4_16 : decode prog_19_method_4_code 16 = .ok (.aload_n 3, 1) := by decide +kernel
theorem d_prog_19_method_4_17 : decode prog_19_method_4_code 17 = .ok (.iconst (-1), 1) := by decide +kernel
theorem d_prog_19_method_4_18 : decode prog_19_method_4_code 18 = .ok (.invokestatic 32, 3) := by decide +kernel
theorem wd_104 {Z : State} {a0 : Array Value} (hw : HwT Z a0) : (Jvm.Cond.methodLink "com/example/eccentra/eccentra/MainVertex" (32 : Nat) ({ cls := "java/util/Arrays", name := "fill", desc := "([II)V" } : Jvm.MethodName)).before a0 Z = true := hw _ (List.mem_of_getElem? (i := 104) rfl)
theorem d_prog_19_method_4_21 : decode prog_19_method_4_code 21 = .ok (.iconst 0, 1) := by decide +kernel
theorem d_prog_19_method_4_22 : decode prog_19_method_4_code 22 = .ok (.istore 4, 2) := by decide +kernel
theorem d_prog_19_method_4_57 : decode prog_19_method_4_code 57 = .ok (.aload_n 0, 1) := by decide +kernel
theorem d_prog_19_method_4_58 : decode prog_19_method_4_code 58 = .ok (.aload_n 1, 1) := by decide +kernel
theorem d_prog_19_method_4_59 : decode prog_19_method_4_code 59 = .ok (.iconst 0, 1) := by decide +kernel
theorem d_prog_19_method_4_60 : decode prog_19_method_4_code 60 = .ok (.invokevirtual 43, 3) := by decide +kernel
theorem d_prog_19_method_4_63 : decode prog_19_method_4_code 63 = .ok (.putfield 9, 3) := by decide +kernel
theorem d_prog_19_method_4_66 : decode prog_19_method_4_code 66 = .ok (.return_, 1) := by decide +kernel
theorem d_prog_19_method_3_0 : decode prog_19_method_3_code 0 = .ok (.iload_n 1, 1) := by decide +kernel
theorem d_prog_19_method_3_1 : decode prog_19_method_3_code 1 = .ok (.ifCond .eq 10, 3) := by decide +kernel
theorem d_prog_19_method_3_11 : decode prog_19_method_3_code 11 = .ok (.aload_n 0, 1) := by decide +kernel
theorem d_prog_19_method_3_12 : decode prog_19_method_3_code 12 = .ok (.getfield 29, 3) := by decide +kernel
theorem d_prog_19_method_3_15 : decode prog_19_method_3_code 15 = .ok (.areturn, 1) := by decide +kernel
theorem d_prog_19_method_4_4 : decode prog_19_method_4_code 4 = .ok (.aload_n 0, 1) := by decide +kernel
theorem d_prog_19_method_4_5 : decode prog_19_method_4_code 5 = .ok (.getfield 21, 3) := by decide +kernel
theorem d_prog_19_method_4_8 : decode prog_19_method_4_code 8 = .ok (.goto 7, 3) := by decide +kernel
theorem d_prog_19_method_3_4 : decode prog_19_method_3_code 4 = .ok (.aload_n 0, 1) := by decide +kernel
theorem d_prog_19_method_3_5 : decode prog_19_method_3_code 5 = .ok (.getfield 21, 3) := by decide +kernel
theorem d_prog_19_method_3_8 : decode prog_19_method_3_code 8 = .ok (.goto 7, 3) := by decide +kernel
theorem d_method_6_0 : decode method_6_code 0 = .ok (.iload_n 2, 1) := by decide +kernel
theorem d_method_6_1 : decode method_6_code 1 = .ok (.ifCond .eq 14, 3) := by decide +kernel
theorem d_method_6_4 : decode method_6_code 4 = .ok (.iload_n 0, 1) := by decide +kernel
theorem d_method_6_5 : decode method_6_code 5 = .ok (.iload_n 1, 1) := by decide +kernel
theorem d_method_6_6 : decode method_6_code 6 = .ok (.iload_n 3, 1) := by decide +kernel
theorem d_method_6_7 : decode method_6_code 7 = .ok (.iload 4, 2) := by decide +kernel
theorem d_method_6_9 : decode method_6_code 9 = .ok (.invokestatic 54, 3) := by decide +kernel
theorem d_method_6_12 : decode method_6_code 12 = .ok (.goto 11, 3) := by decide +kernel
theorem d_method_6_23 : decode method_6_code 23 = .ok (.ireturn, 1) := by decide +kernel
theorem d_method_7_0 : decode method_7_code 0 = .ok (.iload 4, 2) := by decide +kernel
theorem d_method_7_2 : decode method_7_code 2 = .ok (.iload_n 3, 1) := by decide +kernel
theorem d_method_7_3 : decode method_7_code 3 = .ok (.if_icmp .ne 5, 3) := by decide +kernel
theorem d_method_7_6 : decode method_7_code 6 = .ok (.iconst 0, 1) := by decide +kernel
theorem d_method_7_7 : decode method_7_code 7 = .ok (.ireturn, 1) := by decide +kernel
theorem d_method_7_8 : decode method_7_code 8 = .ok (.iload_n 0, 1) := by decide +kernel
theorem d_method_7_9 : decode method_7_code 9 = .ok (.iload_n 1, 1) := by decide +kernel
theorem d_method_7_10 : decode method_7_code 10 = .ok (.iload_n 2, 1) := by decide +kernel
theorem d_method_7_11 : decode method_7_code 11 = .ok (.iload_n 3, 1) := by decide +kernel
theorem d_method_7_12 : decode method_7_code 12 = .ok (.iload 4, 2) := by decide +kernel
theorem d_method_7_14 : decode method_7_code 14 = .ok (.invokestatic 62, 3) := by decide +kernel
theorem wd_141 {Z : State} {a0 : Array Value} (hw : HwT Z a0) : (Jvm.Cond.methodLink "com/example/eccentra/eccentra/MainVertexDistancesPinLaw" (62 : Nat) ({ cls := "com/example/eccentra/eccentra/MainVertexDistancesPinLaw", name := "step", desc := "(IZZII)Z" } : Jvm.MethodName)).before a0 Z = true := hw _ (List.mem_of_getElem? (i := 141) rfl)
theorem wd_143 {Z : State} {a0 : Array Value} (hw : HwT Z a0) : (Jvm.Cond.code ({ cls := "com/example/eccentra/eccentra/MainVertexDistancesPinLaw", name := "step", desc := "(IZZII)Z" } : Jvm.MethodName) method_6_code (5 : Nat) (Option.some Jvm.ClassFile.FieldType.boolean)).before a0 Z = true := hw _ (List.mem_of_getElem? (i := 143) rfl)
theorem pd_8 : parseMethodDescriptor "(IZZII)Z" = some ⟨[.int, .boolean, .boolean, .int, .int], some .boolean⟩ := by decide +kernel
theorem wd_142 {Z : State} {a0 : Array Value} (hw : HwT Z a0) : (Jvm.Cond.static ({ cls := "com/example/eccentra/eccentra/MainVertexDistancesPinLaw", name := "step", desc := "(IZZII)Z" } : Jvm.MethodName)).before a0 Z = true := hw _ (List.mem_of_getElem? (i := 142) rfl)
theorem d_method_7_17 : decode method_7_code 17 = .ok (.ifCond .eq 5, 3) := by decide +kernel
theorem d_method_7_22 : decode method_7_code 22 = .ok (.iconst 3, 1) := by decide +kernel
theorem d_method_7_23 : decode method_7_code 23 = .ok (.iload_n 3, 1) := by decide +kernel
theorem d_method_7_24 : decode method_7_code 24 = .ok (.isub, 1) := by decide +kernel
theorem d_method_7_25 : decode method_7_code 25 = .ok (.iload 4, 2) := by decide +kernel
theorem d_method_7_27 : decode method_7_code 27 = .ok (.isub, 1) := by decide +kernel
theorem d_method_7_28 : decode method_7_code 28 = .ok (.istore 5, 2) := by decide +kernel
theorem d_method_7_30 : decode method_7_code 30 = .ok (.iload_n 0, 1) := by decide +kernel
theorem d_method_7_31 : decode method_7_code 31 = .ok (.iload_n 1, 1) := by decide +kernel
theorem d_method_7_32 : decode method_7_code 32 = .ok (.iload_n 2, 1) := by decide +kernel
theorem d_method_7_33 : decode method_7_code 33 = .ok (.iload_n 3, 1) := by decide +kernel
theorem d_method_7_34 : decode method_7_code 34 = .ok (.iload 5, 2) := by decide +kernel
theorem d_method_7_36 : decode method_7_code 36 = .ok (.invokestatic 62, 3) := by decide +kernel
theorem d_method_7_39 : decode method_7_code 39 = .ok (.ifCond .eq 18, 3) := by decide +kernel
theorem d_method_7_57 : decode method_7_code 57 = .ok (.iconst (-1), 1) := by decide +kernel
theorem d_method_7_58 : decode method_7_code 58 = .ok (.ireturn, 1) := by decide +kernel
theorem d_method_7_42 : decode method_7_code 42 = .ok (.iload_n 0, 1) := by decide +kernel
theorem d_method_7_43 : decode method_7_code 43 = .ok (.iload_n 1, 1) := by decide +kernel
theorem d_method_7_44 : decode method_7_code 44 = .ok (.iload_n 2, 1) := by decide +kernel
theorem d_method_7_45 : decode method_7_code 45 = .ok (.iload 5, 2) := by decide +kernel
theorem d_method_7_47 : decode method_7_code 47 = .ok (.iload 4, 2) := by decide +kernel
theorem d_method_7_49 : decode method_7_code 49 = .ok (.invokestatic 62, 3) := by decide +kernel
theorem d_method_7_52 : decode method_7_code 52 = .ok (.ifCond .eq 5, 3) := by decide +kernel
theorem d_method_7_55 : decode method_7_code 55 = .ok (.iconst 2, 1) := by decide +kernel
theorem d_method_7_56 : decode method_7_code 56 = .ok (.ireturn, 1) := by decide +kernel
theorem d_method_7_20 : decode method_7_code 20 = .ok (.iconst 1, 1) := by decide +kernel
theorem d_method_7_21 : decode method_7_code 21 = .ok (.ireturn, 1) := by decide +kernel
theorem d_method_8_0 : decode method_8_code 0 = .ok (.aload_n 0, 1) := by decide +kernel
theorem d_method_8_1 : decode method_8_code 1 = .ok (.iconst 0, 1) := by decide +kernel
theorem d_method_8_2 : decode method_8_code 2 = .ok (.iaload, 1) := by decide +kernel
theorem d_method_8_3 : decode method_8_code 3 = .ok (.iload_n 1, 1) := by decide +kernel
theorem d_method_8_4 : decode method_8_code 4 = .ok (.iload_n 2, 1) := by decide +kernel
theorem d_method_8_5 : decode method_8_code 5 = .ok (.iload_n 3, 1) := by decide +kernel
theorem d_method_8_6 : decode method_8_code 6 = .ok (.iload 4, 2) := by decide +kernel
theorem d_method_8_8 : decode method_8_code 8 = .ok (.iconst 0, 1) := by decide +kernel
theorem d_method_8_9 : decode method_8_code 9 = .ok (.invokestatic 66, 3) := by decide +kernel
theorem wd_138 {Z : State} {a0 : Array Value} (hw : HwT Z a0) : (Jvm.Cond.methodLink "com/example/eccentra/eccentra/MainVertexDistancesPinLaw" (66 : Nat) ({ cls := "com/example/eccentra/eccentra/MainVertexDistancesPinLaw", name := "expected", desc := "(IZZII)I" } : Jvm.MethodName)).before a0 Z = true := hw _ (List.mem_of_getElem? (i := 138) rfl)
theorem wd_140 {Z : State} {a0 : Array Value} (hw : HwT Z a0) : (Jvm.Cond.code ({ cls := "com/example/eccentra/eccentra/MainVertexDistancesPinLaw", name := "expected", desc := "(IZZII)I" } : Jvm.MethodName) method_7_code (6 : Nat) (Option.some Jvm.ClassFile.FieldType.int)).before a0 Z = true := hw _ (List.mem_of_getElem? (i := 140) rfl)
theorem pd_9 : parseMethodDescriptor "(IZZII)I" = some ⟨[.int, .boolean, .boolean, .int, .int], some .int⟩ := by decide +kernel
theorem wd_139 {Z : State} {a0 : Array Value} (hw : HwT Z a0) : (Jvm.Cond.static ({ cls := "com/example/eccentra/eccentra/MainVertexDistancesPinLaw", name := "expected", desc := "(IZZII)I" } : Jvm.MethodName)).before a0 Z = true := hw _ (List.mem_of_getElem? (i := 139) rfl)
theorem d_method_8_12 : decode method_8_code 12 = .ok (.if_icmp .ne 37, 3) := by decide +kernel
theorem d_method_8_15 : decode method_8_code 15 = .ok (.aload_n 0, 1) := by decide +kernel
theorem d_method_8_16 : decode method_8_code 16 = .ok (.iconst 1, 1) := by decide +kernel
theorem d_method_8_17 : decode method_8_code 17 = .ok (.iaload, 1) := by decide +kernel
theorem d_method_8_18 : decode method_8_code 18 = .ok (.iload_n 1, 1) := by decide +kernel
theorem d_method_8_19 : decode method_8_code 19 = .ok (.iload_n 2, 1) := by decide +kernel
theorem d_method_8_20 : decode method_8_code 20 = .ok (.iload_n 3, 1) := by decide +kernel
theorem d_method_8_21 : decode method_8_code 21 = .ok (.iload 4, 2) := by decide +kernel
theorem d_method_8_23 : decode method_8_code 23 = .ok (.iconst 1, 1) := by decide +kernel
theorem d_method_8_24 : decode method_8_code 24 = .ok (.invokestatic 66, 3) := by decide +kernel
theorem d_method_8_27 : decode method_8_code 27 = .ok (.if_icmp .ne 22, 3) := by decide +kernel
theorem d_method_8_30 : decode method_8_code 30 = .ok (.aload_n 0, 1) := by decide +kernel
theorem d_method_8_31 : decode method_8_code 31 = .ok (.iconst 2, 1) := by decide +kernel
theorem d_method_8_32 : decode method_8_code 32 = .ok (.iaload, 1) := by decide +kernel
theorem d_method_8_33 : decode method_8_code 33 = .ok (.iload_n 1, 1) := by decide +kernel
theorem d_method_8_34 : decode method_8_code 34 = .ok (.iload_n 2, 1) := by decide +kernel
theorem d_method_8_35 : decode method_8_code 35 = .ok (.iload_n 3, 1) := by decide +kernel
theorem d_method_8_36 : decode method_8_code 36 = .ok (.iload 4, 2) := by decide +kernel
theorem d_method_8_38 : decode method_8_code 38 = .ok (.iconst 2, 1) := by decide +kernel
theorem d_method_8_39 : decode method_8_code 39 = .ok (.invokestatic 66, 3) := by decide +kernel
theorem d_method_8_42 : decode method_8_code 42 = .ok (.if_icmp .ne 7, 3) := by decide +kernel
theorem d_method_8_45 : decode method_8_code 45 = .ok (.iconst 1, 1) := by decide +kernel
theorem d_method_8_46 : decode method_8_code 46 = .ok (.goto 4, 3) := by decide +kernel
theorem d_method_8_50 : decode method_8_code 50 = .ok (.ireturn, 1) := by decide +kernel
theorem d_method_6_15 : decode method_6_code 15 = .ok (.iload_n 0, 1) := by decide +kernel
theorem d_method_6_16 : decode method_6_code 16 = .ok (.iload_n 1, 1) := by decide +kernel
theorem d_method_6_17 : decode method_6_code 17 = .ok (.iload 4, 2) := by decide +kernel
theorem d_method_6_19 : decode method_6_code 19 = .ok (.iload_n 3, 1) := by decide +kernel
theorem d_method_6_20 : decode method_6_code 20 = .ok (.invokestatic 54, 3) := by decide +kernel
theorem wd_0 {Z : State} {a0 : Array Value} (hw : HwT Z a0) : (Jvm.Cond.constant "com/example/eccentra/eccentra/MainVertexDistancesPinLaw" (7 : Nat) (2147483647 : Int32)).before a0 Z = true := hw _ (List.mem_of_getElem? (i := 0) rfl)
theorem wd_2 {Z : State} {a0 : Array Value} (hw : HwT Z a0) : (Jvm.Cond.methodLink "com/example/eccentra/eccentra/MainVertexDistancesPinLaw" (8 : Nat) ({ cls := "com/example/eccentra/eccentra/MainVertexDistancesPinLaw", name := "fill", desc := "(IZZI[II)I" } : Jvm.MethodName)).before a0 Z = true := hw _ (List.mem_of_getElem? (i := 2) rfl)
theorem wd_5 {Z : State} {a0 : Array Value} (hw : HwT Z a0) : (Jvm.Cond.code ({ cls := "com/example/eccentra/eccentra/MainVertexDistancesPinLaw", name := "fill", desc := "(IZZI[II)I" } : Jvm.MethodName) method_5_code (7 : Nat) (Option.some Jvm.ClassFile.FieldType.int)).before a0 Z = true := hw _ (List.mem_of_getElem? (i := 5) rfl)
theorem pd_10 : parseMethodDescriptor "(IZZI[II)I" = some ⟨[.int, .boolean, .boolean, .int, (.array .int), .int], some .int⟩ := by decide +kernel
theorem wd_3 {Z : State} {a0 : Array Value} (hw : HwT Z a0) : (Jvm.Cond.static ({ cls := "com/example/eccentra/eccentra/MainVertexDistancesPinLaw", name := "fill", desc := "(IZZI[II)I" } : Jvm.MethodName)).before a0 Z = true := hw _ (List.mem_of_getElem? (i := 3) rfl)
theorem wd_12 {Z : State} {a0 : Array Value} (hw : HwT Z a0) : (Jvm.Cond.classLink "com/example/eccentra/eccentra/MainVertexDistancesPinLaw" (14 : Nat) "com/example/eccentra/eccentra/Graph").before a0 Z = true := hw _ (List.mem_of_getElem? (i := 12) rfl)
theorem wd_15 {Z : State} {a0 : Array Value} (hw : HwT Z a0) : (Jvm.Cond.arrayClass Jvm.ClassFile.FieldType.long).before a0 Z = true := hw _ (List.mem_of_getElem? (i := 15) rfl)
theorem wd_16 {Z : State} {a0 : Array Value} (hw : HwT Z a0) : (Jvm.Cond.constantLong "com/example/eccentra/eccentra/MainVertexDistancesPinLaw" (16 : Nat) (2 : Int64)).before a0 Z = true := hw _ (List.mem_of_getElem? (i := 16) rfl)
theorem wd_17 {Z : State} {a0 : Array Value} (hw : HwT Z a0) : (Jvm.Cond.methodLink "com/example/eccentra/eccentra/MainVertexDistancesPinLaw" (18 : Nat) ({ cls := "com/example/eccentra/eccentra/Graph", name := "<init>", desc := "([JZ[I[I[I[I)V" } : Jvm.MethodName)).before a0 Z = true := hw _ (List.mem_of_getElem? (i := 17) rfl)
theorem wd_19 {Z : State} {a0 : Array Value} (hw : HwT Z a0) : (Jvm.Cond.code ({ cls := "com/example/eccentra/eccentra/Graph", name := "<init>", desc := "([JZ[I[I[I[I)V" } : Jvm.MethodName) prog_7_method_1_code (7 : Nat) (Option.none : Option Jvm.ClassFile.FieldType)).before a0 Z = true := hw _ (List.mem_of_getElem? (i := 19) rfl)
theorem pd_11 : parseMethodDescriptor "([JZ[I[I[I[I)V" = some ⟨[(.array .long), .boolean, (.array .int), (.array .int), (.array .int), (.array .int)], none⟩ := by decide +kernel
theorem wd_18 {Z : State} {a0 : Array Value} (hw : HwT Z a0) : (Jvm.Cond.instanceMethod ({ cls := "com/example/eccentra/eccentra/Graph", name := "<init>", desc := "([JZ[I[I[I[I)V" } : Jvm.MethodName)).before a0 Z = true := hw _ (List.mem_of_getElem? (i := 18) rfl)
theorem wd_35 {Z : State} {a0 : Array Value} (hw : HwT Z a0) : (Jvm.Cond.classLink "com/example/eccentra/eccentra/MainVertexDistancesPinLaw" (21 : Nat) "com/example/eccentra/eccentra/MainVertex").before a0 Z = true := hw _ (List.mem_of_getElem? (i := 35) rfl)
theorem wd_37 {Z : State} {a0 : Array Value} (hw : HwT Z a0) : (Jvm.Cond.initialized "com/example/eccentra/eccentra/MainVertex").before a0 Z = true := hw _ (List.mem_of_getElem? (i := 37) rfl)
theorem wd_38 {Z : State} {a0 : Array Value} (hw : HwT Z a0) : (Jvm.Cond.methodLink "com/example/eccentra/eccentra/MainVertexDistancesPinLaw" (23 : Nat) ({ cls := "com/example/eccentra/eccentra/MainVertex", name := "<init>", desc := "(Lcom/example/eccentra/eccentra/Graph;)V" } : Jvm.MethodName)).before a0 Z = true := hw _ (List.mem_of_getElem? (i := 38) rfl)
theorem wd_40 {Z : State} {a0 : Array Value} (hw : HwT Z a0) : (Jvm.Cond.code ({ cls := "com/example/eccentra/eccentra/MainVertex", name := "<init>", desc := "(Lcom/example/eccentra/eccentra/Graph;)V" } : Jvm.MethodName) prog_19_method_1_code (2 : Nat) (Option.none : Option Jvm.ClassFile.FieldType)).before a0 Z = true := hw _ (List.mem_of_getElem? (i := 40) rfl)
theorem pd_12 : parseMethodDescriptor "(Lcom/example/eccentra/eccentra/Graph;)V" = some ⟨[(.object "com/example/eccentra/eccentra/Graph")], none⟩ := by decide +kernel
theorem wd_39 {Z : State} {a0 : Array Value} (hw : HwT Z a0) : (Jvm.Cond.instanceMethod ({ cls := "com/example/eccentra/eccentra/MainVertex", name := "<init>", desc := "(Lcom/example/eccentra/eccentra/Graph;)V" } : Jvm.MethodName)).before a0 Z = true := hw _ (List.mem_of_getElem? (i := 39) rfl)
theorem wd_58 {Z : State} {a0 : Array Value} (hw : HwT Z a0) : (Jvm.Cond.classLink "com/example/eccentra/eccentra/MainVertexDistancesPinLaw" (26 : Nat) "com/example/eccentra/eccentra/BreadthFirst").before a0 Z = true := hw _ (List.mem_of_getElem? (i := 58) rfl)
theorem wd_61 {Z : State} {a0 : Array Value} (hw : HwT Z a0) : (Jvm.Cond.methodLink "com/example/eccentra/eccentra/MainVertexDistancesPinLaw" (28 : Nat) ({ cls := "com/example/eccentra/eccentra/BreadthFirst", name := "<init>", desc := "(Lcom/example/eccentra/eccentra/Graph;)V" } : Jvm.MethodName)).before a0 Z = true := hw _ (List.mem_of_getElem? (i := 61) rfl)
theorem wd_63 {Z : State} {a0 : Array Value} (hw : HwT Z a0) : (Jvm.Cond.code ({ cls := "com/example/eccentra/eccentra/BreadthFirst", name := "<init>", desc := "(Lcom/example/eccentra/eccentra/Graph;)V" } : Jvm.MethodName) prog_3_method_1_code (2 : Nat) (Option.none : Option Jvm.ClassFile.FieldType)).before a0 Z = true := hw _ (List.mem_of_getElem? (i := 63) rfl)
theorem wd_62 {Z : State} {a0 : Array Value} (hw : HwT Z a0) : (Jvm.Cond.instanceMethod ({ cls := "com/example/eccentra/eccentra/BreadthFirst", name := "<init>", desc := "(Lcom/example/eccentra/eccentra/Graph;)V" } : Jvm.MethodName)).before a0 Z = true := hw _ (List.mem_of_getElem? (i := 62) rfl)
theorem wd_78 {Z : State} {a0 : Array Value} (hw : HwT Z a0) : (Jvm.Cond.methodLink "com/example/eccentra/eccentra/MainVertexDistancesPinLaw" (29 : Nat) ({ cls := "com/example/eccentra/eccentra/BreadthFirst", name := "search", desc := "(IZ)I" } : Jvm.MethodName)).before a0 Z = true := hw _ (List.mem_of_getElem? (i := 78) rfl)
theorem wd_81 {Z : State} {a0 : Array Value} (hw : HwT Z a0) : (Jvm.Cond.selects "com/example/eccentra/eccentra/BreadthFirst" ({ cls := "com/example/eccentra/eccentra/BreadthFirst", name := "search", desc := "(IZ)I" } : Jvm.MethodName) ({ cls := "com/example/eccentra/eccentra/BreadthFirst", name := "search", desc := "(IZ)I" } : Jvm.MethodName)).before a0 Z = true := hw _ (List.mem_of_getElem? (i := 81) rfl)
theorem wd_82 {Z : State} {a0 : Array Value} (hw : HwT Z a0) : (Jvm.Cond.code ({ cls := "com/example/eccentra/eccentra/BreadthFirst", name := "search", desc := "(IZ)I" } : Jvm.MethodName) prog_3_method_2_code (3 : Nat) (Option.some Jvm.ClassFile.FieldType.int)).before a0 Z = true := hw _ (List.mem_of_getElem? (i := 82) rfl)
theorem pd_13 : parseMethodDescriptor "(IZ)I" = some ⟨[.int, .boolean], some .int⟩ := by decide +kernel
theorem wd_79 {Z : State} {a0 : Array Value} (hw : HwT Z a0) : (Jvm.Cond.declares ({ cls := "com/example/eccentra/eccentra/BreadthFirst", name := "search", desc := "(IZ)I" } : Jvm.MethodName)).before a0 Z = true := hw _ (List.mem_of_getElem? (i := 79) rfl)
theorem wd_80 {Z : State} {a0 : Array Value} (hw : HwT Z a0) : (Jvm.Cond.instanceMethod ({ cls := "com/example/eccentra/eccentra/BreadthFirst", name := "search", desc := "(IZ)I" } : Jvm.MethodName)).before a0 Z = true := hw _ (List.mem_of_getElem? (i := 80) rfl)
theorem wd_99 {Z : State} {a0 : Array Value} (hw : HwT Z a0) : (Jvm.Cond.methodLink "com/example/eccentra/eccentra/MainVertexDistancesPinLaw" (33 : Nat) ({ cls := "com/example/eccentra/eccentra/MainVertex", name := "keep", desc := "(Lcom/example/eccentra/eccentra/BreadthFirst;Z)V" } : Jvm.MethodName)).before a0 Z = true := hw _ (List.mem_of_getElem? (i := 99) rfl)
theorem wd_102 {Z : State} {a0 : Array Value} (hw : HwT Z a0) : (Jvm.Cond.selects "com/example/eccentra/eccentra/MainVertex" ({ cls := "com/example/eccentra/eccentra/MainVertex", name := "keep", desc := "(Lcom/example/eccentra/eccentra/BreadthFirst;Z)V" } : Jvm.MethodName) ({ cls := "com/example/eccentra/eccentra/MainVertex", name := "keep", desc := "(Lcom/example/eccentra/eccentra/BreadthFirst;Z)V" } : Jvm.MethodName)).before a0 Z = true := hw _ (List.mem_of_getElem? (i := 102) rfl)
theorem wd_103 {Z : State} {a0 : Array Value} (hw : HwT Z a0) : (Jvm.Cond.code ({ cls := "com/example/eccentra/eccentra/MainVertex", name := "keep", desc := "(Lcom/example/eccentra/eccentra/BreadthFirst;Z)V" } : Jvm.MethodName) prog_19_method_4_code (6 : Nat) (Option.none : Option Jvm.ClassFile.FieldType)).before a0 Z = true := hw _ (List.mem_of_getElem? (i := 103) rfl)
theorem pd_14 : parseMethodDescriptor "(Lcom/example/eccentra/eccentra/BreadthFirst;Z)V" = some ⟨[(.object "com/example/eccentra/eccentra/BreadthFirst"), .boolean], none⟩ := by decide +kernel
theorem wd_100 {Z : State} {a0 : Array Value} (hw : HwT Z a0) : (Jvm.Cond.declares ({ cls := "com/example/eccentra/eccentra/MainVertex", name := "keep", desc := "(Lcom/example/eccentra/eccentra/BreadthFirst;Z)V" } : Jvm.MethodName)).before a0 Z = true := hw _ (List.mem_of_getElem? (i := 100) rfl)
theorem wd_101 {Z : State} {a0 : Array Value} (hw : HwT Z a0) : (Jvm.Cond.instanceMethod ({ cls := "com/example/eccentra/eccentra/MainVertex", name := "keep", desc := "(Lcom/example/eccentra/eccentra/BreadthFirst;Z)V" } : Jvm.MethodName)).before a0 Z = true := hw _ (List.mem_of_getElem? (i := 101) rfl)
theorem wd_130 {Z : State} {a0 : Array Value} (hw : HwT Z a0) : (Jvm.Cond.methodLink "com/example/eccentra/eccentra/MainVertexDistancesPinLaw" (37 : Nat) ({ cls := "com/example/eccentra/eccentra/MainVertex", name := "distances", desc := "(Z)[I" } : Jvm.MethodName)).before a0 Z = true := hw _ (List.mem_of_getElem? (i := 130) rfl)
theorem wd_133 {Z : State} {a0 : Array Value} (hw : HwT Z a0) : (Jvm.Cond.selects "com/example/eccentra/eccentra/MainVertex" ({ cls := "com/example/eccentra/eccentra/MainVertex", name := "distances", desc := "(Z)[I" } : Jvm.MethodName) ({ cls := "com/example/eccentra/eccentra/MainVertex", name := "distances", desc := "(Z)[I" } : Jvm.MethodName)).before a0 Z = true := hw _ (List.mem_of_getElem? (i := 133) rfl)
theorem wd_134 {Z : State} {a0 : Array Value} (hw : HwT Z a0) : (Jvm.Cond.code ({ cls := "com/example/eccentra/eccentra/MainVertex", name := "distances", desc := "(Z)[I" } : Jvm.MethodName) prog_19_method_3_code (2 : Nat) (Option.some (Jvm.ClassFile.FieldType.array Jvm.ClassFile.FieldType.int))).before a0 Z = true := hw _ (List.mem_of_getElem? (i := 134) rfl)
theorem pd_15 : parseMethodDescriptor "(Z)[I" = some ⟨[.boolean], some (.array .int)⟩ := by decide +kernel
theorem wd_131 {Z : State} {a0 : Array Value} (hw : HwT Z a0) : (Jvm.Cond.declares ({ cls := "com/example/eccentra/eccentra/MainVertex", name := "distances", desc := "(Z)[I" } : Jvm.MethodName)).before a0 Z = true := hw _ (List.mem_of_getElem? (i := 131) rfl)
theorem wd_132 {Z : State} {a0 : Array Value} (hw : HwT Z a0) : (Jvm.Cond.instanceMethod ({ cls := "com/example/eccentra/eccentra/MainVertex", name := "distances", desc := "(Z)[I" } : Jvm.MethodName)).before a0 Z = true := hw _ (List.mem_of_getElem? (i := 132) rfl)
theorem wd_135 {Z : State} {a0 : Array Value} (hw : HwT Z a0) : (Jvm.Cond.methodLink "com/example/eccentra/eccentra/MainVertexDistancesPinLaw" (41 : Nat) ({ cls := "com/example/eccentra/eccentra/MainVertexDistancesPinLaw", name := "matches", desc := "([IIZZI)Z" } : Jvm.MethodName)).before a0 Z = true := hw _ (List.mem_of_getElem? (i := 135) rfl)
theorem wd_137 {Z : State} {a0 : Array Value} (hw : HwT Z a0) : (Jvm.Cond.code ({ cls := "com/example/eccentra/eccentra/MainVertexDistancesPinLaw", name := "matches", desc := "([IIZZI)Z" } : Jvm.MethodName) method_8_code (5 : Nat) (Option.some Jvm.ClassFile.FieldType.boolean)).before a0 Z = true := hw _ (List.mem_of_getElem? (i := 137) rfl)
theorem pd_16 : parseMethodDescriptor "([IIZZI)Z" = some ⟨[(.array .int), .int, .boolean, .boolean, .int], some .boolean⟩ := by decide +kernel
theorem wd_136 {Z : State} {a0 : Array Value} (hw : HwT Z a0) : (Jvm.Cond.static ({ cls := "com/example/eccentra/eccentra/MainVertexDistancesPinLaw", name := "matches", desc := "([IIZZI)Z" } : Jvm.MethodName)).before a0 Z = true := hw _ (List.mem_of_getElem? (i := 136) rfl)
def own_get (xs : List Int32) (j : Int32) : Option Int32 := if j < 0 then none else xs[j.toNatClampNeg]?
def own_set (xs : List Int32) (j v : Int32) : Option (List Int32) := if j < 0 then none else if j.toNatClampNeg < xs.length then some (xs.set j.toNatClampNeg v) else none
theorem own_get_ok {xs : List Int32} {j v : Int32} (h : own_get xs j = some v) : ¬ j < 0 ∧ (xs.map Value.int)[j.toNatClampNeg]? = some (.int v) := by
  by_cases q : j < 0
  · rw [own_get, if_pos q] at h; cases h
  · rw [own_get, if_neg q] at h; exact ⟨q, by rw [List.getElem?_map, h]; rfl⟩
theorem own_set_ok {xs ys : List Int32} {j v : Int32} (h : own_set xs j v = some ys) : ¬ j < 0 ∧ j.toNatClampNeg < (xs.map Value.int).length ∧ (xs.map Value.int).set j.toNatClampNeg (.int v) = ys.map Value.int := by
  by_cases q : j < 0
  · rw [own_set, if_pos q] at h; cases h
  · rw [own_set, if_neg q] at h
    by_cases r : j.toNatClampNeg < xs.length
    · rw [if_pos r] at h; cases h; exact ⟨q, by simpa using r, by rw [List.map_set]⟩
    · rw [if_neg r] at h; cases h
def own_put (e v : Int32) (xs : List Int32) (pos : Int32) : Option (List Int32 × Int32) := if e = 0 then some (xs, pos) else (own_set xs pos v).bind fun ys => some (ys, pos + 1)
theorem own_put_def (e v : Int32) (xs : List Int32) (pos : Int32) : own_put e v xs pos = if e = 0 then some (xs, pos) else (own_set xs pos v).bind fun ys => some (ys, pos + 1) := rfl
def own_fill2 (e v e' v' : Int32) (xs : List Int32) (pos : Int32) : Option (List Int32 × Int32) := (own_put e v xs pos).bind fun r => own_put e' v' r.1 r.2
def own_csr (e01 e02 e10 e12 e20 e21 : Int32) : Option (List Int32 × List Int32) := (own_fill2 e01 1 e02 2 [0, 0, 0, 0, 0, 0] 0).bind fun r0 => (own_fill2 e10 0 e12 2 r0.1 r0.2).bind fun r1 => (own_fill2 e20 0 e21 1 r1.1 r1.2).bind fun r2 => some ([0, r0.2, r1.2, r2.2], r2.1)
def own_reset : Nat → Int32 → Int32 → List Int32 → List Int32 → Option (List Int32)
  | 0, _, _, _, _ => none
  | n + 1, i, cnt, os, ds => if i < cnt then (own_get os i).bind fun v => (own_set ds v (-1)).bind fun ds' => own_reset n (i + 1) cnt os ds' else some ds
theorem own_reset_s (n : Nat) (i cnt : Int32) (os ds : List Int32) : own_reset (n + 1) i cnt os ds = if i < cnt then (own_get os i).bind fun v => (own_set ds v (-1)).bind fun ds' => own_reset n (i + 1) cnt os ds' else some ds := rfl
def own_inner : Nat → Int32 → Int32 → List Int32 → Int32 → Int32 → List Int32 → List Int32 → List Int32 → Int32 → Option (List Int32 × List Int32 × List Int32 × Int32)
  | 0, _, _, _, _, _, _, _, _, _ => none
  | n + 1, arc, en, xt, nx, v, ds, ps, os, tl => if arc < en then (own_get xt arc).bind fun w => (own_get ds w).bind fun dw => if dw = -1 then (own_set ds w nx).bind fun ds' => (own_set ps w v).bind fun ps' => (own_set os tl w).bind fun os' => own_inner n (arc + 1) en xt nx v ds' ps' os' (tl + 1) else own_inner n (arc + 1) en xt nx v ds ps os tl else some (ds, ps, os, tl)
theorem own_inner_s (n : Nat) (arc en : Int32) (xt : List Int32) (nx v : Int32) (ds ps os : List Int32) (tl : Int32) : own_inner (n + 1) arc en xt nx v ds ps os tl = if arc < en then (own_get xt arc).bind fun w => (own_get ds w).bind fun dw => if dw = -1 then (own_set ds w nx).bind fun ds' => (own_set ps w v).bind fun ps' => (own_set os tl w).bind fun os' => own_inner n (arc + 1) en xt nx v ds' ps' os' (tl + 1) else own_inner n (arc + 1) en xt nx v ds ps os tl else some (ds, ps, os, tl) := rfl
def own_outer : Nat → Int32 → List Int32 → List Int32 → List Int32 → List Int32 → List Int32 → Int32 → Option (List Int32 × List Int32 × List Int32 × Int32)
  | 0, _, _, _, _, _, _, _ => none
  | n + 1, hd, xf, xt, ds, ps, os, tl => if hd < tl then (own_get os hd).bind fun v => (own_get ds v).bind fun dv => (own_get xf (v + 1)).bind fun en => (own_get xf v).bind fun bg => (own_inner 4 bg en xt (dv + 1) v ds ps os tl).bind fun r => own_outer n (hd + 1) xf xt r.1 r.2.1 r.2.2.1 r.2.2.2 else some (ds, ps, os, tl)
theorem own_outer_s (n : Nat) (hd : Int32) (xf xt ds ps os : List Int32) (tl : Int32) : own_outer (n + 1) hd xf xt ds ps os tl = if hd < tl then (own_get os hd).bind fun v => (own_get ds v).bind fun dv => (own_get xf (v + 1)).bind fun en => (own_get xf v).bind fun bg => (own_inner 4 bg en xt (dv + 1) v ds ps os tl).bind fun r => own_outer n (hd + 1) xf xt r.1 r.2.1 r.2.2.1 r.2.2.2 else some (ds, ps, os, tl) := rfl
def own_search (xf xt : List Int32) (s : Int32) (ds ps os : List Int32) (cnt : Int32) : Option (List Int32 × List Int32 × List Int32 × Int32) := (own_reset 5 0 cnt os ds).bind fun ds1 => (own_set ds1 s 0).bind fun ds2 => (own_set os 0 s).bind fun os1 => (own_outer 5 0 xf xt ds2 ps os1 1).bind fun r => (own_get r.2.2.1 (r.2.2.2 - 1)).bind fun z => (own_get r.1 z).bind fun _ => some r
def own_kloop : Nat → Int32 → Int32 → List Int32 → List Int32 → List Int32 → Option (List Int32)
  | 0, _, _, _, _, _ => none
  | n + 1, i, cnt, os, ds, ks => if i < cnt then (own_get os i).bind fun v => (own_get ds v).bind fun dv => (own_set ks v dv).bind fun ks' => own_kloop n (i + 1) cnt os ds ks' else some ks
theorem own_kloop_s (n : Nat) (i cnt : Int32) (os ds ks : List Int32) : own_kloop (n + 1) i cnt os ds ks = if i < cnt then (own_get os i).bind fun v => (own_get ds v).bind fun dv => (own_set ks v dv).bind fun ks' => own_kloop n (i + 1) cnt os ds ks' else some ks := rfl
def own_keep (ds os : List Int32) (cnt : Int32) : Option (List Int32) := (own_kloop 5 0 cnt os ds [-1, -1, -1]).bind fun ks => (own_get os 0).bind fun _ => some ks
def own_adj (e01 e02 e10 e12 e20 e21 : Int32) (u v : Int32) : Int32 := if u = 0 then (if v = 1 then e01 else e02) else if u = 1 then (if v = 0 then e10 else e12) else (if v = 0 then e20 else e21)
def own_exp (A : Int32 → Int32 → Int32) (s v : Int32) : Int32 := if v = s then 0 else if A s v = 0 then (if A s (3 - s - v) = 0 then -1 else if A (3 - s - v) v = 0 then -1 else 2) else 1
def own_c1 (e01 e02 e10 e12 e20 e21 : Int32) : List Int32 × List Int32 := (own_csr e01 e02 e10 e12 e20 e21).getD ([], [])
def own_r (c : List Int32 × List Int32) (s : Int32) (r : List Int32 × List Int32 × List Int32 × Int32) : List Int32 × List Int32 × List Int32 × Int32 := (own_search c.1 c.2 s r.1 r.2.1 r.2.2.1 r.2.2.2).getD ([], [], [], 0)
abbrev own_r0 : List Int32 × List Int32 × List Int32 × Int32 := ([-1, -1, -1], [0, 0, 0], [0, 0, 0], 0)
def own_OK (e01 e02 e10 e12 e20 e21 s1 s2 : Int32) : Prop :=
  own_csr e01 e02 e10 e12 e20 e21 = some (own_c1 e01 e02 e10 e12 e20 e21) ∧ own_csr e10 e20 e01 e21 e02 e12 = some (own_c1 e10 e20 e01 e21 e02 e12) ∧
  own_search (own_c1 e01 e02 e10 e12 e20 e21).1 (own_c1 e01 e02 e10 e12 e20 e21).2 s1 [-1, -1, -1] [0, 0, 0] [0, 0, 0] 0 = some (own_r (own_c1 e01 e02 e10 e12 e20 e21) s1 own_r0) ∧
  own_keep (own_r (own_c1 e01 e02 e10 e12 e20 e21) s1 own_r0).1 (own_r (own_c1 e01 e02 e10 e12 e20 e21) s1 own_r0).2.2.1 (own_r (own_c1 e01 e02 e10 e12 e20 e21) s1 own_r0).2.2.2 = some [own_exp (own_adj e01 e02 e10 e12 e20 e21) s1 0, own_exp (own_adj e01 e02 e10 e12 e20 e21) s1 1, own_exp (own_adj e01 e02 e10 e12 e20 e21) s1 2] ∧
  own_search (own_c1 e10 e20 e01 e21 e02 e12).1 (own_c1 e10 e20 e01 e21 e02 e12).2 s2 (own_r (own_c1 e01 e02 e10 e12 e20 e21) s1 own_r0).1 (own_r (own_c1 e01 e02 e10 e12 e20 e21) s1 own_r0).2.1 (own_r (own_c1 e01 e02 e10 e12 e20 e21) s1 own_r0).2.2.1 (own_r (own_c1 e01 e02 e10 e12 e20 e21) s1 own_r0).2.2.2 = some (own_r (own_c1 e10 e20 e01 e21 e02 e12) s2 (own_r (own_c1 e01 e02 e10 e12 e20 e21) s1 own_r0)) ∧
  own_keep (own_r (own_c1 e10 e20 e01 e21 e02 e12) s2 (own_r (own_c1 e01 e02 e10 e12 e20 e21) s1 own_r0)).1 (own_r (own_c1 e10 e20 e01 e21 e02 e12) s2 (own_r (own_c1 e01 e02 e10 e12 e20 e21) s1 own_r0)).2.2.1 (own_r (own_c1 e10 e20 e01 e21 e02 e12) s2 (own_r (own_c1 e01 e02 e10 e12 e20 e21) s1 own_r0)).2.2.2 = some [own_exp (own_adj e10 e20 e01 e21 e02 e12) s2 0, own_exp (own_adj e10 e20 e01 e21 e02 e12) s2 1, own_exp (own_adj e10 e20 e01 e21 e02 e12) s2 2]
instance (e01 e02 e10 e12 e20 e21 s1 s2 : Int32) : Decidable (own_OK e01 e02 e10 e12 e20 e21 s1 s2) := by unfold own_OK; infer_instance
def own_bi (b : Bool) : Int32 := if b then 1 else 0
set_option maxRecDepth 65536 in
theorem own_T1 : ∀ (b01 b02 b10 b12 b20 b21 : Bool) (s1 s2 : Fin 3), own_OK (own_bi b01) (own_bi b02) (own_bi b10) (own_bi b12) (own_bi b20) (own_bi b21) s1.1.toInt32 s2.1.toInt32 := by decide +kernel
def own_min (x y : Int32) : Int32 := if y < x then y else x
theorem own_min_def (x y : Int32) : own_min x y = if y < x then y else x := rfl
def own_max (x y : Int32) : Int32 := if x < y then y else x
theorem own_max_def (x y : Int32) : own_max x y = if x < y then y else x := rfl
theorem c_min (l : Launch) (Z : State) (a0 : Array Value) (hw : HwT Z a0) (x y : Int32) (h : Heap) (n0 : Nat) (hn : n0 ≤ h.size) : Con l Z (⟨"java/lang/Math", "min", "(II)I"⟩ : MethodName) jdk_29_method_69_code 2 (some .int) ({ frames := 0, cells := 0, slots := 0, locals := 0 } : Room) #[(.int x), (.int y)] h n0 (fun r h' => r = some (.int (own_min x y)) ∧ h' = h) := by
  refine ConG.of_W (Ls := #[.val (.int x), .val (.int y)]) (Jvm.Free.JP.mathPlain rfl (by decide +kernel)) hn (fun m => by first | (simp [entryFrame, mkF, argsToLocals, Value.category]; done) | rfl) ?_
  refine W.iloadN 1 d_jdk_29_method_69_0 rfl rfl ?_
  refine W.iloadN 2 d_jdk_29_method_69_1 rfl rfl ?_
  refine W.icmp_gt 9 5 d_jdk_29_method_69_2 rfl rfl ?_ ?_
  · intro hc1001
    refine W.iloadN 10 d_jdk_29_method_69_9 rfl rfl ?_
    exact W.ireturn d_jdk_29_method_69_10 rfl ⟨by rw [own_min_def]; simp [hc1001], rfl⟩ (by decide) (by decide)
  · intro hc1001
    refine W.iloadN 6 d_jdk_29_method_69_5 rfl rfl ?_
    refine W.goto 10 d_jdk_29_method_69_6 rfl ?_
    exact W.ireturn d_jdk_29_method_69_10 rfl ⟨by rw [own_min_def]; simp [hc1001], rfl⟩ (by decide) (by decide)
theorem c_max (l : Launch) (Z : State) (a0 : Array Value) (hw : HwT Z a0) (x y : Int32) (h : Heap) (n0 : Nat) (hn : n0 ≤ h.size) : Con l Z (⟨"java/lang/Math", "max", "(II)I"⟩ : MethodName) jdk_29_method_65_code 2 (some .int) ({ frames := 0, cells := 0, slots := 0, locals := 0 } : Room) #[(.int x), (.int y)] h n0 (fun r h' => r = some (.int (own_max x y)) ∧ h' = h) := by
  refine ConG.of_W (Ls := #[.val (.int x), .val (.int y)]) (Jvm.Free.JP.mathPlain rfl (by decide +kernel)) hn (fun m => by first | (simp [entryFrame, mkF, argsToLocals, Value.category]; done) | rfl) ?_
  refine W.iloadN 1 d_jdk_29_method_65_0 rfl rfl ?_
  refine W.iloadN 2 d_jdk_29_method_65_1 rfl rfl ?_
  refine W.icmp_lt 9 5 d_jdk_29_method_65_2 rfl rfl ?_ ?_
  · intro hc1002
    refine W.iloadN 10 d_jdk_29_method_65_9 rfl rfl ?_
    exact W.ireturn d_jdk_29_method_65_10 rfl ⟨by rw [own_max_def]; simp [hc1002], rfl⟩ (by decide) (by decide)
  · intro hc1002
    refine W.iloadN 6 d_jdk_29_method_65_5 rfl rfl ?_
    refine W.goto 10 d_jdk_29_method_65_6 rfl ?_
    exact W.ireturn d_jdk_29_method_65_10 rfl ⟨by rw [own_max_def]; simp [hc1002], rfl⟩ (by decide) (by decide)
def own_h (m : Int32) (k : Int32) : Int32 := if (((m.toUInt32 >>> (k &&& 31).toUInt32).toInt32) &&& (1 : Int32)) = 0 then 0 else 1
theorem own_h_def (m k : Int32) : own_h m k = if (((m.toUInt32 >>> (k &&& 31).toUInt32).toInt32) &&& (1 : Int32)) = 0 then 0 else 1 := rfl
theorem own_h_bi (m k : Int32) : ∃ b : Bool, own_h m k = own_bi b := by
  by_cases q : (((m.toUInt32 >>> (k &&& 31).toUInt32).toInt32) &&& (1 : Int32)) = 0
  · exact ⟨false, by rw [own_h_def, if_pos q]; rfl⟩
  · exact ⟨true, by rw [own_h_def, if_neg q]; rfl⟩
theorem own_h_nar (m k : Int32) : nar .boolean (own_h m k) = own_h m k := by
  by_cases q : (((m.toUInt32 >>> (k &&& 31).toUInt32).toInt32) &&& (1 : Int32)) = 0
  · rw [own_h_def, if_pos q]; rfl
  · rw [own_h_def, if_neg q]; rfl
theorem c_has001 (l : Launch) (Z : State) (a0 : Array Value) (hw : HwT Z a0) (m : Int32) (h : Heap) (n0 : Nat) (hn : n0 ≤ h.size) : Con l Z (⟨"com/example/eccentra/eccentra/MainVertexDistancesPinLaw", "has", "(IZII)Z"⟩ : MethodName) method_3_code 5 (some .boolean) ({ frames := 1, cells := 0, slots := 0, locals := 20 } : Room) #[(.int m), (.int (0 : Int32)), (.int (0 : Int32)), (.int (1 : Int32))] h n0 (fun r h' => r = some (.int (own_h m (1 : Int32))) ∧ h' = h) := by
  refine ConG.of_W (Ls := #[.val (.int m), .val (.int (0 : Int32)), .val (.int (0 : Int32)), .val (.int (1 : Int32)), .unset]) (plainFor_of_name pn_0) hn (fun m => by first | (simp [entryFrame, mkF, argsToLocals, Value.category]; done) | rfl) ?_
  refine W.iloadN 1 d_method_3_0 rfl rfl ?_
  refine W.if_eq 12 4 d_method_3_1 rfl rfl (fun _ => ?_) (fun hc => absurd (by decide) hc)
  refine W.iloadN 13 d_method_3_12 rfl rfl ?_
  refine W.iloadN 14 d_method_3_13 rfl rfl ?_
  refine W.callS (rest := []) (argsL := [(.int (0 : Int32)), (.int (1 : Int32))]) 17 d_method_3_14 rfl (fun hn => (c_min l Z a0 hw (0 : Int32) (1 : Int32) _ n0 hn).post (P := fun r h' => r = some (.int (0 : Int32)) ∧ h' = _) (fun v h' q => q)) (wd_144 hw) (wd_145 hw) (wd_146 hw) (wd_147 hw) (by decide) pd_0 rfl rfl rfl (by decide) 0 (Nat.le_of_ble_eq_true rfl) (by decide) (by decide) (by decide) ?_
  rintro v1003 h1003 ⟨rfl, rfl⟩
  show WG _ _ _ _ _ _ _ _ _ _ _ _ 0 0 17 #[.val (.int m), .val (.int (0 : Int32)), .val (.int (0 : Int32)), .val (.int (1 : Int32)), .unset] [(.int (0 : Int32))]
  refine W.iconst 18 d_method_3_17 rfl (3 : Int32) rfl ?_
  refine W.imul 19 d_method_3_18 rfl (0 : Int32) (by decide) ?_
  refine W.iloadN 20 d_method_3_19 rfl rfl ?_
  refine W.iloadN 21 d_method_3_20 rfl rfl ?_
  refine W.callS (rest := [(.int (0 : Int32))]) (argsL := [(.int (0 : Int32)), (.int (1 : Int32))]) 24 d_method_3_21 rfl (fun hn => (c_max l Z a0 hw (0 : Int32) (1 : Int32) _ n0 hn).post (P := fun r h' => r = some (.int (1 : Int32)) ∧ h' = _) (fun v h' q => q)) (wd_148 hw) (wd_149 hw) (wd_146 hw) (wd_150 hw) (by decide) pd_0 rfl rfl rfl (by decide) 1 (Nat.le_of_ble_eq_true rfl) (by decide) (by decide) (by decide) ?_
  rintro v1004 h1004 ⟨rfl, rfl⟩
  show WG _ _ _ _ _ _ _ _ _ _ _ _ 0 0 24 #[.val (.int m), .val (.int (0 : Int32)), .val (.int (0 : Int32)), .val (.int (1 : Int32)), .unset] [(.int (1 : Int32)), (.int (0 : Int32))]
  refine W.iadd 25 d_method_3_24 rfl (1 : Int32) (by decide) ?_
  refine W.istore 27 d_method_3_25 rfl #[.val (.int m), .val (.int (0 : Int32)), .val (.int (0 : Int32)), .val (.int (1 : Int32)), .val (.int (1 : Int32))] rfl ?_
  refine W.iloadN 28 d_method_3_27 rfl rfl ?_
  refine W.iload 30 d_method_3_28 rfl rfl ?_
  refine W.iushr 31 d_method_3_30 rfl ((m.toUInt32 >>> ((1 : Int32) &&& 31).toUInt32).toInt32) rfl ?_
  refine W.iconst 32 d_method_3_31 rfl (1 : Int32) rfl ?_
  refine W.iand 33 d_method_3_32 rfl (((m.toUInt32 >>> ((1 : Int32) &&& 31).toUInt32).toInt32) &&& (1 : Int32)) rfl ?_
  refine W.if_eq 40 36 d_method_3_33 rfl rfl ?_ ?_
  · intro hc1005
    refine W.iconst 41 d_method_3_40 rfl (0 : Int32) rfl ?_
    exact W.ireturnN (t := .boolean) d_method_3_41 rfl (by simp) (0 : Int32) rfl ⟨by rw [own_h_def, if_pos hc1005], rfl⟩ (by decide) (by decide)
  · intro hc1005
    refine W.iconst 37 d_method_3_36 rfl (1 : Int32) rfl ?_
    refine W.goto 41 d_method_3_37 rfl ?_
    exact W.ireturnN (t := .boolean) d_method_3_41 rfl (by simp) (1 : Int32) rfl ⟨by rw [own_h_def, if_neg hc1005], rfl⟩ (by decide) (by decide)
theorem c_has002 (l : Launch) (Z : State) (a0 : Array Value) (hw : HwT Z a0) (m : Int32) (h : Heap) (n0 : Nat) (hn : n0 ≤ h.size) : Con l Z (⟨"com/example/eccentra/eccentra/MainVertexDistancesPinLaw", "has", "(IZII)Z"⟩ : MethodName) method_3_code 5 (some .boolean) ({ frames := 1, cells := 0, slots := 0, locals := 20 } : Room) #[(.int m), (.int (0 : Int32)), (.int (0 : Int32)), (.int (2 : Int32))] h n0 (fun r h' => r = some (.int (own_h m (2 : Int32))) ∧ h' = h) := by
  refine ConG.of_W (Ls := #[.val (.int m), .val (.int (0 : Int32)), .val (.int (0 : Int32)), .val (.int (2 : Int32)), .unset]) (plainFor_of_name pn_0) hn (fun m => by first | (simp [entryFrame, mkF, argsToLocals, Value.category]; done) | rfl) ?_
  refine W.iloadN 1 d_method_3_0 rfl rfl ?_
  refine W.if_eq 12 4 d_method_3_1 rfl rfl (fun _ => ?_) (fun hc => absurd (by decide) hc)
  refine W.iloadN 13 d_method_3_12 rfl rfl ?_
  refine W.iloadN 14 d_method_3_13 rfl rfl ?_
  refine W.callS (rest := []) (argsL := [(.int (0 : Int32)), (.int (2 : Int32))]) 17 d_method_3_14 rfl (fun hn => (c_min l Z a0 hw (0 : Int32) (2 : Int32) _ n0 hn).post (P := fun r h' => r = some (.int (0 : Int32)) ∧ h' = _) (fun v h' q => q)) (wd_144 hw) (wd_145 hw) (wd_146 hw) (wd_147 hw) (by decide) pd_0 rfl rfl rfl (by decide) 0 (Nat.le_of_ble_eq_true rfl) (by decide) (by decide) (by decide) ?_
  rintro v1006 h1006 ⟨rfl, rfl⟩
  show WG _ _ _ _ _ _ _ _ _ _ _ _ 0 0 17 #[.val (.int m), .val (.int (0 : Int32)), .val (.int (0 : Int32)), .val (.int (2 : Int32)), .unset] [(.int (0 : Int32))]
  refine W.iconst 18 d_method_3_17 rfl (3 : Int32) rfl ?_
  refine W.imul 19 d_method_3_18 rfl (0 : Int32) (by decide) ?_
  refine W.iloadN 20 d_method_3_19 rfl rfl ?_
  refine W.iloadN 21 d_method_3_20 rfl rfl ?_
  refine W.callS (rest := [(.int (0 : Int32))]) (argsL := [(.int (0 : Int32)), (.int (2 : Int32))]) 24 d_method_3_21 rfl (fun hn => (c_max l Z a0 hw (0 : Int32) (2 : Int32) _ n0 hn).post (P := fun r h' => r = some (.int (2 : Int32)) ∧ h' = _) (fun v h' q => q)) (wd_148 hw) (wd_149 hw) (wd_146 hw) (wd_150 hw) (by decide) pd_0 rfl rfl rfl (by decide) 1 (Nat.le_of_ble_eq_true rfl) (by decide) (by decide) (by decide) ?_
  rintro v1007 h1007 ⟨rfl, rfl⟩
  show WG _ _ _ _ _ _ _ _ _ _ _ _ 0 0 24 #[.val (.int m), .val (.int (0 : Int32)), .val (.int (0 : Int32)), .val (.int (2 : Int32)), .unset] [(.int (2 : Int32)), (.int (0 : Int32))]
  refine W.iadd 25 d_method_3_24 rfl (2 : Int32) (by decide) ?_
  refine W.istore 27 d_method_3_25 rfl #[.val (.int m), .val (.int (0 : Int32)), .val (.int (0 : Int32)), .val (.int (2 : Int32)), .val (.int (2 : Int32))] rfl ?_
  refine W.iloadN 28 d_method_3_27 rfl rfl ?_
  refine W.iload 30 d_method_3_28 rfl rfl ?_
  refine W.iushr 31 d_method_3_30 rfl ((m.toUInt32 >>> ((2 : Int32) &&& 31).toUInt32).toInt32) rfl ?_
  refine W.iconst 32 d_method_3_31 rfl (1 : Int32) rfl ?_
  refine W.iand 33 d_method_3_32 rfl (((m.toUInt32 >>> ((2 : Int32) &&& 31).toUInt32).toInt32) &&& (1 : Int32)) rfl ?_
  refine W.if_eq 40 36 d_method_3_33 rfl rfl ?_ ?_
  · intro hc1008
    refine W.iconst 41 d_method_3_40 rfl (0 : Int32) rfl ?_
    exact W.ireturnN (t := .boolean) d_method_3_41 rfl (by simp) (0 : Int32) rfl ⟨by rw [own_h_def, if_pos hc1008], rfl⟩ (by decide) (by decide)
  · intro hc1008
    refine W.iconst 37 d_method_3_36 rfl (1 : Int32) rfl ?_
    refine W.goto 41 d_method_3_37 rfl ?_
    exact W.ireturnN (t := .boolean) d_method_3_41 rfl (by simp) (1 : Int32) rfl ⟨by rw [own_h_def, if_neg hc1008], rfl⟩ (by decide) (by decide)
theorem c_has010 (l : Launch) (Z : State) (a0 : Array Value) (hw : HwT Z a0) (m : Int32) (h : Heap) (n0 : Nat) (hn : n0 ≤ h.size) : Con l Z (⟨"com/example/eccentra/eccentra/MainVertexDistancesPinLaw", "has", "(IZII)Z"⟩ : MethodName) method_3_code 5 (some .boolean) ({ frames := 1, cells := 0, slots := 0, locals := 20 } : Room) #[(.int m), (.int (0 : Int32)), (.int (1 : Int32)), (.int (0 : Int32))] h n0 (fun r h' => r = some (.int (own_h m (1 : Int32))) ∧ h' = h) := by
  refine ConG.of_W (Ls := #[.val (.int m), .val (.int (0 : Int32)), .val (.int (1 : Int32)), .val (.int (0 : Int32)), .unset]) (plainFor_of_name pn_0) hn (fun m => by first | (simp [entryFrame, mkF, argsToLocals, Value.category]; done) | rfl) ?_
  refine W.iloadN 1 d_method_3_0 rfl rfl ?_
  refine W.if_eq 12 4 d_method_3_1 rfl rfl (fun _ => ?_) (fun hc => absurd (by decide) hc)
  refine W.iloadN 13 d_method_3_12 rfl rfl ?_
  refine W.iloadN 14 d_method_3_13 rfl rfl ?_
  refine W.callS (rest := []) (argsL := [(.int (1 : Int32)), (.int (0 : Int32))]) 17 d_method_3_14 rfl (fun hn => (c_min l Z a0 hw (1 : Int32) (0 : Int32) _ n0 hn).post (P := fun r h' => r = some (.int (0 : Int32)) ∧ h' = _) (fun v h' q => q)) (wd_144 hw) (wd_145 hw) (wd_146 hw) (wd_147 hw) (by decide) pd_0 rfl rfl rfl (by decide) 0 (Nat.le_of_ble_eq_true rfl) (by decide) (by decide) (by decide) ?_
  rintro v1009 h1009 ⟨rfl, rfl⟩
  show WG _ _ _ _ _ _ _ _ _ _ _ _ 0 0 17 #[.val (.int m), .val (.int (0 : Int32)), .val (.int (1 : Int32)), .val (.int (0 : Int32)), .unset] [(.int (0 : Int32))]
  refine W.iconst 18 d_method_3_17 rfl (3 : Int32) rfl ?_
  refine W.imul 19 d_method_3_18 rfl (0 : Int32) (by decide) ?_
  refine W.iloadN 20 d_method_3_19 rfl rfl ?_
  refine W.iloadN 21 d_method_3_20 rfl rfl ?_
  refine W.callS (rest := [(.int (0 : Int32))]) (argsL := [(.int (1 : Int32)), (.int (0 : Int32))]) 24 d_method_3_21 rfl (fun hn => (c_max l Z a0 hw (1 : Int32) (0 : Int32) _ n0 hn).post (P := fun r h' => r = some (.int (1 : Int32)) ∧ h' = _) (fun v h' q => q)) (wd_148 hw) (wd_149 hw) (wd_146 hw) (wd_150 hw) (by decide) pd_0 rfl rfl rfl (by decide) 1 (Nat.le_of_ble_eq_true rfl) (by decide) (by decide) (by decide) ?_
  rintro v1010 h1010 ⟨rfl, rfl⟩
  show WG _ _ _ _ _ _ _ _ _ _ _ _ 0 0 24 #[.val (.int m), .val (.int (0 : Int32)), .val (.int (1 : Int32)), .val (.int (0 : Int32)), .unset] [(.int (1 : Int32)), (.int (0 : Int32))]
  refine W.iadd 25 d_method_3_24 rfl (1 : Int32) (by decide) ?_
  refine W.istore 27 d_method_3_25 rfl #[.val (.int m), .val (.int (0 : Int32)), .val (.int (1 : Int32)), .val (.int (0 : Int32)), .val (.int (1 : Int32))] rfl ?_
  refine W.iloadN 28 d_method_3_27 rfl rfl ?_
  refine W.iload 30 d_method_3_28 rfl rfl ?_
  refine W.iushr 31 d_method_3_30 rfl ((m.toUInt32 >>> ((1 : Int32) &&& 31).toUInt32).toInt32) rfl ?_
  refine W.iconst 32 d_method_3_31 rfl (1 : Int32) rfl ?_
  refine W.iand 33 d_method_3_32 rfl (((m.toUInt32 >>> ((1 : Int32) &&& 31).toUInt32).toInt32) &&& (1 : Int32)) rfl ?_
  refine W.if_eq 40 36 d_method_3_33 rfl rfl ?_ ?_
  · intro hc1011
    refine W.iconst 41 d_method_3_40 rfl (0 : Int32) rfl ?_
    exact W.ireturnN (t := .boolean) d_method_3_41 rfl (by simp) (0 : Int32) rfl ⟨by rw [own_h_def, if_pos hc1011], rfl⟩ (by decide) (by decide)
  · intro hc1011
    refine W.iconst 37 d_method_3_36 rfl (1 : Int32) rfl ?_
    refine W.goto 41 d_method_3_37 rfl ?_
    exact W.ireturnN (t := .boolean) d_method_3_41 rfl (by simp) (1 : Int32) rfl ⟨by rw [own_h_def, if_neg hc1011], rfl⟩ (by decide) (by decide)
theorem c_has012 (l : Launch) (Z : State) (a0 : Array Value) (hw : HwT Z a0) (m : Int32) (h : Heap) (n0 : Nat) (hn : n0 ≤ h.size) : Con l Z (⟨"com/example/eccentra/eccentra/MainVertexDistancesPinLaw", "has", "(IZII)Z"⟩ : MethodName) method_3_code 5 (some .boolean) ({ frames := 1, cells := 0, slots := 0, locals := 20 } : Room) #[(.int m), (.int (0 : Int32)), (.int (1 : Int32)), (.int (2 : Int32))] h n0 (fun r h' => r = some (.int (own_h m (5 : Int32))) ∧ h' = h) := by
  refine ConG.of_W (Ls := #[.val (.int m), .val (.int (0 : Int32)), .val (.int (1 : Int32)), .val (.int (2 : Int32)), .unset]) (plainFor_of_name pn_0) hn (fun m => by first | (simp [entryFrame, mkF, argsToLocals, Value.category]; done) | rfl) ?_
  refine W.iloadN 1 d_method_3_0 rfl rfl ?_
  refine W.if_eq 12 4 d_method_3_1 rfl rfl (fun _ => ?_) (fun hc => absurd (by decide) hc)
  refine W.iloadN 13 d_method_3_12 rfl rfl ?_
  refine W.iloadN 14 d_method_3_13 rfl rfl ?_
  refine W.callS (rest := []) (argsL := [(.int (1 : Int32)), (.int (2 : Int32))]) 17 d_method_3_14 rfl (fun hn => (c_min l Z a0 hw (1 : Int32) (2 : Int32) _ n0 hn).post (P := fun r h' => r = some (.int (1 : Int32)) ∧ h' = _) (fun v h' q => q)) (wd_144 hw) (wd_145 hw) (wd_146 hw) (wd_147 hw) (by decide) pd_0 rfl rfl rfl (by decide) 0 (Nat.le_of_ble_eq_true rfl) (by decide) (by decide) (by decide) ?_
  rintro v1012 h1012 ⟨rfl, rfl⟩
  show WG _ _ _ _ _ _ _ _ _ _ _ _ 0 0 17 #[.val (.int m), .val (.int (0 : Int32)), .val (.int (1 : Int32)), .val (.int (2 : Int32)), .unset] [(.int (1 : Int32))]
  refine W.iconst 18 d_method_3_17 rfl (3 : Int32) rfl ?_
  refine W.imul 19 d_method_3_18 rfl (3 : Int32) (by decide) ?_
  refine W.iloadN 20 d_method_3_19 rfl rfl ?_
  refine W.iloadN 21 d_method_3_20 rfl rfl ?_
  refine W.callS (rest := [(.int (3 : Int32))]) (argsL := [(.int (1 : Int32)), (.int (2 : Int32))]) 24 d_method_3_21 rfl (fun hn => (c_max l Z a0 hw (1 : Int32) (2 : Int32) _ n0 hn).post (P := fun r h' => r = some (.int (2 : Int32)) ∧ h' = _) (fun v h' q => q)) (wd_148 hw) (wd_149 hw) (wd_146 hw) (wd_150 hw) (by decide) pd_0 rfl rfl rfl (by decide) 1 (Nat.le_of_ble_eq_true rfl) (by decide) (by decide) (by decide) ?_
  rintro v1013 h1013 ⟨rfl, rfl⟩
  show WG _ _ _ _ _ _ _ _ _ _ _ _ 0 0 24 #[.val (.int m), .val (.int (0 : Int32)), .val (.int (1 : Int32)), .val (.int (2 : Int32)), .unset] [(.int (2 : Int32)), (.int (3 : Int32))]
  refine W.iadd 25 d_method_3_24 rfl (5 : Int32) (by decide) ?_
  refine W.istore 27 d_method_3_25 rfl #[.val (.int m), .val (.int (0 : Int32)), .val (.int (1 : Int32)), .val (.int (2 : Int32)), .val (.int (5 : Int32))] rfl ?_
  refine W.iloadN 28 d_method_3_27 rfl rfl ?_
  refine W.iload 30 d_method_3_28 rfl rfl ?_
  refine W.iushr 31 d_method_3_30 rfl ((m.toUInt32 >>> ((5 : Int32) &&& 31).toUInt32).toInt32) rfl ?_
  refine W.iconst 32 d_method_3_31 rfl (1 : Int32) rfl ?_
  refine W.iand 33 d_method_3_32 rfl (((m.toUInt32 >>> ((5 : Int32) &&& 31).toUInt32).toInt32) &&& (1 : Int32)) rfl ?_
  refine W.if_eq 40 36 d_method_3_33 rfl rfl ?_ ?_
  · intro hc1014
    refine W.iconst 41 d_method_3_40 rfl (0 : Int32) rfl ?_
    exact W.ireturnN (t := .boolean) d_method_3_41 rfl (by simp) (0 : Int32) rfl ⟨by rw [own_h_def, if_pos hc1014], rfl⟩ (by decide) (by decide)
  · intro hc1014
    refine W.iconst 37 d_method_3_36 rfl (1 : Int32) rfl ?_
    refine W.goto 41 d_method_3_37 rfl ?_
    exact W.ireturnN (t := .boolean) d_method_3_41 rfl (by simp) (1 : Int32) rfl ⟨by rw [own_h_def, if_neg hc1014], rfl⟩ (by decide) (by decide)
theorem c_has020 (l : Launch) (Z : State) (a0 : Array Value) (hw : HwT Z a0) (m : Int32) (h : Heap) (n0 : Nat) (hn : n0 ≤ h.size) : Con l Z (⟨"com/example/eccentra/eccentra/MainVertexDistancesPinLaw", "has", "(IZII)Z"⟩ : MethodName) method_3_code 5 (some .boolean) ({ frames := 1, cells := 0, slots := 0, locals := 20 } : Room) #[(.int m), (.int (0 : Int32)), (.int (2 : Int32)), (.int (0 : Int32))] h n0 (fun r h' => r = some (.int (own_h m (2 : Int32))) ∧ h' = h) := by
  refine ConG.of_W (Ls := #[.val (.int m), .val (.int (0 : Int32)), .val (.int (2 : Int32)), .val (.int (0 : Int32)), .unset]) (plainFor_of_name pn_0) hn (fun m => by first | (simp [entryFrame, mkF, argsToLocals, Value.category]; done) | rfl) ?_
  refine W.iloadN 1 d_method_3_0 rfl rfl ?_
  refine W.if_eq 12 4 d_method_3_1 rfl rfl (fun _ => ?_) (fun hc => absurd (by decide) hc)
  refine W.iloadN 13 d_method_3_12 rfl rfl ?_
  refine W.iloadN 14 d_method_3_13 rfl rfl ?_
  refine W.callS (rest := []) (argsL := [(.int (2 : Int32)), (.int (0 : Int32))]) 17 d_method_3_14 rfl (fun hn => (c_min l Z a0 hw (2 : Int32) (0 : Int32) _ n0 hn).post (P := fun r h' => r = some (.int (0 : Int32)) ∧ h' = _) (fun v h' q => q)) (wd_144 hw) (wd_145 hw) (wd_146 hw) (wd_147 hw) (by decide) pd_0 rfl rfl rfl (by decide) 0 (Nat.le_of_ble_eq_true rfl) (by decide) (by decide) (by decide) ?_
  rintro v1015 h1015 ⟨rfl, rfl⟩
  show WG _ _ _ _ _ _ _ _ _ _ _ _ 0 0 17 #[.val (.int m), .val (.int (0 : Int32)), .val (.int (2 : Int32)), .val (.int (0 : Int32)), .unset] [(.int (0 : Int32))]
  refine W.iconst 18 d_method_3_17 rfl (3 : Int32) rfl ?_
  refine W.imul 19 d_method_3_18 rfl (0 : Int32) (by decide) ?_
  refine W.iloadN 20 d_method_3_19 rfl rfl ?_
  refine W.iloadN 21 d_method_3_20 rfl rfl ?_
  refine W.callS (rest := [(.int (0 : Int32))]) (argsL := [(.int (2 : Int32)), (.int (0 : Int32))]) 24 d_method_3_21 rfl (fun hn => (c_max l Z a0 hw (2 : Int32) (0 : Int32) _ n0 hn).post (P := fun r h' => r = some (.int (2 : Int32)) ∧ h' = _) (fun v h' q => q)) (wd_148 hw) (wd_149 hw) (wd_146 hw) (wd_150 hw) (by decide) pd_0 rfl rfl rfl (by decide) 1 (Nat.le_of_ble_eq_true rfl) (by decide) (by decide) (by decide) ?_
  rintro v1016 h1016 ⟨rfl, rfl⟩
  show WG _ _ _ _ _ _ _ _ _ _ _ _ 0 0 24 #[.val (.int m), .val (.int (0 : Int32)), .val (.int (2 : Int32)), .val (.int (0 : Int32)), .unset] [(.int (2 : Int32)), (.int (0 : Int32))]
  refine W.iadd 25 d_method_3_24 rfl (2 : Int32) (by decide) ?_
  refine W.istore 27 d_method_3_25 rfl #[.val (.int m), .val (.int (0 : Int32)), .val (.int (2 : Int32)), .val (.int (0 : Int32)), .val (.int (2 : Int32))] rfl ?_
  refine W.iloadN 28 d_method_3_27 rfl rfl ?_
  refine W.iload 30 d_method_3_28 rfl rfl ?_
  refine W.iushr 31 d_method_3_30 rfl ((m.toUInt32 >>> ((2 : Int32) &&& 31).toUInt32).toInt32) rfl ?_
  refine W.iconst 32 d_method_3_31 rfl (1 : Int32) rfl ?_
  refine W.iand 33 d_method_3_32 rfl (((m.toUInt32 >>> ((2 : Int32) &&& 31).toUInt32).toInt32) &&& (1 : Int32)) rfl ?_
  refine W.if_eq 40 36 d_method_3_33 rfl rfl ?_ ?_
  · intro hc1017
    refine W.iconst 41 d_method_3_40 rfl (0 : Int32) rfl ?_
    exact W.ireturnN (t := .boolean) d_method_3_41 rfl (by simp) (0 : Int32) rfl ⟨by rw [own_h_def, if_pos hc1017], rfl⟩ (by decide) (by decide)
  · intro hc1017
    refine W.iconst 37 d_method_3_36 rfl (1 : Int32) rfl ?_
    refine W.goto 41 d_method_3_37 rfl ?_
    exact W.ireturnN (t := .boolean) d_method_3_41 rfl (by simp) (1 : Int32) rfl ⟨by rw [own_h_def, if_neg hc1017], rfl⟩ (by decide) (by decide)
theorem c_has021 (l : Launch) (Z : State) (a0 : Array Value) (hw : HwT Z a0) (m : Int32) (h : Heap) (n0 : Nat) (hn : n0 ≤ h.size) : Con l Z (⟨"com/example/eccentra/eccentra/MainVertexDistancesPinLaw", "has", "(IZII)Z"⟩ : MethodName) method_3_code 5 (some .boolean) ({ frames := 1, cells := 0, slots := 0, locals := 20 } : Room) #[(.int m), (.int (0 : Int32)), (.int (2 : Int32)), (.int (1 : Int32))] h n0 (fun r h' => r = some (.int (own_h m (5 : Int32))) ∧ h' = h) := by
  refine ConG.of_W (Ls := #[.val (.int m), .val (.int (0 : Int32)), .val (.int (2 : Int32)), .val (.int (1 : Int32)), .unset]) (plainFor_of_name pn_0) hn (fun m => by first | (simp [entryFrame, mkF, argsToLocals, Value.category]; done) | rfl) ?_
  refine W.iloadN 1 d_method_3_0 rfl rfl ?_
  refine W.if_eq 12 4 d_method_3_1 rfl rfl (fun _ => ?_) (fun hc => absurd (by decide) hc)
  refine W.iloadN 13 d_method_3_12 rfl rfl ?_
  refine W.iloadN 14 d_method_3_13 rfl rfl ?_
  refine W.callS (rest := []) (argsL := [(.int (2 : Int32)), (.int (1 : Int32))]) 17 d_method_3_14 rfl (fun hn => (c_min l Z a0 hw (2 : Int32) (1 : Int32) _ n0 hn).post (P := fun r h' => r = some (.int (1 : Int32)) ∧ h' = _) (fun v h' q => q)) (wd_144 hw) (wd_145 hw) (wd_146 hw) (wd_147 hw) (by decide) pd_0 rfl rfl rfl (by decide) 0 (Nat.le_of_ble_eq_true rfl) (by decide) (by decide) (by decide) ?_
  rintro v1018 h1018 ⟨rfl, rfl⟩
  show WG _ _ _ _ _ _ _ _ _ _ _ _ 0 0 17 #[.val (.int m), .val (.int (0 : Int32)), .val (.int (2 : Int32)), .val (.int (1 : Int32)), .unset] [(.int (1 : Int32))]
  refine W.iconst 18 d_method_3_17 rfl (3 : Int32) rfl ?_
  refine W.imul 19 d_method_3_18 rfl (3 : Int32) (by decide) ?_
  refine W.iloadN 20 d_method_3_19 rfl rfl ?_
  refine W.iloadN 21 d_method_3_20 rfl rfl ?_
  refine W.callS (rest := [(.int (3 : Int32))]) (argsL := [(.int (2 : Int32)), (.int (1 : Int32))]) 24 d_method_3_21 rfl (fun hn => (c_max l Z a0 hw (2 : Int32) (1 : Int32) _ n0 hn).post (P := fun r h' => r = some (.int (2 : Int32)) ∧ h' = _) (fun v h' q => q)) (wd_148 hw) (wd_149 hw) (wd_146 hw) (wd_150 hw) (by decide) pd_0 rfl rfl rfl (by decide) 1 (Nat.le_of_ble_eq_true rfl) (by decide) (by decide) (by decide) ?_
  rintro v1019 h1019 ⟨rfl, rfl⟩
  show WG _ _ _ _ _ _ _ _ _ _ _ _ 0 0 24 #[.val (.int m), .val (.int (0 : Int32)), .val (.int (2 : Int32)), .val (.int (1 : Int32)), .unset] [(.int (2 : Int32)), (.int (3 : Int32))]
  refine W.iadd 25 d_method_3_24 rfl (5 : Int32) (by decide) ?_
  refine W.istore 27 d_method_3_25 rfl #[.val (.int m), .val (.int (0 : Int32)), .val (.int (2 : Int32)), .val (.int (1 : Int32)), .val (.int (5 : Int32))] rfl ?_
  refine W.iloadN 28 d_method_3_27 rfl rfl ?_
  refine W.iload 30 d_method_3_28 rfl rfl ?_
  refine W.iushr 31 d_method_3_30 rfl ((m.toUInt32 >>> ((5 : Int32) &&& 31).toUInt32).toInt32) rfl ?_
  refine W.iconst 32 d_method_3_31 rfl (1 : Int32) rfl ?_
  refine W.iand 33 d_method_3_32 rfl (((m.toUInt32 >>> ((5 : Int32) &&& 31).toUInt32).toInt32) &&& (1 : Int32)) rfl ?_
  refine W.if_eq 40 36 d_method_3_33 rfl rfl ?_ ?_
  · intro hc1020
    refine W.iconst 41 d_method_3_40 rfl (0 : Int32) rfl ?_
    exact W.ireturnN (t := .boolean) d_method_3_41 rfl (by simp) (0 : Int32) rfl ⟨by rw [own_h_def, if_pos hc1020], rfl⟩ (by decide) (by decide)
  · intro hc1020
    refine W.iconst 37 d_method_3_36 rfl (1 : Int32) rfl ?_
    refine W.goto 41 d_method_3_37 rfl ?_
    exact W.ireturnN (t := .boolean) d_method_3_41 rfl (by simp) (1 : Int32) rfl ⟨by rw [own_h_def, if_neg hc1020], rfl⟩ (by decide) (by decide)
theorem c_has101 (l : Launch) (Z : State) (a0 : Array Value) (hw : HwT Z a0) (m : Int32) (h : Heap) (n0 : Nat) (hn : n0 ≤ h.size) : Con l Z (⟨"com/example/eccentra/eccentra/MainVertexDistancesPinLaw", "has", "(IZII)Z"⟩ : MethodName) method_3_code 5 (some .boolean) ({ frames := 1, cells := 0, slots := 0, locals := 20 } : Room) #[(.int m), (.int (1 : Int32)), (.int (0 : Int32)), (.int (1 : Int32))] h n0 (fun r h' => r = some (.int (own_h m (1 : Int32))) ∧ h' = h) := by
  refine ConG.of_W (Ls := #[.val (.int m), .val (.int (1 : Int32)), .val (.int (0 : Int32)), .val (.int (1 : Int32)), .unset]) (plainFor_of_name pn_0) hn (fun m => by first | (simp [entryFrame, mkF, argsToLocals, Value.category]; done) | rfl) ?_
  refine W.iloadN 1 d_method_3_0 rfl rfl ?_
  refine W.if_eq 12 4 d_method_3_1 rfl rfl (fun hc => absurd hc (by decide)) (fun _ => ?_)
  refine W.iloadN 5 d_method_3_4 rfl rfl ?_
  refine W.iconst 6 d_method_3_5 rfl (3 : Int32) rfl ?_
  refine W.imul 7 d_method_3_6 rfl (0 : Int32) (by decide) ?_
  refine W.iloadN 8 d_method_3_7 rfl rfl ?_
  refine W.iadd 9 d_method_3_8 rfl (1 : Int32) (by decide) ?_
  refine W.goto 25 d_method_3_9 rfl ?_
  refine W.istore 27 d_method_3_25 rfl #[.val (.int m), .val (.int (1 : Int32)), .val (.int (0 : Int32)), .val (.int (1 : Int32)), .val (.int (1 : Int32))] rfl ?_
  refine W.iloadN 28 d_method_3_27 rfl rfl ?_
  refine W.iload 30 d_method_3_28 rfl rfl ?_
  refine W.iushr 31 d_method_3_30 rfl ((m.toUInt32 >>> ((1 : Int32) &&& 31).toUInt32).toInt32) rfl ?_
  refine W.iconst 32 d_method_3_31 rfl (1 : Int32) rfl ?_
  refine W.iand 33 d_method_3_32 rfl (((m.toUInt32 >>> ((1 : Int32) &&& 31).toUInt32).toInt32) &&& (1 : Int32)) rfl ?_
  refine W.if_eq 40 36 d_method_3_33 rfl rfl ?_ ?_
  · intro hc1021
    refine W.iconst 41 d_method_3_40 rfl (0 : Int32) rfl ?_
    exact W.ireturnN (t := .boolean) d_method_3_41 rfl (by simp) (0 : Int32) rfl ⟨by rw [own_h_def, if_pos hc1021], rfl⟩ (by decide) (by decide)
  · intro hc1021
    refine W.iconst 37 d_method_3_36 rfl (1 : Int32) rfl ?_
    refine W.goto 41 d_method_3_37 rfl ?_
    exact W.ireturnN (t := .boolean) d_method_3_41 rfl (by simp) (1 : Int32) rfl ⟨by rw [own_h_def, if_neg hc1021], rfl⟩ (by decide) (by decide)
theorem c_has102 (l : Launch) (Z : State) (a0 : Array Value) (hw : HwT Z a0) (m : Int32) (h : Heap) (n0 : Nat) (hn : n0 ≤ h.size) : Con l Z (⟨"com/example/eccentra/eccentra/MainVertexDistancesPinLaw", "has", "(IZII)Z"⟩ : MethodName) method_3_code 5 (some .boolean) ({ frames := 1, cells := 0, slots := 0, locals := 20 } : Room) #[(.int m), (.int (1 : Int32)), (.int (0 : Int32)), (.int (2 : Int32))] h n0 (fun r h' => r = some (.int (own_h m (2 : Int32))) ∧ h' = h) := by
  refine ConG.of_W (Ls := #[.val (.int m), .val (.int (1 : Int32)), .val (.int (0 : Int32)), .val (.int (2 : Int32)), .unset]) (plainFor_of_name pn_0) hn (fun m => by first | (simp [entryFrame, mkF, argsToLocals, Value.category]; done) | rfl) ?_
  refine W.iloadN 1 d_method_3_0 rfl rfl ?_
  refine W.if_eq 12 4 d_method_3_1 rfl rfl (fun hc => absurd hc (by decide)) (fun _ => ?_)
  refine W.iloadN 5 d_method_3_4 rfl rfl ?_
  refine W.iconst 6 d_method_3_5 rfl (3 : Int32) rfl ?_
  refine W.imul 7 d_method_3_6 rfl (0 : Int32) (by decide) ?_
  refine W.iloadN 8 d_method_3_7 rfl rfl ?_
  refine W.iadd 9 d_method_3_8 rfl (2 : Int32) (by decide) ?_
  refine W.goto 25 d_method_3_9 rfl ?_
  refine W.istore 27 d_method_3_25 rfl #[.val (.int m), .val (.int (1 : Int32)), .val (.int (0 : Int32)), .val (.int (2 : Int32)), .val (.int (2 : Int32))] rfl ?_
  refine W.iloadN 28 d_method_3_27 rfl rfl ?_
  refine W.iload 30 d_method_3_28 rfl rfl ?_
  refine W.iushr 31 d_method_3_30 rfl ((m.toUInt32 >>> ((2 : Int32) &&& 31).toUInt32).toInt32) rfl ?_
  refine W.iconst 32 d_method_3_31 rfl (1 : Int32) rfl ?_
  refine W.iand 33 d_method_3_32 rfl (((m.toUInt32 >>> ((2 : Int32) &&& 31).toUInt32).toInt32) &&& (1 : Int32)) rfl ?_
  refine W.if_eq 40 36 d_method_3_33 rfl rfl ?_ ?_
  · intro hc1022
    refine W.iconst 41 d_method_3_40 rfl (0 : Int32) rfl ?_
    exact W.ireturnN (t := .boolean) d_method_3_41 rfl (by simp) (0 : Int32) rfl ⟨by rw [own_h_def, if_pos hc1022], rfl⟩ (by decide) (by decide)
  · intro hc1022
    refine W.iconst 37 d_method_3_36 rfl (1 : Int32) rfl ?_
    refine W.goto 41 d_method_3_37 rfl ?_
    exact W.ireturnN (t := .boolean) d_method_3_41 rfl (by simp) (1 : Int32) rfl ⟨by rw [own_h_def, if_neg hc1022], rfl⟩ (by decide) (by decide)
theorem c_has110 (l : Launch) (Z : State) (a0 : Array Value) (hw : HwT Z a0) (m : Int32) (h : Heap) (n0 : Nat) (hn : n0 ≤ h.size) : Con l Z (⟨"com/example/eccentra/eccentra/MainVertexDistancesPinLaw", "has", "(IZII)Z"⟩ : MethodName) method_3_code 5 (some .boolean) ({ frames := 1, cells := 0, slots := 0, locals := 20 } : Room) #[(.int m), (.int (1 : Int32)), (.int (1 : Int32)), (.int (0 : Int32))] h n0 (fun r h' => r = some (.int (own_h m (3 : Int32))) ∧ h' = h) := by
  refine ConG.of_W (Ls := #[.val (.int m), .val (.int (1 : Int32)), .val (.int (1 : Int32)), .val (.int (0 : Int32)), .unset]) (plainFor_of_name pn_0) hn (fun m => by first | (simp [entryFrame, mkF, argsToLocals, Value.category]; done) | rfl) ?_
  refine W.iloadN 1 d_method_3_0 rfl rfl ?_
  refine W.if_eq 12 4 d_method_3_1 rfl rfl (fun hc => absurd hc (by decide)) (fun _ => ?_)
  refine W.iloadN 5 d_method_3_4 rfl rfl ?_
  refine W.iconst 6 d_method_3_5 rfl (3 : Int32) rfl ?_
  refine W.imul 7 d_method_3_6 rfl (3 : Int32) (by decide) ?_
  refine W.iloadN 8 d_method_3_7 rfl rfl ?_
  refine W.iadd 9 d_method_3_8 rfl (3 : Int32) (by decide) ?_
  refine W.goto 25 d_method_3_9 rfl ?_
  refine W.istore 27 d_method_3_25 rfl #[.val (.int m), .val (.int (1 : Int32)), .val (.int (1 : Int32)), .val (.int (0 : Int32)), .val (.int (3 : Int32))] rfl ?_
  refine W.iloadN 28 d_method_3_27 rfl rfl ?_
  refine W.iload 30 d_method_3_28 rfl rfl ?_
  refine W.iushr 31 d_method_3_30 rfl ((m.toUInt32 >>> ((3 : Int32) &&& 31).toUInt32).toInt32) rfl ?_
  refine W.iconst 32 d_method_3_31 rfl (1 : Int32) rfl ?_
  refine W.iand 33 d_method_3_32 rfl (((m.toUInt32 >>> ((3 : Int32) &&& 31).toUInt32).toInt32) &&& (1 : Int32)) rfl ?_
  refine W.if_eq 40 36 d_method_3_33 rfl rfl ?_ ?_
  · intro hc1023
    refine W.iconst 41 d_method_3_40 rfl (0 : Int32) rfl ?_
    exact W.ireturnN (t := .boolean) d_method_3_41 rfl (by simp) (0 : Int32) rfl ⟨by rw [own_h_def, if_pos hc1023], rfl⟩ (by decide) (by decide)
  · intro hc1023
    refine W.iconst 37 d_method_3_36 rfl (1 : Int32) rfl ?_
    refine W.goto 41 d_method_3_37 rfl ?_
    exact W.ireturnN (t := .boolean) d_method_3_41 rfl (by simp) (1 : Int32) rfl ⟨by rw [own_h_def, if_neg hc1023], rfl⟩ (by decide) (by decide)
theorem c_has112 (l : Launch) (Z : State) (a0 : Array Value) (hw : HwT Z a0) (m : Int32) (h : Heap) (n0 : Nat) (hn : n0 ≤ h.size) : Con l Z (⟨"com/example/eccentra/eccentra/MainVertexDistancesPinLaw", "has", "(IZII)Z"⟩ : MethodName) method_3_code 5 (some .boolean) ({ frames := 1, cells := 0, slots := 0, locals := 20 } : Room) #[(.int m), (.int (1 : Int32)), (.int (1 : Int32)), (.int (2 : Int32))] h n0 (fun r h' => r = some (.int (own_h m (5 : Int32))) ∧ h' = h) := by
  refine ConG.of_W (Ls := #[.val (.int m), .val (.int (1 : Int32)), .val (.int (1 : Int32)), .val (.int (2 : Int32)), .unset]) (plainFor_of_name pn_0) hn (fun m => by first | (simp [entryFrame, mkF, argsToLocals, Value.category]; done) | rfl) ?_
  refine W.iloadN 1 d_method_3_0 rfl rfl ?_
  refine W.if_eq 12 4 d_method_3_1 rfl rfl (fun hc => absurd hc (by decide)) (fun _ => ?_)
  refine W.iloadN 5 d_method_3_4 rfl rfl ?_
  refine W.iconst 6 d_method_3_5 rfl (3 : Int32) rfl ?_
  refine W.imul 7 d_method_3_6 rfl (3 : Int32) (by decide) ?_
  refine W.iloadN 8 d_method_3_7 rfl rfl ?_
  refine W.iadd 9 d_method_3_8 rfl (5 : Int32) (by decide) ?_
  refine W.goto 25 d_method_3_9 rfl ?_
  refine W.istore 27 d_method_3_25 rfl #[.val (.int m), .val (.int (1 : Int32)), .val (.int (1 : Int32)), .val (.int (2 : Int32)), .val (.int (5 : Int32))] rfl ?_
  refine W.iloadN 28 d_method_3_27 rfl rfl ?_
  refine W.iload 30 d_method_3_28 rfl rfl ?_
  refine W.iushr 31 d_method_3_30 rfl ((m.toUInt32 >>> ((5 : Int32) &&& 31).toUInt32).toInt32) rfl ?_
  refine W.iconst 32 d_method_3_31 rfl (1 : Int32) rfl ?_
  refine W.iand 33 d_method_3_32 rfl (((m.toUInt32 >>> ((5 : Int32) &&& 31).toUInt32).toInt32) &&& (1 : Int32)) rfl ?_
  refine W.if_eq 40 36 d_method_3_33 rfl rfl ?_ ?_
  · intro hc1024
    refine W.iconst 41 d_method_3_40 rfl (0 : Int32) rfl ?_
    exact W.ireturnN (t := .boolean) d_method_3_41 rfl (by simp) (0 : Int32) rfl ⟨by rw [own_h_def, if_pos hc1024], rfl⟩ (by decide) (by decide)
  · intro hc1024
    refine W.iconst 37 d_method_3_36 rfl (1 : Int32) rfl ?_
    refine W.goto 41 d_method_3_37 rfl ?_
    exact W.ireturnN (t := .boolean) d_method_3_41 rfl (by simp) (1 : Int32) rfl ⟨by rw [own_h_def, if_neg hc1024], rfl⟩ (by decide) (by decide)
theorem c_has120 (l : Launch) (Z : State) (a0 : Array Value) (hw : HwT Z a0) (m : Int32) (h : Heap) (n0 : Nat) (hn : n0 ≤ h.size) : Con l Z (⟨"com/example/eccentra/eccentra/MainVertexDistancesPinLaw", "has", "(IZII)Z"⟩ : MethodName) method_3_code 5 (some .boolean) ({ frames := 1, cells := 0, slots := 0, locals := 20 } : Room) #[(.int m), (.int (1 : Int32)), (.int (2 : Int32)), (.int (0 : Int32))] h n0 (fun r h' => r = some (.int (own_h m (6 : Int32))) ∧ h' = h) := by
  refine ConG.of_W (Ls := #[.val (.int m), .val (.int (1 : Int32)), .val (.int (2 : Int32)), .val (.int (0 : Int32)), .unset]) (plainFor_of_name pn_0) hn (fun m => by first | (simp [entryFrame, mkF, argsToLocals, Value.category]; done) | rfl) ?_
  refine W.iloadN 1 d_method_3_0 rfl rfl ?_
  refine W.if_eq 12 4 d_method_3_1 rfl rfl (fun hc => absurd hc (by decide)) (fun _ => ?_)
  refine W.iloadN 5 d_method_3_4 rfl rfl ?_
  refine W.iconst 6 d_method_3_5 rfl (3 : Int32) rfl ?_
  refine W.imul 7 d_method_3_6 rfl (6 : Int32) (by decide) ?_
  refine W.iloadN 8 d_method_3_7 rfl rfl ?_
  refine W.iadd 9 d_method_3_8 rfl (6 : Int32) (by decide) ?_
  refine W.goto 25 d_method_3_9 rfl ?_
  refine W.istore 27 d_method_3_25 rfl #[.val (.int m), .val (.int (1 : Int32)), .val (.int (2 : Int32)), .val (.int (0 : Int32)), .val (.int (6 : Int32))] rfl ?_
  refine W.iloadN 28 d_method_3_27 rfl rfl ?_
  refine W.iload 30 d_method_3_28 rfl rfl ?_
  refine W.iushr 31 d_method_3_30 rfl ((m.toUInt32 >>> ((6 : Int32) &&& 31).toUInt32).toInt32) rfl ?_
  refine W.iconst 32 d_method_3_31 rfl (1 : Int32) rfl ?_
  refine W.iand 33 d_method_3_32 rfl (((m.toUInt32 >>> ((6 : Int32) &&& 31).toUInt32).toInt32) &&& (1 : Int32)) rfl ?_
  refine W.if_eq 40 36 d_method_3_33 rfl rfl ?_ ?_
  · intro hc1025
    refine W.iconst 41 d_method_3_40 rfl (0 : Int32) rfl ?_
    exact W.ireturnN (t := .boolean) d_method_3_41 rfl (by simp) (0 : Int32) rfl ⟨by rw [own_h_def, if_pos hc1025], rfl⟩ (by decide) (by decide)
  · intro hc1025
    refine W.iconst 37 d_method_3_36 rfl (1 : Int32) rfl ?_
    refine W.goto 41 d_method_3_37 rfl ?_
    exact W.ireturnN (t := .boolean) d_method_3_41 rfl (by simp) (1 : Int32) rfl ⟨by rw [own_h_def, if_neg hc1025], rfl⟩ (by decide) (by decide)
theorem c_has121 (l : Launch) (Z : State) (a0 : Array Value) (hw : HwT Z a0) (m : Int32) (h : Heap) (n0 : Nat) (hn : n0 ≤ h.size) : Con l Z (⟨"com/example/eccentra/eccentra/MainVertexDistancesPinLaw", "has", "(IZII)Z"⟩ : MethodName) method_3_code 5 (some .boolean) ({ frames := 1, cells := 0, slots := 0, locals := 20 } : Room) #[(.int m), (.int (1 : Int32)), (.int (2 : Int32)), (.int (1 : Int32))] h n0 (fun r h' => r = some (.int (own_h m (7 : Int32))) ∧ h' = h) := by
  refine ConG.of_W (Ls := #[.val (.int m), .val (.int (1 : Int32)), .val (.int (2 : Int32)), .val (.int (1 : Int32)), .unset]) (plainFor_of_name pn_0) hn (fun m => by first | (simp [entryFrame, mkF, argsToLocals, Value.category]; done) | rfl) ?_
  refine W.iloadN 1 d_method_3_0 rfl rfl ?_
  refine W.if_eq 12 4 d_method_3_1 rfl rfl (fun hc => absurd hc (by decide)) (fun _ => ?_)
  refine W.iloadN 5 d_method_3_4 rfl rfl ?_
  refine W.iconst 6 d_method_3_5 rfl (3 : Int32) rfl ?_
  refine W.imul 7 d_method_3_6 rfl (6 : Int32) (by decide) ?_
  refine W.iloadN 8 d_method_3_7 rfl rfl ?_
  refine W.iadd 9 d_method_3_8 rfl (7 : Int32) (by decide) ?_
  refine W.goto 25 d_method_3_9 rfl ?_
  refine W.istore 27 d_method_3_25 rfl #[.val (.int m), .val (.int (1 : Int32)), .val (.int (2 : Int32)), .val (.int (1 : Int32)), .val (.int (7 : Int32))] rfl ?_
  refine W.iloadN 28 d_method_3_27 rfl rfl ?_
  refine W.iload 30 d_method_3_28 rfl rfl ?_
  refine W.iushr 31 d_method_3_30 rfl ((m.toUInt32 >>> ((7 : Int32) &&& 31).toUInt32).toInt32) rfl ?_
  refine W.iconst 32 d_method_3_31 rfl (1 : Int32) rfl ?_
  refine W.iand 33 d_method_3_32 rfl (((m.toUInt32 >>> ((7 : Int32) &&& 31).toUInt32).toInt32) &&& (1 : Int32)) rfl ?_
  refine W.if_eq 40 36 d_method_3_33 rfl rfl ?_ ?_
  · intro hc1026
    refine W.iconst 41 d_method_3_40 rfl (0 : Int32) rfl ?_
    exact W.ireturnN (t := .boolean) d_method_3_41 rfl (by simp) (0 : Int32) rfl ⟨by rw [own_h_def, if_pos hc1026], rfl⟩ (by decide) (by decide)
  · intro hc1026
    refine W.iconst 37 d_method_3_36 rfl (1 : Int32) rfl ?_
    refine W.goto 41 d_method_3_37 rfl ?_
    exact W.ireturnN (t := .boolean) d_method_3_41 rfl (by simp) (1 : Int32) rfl ⟨by rw [own_h_def, if_neg hc1026], rfl⟩ (by decide) (by decide)
theorem c_put0100 (l : Launch) (Z : State) (a0 : Array Value) (hw : HwT Z a0) (m pos : Int32) (t : Addr) (h : Heap) (n0 : Nat) (hn : n0 ≤ h.size) : Con l Z (⟨"com/example/eccentra/eccentra/MainVertexDistancesPinLaw", "put", "(IZZII[II)I"⟩ : MethodName) method_4_code 7 (some .int) ({ frames := 2, cells := 0, slots := 0, locals := 50 } : Room) #[(.int m), (.int (0 : Int32)), (.int (1 : Int32)), (.int (0 : Int32)), (.int (0 : Int32)), (.ref t), (.int pos)] h n0 (fun r h' => r = some (.int pos) ∧ h' = h) := by
  refine ConG.of_W (Ls := #[.val (.int m), .val (.int (0 : Int32)), .val (.int (1 : Int32)), .val (.int (0 : Int32)), .val (.int (0 : Int32)), .val (.ref t), .val (.int pos)]) (plainFor_of_name pn_0) hn (fun m => by first | (simp [entryFrame, mkF, argsToLocals, Value.category]; done) | rfl) ?_
  refine W.iload 2 d_method_4_0 rfl rfl ?_
  refine W.iloadN 3 d_method_4_2 rfl rfl ?_
  refine W.icmp_eq 47 6 d_method_4_3 rfl rfl (fun _ => ?_) (fun hc => absurd (by decide) hc)
  refine W.iload 49 d_method_4_47 rfl rfl ?_
  exact W.ireturn d_method_4_49 rfl ⟨rfl, rfl⟩ (by decide) (by decide)
theorem c_put0101 (l : Launch) (Z : State) (a0 : Array Value) (hw : HwT Z a0) (m pos q : Int32) (t : Addr) (xs ys : List Int32) (h : Heap) (n0 : Nat) (hn : n0 ≤ h.size) (gt : n0 ≤ t) (A : Ary Z h t .int (xs.map Value.int)) (hm : own_put (own_h m (1 : Int32)) (1 : Int32) xs pos = some (ys, q)) : Con l Z (⟨"com/example/eccentra/eccentra/MainVertexDistancesPinLaw", "put", "(IZZII[II)I"⟩ : MethodName) method_4_code 7 (some .int) ({ frames := 2, cells := 0, slots := 0, locals := 50 } : Room) #[(.int m), (.int (0 : Int32)), (.int (1 : Int32)), (.int (0 : Int32)), (.int (1 : Int32)), (.ref t), (.int pos)] h n0 (fun r h' => r = some (.int q) ∧ Ary Z h' t .int (ys.map Value.int) ∧ Keep h h' [t]) := by
  refine ConG.of_W (Ls := #[.val (.int m), .val (.int (0 : Int32)), .val (.int (1 : Int32)), .val (.int (0 : Int32)), .val (.int (1 : Int32)), .val (.ref t), .val (.int pos)]) (plainFor_of_name pn_0) hn (fun m => by first | (simp [entryFrame, mkF, argsToLocals, Value.category]; done) | rfl) ?_
  refine W.iload 2 d_method_4_0 rfl rfl ?_
  refine W.iloadN 3 d_method_4_2 rfl rfl ?_
  refine W.icmp_eq 47 6 d_method_4_3 rfl rfl (fun hc => absurd hc (by decide)) (fun _ => ?_)
  refine W.iloadN 7 d_method_4_6 rfl rfl ?_
  refine W.if_eq 24 10 d_method_4_7 rfl rfl (fun hc => absurd hc (by decide)) (fun _ => ?_)
  refine W.iloadN 11 d_method_4_10 rfl rfl ?_
  refine W.iloadN 12 d_method_4_11 rfl rfl ?_
  refine W.iloadN 13 d_method_4_12 rfl rfl ?_
  refine W.iload 15 d_method_4_13 rfl rfl ?_
  refine W.callS (rest := []) (argsL := [(.int m), (.int (0 : Int32)), (.int (0 : Int32)), (.int (1 : Int32))]) 18 d_method_4_15 rfl (fun hn => c_has001 l Z a0 hw m _ n0 hn) (wd_9 hw) (wd_10 hw) (wd_4 hw) (wd_11 hw) (by decide) pd_1 rfl rfl rfl (by decide) 0 (Nat.le_of_ble_eq_true rfl) (by decide) (by decide) (by decide) ?_
  rintro v1027 h1027 ⟨rfl, rfl⟩
  show WG _ _ _ _ _ _ _ _ _ _ _ _ 0 0 18 #[.val (.int m), .val (.int (0 : Int32)), .val (.int (1 : Int32)), .val (.int (0 : Int32)), .val (.int (1 : Int32)), .val (.ref t), .val (.int pos)] [(.int (own_h m (1 : Int32)))]
  refine W.if_eq 47 21 d_method_4_18 rfl rfl ?_ ?_
  · intro hc1028
    refine W.iload 49 d_method_4_47 rfl rfl ?_
    rw [own_put_def, if_pos hc1028] at hm
    cases hm
    exact W.ireturn d_method_4_49 rfl ⟨rfl, A, (Keep.refl _ [t])⟩ (by decide) (by decide)
  · intro hc1028
    refine W.goto 35 d_method_4_21 rfl ?_
    rw [own_put_def, if_neg hc1028] at hm
    obtain ⟨ys', hys, hm⟩ := Option.bind_eq_some_iff.mp hm
    have hs1 := own_set_ok hys
    cases hm
    refine W.aload 37 d_method_4_35 rfl rfl rfl ?_
    refine W.iload 39 d_method_4_37 rfl rfl ?_
    refine W.iload 41 d_method_4_39 rfl rfl ?_
    refine W.iastore 42 d_method_4_41 rfl A pos.toNatClampNeg rfl hs1.1 hs1.2.1 gt ?_
    intro h1029 W1029 K1029 A1029
    have kc1030 := Keep.trans (ws := [t]) (Keep.refl _ [t]) K1029 (allS (Or.inl (List.mem_of_getElem? (i := 0) rfl)) all0)
    refine W.iload 44 d_method_4_42 rfl rfl ?_
    refine W.iconst 45 d_method_4_44 rfl (1 : Int32) rfl ?_
    refine W.iadd 46 d_method_4_45 rfl (pos + (1 : Int32)) rfl ?_
    exact W.ireturn d_method_4_46 rfl ⟨rfl, by rw [← hs1.2.2]; exact A1029, kc1030⟩ (by decide) (by decide)
theorem c_put0102 (l : Launch) (Z : State) (a0 : Array Value) (hw : HwT Z a0) (m pos q : Int32) (t : Addr) (xs ys : List Int32) (h : Heap) (n0 : Nat) (hn : n0 ≤ h.size) (gt : n0 ≤ t) (A : Ary Z h t .int (xs.map Value.int)) (hm : own_put (own_h m (2 : Int32)) (2 : Int32) xs pos = some (ys, q)) : Con l Z (⟨"com/example/eccentra/eccentra/MainVertexDistancesPinLaw", "put", "(IZZII[II)I"⟩ : MethodName) method_4_code 7 (some .int) ({ frames := 2, cells := 0, slots := 0, locals := 50 } : Room) #[(.int m), (.int (0 : Int32)), (.int (1 : Int32)), (.int (0 : Int32)), (.int (2 : Int32)), (.ref t), (.int pos)] h n0 (fun r h' => r = some (.int q) ∧ Ary Z h' t .int (ys.map Value.int) ∧ Keep h h' [t]) := by
  refine ConG.of_W (Ls := #[.val (.int m), .val (.int (0 : Int32)), .val (.int (1 : Int32)), .val (.int (0 : Int32)), .val (.int (2 : Int32)), .val (.ref t), .val (.int pos)]) (plainFor_of_name pn_0) hn (fun m => by first | (simp [entryFrame, mkF, argsToLocals, Value.category]; done) | rfl) ?_
  refine W.iload 2 d_method_4_0 rfl rfl ?_
  refine W.iloadN 3 d_method_4_2 rfl rfl ?_
  refine W.icmp_eq 47 6 d_method_4_3 rfl rfl (fun hc => absurd hc (by decide)) (fun _ => ?_)
  refine W.iloadN 7 d_method_4_6 rfl rfl ?_
  refine W.if_eq 24 10 d_method_4_7 rfl rfl (fun hc => absurd hc (by decide)) (fun _ => ?_)
  refine W.iloadN 11 d_method_4_10 rfl rfl ?_
  refine W.iloadN 12 d_method_4_11 rfl rfl ?_
  refine W.iloadN 13 d_method_4_12 rfl rfl ?_
  refine W.iload 15 d_method_4_13 rfl rfl ?_
  refine W.callS (rest := []) (argsL := [(.int m), (.int (0 : Int32)), (.int (0 : Int32)), (.int (2 : Int32))]) 18 d_method_4_15 rfl (fun hn => c_has002 l Z a0 hw m _ n0 hn) (wd_9 hw) (wd_10 hw) (wd_4 hw) (wd_11 hw) (by decide) pd_1 rfl rfl rfl (by decide) 0 (Nat.le_of_ble_eq_true rfl) (by decide) (by decide) (by decide) ?_
  rintro v1031 h1031 ⟨rfl, rfl⟩
  show WG _ _ _ _ _ _ _ _ _ _ _ _ 0 0 18 #[.val (.int m), .val (.int (0 : Int32)), .val (.int (1 : Int32)), .val (.int (0 : Int32)), .val (.int (2 : Int32)), .val (.ref t), .val (.int pos)] [(.int (own_h m (2 : Int32)))]
  refine W.if_eq 47 21 d_method_4_18 rfl rfl ?_ ?_
  · intro hc1032
    refine W.iload 49 d_method_4_47 rfl rfl ?_
    rw [own_put_def, if_pos hc1032] at hm
    cases hm
    exact W.ireturn d_method_4_49 rfl ⟨rfl, A, (Keep.refl _ [t])⟩ (by decide) (by decide)
  · intro hc1032
    refine W.goto 35 d_method_4_21 rfl ?_
    rw [own_put_def, if_neg hc1032] at hm
    obtain ⟨ys', hys, hm⟩ := Option.bind_eq_some_iff.mp hm
    have hs1 := own_set_ok hys
    cases hm
    refine W.aload 37 d_method_4_35 rfl rfl rfl ?_
    refine W.iload 39 d_method_4_37 rfl rfl ?_
    refine W.iload 41 d_method_4_39 rfl rfl ?_
    refine W.iastore 42 d_method_4_41 rfl A pos.toNatClampNeg rfl hs1.1 hs1.2.1 gt ?_
    intro h1033 W1033 K1033 A1033
    have kc1034 := Keep.trans (ws := [t]) (Keep.refl _ [t]) K1033 (allS (Or.inl (List.mem_of_getElem? (i := 0) rfl)) all0)
    refine W.iload 44 d_method_4_42 rfl rfl ?_
    refine W.iconst 45 d_method_4_44 rfl (1 : Int32) rfl ?_
    refine W.iadd 46 d_method_4_45 rfl (pos + (1 : Int32)) rfl ?_
    exact W.ireturn d_method_4_46 rfl ⟨rfl, by rw [← hs1.2.2]; exact A1033, kc1034⟩ (by decide) (by decide)
theorem c_put0110 (l : Launch) (Z : State) (a0 : Array Value) (hw : HwT Z a0) (m pos q : Int32) (t : Addr) (xs ys : List Int32) (h : Heap) (n0 : Nat) (hn : n0 ≤ h.size) (gt : n0 ≤ t) (A : Ary Z h t .int (xs.map Value.int)) (hm : own_put (own_h m (1 : Int32)) (0 : Int32) xs pos = some (ys, q)) : Con l Z (⟨"com/example/eccentra/eccentra/MainVertexDistancesPinLaw", "put", "(IZZII[II)I"⟩ : MethodName) method_4_code 7 (some .int) ({ frames := 2, cells := 0, slots := 0, locals := 50 } : Room) #[(.int m), (.int (0 : Int32)), (.int (1 : Int32)), (.int (1 : Int32)), (.int (0 : Int32)), (.ref t), (.int pos)] h n0 (fun r h' => r = some (.int q) ∧ Ary Z h' t .int (ys.map Value.int) ∧ Keep h h' [t]) := by
  refine ConG.of_W (Ls := #[.val (.int m), .val (.int (0 : Int32)), .val (.int (1 : Int32)), .val (.int (1 : Int32)), .val (.int (0 : Int32)), .val (.ref t), .val (.int pos)]) (plainFor_of_name pn_0) hn (fun m => by first | (simp [entryFrame, mkF, argsToLocals, Value.category]; done) | rfl) ?_
  refine W.iload 2 d_method_4_0 rfl rfl ?_
  refine W.iloadN 3 d_method_4_2 rfl rfl ?_
  refine W.icmp_eq 47 6 d_method_4_3 rfl rfl (fun hc => absurd hc (by decide)) (fun _ => ?_)
  refine W.iloadN 7 d_method_4_6 rfl rfl ?_
  refine W.if_eq 24 10 d_method_4_7 rfl rfl (fun hc => absurd hc (by decide)) (fun _ => ?_)
  refine W.iloadN 11 d_method_4_10 rfl rfl ?_
  refine W.iloadN 12 d_method_4_11 rfl rfl ?_
  refine W.iloadN 13 d_method_4_12 rfl rfl ?_
  refine W.iload 15 d_method_4_13 rfl rfl ?_
  refine W.callS (rest := []) (argsL := [(.int m), (.int (0 : Int32)), (.int (1 : Int32)), (.int (0 : Int32))]) 18 d_method_4_15 rfl (fun hn => c_has010 l Z a0 hw m _ n0 hn) (wd_9 hw) (wd_10 hw) (wd_4 hw) (wd_11 hw) (by decide) pd_1 rfl rfl rfl (by decide) 0 (Nat.le_of_ble_eq_true rfl) (by decide) (by decide) (by decide) ?_
  rintro v1035 h1035 ⟨rfl, rfl⟩
  show WG _ _ _ _ _ _ _ _ _ _ _ _ 0 0 18 #[.val (.int m), .val (.int (0 : Int32)), .val (.int (1 : Int32)), .val (.int (1 : Int32)), .val (.int (0 : Int32)), .val (.ref t), .val (.int pos)] [(.int (own_h m (1 : Int32)))]
  refine W.if_eq 47 21 d_method_4_18 rfl rfl ?_ ?_
  · intro hc1036
    refine W.iload 49 d_method_4_47 rfl rfl ?_
    rw [own_put_def, if_pos hc1036] at hm
    cases hm
    exact W.ireturn d_method_4_49 rfl ⟨rfl, A, (Keep.refl _ [t])⟩ (by decide) (by decide)
  · intro hc1036
    refine W.goto 35 d_method_4_21 rfl ?_
    rw [own_put_def, if_neg hc1036] at hm
    obtain ⟨ys', hys, hm⟩ := Option.bind_eq_some_iff.mp hm
    have hs1 := own_set_ok hys
    cases hm
    refine W.aload 37 d_method_4_35 rfl rfl rfl ?_
    refine W.iload 39 d_method_4_37 rfl rfl ?_
    refine W.iload 41 d_method_4_39 rfl rfl ?_
    refine W.iastore 42 d_method_4_41 rfl A pos.toNatClampNeg rfl hs1.1 hs1.2.1 gt ?_
    intro h1037 W1037 K1037 A1037
    have kc1038 := Keep.trans (ws := [t]) (Keep.refl _ [t]) K1037 (allS (Or.inl (List.mem_of_getElem? (i := 0) rfl)) all0)
    refine W.iload 44 d_method_4_42 rfl rfl ?_
    refine W.iconst 45 d_method_4_44 rfl (1 : Int32) rfl ?_
    refine W.iadd 46 d_method_4_45 rfl (pos + (1 : Int32)) rfl ?_
    exact W.ireturn d_method_4_46 rfl ⟨rfl, by rw [← hs1.2.2]; exact A1037, kc1038⟩ (by decide) (by decide)
theorem c_put0111 (l : Launch) (Z : State) (a0 : Array Value) (hw : HwT Z a0) (m pos : Int32) (t : Addr) (h : Heap) (n0 : Nat) (hn : n0 ≤ h.size) : Con l Z (⟨"com/example/eccentra/eccentra/MainVertexDistancesPinLaw", "put", "(IZZII[II)I"⟩ : MethodName) method_4_code 7 (some .int) ({ frames := 2, cells := 0, slots := 0, locals := 50 } : Room) #[(.int m), (.int (0 : Int32)), (.int (1 : Int32)), (.int (1 : Int32)), (.int (1 : Int32)), (.ref t), (.int pos)] h n0 (fun r h' => r = some (.int pos) ∧ h' = h) := by
  refine ConG.of_W (Ls := #[.val (.int m), .val (.int (0 : Int32)), .val (.int (1 : Int32)), .val (.int (1 : Int32)), .val (.int (1 : Int32)), .val (.ref t), .val (.int pos)]) (plainFor_of_name pn_0) hn (fun m => by first | (simp [entryFrame, mkF, argsToLocals, Value.category]; done) | rfl) ?_
  refine W.iload 2 d_method_4_0 rfl rfl ?_
  refine W.iloadN 3 d_method_4_2 rfl rfl ?_
  refine W.icmp_eq 47 6 d_method_4_3 rfl rfl (fun _ => ?_) (fun hc => absurd (by decide) hc)
  refine W.iload 49 d_method_4_47 rfl rfl ?_
  exact W.ireturn d_method_4_49 rfl ⟨rfl, rfl⟩ (by decide) (by decide)
theorem c_put0112 (l : Launch) (Z : State) (a0 : Array Value) (hw : HwT Z a0) (m pos q : Int32) (t : Addr) (xs ys : List Int32) (h : Heap) (n0 : Nat) (hn : n0 ≤ h.size) (gt : n0 ≤ t) (A : Ary Z h t .int (xs.map Value.int)) (hm : own_put (own_h m (5 : Int32)) (2 : Int32) xs pos = some (ys, q)) : Con l Z (⟨"com/example/eccentra/eccentra/MainVertexDistancesPinLaw", "put", "(IZZII[II)I"⟩ : MethodName) method_4_code 7 (some .int) ({ frames := 2, cells := 0, slots := 0, locals := 50 } : Room) #[(.int m), (.int (0 : Int32)), (.int (1 : Int32)), (.int (1 : Int32)), (.int (2 : Int32)), (.ref t), (.int pos)] h n0 (fun r h' => r = some (.int q) ∧ Ary Z h' t .int (ys.map Value.int) ∧ Keep h h' [t]) := by
  refine ConG.of_W (Ls := #[.val (.int m), .val (.int (0 : Int32)), .val (.int (1 : Int32)), .val (.int (1 : Int32)), .val (.int (2 : Int32)), .val (.ref t), .val (.int pos)]) (plainFor_of_name pn_0) hn (fun m => by first | (simp [entryFrame, mkF, argsToLocals, Value.category]; done) | rfl) ?_
  refine W.iload 2 d_method_4_0 rfl rfl ?_
  refine W.iloadN 3 d_method_4_2 rfl rfl ?_
  refine W.icmp_eq 47 6 d_method_4_3 rfl rfl (fun hc => absurd hc (by decide)) (fun _ => ?_)
  refine W.iloadN 7 d_method_4_6 rfl rfl ?_
  refine W.if_eq 24 10 d_method_4_7 rfl rfl (fun hc => absurd hc (by decide)) (fun _ => ?_)
  refine W.iloadN 11 d_method_4_10 rfl rfl ?_
  refine W.iloadN 12 d_method_4_11 rfl rfl ?_
  refine W.iloadN 13 d_method_4_12 rfl rfl ?_
  refine W.iload 15 d_method_4_13 rfl rfl ?_
  refine W.callS (rest := []) (argsL := [(.int m), (.int (0 : Int32)), (.int (1 : Int32)), (.int (2 : Int32))]) 18 d_method_4_15 rfl (fun hn => c_has012 l Z a0 hw m _ n0 hn) (wd_9 hw) (wd_10 hw) (wd_4 hw) (wd_11 hw) (by decide) pd_1 rfl rfl rfl (by decide) 0 (Nat.le_of_ble_eq_true rfl) (by decide) (by decide) (by decide) ?_
  rintro v1039 h1039 ⟨rfl, rfl⟩
  show WG _ _ _ _ _ _ _ _ _ _ _ _ 0 0 18 #[.val (.int m), .val (.int (0 : Int32)), .val (.int (1 : Int32)), .val (.int (1 : Int32)), .val (.int (2 : Int32)), .val (.ref t), .val (.int pos)] [(.int (own_h m (5 : Int32)))]
  refine W.if_eq 47 21 d_method_4_18 rfl rfl ?_ ?_
  · intro hc1040
    refine W.iload 49 d_method_4_47 rfl rfl ?_
    rw [own_put_def, if_pos hc1040] at hm
    cases hm
    exact W.ireturn d_method_4_49 rfl ⟨rfl, A, (Keep.refl _ [t])⟩ (by decide) (by decide)
  · intro hc1040
    refine W.goto 35 d_method_4_21 rfl ?_
    rw [own_put_def, if_neg hc1040] at hm
    obtain ⟨ys', hys, hm⟩ := Option.bind_eq_some_iff.mp hm
    have hs1 := own_set_ok hys
    cases hm
    refine W.aload 37 d_method_4_35 rfl rfl rfl ?_
    refine W.iload 39 d_method_4_37 rfl rfl ?_
    refine W.iload 41 d_method_4_39 rfl rfl ?_
    refine W.iastore 42 d_method_4_41 rfl A pos.toNatClampNeg rfl hs1.1 hs1.2.1 gt ?_
    intro h1041 W1041 K1041 A1041
    have kc1042 := Keep.trans (ws := [t]) (Keep.refl _ [t]) K1041 (allS (Or.inl (List.mem_of_getElem? (i := 0) rfl)) all0)
    refine W.iload 44 d_method_4_42 rfl rfl ?_
    refine W.iconst 45 d_method_4_44 rfl (1 : Int32) rfl ?_
    refine W.iadd 46 d_method_4_45 rfl (pos + (1 : Int32)) rfl ?_
    exact W.ireturn d_method_4_46 rfl ⟨rfl, by rw [← hs1.2.2]; exact A1041, kc1042⟩ (by decide) (by decide)
theorem c_put0120 (l : Launch) (Z : State) (a0 : Array Value) (hw : HwT Z a0) (m pos q : Int32) (t : Addr) (xs ys : List Int32) (h : Heap) (n0 : Nat) (hn : n0 ≤ h.size) (gt : n0 ≤ t) (A : Ary Z h t .int (xs.map Value.int)) (hm : own_put (own_h m (2 : Int32)) (0 : Int32) xs pos = some (ys, q)) : Con l Z (⟨"com/example/eccentra/eccentra/MainVertexDistancesPinLaw", "put", "(IZZII[II)I"⟩ : MethodName) method_4_code 7 (some .int) ({ frames := 2, cells := 0, slots := 0, locals := 50 } : Room) #[(.int m), (.int (0 : Int32)), (.int (1 : Int32)), (.int (2 : Int32)), (.int (0 : Int32)), (.ref t), (.int pos)] h n0 (fun r h' => r = some (.int q) ∧ Ary Z h' t .int (ys.map Value.int) ∧ Keep h h' [t]) := by
  refine ConG.of_W (Ls := #[.val (.int m), .val (.int (0 : Int32)), .val (.int (1 : Int32)), .val (.int (2 : Int32)), .val (.int (0 : Int32)), .val (.ref t), .val (.int pos)]) (plainFor_of_name pn_0) hn (fun m => by first | (simp [entryFrame, mkF, argsToLocals, Value.category]; done) | rfl) ?_
  refine W.iload 2 d_method_4_0 rfl rfl ?_
  refine W.iloadN 3 d_method_4_2 rfl rfl ?_
  refine W.icmp_eq 47 6 d_method_4_3 rfl rfl (fun hc => absurd hc (by decide)) (fun _ => ?_)
  refine W.iloadN 7 d_method_4_6 rfl rfl ?_
  refine W.if_eq 24 10 d_method_4_7 rfl rfl (fun hc => absurd hc (by decide)) (fun _ => ?_)
  refine W.iloadN 11 d_method_4_10 rfl rfl ?_
  refine W.iloadN 12 d_method_4_11 rfl rfl ?_
  refine W.iloadN 13 d_method_4_12 rfl rfl ?_
  refine W.iload 15 d_method_4_13 rfl rfl ?_
  refine W.callS (rest := []) (argsL := [(.int m), (.int (0 : Int32)), (.int (2 : Int32)), (.int (0 : Int32))]) 18 d_method_4_15 rfl (fun hn => c_has020 l Z a0 hw m _ n0 hn) (wd_9 hw) (wd_10 hw) (wd_4 hw) (wd_11 hw) (by decide) pd_1 rfl rfl rfl (by decide) 0 (Nat.le_of_ble_eq_true rfl) (by decide) (by decide) (by decide) ?_
  rintro v1043 h1043 ⟨rfl, rfl⟩
  show WG _ _ _ _ _ _ _ _ _ _ _ _ 0 0 18 #[.val (.int m), .val (.int (0 : Int32)), .val (.int (1 : Int32)), .val (.int (2 : Int32)), .val (.int (0 : Int32)), .val (.ref t), .val (.int pos)] [(.int (own_h m (2 : Int32)))]
  refine W.if_eq 47 21 d_method_4_18 rfl rfl ?_ ?_
  · intro hc1044
    refine W.iload 49 d_method_4_47 rfl rfl ?_
    rw [own_put_def, if_pos hc1044] at hm
    cases hm
    exact W.ireturn d_method_4_49 rfl ⟨rfl, A, (Keep.refl _ [t])⟩ (by decide) (by decide)
  · intro hc1044
    refine W.goto 35 d_method_4_21 rfl ?_
    rw [own_put_def, if_neg hc1044] at hm
    obtain ⟨ys', hys, hm⟩ := Option.bind_eq_some_iff.mp hm
    have hs1 := own_set_ok hys
    cases hm
    refine W.aload 37 d_method_4_35 rfl rfl rfl ?_
    refine W.iload 39 d_method_4_37 rfl rfl ?_
    refine W.iload 41 d_method_4_39 rfl rfl ?_
    refine W.iastore 42 d_method_4_41 rfl A pos.toNatClampNeg rfl hs1.1 hs1.2.1 gt ?_
    intro h1045 W1045 K1045 A1045
    have kc1046 := Keep.trans (ws := [t]) (Keep.refl _ [t]) K1045 (allS (Or.inl (List.mem_of_getElem? (i := 0) rfl)) all0)
    refine W.iload 44 d_method_4_42 rfl rfl ?_
    refine W.iconst 45 d_method_4_44 rfl (1 : Int32) rfl ?_
    refine W.iadd 46 d_method_4_45 rfl (pos + (1 : Int32)) rfl ?_
    exact W.ireturn d_method_4_46 rfl ⟨rfl, by rw [← hs1.2.2]; exact A1045, kc1046⟩ (by decide) (by decide)
theorem c_put0121 (l : Launch) (Z : State) (a0 : Array Value) (hw : HwT Z a0) (m pos q : Int32) (t : Addr) (xs ys : List Int32) (h : Heap) (n0 : Nat) (hn : n0 ≤ h.size) (gt : n0 ≤ t) (A : Ary Z h t .int (xs.map Value.int)) (hm : own_put (own_h m (5 : Int32)) (1 : Int32) xs pos = some (ys, q)) : Con l Z (⟨"com/example/eccentra/eccentra/MainVertexDistancesPinLaw", "put", "(IZZII[II)I"⟩ : MethodName) method_4_code 7 (some .int) ({ frames := 2, cells := 0, slots := 0, locals := 50 } : Room) #[(.int m), (.int (0 : Int32)), (.int (1 : Int32)), (.int (2 : Int32)), (.int (1 : Int32)), (.ref t), (.int pos)] h n0 (fun r h' => r = some (.int q) ∧ Ary Z h' t .int (ys.map Value.int) ∧ Keep h h' [t]) := by
  refine ConG.of_W (Ls := #[.val (.int m), .val (.int (0 : Int32)), .val (.int (1 : Int32)), .val (.int (2 : Int32)), .val (.int (1 : Int32)), .val (.ref t), .val (.int pos)]) (plainFor_of_name pn_0) hn (fun m => by first | (simp [entryFrame, mkF, argsToLocals, Value.category]; done) | rfl) ?_
  refine W.iload 2 d_method_4_0 rfl rfl ?_
  refine W.iloadN 3 d_method_4_2 rfl rfl ?_
  refine W.icmp_eq 47 6 d_method_4_3 rfl rfl (fun hc => absurd hc (by decide)) (fun _ => ?_)
  refine W.iloadN 7 d_method_4_6 rfl rfl ?_
  refine W.if_eq 24 10 d_method_4_7 rfl rfl (fun hc => absurd hc (by decide)) (fun _ => ?_)
  refine W.iloadN 11 d_method_4_10 rfl rfl ?_
  refine W.iloadN 12 d_method_4_11 rfl rfl ?_
  refine W.iloadN 13 d_method_4_12 rfl rfl ?_
  refine W.iload 15 d_method_4_13 rfl rfl ?_
  refine W.callS (rest := []) (argsL := [(.int m), (.int (0 : Int32)), (.int (2 : Int32)), (.int (1 : Int32))]) 18 d_method_4_15 rfl (fun hn => c_has021 l Z a0 hw m _ n0 hn) (wd_9 hw) (wd_10 hw) (wd_4 hw) (wd_11 hw) (by decide) pd_1 rfl rfl rfl (by decide) 0 (Nat.le_of_ble_eq_true rfl) (by decide) (by decide) (by decide) ?_
  rintro v1047 h1047 ⟨rfl, rfl⟩
  show WG _ _ _ _ _ _ _ _ _ _ _ _ 0 0 18 #[.val (.int m), .val (.int (0 : Int32)), .val (.int (1 : Int32)), .val (.int (2 : Int32)), .val (.int (1 : Int32)), .val (.ref t), .val (.int pos)] [(.int (own_h m (5 : Int32)))]
  refine W.if_eq 47 21 d_method_4_18 rfl rfl ?_ ?_
  · intro hc1048
    refine W.iload 49 d_method_4_47 rfl rfl ?_
    rw [own_put_def, if_pos hc1048] at hm
    cases hm
    exact W.ireturn d_method_4_49 rfl ⟨rfl, A, (Keep.refl _ [t])⟩ (by decide) (by decide)
  · intro hc1048
    refine W.goto 35 d_method_4_21 rfl ?_
    rw [own_put_def, if_neg hc1048] at hm
    obtain ⟨ys', hys, hm⟩ := Option.bind_eq_some_iff.mp hm
    have hs1 := own_set_ok hys
    cases hm
    refine W.aload 37 d_method_4_35 rfl rfl rfl ?_
    refine W.iload 39 d_method_4_37 rfl rfl ?_
    refine W.iload 41 d_method_4_39 rfl rfl ?_
    refine W.iastore 42 d_method_4_41 rfl A pos.toNatClampNeg rfl hs1.1 hs1.2.1 gt ?_
    intro h1049 W1049 K1049 A1049
    have kc1050 := Keep.trans (ws := [t]) (Keep.refl _ [t]) K1049 (allS (Or.inl (List.mem_of_getElem? (i := 0) rfl)) all0)
    refine W.iload 44 d_method_4_42 rfl rfl ?_
    refine W.iconst 45 d_method_4_44 rfl (1 : Int32) rfl ?_
    refine W.iadd 46 d_method_4_45 rfl (pos + (1 : Int32)) rfl ?_
    exact W.ireturn d_method_4_46 rfl ⟨rfl, by rw [← hs1.2.2]; exact A1049, kc1050⟩ (by decide) (by decide)
theorem c_put0122 (l : Launch) (Z : State) (a0 : Array Value) (hw : HwT Z a0) (m pos : Int32) (t : Addr) (h : Heap) (n0 : Nat) (hn : n0 ≤ h.size) : Con l Z (⟨"com/example/eccentra/eccentra/MainVertexDistancesPinLaw", "put", "(IZZII[II)I"⟩ : MethodName) method_4_code 7 (some .int) ({ frames := 2, cells := 0, slots := 0, locals := 50 } : Room) #[(.int m), (.int (0 : Int32)), (.int (1 : Int32)), (.int (2 : Int32)), (.int (2 : Int32)), (.ref t), (.int pos)] h n0 (fun r h' => r = some (.int pos) ∧ h' = h) := by
  refine ConG.of_W (Ls := #[.val (.int m), .val (.int (0 : Int32)), .val (.int (1 : Int32)), .val (.int (2 : Int32)), .val (.int (2 : Int32)), .val (.ref t), .val (.int pos)]) (plainFor_of_name pn_0) hn (fun m => by first | (simp [entryFrame, mkF, argsToLocals, Value.category]; done) | rfl) ?_
  refine W.iload 2 d_method_4_0 rfl rfl ?_
  refine W.iloadN 3 d_method_4_2 rfl rfl ?_
  refine W.icmp_eq 47 6 d_method_4_3 rfl rfl (fun _ => ?_) (fun hc => absurd (by decide) hc)
  refine W.iload 49 d_method_4_47 rfl rfl ?_
  exact W.ireturn d_method_4_49 rfl ⟨rfl, rfl⟩ (by decide) (by decide)
theorem c_fil010 (l : Launch) (Z : State) (a0 : Array Value) (hw : HwT Z a0) (m pos q : Int32) (t : Addr) (xs ys : List Int32) (h : Heap) (n0 : Nat) (hn : n0 ≤ h.size) (gt : n0 ≤ t) (A : Ary Z h t .int (xs.map Value.int)) (hm : own_fill2 (own_h m (1 : Int32)) (1 : Int32) (own_h m (2 : Int32)) (2 : Int32) xs pos = some (ys, q)) : Con l Z (⟨"com/example/eccentra/eccentra/MainVertexDistancesPinLaw", "fill", "(IZZI[II)I"⟩ : MethodName) method_5_code 7 (some .int) ({ frames := 3, cells := 0, slots := 0, locals := 90 } : Room) #[(.int m), (.int (0 : Int32)), (.int (1 : Int32)), (.int (0 : Int32)), (.ref t), (.int pos)] h n0 (fun r h' => r = some (.int q) ∧ Ary Z h' t .int (ys.map Value.int) ∧ Keep h h' [t]) := by
  refine ConG.of_W (Ls := #[.val (.int m), .val (.int (0 : Int32)), .val (.int (1 : Int32)), .val (.int (0 : Int32)), .val (.ref t), .val (.int pos), .unset]) (plainFor_of_name pn_0) hn (fun m => by first | (simp [entryFrame, mkF, argsToLocals, Value.category]; done) | rfl) ?_
  obtain ⟨r1, hm1, hm2⟩ := Option.bind_eq_some_iff.mp hm
  refine W.iloadN 1 d_method_5_0 rfl rfl ?_
  refine W.iloadN 2 d_method_5_1 rfl rfl ?_
  refine W.iloadN 3 d_method_5_2 rfl rfl ?_
  refine W.iloadN 4 d_method_5_3 rfl rfl ?_
  refine W.iconst 5 d_method_5_4 rfl (0 : Int32) rfl ?_
  refine W.aload 7 d_method_5_5 rfl rfl rfl ?_
  refine W.iload 9 d_method_5_7 rfl rfl ?_
  refine W.callS (rest := []) (argsL := [(.int m), (.int (0 : Int32)), (.int (1 : Int32)), (.int (0 : Int32)), (.int (0 : Int32)), (.ref t), (.int pos)]) 12 d_method_5_9 rfl (fun hn => c_put0100 l Z a0 hw m pos t _ n0 hn) (wd_6 hw) (wd_7 hw) (wd_4 hw) (wd_8 hw) (by decide) pd_2 rfl rfl rfl (by decide) 0 (Nat.le_of_ble_eq_true rfl) (by decide) (by decide) (by decide) ?_
  rintro v1051 h1051 ⟨rfl, rfl⟩
  show WG _ _ _ _ _ _ _ _ _ _ _ _ 0 0 12 #[.val (.int m), .val (.int (0 : Int32)), .val (.int (1 : Int32)), .val (.int (0 : Int32)), .val (.ref t), .val (.int pos), .unset] [(.int pos)]
  refine W.istore 14 d_method_5_12 rfl #[.val (.int m), .val (.int (0 : Int32)), .val (.int (1 : Int32)), .val (.int (0 : Int32)), .val (.ref t), .val (.int pos), .val (.int pos)] rfl ?_
  refine W.iloadN 15 d_method_5_14 rfl rfl ?_
  refine W.iloadN 16 d_method_5_15 rfl rfl ?_
  refine W.iloadN 17 d_method_5_16 rfl rfl ?_
  refine W.iloadN 18 d_method_5_17 rfl rfl ?_
  refine W.iconst 19 d_method_5_18 rfl (1 : Int32) rfl ?_
  refine W.aload 21 d_method_5_19 rfl rfl rfl ?_
  refine W.iload 23 d_method_5_21 rfl rfl ?_
  refine W.callS (rest := []) (argsL := [(.int m), (.int (0 : Int32)), (.int (1 : Int32)), (.int (0 : Int32)), (.int (1 : Int32)), (.ref t), (.int pos)]) 26 d_method_5_23 rfl (fun hn => c_put0101 l Z a0 hw m pos r1.2 t xs r1.1 _ n0 hn gt A hm1) (wd_6 hw) (wd_7 hw) (wd_4 hw) (wd_8 hw) (by decide) pd_2 rfl rfl rfl (by decide) 0 (Nat.le_of_ble_eq_true rfl) (by decide) (by decide) (by decide) ?_
  rintro v1052 h1052 ⟨rfl, A1052, K1052⟩
  have kc1053 := Keep.trans (ws := [t]) (Keep.refl _ [t]) K1052 (allS (Or.inl (List.mem_of_getElem? (i := 0) rfl)) all0)
  show WG _ _ _ _ _ _ _ _ _ _ _ _ 0 0 26 #[.val (.int m), .val (.int (0 : Int32)), .val (.int (1 : Int32)), .val (.int (0 : Int32)), .val (.ref t), .val (.int pos), .val (.int pos)] [(.int r1.2)]
  refine W.istore 28 d_method_5_26 rfl #[.val (.int m), .val (.int (0 : Int32)), .val (.int (1 : Int32)), .val (.int (0 : Int32)), .val (.ref t), .val (.int pos), .val (.int r1.2)] rfl ?_
  refine W.iloadN 29 d_method_5_28 rfl rfl ?_
  refine W.iloadN 30 d_method_5_29 rfl rfl ?_
  refine W.iloadN 31 d_method_5_30 rfl rfl ?_
  refine W.iloadN 32 d_method_5_31 rfl rfl ?_
  refine W.iconst 33 d_method_5_32 rfl (2 : Int32) rfl ?_
  refine W.aload 35 d_method_5_33 rfl rfl rfl ?_
  refine W.iload 37 d_method_5_35 rfl rfl ?_
  refine W.callS (rest := []) (argsL := [(.int m), (.int (0 : Int32)), (.int (1 : Int32)), (.int (0 : Int32)), (.int (2 : Int32)), (.ref t), (.int r1.2)]) 40 d_method_5_37 rfl (fun hn => c_put0102 l Z a0 hw m r1.2 q t r1.1 ys _ n0 hn gt A1052 hm2) (wd_6 hw) (wd_7 hw) (wd_4 hw) (wd_8 hw) (by decide) pd_2 rfl rfl rfl (by decide) 0 (Nat.le_of_ble_eq_true rfl) (by decide) (by decide) (by decide) ?_
  rintro v1054 h1054 ⟨rfl, A1054, K1054⟩
  have kc1055 := Keep.trans (ws := [t]) kc1053 K1054 (allS (Or.inl (List.mem_of_getElem? (i := 0) rfl)) all0)
  show WG _ _ _ _ _ _ _ _ _ _ _ _ 0 0 40 #[.val (.int m), .val (.int (0 : Int32)), .val (.int (1 : Int32)), .val (.int (0 : Int32)), .val (.ref t), .val (.int pos), .val (.int r1.2)] [(.int q)]
  exact W.ireturn d_method_5_40 rfl ⟨rfl, A1054, kc1055⟩ (by decide) (by decide)
theorem c_fil011 (l : Launch) (Z : State) (a0 : Array Value) (hw : HwT Z a0) (m pos q : Int32) (t : Addr) (xs ys : List Int32) (h : Heap) (n0 : Nat) (hn : n0 ≤ h.size) (gt : n0 ≤ t) (A : Ary Z h t .int (xs.map Value.int)) (hm : own_fill2 (own_h m (1 : Int32)) (0 : Int32) (own_h m (5 : Int32)) (2 : Int32) xs pos = some (ys, q)) : Con l Z (⟨"com/example/eccentra/eccentra/MainVertexDistancesPinLaw", "fill", "(IZZI[II)I"⟩ : MethodName) method_5_code 7 (some .int) ({ frames := 3, cells := 0, slots := 0, locals := 90 } : Room) #[(.int m), (.int (0 : Int32)), (.int (1 : Int32)), (.int (1 : Int32)), (.ref t), (.int pos)] h n0 (fun r h' => r = some (.int q) ∧ Ary Z h' t .int (ys.map Value.int) ∧ Keep h h' [t]) := by
  refine ConG.of_W (Ls := #[.val (.int m), .val (.int (0 : Int32)), .val (.int (1 : Int32)), .val (.int (1 : Int32)), .val (.ref t), .val (.int pos), .unset]) (plainFor_of_name pn_0) hn (fun m => by first | (simp [entryFrame, mkF, argsToLocals, Value.category]; done) | rfl) ?_
  obtain ⟨r1, hm1, hm2⟩ := Option.bind_eq_some_iff.mp hm
  refine W.iloadN 1 d_method_5_0 rfl rfl ?_
  refine W.iloadN 2 d_method_5_1 rfl rfl ?_
  refine W.iloadN 3 d_method_5_2 rfl rfl ?_
  refine W.iloadN 4 d_method_5_3 rfl rfl ?_
  refine W.iconst 5 d_method_5_4 rfl (0 : Int32) rfl ?_
  refine W.aload 7 d_method_5_5 rfl rfl rfl ?_
  refine W.iload 9 d_method_5_7 rfl rfl ?_
  refine W.callS (rest := []) (argsL := [(.int m), (.int (0 : Int32)), (.int (1 : Int32)), (.int (1 : Int32)), (.int (0 : Int32)), (.ref t), (.int pos)]) 12 d_method_5_9 rfl (fun hn => c_put0110 l Z a0 hw m pos r1.2 t xs r1.1 _ n0 hn gt A hm1) (wd_6 hw) (wd_7 hw) (wd_4 hw) (wd_8 hw) (by decide) pd_2 rfl rfl rfl (by decide) 0 (Nat.le_of_ble_eq_true rfl) (by decide) (by decide) (by decide) ?_
  rintro v1056 h1056 ⟨rfl, A1056, K1056⟩
  have kc1057 := Keep.trans (ws := [t]) (Keep.refl _ [t]) K1056 (allS (Or.inl (List.mem_of_getElem? (i := 0) rfl)) all0)
  show WG _ _ _ _ _ _ _ _ _ _ _ _ 0 0 12 #[.val (.int m), .val (.int (0 : Int32)), .val (.int (1 : Int32)), .val (.int (1 : Int32)), .val (.ref t), .val (.int pos), .unset] [(.int r1.2)]
  refine W.istore 14 d_method_5_12 rfl #[.val (.int m), .val (.int (0 : Int32)), .val (.int (1 : Int32)), .val (.int (1 : Int32)), .val (.ref t), .val (.int pos), .val (.int r1.2)] rfl ?_
  refine W.iloadN 15 d_method_5_14 rfl rfl ?_
  refine W.iloadN 16 d_method_5_15 rfl rfl ?_
  refine W.iloadN 17 d_method_5_16 rfl rfl ?_
  refine W.iloadN 18 d_method_5_17 rfl rfl ?_
  refine W.iconst 19 d_method_5_18 rfl (1 : Int32) rfl ?_
  refine W.aload 21 d_method_5_19 rfl rfl rfl ?_
  refine W.iload 23 d_method_5_21 rfl rfl ?_
  refine W.callS (rest := []) (argsL := [(.int m), (.int (0 : Int32)), (.int (1 : Int32)), (.int (1 : Int32)), (.int (1 : Int32)), (.ref t), (.int r1.2)]) 26 d_method_5_23 rfl (fun hn => c_put0111 l Z a0 hw m r1.2 t _ n0 hn) (wd_6 hw) (wd_7 hw) (wd_4 hw) (wd_8 hw) (by decide) pd_2 rfl rfl rfl (by decide) 0 (Nat.le_of_ble_eq_true rfl) (by decide) (by decide) (by decide) ?_
  rintro v1058 h1058 ⟨rfl, rfl⟩
  show WG _ _ _ _ _ _ _ _ _ _ _ _ 0 0 26 #[.val (.int m), .val (.int (0 : Int32)), .val (.int (1 : Int32)), .val (.int (1 : Int32)), .val (.ref t), .val (.int pos), .val (.int r1.2)] [(.int r1.2)]
  refine W.istore 28 d_method_5_26 rfl #[.val (.int m), .val (.int (0 : Int32)), .val (.int (1 : Int32)), .val (.int (1 : Int32)), .val (.ref t), .val (.int pos), .val (.int r1.2)] rfl ?_
  refine W.iloadN 29 d_method_5_28 rfl rfl ?_
  refine W.iloadN 30 d_method_5_29 rfl rfl ?_
  refine W.iloadN 31 d_method_5_30 rfl rfl ?_
  refine W.iloadN 32 d_method_5_31 rfl rfl ?_
  refine W.iconst 33 d_method_5_32 rfl (2 : Int32) rfl ?_
  refine W.aload 35 d_method_5_33 rfl rfl rfl ?_
  refine W.iload 37 d_method_5_35 rfl rfl ?_
  refine W.callS (rest := []) (argsL := [(.int m), (.int (0 : Int32)), (.int (1 : Int32)), (.int (1 : Int32)), (.int (2 : Int32)), (.ref t), (.int r1.2)]) 40 d_method_5_37 rfl (fun hn => c_put0112 l Z a0 hw m r1.2 q t r1.1 ys _ n0 hn gt A1056 hm2) (wd_6 hw) (wd_7 hw) (wd_4 hw) (wd_8 hw) (by decide) pd_2 rfl rfl rfl (by decide) 0 (Nat.le_of_ble_eq_true rfl) (by decide) (by decide) (by decide) ?_
  rintro v1059 h1059 ⟨rfl, A1059, K1059⟩
  have kc1060 := Keep.trans (ws := [t]) kc1057 K1059 (allS (Or.inl (List.mem_of_getElem? (i := 0) rfl)) all0)
  show WG _ _ _ _ _ _ _ _ _ _ _ _ 0 0 40 #[.val (.int m), .val (.int (0 : Int32)), .val (.int (1 : Int32)), .val (.int (1 : Int32)), .val (.ref t), .val (.int pos), .val (.int r1.2)] [(.int q)]
  exact W.ireturn d_method_5_40 rfl ⟨rfl, A1059, kc1060⟩ (by decide) (by decide)
theorem c_fil012 (l : Launch) (Z : State) (a0 : Array Value) (hw : HwT Z a0) (m pos q : Int32) (t : Addr) (xs ys : List Int32) (h : Heap) (n0 : Nat) (hn : n0 ≤ h.size) (gt : n0 ≤ t) (A : Ary Z h t .int (xs.map Value.int)) (hm : own_fill2 (own_h m (2 : Int32)) (0 : Int32) (own_h m (5 : Int32)) (1 : Int32) xs pos = some (ys, q)) : Con l Z (⟨"com/example/eccentra/eccentra/MainVertexDistancesPinLaw", "fill", "(IZZI[II)I"⟩ : MethodName) method_5_code 7 (some .int) ({ frames := 3, cells := 0, slots := 0, locals := 90 } : Room) #[(.int m), (.int (0 : Int32)), (.int (1 : Int32)), (.int (2 : Int32)), (.ref t), (.int pos)] h n0 (fun r h' => r = some (.int q) ∧ Ary Z h' t .int (ys.map Value.int) ∧ Keep h h' [t]) := by
  refine ConG.of_W (Ls := #[.val (.int m), .val (.int (0 : Int32)), .val (.int (1 : Int32)), .val (.int (2 : Int32)), .val (.ref t), .val (.int pos), .unset]) (plainFor_of_name pn_0) hn (fun m => by first | (simp [entryFrame, mkF, argsToLocals, Value.category]; done) | rfl) ?_
  obtain ⟨r1, hm1, hm2⟩ := Option.bind_eq_some_iff.mp hm
  refine W.iloadN 1 d_method_5_0 rfl rfl ?_
  refine W.iloadN 2 d_method_5_1 rfl rfl ?_
  refine W.iloadN 3 d_method_5_2 rfl rfl ?_
  refine W.iloadN 4 d_method_5_3 rfl rfl ?_
  refine W.iconst 5 d_method_5_4 rfl (0 : Int32) rfl ?_
  refine W.aload 7 d_method_5_5 rfl rfl rfl ?_
  refine W.iload 9 d_method_5_7 rfl rfl ?_
  refine W.callS (rest := []) (argsL := [(.int m), (.int (0 : Int32)), (.int (1 : Int32)), (.int (2 : Int32)), (.int (0 : Int32)), (.ref t), (.int pos)]) 12 d_method_5_9 rfl (fun hn => c_put0120 l Z a0 hw m pos r1.2 t xs r1.1 _ n0 hn gt A hm1) (wd_6 hw) (wd_7 hw) (wd_4 hw) (wd_8 hw) (by decide) pd_2 rfl rfl rfl (by decide) 0 (Nat.le_of_ble_eq_true rfl) (by decide) (by decide) (by decide) ?_
  rintro v1061 h1061 ⟨rfl, A1061, K1061⟩
  have kc1062 := Keep.trans (ws := [t]) (Keep.refl _ [t]) K1061 (allS (Or.inl (List.mem_of_getElem? (i := 0) rfl)) all0)
  show WG _ _ _ _ _ _ _ _ _ _ _ _ 0 0 12 #[.val (.int m), .val (.int (0 : Int32)), .val (.int (1 : Int32)), .val (.int (2 : Int32)), .val (.ref t), .val (.int pos), .unset] [(.int r1.2)]
  refine W.istore 14 d_method_5_12 rfl #[.val (.int m), .val (.int (0 : Int32)), .val (.int (1 : Int32)), .val (.int (2 : Int32)), .val (.ref t), .val (.int pos), .val (.int r1.2)] rfl ?_
  refine W.iloadN 15 d_method_5_14 rfl rfl ?_
  refine W.iloadN 16 d_method_5_15 rfl rfl ?_
  refine W.iloadN 17 d_method_5_16 rfl rfl ?_
  refine W.iloadN 18 d_method_5_17 rfl rfl ?_
  refine W.iconst 19 d_method_5_18 rfl (1 : Int32) rfl ?_
  refine W.aload 21 d_method_5_19 rfl rfl rfl ?_
  refine W.iload 23 d_method_5_21 rfl rfl ?_
  refine W.callS (rest := []) (argsL := [(.int m), (.int (0 : Int32)), (.int (1 : Int32)), (.int (2 : Int32)), (.int (1 : Int32)), (.ref t), (.int r1.2)]) 26 d_method_5_23 rfl (fun hn => c_put0121 l Z a0 hw m r1.2 q t r1.1 ys _ n0 hn gt A1061 hm2) (wd_6 hw) (wd_7 hw) (wd_4 hw) (wd_8 hw) (by decide) pd_2 rfl rfl rfl (by decide) 0 (Nat.le_of_ble_eq_true rfl) (by decide) (by decide) (by decide) ?_
  rintro v1063 h1063 ⟨rfl, A1063, K1063⟩
  have kc1064 := Keep.trans (ws := [t]) kc1062 K1063 (allS (Or.inl (List.mem_of_getElem? (i := 0) rfl)) all0)
  show WG _ _ _ _ _ _ _ _ _ _ _ _ 0 0 26 #[.val (.int m), .val (.int (0 : Int32)), .val (.int (1 : Int32)), .val (.int (2 : Int32)), .val (.ref t), .val (.int pos), .val (.int r1.2)] [(.int q)]
  refine W.istore 28 d_method_5_26 rfl #[.val (.int m), .val (.int (0 : Int32)), .val (.int (1 : Int32)), .val (.int (2 : Int32)), .val (.ref t), .val (.int pos), .val (.int q)] rfl ?_
  refine W.iloadN 29 d_method_5_28 rfl rfl ?_
  refine W.iloadN 30 d_method_5_29 rfl rfl ?_
  refine W.iloadN 31 d_method_5_30 rfl rfl ?_
  refine W.iloadN 32 d_method_5_31 rfl rfl ?_
  refine W.iconst 33 d_method_5_32 rfl (2 : Int32) rfl ?_
  refine W.aload 35 d_method_5_33 rfl rfl rfl ?_
  refine W.iload 37 d_method_5_35 rfl rfl ?_
  refine W.callS (rest := []) (argsL := [(.int m), (.int (0 : Int32)), (.int (1 : Int32)), (.int (2 : Int32)), (.int (2 : Int32)), (.ref t), (.int q)]) 40 d_method_5_37 rfl (fun hn => c_put0122 l Z a0 hw m q t _ n0 hn) (wd_6 hw) (wd_7 hw) (wd_4 hw) (wd_8 hw) (by decide) pd_2 rfl rfl rfl (by decide) 0 (Nat.le_of_ble_eq_true rfl) (by decide) (by decide) (by decide) ?_
  rintro v1065 h1065 ⟨rfl, rfl⟩
  show WG _ _ _ _ _ _ _ _ _ _ _ _ 0 0 40 #[.val (.int m), .val (.int (0 : Int32)), .val (.int (1 : Int32)), .val (.int (2 : Int32)), .val (.ref t), .val (.int pos), .val (.int q)] [(.int q)]
  exact W.ireturn d_method_5_40 rfl ⟨rfl, A1063, kc1064⟩ (by decide) (by decide)
theorem c_put1100 (l : Launch) (Z : State) (a0 : Array Value) (hw : HwT Z a0) (m pos : Int32) (t : Addr) (h : Heap) (n0 : Nat) (hn : n0 ≤ h.size) : Con l Z (⟨"com/example/eccentra/eccentra/MainVertexDistancesPinLaw", "put", "(IZZII[II)I"⟩ : MethodName) method_4_code 7 (some .int) ({ frames := 2, cells := 0, slots := 0, locals := 50 } : Room) #[(.int m), (.int (1 : Int32)), (.int (1 : Int32)), (.int (0 : Int32)), (.int (0 : Int32)), (.ref t), (.int pos)] h n0 (fun r h' => r = some (.int pos) ∧ h' = h) := by
  refine ConG.of_W (Ls := #[.val (.int m), .val (.int (1 : Int32)), .val (.int (1 : Int32)), .val (.int (0 : Int32)), .val (.int (0 : Int32)), .val (.ref t), .val (.int pos)]) (plainFor_of_name pn_0) hn (fun m => by first | (simp [entryFrame, mkF, argsToLocals, Value.category]; done) | rfl) ?_
  refine W.iload 2 d_method_4_0 rfl rfl ?_
  refine W.iloadN 3 d_method_4_2 rfl rfl ?_
  refine W.icmp_eq 47 6 d_method_4_3 rfl rfl (fun _ => ?_) (fun hc => absurd (by decide) hc)
  refine W.iload 49 d_method_4_47 rfl rfl ?_
  exact W.ireturn d_method_4_49 rfl ⟨rfl, rfl⟩ (by decide) (by decide)
theorem c_put1101 (l : Launch) (Z : State) (a0 : Array Value) (hw : HwT Z a0) (m pos q : Int32) (t : Addr) (xs ys : List Int32) (h : Heap) (n0 : Nat) (hn : n0 ≤ h.size) (gt : n0 ≤ t) (A : Ary Z h t .int (xs.map Value.int)) (hm : own_put (own_h m (1 : Int32)) (1 : Int32) xs pos = some (ys, q)) : Con l Z (⟨"com/example/eccentra/eccentra/MainVertexDistancesPinLaw", "put", "(IZZII[II)I"⟩ : MethodName) method_4_code 7 (some .int) ({ frames := 2, cells := 0, slots := 0, locals := 50 } : Room) #[(.int m), (.int (1 : Int32)), (.int (1 : Int32)), (.int (0 : Int32)), (.int (1 : Int32)), (.ref t), (.int pos)] h n0 (fun r h' => r = some (.int q) ∧ Ary Z h' t .int (ys.map Value.int) ∧ Keep h h' [t]) := by
  refine ConG.of_W (Ls := #[.val (.int m), .val (.int (1 : Int32)), .val (.int (1 : Int32)), .val (.int (0 : Int32)), .val (.int (1 : Int32)), .val (.ref t), .val (.int pos)]) (plainFor_of_name pn_0) hn (fun m => by first | (simp [entryFrame, mkF, argsToLocals, Value.category]; done) | rfl) ?_
  refine W.iload 2 d_method_4_0 rfl rfl ?_
  refine W.iloadN 3 d_method_4_2 rfl rfl ?_
  refine W.icmp_eq 47 6 d_method_4_3 rfl rfl (fun hc => absurd hc (by decide)) (fun _ => ?_)
  refine W.iloadN 7 d_method_4_6 rfl rfl ?_
  refine W.if_eq 24 10 d_method_4_7 rfl rfl (fun hc => absurd hc (by decide)) (fun _ => ?_)
  refine W.iloadN 11 d_method_4_10 rfl rfl ?_
  refine W.iloadN 12 d_method_4_11 rfl rfl ?_
  refine W.iloadN 13 d_method_4_12 rfl rfl ?_
  refine W.iload 15 d_method_4_13 rfl rfl ?_
  refine W.callS (rest := []) (argsL := [(.int m), (.int (1 : Int32)), (.int (0 : Int32)), (.int (1 : Int32))]) 18 d_method_4_15 rfl (fun hn => c_has101 l Z a0 hw m _ n0 hn) (wd_9 hw) (wd_10 hw) (wd_4 hw) (wd_11 hw) (by decide) pd_1 rfl rfl rfl (by decide) 0 (Nat.le_of_ble_eq_true rfl) (by decide) (by decide) (by decide) ?_
  rintro v1066 h1066 ⟨rfl, rfl⟩
  show WG _ _ _ _ _ _ _ _ _ _ _ _ 0 0 18 #[.val (.int m), .val (.int (1 : Int32)), .val (.int (1 : Int32)), .val (.int (0 : Int32)), .val (.int (1 : Int32)), .val (.ref t), .val (.int pos)] [(.int (own_h m (1 : Int32)))]
  refine W.if_eq 47 21 d_method_4_18 rfl rfl ?_ ?_
  · intro hc1067
    refine W.iload 49 d_method_4_47 rfl rfl ?_
    rw [own_put_def, if_pos hc1067] at hm
    cases hm
    exact W.ireturn d_method_4_49 rfl ⟨rfl, A, (Keep.refl _ [t])⟩ (by decide) (by decide)
  · intro hc1067
    refine W.goto 35 d_method_4_21 rfl ?_
    rw [own_put_def, if_neg hc1067] at hm
    obtain ⟨ys', hys, hm⟩ := Option.bind_eq_some_iff.mp hm
    have hs1 := own_set_ok hys
    cases hm
    refine W.aload 37 d_method_4_35 rfl rfl rfl ?_
    refine W.iload 39 d_method_4_37 rfl rfl ?_
    refine W.iload 41 d_method_4_39 rfl rfl ?_
    refine W.iastore 42 d_method_4_41 rfl A pos.toNatClampNeg rfl hs1.1 hs1.2.1 gt ?_
    intro h1068 W1068 K1068 A1068
    have kc1069 := Keep.trans (ws := [t]) (Keep.refl _ [t]) K1068 (allS (Or.inl (List.mem_of_getElem? (i := 0) rfl)) all0)
    refine W.iload 44 d_method_4_42 rfl rfl ?_
    refine W.iconst 45 d_method_4_44 rfl (1 : Int32) rfl ?_
    refine W.iadd 46 d_method_4_45 rfl (pos + (1 : Int32)) rfl ?_
    exact W.ireturn d_method_4_46 rfl ⟨rfl, by rw [← hs1.2.2]; exact A1068, kc1069⟩ (by decide) (by decide)
theorem c_put1102 (l : Launch) (Z : State) (a0 : Array Value) (hw : HwT Z a0) (m pos q : Int32) (t : Addr) (xs ys : List Int32) (h : Heap) (n0 : Nat) (hn : n0 ≤ h.size) (gt : n0 ≤ t) (A : Ary Z h t .int (xs.map Value.int)) (hm : own_put (own_h m (2 : Int32)) (2 : Int32) xs pos = some (ys, q)) : Con l Z (⟨"com/example/eccentra/eccentra/MainVertexDistancesPinLaw", "put", "(IZZII[II)I"⟩ : MethodName) method_4_code 7 (some .int) ({ frames := 2, cells := 0, slots := 0, locals := 50 } : Room) #[(.int m), (.int (1 : Int32)), (.int (1 : Int32)), (.int (0 : Int32)), (.int (2 : Int32)), (.ref t), (.int pos)] h n0 (fun r h' => r = some (.int q) ∧ Ary Z h' t .int (ys.map Value.int) ∧ Keep h h' [t]) := by
  refine ConG.of_W (Ls := #[.val (.int m), .val (.int (1 : Int32)), .val (.int (1 : Int32)), .val (.int (0 : Int32)), .val (.int (2 : Int32)), .val (.ref t), .val (.int pos)]) (plainFor_of_name pn_0) hn (fun m => by first | (simp [entryFrame, mkF, argsToLocals, Value.category]; done) | rfl) ?_
  refine W.iload 2 d_method_4_0 rfl rfl ?_
  refine W.iloadN 3 d_method_4_2 rfl rfl ?_
  refine W.icmp_eq 47 6 d_method_4_3 rfl rfl (fun hc => absurd hc (by decide)) (fun _ => ?_)
  refine W.iloadN 7 d_method_4_6 rfl rfl ?_
  refine W.if_eq 24 10 d_method_4_7 rfl rfl (fun hc => absurd hc (by decide)) (fun _ => ?_)
  refine W.iloadN 11 d_method_4_10 rfl rfl ?_
  refine W.iloadN 12 d_method_4_11 rfl rfl ?_
  refine W.iloadN 13 d_method_4_12 rfl rfl ?_
  refine W.iload 15 d_method_4_13 rfl rfl ?_
  refine W.callS (rest := []) (argsL := [(.int m), (.int (1 : Int32)), (.int (0 : Int32)), (.int (2 : Int32))]) 18 d_method_4_15 rfl (fun hn => c_has102 l Z a0 hw m _ n0 hn) (wd_9 hw) (wd_10 hw) (wd_4 hw) (wd_11 hw) (by decide) pd_1 rfl rfl rfl (by decide) 0 (Nat.le_of_ble_eq_true rfl) (by decide) (by decide) (by decide) ?_
  rintro v1070 h1070 ⟨rfl, rfl⟩
  show WG _ _ _ _ _ _ _ _ _ _ _ _ 0 0 18 #[.val (.int m), .val (.int (1 : Int32)), .val (.int (1 : Int32)), .val (.int (0 : Int32)), .val (.int (2 : Int32)), .val (.ref t), .val (.int pos)] [(.int (own_h m (2 : Int32)))]
  refine W.if_eq 47 21 d_method_4_18 rfl rfl ?_ ?_
  · intro hc1071
    refine W.iload 49 d_method_4_47 rfl rfl ?_
    rw [own_put_def, if_pos hc1071] at hm
    cases hm
    exact W.ireturn d_method_4_49 rfl ⟨rfl, A, (Keep.refl _ [t])⟩ (by decide) (by decide)
  · intro hc1071
    refine W.goto 35 d_method_4_21 rfl ?_
    rw [own_put_def, if_neg hc1071] at hm
    obtain ⟨ys', hys, hm⟩ := Option.bind_eq_some_iff.mp hm
    have hs1 := own_set_ok hys
    cases hm
    refine W.aload 37 d_method_4_35 rfl rfl rfl ?_
    refine W.iload 39 d_method_4_37 rfl rfl ?_
    refine W.iload 41 d_method_4_39 rfl rfl ?_
    refine W.iastore 42 d_method_4_41 rfl A pos.toNatClampNeg rfl hs1.1 hs1.2.1 gt ?_
    intro h1072 W1072 K1072 A1072
    have kc1073 := Keep.trans (ws := [t]) (Keep.refl _ [t]) K1072 (allS (Or.inl (List.mem_of_getElem? (i := 0) rfl)) all0)
    refine W.iload 44 d_method_4_42 rfl rfl ?_
    refine W.iconst 45 d_method_4_44 rfl (1 : Int32) rfl ?_
    refine W.iadd 46 d_method_4_45 rfl (pos + (1 : Int32)) rfl ?_
    exact W.ireturn d_method_4_46 rfl ⟨rfl, by rw [← hs1.2.2]; exact A1072, kc1073⟩ (by decide) (by decide)
theorem c_put1110 (l : Launch) (Z : State) (a0 : Array Value) (hw : HwT Z a0) (m pos q : Int32) (t : Addr) (xs ys : List Int32) (h : Heap) (n0 : Nat) (hn : n0 ≤ h.size) (gt : n0 ≤ t) (A : Ary Z h t .int (xs.map Value.int)) (hm : own_put (own_h m (3 : Int32)) (0 : Int32) xs pos = some (ys, q)) : Con l Z (⟨"com/example/eccentra/eccentra/MainVertexDistancesPinLaw", "put", "(IZZII[II)I"⟩ : MethodName) method_4_code 7 (some .int) ({ frames := 2, cells := 0, slots := 0, locals := 50 } : Room) #[(.int m), (.int (1 : Int32)), (.int (1 : Int32)), (.int (1 : Int32)), (.int (0 : Int32)), (.ref t), (.int pos)] h n0 (fun r h' => r = some (.int q) ∧ Ary Z h' t .int (ys.map Value.int) ∧ Keep h h' [t]) := by
  refine ConG.of_W (Ls := #[.val (.int m), .val (.int (1 : Int32)), .val (.int (1 : Int32)), .val (.int (1 : Int32)), .val (.int (0 : Int32)), .val (.ref t), .val (.int pos)]) (plainFor_of_name pn_0) hn (fun m => by first | (simp [entryFrame, mkF, argsToLocals, Value.category]; done) | rfl) ?_
  refine W.iload 2 d_method_4_0 rfl rfl ?_
  refine W.iloadN 3 d_method_4_2 rfl rfl ?_
  refine W.icmp_eq 47 6 d_method_4_3 rfl rfl (fun hc => absurd hc (by decide)) (fun _ => ?_)
  refine W.iloadN 7 d_method_4_6 rfl rfl ?_
  refine W.if_eq 24 10 d_method_4_7 rfl rfl (fun hc => absurd hc (by decide)) (fun _ => ?_)
  refine W.iloadN 11 d_method_4_10 rfl rfl ?_
  refine W.iloadN 12 d_method_4_11 rfl rfl ?_
  refine W.iloadN 13 d_method_4_12 rfl rfl ?_
  refine W.iload 15 d_method_4_13 rfl rfl ?_
  refine W.callS (rest := []) (argsL := [(.int m), (.int (1 : Int32)), (.int (1 : Int32)), (.int (0 : Int32))]) 18 d_method_4_15 rfl (fun hn => c_has110 l Z a0 hw m _ n0 hn) (wd_9 hw) (wd_10 hw) (wd_4 hw) (wd_11 hw) (by decide) pd_1 rfl rfl rfl (by decide) 0 (Nat.le_of_ble_eq_true rfl) (by decide) (by decide) (by decide) ?_
  rintro v1074 h1074 ⟨rfl, rfl⟩
  show WG _ _ _ _ _ _ _ _ _ _ _ _ 0 0 18 #[.val (.int m), .val (.int (1 : Int32)), .val (.int (1 : Int32)), .val (.int (1 : Int32)), .val (.int (0 : Int32)), .val (.ref t), .val (.int pos)] [(.int (own_h m (3 : Int32)))]
  refine W.if_eq 47 21 d_method_4_18 rfl rfl ?_ ?_
  · intro hc1075
    refine W.iload 49 d_method_4_47 rfl rfl ?_
    rw [own_put_def, if_pos hc1075] at hm
    cases hm
    exact W.ireturn d_method_4_49 rfl ⟨rfl, A, (Keep.refl _ [t])⟩ (by decide) (by decide)
  · intro hc1075
    refine W.goto 35 d_method_4_21 rfl ?_
    rw [own_put_def, if_neg hc1075] at hm
    obtain ⟨ys', hys, hm⟩ := Option.bind_eq_some_iff.mp hm
    have hs1 := own_set_ok hys
    cases hm
    refine W.aload 37 d_method_4_35 rfl rfl rfl ?_
    refine W.iload 39 d_method_4_37 rfl rfl ?_
    refine W.iload 41 d_method_4_39 rfl rfl ?_
    refine W.iastore 42 d_method_4_41 rfl A pos.toNatClampNeg rfl hs1.1 hs1.2.1 gt ?_
    intro h1076 W1076 K1076 A1076
    have kc1077 := Keep.trans (ws := [t]) (Keep.refl _ [t]) K1076 (allS (Or.inl (List.mem_of_getElem? (i := 0) rfl)) all0)
    refine W.iload 44 d_method_4_42 rfl rfl ?_
    refine W.iconst 45 d_method_4_44 rfl (1 : Int32) rfl ?_
    refine W.iadd 46 d_method_4_45 rfl (pos + (1 : Int32)) rfl ?_
    exact W.ireturn d_method_4_46 rfl ⟨rfl, by rw [← hs1.2.2]; exact A1076, kc1077⟩ (by decide) (by decide)
theorem c_put1111 (l : Launch) (Z : State) (a0 : Array Value) (hw : HwT Z a0) (m pos : Int32) (t : Addr) (h : Heap) (n0 : Nat) (hn : n0 ≤ h.size) : Con l Z (⟨"com/example/eccentra/eccentra/MainVertexDistancesPinLaw", "put", "(IZZII[II)I"⟩ : MethodName) method_4_code 7 (some .int) ({ frames := 2, cells := 0, slots := 0, locals := 50 } : Room) #[(.int m), (.int (1 : Int32)), (.int (1 : Int32)), (.int (1 : Int32)), (.int (1 : Int32)), (.ref t), (.int pos)] h n0 (fun r h' => r = some (.int pos) ∧ h' = h) := by
  refine ConG.of_W (Ls := #[.val (.int m), .val (.int (1 : Int32)), .val (.int (1 : Int32)), .val (.int (1 : Int32)), .val (.int (1 : Int32)), .val (.ref t), .val (.int pos)]) (plainFor_of_name pn_0) hn (fun m => by first | (simp [entryFrame, mkF, argsToLocals, Value.category]; done) | rfl) ?_
  refine W.iload 2 d_method_4_0 rfl rfl ?_
  refine W.iloadN 3 d_method_4_2 rfl rfl ?_
  refine W.icmp_eq 47 6 d_method_4_3 rfl rfl (fun _ => ?_) (fun hc => absurd (by decide) hc)
  refine W.iload 49 d_method_4_47 rfl rfl ?_
  exact W.ireturn d_method_4_49 rfl ⟨rfl, rfl⟩ (by decide) (by decide)
theorem c_put1112 (l : Launch) (Z : State) (a0 : Array Value) (hw : HwT Z a0) (m pos q : Int32) (t : Addr) (xs ys : List Int32) (h : Heap) (n0 : Nat) (hn : n0 ≤ h.size) (gt : n0 ≤ t) (A : Ary Z h t .int (xs.map Value.int)) (hm : own_put (own_h m (5 : Int32)) (2 : Int32) xs pos = some (ys, q)) : Con l Z (⟨"com/example/eccentra/eccentra/MainVertexDistancesPinLaw", "put", "(IZZII[II)I"⟩ : MethodName) method_4_code 7 (some .int) ({ frames := 2, cells := 0, slots := 0, locals := 50 } : Room) #[(.int m), (.int (1 : Int32)), (.int (1 : Int32)), (.int (1 : Int32)), (.int (2 : Int32)), (.ref t), (.int pos)] h n0 (fun r h' => r = some (.int q) ∧ Ary Z h' t .int (ys.map Value.int) ∧ Keep h h' [t]) := by
  refine ConG.of_W (Ls := #[.val (.int m), .val (.int (1 : Int32)), .val (.int (1 : Int32)), .val (.int (1 : Int32)), .val (.int (2 : Int32)), .val (.ref t), .val (.int pos)]) (plainFor_of_name pn_0) hn (fun m => by first | (simp [entryFrame, mkF, argsToLocals, Value.category]; done) | rfl) ?_
  refine W.iload 2 d_method_4_0 rfl rfl ?_
  refine W.iloadN 3 d_method_4_2 rfl rfl ?_
  refine W.icmp_eq 47 6 d_method_4_3 rfl rfl (fun hc => absurd hc (by decide)) (fun _ => ?_)
  refine W.iloadN 7 d_method_4_6 rfl rfl ?_
  refine W.if_eq 24 10 d_method_4_7 rfl rfl (fun hc => absurd hc (by decide)) (fun _ => ?_)
  refine W.iloadN 11 d_method_4_10 rfl rfl ?_
  refine W.iloadN 12 d_method_4_11 rfl rfl ?_
  refine W.iloadN 13 d_method_4_12 rfl rfl ?_
  refine W.iload 15 d_method_4_13 rfl rfl ?_
  refine W.callS (rest := []) (argsL := [(.int m), (.int (1 : Int32)), (.int (1 : Int32)), (.int (2 : Int32))]) 18 d_method_4_15 rfl (fun hn => c_has112 l Z a0 hw m _ n0 hn) (wd_9 hw) (wd_10 hw) (wd_4 hw) (wd_11 hw) (by decide) pd_1 rfl rfl rfl (by decide) 0 (Nat.le_of_ble_eq_true rfl) (by decide) (by decide) (by decide) ?_
  rintro v1078 h1078 ⟨rfl, rfl⟩
  show WG _ _ _ _ _ _ _ _ _ _ _ _ 0 0 18 #[.val (.int m), .val (.int (1 : Int32)), .val (.int (1 : Int32)), .val (.int (1 : Int32)), .val (.int (2 : Int32)), .val (.ref t), .val (.int pos)] [(.int (own_h m (5 : Int32)))]
  refine W.if_eq 47 21 d_method_4_18 rfl rfl ?_ ?_
  · intro hc1079
    refine W.iload 49 d_method_4_47 rfl rfl ?_
    rw [own_put_def, if_pos hc1079] at hm
    cases hm
    exact W.ireturn d_method_4_49 rfl ⟨rfl, A, (Keep.refl _ [t])⟩ (by decide) (by decide)
  · intro hc1079
    refine W.goto 35 d_method_4_21 rfl ?_
    rw [own_put_def, if_neg hc1079] at hm
    obtain ⟨ys', hys, hm⟩ := Option.bind_eq_some_iff.mp hm
    have hs1 := own_set_ok hys
    cases hm
    refine W.aload 37 d_method_4_35 rfl rfl rfl ?_
    refine W.iload 39 d_method_4_37 rfl rfl ?_
    refine W.iload 41 d_method_4_39 rfl rfl ?_
    refine W.iastore 42 d_method_4_41 rfl A pos.toNatClampNeg rfl hs1.1 hs1.2.1 gt ?_
    intro h1080 W1080 K1080 A1080
    have kc1081 := Keep.trans (ws := [t]) (Keep.refl _ [t]) K1080 (allS (Or.inl (List.mem_of_getElem? (i := 0) rfl)) all0)
    refine W.iload 44 d_method_4_42 rfl rfl ?_
    refine W.iconst 45 d_method_4_44 rfl (1 : Int32) rfl ?_
    refine W.iadd 46 d_method_4_45 rfl (pos + (1 : Int32)) rfl ?_
    exact W.ireturn d_method_4_46 rfl ⟨rfl, by rw [← hs1.2.2]; exact A1080, kc1081⟩ (by decide) (by decide)
theorem c_put1120 (l : Launch) (Z : State) (a0 : Array Value) (hw : HwT Z a0) (m pos q : Int32) (t : Addr) (xs ys : List Int32) (h : Heap) (n0 : Nat) (hn : n0 ≤ h.size) (gt : n0 ≤ t) (A : Ary Z h t .int (xs.map Value.int)) (hm : own_put (own_h m (6 : Int32)) (0 : Int32) xs pos = some (ys, q)) : Con l Z (⟨"com/example/eccentra/eccentra/MainVertexDistancesPinLaw", "put", "(IZZII[II)I"⟩ : MethodName) method_4_code 7 (some .int) ({ frames := 2, cells := 0, slots := 0, locals := 50 } : Room) #[(.int m), (.int (1 : Int32)), (.int (1 : Int32)), (.int (2 : Int32)), (.int (0 : Int32)), (.ref t), (.int pos)] h n0 (fun r h' => r = some (.int q) ∧ Ary Z h' t .int (ys.map Value.int) ∧ Keep h h' [t]) := by
  refine ConG.of_W (Ls := #[.val (.int m), .val (.int (1 : Int32)), .val (.int (1 : Int32)), .val (.int (2 : Int32)), .val (.int (0 : Int32)), .val (.ref t), .val (.int pos)]) (plainFor_of_name pn_0) hn (fun m => by first | (simp [entryFrame, mkF, argsToLocals, Value.category]; done) | rfl) ?_
  refine W.iload 2 d_method_4_0 rfl rfl ?_
  refine W.iloadN 3 d_method_4_2 rfl rfl ?_
  refine W.icmp_eq 47 6 d_method_4_3 rfl rfl (fun hc => absurd hc (by decide)) (fun _ => ?_)
  refine W.iloadN 7 d_method_4_6 rfl rfl ?_
  refine W.if_eq 24 10 d_method_4_7 rfl rfl (fun hc => absurd hc (by decide)) (fun _ => ?_)
  refine W.iloadN 11 d_method_4_10 rfl rfl ?_
  refine W.iloadN 12 d_method_4_11 rfl rfl ?_
  refine W.iloadN 13 d_method_4_12 rfl rfl ?_
  refine W.iload 15 d_method_4_13 rfl rfl ?_
  refine W.callS (rest := []) (argsL := [(.int m), (.int (1 : Int32)), (.int (2 : Int32)), (.int (0 : Int32))]) 18 d_method_4_15 rfl (fun hn => c_has120 l Z a0 hw m _ n0 hn) (wd_9 hw) (wd_10 hw) (wd_4 hw) (wd_11 hw) (by decide) pd_1 rfl rfl rfl (by decide) 0 (Nat.le_of_ble_eq_true rfl) (by decide) (by decide) (by decide) ?_
  rintro v1082 h1082 ⟨rfl, rfl⟩
  show WG _ _ _ _ _ _ _ _ _ _ _ _ 0 0 18 #[.val (.int m), .val (.int (1 : Int32)), .val (.int (1 : Int32)), .val (.int (2 : Int32)), .val (.int (0 : Int32)), .val (.ref t), .val (.int pos)] [(.int (own_h m (6 : Int32)))]
  refine W.if_eq 47 21 d_method_4_18 rfl rfl ?_ ?_
  · intro hc1083
    refine W.iload 49 d_method_4_47 rfl rfl ?_
    rw [own_put_def, if_pos hc1083] at hm
    cases hm
    exact W.ireturn d_method_4_49 rfl ⟨rfl, A, (Keep.refl _ [t])⟩ (by decide) (by decide)
  · intro hc1083
    refine W.goto 35 d_method_4_21 rfl ?_
    rw [own_put_def, if_neg hc1083] at hm
    obtain ⟨ys', hys, hm⟩ := Option.bind_eq_some_iff.mp hm
    have hs1 := own_set_ok hys
    cases hm
    refine W.aload 37 d_method_4_35 rfl rfl rfl ?_
    refine W.iload 39 d_method_4_37 rfl rfl ?_
    refine W.iload 41 d_method_4_39 rfl rfl ?_
    refine W.iastore 42 d_method_4_41 rfl A pos.toNatClampNeg rfl hs1.1 hs1.2.1 gt ?_
    intro h1084 W1084 K1084 A1084
    have kc1085 := Keep.trans (ws := [t]) (Keep.refl _ [t]) K1084 (allS (Or.inl (List.mem_of_getElem? (i := 0) rfl)) all0)
    refine W.iload 44 d_method_4_42 rfl rfl ?_
    refine W.iconst 45 d_method_4_44 rfl (1 : Int32) rfl ?_
    refine W.iadd 46 d_method_4_45 rfl (pos + (1 : Int32)) rfl ?_
    exact W.ireturn d_method_4_46 rfl ⟨rfl, by rw [← hs1.2.2]; exact A1084, kc1085⟩ (by decide) (by decide)
theorem c_put1121 (l : Launch) (Z : State) (a0 : Array Value) (hw : HwT Z a0) (m pos q : Int32) (t : Addr) (xs ys : List Int32) (h : Heap) (n0 : Nat) (hn : n0 ≤ h.size) (gt : n0 ≤ t) (A : Ary Z h t .int (xs.map Value.int)) (hm : own_put (own_h m (7 : Int32)) (1 : Int32) xs pos = some (ys, q)) : Con l Z (⟨"com/example/eccentra/eccentra/MainVertexDistancesPinLaw", "put", "(IZZII[II)I"⟩ : MethodName) method_4_code 7 (some .int) ({ frames := 2, cells := 0, slots := 0, locals := 50 } : Room) #[(.int m), (.int (1 : Int32)), (.int (1 : Int32)), (.int (2 : Int32)), (.int (1 : Int32)), (.ref t), (.int pos)] h n0 (fun r h' => r = some (.int q) ∧ Ary Z h' t .int (ys.map Value.int) ∧ Keep h h' [t]) := by
  refine ConG.of_W (Ls := #[.val (.int m), .val (.int (1 : Int32)), .val (.int (1 : Int32)), .val (.int (2 : Int32)), .val (.int (1 : Int32)), .val (.ref t), .val (.int pos)]) (plainFor_of_name pn_0) hn (fun m => by first | (simp [entryFrame, mkF, argsToLocals, Value.category]; done) | rfl) ?_
  refine W.iload 2 d_method_4_0 rfl rfl ?_
  refine W.iloadN 3 d_method_4_2 rfl rfl ?_
  refine W.icmp_eq 47 6 d_method_4_3 rfl rfl (fun hc => absurd hc (by decide)) (fun _ => ?_)
  refine W.iloadN 7 d_method_4_6 rfl rfl ?_
  refine W.if_eq 24 10 d_method_4_7 rfl rfl (fun hc => absurd hc (by decide)) (fun _ => ?_)
  refine W.iloadN 11 d_method_4_10 rfl rfl ?_
  refine W.iloadN 12 d_method_4_11 rfl rfl ?_
  refine W.iloadN 13 d_method_4_12 rfl rfl ?_
  refine W.iload 15 d_method_4_13 rfl rfl ?_
  refine W.callS (rest := []) (argsL := [(.int m), (.int (1 : Int32)), (.int (2 : Int32)), (.int (1 : Int32))]) 18 d_method_4_15 rfl (fun hn => c_has121 l Z a0 hw m _ n0 hn) (wd_9 hw) (wd_10 hw) (wd_4 hw) (wd_11 hw) (by decide) pd_1 rfl rfl rfl (by decide) 0 (Nat.le_of_ble_eq_true rfl) (by decide) (by decide) (by decide) ?_
  rintro v1086 h1086 ⟨rfl, rfl⟩
  show WG _ _ _ _ _ _ _ _ _ _ _ _ 0 0 18 #[.val (.int m), .val (.int (1 : Int32)), .val (.int (1 : Int32)), .val (.int (2 : Int32)), .val (.int (1 : Int32)), .val (.ref t), .val (.int pos)] [(.int (own_h m (7 : Int32)))]
  refine W.if_eq 47 21 d_method_4_18 rfl rfl ?_ ?_
  · intro hc1087
    refine W.iload 49 d_method_4_47 rfl rfl ?_
    rw [own_put_def, if_pos hc1087] at hm
    cases hm
    exact W.ireturn d_method_4_49 rfl ⟨rfl, A, (Keep.refl _ [t])⟩ (by decide) (by decide)
  · intro hc1087
    refine W.goto 35 d_method_4_21 rfl ?_
    rw [own_put_def, if_neg hc1087] at hm
    obtain ⟨ys', hys, hm⟩ := Option.bind_eq_some_iff.mp hm
    have hs1 := own_set_ok hys
    cases hm
    refine W.aload 37 d_method_4_35 rfl rfl rfl ?_
    refine W.iload 39 d_method_4_37 rfl rfl ?_
    refine W.iload 41 d_method_4_39 rfl rfl ?_
    refine W.iastore 42 d_method_4_41 rfl A pos.toNatClampNeg rfl hs1.1 hs1.2.1 gt ?_
    intro h1088 W1088 K1088 A1088
    have kc1089 := Keep.trans (ws := [t]) (Keep.refl _ [t]) K1088 (allS (Or.inl (List.mem_of_getElem? (i := 0) rfl)) all0)
    refine W.iload 44 d_method_4_42 rfl rfl ?_
    refine W.iconst 45 d_method_4_44 rfl (1 : Int32) rfl ?_
    refine W.iadd 46 d_method_4_45 rfl (pos + (1 : Int32)) rfl ?_
    exact W.ireturn d_method_4_46 rfl ⟨rfl, by rw [← hs1.2.2]; exact A1088, kc1089⟩ (by decide) (by decide)
theorem c_put1122 (l : Launch) (Z : State) (a0 : Array Value) (hw : HwT Z a0) (m pos : Int32) (t : Addr) (h : Heap) (n0 : Nat) (hn : n0 ≤ h.size) : Con l Z (⟨"com/example/eccentra/eccentra/MainVertexDistancesPinLaw", "put", "(IZZII[II)I"⟩ : MethodName) method_4_code 7 (some .int) ({ frames := 2, cells := 0, slots := 0, locals := 50 } : Room) #[(.int m), (.int (1 : Int32)), (.int (1 : Int32)), (.int (2 : Int32)), (.int (2 : Int32)), (.ref t), (.int pos)] h n0 (fun r h' => r = some (.int pos) ∧ h' = h) := by
  refine ConG.of_W (Ls := #[.val (.int m), .val (.int (1 : Int32)), .val (.int (1 : Int32)), .val (.int (2 : Int32)), .val (.int (2 : Int32)), .val (.ref t), .val (.int pos)]) (plainFor_of_name pn_0) hn (fun m => by first | (simp [entryFrame, mkF, argsToLocals, Value.category]; done) | rfl) ?_
  refine W.iload 2 d_method_4_0 rfl rfl ?_
  refine W.iloadN 3 d_method_4_2 rfl rfl ?_
  refine W.icmp_eq 47 6 d_method_4_3 rfl rfl (fun _ => ?_) (fun hc => absurd (by decide) hc)
  refine W.iload 49 d_method_4_47 rfl rfl ?_
  exact W.ireturn d_method_4_49 rfl ⟨rfl, rfl⟩ (by decide) (by decide)
theorem c_fil110 (l : Launch) (Z : State) (a0 : Array Value) (hw : HwT Z a0) (m pos q : Int32) (t : Addr) (xs ys : List Int32) (h : Heap) (n0 : Nat) (hn : n0 ≤ h.size) (gt : n0 ≤ t) (A : Ary Z h t .int (xs.map Value.int)) (hm : own_fill2 (own_h m (1 : Int32)) (1 : Int32) (own_h m (2 : Int32)) (2 : Int32) xs pos = some (ys, q)) : Con l Z (⟨"com/example/eccentra/eccentra/MainVertexDistancesPinLaw", "fill", "(IZZI[II)I"⟩ : MethodName) method_5_code 7 (some .int) ({ frames := 3, cells := 0, slots := 0, locals := 90 } : Room) #[(.int m), (.int (1 : Int32)), (.int (1 : Int32)), (.int (0 : Int32)), (.ref t), (.int pos)] h n0 (fun r h' => r = some (.int q) ∧ Ary Z h' t .int (ys.map Value.int) ∧ Keep h h' [t]) := by
  refine ConG.of_W (Ls := #[.val (.int m), .val (.int (1 : Int32)), .val (.int (1 : Int32)), .val (.int (0 : Int32)), .val (.ref t), .val (.int pos), .unset]) (plainFor_of_name pn_0) hn (fun m => by first | (simp [entryFrame, mkF, argsToLocals, Value.category]; done) | rfl) ?_
  obtain ⟨r1, hm1, hm2⟩ := Option.bind_eq_some_iff.mp hm
  refine W.iloadN 1 d_method_5_0 rfl rfl ?_
  refine W.iloadN 2 d_method_5_1 rfl rfl ?_
  refine W.iloadN 3 d_method_5_2 rfl rfl ?_
  refine W.iloadN 4 d_method_5_3 rfl rfl ?_
  refine W.iconst 5 d_method_5_4 rfl (0 : Int32) rfl ?_
  refine W.aload 7 d_method_5_5 rfl rfl rfl ?_
  refine W.iload 9 d_method_5_7 rfl rfl ?_
  refine W.callS (rest := []) (argsL := [(.int m), (.int (1 : Int32)), (.int (1 : Int32)), (.int (0 : Int32)), (.int (0 : Int32)), (.ref t), (.int pos)]) 12 d_method_5_9 rfl (fun hn => c_put1100 l Z a0 hw m pos t _ n0 hn) (wd_6 hw) (wd_7 hw) (wd_4 hw) (wd_8 hw) (by decide) pd_2 rfl rfl rfl (by decide) 0 (Nat.le_of_ble_eq_true rfl) (by decide) (by decide) (by decide) ?_
  rintro v1090 h1090 ⟨rfl, rfl⟩
  show WG _ _ _ _ _ _ _ _ _ _ _ _ 0 0 12 #[.val (.int m), .val (.int (1 : Int32)), .val (.int (1 : Int32)), .val (.int (0 : Int32)), .val (.ref t), .val (.int pos), .unset] [(.int pos)]
  refine W.istore 14 d_method_5_12 rfl #[.val (.int m), .val (.int (1 : Int32)), .val (.int (1 : Int32)), .val (.int (0 : Int32)), .val (.ref t), .val (.int pos), .val (.int pos)] rfl ?_
  refine W.iloadN 15 d_method_5_14 rfl rfl ?_
  refine W.iloadN 16 d_method_5_15 rfl rfl ?_
  refine W.iloadN 17 d_method_5_16 rfl rfl ?_
  refine W.iloadN 18 d_method_5_17 rfl rfl ?_
  refine W.iconst 19 d_method_5_18 rfl (1 : Int32) rfl ?_
  refine W.aload 21 d_method_5_19 rfl rfl rfl ?_
  refine W.iload 23 d_method_5_21 rfl rfl ?_
  refine W.callS (rest := []) (argsL := [(.int m), (.int (1 : Int32)), (.int (1 : Int32)), (.int (0 : Int32)), (.int (1 : Int32)), (.ref t), (.int pos)]) 26 d_method_5_23 rfl (fun hn => c_put1101 l Z a0 hw m pos r1.2 t xs r1.1 _ n0 hn gt A hm1) (wd_6 hw) (wd_7 hw) (wd_4 hw) (wd_8 hw) (by decide) pd_2 rfl rfl rfl (by decide) 0 (Nat.le_of_ble_eq_true rfl) (by decide) (by decide) (by decide) ?_
  rintro v1091 h1091 ⟨rfl, A1091, K1091⟩
  have kc1092 := Keep.trans (ws := [t]) (Keep.refl _ [t]) K1091 (allS (Or.inl (List.mem_of_getElem? (i := 0) rfl)) all0)
  show WG _ _ _ _ _ _ _ _ _ _ _ _ 0 0 26 #[.val (.int m), .val (.int (1 : Int32)), .val (.int (1 : Int32)), .val (.int (0 : Int32)), .val (.ref t), .val (.int pos), .val (.int pos)] [(.int r1.2)]
  refine W.istore 28 d_method_5_26 rfl #[.val (.int m), .val (.int (1 : Int32)), .val (.int (1 : Int32)), .val (.int (0 : Int32)), .val (.ref t), .val (.int pos), .val (.int r1.2)] rfl ?_
  refine W.iloadN 29 d_method_5_28 rfl rfl ?_
  refine W.iloadN 30 d_method_5_29 rfl rfl ?_
  refine W.iloadN 31 d_method_5_30 rfl rfl ?_
  refine W.iloadN 32 d_method_5_31 rfl rfl ?_
  refine W.iconst 33 d_method_5_32 rfl (2 : Int32) rfl ?_
  refine W.aload 35 d_method_5_33 rfl rfl rfl ?_
  refine W.iload 37 d_method_5_35 rfl rfl ?_
  refine W.callS (rest := []) (argsL := [(.int m), (.int (1 : Int32)), (.int (1 : Int32)), (.int (0 : Int32)), (.int (2 : Int32)), (.ref t), (.int r1.2)]) 40 d_method_5_37 rfl (fun hn => c_put1102 l Z a0 hw m r1.2 q t r1.1 ys _ n0 hn gt A1091 hm2) (wd_6 hw) (wd_7 hw) (wd_4 hw) (wd_8 hw) (by decide) pd_2 rfl rfl rfl (by decide) 0 (Nat.le_of_ble_eq_true rfl) (by decide) (by decide) (by decide) ?_
  rintro v1093 h1093 ⟨rfl, A1093, K1093⟩
  have kc1094 := Keep.trans (ws := [t]) kc1092 K1093 (allS (Or.inl (List.mem_of_getElem? (i := 0) rfl)) all0)
  show WG _ _ _ _ _ _ _ _ _ _ _ _ 0 0 40 #[.val (.int m), .val (.int (1 : Int32)), .val (.int (1 : Int32)), .val (.int (0 : Int32)), .val (.ref t), .val (.int pos), .val (.int r1.2)] [(.int q)]
  exact W.ireturn d_method_5_40 rfl ⟨rfl, A1093, kc1094⟩ (by decide) (by decide)
theorem c_fil111 (l : Launch) (Z : State) (a0 : Array Value) (hw : HwT Z a0) (m pos q : Int32) (t : Addr) (xs ys : List Int32) (h : Heap) (n0 : Nat) (hn : n0 ≤ h.size) (gt : n0 ≤ t) (A : Ary Z h t .int (xs.map Value.int)) (hm : own_fill2 (own_h m (3 : Int32)) (0 : Int32) (own_h m (5 : Int32)) (2 : Int32) xs pos = some (ys, q)) : Con l Z (⟨"com/example/eccentra/eccentra/MainVertexDistancesPinLaw", "fill", "(IZZI[II)I"⟩ : MethodName) method_5_code 7 (some .int) ({ frames := 3, cells := 0, slots := 0, locals := 90 } : Room) #[(.int m), (.int (1 : Int32)), (.int (1 : Int32)), (.int (1 : Int32)), (.ref t), (.int pos)] h n0 (fun r h' => r = some (.int q) ∧ Ary Z h' t .int (ys.map Value.int) ∧ Keep h h' [t]) := by
  refine ConG.of_W (Ls := #[.val (.int m), .val (.int (1 : Int32)), .val (.int (1 : Int32)), .val (.int (1 : Int32)), .val (.ref t), .val (.int pos), .unset]) (plainFor_of_name pn_0) hn (fun m => by first | (simp [entryFrame, mkF, argsToLocals, Value.category]; done) | rfl) ?_
  obtain ⟨r1, hm1, hm2⟩ := Option.bind_eq_some_iff.mp hm
  refine W.iloadN 1 d_method_5_0 rfl rfl ?_
  refine W.iloadN 2 d_method_5_1 rfl rfl ?_
  refine W.iloadN 3 d_method_5_2 rfl rfl ?_
  refine W.iloadN 4 d_method_5_3 rfl rfl ?_
  refine W.iconst 5 d_method_5_4 rfl (0 : Int32) rfl ?_
  refine W.aload 7 d_method_5_5 rfl rfl rfl ?_
  refine W.iload 9 d_method_5_7 rfl rfl ?_
  refine W.callS (rest := []) (argsL := [(.int m), (.int (1 : Int32)), (.int (1 : Int32)), (.int (1 : Int32)), (.int (0 : Int32)), (.ref t), (.int pos)]) 12 d_method_5_9 rfl (fun hn => c_put1110 l Z a0 hw m pos r1.2 t xs r1.1 _ n0 hn gt A hm1) (wd_6 hw) (wd_7 hw) (wd_4 hw) (wd_8 hw) (by decide) pd_2 rfl rfl rfl (by decide) 0 (Nat.le_of_ble_eq_true rfl) (by decide) (by decide) (by decide) ?_
  rintro v1095 h1095 ⟨rfl, A1095, K1095⟩
  have kc1096 := Keep.trans (ws := [t]) (Keep.refl _ [t]) K1095 (allS (Or.inl (List.mem_of_getElem? (i := 0) rfl)) all0)
  show WG _ _ _ _ _ _ _ _ _ _ _ _ 0 0 12 #[.val (.int m), .val (.int (1 : Int32)), .val (.int (1 : Int32)), .val (.int (1 : Int32)), .val (.ref t), .val (.int pos), .unset] [(.int r1.2)]
  refine W.istore 14 d_method_5_12 rfl #[.val (.int m), .val (.int (1 : Int32)), .val (.int (1 : Int32)), .val (.int (1 : Int32)), .val (.ref t), .val (.int pos), .val (.int r1.2)] rfl ?_
  refine W.iloadN 15 d_method_5_14 rfl rfl ?_
  refine W.iloadN 16 d_method_5_15 rfl rfl ?_
  refine W.iloadN 17 d_method_5_16 rfl rfl ?_
  refine W.iloadN 18 d_method_5_17 rfl rfl ?_
  refine W.iconst 19 d_method_5_18 rfl (1 : Int32) rfl ?_
  refine W.aload 21 d_method_5_19 rfl rfl rfl ?_
  refine W.iload 23 d_method_5_21 rfl rfl ?_
  refine W.callS (rest := []) (argsL := [(.int m), (.int (1 : Int32)), (.int (1 : Int32)), (.int (1 : Int32)), (.int (1 : Int32)), (.ref t), (.int r1.2)]) 26 d_method_5_23 rfl (fun hn => c_put1111 l Z a0 hw m r1.2 t _ n0 hn) (wd_6 hw) (wd_7 hw) (wd_4 hw) (wd_8 hw) (by decide) pd_2 rfl rfl rfl (by decide) 0 (Nat.le_of_ble_eq_true rfl) (by decide) (by decide) (by decide) ?_
  rintro v1097 h1097 ⟨rfl, rfl⟩
  show WG _ _ _ _ _ _ _ _ _ _ _ _ 0 0 26 #[.val (.int m), .val (.int (1 : Int32)), .val (.int (1 : Int32)), .val (.int (1 : Int32)), .val (.ref t), .val (.int pos), .val (.int r1.2)] [(.int r1.2)]
  refine W.istore 28 d_method_5_26 rfl #[.val (.int m), .val (.int (1 : Int32)), .val (.int (1 : Int32)), .val (.int (1 : Int32)), .val (.ref t), .val (.int pos), .val (.int r1.2)] rfl ?_
  refine W.iloadN 29 d_method_5_28 rfl rfl ?_
  refine W.iloadN 30 d_method_5_29 rfl rfl ?_
  refine W.iloadN 31 d_method_5_30 rfl rfl ?_
  refine W.iloadN 32 d_method_5_31 rfl rfl ?_
  refine W.iconst 33 d_method_5_32 rfl (2 : Int32) rfl ?_
  refine W.aload 35 d_method_5_33 rfl rfl rfl ?_
  refine W.iload 37 d_method_5_35 rfl rfl ?_
  refine W.callS (rest := []) (argsL := [(.int m), (.int (1 : Int32)), (.int (1 : Int32)), (.int (1 : Int32)), (.int (2 : Int32)), (.ref t), (.int r1.2)]) 40 d_method_5_37 rfl (fun hn => c_put1112 l Z a0 hw m r1.2 q t r1.1 ys _ n0 hn gt A1095 hm2) (wd_6 hw) (wd_7 hw) (wd_4 hw) (wd_8 hw) (by decide) pd_2 rfl rfl rfl (by decide) 0 (Nat.le_of_ble_eq_true rfl) (by decide) (by decide) (by decide) ?_
  rintro v1098 h1098 ⟨rfl, A1098, K1098⟩
  have kc1099 := Keep.trans (ws := [t]) kc1096 K1098 (allS (Or.inl (List.mem_of_getElem? (i := 0) rfl)) all0)
  show WG _ _ _ _ _ _ _ _ _ _ _ _ 0 0 40 #[.val (.int m), .val (.int (1 : Int32)), .val (.int (1 : Int32)), .val (.int (1 : Int32)), .val (.ref t), .val (.int pos), .val (.int r1.2)] [(.int q)]
  exact W.ireturn d_method_5_40 rfl ⟨rfl, A1098, kc1099⟩ (by decide) (by decide)
theorem c_fil112 (l : Launch) (Z : State) (a0 : Array Value) (hw : HwT Z a0) (m pos q : Int32) (t : Addr) (xs ys : List Int32) (h : Heap) (n0 : Nat) (hn : n0 ≤ h.size) (gt : n0 ≤ t) (A : Ary Z h t .int (xs.map Value.int)) (hm : own_fill2 (own_h m (6 : Int32)) (0 : Int32) (own_h m (7 : Int32)) (1 : Int32) xs pos = some (ys, q)) : Con l Z (⟨"com/example/eccentra/eccentra/MainVertexDistancesPinLaw", "fill", "(IZZI[II)I"⟩ : MethodName) method_5_code 7 (some .int) ({ frames := 3, cells := 0, slots := 0, locals := 90 } : Room) #[(.int m), (.int (1 : Int32)), (.int (1 : Int32)), (.int (2 : Int32)), (.ref t), (.int pos)] h n0 (fun r h' => r = some (.int q) ∧ Ary Z h' t .int (ys.map Value.int) ∧ Keep h h' [t]) := by
  refine ConG.of_W (Ls := #[.val (.int m), .val (.int (1 : Int32)), .val (.int (1 : Int32)), .val (.int (2 : Int32)), .val (.ref t), .val (.int pos), .unset]) (plainFor_of_name pn_0) hn (fun m => by first | (simp [entryFrame, mkF, argsToLocals, Value.category]; done) | rfl) ?_
  obtain ⟨r1, hm1, hm2⟩ := Option.bind_eq_some_iff.mp hm
  refine W.iloadN 1 d_method_5_0 rfl rfl ?_
  refine W.iloadN 2 d_method_5_1 rfl rfl ?_
  refine W.iloadN 3 d_method_5_2 rfl rfl ?_
  refine W.iloadN 4 d_method_5_3 rfl rfl ?_
  refine W.iconst 5 d_method_5_4 rfl (0 : Int32) rfl ?_
  refine W.aload 7 d_method_5_5 rfl rfl rfl ?_
  refine W.iload 9 d_method_5_7 rfl rfl ?_
  refine W.callS (rest := []) (argsL := [(.int m), (.int (1 : Int32)), (.int (1 : Int32)), (.int (2 : Int32)), (.int (0 : Int32)), (.ref t), (.int pos)]) 12 d_method_5_9 rfl (fun hn => c_put1120 l Z a0 hw m pos r1.2 t xs r1.1 _ n0 hn gt A hm1) (wd_6 hw) (wd_7 hw) (wd_4 hw) (wd_8 hw) (by decide) pd_2 rfl rfl rfl (by decide) 0 (Nat.le_of_ble_eq_true rfl) (by decide) (by decide) (by decide) ?_
  rintro v1100 h1100 ⟨rfl, A1100, K1100⟩
  have kc1101 := Keep.trans (ws := [t]) (Keep.refl _ [t]) K1100 (allS (Or.inl (List.mem_of_getElem? (i := 0) rfl)) all0)
  show WG _ _ _ _ _ _ _ _ _ _ _ _ 0 0 12 #[.val (.int m), .val (.int (1 : Int32)), .val (.int (1 : Int32)), .val (.int (2 : Int32)), .val (.ref t), .val (.int pos), .unset] [(.int r1.2)]
  refine W.istore 14 d_method_5_12 rfl #[.val (.int m), .val (.int (1 : Int32)), .val (.int (1 : Int32)), .val (.int (2 : Int32)), .val (.ref t), .val (.int pos), .val (.int r1.2)] rfl ?_
  refine W.iloadN 15 d_method_5_14 rfl rfl ?_
  refine W.iloadN 16 d_method_5_15 rfl rfl ?_
  refine W.iloadN 17 d_method_5_16 rfl rfl ?_
  refine W.iloadN 18 d_method_5_17 rfl rfl ?_
  refine W.iconst 19 d_method_5_18 rfl (1 : Int32) rfl ?_
  refine W.aload 21 d_method_5_19 rfl rfl rfl ?_
  refine W.iload 23 d_method_5_21 rfl rfl ?_
  refine W.callS (rest := []) (argsL := [(.int m), (.int (1 : Int32)), (.int (1 : Int32)), (.int (2 : Int32)), (.int (1 : Int32)), (.ref t), (.int r1.2)]) 26 d_method_5_23 rfl (fun hn => c_put1121 l Z a0 hw m r1.2 q t r1.1 ys _ n0 hn gt A1100 hm2) (wd_6 hw) (wd_7 hw) (wd_4 hw) (wd_8 hw) (by decide) pd_2 rfl rfl rfl (by decide) 0 (Nat.le_of_ble_eq_true rfl) (by decide) (by decide) (by decide) ?_
  rintro v1102 h1102 ⟨rfl, A1102, K1102⟩
  have kc1103 := Keep.trans (ws := [t]) kc1101 K1102 (allS (Or.inl (List.mem_of_getElem? (i := 0) rfl)) all0)
  show WG _ _ _ _ _ _ _ _ _ _ _ _ 0 0 26 #[.val (.int m), .val (.int (1 : Int32)), .val (.int (1 : Int32)), .val (.int (2 : Int32)), .val (.ref t), .val (.int pos), .val (.int r1.2)] [(.int q)]
  refine W.istore 28 d_method_5_26 rfl #[.val (.int m), .val (.int (1 : Int32)), .val (.int (1 : Int32)), .val (.int (2 : Int32)), .val (.ref t), .val (.int pos), .val (.int q)] rfl ?_
  refine W.iloadN 29 d_method_5_28 rfl rfl ?_
  refine W.iloadN 30 d_method_5_29 rfl rfl ?_
  refine W.iloadN 31 d_method_5_30 rfl rfl ?_
  refine W.iloadN 32 d_method_5_31 rfl rfl ?_
  refine W.iconst 33 d_method_5_32 rfl (2 : Int32) rfl ?_
  refine W.aload 35 d_method_5_33 rfl rfl rfl ?_
  refine W.iload 37 d_method_5_35 rfl rfl ?_
  refine W.callS (rest := []) (argsL := [(.int m), (.int (1 : Int32)), (.int (1 : Int32)), (.int (2 : Int32)), (.int (2 : Int32)), (.ref t), (.int q)]) 40 d_method_5_37 rfl (fun hn => c_put1122 l Z a0 hw m q t _ n0 hn) (wd_6 hw) (wd_7 hw) (wd_4 hw) (wd_8 hw) (by decide) pd_2 rfl rfl rfl (by decide) 0 (Nat.le_of_ble_eq_true rfl) (by decide) (by decide) (by decide) ?_
  rintro v1104 h1104 ⟨rfl, rfl⟩
  show WG _ _ _ _ _ _ _ _ _ _ _ _ 0 0 40 #[.val (.int m), .val (.int (1 : Int32)), .val (.int (1 : Int32)), .val (.int (2 : Int32)), .val (.ref t), .val (.int pos), .val (.int q)] [(.int q)]
  exact W.ireturn d_method_5_40 rfl ⟨rfl, A1102, kc1103⟩ (by decide) (by decide)
theorem c_put1000 (l : Launch) (Z : State) (a0 : Array Value) (hw : HwT Z a0) (m pos : Int32) (t : Addr) (h : Heap) (n0 : Nat) (hn : n0 ≤ h.size) : Con l Z (⟨"com/example/eccentra/eccentra/MainVertexDistancesPinLaw", "put", "(IZZII[II)I"⟩ : MethodName) method_4_code 7 (some .int) ({ frames := 2, cells := 0, slots := 0, locals := 50 } : Room) #[(.int m), (.int (1 : Int32)), (.int (0 : Int32)), (.int (0 : Int32)), (.int (0 : Int32)), (.ref t), (.int pos)] h n0 (fun r h' => r = some (.int pos) ∧ h' = h) := by
  refine ConG.of_W (Ls := #[.val (.int m), .val (.int (1 : Int32)), .val (.int (0 : Int32)), .val (.int (0 : Int32)), .val (.int (0 : Int32)), .val (.ref t), .val (.int pos)]) (plainFor_of_name pn_0) hn (fun m => by first | (simp [entryFrame, mkF, argsToLocals, Value.category]; done) | rfl) ?_
  refine W.iload 2 d_method_4_0 rfl rfl ?_
  refine W.iloadN 3 d_method_4_2 rfl rfl ?_
  refine W.icmp_eq 47 6 d_method_4_3 rfl rfl (fun _ => ?_) (fun hc => absurd (by decide) hc)
  refine W.iload 49 d_method_4_47 rfl rfl ?_
  exact W.ireturn d_method_4_49 rfl ⟨rfl, rfl⟩ (by decide) (by decide)
theorem c_put1001 (l : Launch) (Z : State) (a0 : Array Value) (hw : HwT Z a0) (m pos q : Int32) (t : Addr) (xs ys : List Int32) (h : Heap) (n0 : Nat) (hn : n0 ≤ h.size) (gt : n0 ≤ t) (A : Ary Z h t .int (xs.map Value.int)) (hm : own_put (own_h m (3 : Int32)) (1 : Int32) xs pos = some (ys, q)) : Con l Z (⟨"com/example/eccentra/eccentra/MainVertexDistancesPinLaw", "put", "(IZZII[II)I"⟩ : MethodName) method_4_code 7 (some .int) ({ frames := 2, cells := 0, slots := 0, locals := 50 } : Room) #[(.int m), (.int (1 : Int32)), (.int (0 : Int32)), (.int (0 : Int32)), (.int (1 : Int32)), (.ref t), (.int pos)] h n0 (fun r h' => r = some (.int q) ∧ Ary Z h' t .int (ys.map Value.int) ∧ Keep h h' [t]) := by
  refine ConG.of_W (Ls := #[.val (.int m), .val (.int (1 : Int32)), .val (.int (0 : Int32)), .val (.int (0 : Int32)), .val (.int (1 : Int32)), .val (.ref t), .val (.int pos)]) (plainFor_of_name pn_0) hn (fun m => by first | (simp [entryFrame, mkF, argsToLocals, Value.category]; done) | rfl) ?_
  refine W.iload 2 d_method_4_0 rfl rfl ?_
  refine W.iloadN 3 d_method_4_2 rfl rfl ?_
  refine W.icmp_eq 47 6 d_method_4_3 rfl rfl (fun hc => absurd hc (by decide)) (fun _ => ?_)
  refine W.iloadN 7 d_method_4_6 rfl rfl ?_
  refine W.if_eq 24 10 d_method_4_7 rfl rfl (fun _ => ?_) (fun hc => absurd (by decide) hc)
  refine W.iloadN 25 d_method_4_24 rfl rfl ?_
  refine W.iloadN 26 d_method_4_25 rfl rfl ?_
  refine W.iload 28 d_method_4_26 rfl rfl ?_
  refine W.iloadN 29 d_method_4_28 rfl rfl ?_
  refine W.callS (rest := []) (argsL := [(.int m), (.int (1 : Int32)), (.int (1 : Int32)), (.int (0 : Int32))]) 32 d_method_4_29 rfl (fun hn => c_has110 l Z a0 hw m _ n0 hn) (wd_9 hw) (wd_10 hw) (wd_4 hw) (wd_11 hw) (by decide) pd_1 rfl rfl rfl (by decide) 0 (Nat.le_of_ble_eq_true rfl) (by decide) (by decide) (by decide) ?_
  rintro v1105 h1105 ⟨rfl, rfl⟩
  show WG _ _ _ _ _ _ _ _ _ _ _ _ 0 0 32 #[.val (.int m), .val (.int (1 : Int32)), .val (.int (0 : Int32)), .val (.int (0 : Int32)), .val (.int (1 : Int32)), .val (.ref t), .val (.int pos)] [(.int (own_h m (3 : Int32)))]
  refine W.if_eq 47 35 d_method_4_32 rfl rfl ?_ ?_
  · intro hc1106
    refine W.iload 49 d_method_4_47 rfl rfl ?_
    rw [own_put_def, if_pos hc1106] at hm
    cases hm
    exact W.ireturn d_method_4_49 rfl ⟨rfl, A, (Keep.refl _ [t])⟩ (by decide) (by decide)
  · intro hc1106
    rw [own_put_def, if_neg hc1106] at hm
    obtain ⟨ys', hys, hm⟩ := Option.bind_eq_some_iff.mp hm
    have hs1 := own_set_ok hys
    cases hm
    refine W.aload 37 d_method_4_35 rfl rfl rfl ?_
    refine W.iload 39 d_method_4_37 rfl rfl ?_
    refine W.iload 41 d_method_4_39 rfl rfl ?_
    refine W.iastore 42 d_method_4_41 rfl A pos.toNatClampNeg rfl hs1.1 hs1.2.1 gt ?_
    intro h1107 W1107 K1107 A1107
    have kc1108 := Keep.trans (ws := [t]) (Keep.refl _ [t]) K1107 (allS (Or.inl (List.mem_of_getElem? (i := 0) rfl)) all0)
    refine W.iload 44 d_method_4_42 rfl rfl ?_
    refine W.iconst 45 d_method_4_44 rfl (1 : Int32) rfl ?_
    refine W.iadd 46 d_method_4_45 rfl (pos + (1 : Int32)) rfl ?_
    exact W.ireturn d_method_4_46 rfl ⟨rfl, by rw [← hs1.2.2]; exact A1107, kc1108⟩ (by decide) (by decide)
theorem c_put1002 (l : Launch) (Z : State) (a0 : Array Value) (hw : HwT Z a0) (m pos q : Int32) (t : Addr) (xs ys : List Int32) (h : Heap) (n0 : Nat) (hn : n0 ≤ h.size) (gt : n0 ≤ t) (A : Ary Z h t .int (xs.map Value.int)) (hm : own_put (own_h m (6 : Int32)) (2 : Int32) xs pos = some (ys, q)) : Con l Z (⟨"com/example/eccentra/eccentra/MainVertexDistancesPinLaw", "put", "(IZZII[II)I"⟩ : MethodName) method_4_code 7 (some .int) ({ frames := 2, cells := 0, slots := 0, locals := 50 } : Room) #[(.int m), (.int (1 : Int32)), (.int (0 : Int32)), (.int (0 : Int32)), (.int (2 : Int32)), (.ref t), (.int pos)] h n0 (fun r h' => r = some (.int q) ∧ Ary Z h' t .int (ys.map Value.int) ∧ Keep h h' [t]) := by
  refine ConG.of_W (Ls := #[.val (.int m), .val (.int (1 : Int32)), .val (.int (0 : Int32)), .val (.int (0 : Int32)), .val (.int (2 : Int32)), .val (.ref t), .val (.int pos)]) (plainFor_of_name pn_0) hn (fun m => by first | (simp [entryFrame, mkF, argsToLocals, Value.category]; done) | rfl) ?_
  refine W.iload 2 d_method_4_0 rfl rfl ?_
  refine W.iloadN 3 d_method_4_2 rfl rfl ?_
  refine W.icmp_eq 47 6 d_method_4_3 rfl rfl (fun hc => absurd hc (by decide)) (fun _ => ?_)
  refine W.iloadN 7 d_method_4_6 rfl rfl ?_
  refine W.if_eq 24 10 d_method_4_7 rfl rfl (fun _ => ?_) (fun hc => absurd (by decide) hc)
  refine W.iloadN 25 d_method_4_24 rfl rfl ?_
  refine W.iloadN 26 d_method_4_25 rfl rfl ?_
  refine W.iload 28 d_method_4_26 rfl rfl ?_
  refine W.iloadN 29 d_method_4_28 rfl rfl ?_
  refine W.callS (rest := []) (argsL := [(.int m), (.int (1 : Int32)), (.int (2 : Int32)), (.int (0 : Int32))]) 32 d_method_4_29 rfl (fun hn => c_has120 l Z a0 hw m _ n0 hn) (wd_9 hw) (wd_10 hw) (wd_4 hw) (wd_11 hw) (by decide) pd_1 rfl rfl rfl (by decide) 0 (Nat.le_of_ble_eq_true rfl) (by decide) (by decide) (by decide) ?_
  rintro v1109 h1109 ⟨rfl, rfl⟩
  show WG _ _ _ _ _ _ _ _ _ _ _ _ 0 0 32 #[.val (.int m), .val (.int (1 : Int32)), .val (.int (0 : Int32)), .val (.int (0 : Int32)), .val (.int (2 : Int32)), .val (.ref t), .val (.int pos)] [(.int (own_h m (6 : Int32)))]
  refine W.if_eq 47 35 d_method_4_32 rfl rfl ?_ ?_
  · intro hc1110
    refine W.iload 49 d_method_4_47 rfl rfl ?_
    rw [own_put_def, if_pos hc1110] at hm
    cases hm
    exact W.ireturn d_method_4_49 rfl ⟨rfl, A, (Keep.refl _ [t])⟩ (by decide) (by decide)
  · intro hc1110
    rw [own_put_def, if_neg hc1110] at hm
    obtain ⟨ys', hys, hm⟩ := Option.bind_eq_some_iff.mp hm
    have hs1 := own_set_ok hys
    cases hm
    refine W.aload 37 d_method_4_35 rfl rfl rfl ?_
    refine W.iload 39 d_method_4_37 rfl rfl ?_
    refine W.iload 41 d_method_4_39 rfl rfl ?_
    refine W.iastore 42 d_method_4_41 rfl A pos.toNatClampNeg rfl hs1.1 hs1.2.1 gt ?_
    intro h1111 W1111 K1111 A1111
    have kc1112 := Keep.trans (ws := [t]) (Keep.refl _ [t]) K1111 (allS (Or.inl (List.mem_of_getElem? (i := 0) rfl)) all0)
    refine W.iload 44 d_method_4_42 rfl rfl ?_
    refine W.iconst 45 d_method_4_44 rfl (1 : Int32) rfl ?_
    refine W.iadd 46 d_method_4_45 rfl (pos + (1 : Int32)) rfl ?_
    exact W.ireturn d_method_4_46 rfl ⟨rfl, by rw [← hs1.2.2]; exact A1111, kc1112⟩ (by decide) (by decide)
theorem c_put1010 (l : Launch) (Z : State) (a0 : Array Value) (hw : HwT Z a0) (m pos q : Int32) (t : Addr) (xs ys : List Int32) (h : Heap) (n0 : Nat) (hn : n0 ≤ h.size) (gt : n0 ≤ t) (A : Ary Z h t .int (xs.map Value.int)) (hm : own_put (own_h m (1 : Int32)) (0 : Int32) xs pos = some (ys, q)) : Con l Z (⟨"com/example/eccentra/eccentra/MainVertexDistancesPinLaw", "put", "(IZZII[II)I"⟩ : MethodName) method_4_code 7 (some .int) ({ frames := 2, cells := 0, slots := 0, locals := 50 } : Room) #[(.int m), (.int (1 : Int32)), (.int (0 : Int32)), (.int (1 : Int32)), (.int (0 : Int32)), (.ref t), (.int pos)] h n0 (fun r h' => r = some (.int q) ∧ Ary Z h' t .int (ys.map Value.int) ∧ Keep h h' [t]) := by
  refine ConG.of_W (Ls := #[.val (.int m), .val (.int (1 : Int32)), .val (.int (0 : Int32)), .val (.int (1 : Int32)), .val (.int (0 : Int32)), .val (.ref t), .val (.int pos)]) (plainFor_of_name pn_0) hn (fun m => by first | (simp [entryFrame, mkF, argsToLocals, Value.category]; done) | rfl) ?_
  refine W.iload 2 d_method_4_0 rfl rfl ?_
  refine W.iloadN 3 d_method_4_2 rfl rfl ?_
  refine W.icmp_eq 47 6 d_method_4_3 rfl rfl (fun hc => absurd hc (by decide)) (fun _ => ?_)
  refine W.iloadN 7 d_method_4_6 rfl rfl ?_
  refine W.if_eq 24 10 d_method_4_7 rfl rfl (fun _ => ?_) (fun hc => absurd (by decide) hc)
  refine W.iloadN 25 d_method_4_24 rfl rfl ?_
  refine W.iloadN 26 d_method_4_25 rfl rfl ?_
  refine W.iload 28 d_method_4_26 rfl rfl ?_
  refine W.iloadN 29 d_method_4_28 rfl rfl ?_
  refine W.callS (rest := []) (argsL := [(.int m), (.int (1 : Int32)), (.int (0 : Int32)), (.int (1 : Int32))]) 32 d_method_4_29 rfl (fun hn => c_has101 l Z a0 hw m _ n0 hn) (wd_9 hw) (wd_10 hw) (wd_4 hw) (wd_11 hw) (by decide) pd_1 rfl rfl rfl (by decide) 0 (Nat.le_of_ble_eq_true rfl) (by decide) (by decide) (by decide) ?_
  rintro v1113 h1113 ⟨rfl, rfl⟩
  show WG _ _ _ _ _ _ _ _ _ _ _ _ 0 0 32 #[.val (.int m), .val (.int (1 : Int32)), .val (.int (0 : Int32)), .val (.int (1 : Int32)), .val (.int (0 : Int32)), .val (.ref t), .val (.int pos)] [(.int (own_h m (1 : Int32)))]
  refine W.if_eq 47 35 d_method_4_32 rfl rfl ?_ ?_
  · intro hc1114
    refine W.iload 49 d_method_4_47 rfl rfl ?_
    rw [own_put_def, if_pos hc1114] at hm
    cases hm
    exact W.ireturn d_method_4_49 rfl ⟨rfl, A, (Keep.refl _ [t])⟩ (by decide) (by decide)
  · intro hc1114
    rw [own_put_def, if_neg hc1114] at hm
    obtain ⟨ys', hys, hm⟩ := Option.bind_eq_some_iff.mp hm
    have hs1 := own_set_ok hys
    cases hm
    refine W.aload 37 d_method_4_35 rfl rfl rfl ?_
    refine W.iload 39 d_method_4_37 rfl rfl ?_
    refine W.iload 41 d_method_4_39 rfl rfl ?_
    refine W.iastore 42 d_method_4_41 rfl A pos.toNatClampNeg rfl hs1.1 hs1.2.1 gt ?_
    intro h1115 W1115 K1115 A1115
    have kc1116 := Keep.trans (ws := [t]) (Keep.refl _ [t]) K1115 (allS (Or.inl (List.mem_of_getElem? (i := 0) rfl)) all0)
    refine W.iload 44 d_method_4_42 rfl rfl ?_
    refine W.iconst 45 d_method_4_44 rfl (1 : Int32) rfl ?_
    refine W.iadd 46 d_method_4_45 rfl (pos + (1 : Int32)) rfl ?_
    exact W.ireturn d_method_4_46 rfl ⟨rfl, by rw [← hs1.2.2]; exact A1115, kc1116⟩ (by decide) (by decide)
theorem c_put1011 (l : Launch) (Z : State) (a0 : Array Value) (hw : HwT Z a0) (m pos : Int32) (t : Addr) (h : Heap) (n0 : Nat) (hn : n0 ≤ h.size) : Con l Z (⟨"com/example/eccentra/eccentra/MainVertexDistancesPinLaw", "put", "(IZZII[II)I"⟩ : MethodName) method_4_code 7 (some .int) ({ frames := 2, cells := 0, slots := 0, locals := 50 } : Room) #[(.int m), (.int (1 : Int32)), (.int (0 : Int32)), (.int (1 : Int32)), (.int (1 : Int32)), (.ref t), (.int pos)] h n0 (fun r h' => r = some (.int pos) ∧ h' = h) := by
  refine ConG.of_W (Ls := #[.val (.int m), .val (.int (1 : Int32)), .val (.int (0 : Int32)), .val (.int (1 : Int32)), .val (.int (1 : Int32)), .val (.ref t), .val (.int pos)]) (plainFor_of_name pn_0) hn (fun m => by first | (simp [entryFrame, mkF, argsToLocals, Value.category]; done) | rfl) ?_
  refine W.iload 2 d_method_4_0 rfl rfl ?_
  refine W.iloadN 3 d_method_4_2 rfl rfl ?_
  refine W.icmp_eq 47 6 d_method_4_3 rfl rfl (fun _ => ?_) (fun hc => absurd (by decide) hc)
  refine W.iload 49 d_method_4_47 rfl rfl ?_
  exact W.ireturn d_method_4_49 rfl ⟨rfl, rfl⟩ (by decide) (by decide)
theorem c_put1012 (l : Launch) (Z : State) (a0 : Array Value) (hw : HwT Z a0) (m pos q : Int32) (t : Addr) (xs ys : List Int32) (h : Heap) (n0 : Nat) (hn : n0 ≤ h.size) (gt : n0 ≤ t) (A : Ary Z h t .int (xs.map Value.int)) (hm : own_put (own_h m (7 : Int32)) (2 : Int32) xs pos = some (ys, q)) : Con l Z (⟨"com/example/eccentra/eccentra/MainVertexDistancesPinLaw", "put", "(IZZII[II)I"⟩ : MethodName) method_4_code 7 (some .int) ({ frames := 2, cells := 0, slots := 0, locals := 50 } : Room) #[(.int m), (.int (1 : Int32)), (.int (0 : Int32)), (.int (1 : Int32)), (.int (2 : Int32)), (.ref t), (.int pos)] h n0 (fun r h' => r = some (.int q) ∧ Ary Z h' t .int (ys.map Value.int) ∧ Keep h h' [t]) := by
  refine ConG.of_W (Ls := #[.val (.int m), .val (.int (1 : Int32)), .val (.int (0 : Int32)), .val (.int (1 : Int32)), .val (.int (2 : Int32)), .val (.ref t), .val (.int pos)]) (plainFor_of_name pn_0) hn (fun m => by first | (simp [entryFrame, mkF, argsToLocals, Value.category]; done) | rfl) ?_
  refine W.iload 2 d_method_4_0 rfl rfl ?_
  refine W.iloadN 3 d_method_4_2 rfl rfl ?_
  refine W.icmp_eq 47 6 d_method_4_3 rfl rfl (fun hc => absurd hc (by decide)) (fun _ => ?_)
  refine W.iloadN 7 d_method_4_6 rfl rfl ?_
  refine W.if_eq 24 10 d_method_4_7 rfl rfl (fun _ => ?_) (fun hc => absurd (by decide) hc)
  refine W.iloadN 25 d_method_4_24 rfl rfl ?_
  refine W.iloadN 26 d_method_4_25 rfl rfl ?_
  refine W.iload 28 d_method_4_26 rfl rfl ?_
  refine W.iloadN 29 d_method_4_28 rfl rfl ?_
  refine W.callS (rest := []) (argsL := [(.int m), (.int (1 : Int32)), (.int (2 : Int32)), (.int (1 : Int32))]) 32 d_method_4_29 rfl (fun hn => c_has121 l Z a0 hw m _ n0 hn) (wd_9 hw) (wd_10 hw) (wd_4 hw) (wd_11 hw) (by decide) pd_1 rfl rfl rfl (by decide) 0 (Nat.le_of_ble_eq_true rfl) (by decide) (by decide) (by decide) ?_
  rintro v1117 h1117 ⟨rfl, rfl⟩
  show WG _ _ _ _ _ _ _ _ _ _ _ _ 0 0 32 #[.val (.int m), .val (.int (1 : Int32)), .val (.int (0 : Int32)), .val (.int (1 : Int32)), .val (.int (2 : Int32)), .val (.ref t), .val (.int pos)] [(.int (own_h m (7 : Int32)))]
  refine W.if_eq 47 35 d_method_4_32 rfl rfl ?_ ?_
  · intro hc1118
    refine W.iload 49 d_method_4_47 rfl rfl ?_
    rw [own_put_def, if_pos hc1118] at hm
    cases hm
    exact W.ireturn d_method_4_49 rfl ⟨rfl, A, (Keep.refl _ [t])⟩ (by decide) (by decide)
  · intro hc1118
    rw [own_put_def, if_neg hc1118] at hm
    obtain ⟨ys', hys, hm⟩ := Option.bind_eq_some_iff.mp hm
    have hs1 := own_set_ok hys
    cases hm
    refine W.aload 37 d_method_4_35 rfl rfl rfl ?_
    refine W.iload 39 d_method_4_37 rfl rfl ?_
    refine W.iload 41 d_method_4_39 rfl rfl ?_
    refine W.iastore 42 d_method_4_41 rfl A pos.toNatClampNeg rfl hs1.1 hs1.2.1 gt ?_
    intro h1119 W1119 K1119 A1119
    have kc1120 := Keep.trans (ws := [t]) (Keep.refl _ [t]) K1119 (allS (Or.inl (List.mem_of_getElem? (i := 0) rfl)) all0)
    refine W.iload 44 d_method_4_42 rfl rfl ?_
    refine W.iconst 45 d_method_4_44 rfl (1 : Int32) rfl ?_
    refine W.iadd 46 d_method_4_45 rfl (pos + (1 : Int32)) rfl ?_
    exact W.ireturn d_method_4_46 rfl ⟨rfl, by rw [← hs1.2.2]; exact A1119, kc1120⟩ (by decide) (by decide)
theorem c_put1020 (l : Launch) (Z : State) (a0 : Array Value) (hw : HwT Z a0) (m pos q : Int32) (t : Addr) (xs ys : List Int32) (h : Heap) (n0 : Nat) (hn : n0 ≤ h.size) (gt : n0 ≤ t) (A : Ary Z h t .int (xs.map Value.int)) (hm : own_put (own_h m (2 : Int32)) (0 : Int32) xs pos = some (ys, q)) : Con l Z (⟨"com/example/eccentra/eccentra/MainVertexDistancesPinLaw", "put", "(IZZII[II)I"⟩ : MethodName) method_4_code 7 (some .int) ({ frames := 2, cells := 0, slots := 0, locals := 50 } : Room) #[(.int m), (.int (1 : Int32)), (.int (0 : Int32)), (.int (2 : Int32)), (.int (0 : Int32)), (.ref t), (.int pos)] h n0 (fun r h' => r = some (.int q) ∧ Ary Z h' t .int (ys.map Value.int) ∧ Keep h h' [t]) := by
  refine ConG.of_W (Ls := #[.val (.int m), .val (.int (1 : Int32)), .val (.int (0 : Int32)), .val (.int (2 : Int32)), .val (.int (0 : Int32)), .val (.ref t), .val (.int pos)]) (plainFor_of_name pn_0) hn (fun m => by first | (simp [entryFrame, mkF, argsToLocals, Value.category]; done) | rfl) ?_
  refine W.iload 2 d_method_4_0 rfl rfl ?_
  refine W.iloadN 3 d_method_4_2 rfl rfl ?_
  refine W.icmp_eq 47 6 d_method_4_3 rfl rfl (fun hc => absurd hc (by decide)) (fun _ => ?_)
  refine W.iloadN 7 d_method_4_6 rfl rfl ?_
  refine W.if_eq 24 10 d_method_4_7 rfl rfl (fun _ => ?_) (fun hc => absurd (by decide) hc)
  refine W.iloadN 25 d_method_4_24 rfl rfl ?_
  refine W.iloadN 26 d_method_4_25 rfl rfl ?_
  refine W.iload 28 d_method_4_26 rfl rfl ?_
  refine W.iloadN 29 d_method_4_28 rfl rfl ?_
  refine W.callS (rest := []) (argsL := [(.int m), (.int (1 : Int32)), (.int (0 : Int32)), (.int (2 : Int32))]) 32 d_method_4_29 rfl (fun hn => c_has102 l Z a0 hw m _ n0 hn) (wd_9 hw) (wd_10 hw) (wd_4 hw) (wd_11 hw) (by decide) pd_1 rfl rfl rfl (by decide) 0 (Nat.le_of_ble_eq_true rfl) (by decide) (by decide) (by decide) ?_
  rintro v1121 h1121 ⟨rfl, rfl⟩
  show WG _ _ _ _ _ _ _ _ _ _ _ _ 0 0 32 #[.val (.int m), .val (.int (1 : Int32)), .val (.int (0 : Int32)), .val (.int (2 : Int32)), .val (.int (0 : Int32)), .val (.ref t), .val (.int pos)] [(.int (own_h m (2 : Int32)))]
  refine W.if_eq 47 35 d_method_4_32 rfl rfl ?_ ?_
  · intro hc1122
    refine W.iload 49 d_method_4_47 rfl rfl ?_
    rw [own_put_def, if_pos hc1122] at hm
    cases hm
    exact W.ireturn d_method_4_49 rfl ⟨rfl, A, (Keep.refl _ [t])⟩ (by decide) (by decide)
  · intro hc1122
    rw [own_put_def, if_neg hc1122] at hm
    obtain ⟨ys', hys, hm⟩ := Option.bind_eq_some_iff.mp hm
    have hs1 := own_set_ok hys
    cases hm
    refine W.aload 37 d_method_4_35 rfl rfl rfl ?_
    refine W.iload 39 d_method_4_37 rfl rfl ?_
    refine W.iload 41 d_method_4_39 rfl rfl ?_
    refine W.iastore 42 d_method_4_41 rfl A pos.toNatClampNeg rfl hs1.1 hs1.2.1 gt ?_
    intro h1123 W1123 K1123 A1123
    have kc1124 := Keep.trans (ws := [t]) (Keep.refl _ [t]) K1123 (allS (Or.inl (List.mem_of_getElem? (i := 0) rfl)) all0)
    refine W.iload 44 d_method_4_42 rfl rfl ?_
    refine W.iconst 45 d_method_4_44 rfl (1 : Int32) rfl ?_
    refine W.iadd 46 d_method_4_45 rfl (pos + (1 : Int32)) rfl ?_
    exact W.ireturn d_method_4_46 rfl ⟨rfl, by rw [← hs1.2.2]; exact A1123, kc1124⟩ (by decide) (by decide)
theorem c_put1021 (l : Launch) (Z : State) (a0 : Array Value) (hw : HwT Z a0) (m pos q : Int32) (t : Addr) (xs ys : List Int32) (h : Heap) (n0 : Nat) (hn : n0 ≤ h.size) (gt : n0 ≤ t) (A : Ary Z h t .int (xs.map Value.int)) (hm : own_put (own_h m (5 : Int32)) (1 : Int32) xs pos = some (ys, q)) : Con l Z (⟨"com/example/eccentra/eccentra/MainVertexDistancesPinLaw", "put", "(IZZII[II)I"⟩ : MethodName) method_4_code 7 (some .int) ({ frames := 2, cells := 0, slots := 0, locals := 50 } : Room) #[(.int m), (.int (1 : Int32)), (.int (0 : Int32)), (.int (2 : Int32)), (.int (1 : Int32)), (.ref t), (.int pos)] h n0 (fun r h' => r = some (.int q) ∧ Ary Z h' t .int (ys.map Value.int) ∧ Keep h h' [t]) := by
  refine ConG.of_W (Ls := #[.val (.int m), .val (.int (1 : Int32)), .val (.int (0 : Int32)), .val (.int (2 : Int32)), .val (.int (1 : Int32)), .val (.ref t), .val (.int pos)]) (plainFor_of_name pn_0) hn (fun m => by first | (simp [entryFrame, mkF, argsToLocals, Value.category]; done) | rfl) ?_
  refine W.iload 2 d_method_4_0 rfl rfl ?_
  refine W.iloadN 3 d_method_4_2 rfl rfl ?_
  refine W.icmp_eq 47 6 d_method_4_3 rfl rfl (fun hc => absurd hc (by decide)) (fun _ => ?_)
  refine W.iloadN 7 d_method_4_6 rfl rfl ?_
  refine W.if_eq 24 10 d_method_4_7 rfl rfl (fun _ => ?_) (fun hc => absurd (by decide) hc)
  refine W.iloadN 25 d_method_4_24 rfl rfl ?_
  refine W.iloadN 26 d_method_4_25 rfl rfl ?_
  refine W.iload 28 d_method_4_26 rfl rfl ?_
  refine W.iloadN 29 d_method_4_28 rfl rfl ?_
  refine W.callS (rest := []) (argsL := [(.int m), (.int (1 : Int32)), (.int (1 : Int32)), (.int (2 : Int32))]) 32 d_method_4_29 rfl (fun hn => c_has112 l Z a0 hw m _ n0 hn) (wd_9 hw) (wd_10 hw) (wd_4 hw) (wd_11 hw) (by decide) pd_1 rfl rfl rfl (by decide) 0 (Nat.le_of_ble_eq_true rfl) (by decide) (by decide) (by decide) ?_
  rintro v1125 h1125 ⟨rfl, rfl⟩
  show WG _ _ _ _ _ _ _ _ _ _ _ _ 0 0 32 #[.val (.int m), .val (.int (1 : Int32)), .val (.int (0 : Int32)), .val (.int (2 : Int32)), .val (.int (1 : Int32)), .val (.ref t), .val (.int pos)] [(.int (own_h m (5 : Int32)))]
  refine W.if_eq 47 35 d_method_4_32 rfl rfl ?_ ?_
  · intro hc1126
    refine W.iload 49 d_method_4_47 rfl rfl ?_
    rw [own_put_def, if_pos hc1126] at hm
    cases hm
    exact W.ireturn d_method_4_49 rfl ⟨rfl, A, (Keep.refl _ [t])⟩ (by decide) (by decide)
  · intro hc1126
    rw [own_put_def, if_neg hc1126] at hm
    obtain ⟨ys', hys, hm⟩ := Option.bind_eq_some_iff.mp hm
    have hs1 := own_set_ok hys
    cases hm
    refine W.aload 37 d_method_4_35 rfl rfl rfl ?_
    refine W.iload 39 d_method_4_37 rfl rfl ?_
    refine W.iload 41 d_method_4_39 rfl rfl ?_
    refine W.iastore 42 d_method_4_41 rfl A pos.toNatClampNeg rfl hs1.1 hs1.2.1 gt ?_
    intro h1127 W1127 K1127 A1127
    have kc1128 := Keep.trans (ws := [t]) (Keep.refl _ [t]) K1127 (allS (Or.inl (List.mem_of_getElem? (i := 0) rfl)) all0)
    refine W.iload 44 d_method_4_42 rfl rfl ?_
    refine W.iconst 45 d_method_4_44 rfl (1 : Int32) rfl ?_
    refine W.iadd 46 d_method_4_45 rfl (pos + (1 : Int32)) rfl ?_
    exact W.ireturn d_method_4_46 rfl ⟨rfl, by rw [← hs1.2.2]; exact A1127, kc1128⟩ (by decide) (by decide)
theorem c_put1022 (l : Launch) (Z : State) (a0 : Array Value) (hw : HwT Z a0) (m pos : Int32) (t : Addr) (h : Heap) (n0 : Nat) (hn : n0 ≤ h.size) : Con l Z (⟨"com/example/eccentra/eccentra/MainVertexDistancesPinLaw", "put", "(IZZII[II)I"⟩ : MethodName) method_4_code 7 (some .int) ({ frames := 2, cells := 0, slots := 0, locals := 50 } : Room) #[(.int m), (.int (1 : Int32)), (.int (0 : Int32)), (.int (2 : Int32)), (.int (2 : Int32)), (.ref t), (.int pos)] h n0 (fun r h' => r = some (.int pos) ∧ h' = h) := by
  refine ConG.of_W (Ls := #[.val (.int m), .val (.int (1 : Int32)), .val (.int (0 : Int32)), .val (.int (2 : Int32)), .val (.int (2 : Int32)), .val (.ref t), .val (.int pos)]) (plainFor_of_name pn_0) hn (fun m => by first | (simp [entryFrame, mkF, argsToLocals, Value.category]; done) | rfl) ?_
  refine W.iload 2 d_method_4_0 rfl rfl ?_
  refine W.iloadN 3 d_method_4_2 rfl rfl ?_
  refine W.icmp_eq 47 6 d_method_4_3 rfl rfl (fun _ => ?_) (fun hc => absurd (by decide) hc)
  refine W.iload 49 d_method_4_47 rfl rfl ?_
  exact W.ireturn d_method_4_49 rfl ⟨rfl, rfl⟩ (by decide) (by decide)
theorem c_fil100 (l : Launch) (Z : State) (a0 : Array Value) (hw : HwT Z a0) (m pos q : Int32) (t : Addr) (xs ys : List Int32) (h : Heap) (n0 : Nat) (hn : n0 ≤ h.size) (gt : n0 ≤ t) (A : Ary Z h t .int (xs.map Value.int)) (hm : own_fill2 (own_h m (3 : Int32)) (1 : Int32) (own_h m (6 : Int32)) (2 : Int32) xs pos = some (ys, q)) : Con l Z (⟨"com/example/eccentra/eccentra/MainVertexDistancesPinLaw", "fill", "(IZZI[II)I"⟩ : MethodName) method_5_code 7 (some .int) ({ frames := 3, cells := 0, slots := 0, locals := 90 } : Room) #[(.int m), (.int (1 : Int32)), (.int (0 : Int32)), (.int (0 : Int32)), (.ref t), (.int pos)] h n0 (fun r h' => r = some (.int q) ∧ Ary Z h' t .int (ys.map Value.int) ∧ Keep h h' [t]) := by
  refine ConG.of_W (Ls := #[.val (.int m), .val (.int (1 : Int32)), .val (.int (0 : Int32)), .val (.int (0 : Int32)), .val (.ref t), .val (.int pos), .unset]) (plainFor_of_name pn_0) hn (fun m => by first | (simp [entryFrame, mkF, argsToLocals, Value.category]; done) | rfl) ?_
  obtain ⟨r1, hm1, hm2⟩ := Option.bind_eq_some_iff.mp hm
  refine W.iloadN 1 d_method_5_0 rfl rfl ?_
  refine W.iloadN 2 d_method_5_1 rfl rfl ?_
  refine W.iloadN 3 d_method_5_2 rfl rfl ?_
  refine W.iloadN 4 d_method_5_3 rfl rfl ?_
  refine W.iconst 5 d_method_5_4 rfl (0 : Int32) rfl ?_
  refine W.aload 7 d_method_5_5 rfl rfl rfl ?_
  refine W.iload 9 d_method_5_7 rfl rfl ?_
  refine W.callS (rest := []) (argsL := [(.int m), (.int (1 : Int32)), (.int (0 : Int32)), (.int (0 : Int32)), (.int (0 : Int32)), (.ref t), (.int pos)]) 12 d_method_5_9 rfl (fun hn => c_put1000 l Z a0 hw m pos t _ n0 hn) (wd_6 hw) (wd_7 hw) (wd_4 hw) (wd_8 hw) (by decide) pd_2 rfl rfl rfl (by decide) 0 (Nat.le_of_ble_eq_true rfl) (by decide) (by decide) (by decide) ?_
  rintro v1129 h1129 ⟨rfl, rfl⟩
  show WG _ _ _ _ _ _ _ _ _ _ _ _ 0 0 12 #[.val (.int m), .val (.int (1 : Int32)), .val (.int (0 : Int32)), .val (.int (0 : Int32)), .val (.ref t), .val (.int pos), .unset] [(.int pos)]
  refine W.istore 14 d_method_5_12 rfl #[.val (.int m), .val (.int (1 : Int32)), .val (.int (0 : Int32)), .val (.int (0 : Int32)), .val (.ref t), .val (.int pos), .val (.int pos)] rfl ?_
  refine W.iloadN 15 d_method_5_14 rfl rfl ?_
  refine W.iloadN 16 d_method_5_15 rfl rfl ?_
  refine W.iloadN 17 d_method_5_16 rfl rfl ?_
  refine W.iloadN 18 d_method_5_17 rfl rfl ?_
  refine W.iconst 19 d_method_5_18 rfl (1 : Int32) rfl ?_
  refine W.aload 21 d_method_5_19 rfl rfl rfl ?_
  refine W.iload 23 d_method_5_21 rfl rfl ?_
  refine W.callS (rest := []) (argsL := [(.int m), (.int (1 : Int32)), (.int (0 : Int32)), (.int (0 : Int32)), (.int (1 : Int32)), (.ref t), (.int pos)]) 26 d_method_5_23 rfl (fun hn => c_put1001 l Z a0 hw m pos r1.2 t xs r1.1 _ n0 hn gt A hm1) (wd_6 hw) (wd_7 hw) (wd_4 hw) (wd_8 hw) (by decide) pd_2 rfl rfl rfl (by decide) 0 (Nat.le_of_ble_eq_true rfl) (by decide) (by decide) (by decide) ?_
  rintro v1130 h1130 ⟨rfl, A1130, K1130⟩
  have kc1131 := Keep.trans (ws := [t]) (Keep.refl _ [t]) K1130 (allS (Or.inl (List.mem_of_getElem? (i := 0) rfl)) all0)
  show WG _ _ _ _ _ _ _ _ _ _ _ _ 0 0 26 #[.val (.int m), .val (.int (1 : Int32)), .val (.int (0 : Int32)), .val (.int (0 : Int32)), .val (.ref t), .val (.int pos), .val (.int pos)] [(.int r1.2)]
  refine W.istore 28 d_method_5_26 rfl #[.val (.int m), .val (.int (1 : Int32)), .val (.int (0 : Int32)), .val (.int (0 : Int32)), .val (.ref t), .val (.int pos), .val (.int r1.2)] rfl ?_
  refine W.iloadN 29 d_method_5_28 rfl rfl ?_
  refine W.iloadN 30 d_method_5_29 rfl rfl ?_
  refine W.iloadN 31 d_method_5_30 rfl rfl ?_
  refine W.iloadN 32 d_method_5_31 rfl rfl ?_
  refine W.iconst 33 d_method_5_32 rfl (2 : Int32) rfl ?_
  refine W.aload 35 d_method_5_33 rfl rfl rfl ?_
  refine W.iload 37 d_method_5_35 rfl rfl ?_
  refine W.callS (rest := []) (argsL := [(.int m), (.int (1 : Int32)), (.int (0 : Int32)), (.int (0 : Int32)), (.int (2 : Int32)), (.ref t), (.int r1.2)]) 40 d_method_5_37 rfl (fun hn => c_put1002 l Z a0 hw m r1.2 q t r1.1 ys _ n0 hn gt A1130 hm2) (wd_6 hw) (wd_7 hw) (wd_4 hw) (wd_8 hw) (by decide) pd_2 rfl rfl rfl (by decide) 0 (Nat.le_of_ble_eq_true rfl) (by decide) (by decide) (by decide) ?_
  rintro v1132 h1132 ⟨rfl, A1132, K1132⟩
  have kc1133 := Keep.trans (ws := [t]) kc1131 K1132 (allS (Or.inl (List.mem_of_getElem? (i := 0) rfl)) all0)
  show WG _ _ _ _ _ _ _ _ _ _ _ _ 0 0 40 #[.val (.int m), .val (.int (1 : Int32)), .val (.int (0 : Int32)), .val (.int (0 : Int32)), .val (.ref t), .val (.int pos), .val (.int r1.2)] [(.int q)]
  exact W.ireturn d_method_5_40 rfl ⟨rfl, A1132, kc1133⟩ (by decide) (by decide)
theorem c_fil101 (l : Launch) (Z : State) (a0 : Array Value) (hw : HwT Z a0) (m pos q : Int32) (t : Addr) (xs ys : List Int32) (h : Heap) (n0 : Nat) (hn : n0 ≤ h.size) (gt : n0 ≤ t) (A : Ary Z h t .int (xs.map Value.int)) (hm : own_fill2 (own_h m (1 : Int32)) (0 : Int32) (own_h m (7 : Int32)) (2 : Int32) xs pos = some (ys, q)) : Con l Z (⟨"com/example/eccentra/eccentra/MainVertexDistancesPinLaw", "fill", "(IZZI[II)I"⟩ : MethodName) method_5_code 7 (some .int) ({ frames := 3, cells := 0, slots := 0, locals := 90 } : Room) #[(.int m), (.int (1 : Int32)), (.int (0 : Int32)), (.int (1 : Int32)), (.ref t), (.int pos)] h n0 (fun r h' => r = some (.int q) ∧ Ary Z h' t .int (ys.map Value.int) ∧ Keep h h' [t]) := by
  refine ConG.of_W (Ls := #[.val (.int m), .val (.int (1 : Int32)), .val (.int (0 : Int32)), .val (.int (1 : Int32)), .val (.ref t), .val (.int pos), .unset]) (plainFor_of_name pn_0) hn (fun m => by first | (simp [entryFrame, mkF, argsToLocals, Value.category]; done) | rfl) ?_
  obtain ⟨r1, hm1, hm2⟩ := Option.bind_eq_some_iff.mp hm
  refine W.iloadN 1 d_method_5_0 rfl rfl ?_
  refine W.iloadN 2 d_method_5_1 rfl rfl ?_
  refine W.iloadN 3 d_method_5_2 rfl rfl ?_
  refine W.iloadN 4 d_method_5_3 rfl rfl ?_
  refine W.iconst 5 d_method_5_4 rfl (0 : Int32) rfl ?_
  refine W.aload 7 d_method_5_5 rfl rfl rfl ?_
  refine W.iload 9 d_method_5_7 rfl rfl ?_
  refine W.callS (rest := []) (argsL := [(.int m), (.int (1 : Int32)), (.int (0 : Int32)), (.int (1 : Int32)), (.int (0 : Int32)), (.ref t), (.int pos)]) 12 d_method_5_9 rfl (fun hn => c_put1010 l Z a0 hw m pos r1.2 t xs r1.1 _ n0 hn gt A hm1) (wd_6 hw) (wd_7 hw) (wd_4 hw) (wd_8 hw) (by decide) pd_2 rfl rfl rfl (by decide) 0 (Nat.le_of_ble_eq_true rfl) (by decide) (by decide) (by decide) ?_
  rintro v1134 h1134 ⟨rfl, A1134, K1134⟩
  have kc1135 := Keep.trans (ws := [t]) (Keep.refl _ [t]) K1134 (allS (Or.inl (List.mem_of_getElem? (i := 0) rfl)) all0)
  show WG _ _ _ _ _ _ _ _ _ _ _ _ 0 0 12 #[.val (.int m), .val (.int (1 : Int32)), .val (.int (0 : Int32)), .val (.int (1 : Int32)), .val (.ref t), .val (.int pos), .unset] [(.int r1.2)]
  refine W.istore 14 d_method_5_12 rfl #[.val (.int m), .val (.int (1 : Int32)), .val (.int (0 : Int32)), .val (.int (1 : Int32)), .val (.ref t), .val (.int pos), .val (.int r1.2)] rfl ?_
  refine W.iloadN 15 d_method_5_14 rfl rfl ?_
  refine W.iloadN 16 d_method_5_15 rfl rfl ?_
  refine W.iloadN 17 d_method_5_16 rfl rfl ?_
  refine W.iloadN 18 d_method_5_17 rfl rfl ?_
  refine W.iconst 19 d_method_5_18 rfl (1 : Int32) rfl ?_
  refine W.aload 21 d_method_5_19 rfl rfl rfl ?_
  refine W.iload 23 d_method_5_21 rfl rfl ?_
  refine W.callS (rest := []) (argsL := [(.int m), (.int (1 : Int32)), (.int (0 : Int32)), (.int (1 : Int32)), (.int (1 : Int32)), (.ref t), (.int r1.2)]) 26 d_method_5_23 rfl (fun hn => c_put1011 l Z a0 hw m r1.2 t _ n0 hn) (wd_6 hw) (wd_7 hw) (wd_4 hw) (wd_8 hw) (by decide) pd_2 rfl rfl rfl (by decide) 0 (Nat.le_of_ble_eq_true rfl) (by decide) (by decide) (by decide) ?_
  rintro v1136 h1136 ⟨rfl, rfl⟩
  show WG _ _ _ _ _ _ _ _ _ _ _ _ 0 0 26 #[.val (.int m), .val (.int (1 : Int32)), .val (.int (0 : Int32)), .val (.int (1 : Int32)), .val (.ref t), .val (.int pos), .val (.int r1.2)] [(.int r1.2)]
  refine W.istore 28 d_method_5_26 rfl #[.val (.int m), .val (.int (1 : Int32)), .val (.int (0 : Int32)), .val (.int (1 : Int32)), .val (.ref t), .val (.int pos), .val (.int r1.2)] rfl ?_
  refine W.iloadN 29 d_method_5_28 rfl rfl ?_
  refine W.iloadN 30 d_method_5_29 rfl rfl ?_
  refine W.iloadN 31 d_method_5_30 rfl rfl ?_
  refine W.iloadN 32 d_method_5_31 rfl rfl ?_
  refine W.iconst 33 d_method_5_32 rfl (2 : Int32) rfl ?_
  refine W.aload 35 d_method_5_33 rfl rfl rfl ?_
  refine W.iload 37 d_method_5_35 rfl rfl ?_
  refine W.callS (rest := []) (argsL := [(.int m), (.int (1 : Int32)), (.int (0 : Int32)), (.int (1 : Int32)), (.int (2 : Int32)), (.ref t), (.int r1.2)]) 40 d_method_5_37 rfl (fun hn => c_put1012 l Z a0 hw m r1.2 q t r1.1 ys _ n0 hn gt A1134 hm2) (wd_6 hw) (wd_7 hw) (wd_4 hw) (wd_8 hw) (by decide) pd_2 rfl rfl rfl (by decide) 0 (Nat.le_of_ble_eq_true rfl) (by decide) (by decide) (by decide) ?_
  rintro v1137 h1137 ⟨rfl, A1137, K1137⟩
  have kc1138 := Keep.trans (ws := [t]) kc1135 K1137 (allS (Or.inl (List.mem_of_getElem? (i := 0) rfl)) all0)
  show WG _ _ _ _ _ _ _ _ _ _ _ _ 0 0 40 #[.val (.int m), .val (.int (1 : Int32)), .val (.int (0 : Int32)), .val (.int (1 : Int32)), .val (.ref t), .val (.int pos), .val (.int r1.2)] [(.int q)]
  exact W.ireturn d_method_5_40 rfl ⟨rfl, A1137, kc1138⟩ (by decide) (by decide)
theorem c_fil102 (l : Launch) (Z : State) (a0 : Array Value) (hw : HwT Z a0) (m pos q : Int32) (t : Addr) (xs ys : List Int32) (h : Heap) (n0 : Nat) (hn : n0 ≤ h.size) (gt : n0 ≤ t) (A : Ary Z h t .int (xs.map Value.int)) (hm : own_fill2 (own_h m (2 : Int32)) (0 : Int32) (own_h m (5 : Int32)) (1 : Int32) xs pos = some (ys, q)) : Con l Z (⟨"com/example/eccentra/eccentra/MainVertexDistancesPinLaw", "fill", "(IZZI[II)I"⟩ : MethodName) method_5_code 7 (some .int) ({ frames := 3, cells := 0, slots := 0, locals := 90 } : Room) #[(.int m), (.int (1 : Int32)), (.int (0 : Int32)), (.int (2 : Int32)), (.ref t), (.int pos)] h n0 (fun r h' => r = some (.int q) ∧ Ary Z h' t .int (ys.map Value.int) ∧ Keep h h' [t]) := by
  refine ConG.of_W (Ls := #[.val (.int m), .val (.int (1 : Int32)), .val (.int (0 : Int32)), .val (.int (2 : Int32)), .val (.ref t), .val (.int pos), .unset]) (plainFor_of_name pn_0) hn (fun m => by first | (simp [entryFrame, mkF, argsToLocals, Value.category]; done) | rfl) ?_
  obtain ⟨r1, hm1, hm2⟩ := Option.bind_eq_some_iff.mp hm
  refine W.iloadN 1 d_method_5_0 rfl rfl ?_
  refine W.iloadN 2 d_method_5_1 rfl rfl ?_
  refine W.iloadN 3 d_method_5_2 rfl rfl ?_
  refine W.iloadN 4 d_method_5_3 rfl rfl ?_
  refine W.iconst 5 d_method_5_4 rfl (0 : Int32) rfl ?_
  refine W.aload 7 d_method_5_5 rfl rfl rfl ?_
  refine W.iload 9 d_method_5_7 rfl rfl ?_
  refine W.callS (rest := []) (argsL := [(.int m), (.int (1 : Int32)), (.int (0 : Int32)), (.int (2 : Int32)), (.int (0 : Int32)), (.ref t), (.int pos)]) 12 d_method_5_9 rfl (fun hn => c_put1020 l Z a0 hw m pos r1.2 t xs r1.1 _ n0 hn gt A hm1) (wd_6 hw) (wd_7 hw) (wd_4 hw) (wd_8 hw) (by decide) pd_2 rfl rfl rfl (by decide) 0 (Nat.le_of_ble_eq_true rfl) (by decide) (by decide) (by decide) ?_
  rintro v1139 h1139 ⟨rfl, A1139, K1139⟩
  have kc1140 := Keep.trans (ws := [t]) (Keep.refl _ [t]) K1139 (allS (Or.inl (List.mem_of_getElem? (i := 0) rfl)) all0)
  show WG _ _ _ _ _ _ _ _ _ _ _ _ 0 0 12 #[.val (.int m), .val (.int (1 : Int32)), .val (.int (0 : Int32)), .val (.int (2 : Int32)), .val (.ref t), .val (.int pos), .unset] [(.int r1.2)]
  refine W.istore 14 d_method_5_12 rfl #[.val (.int m), .val (.int (1 : Int32)), .val (.int (0 : Int32)), .val (.int (2 : Int32)), .val (.ref t), .val (.int pos), .val (.int r1.2)] rfl ?_
  refine W.iloadN 15 d_method_5_14 rfl rfl ?_
  refine W.iloadN 16 d_method_5_15 rfl rfl ?_
  refine W.iloadN 17 d_method_5_16 rfl rfl ?_
  refine W.iloadN 18 d_method_5_17 rfl rfl ?_
  refine W.iconst 19 d_method_5_18 rfl (1 : Int32) rfl ?_
  refine W.aload 21 d_method_5_19 rfl rfl rfl ?_
  refine W.iload 23 d_method_5_21 rfl rfl ?_
  refine W.callS (rest := []) (argsL := [(.int m), (.int (1 : Int32)), (.int (0 : Int32)), (.int (2 : Int32)), (.int (1 : Int32)), (.ref t), (.int r1.2)]) 26 d_method_5_23 rfl (fun hn => c_put1021 l Z a0 hw m r1.2 q t r1.1 ys _ n0 hn gt A1139 hm2) (wd_6 hw) (wd_7 hw) (wd_4 hw) (wd_8 hw) (by decide) pd_2 rfl rfl rfl (by decide) 0 (Nat.le_of_ble_eq_true rfl) (by decide) (by decide) (by decide) ?_
  rintro v1141 h1141 ⟨rfl, A1141, K1141⟩
  have kc1142 := Keep.trans (ws := [t]) kc1140 K1141 (allS (Or.inl (List.mem_of_getElem? (i := 0) rfl)) all0)
  show WG _ _ _ _ _ _ _ _ _ _ _ _ 0 0 26 #[.val (.int m), .val (.int (1 : Int32)), .val (.int (0 : Int32)), .val (.int (2 : Int32)), .val (.ref t), .val (.int pos), .val (.int r1.2)] [(.int q)]
  refine W.istore 28 d_method_5_26 rfl #[.val (.int m), .val (.int (1 : Int32)), .val (.int (0 : Int32)), .val (.int (2 : Int32)), .val (.ref t), .val (.int pos), .val (.int q)] rfl ?_
  refine W.iloadN 29 d_method_5_28 rfl rfl ?_
  refine W.iloadN 30 d_method_5_29 rfl rfl ?_
  refine W.iloadN 31 d_method_5_30 rfl rfl ?_
  refine W.iloadN 32 d_method_5_31 rfl rfl ?_
  refine W.iconst 33 d_method_5_32 rfl (2 : Int32) rfl ?_
  refine W.aload 35 d_method_5_33 rfl rfl rfl ?_
  refine W.iload 37 d_method_5_35 rfl rfl ?_
  refine W.callS (rest := []) (argsL := [(.int m), (.int (1 : Int32)), (.int (0 : Int32)), (.int (2 : Int32)), (.int (2 : Int32)), (.ref t), (.int q)]) 40 d_method_5_37 rfl (fun hn => c_put1022 l Z a0 hw m q t _ n0 hn) (wd_6 hw) (wd_7 hw) (wd_4 hw) (wd_8 hw) (by decide) pd_2 rfl rfl rfl (by decide) 0 (Nat.le_of_ble_eq_true rfl) (by decide) (by decide) (by decide) ?_
  rintro v1143 h1143 ⟨rfl, rfl⟩
  show WG _ _ _ _ _ _ _ _ _ _ _ _ 0 0 40 #[.val (.int m), .val (.int (1 : Int32)), .val (.int (0 : Int32)), .val (.int (2 : Int32)), .val (.ref t), .val (.int pos), .val (.int q)] [(.int q)]
  exact W.ireturn d_method_5_40 rfl ⟨rfl, A1141, kc1142⟩ (by decide) (by decide)
theorem g_outEnd (l : Launch) (Z : State) (a0 : Array Value) (hw : HwT Z a0) (a b : Addr) (i z : Int32) (xs : List Int32) (h : Heap) (n0 : Nat) (hn : n0 ≤ h.size) (F1 : Fld Z h a "com/example/eccentra/eccentra/Graph" "outOffsets" "[I" (.ref b)) (A : Ary Z h b .int (xs.map Value.int)) (hg : own_get xs (i + (1 : Int32)) = some z) : Con l Z (⟨"com/example/eccentra/eccentra/Graph", "outEnd", "(I)I"⟩ : MethodName) prog_7_method_10_code 2 (some .int) ({ frames := 0, cells := 0, slots := 0, locals := 0 } : Room) #[(.ref a), (.int i)] h n0 (fun r h' => r = some (.int z) ∧ h' = h) := by
  refine ConG.of_W (Ls := #[.val (.ref a), .val (.int i)]) (plainFor_of_name pn_1) hn (fun m => by first | (simp [entryFrame, mkF, argsToLocals, Value.category]; done) | rfl) ?_
  refine W.aloadN 1 d_prog_7_method_10_0 rfl rfl rfl ?_
  refine W.getfield 4 d_prog_7_method_10_1 rfl (host := "") (Or.inl (wd_27 hw)) Via.refl F1 ?_
  refine W.iloadN 5 d_prog_7_method_10_4 rfl rfl ?_
  refine W.iconst 6 d_prog_7_method_10_5 rfl (1 : Int32) rfl ?_
  refine W.iadd 7 d_prog_7_method_10_6 rfl (i + (1 : Int32)) rfl ?_
  refine W.iaload 8 d_prog_7_method_10_7 rfl A ((i + (1 : Int32))).toNatClampNeg rfl (own_get_ok hg).1 (.int z) (own_get_ok hg).2 ?_
  exact W.ireturn d_prog_7_method_10_8 rfl ⟨rfl, rfl⟩ (by decide) (by decide)
theorem g_outBegin (l : Launch) (Z : State) (a0 : Array Value) (hw : HwT Z a0) (a b : Addr) (i z : Int32) (xs : List Int32) (h : Heap) (n0 : Nat) (hn : n0 ≤ h.size) (F1 : Fld Z h a "com/example/eccentra/eccentra/Graph" "outOffsets" "[I" (.ref b)) (A : Ary Z h b .int (xs.map Value.int)) (hg : own_get xs i = some z) : Con l Z (⟨"com/example/eccentra/eccentra/Graph", "outBegin", "(I)I"⟩ : MethodName) prog_7_method_9_code 2 (some .int) ({ frames := 0, cells := 0, slots := 0, locals := 0 } : Room) #[(.ref a), (.int i)] h n0 (fun r h' => r = some (.int z) ∧ h' = h) := by
  refine ConG.of_W (Ls := #[.val (.ref a), .val (.int i)]) (plainFor_of_name pn_1) hn (fun m => by first | (simp [entryFrame, mkF, argsToLocals, Value.category]; done) | rfl) ?_
  refine W.aloadN 1 d_prog_7_method_9_0 rfl rfl rfl ?_
  refine W.getfield 4 d_prog_7_method_9_1 rfl (host := "") (Or.inl (wd_27 hw)) Via.refl F1 ?_
  refine W.iloadN 5 d_prog_7_method_9_4 rfl rfl ?_
  refine W.iaload 6 d_prog_7_method_9_5 rfl A (i).toNatClampNeg rfl (own_get_ok hg).1 (.int z) (own_get_ok hg).2 ?_
  exact W.ireturn d_prog_7_method_9_6 rfl ⟨rfl, rfl⟩ (by decide) (by decide)
theorem g_outTarget (l : Launch) (Z : State) (a0 : Array Value) (hw : HwT Z a0) (a b : Addr) (i z : Int32) (xs : List Int32) (h : Heap) (n0 : Nat) (hn : n0 ≤ h.size) (F1 : Fld Z h a "com/example/eccentra/eccentra/Graph" "outTargets" "[I" (.ref b)) (A : Ary Z h b .int (xs.map Value.int)) (hg : own_get xs i = some z) : Con l Z (⟨"com/example/eccentra/eccentra/Graph", "outTarget", "(I)I"⟩ : MethodName) prog_7_method_11_code 2 (some .int) ({ frames := 0, cells := 0, slots := 0, locals := 0 } : Room) #[(.ref a), (.int i)] h n0 (fun r h' => r = some (.int z) ∧ h' = h) := by
  refine ConG.of_W (Ls := #[.val (.ref a), .val (.int i)]) (plainFor_of_name pn_1) hn (fun m => by first | (simp [entryFrame, mkF, argsToLocals, Value.category]; done) | rfl) ?_
  refine W.aloadN 1 d_prog_7_method_11_0 rfl rfl rfl ?_
  refine W.getfield 4 d_prog_7_method_11_1 rfl (host := "") (Or.inl (wd_29 hw)) Via.refl F1 ?_
  refine W.iloadN 5 d_prog_7_method_11_4 rfl rfl ?_
  refine W.iaload 6 d_prog_7_method_11_5 rfl A (i).toNatClampNeg rfl (own_get_ok hg).1 (.int z) (own_get_ok hg).2 ?_
  exact W.ireturn d_prog_7_method_11_6 rfl ⟨rfl, rfl⟩ (by decide) (by decide)
theorem g_inEnd (l : Launch) (Z : State) (a0 : Array Value) (hw : HwT Z a0) (a b : Addr) (i z : Int32) (xs : List Int32) (h : Heap) (n0 : Nat) (hn : n0 ≤ h.size) (F1 : Fld Z h a "com/example/eccentra/eccentra/Graph" "inOffsets" "[I" (.ref b)) (A : Ary Z h b .int (xs.map Value.int)) (hg : own_get xs (i + (1 : Int32)) = some z) : Con l Z (⟨"com/example/eccentra/eccentra/Graph", "inEnd", "(I)I"⟩ : MethodName) prog_7_method_13_code 2 (some .int) ({ frames := 0, cells := 0, slots := 0, locals := 0 } : Room) #[(.ref a), (.int i)] h n0 (fun r h' => r = some (.int z) ∧ h' = h) := by
  refine ConG.of_W (Ls := #[.val (.ref a), .val (.int i)]) (plainFor_of_name pn_1) hn (fun m => by first | (simp [entryFrame, mkF, argsToLocals, Value.category]; done) | rfl) ?_
  refine W.aloadN 1 d_prog_7_method_13_0 rfl rfl rfl ?_
  refine W.getfield 4 d_prog_7_method_13_1 rfl (host := "") (Or.inl (wd_31 hw)) Via.refl F1 ?_
  refine W.iloadN 5 d_prog_7_method_13_4 rfl rfl ?_
  refine W.iconst 6 d_prog_7_method_13_5 rfl (1 : Int32) rfl ?_
  refine W.iadd 7 d_prog_7_method_13_6 rfl (i + (1 : Int32)) rfl ?_
  refine W.iaload 8 d_prog_7_method_13_7 rfl A ((i + (1 : Int32))).toNatClampNeg rfl (own_get_ok hg).1 (.int z) (own_get_ok hg).2 ?_
  exact W.ireturn d_prog_7_method_13_8 rfl ⟨rfl, rfl⟩ (by decide) (by decide)
theorem g_inBegin (l : Launch) (Z : State) (a0 : Array Value) (hw : HwT Z a0) (a b : Addr) (i z : Int32) (xs : List Int32) (h : Heap) (n0 : Nat) (hn : n0 ≤ h.size) (F1 : Fld Z h a "com/example/eccentra/eccentra/Graph" "inOffsets" "[I" (.ref b)) (A : Ary Z h b .int (xs.map Value.int)) (hg : own_get xs i = some z) : Con l Z (⟨"com/example/eccentra/eccentra/Graph", "inBegin", "(I)I"⟩ : MethodName) prog_7_method_12_code 2 (some .int) ({ frames := 0, cells := 0, slots := 0, locals := 0 } : Room) #[(.ref a), (.int i)] h n0 (fun r h' => r = some (.int z) ∧ h' = h) := by
  refine ConG.of_W (Ls := #[.val (.ref a), .val (.int i)]) (plainFor_of_name pn_1) hn (fun m => by first | (simp [entryFrame, mkF, argsToLocals, Value.category]; done) | rfl) ?_
  refine W.aloadN 1 d_prog_7_method_12_0 rfl rfl rfl ?_
  refine W.getfield 4 d_prog_7_method_12_1 rfl (host := "") (Or.inl (wd_31 hw)) Via.refl F1 ?_
  refine W.iloadN 5 d_prog_7_method_12_4 rfl rfl ?_
  refine W.iaload 6 d_prog_7_method_12_5 rfl A (i).toNatClampNeg rfl (own_get_ok hg).1 (.int z) (own_get_ok hg).2 ?_
  exact W.ireturn d_prog_7_method_12_6 rfl ⟨rfl, rfl⟩ (by decide) (by decide)
theorem g_inSource (l : Launch) (Z : State) (a0 : Array Value) (hw : HwT Z a0) (a b : Addr) (i z : Int32) (xs : List Int32) (h : Heap) (n0 : Nat) (hn : n0 ≤ h.size) (F1 : Fld Z h a "com/example/eccentra/eccentra/Graph" "inSources" "[I" (.ref b)) (A : Ary Z h b .int (xs.map Value.int)) (hg : own_get xs i = some z) : Con l Z (⟨"com/example/eccentra/eccentra/Graph", "inSource", "(I)I"⟩ : MethodName) prog_7_method_14_code 2 (some .int) ({ frames := 0, cells := 0, slots := 0, locals := 0 } : Room) #[(.ref a), (.int i)] h n0 (fun r h' => r = some (.int z) ∧ h' = h) := by
  refine ConG.of_W (Ls := #[.val (.ref a), .val (.int i)]) (plainFor_of_name pn_1) hn (fun m => by first | (simp [entryFrame, mkF, argsToLocals, Value.category]; done) | rfl) ?_
  refine W.aloadN 1 d_prog_7_method_14_0 rfl rfl rfl ?_
  refine W.getfield 4 d_prog_7_method_14_1 rfl (host := "") (Or.inl (wd_33 hw)) Via.refl F1 ?_
  refine W.iloadN 5 d_prog_7_method_14_4 rfl rfl ?_
  refine W.iaload 6 d_prog_7_method_14_5 rfl A (i).toNatClampNeg rfl (own_get_ok hg).1 (.int z) (own_get_ok hg).2 ?_
  exact W.ireturn d_prog_7_method_14_6 rfl ⟨rfl, rfl⟩ (by decide) (by decide)
theorem g_reached (l : Launch) (Z : State) (a0 : Array Value) (hw : HwT Z a0) (a b : Addr) (i z : Int32) (xs : List Int32) (h : Heap) (n0 : Nat) (hn : n0 ≤ h.size) (F1 : Fld Z h a "com/example/eccentra/eccentra/BreadthFirst" "reachedOrder" "[I" (.ref b)) (A : Ary Z h b .int (xs.map Value.int)) (hg : own_get xs i = some z) : Con l Z (⟨"com/example/eccentra/eccentra/BreadthFirst", "reached", "(I)I"⟩ : MethodName) prog_3_method_5_code 2 (some .int) ({ frames := 0, cells := 0, slots := 0, locals := 0 } : Room) #[(.ref a), (.int i)] h n0 (fun r h' => r = some (.int z) ∧ h' = h) := by
  refine ConG.of_W (Ls := #[.val (.ref a), .val (.int i)]) (plainFor_of_name pn_2) hn (fun m => by first | (simp [entryFrame, mkF, argsToLocals, Value.category]; done) | rfl) ?_
  refine W.aloadN 1 d_prog_3_method_5_0 rfl rfl rfl ?_
  refine W.getfield 4 d_prog_3_method_5_1 rfl (host := "") (Or.inl (wd_76 hw)) Via.refl F1 ?_
  refine W.iloadN 5 d_prog_3_method_5_4 rfl rfl ?_
  refine W.iaload 6 d_prog_3_method_5_5 rfl A (i).toNatClampNeg rfl (own_get_ok hg).1 (.int z) (own_get_ok hg).2 ?_
  exact W.ireturn d_prog_3_method_5_6 rfl ⟨rfl, rfl⟩ (by decide) (by decide)
theorem g_distance (l : Launch) (Z : State) (a0 : Array Value) (hw : HwT Z a0) (a b : Addr) (i z : Int32) (xs : List Int32) (h : Heap) (n0 : Nat) (hn : n0 ≤ h.size) (F1 : Fld Z h a "com/example/eccentra/eccentra/BreadthFirst" "distance" "[I" (.ref b)) (A : Ary Z h b .int (xs.map Value.int)) (hg : own_get xs i = some z) : Con l Z (⟨"com/example/eccentra/eccentra/BreadthFirst", "distance", "(I)I"⟩ : MethodName) prog_3_method_6_code 2 (some .int) ({ frames := 0, cells := 0, slots := 0, locals := 0 } : Room) #[(.ref a), (.int i)] h n0 (fun r h' => r = some (.int z) ∧ h' = h) := by
  refine ConG.of_W (Ls := #[.val (.ref a), .val (.int i)]) (plainFor_of_name pn_2) hn (fun m => by first | (simp [entryFrame, mkF, argsToLocals, Value.category]; done) | rfl) ?_
  refine W.aloadN 1 d_prog_3_method_6_0 rfl rfl rfl ?_
  refine W.getfield 4 d_prog_3_method_6_1 rfl (host := "") (Or.inl (wd_68 hw)) Via.refl F1 ?_
  refine W.iloadN 5 d_prog_3_method_6_4 rfl rfl ?_
  refine W.iaload 6 d_prog_3_method_6_5 rfl A (i).toNatClampNeg rfl (own_get_ok hg).1 (.int z) (own_get_ok hg).2 ?_
  exact W.ireturn d_prog_3_method_6_6 rfl ⟨rfl, rfl⟩ (by decide) (by decide)
theorem g_rc (l : Launch) (Z : State) (a0 : Array Value) (hw : HwT Z a0) (a : Addr) (z : Int32) (h : Heap) (n0 : Nat) (hn : n0 ≤ h.size) (F1 : Fld Z h a "com/example/eccentra/eccentra/BreadthFirst" "reachedCount" "I" (.int z)) : Con l Z (⟨"com/example/eccentra/eccentra/BreadthFirst", "reachedCount", "()I"⟩ : MethodName) prog_3_method_4_code 1 (some .int) ({ frames := 0, cells := 0, slots := 0, locals := 0 } : Room) #[(.ref a)] h n0 (fun r h' => r = some (.int z) ∧ h' = h) := by
  refine ConG.of_W (Ls := #[.val (.ref a)]) (plainFor_of_name pn_2) hn (fun m => by first | (simp [entryFrame, mkF, argsToLocals, Value.category]; done) | rfl) ?_
  refine W.aloadN 1 d_prog_3_method_4_0 rfl rfl rfl ?_
  refine W.getfield 4 d_prog_3_method_4_1 rfl (host := "") (Or.inl (wd_87 hw)) Via.refl F1 ?_
  exact W.ireturn d_prog_3_method_4_4 rfl ⟨rfl, rfl⟩ (by decide) (by decide)
theorem c_vc (l : Launch) (Z : State) (a0 : Array Value) (hw : HwT Z a0) (a b : Addr) (h : Heap) (n0 : Nat) (hn : n0 ≤ h.size) (F1 : Fld Z h a "com/example/eccentra/eccentra/Graph" "labels" "[J" (.ref b)) (A : Ary Z h b .long [(.long (0 : Int64)), (.long (1 : Int64)), (.long (2 : Int64))]) : Con l Z (⟨"com/example/eccentra/eccentra/Graph", "vertexCount", "()I"⟩ : MethodName) prog_7_method_2_code 1 (some .int) ({ frames := 0, cells := 0, slots := 0, locals := 0 } : Room) #[(.ref a)] h n0 (fun r h' => r = some (.int 3) ∧ h' = h) := by
  refine ConG.of_W (Ls := #[.val (.ref a)]) (plainFor_of_name pn_1) hn (fun m => by first | (simp [entryFrame, mkF, argsToLocals, Value.category]; done) | rfl) ?_
  refine W.aloadN 1 d_prog_7_method_2_0 rfl rfl rfl ?_
  refine W.getfield 4 d_prog_7_method_2_1 rfl (host := "") (Or.inl (wd_23 hw)) Via.refl F1 ?_
  refine W.arraylength 5 d_prog_7_method_2_4 rfl A (3 : Int32) rfl ?_
  exact W.ireturn d_prog_7_method_2_5 rfl ⟨rfl, rfl⟩ (by decide) (by decide)
theorem c_isd0 (l : Launch) (Z : State) (a0 : Array Value) (hw : HwT Z a0) (a : Addr) (h : Heap) (n0 : Nat) (hn : n0 ≤ h.size) (F1 : Fld Z h a "com/example/eccentra/eccentra/Graph" "directed" "Z" (.int (0 : Int32))) : Con l Z (⟨"com/example/eccentra/eccentra/Graph", "isDirected", "()Z"⟩ : MethodName) prog_7_method_3_code 1 (some .boolean) ({ frames := 0, cells := 0, slots := 0, locals := 0 } : Room) #[(.ref a)] h n0 (fun r h' => r = some (.int (0 : Int32)) ∧ h' = h) := by
  refine ConG.of_W (Ls := #[.val (.ref a)]) (plainFor_of_name pn_1) hn (fun m => by first | (simp [entryFrame, mkF, argsToLocals, Value.category]; done) | rfl) ?_
  refine W.aloadN 1 d_prog_7_method_3_0 rfl rfl rfl ?_
  refine W.getfield 4 d_prog_7_method_3_1 rfl (host := "") (Or.inl (wd_25 hw)) Via.refl F1 ?_
  exact W.ireturnN (t := .boolean) d_prog_7_method_3_4 rfl (by simp) (0 : Int32) rfl ⟨rfl, rfl⟩ (by decide) (by decide)
theorem c_isd1 (l : Launch) (Z : State) (a0 : Array Value) (hw : HwT Z a0) (a : Addr) (h : Heap) (n0 : Nat) (hn : n0 ≤ h.size) (F1 : Fld Z h a "com/example/eccentra/eccentra/Graph" "directed" "Z" (.int (1 : Int32))) : Con l Z (⟨"com/example/eccentra/eccentra/Graph", "isDirected", "()Z"⟩ : MethodName) prog_7_method_3_code 1 (some .boolean) ({ frames := 0, cells := 0, slots := 0, locals := 0 } : Room) #[(.ref a)] h n0 (fun r h' => r = some (.int (1 : Int32)) ∧ h' = h) := by
  refine ConG.of_W (Ls := #[.val (.ref a)]) (plainFor_of_name pn_1) hn (fun m => by first | (simp [entryFrame, mkF, argsToLocals, Value.category]; done) | rfl) ?_
  refine W.aloadN 1 d_prog_7_method_3_0 rfl rfl rfl ?_
  refine W.getfield 4 d_prog_7_method_3_1 rfl (host := "") (Or.inl (wd_25 hw)) Via.refl F1 ?_
  exact W.ireturnN (t := .boolean) d_prog_7_method_3_4 rfl (by simp) (1 : Int32) rfl ⟨rfl, rfl⟩ (by decide) (by decide)
theorem c_f3 (l : Launch) (Z : State) (a0 : Array Value) (hw : HwT Z a0) (a : Addr) (x0 x1 x2 : Int32) (h : Heap) (n0 : Nat) (hn : n0 ≤ h.size) (ga : n0 ≤ a) (A : Ary Z h a .int [.int x0, .int x1, .int x2]) : Con l Z (⟨"java/util/Arrays", "fill", "([II)V"⟩ : MethodName) jdk_65_method_103_code 4 none ({ frames := 0, cells := 0, slots := 0, locals := 0 } : Room) #[(.ref a), (.int (-1 : Int32))] h n0 (fun r h' => r = none ∧ Keep h h' [a] ∧ Ary Z h' a .int [(.int (-1 : Int32)), (.int (-1 : Int32)), (.int (-1 : Int32))]) := by
  refine ConG.of_W (Ls := #[.val (.ref a), .val (.int (-1 : Int32)), .unset, .unset]) (plainFor_of_name pn_3) hn (fun m => by first | (simp [entryFrame, mkF, argsToLocals, Value.category]; done) | rfl) ?_
  refine W.iconst 1 d_jdk_65_method_103_0 rfl (0 : Int32) rfl ?_
  refine W.istoreN 2 d_jdk_65_method_103_1 rfl #[.val (.ref a), .val (.int (-1 : Int32)), .val (.int (0 : Int32)), .unset] rfl ?_
  refine W.aloadN 3 d_jdk_65_method_103_2 rfl rfl rfl ?_
  refine W.arraylength 4 d_jdk_65_method_103_3 rfl A (3 : Int32) rfl ?_
  refine W.istoreN 5 d_jdk_65_method_103_4 rfl #[.val (.ref a), .val (.int (-1 : Int32)), .val (.int (0 : Int32)), .val (.int (3 : Int32))] rfl ?_
  refine W.iloadN 6 d_jdk_65_method_103_5 rfl rfl ?_
  refine W.iloadN 7 d_jdk_65_method_103_6 rfl rfl ?_
  refine W.icmp_ge 20 10 d_jdk_65_method_103_7 rfl rfl (fun hc => absurd (by decide) hc) (fun _ => ?_)
  refine W.aloadN 11 d_jdk_65_method_103_10 rfl rfl rfl ?_
  refine W.iloadN 12 d_jdk_65_method_103_11 rfl rfl ?_
  refine W.iloadN 13 d_jdk_65_method_103_12 rfl rfl ?_
  refine W.iastore 14 d_jdk_65_method_103_13 rfl A 0 (by decide) (by decide) (Nat.le_of_ble_eq_true rfl) ga ?_
  intro h1144 W1144 K1144 A1144
  have kc1145 := Keep.trans (ws := [a]) (Keep.refl _ [a]) K1144 (allS (Or.inl (List.mem_of_getElem? (i := 0) rfl)) all0)
  have A1144 : Ary _ _ a .int [(.int (-1 : Int32)), (.int x1), (.int x2)] := A1144
  refine W.iinc 17 d_jdk_65_method_103_14 rfl rfl (1 : Int32) (by decide) #[.val (.ref a), .val (.int (-1 : Int32)), .val (.int (1 : Int32)), .val (.int (3 : Int32))] rfl ?_
  refine W.goto 5 d_jdk_65_method_103_17 rfl ?_
  refine W.iloadN 6 d_jdk_65_method_103_5 rfl rfl ?_
  refine W.iloadN 7 d_jdk_65_method_103_6 rfl rfl ?_
  refine W.icmp_ge 20 10 d_jdk_65_method_103_7 rfl rfl (fun hc => absurd (by decide) hc) (fun _ => ?_)
  refine W.aloadN 11 d_jdk_65_method_103_10 rfl rfl rfl ?_
  refine W.iloadN 12 d_jdk_65_method_103_11 rfl rfl ?_
  refine W.iloadN 13 d_jdk_65_method_103_12 rfl rfl ?_
  refine W.iastore 14 d_jdk_65_method_103_13 rfl A1144 1 (by decide) (by decide) (Nat.le_of_ble_eq_true rfl) ga ?_
  intro h1146 W1146 K1146 A1146
  have kc1147 := Keep.trans (ws := [a]) kc1145 K1146 (allS (Or.inl (List.mem_of_getElem? (i := 0) rfl)) all0)
  have A1146 : Ary _ _ a .int [(.int (-1 : Int32)), (.int (-1 : Int32)), (.int x2)] := A1146
  refine W.iinc 17 d_jdk_65_method_103_14 rfl rfl (2 : Int32) (by decide) #[.val (.ref a), .val (.int (-1 : Int32)), .val (.int (2 : Int32)), .val (.int (3 : Int32))] rfl ?_
  refine W.goto 5 d_jdk_65_method_103_17 rfl ?_
  refine W.iloadN 6 d_jdk_65_method_103_5 rfl rfl ?_
  refine W.iloadN 7 d_jdk_65_method_103_6 rfl rfl ?_
  refine W.icmp_ge 20 10 d_jdk_65_method_103_7 rfl rfl (fun hc => absurd (by decide) hc) (fun _ => ?_)
  refine W.aloadN 11 d_jdk_65_method_103_10 rfl rfl rfl ?_
  refine W.iloadN 12 d_jdk_65_method_103_11 rfl rfl ?_
  refine W.iloadN 13 d_jdk_65_method_103_12 rfl rfl ?_
  refine W.iastore 14 d_jdk_65_method_103_13 rfl A1146 2 (by decide) (by decide) (Nat.le_of_ble_eq_true rfl) ga ?_
  intro h1148 W1148 K1148 A1148
  have kc1149 := Keep.trans (ws := [a]) kc1147 K1148 (allS (Or.inl (List.mem_of_getElem? (i := 0) rfl)) all0)
  have A1148 : Ary _ _ a .int [(.int (-1 : Int32)), (.int (-1 : Int32)), (.int (-1 : Int32))] := A1148
  refine W.iinc 17 d_jdk_65_method_103_14 rfl rfl (3 : Int32) (by decide) #[.val (.ref a), .val (.int (-1 : Int32)), .val (.int (3 : Int32)), .val (.int (3 : Int32))] rfl ?_
  refine W.goto 5 d_jdk_65_method_103_17 rfl ?_
  refine W.iloadN 6 d_jdk_65_method_103_5 rfl rfl ?_
  refine W.iloadN 7 d_jdk_65_method_103_6 rfl rfl ?_
  refine W.icmp_ge 20 10 d_jdk_65_method_103_7 rfl rfl (fun _ => ?_) (fun hc => absurd hc (by decide))
  exact W.return_ d_jdk_65_method_103_20 rfl ⟨rfl, kc1149, A1148⟩ (by decide) (by decide)
theorem c_gi0 (l : Launch) (Z : State) (a0 : Array Value) (hw : HwT Z a0) (a r1 r3 r4 r5 r6 : Addr) (h : Heap) (n0 : Nat) (hn : n0 ≤ h.size) (ga : n0 ≤ a) (E : Exa Z h a "com/example/eccentra/eccentra/Graph") (F0 : Fld Z h a "com/example/eccentra/eccentra/Graph" "labels" "[J" .null) (F1 : Fld Z h a "com/example/eccentra/eccentra/Graph" "directed" "Z" (.int (0 : Int32))) (F2 : Fld Z h a "com/example/eccentra/eccentra/Graph" "outOffsets" "[I" .null) (F3 : Fld Z h a "com/example/eccentra/eccentra/Graph" "outTargets" "[I" .null) (F4 : Fld Z h a "com/example/eccentra/eccentra/Graph" "inOffsets" "[I" .null) (F5 : Fld Z h a "com/example/eccentra/eccentra/Graph" "inSources" "[I" .null) : Con l Z (⟨"com/example/eccentra/eccentra/Graph", "<init>", "([JZ[I[I[I[I)V"⟩ : MethodName) prog_7_method_1_code 7 none ({ frames := 1, cells := 0, slots := 0, locals := 20 } : Room) #[(.ref a), (.ref r1), (.int (0 : Int32)), (.ref r3), (.ref r4), (.ref r5), (.ref r6)] h n0 (fun r h' => r = none ∧ Exa Z h' a "com/example/eccentra/eccentra/Graph" ∧ Keep h h' [a] ∧ Fld Z h' a "com/example/eccentra/eccentra/Graph" "labels" "[J" (.ref r1) ∧ Fld Z h' a "com/example/eccentra/eccentra/Graph" "directed" "Z" (.int (0 : Int32)) ∧ Fld Z h' a "com/example/eccentra/eccentra/Graph" "outOffsets" "[I" (.ref r3) ∧ Fld Z h' a "com/example/eccentra/eccentra/Graph" "outTargets" "[I" (.ref r4) ∧ Fld Z h' a "com/example/eccentra/eccentra/Graph" "inOffsets" "[I" (.ref r5) ∧ Fld Z h' a "com/example/eccentra/eccentra/Graph" "inSources" "[I" (.ref r6)) := by
  refine ConG.of_W (Ls := #[.val (.ref a), .val (.ref r1), .val (.int (0 : Int32)), .val (.ref r3), .val (.ref r4), .val (.ref r5), .val (.ref r6)]) (plainFor_of_name pn_1) hn (fun m => by first | (simp [entryFrame, mkF, argsToLocals, Value.category]; done) | rfl) ?_
  refine W.aloadN 1 d_prog_7_method_1_0 rfl rfl rfl ?_
  refine W.initObj 4 d_prog_7_method_1_1 rfl (wd_20 hw) (wd_21 hw) (wd_22 hw) rfl (by decide) 0 (Nat.le_of_ble_eq_true rfl) (by decide) ?_
  refine W.aloadN 5 d_prog_7_method_1_4 rfl rfl rfl ?_
  refine W.aloadN 6 d_prog_7_method_1_5 rfl rfl rfl ?_
  refine W.putfield 9 d_prog_7_method_1_6 rfl (host := "") (Or.inl (wd_23 hw)) Via.refl F0 E (Or.inr ⟨(wd_24 hw), rfl, rfl⟩) (wd_13 hw) (ty := (.array .long)) (by decide) rfl rfl ga ?_
  intro h1150 W1150 F1150 E1150 K1150
  have kc1151 := Keep.trans (ws := [a]) (Keep.refl _ [a]) K1150 (allS (Or.inl (List.mem_of_getElem? (i := 0) rfl)) all0)
  refine W.aloadN 10 d_prog_7_method_1_9 rfl rfl rfl ?_
  refine W.iloadN 11 d_prog_7_method_1_10 rfl rfl ?_
  have q1152 := (F1.other W1150 (Or.inr (sne_0 hw)))
  refine W.putfieldN 14 d_prog_7_method_1_11 rfl (wd_25 hw) Via.refl q1152 E1150 (Or.inr ⟨(wd_26 hw), rfl, rfl⟩) (wd_13 hw) (ty := .boolean) (by decide) (.int (0 : Int32)) rfl rfl ga ?_
  intro h1153 W1153 F1153 E1153 K1153
  have kc1154 := Keep.trans (ws := [a]) kc1151 K1153 (allS (Or.inl (List.mem_of_getElem? (i := 0) rfl)) all0)
  refine W.aloadN 15 d_prog_7_method_1_14 rfl rfl rfl ?_
  refine W.aloadN 16 d_prog_7_method_1_15 rfl rfl rfl ?_
  have q1155 := ((F2.other W1150 (Or.inr (sne_1 hw))).other W1153 (Or.inr (sne_2 hw)))
  refine W.putfield 19 d_prog_7_method_1_16 rfl (host := "") (Or.inl (wd_27 hw)) Via.refl q1155 E1153 (Or.inr ⟨(wd_28 hw), rfl, rfl⟩) (wd_13 hw) (ty := (.array .int)) (by decide) rfl rfl ga ?_
  intro h1156 W1156 F1156 E1156 K1156
  have kc1157 := Keep.trans (ws := [a]) kc1154 K1156 (allS (Or.inl (List.mem_of_getElem? (i := 0) rfl)) all0)
  refine W.aloadN 20 d_prog_7_method_1_19 rfl rfl rfl ?_
  refine W.aload 22 d_prog_7_method_1_20 rfl rfl rfl ?_
  have q1158 := (((F3.other W1150 (Or.inr (sne_3 hw))).other W1153 (Or.inr (sne_4 hw))).other W1156 (Or.inr (sne_5 hw)))
  refine W.putfield 25 d_prog_7_method_1_22 rfl (host := "") (Or.inl (wd_29 hw)) Via.refl q1158 E1156 (Or.inr ⟨(wd_30 hw), rfl, rfl⟩) (wd_13 hw) (ty := (.array .int)) (by decide) rfl rfl ga ?_
  intro h1159 W1159 F1159 E1159 K1159
  have kc1160 := Keep.trans (ws := [a]) kc1157 K1159 (allS (Or.inl (List.mem_of_getElem? (i := 0) rfl)) all0)
  refine W.aloadN 26 d_prog_7_method_1_25 rfl rfl rfl ?_
  refine W.aload 28 d_prog_7_method_1_26 rfl rfl rfl ?_
  have q1161 := ((((F4.other W1150 (Or.inr (sne_6 hw))).other W1153 (Or.inr (sne_7 hw))).other W1156 (Or.inr (sne_8 hw))).other W1159 (Or.inr (sne_9 hw)))
  refine W.putfield 31 d_prog_7_method_1_28 rfl (host := "") (Or.inl (wd_31 hw)) Via.refl q1161 E1159 (Or.inr ⟨(wd_32 hw), rfl, rfl⟩) (wd_13 hw) (ty := (.array .int)) (by decide) rfl rfl ga ?_
  intro h1162 W1162 F1162 E1162 K1162
  have kc1163 := Keep.trans (ws := [a]) kc1160 K1162 (allS (Or.inl (List.mem_of_getElem? (i := 0) rfl)) all0)
  refine W.aloadN 32 d_prog_7_method_1_31 rfl rfl rfl ?_
  refine W.aload 34 d_prog_7_method_1_32 rfl rfl rfl ?_
  have q1164 := (((((F5.other W1150 (Or.inr (sne_10 hw))).other W1153 (Or.inr (sne_11 hw))).other W1156 (Or.inr (sne_12 hw))).other W1159 (Or.inr (sne_13 hw))).other W1162 (Or.inr (sne_14 hw)))
  refine W.putfield 37 d_prog_7_method_1_34 rfl (host := "") (Or.inl (wd_33 hw)) Via.refl q1164 E1162 (Or.inr ⟨(wd_34 hw), rfl, rfl⟩) (wd_13 hw) (ty := (.array .int)) (by decide) rfl rfl ga ?_
  intro h1165 W1165 F1165 E1165 K1165
  have kc1166 := Keep.trans (ws := [a]) kc1163 K1165 (allS (Or.inl (List.mem_of_getElem? (i := 0) rfl)) all0)
  have q1167 := (((((F1150.other W1153 (Or.inr (sne_15 hw))).other W1156 (Or.inr (sne_16 hw))).other W1159 (Or.inr (sne_17 hw))).other W1162 (Or.inr (sne_18 hw))).other W1165 (Or.inr (sne_19 hw)))
  have q1168 := ((((F1153.other W1156 (Or.inr (sne_20 hw))).other W1159 (Or.inr (sne_21 hw))).other W1162 (Or.inr (sne_22 hw))).other W1165 (Or.inr (sne_23 hw)))
  have q1169 := (((F1156.other W1159 (Or.inr (sne_24 hw))).other W1162 (Or.inr (sne_25 hw))).other W1165 (Or.inr (sne_26 hw)))
  have q1170 := ((F1159.other W1162 (Or.inr (sne_27 hw))).other W1165 (Or.inr (sne_28 hw)))
  have q1171 := (F1162.other W1165 (Or.inr (sne_29 hw)))
  exact W.return_ d_prog_7_method_1_37 rfl ⟨rfl, E1165, kc1166, q1167, q1168, q1169, q1170, q1171, F1165⟩ (by decide) (by decide)
theorem c_gi1 (l : Launch) (Z : State) (a0 : Array Value) (hw : HwT Z a0) (a r1 r3 r4 r5 r6 : Addr) (h : Heap) (n0 : Nat) (hn : n0 ≤ h.size) (ga : n0 ≤ a) (E : Exa Z h a "com/example/eccentra/eccentra/Graph") (F0 : Fld Z h a "com/example/eccentra/eccentra/Graph" "labels" "[J" .null) (F1 : Fld Z h a "com/example/eccentra/eccentra/Graph" "directed" "Z" (.int (0 : Int32))) (F2 : Fld Z h a "com/example/eccentra/eccentra/Graph" "outOffsets" "[I" .null) (F3 : Fld Z h a "com/example/eccentra/eccentra/Graph" "outTargets" "[I" .null) (F4 : Fld Z h a "com/example/eccentra/eccentra/Graph" "inOffsets" "[I" .null) (F5 : Fld Z h a "com/example/eccentra/eccentra/Graph" "inSources" "[I" .null) : Con l Z (⟨"com/example/eccentra/eccentra/Graph", "<init>", "([JZ[I[I[I[I)V"⟩ : MethodName) prog_7_method_1_code 7 none ({ frames := 1, cells := 0, slots := 0, locals := 20 } : Room) #[(.ref a), (.ref r1), (.int (1 : Int32)), (.ref r3), (.ref r4), (.ref r5), (.ref r6)] h n0 (fun r h' => r = none ∧ Exa Z h' a "com/example/eccentra/eccentra/Graph" ∧ Keep h h' [a] ∧ Fld Z h' a "com/example/eccentra/eccentra/Graph" "labels" "[J" (.ref r1) ∧ Fld Z h' a "com/example/eccentra/eccentra/Graph" "directed" "Z" (.int (1 : Int32)) ∧ Fld Z h' a "com/example/eccentra/eccentra/Graph" "outOffsets" "[I" (.ref r3) ∧ Fld Z h' a "com/example/eccentra/eccentra/Graph" "outTargets" "[I" (.ref r4) ∧ Fld Z h' a "com/example/eccentra/eccentra/Graph" "inOffsets" "[I" (.ref r5) ∧ Fld Z h' a "com/example/eccentra/eccentra/Graph" "inSources" "[I" (.ref r6)) := by
  refine ConG.of_W (Ls := #[.val (.ref a), .val (.ref r1), .val (.int (1 : Int32)), .val (.ref r3), .val (.ref r4), .val (.ref r5), .val (.ref r6)]) (plainFor_of_name pn_1) hn (fun m => by first | (simp [entryFrame, mkF, argsToLocals, Value.category]; done) | rfl) ?_
  refine W.aloadN 1 d_prog_7_method_1_0 rfl rfl rfl ?_
  refine W.initObj 4 d_prog_7_method_1_1 rfl (wd_20 hw) (wd_21 hw) (wd_22 hw) rfl (by decide) 0 (Nat.le_of_ble_eq_true rfl) (by decide) ?_
  refine W.aloadN 5 d_prog_7_method_1_4 rfl rfl rfl ?_
  refine W.aloadN 6 d_prog_7_method_1_5 rfl rfl rfl ?_
  refine W.putfield 9 d_prog_7_method_1_6 rfl (host := "") (Or.inl (wd_23 hw)) Via.refl F0 E (Or.inr ⟨(wd_24 hw), rfl, rfl⟩) (wd_13 hw) (ty := (.array .long)) (by decide) rfl rfl ga ?_
  intro h1172 W1172 F1172 E1172 K1172
  have kc1173 := Keep.trans (ws := [a]) (Keep.refl _ [a]) K1172 (allS (Or.inl (List.mem_of_getElem? (i := 0) rfl)) all0)
  refine W.aloadN 10 d_prog_7_method_1_9 rfl rfl rfl ?_
  refine W.iloadN 11 d_prog_7_method_1_10 rfl rfl ?_
  have q1174 := (F1.other W1172 (Or.inr (sne_0 hw)))
  refine W.putfieldN 14 d_prog_7_method_1_11 rfl (wd_25 hw) Via.refl q1174 E1172 (Or.inr ⟨(wd_26 hw), rfl, rfl⟩) (wd_13 hw) (ty := .boolean) (by decide) (.int (1 : Int32)) rfl rfl ga ?_
  intro h1175 W1175 F1175 E1175 K1175
  have kc1176 := Keep.trans (ws := [a]) kc1173 K1175 (allS (Or.inl (List.mem_of_getElem? (i := 0) rfl)) all0)
  refine W.aloadN 15 d_prog_7_method_1_14 rfl rfl rfl ?_
  refine W.aloadN 16 d_prog_7_method_1_15 rfl rfl rfl ?_
  have q1177 := ((F2.other W1172 (Or.inr (sne_1 hw))).other W1175 (Or.inr (sne_2 hw)))
  refine W.putfield 19 d_prog_7_method_1_16 rfl (host := "") (Or.inl (wd_27 hw)) Via.refl q1177 E1175 (Or.inr ⟨(wd_28 hw), rfl, rfl⟩) (wd_13 hw) (ty := (.array .int)) (by decide) rfl rfl ga ?_
  intro h1178 W1178 F1178 E1178 K1178
  have kc1179 := Keep.trans (ws := [a]) kc1176 K1178 (allS (Or.inl (List.mem_of_getElem? (i := 0) rfl)) all0)
  refine W.aloadN 20 d_prog_7_method_1_19 rfl rfl rfl ?_
  refine W.aload 22 d_prog_7_method_1_20 rfl rfl rfl ?_
  have q1180 := (((F3.other W1172 (Or.inr (sne_3 hw))).other W1175 (Or.inr (sne_4 hw))).other W1178 (Or.inr (sne_5 hw)))
  refine W.putfield 25 d_prog_7_method_1_22 rfl (host := "") (Or.inl (wd_29 hw)) Via.refl q1180 E1178 (Or.inr ⟨(wd_30 hw), rfl, rfl⟩) (wd_13 hw) (ty := (.array .int)) (by decide) rfl rfl ga ?_
  intro h1181 W1181 F1181 E1181 K1181
  have kc1182 := Keep.trans (ws := [a]) kc1179 K1181 (allS (Or.inl (List.mem_of_getElem? (i := 0) rfl)) all0)
  refine W.aloadN 26 d_prog_7_method_1_25 rfl rfl rfl ?_
  refine W.aload 28 d_prog_7_method_1_26 rfl rfl rfl ?_
  have q1183 := ((((F4.other W1172 (Or.inr (sne_6 hw))).other W1175 (Or.inr (sne_7 hw))).other W1178 (Or.inr (sne_8 hw))).other W1181 (Or.inr (sne_9 hw)))
  refine W.putfield 31 d_prog_7_method_1_28 rfl (host := "") (Or.inl (wd_31 hw)) Via.refl q1183 E1181 (Or.inr ⟨(wd_32 hw), rfl, rfl⟩) (wd_13 hw) (ty := (.array .int)) (by decide) rfl rfl ga ?_
  intro h1184 W1184 F1184 E1184 K1184
  have kc1185 := Keep.trans (ws := [a]) kc1182 K1184 (allS (Or.inl (List.mem_of_getElem? (i := 0) rfl)) all0)
  refine W.aloadN 32 d_prog_7_method_1_31 rfl rfl rfl ?_
  refine W.aload 34 d_prog_7_method_1_32 rfl rfl rfl ?_
  have q1186 := (((((F5.other W1172 (Or.inr (sne_10 hw))).other W1175 (Or.inr (sne_11 hw))).other W1178 (Or.inr (sne_12 hw))).other W1181 (Or.inr (sne_13 hw))).other W1184 (Or.inr (sne_14 hw)))
  refine W.putfield 37 d_prog_7_method_1_34 rfl (host := "") (Or.inl (wd_33 hw)) Via.refl q1186 E1184 (Or.inr ⟨(wd_34 hw), rfl, rfl⟩) (wd_13 hw) (ty := (.array .int)) (by decide) rfl rfl ga ?_
  intro h1187 W1187 F1187 E1187 K1187
  have kc1188 := Keep.trans (ws := [a]) kc1185 K1187 (allS (Or.inl (List.mem_of_getElem? (i := 0) rfl)) all0)
  have q1189 := (((((F1172.other W1175 (Or.inr (sne_15 hw))).other W1178 (Or.inr (sne_16 hw))).other W1181 (Or.inr (sne_17 hw))).other W1184 (Or.inr (sne_18 hw))).other W1187 (Or.inr (sne_19 hw)))
  have q1190 := ((((F1175.other W1178 (Or.inr (sne_20 hw))).other W1181 (Or.inr (sne_21 hw))).other W1184 (Or.inr (sne_22 hw))).other W1187 (Or.inr (sne_23 hw)))
  have q1191 := (((F1178.other W1181 (Or.inr (sne_24 hw))).other W1184 (Or.inr (sne_25 hw))).other W1187 (Or.inr (sne_26 hw)))
  have q1192 := ((F1181.other W1184 (Or.inr (sne_27 hw))).other W1187 (Or.inr (sne_28 hw)))
  have q1193 := (F1184.other W1187 (Or.inr (sne_29 hw)))
  exact W.return_ d_prog_7_method_1_37 rfl ⟨rfl, E1187, kc1188, q1189, q1190, q1191, q1192, q1193, F1187⟩ (by decide) (by decide)
theorem c_mi0 (l : Launch) (Z : State) (a0 : Array Value) (hw : HwT Z a0) (a g bl : Addr) (h : Heap) (n0 : Nat) (hn : n0 ≤ h.size) (ga : n0 ≤ a) (E : Exa Z h a "com/example/eccentra/eccentra/MainVertex") (F0 : Fld Z h a "com/example/eccentra/eccentra/MainVertex" "vertex" "I" (.int (0 : Int32))) (F1 : Fld Z h a "com/example/eccentra/eccentra/MainVertex" "from" "[I" .null) (F2 : Fld Z h a "com/example/eccentra/eccentra/MainVertex" "to" "[I" .null) (Eg : Exa Z h g "com/example/eccentra/eccentra/Graph") (Fl : Fld Z h g "com/example/eccentra/eccentra/Graph" "labels" "[J" (.ref bl)) (Fd : Fld Z h g "com/example/eccentra/eccentra/Graph" "directed" "Z" (.int (0 : Int32))) (Al : Ary Z h bl .long [(.long (0 : Int64)), (.long (1 : Int64)), (.long (2 : Int64))]) (ne_g : a ≠ g) (ne_l : a ≠ bl) : Con l Z (⟨"com/example/eccentra/eccentra/MainVertex", "<init>", "(Lcom/example/eccentra/eccentra/Graph;)V"⟩ : MethodName) prog_19_method_1_code 2 none ({ frames := 1, cells := 2, slots := 6, locals := 40 } : Room) #[(.ref a), (.ref g)] h n0 (fun r h' => r = none ∧ ∃ bf, h.size ≤ bf ∧ n0 ≤ bf ∧ a ≠ bf ∧ Keep h h' [a] ∧ Exa Z h' a "com/example/eccentra/eccentra/MainVertex" ∧ Fld Z h' a "com/example/eccentra/eccentra/MainVertex" "vertex" "I" (.int (-1 : Int32)) ∧ Fld Z h' a "com/example/eccentra/eccentra/MainVertex" "from" "[I" (.ref bf) ∧ Fld Z h' a "com/example/eccentra/eccentra/MainVertex" "to" "[I" (.ref bf) ∧ Ary Z h' bf .int [(.int (0 : Int32)), (.int (0 : Int32)), (.int (0 : Int32))]) := by
  refine ConG.of_W (Ls := #[.val (.ref a), .val (.ref g)]) (plainFor_of_name pn_4) hn (fun m => by first | (simp [entryFrame, mkF, argsToLocals, Value.category]; done) | rfl) ?_
  refine W.aloadN 1 d_prog_19_method_1_0 rfl rfl rfl ?_
  refine W.initObj 4 d_prog_19_method_1_1 rfl (wd_41 hw) (wd_21 hw) (wd_22 hw) rfl (by decide) 0 (Nat.le_of_ble_eq_true rfl) (by decide) ?_
  refine W.aloadN 5 d_prog_19_method_1_4 rfl rfl rfl ?_
  refine W.iconst 6 d_prog_19_method_1_5 rfl (-1 : Int32) rfl ?_
  refine W.putfield 9 d_prog_19_method_1_6 rfl (host := "") (Or.inl (wd_42 hw)) Via.refl F0 E (Or.inl (wd_43 hw)) (wd_36 hw) (ty := .int) (by decide) rfl rfl ga ?_
  intro h1194 W1194 F1194 E1194 K1194
  have kc1195 := Keep.trans (ws := [a]) (Keep.refl _ [a]) K1194 (allS (Or.inl (List.mem_of_getElem? (i := 0) rfl)) all0)
  refine W.aloadN 10 d_prog_19_method_1_9 rfl rfl rfl ?_
  refine W.aloadN 11 d_prog_19_method_1_10 rfl rfl rfl ?_
  have q1196 := (Fl.keep K1194 (ninS (Ne.symm ne_g) nin0))
  have q1197 := (Al.keep K1194 (ninS (Ne.symm ne_l) nin0))
  have q1199 := (Eg.keep K1194)
  refine W.callV (rest := [(.ref a)]) (argsL := []) (a := g) 14 d_prog_19_method_1_11 rfl (fun hn => c_vc l Z a0 hw g bl _ n0 hn q1196 q1197) q1199 (wd_44 hw) (wd_45 hw) (wd_47 hw) rfl (wd_46 hw) (wd_14 hw) (wd_48 hw) (by decide) pd_3 rfl rfl rfl (by decide) 1 (Nat.le_of_ble_eq_true rfl) (by decide) (by decide) (by decide) ?_
  rintro v1198 h1198 ⟨rfl, rfl⟩
  show WG _ _ _ _ _ _ _ _ _ _ _ _ 0 0 14 #[.val (.ref a), .val (.ref g)] [(.int (3 : Int32)), (.ref a)]
  refine W.newarray 16 d_prog_19_method_1_14 rfl (wd_1 hw) rfl (by decide) 3 3 (by decide) (by decide) (by decide) (by decide) (by decide) rfl ?_
  intro h1200 b1200 g1200 ge1200 X1200 K1200 A1200
  have ne1201 : a ≠ b1200 := Nat.ne_of_lt (Nat.lt_of_lt_of_eq E1194.lt g1200.symm)
  have ne1202 : bl ≠ b1200 := Nat.ne_of_lt (Nat.lt_of_lt_of_eq q1197.lt g1200.symm)
  have ne1203 : g ≠ b1200 := Nat.ne_of_lt (Nat.lt_of_lt_of_eq q1199.lt g1200.symm)
  have sz1204 := Nat.le_trans kc1195.1 (Nat.le_of_eq g1200.symm)
  have kc1205 := Keep.trans (ws := [a]) kc1195 K1200 all0
  have A1200 : Ary _ _ b1200 .int [(.int (0 : Int32)), (.int (0 : Int32)), (.int (0 : Int32))] := A1200
  show WG _ _ _ _ _ _ _ _ _ _ _ _ 1 3 16 #[.val (.ref a), .val (.ref g)] [(.ref b1200), (.ref a)]
  have q1206 := ((F1.other W1194 (Or.inr (sne_30 hw))).keep K1200 nin0)
  have q1207 := (E1194.keep K1200)
  refine W.putfield 19 d_prog_19_method_1_16 rfl (host := "") (Or.inl (wd_49 hw)) Via.refl q1206 q1207 (Or.inr ⟨(wd_50 hw), rfl, rfl⟩) (wd_36 hw) (ty := (.array .int)) (by decide) rfl rfl ga ?_
  intro h1208 W1208 F1208 E1208 K1208
  have kc1209 := Keep.trans (ws := [a]) kc1205 K1208 (allS (Or.inl (List.mem_of_getElem? (i := 0) rfl)) all0)
  refine W.aloadN 20 d_prog_19_method_1_19 rfl rfl rfl ?_
  refine W.aloadN 21 d_prog_19_method_1_20 rfl rfl rfl ?_
  have q1210 := (((Fd.keep K1194 (ninS (Ne.symm ne_g) nin0)).keep K1200 nin0).keep K1208 (ninS (Ne.symm ne_g) nin0))
  have q1212 := ((q1199.keep K1200).keep K1208)
  refine W.callV (rest := [(.ref a)]) (argsL := []) (a := g) 24 d_prog_19_method_1_21 rfl (fun hn => c_isd0 l Z a0 hw g _ n0 hn q1210) q1212 (wd_51 hw) (wd_52 hw) (wd_54 hw) rfl (wd_53 hw) (wd_14 hw) (wd_55 hw) (by decide) pd_4 rfl rfl rfl (by decide) 1 (Nat.le_of_ble_eq_true rfl) (by decide) (by decide) (by decide) ?_
  rintro v1211 h1211 ⟨rfl, rfl⟩
  show WG _ _ _ _ _ _ _ _ _ _ _ _ 1 3 24 #[.val (.ref a), .val (.ref g)] [(.int (0 : Int32)), (.ref a)]
  refine W.if_eq 36 27 d_prog_19_method_1_24 rfl rfl (fun _ => ?_) (fun hc => absurd (by decide) hc)
  refine W.aloadN 37 d_prog_19_method_1_36 rfl rfl rfl ?_
  refine W.getfield 40 d_prog_19_method_1_37 rfl (host := "") (Or.inl (wd_49 hw)) Via.refl F1208 ?_
  have q1213 := (((F2.other W1194 (Or.inr (sne_31 hw))).keep K1200 nin0).other W1208 (Or.inr (sne_32 hw)))
  refine W.putfield 43 d_prog_19_method_1_40 rfl (host := "") (Or.inl (wd_56 hw)) Via.refl q1213 E1208 (Or.inr ⟨(wd_57 hw), rfl, rfl⟩) (wd_36 hw) (ty := (.array .int)) (by decide) rfl rfl ga ?_
  intro h1214 W1214 F1214 E1214 K1214
  have kc1215 := Keep.trans (ws := [a]) kc1209 K1214 (allS (Or.inl (List.mem_of_getElem? (i := 0) rfl)) all0)
  have q1216 := (((F1194.keep K1200 nin0).other W1208 (Or.inr (sne_33 hw))).other W1214 (Or.inr (sne_34 hw)))
  have q1217 := (F1208.other W1214 (Or.inr (sne_35 hw)))
  have q1218 := ((A1200.keep K1208 (ninS (Ne.symm ne1201) nin0)).keep K1214 (ninS (Ne.symm ne1201) nin0))
  exact W.return_ d_prog_19_method_1_43 rfl ⟨rfl, b1200, sz1204, ge1200, ne1201, kc1215, E1214, q1216, q1217, F1214, q1218⟩ (by decide) (by decide)
theorem c_mi1 (l : Launch) (Z : State) (a0 : Array Value) (hw : HwT Z a0) (a g bl : Addr) (h : Heap) (n0 : Nat) (hn : n0 ≤ h.size) (ga : n0 ≤ a) (E : Exa Z h a "com/example/eccentra/eccentra/MainVertex") (F0 : Fld Z h a "com/example/eccentra/eccentra/MainVertex" "vertex" "I" (.int (0 : Int32))) (F1 : Fld Z h a "com/example/eccentra/eccentra/MainVertex" "from" "[I" .null) (F2 : Fld Z h a "com/example/eccentra/eccentra/MainVertex" "to" "[I" .null) (Eg : Exa Z h g "com/example/eccentra/eccentra/Graph") (Fl : Fld Z h g "com/example/eccentra/eccentra/Graph" "labels" "[J" (.ref bl)) (Fd : Fld Z h g "com/example/eccentra/eccentra/Graph" "directed" "Z" (.int (1 : Int32))) (Al : Ary Z h bl .long [(.long (0 : Int64)), (.long (1 : Int64)), (.long (2 : Int64))]) (ne_g : a ≠ g) (ne_l : a ≠ bl) : Con l Z (⟨"com/example/eccentra/eccentra/MainVertex", "<init>", "(Lcom/example/eccentra/eccentra/Graph;)V"⟩ : MethodName) prog_19_method_1_code 2 none ({ frames := 1, cells := 2, slots := 6, locals := 40 } : Room) #[(.ref a), (.ref g)] h n0 (fun r h' => r = none ∧ ∃ bf bt, (h.size ≤ bf ∧ n0 ≤ bf ∧ h.size ≤ bt ∧ n0 ≤ bt ∧ a ≠ bf ∧ a ≠ bt ∧ bf ≠ bt) ∧ Keep h h' [a] ∧ Exa Z h' a "com/example/eccentra/eccentra/MainVertex" ∧ Fld Z h' a "com/example/eccentra/eccentra/MainVertex" "vertex" "I" (.int (-1 : Int32)) ∧ Fld Z h' a "com/example/eccentra/eccentra/MainVertex" "from" "[I" (.ref bf) ∧ Fld Z h' a "com/example/eccentra/eccentra/MainVertex" "to" "[I" (.ref bt) ∧ Ary Z h' bf .int [(.int (0 : Int32)), (.int (0 : Int32)), (.int (0 : Int32))] ∧ Ary Z h' bt .int [(.int (0 : Int32)), (.int (0 : Int32)), (.int (0 : Int32))]) := by
  refine ConG.of_W (Ls := #[.val (.ref a), .val (.ref g)]) (plainFor_of_name pn_4) hn (fun m => by first | (simp [entryFrame, mkF, argsToLocals, Value.category]; done) | rfl) ?_
  refine W.aloadN 1 d_prog_19_method_1_0 rfl rfl rfl ?_
  refine W.initObj 4 d_prog_19_method_1_1 rfl (wd_41 hw) (wd_21 hw) (wd_22 hw) rfl (by decide) 0 (Nat.le_of_ble_eq_true rfl) (by decide) ?_
  refine W.aloadN 5 d_prog_19_method_1_4 rfl rfl rfl ?_
  refine W.iconst 6 d_prog_19_method_1_5 rfl (-1 : Int32) rfl ?_
  refine W.putfield 9 d_prog_19_method_1_6 rfl (host := "") (Or.inl (wd_42 hw)) Via.refl F0 E (Or.inl (wd_43 hw)) (wd_36 hw) (ty := .int) (by decide) rfl rfl ga ?_
  intro h1219 W1219 F1219 E1219 K1219
  have kc1220 := Keep.trans (ws := [a]) (Keep.refl _ [a]) K1219 (allS (Or.inl (List.mem_of_getElem? (i := 0) rfl)) all0)
  refine W.aloadN 10 d_prog_19_method_1_9 rfl rfl rfl ?_
  refine W.aloadN 11 d_prog_19_method_1_10 rfl rfl rfl ?_
  have q1221 := (Fl.keep K1219 (ninS (Ne.symm ne_g) nin0))
  have q1222 := (Al.keep K1219 (ninS (Ne.symm ne_l) nin0))
  have q1224 := (Eg.keep K1219)
  refine W.callV (rest := [(.ref a)]) (argsL := []) (a := g) 14 d_prog_19_method_1_11 rfl (fun hn => c_vc l Z a0 hw g bl _ n0 hn q1221 q1222) q1224 (wd_44 hw) (wd_45 hw) (wd_47 hw) rfl (wd_46 hw) (wd_14 hw) (wd_48 hw) (by decide) pd_3 rfl rfl rfl (by decide) 1 (Nat.le_of_ble_eq_true rfl) (by decide) (by decide) (by decide) ?_
  rintro v1223 h1223 ⟨rfl, rfl⟩
  show WG _ _ _ _ _ _ _ _ _ _ _ _ 0 0 14 #[.val (.ref a), .val (.ref g)] [(.int (3 : Int32)), (.ref a)]
  refine W.newarray 16 d_prog_19_method_1_14 rfl (wd_1 hw) rfl (by decide) 3 3 (by decide) (by decide) (by decide) (by decide) (by decide) rfl ?_
  intro h1225 b1225 g1225 ge1225 X1225 K1225 A1225
  have ne1226 : a ≠ b1225 := Nat.ne_of_lt (Nat.lt_of_lt_of_eq E1219.lt g1225.symm)
  have ne1227 : bl ≠ b1225 := Nat.ne_of_lt (Nat.lt_of_lt_of_eq q1222.lt g1225.symm)
  have ne1228 : g ≠ b1225 := Nat.ne_of_lt (Nat.lt_of_lt_of_eq q1224.lt g1225.symm)
  have sz1229 := Nat.le_trans kc1220.1 (Nat.le_of_eq g1225.symm)
  have kc1230 := Keep.trans (ws := [a]) kc1220 K1225 all0
  have A1225 : Ary _ _ b1225 .int [(.int (0 : Int32)), (.int (0 : Int32)), (.int (0 : Int32))] := A1225
  show WG _ _ _ _ _ _ _ _ _ _ _ _ 1 3 16 #[.val (.ref a), .val (.ref g)] [(.ref b1225), (.ref a)]
  have q1231 := ((F1.other W1219 (Or.inr (sne_30 hw))).keep K1225 nin0)
  have q1232 := (E1219.keep K1225)
  refine W.putfield 19 d_prog_19_method_1_16 rfl (host := "") (Or.inl (wd_49 hw)) Via.refl q1231 q1232 (Or.inr ⟨(wd_50 hw), rfl, rfl⟩) (wd_36 hw) (ty := (.array .int)) (by decide) rfl rfl ga ?_
  intro h1233 W1233 F1233 E1233 K1233
  have kc1234 := Keep.trans (ws := [a]) kc1230 K1233 (allS (Or.inl (List.mem_of_getElem? (i := 0) rfl)) all0)
  refine W.aloadN 20 d_prog_19_method_1_19 rfl rfl rfl ?_
  refine W.aloadN 21 d_prog_19_method_1_20 rfl rfl rfl ?_
  have q1235 := (((Fd.keep K1219 (ninS (Ne.symm ne_g) nin0)).keep K1225 nin0).keep K1233 (ninS (Ne.symm ne_g) nin0))
  have q1237 := ((q1224.keep K1225).keep K1233)
  refine W.callV (rest := [(.ref a)]) (argsL := []) (a := g) 24 d_prog_19_method_1_21 rfl (fun hn => c_isd1 l Z a0 hw g _ n0 hn q1235) q1237 (wd_51 hw) (wd_52 hw) (wd_54 hw) rfl (wd_53 hw) (wd_14 hw) (wd_55 hw) (by decide) pd_4 rfl rfl rfl (by decide) 1 (Nat.le_of_ble_eq_true rfl) (by decide) (by decide) (by decide) ?_
  rintro v1236 h1236 ⟨rfl, rfl⟩
  show WG _ _ _ _ _ _ _ _ _ _ _ _ 1 3 24 #[.val (.ref a), .val (.ref g)] [(.int (1 : Int32)), (.ref a)]
  refine W.if_eq 36 27 d_prog_19_method_1_24 rfl rfl (fun hc => absurd hc (by decide)) (fun _ => ?_)
  refine W.aloadN 28 d_prog_19_method_1_27 rfl rfl rfl ?_
  have q1238 := ((q1221.keep K1225 nin0).keep K1233 (ninS (Ne.symm ne_g) nin0))
  have q1239 := ((q1222.keep K1225 nin0).keep K1233 (ninS (Ne.symm ne_l) nin0))
  refine W.callV (rest := [(.ref a)]) (argsL := []) (a := g) 31 d_prog_19_method_1_28 rfl (fun hn => c_vc l Z a0 hw g bl _ n0 hn q1238 q1239) q1237 (wd_44 hw) (wd_45 hw) (wd_47 hw) rfl (wd_46 hw) (wd_14 hw) (wd_48 hw) (by decide) pd_3 rfl rfl rfl (by decide) 1 (Nat.le_of_ble_eq_true rfl) (by decide) (by decide) (by decide) ?_
  rintro v1240 h1240 ⟨rfl, rfl⟩
  show WG _ _ _ _ _ _ _ _ _ _ _ _ 1 3 31 #[.val (.ref a), .val (.ref g)] [(.int (3 : Int32)), (.ref a)]
  refine W.newarray 33 d_prog_19_method_1_31 rfl (wd_1 hw) rfl (by decide) 3 3 (by decide) (by decide) (by decide) (by decide) (by decide) rfl ?_
  intro h1241 b1241 g1241 ge1241 X1241 K1241 A1241
  have ne1242 : a ≠ b1241 := Nat.ne_of_lt (Nat.lt_of_lt_of_eq E1233.lt g1241.symm)
  have q1243 := (A1225.keep K1233 (ninS (Ne.symm ne1226) nin0))
  have ne1244 : b1225 ≠ b1241 := Nat.ne_of_lt (Nat.lt_of_lt_of_eq q1243.lt g1241.symm)
  have ne1245 : bl ≠ b1241 := Nat.ne_of_lt (Nat.lt_of_lt_of_eq q1239.lt g1241.symm)
  have ne1246 : g ≠ b1241 := Nat.ne_of_lt (Nat.lt_of_lt_of_eq q1237.lt g1241.symm)
  have sz1247 := Nat.le_trans kc1234.1 (Nat.le_of_eq g1241.symm)
  have kc1248 := Keep.trans (ws := [a]) kc1234 K1241 all0
  have A1241 : Ary _ _ b1241 .int [(.int (0 : Int32)), (.int (0 : Int32)), (.int (0 : Int32))] := A1241
  show WG _ _ _ _ _ _ _ _ _ _ _ _ 2 6 33 #[.val (.ref a), .val (.ref g)] [(.ref b1241), (.ref a)]
  refine W.goto 40 d_prog_19_method_1_33 rfl ?_
  have q1249 := ((((F2.other W1219 (Or.inr (sne_31 hw))).keep K1225 nin0).other W1233 (Or.inr (sne_32 hw))).keep K1241 nin0)
  have q1250 := (E1233.keep K1241)
  refine W.putfield 43 d_prog_19_method_1_40 rfl (host := "") (Or.inl (wd_56 hw)) Via.refl q1249 q1250 (Or.inr ⟨(wd_57 hw), rfl, rfl⟩) (wd_36 hw) (ty := (.array .int)) (by decide) rfl rfl ga ?_
  intro h1251 W1251 F1251 E1251 K1251
  have kc1252 := Keep.trans (ws := [a]) kc1248 K1251 (allS (Or.inl (List.mem_of_getElem? (i := 0) rfl)) all0)
  have q1253 := ((((F1219.keep K1225 nin0).other W1233 (Or.inr (sne_33 hw))).keep K1241 nin0).other W1251 (Or.inr (sne_34 hw)))
  have q1254 := ((F1233.keep K1241 nin0).other W1251 (Or.inr (sne_35 hw)))
  have q1255 := ((q1243.keep K1241 nin0).keep K1251 (ninS (Ne.symm ne1226) nin0))
  have q1256 := (A1241.keep K1251 (ninS (Ne.symm ne1242) nin0))
  exact W.return_ d_prog_19_method_1_43 rfl ⟨rfl, b1225, b1241, ⟨sz1229, ge1225, sz1247, ge1241, ne1226, ne1242, ne1244⟩, kc1252, E1251, q1253, q1254, F1251, q1255, q1256⟩ (by decide) (by decide)
theorem c_bi (l : Launch) (Z : State) (a0 : Array Value) (hw : HwT Z a0) (a g bl : Addr) (h : Heap) (n0 : Nat) (hn : n0 ≤ h.size) (ga : n0 ≤ a) (E : Exa Z h a "com/example/eccentra/eccentra/BreadthFirst") (F0 : Fld Z h a "com/example/eccentra/eccentra/BreadthFirst" "graph" "Lcom/example/eccentra/eccentra/Graph;" .null) (F1 : Fld Z h a "com/example/eccentra/eccentra/BreadthFirst" "distance" "[I" .null) (F2 : Fld Z h a "com/example/eccentra/eccentra/BreadthFirst" "parent" "[I" .null) (F3 : Fld Z h a "com/example/eccentra/eccentra/BreadthFirst" "reachedOrder" "[I" .null) (F4 : Fld Z h a "com/example/eccentra/eccentra/BreadthFirst" "reachedCount" "I" (.int (0 : Int32))) (Eg : Exa Z h g "com/example/eccentra/eccentra/Graph") (Fl : Fld Z h g "com/example/eccentra/eccentra/Graph" "labels" "[J" (.ref bl)) (Al : Ary Z h bl .long [(.long (0 : Int64)), (.long (1 : Int64)), (.long (2 : Int64))]) (ne_g : a ≠ g) (ne_l : a ≠ bl) : Con l Z (⟨"com/example/eccentra/eccentra/BreadthFirst", "<init>", "(Lcom/example/eccentra/eccentra/Graph;)V"⟩ : MethodName) prog_3_method_1_code 2 none ({ frames := 1, cells := 3, slots := 9, locals := 40 } : Room) #[(.ref a), (.ref g)] h n0 (fun r h' => r = none ∧ ∃ bd bp bo, (h.size ≤ bd ∧ h.size ≤ bp ∧ h.size ≤ bo ∧ n0 ≤ bd ∧ n0 ≤ bp ∧ n0 ≤ bo ∧ a ≠ bd ∧ a ≠ bp ∧ a ≠ bo ∧ bd ≠ bp ∧ bd ≠ bo ∧ bp ≠ bo) ∧ Keep h h' [a] ∧ Exa Z h' a "com/example/eccentra/eccentra/BreadthFirst" ∧ Fld Z h' a "com/example/eccentra/eccentra/BreadthFirst" "graph" "Lcom/example/eccentra/eccentra/Graph;" (.ref g) ∧ Fld Z h' a "com/example/eccentra/eccentra/BreadthFirst" "distance" "[I" (.ref bd) ∧ Fld Z h' a "com/example/eccentra/eccentra/BreadthFirst" "parent" "[I" (.ref bp) ∧ Fld Z h' a "com/example/eccentra/eccentra/BreadthFirst" "reachedOrder" "[I" (.ref bo) ∧ Fld Z h' a "com/example/eccentra/eccentra/BreadthFirst" "reachedCount" "I" (.int (0 : Int32)) ∧ Ary Z h' bd .int [(.int (-1 : Int32)), (.int (-1 : Int32)), (.int (-1 : Int32))] ∧ Ary Z h' bp .int [(.int (0 : Int32)), (.int (0 : Int32)), (.int (0 : Int32))] ∧ Ary Z h' bo .int [(.int (0 : Int32)), (.int (0 : Int32)), (.int (0 : Int32))]) := by
  refine ConG.of_W (Ls := #[.val (.ref a), .val (.ref g)]) (plainFor_of_name pn_2) hn (fun m => by first | (simp [entryFrame, mkF, argsToLocals, Value.category]; done) | rfl) ?_
  refine W.aloadN 1 d_prog_3_method_1_0 rfl rfl rfl ?_
  refine W.initObj 4 d_prog_3_method_1_1 rfl (wd_64 hw) (wd_21 hw) (wd_22 hw) rfl (by decide) 0 (Nat.le_of_ble_eq_true rfl) (by decide) ?_
  refine W.aloadN 5 d_prog_3_method_1_4 rfl rfl rfl ?_
  refine W.aloadN 6 d_prog_3_method_1_5 rfl rfl rfl ?_
  refine W.putfield 9 d_prog_3_method_1_6 rfl (host := "") (Or.inl (wd_65 hw)) Via.refl F0 E (Or.inr ⟨(wd_66 hw), rfl, rfl⟩) (wd_59 hw) (ty := (.object "com/example/eccentra/eccentra/Graph")) (by decide) rfl rfl ga ?_
  intro h1257 W1257 F1257 E1257 K1257
  have kc1258 := Keep.trans (ws := [a]) (Keep.refl _ [a]) K1257 (allS (Or.inl (List.mem_of_getElem? (i := 0) rfl)) all0)
  refine W.aloadN 10 d_prog_3_method_1_9 rfl rfl rfl ?_
  refine W.aloadN 11 d_prog_3_method_1_10 rfl rfl rfl ?_
  have q1259 := (Fl.keep K1257 (ninS (Ne.symm ne_g) nin0))
  have q1260 := (Al.keep K1257 (ninS (Ne.symm ne_l) nin0))
  have q1262 := (Eg.keep K1257)
  refine W.callV (rest := [(.ref a)]) (argsL := []) (a := g) 14 d_prog_3_method_1_11 rfl (fun hn => c_vc l Z a0 hw g bl _ n0 hn q1259 q1260) q1262 (wd_67 hw) (wd_45 hw) (wd_47 hw) rfl (wd_46 hw) (wd_14 hw) (wd_48 hw) (by decide) pd_3 rfl rfl rfl (by decide) 1 (Nat.le_of_ble_eq_true rfl) (by decide) (by decide) (by decide) ?_
  rintro v1261 h1261 ⟨rfl, rfl⟩
  show WG _ _ _ _ _ _ _ _ _ _ _ _ 0 0 14 #[.val (.ref a), .val (.ref g)] [(.int (3 : Int32)), (.ref a)]
  refine W.newarray 16 d_prog_3_method_1_14 rfl (wd_1 hw) rfl (by decide) 3 3 (by decide) (by decide) (by decide) (by decide) (by decide) rfl ?_
  intro h1263 b1263 g1263 ge1263 X1263 K1263 A1263
  have ne1264 : a ≠ b1263 := Nat.ne_of_lt (Nat.lt_of_lt_of_eq E1257.lt g1263.symm)
  have ne1265 : bl ≠ b1263 := Nat.ne_of_lt (Nat.lt_of_lt_of_eq q1260.lt g1263.symm)
  have ne1266 : g ≠ b1263 := Nat.ne_of_lt (Nat.lt_of_lt_of_eq q1262.lt g1263.symm)
  have sz1267 := Nat.le_trans kc1258.1 (Nat.le_of_eq g1263.symm)
  have kc1268 := Keep.trans (ws := [a]) kc1258 K1263 all0
  have A1263 : Ary _ _ b1263 .int [(.int (0 : Int32)), (.int (0 : Int32)), (.int (0 : Int32))] := A1263
  show WG _ _ _ _ _ _ _ _ _ _ _ _ 1 3 16 #[.val (.ref a), .val (.ref g)] [(.ref b1263), (.ref a)]
  have q1269 := ((F1.other W1257 (Or.inr (sne_36 hw))).keep K1263 nin0)
  have q1270 := (E1257.keep K1263)
  refine W.putfield 19 d_prog_3_method_1_16 rfl (host := "") (Or.inl (wd_68 hw)) Via.refl q1269 q1270 (Or.inr ⟨(wd_69 hw), rfl, rfl⟩) (wd_59 hw) (ty := (.array .int)) (by decide) rfl rfl ga ?_
  intro h1271 W1271 F1271 E1271 K1271
  have kc1272 := Keep.trans (ws := [a]) kc1268 K1271 (allS (Or.inl (List.mem_of_getElem? (i := 0) rfl)) all0)
  refine W.aloadN 20 d_prog_3_method_1_19 rfl rfl rfl ?_
  refine W.getfield 23 d_prog_3_method_1_20 rfl (host := "") (Or.inl (wd_68 hw)) Via.refl F1271 ?_
  refine W.iconst 24 d_prog_3_method_1_23 rfl (-1 : Int32) rfl ?_
  have q1273 := (A1263.keep K1271 (ninS (Ne.symm ne1264) nin0))
  refine W.callS (rest := []) (argsL := [(.ref b1263), (.int (-1 : Int32))]) 27 d_prog_3_method_1_24 rfl (fun hn => c_f3 l Z a0 hw b1263 (0 : Int32) (0 : Int32) (0 : Int32) _ n0 hn ge1263 q1273) (wd_70 hw) (wd_71 hw) (wd_72 hw) (wd_73 hw) (by decide) pd_5 rfl rfl rfl (by decide) 0 (Nat.le_of_ble_eq_true rfl) (by decide) (by decide) (by decide) ?_
  rintro v1274 h1274 ⟨rfl, K1274, A1274⟩
  have kc1275 := Keep.trans (ws := [a]) kc1272 K1274 (allS (Or.inr sz1267) all0)
  show WG _ _ _ _ _ _ _ _ _ _ _ _ 1 3 27 #[.val (.ref a), .val (.ref g)] []
  refine W.aloadN 28 d_prog_3_method_1_27 rfl rfl rfl ?_
  refine W.aloadN 29 d_prog_3_method_1_28 rfl rfl rfl ?_
  have q1276 := (((q1259.keep K1263 nin0).keep K1271 (ninS (Ne.symm ne_g) nin0)).keep K1274 (ninS ne1266 nin0))
  have q1277 := (((q1260.keep K1263 nin0).keep K1271 (ninS (Ne.symm ne_l) nin0)).keep K1274 (ninS ne1265 nin0))
  have q1279 := (((q1262.keep K1263).keep K1271).keep K1274)
  refine W.callV (rest := [(.ref a)]) (argsL := []) (a := g) 32 d_prog_3_method_1_29 rfl (fun hn => c_vc l Z a0 hw g bl _ n0 hn q1276 q1277) q1279 (wd_67 hw) (wd_45 hw) (wd_47 hw) rfl (wd_46 hw) (wd_14 hw) (wd_48 hw) (by decide) pd_3 rfl rfl rfl (by decide) 1 (Nat.le_of_ble_eq_true rfl) (by decide) (by decide) (by decide) ?_
  rintro v1278 h1278 ⟨rfl, rfl⟩
  show WG _ _ _ _ _ _ _ _ _ _ _ _ 1 3 32 #[.val (.ref a), .val (.ref g)] [(.int (3 : Int32)), (.ref a)]
  refine W.newarray 34 d_prog_3_method_1_32 rfl (wd_1 hw) rfl (by decide) 3 3 (by decide) (by decide) (by decide) (by decide) (by decide) rfl ?_
  intro h1280 b1280 g1280 ge1280 X1280 K1280 A1280
  have q1281 := (E1271.keep K1274)
  have ne1282 : a ≠ b1280 := Nat.ne_of_lt (Nat.lt_of_lt_of_eq q1281.lt g1280.symm)
  have ne1283 : b1263 ≠ b1280 := Nat.ne_of_lt (Nat.lt_of_lt_of_eq A1274.lt g1280.symm)
  have ne1284 : bl ≠ b1280 := Nat.ne_of_lt (Nat.lt_of_lt_of_eq q1277.lt g1280.symm)
  have ne1285 : g ≠ b1280 := Nat.ne_of_lt (Nat.lt_of_lt_of_eq q1279.lt g1280.symm)
  have sz1286 := Nat.le_trans kc1275.1 (Nat.le_of_eq g1280.symm)
  have kc1287 := Keep.trans (ws := [a]) kc1275 K1280 all0
  have A1280 : Ary _ _ b1280 .int [(.int (0 : Int32)), (.int (0 : Int32)), (.int (0 : Int32))] := A1280
  show WG _ _ _ _ _ _ _ _ _ _ _ _ 2 6 34 #[.val (.ref a), .val (.ref g)] [(.ref b1280), (.ref a)]
  have q1288 := (((((F2.other W1257 (Or.inr (sne_37 hw))).keep K1263 nin0).other W1271 (Or.inr (sne_38 hw))).keep K1274 (ninS ne1264 nin0)).keep K1280 nin0)
  have q1289 := (q1281.keep K1280)
  refine W.putfield 37 d_prog_3_method_1_34 rfl (host := "") (Or.inl (wd_74 hw)) Via.refl q1288 q1289 (Or.inr ⟨(wd_75 hw), rfl, rfl⟩) (wd_59 hw) (ty := (.array .int)) (by decide) rfl rfl ga ?_
  intro h1290 W1290 F1290 E1290 K1290
  have kc1291 := Keep.trans (ws := [a]) kc1287 K1290 (allS (Or.inl (List.mem_of_getElem? (i := 0) rfl)) all0)
  refine W.aloadN 38 d_prog_3_method_1_37 rfl rfl rfl ?_
  refine W.aloadN 39 d_prog_3_method_1_38 rfl rfl rfl ?_
  have q1292 := ((q1276.keep K1280 nin0).keep K1290 (ninS (Ne.symm ne_g) nin0))
  have q1293 := ((q1277.keep K1280 nin0).keep K1290 (ninS (Ne.symm ne_l) nin0))
  have q1295 := ((q1279.keep K1280).keep K1290)
  refine W.callV (rest := [(.ref a)]) (argsL := []) (a := g) 42 d_prog_3_method_1_39 rfl (fun hn => c_vc l Z a0 hw g bl _ n0 hn q1292 q1293) q1295 (wd_67 hw) (wd_45 hw) (wd_47 hw) rfl (wd_46 hw) (wd_14 hw) (wd_48 hw) (by decide) pd_3 rfl rfl rfl (by decide) 1 (Nat.le_of_ble_eq_true rfl) (by decide) (by decide) (by decide) ?_
  rintro v1294 h1294 ⟨rfl, rfl⟩
  show WG _ _ _ _ _ _ _ _ _ _ _ _ 2 6 42 #[.val (.ref a), .val (.ref g)] [(.int (3 : Int32)), (.ref a)]
  refine W.newarray 44 d_prog_3_method_1_42 rfl (wd_1 hw) rfl (by decide) 3 3 (by decide) (by decide) (by decide) (by decide) (by decide) rfl ?_
  intro h1296 b1296 g1296 ge1296 X1296 K1296 A1296
  have ne1297 : a ≠ b1296 := Nat.ne_of_lt (Nat.lt_of_lt_of_eq E1290.lt g1296.symm)
  have q1298 := ((A1274.keep K1280 nin0).keep K1290 (ninS (Ne.symm ne1264) nin0))
  have ne1299 : b1263 ≠ b1296 := Nat.ne_of_lt (Nat.lt_of_lt_of_eq q1298.lt g1296.symm)
  have q1300 := (A1280.keep K1290 (ninS (Ne.symm ne1282) nin0))
  have ne1301 : b1280 ≠ b1296 := Nat.ne_of_lt (Nat.lt_of_lt_of_eq q1300.lt g1296.symm)
  have ne1302 : bl ≠ b1296 := Nat.ne_of_lt (Nat.lt_of_lt_of_eq q1293.lt g1296.symm)
  have ne1303 : g ≠ b1296 := Nat.ne_of_lt (Nat.lt_of_lt_of_eq q1295.lt g1296.symm)
  have sz1304 := Nat.le_trans kc1291.1 (Nat.le_of_eq g1296.symm)
  have kc1305 := Keep.trans (ws := [a]) kc1291 K1296 all0
  have A1296 : Ary _ _ b1296 .int [(.int (0 : Int32)), (.int (0 : Int32)), (.int (0 : Int32))] := A1296
  show WG _ _ _ _ _ _ _ _ _ _ _ _ 3 9 44 #[.val (.ref a), .val (.ref g)] [(.ref b1296), (.ref a)]
  have q1306 := (((((((F3.other W1257 (Or.inr (sne_39 hw))).keep K1263 nin0).other W1271 (Or.inr (sne_40 hw))).keep K1274 (ninS ne1264 nin0)).keep K1280 nin0).other W1290 (Or.inr (sne_41 hw))).keep K1296 nin0)
  have q1307 := (E1290.keep K1296)
  refine W.putfield 47 d_prog_3_method_1_44 rfl (host := "") (Or.inl (wd_76 hw)) Via.refl q1306 q1307 (Or.inr ⟨(wd_77 hw), rfl, rfl⟩) (wd_59 hw) (ty := (.array .int)) (by decide) rfl rfl ga ?_
  intro h1308 W1308 F1308 E1308 K1308
  have kc1309 := Keep.trans (ws := [a]) kc1305 K1308 (allS (Or.inl (List.mem_of_getElem? (i := 0) rfl)) all0)
  have q1310 := (((((((F1257.keep K1263 nin0).other W1271 (Or.inr (sne_42 hw))).keep K1274 (ninS ne1264 nin0)).keep K1280 nin0).other W1290 (Or.inr (sne_43 hw))).keep K1296 nin0).other W1308 (Or.inr (sne_44 hw)))
  have q1311 := (((((F1271.keep K1274 (ninS ne1264 nin0)).keep K1280 nin0).other W1290 (Or.inr (sne_45 hw))).keep K1296 nin0).other W1308 (Or.inr (sne_46 hw)))
  have q1312 := ((F1290.keep K1296 nin0).other W1308 (Or.inr (sne_47 hw)))
  have q1313 := ((((((((F4.other W1257 (Or.inr (sne_48 hw))).keep K1263 nin0).other W1271 (Or.inr (sne_49 hw))).keep K1274 (ninS ne1264 nin0)).keep K1280 nin0).other W1290 (Or.inr (sne_50 hw))).keep K1296 nin0).other W1308 (Or.inr (sne_51 hw)))
  have q1314 := ((q1298.keep K1296 nin0).keep K1308 (ninS (Ne.symm ne1264) nin0))
  have q1315 := ((q1300.keep K1296 nin0).keep K1308 (ninS (Ne.symm ne1282) nin0))
  have q1316 := (A1296.keep K1308 (ninS (Ne.symm ne1297) nin0))
  exact W.return_ d_prog_3_method_1_47 rfl ⟨rfl, b1263, b1280, b1296, ⟨sz1267, sz1286, sz1304, ge1263, ge1280, ge1296, ne1264, ne1282, ne1297, ne1283, ne1299, ne1301⟩, kc1309, E1308, q1310, q1311, q1312, F1308, q1313, q1314, q1315, q1316⟩ (by decide) (by decide)
theorem rs_0 (l : Launch) (Z : State) (a0 : Array Value) (hw : HwT Z a0) (a g bf bt bd bp bo : Addr) (xf xt : List Int32) (n0 : Nat) (gd : n0 ≤ bd) (gp : n0 ≤ bp) (go : n0 ≤ bo) (ne_a_bd : a ≠ bd) (ne_a_bp : a ≠ bp) (ne_a_bo : a ≠ bo) (ne_g_bd : g ≠ bd) (ne_g_bp : g ≠ bp) (ne_g_bo : g ≠ bo) (ne_bf_bd : bf ≠ bd) (ne_bf_bp : bf ≠ bp) (ne_bf_bo : bf ≠ bo) (ne_bt_bd : bt ≠ bd) (ne_bt_bp : bt ≠ bp) (ne_bt_bo : bt ≠ bo) (ne_bd_bp : bd ≠ bp) (ne_bd_bo : bd ≠ bo) (ne_bp_bo : bp ≠ bo) (s cnt : Int32) (os : List Int32) (P : Option Value → Heap → Prop) : ∀ (fuel : Nat) (i : Int32) (ds : List Int32) (h : Heap), Exa Z h g "com/example/eccentra/eccentra/Graph" → Fld Z h a "com/example/eccentra/eccentra/BreadthFirst" "graph" "Lcom/example/eccentra/eccentra/Graph;" (.ref g) → Fld Z h a "com/example/eccentra/eccentra/BreadthFirst" "distance" "[I" (.ref bd) → Fld Z h a "com/example/eccentra/eccentra/BreadthFirst" "parent" "[I" (.ref bp) → Fld Z h a "com/example/eccentra/eccentra/BreadthFirst" "reachedOrder" "[I" (.ref bo) → Fld Z h g "com/example/eccentra/eccentra/Graph" "inOffsets" "[I" (.ref bf) → Fld Z h g "com/example/eccentra/eccentra/Graph" "inSources" "[I" (.ref bt) → Ary Z h bf .int (xf.map Value.int) → Ary Z h bt .int (xt.map Value.int) → Fld Z h a "com/example/eccentra/eccentra/BreadthFirst" "reachedCount" "I" (.int cnt) → Ary Z h bd .int (ds.map Value.int) → Ary Z h bo .int (os.map Value.int) → ∀ ds', own_reset fuel i cnt os ds = some ds' → (∀ (h' : Heap) (i' : Int32), Keep h h' [bd] → Ary Z h' bd .int (ds'.map Value.int) → W l ({ frames := 1, cells := 0, slots := 0, locals := 30 } : Room) Z "com/example/eccentra/eccentra/BreadthFirst" "search" prog_3_method_8_code 12 (some .int) n0 P h' 0 0 31 #[.val (.ref a), .val (.int s), .val (.int (0 : Int32)), .val .null, .val (.int i'), .unset, .unset, .unset, .unset, .unset, .unset, .unset] []) → W l ({ frames := 1, cells := 0, slots := 0, locals := 30 } : Room) Z "com/example/eccentra/eccentra/BreadthFirst" "search" prog_3_method_8_code 12 (some .int) n0 P h 0 0 3 #[.val (.ref a), .val (.int s), .val (.int (0 : Int32)), .val .null, .val (.int i), .unset, .unset, .unset, .unset, .unset, .unset, .unset] [] := by
  intro fuel
  induction fuel with
  | zero => intro i ds h Eg Fg Fd Fp Fo Ff Ft Af At Fc Ad Ao ds' hm k; cases (show (none : Option _) = some _ from hm)
  | succ fuel ih =>
    intro i ds h Eg Fg Fd Fp Fo Ff Ft Af At Fc Ad Ao ds' hm k
    refine W.iload 5 d_prog_3_method_8_3 rfl rfl ?_
    refine W.aloadN 6 d_prog_3_method_8_5 rfl rfl rfl ?_
    refine W.getfield 9 d_prog_3_method_8_6 rfl (host := "") (Or.inl (wd_87 hw)) Via.refl Fc ?_
    refine W.icmp_ge 31 12 d_prog_3_method_8_9 rfl rfl ?_ ?_
    · intro hc1317
      rw [own_reset_s, if_neg hc1317] at hm
      cases hm
      exact k h i (Keep.refl _ _) Ad
    · intro hc1317
      rw [own_reset_s, if_pos hc1317] at hm
      refine W.aloadN 13 d_prog_3_method_8_12 rfl rfl rfl ?_
      refine W.getfield 16 d_prog_3_method_8_13 rfl (host := "") (Or.inl (wd_68 hw)) Via.refl Fd ?_
      refine W.aloadN 17 d_prog_3_method_8_16 rfl rfl rfl ?_
      refine W.getfield 20 d_prog_3_method_8_17 rfl (host := "") (Or.inl (wd_76 hw)) Via.refl Fo ?_
      refine W.iload 22 d_prog_3_method_8_20 rfl rfl ?_
      obtain ⟨zv1318, hz1319, hm⟩ := Option.bind_eq_some_iff.mp hm
      refine W.iaload 23 d_prog_3_method_8_22 rfl Ao (i).toNatClampNeg rfl (own_get_ok hz1319).1 (.int zv1318) (own_get_ok hz1319).2 ?_
      refine W.iconst 24 d_prog_3_method_8_23 rfl (-1 : Int32) rfl ?_
      obtain ⟨zs1321, hz1322, hm⟩ := Option.bind_eq_some_iff.mp hm
      refine W.iastore 25 d_prog_3_method_8_24 rfl Ad (zv1318).toNatClampNeg rfl (own_set_ok hz1322).1 (own_set_ok hz1322).2.1 gd ?_
      intro h1320 W1320 K1320 A1320
      have kc1323 := Keep.trans (ws := [bd]) (Keep.refl _ [bd]) K1320 (allS (Or.inl (List.mem_of_getElem? (i := 0) rfl)) all0)
      rw [(own_set_ok hz1322).2.2] at A1320
      refine W.iinc 28 d_prog_3_method_8_25 rfl rfl (i + (1 : Int32)) rfl #[.val (.ref a), .val (.int s), .val (.int (0 : Int32)), .val .null, .val (.int (i + (1 : Int32))), .unset, .unset, .unset, .unset, .unset, .unset, .unset] rfl ?_
      refine W.goto 3 d_prog_3_method_8_28 rfl ?_
      have q1324 := (Eg.keep K1320)
      have q1325 := (Fg.keep K1320 (ninS ne_a_bd nin0))
      have q1326 := (Fd.keep K1320 (ninS ne_a_bd nin0))
      have q1327 := (Fp.keep K1320 (ninS ne_a_bd nin0))
      have q1328 := (Fo.keep K1320 (ninS ne_a_bd nin0))
      have q1329 := (Ff.keep K1320 (ninS ne_g_bd nin0))
      have q1330 := (Ft.keep K1320 (ninS ne_g_bd nin0))
      have q1331 := (Af.keep K1320 (ninS ne_bf_bd nin0))
      have q1332 := (At.keep K1320 (ninS ne_bt_bd nin0))
      have q1333 := (Fc.keep K1320 (ninS ne_a_bd nin0))
      have q1334 := (Ao.keep K1320 (ninS (Ne.symm ne_bd_bo) nin0))
      exact ih (i + (1 : Int32)) zs1321 _ q1324 q1325 q1326 q1327 q1328 q1329 q1330 q1331 q1332 q1333 A1320 q1334 _ hm (fun h' i' K A => k h' i' (Keep.trans kc1323 K (fun x hx => Or.inl hx)) A)
theorem in_0 (l : Launch) (Z : State) (a0 : Array Value) (hw : HwT Z a0) (a g bf bt bd bp bo : Addr) (xf xt : List Int32) (n0 : Nat) (gd : n0 ≤ bd) (gp : n0 ≤ bp) (go : n0 ≤ bo) (ne_a_bd : a ≠ bd) (ne_a_bp : a ≠ bp) (ne_a_bo : a ≠ bo) (ne_g_bd : g ≠ bd) (ne_g_bp : g ≠ bp) (ne_g_bo : g ≠ bo) (ne_bf_bd : bf ≠ bd) (ne_bf_bp : bf ≠ bp) (ne_bf_bo : bf ≠ bo) (ne_bt_bd : bt ≠ bd) (ne_bt_bp : bt ≠ bp) (ne_bt_bo : bt ≠ bo) (ne_bd_bp : bd ≠ bp) (ne_bd_bo : bd ≠ bo) (ne_bp_bo : bp ≠ bo) (s hd v nx en : Int32) (P : Option Value → Heap → Prop) : ∀ (fuel : Nat) (arc : Int32) (ds ps os : List Int32) (tl : Int32) (s11 : Slot) (h : Heap), One s11 → Exa Z h g "com/example/eccentra/eccentra/Graph" → Fld Z h a "com/example/eccentra/eccentra/BreadthFirst" "graph" "Lcom/example/eccentra/eccentra/Graph;" (.ref g) → Fld Z h a "com/example/eccentra/eccentra/BreadthFirst" "distance" "[I" (.ref bd) → Fld Z h a "com/example/eccentra/eccentra/BreadthFirst" "parent" "[I" (.ref bp) → Fld Z h a "com/example/eccentra/eccentra/BreadthFirst" "reachedOrder" "[I" (.ref bo) → Fld Z h g "com/example/eccentra/eccentra/Graph" "inOffsets" "[I" (.ref bf) → Fld Z h g "com/example/eccentra/eccentra/Graph" "inSources" "[I" (.ref bt) → Ary Z h bf .int (xf.map Value.int) → Ary Z h bt .int (xt.map Value.int) → Ary Z h bd .int (ds.map Value.int) → Ary Z h bp .int (ps.map Value.int) → Ary Z h bo .int (os.map Value.int) → ∀ r, own_inner fuel arc en xt nx v ds ps os tl = some r → (∀ (h' : Heap) (arc' : Int32) (s11' : Slot), One s11' → Keep h h' [bd, bp, bo] → Ary Z h' bd .int (r.1.map Value.int) → Ary Z h' bp .int (r.2.1.map Value.int) → Ary Z h' bo .int (r.2.2.1.map Value.int) → W l ({ frames := 1, cells := 0, slots := 0, locals := 30 } : Room) Z "com/example/eccentra/eccentra/BreadthFirst" "search" prog_3_method_8_code 12 (some .int) n0 P h' 0 0 243 #[.val (.ref a), .val (.int s), .val (.int (0 : Int32)), .val .null, .val (.int (0 : Int32)), .val (.int r.2.2.2), .val (.int hd), .val (.int v), .val (.int nx), .val (.int en), .val (.int arc'), s11'] []) → W l ({ frames := 1, cells := 0, slots := 0, locals := 30 } : Room) Z "com/example/eccentra/eccentra/BreadthFirst" "search" prog_3_method_8_code 12 (some .int) n0 P h 0 0 147 #[.val (.ref a), .val (.int s), .val (.int (0 : Int32)), .val .null, .val (.int (0 : Int32)), .val (.int tl), .val (.int hd), .val (.int v), .val (.int nx), .val (.int en), .val (.int arc), s11] [] := by
  intro fuel
  induction fuel with
  | zero => intro arc ds ps os tl s11 h hs11 Eg Fg Fd Fp Fo Ff Ft Af At Ad Ap Ao r hm k; cases (show (none : Option _) = some _ from hm)
  | succ fuel ih =>
    intro arc ds ps os tl s11 h hs11 Eg Fg Fd Fp Fo Ff Ft Af At Ad Ap Ao r hm k
    refine W.iload 149 d_prog_3_method_8_147 rfl rfl ?_
    refine W.iload 151 d_prog_3_method_8_149 rfl rfl ?_
    refine W.icmp_ge 243 154 d_prog_3_method_8_151 rfl rfl ?_ ?_
    · intro hc1335
      rw [own_inner_s, if_neg hc1335] at hm
      cases hm
      exact k h arc s11 hs11 (Keep.refl _ _) Ad Ap Ao
    · intro hc1335
      rw [own_inner_s, if_pos hc1335] at hm
      refine W.iloadN 155 d_prog_3_method_8_154 rfl rfl ?_
      refine W.if_eq 170 158 d_prog_3_method_8_155 rfl rfl (fun _ => ?_) (fun hc => absurd (by decide) hc)
      refine W.aloadN 171 d_prog_3_method_8_170 rfl rfl rfl ?_
      refine W.getfield 174 d_prog_3_method_8_171 rfl (host := "") (Or.inl (wd_65 hw)) Via.refl Fg ?_
      refine W.iload 176 d_prog_3_method_8_174 rfl rfl ?_
      obtain ⟨zv1336, hz1337, hm⟩ := Option.bind_eq_some_iff.mp hm
      refine W.callV (rest := []) (argsL := [(.int arc)]) (a := g) 179 d_prog_3_method_8_176 rfl (fun hn => g_inSource l Z a0 hw g bt arc zv1336 xt _ n0 hn Ft At hz1337) Eg (wd_156 hw) (wd_157 hw) (wd_159 hw) rfl (wd_158 hw) (wd_14 hw) (wd_160 hw) (by decide) pd_6 rfl rfl rfl (by decide) 0 (Nat.le_of_ble_eq_true rfl) (by decide) (by decide) (by decide) ?_
      rintro v1338 h1338 ⟨rfl, rfl⟩
      show WG _ _ _ _ _ _ _ _ _ _ _ _ 0 0 179 #[.val (.ref a), .val (.int s), .val (.int (0 : Int32)), .val .null, .val (.int (0 : Int32)), .val (.int tl), .val (.int hd), .val (.int v), .val (.int nx), .val (.int en), .val (.int arc), s11] [(.int zv1336)]
      refine W.istore 181 d_prog_3_method_8_179 rfl #[.val (.ref a), .val (.int s), .val (.int (0 : Int32)), .val .null, .val (.int (0 : Int32)), .val (.int tl), .val (.int hd), .val (.int v), .val (.int nx), .val (.int en), .val (.int arc), .val (.int zv1336)] (XS.store1 (o := s11) rfl hs11 rfl) ?_
      refine W.aloadN 182 d_prog_3_method_8_181 rfl rfl rfl ?_
      refine W.getfield 185 d_prog_3_method_8_182 rfl (host := "") (Or.inl (wd_68 hw)) Via.refl Fd ?_
      refine W.iload 187 d_prog_3_method_8_185 rfl rfl ?_
      obtain ⟨zv1339, hz1340, hm⟩ := Option.bind_eq_some_iff.mp hm
      refine W.iaload 188 d_prog_3_method_8_187 rfl Ad (zv1336).toNatClampNeg rfl (own_get_ok hz1340).1 (.int zv1339) (own_get_ok hz1340).2 ?_
      refine W.iconst 189 d_prog_3_method_8_188 rfl (-1 : Int32) rfl ?_
      refine W.icmp_ne 237 192 d_prog_3_method_8_189 rfl rfl ?_ ?_
      · intro hc1341
        rw [if_neg hc1341] at hm
        refine W.iinc 240 d_prog_3_method_8_237 rfl rfl (arc + (1 : Int32)) rfl #[.val (.ref a), .val (.int s), .val (.int (0 : Int32)), .val .null, .val (.int (0 : Int32)), .val (.int tl), .val (.int hd), .val (.int v), .val (.int nx), .val (.int en), .val (.int (arc + (1 : Int32))), .val (.int zv1336)] rfl ?_
        refine W.goto 147 d_prog_3_method_8_240 rfl ?_
        exact ih (arc + (1 : Int32)) ds ps os tl (.val (.int zv1336)) _ (One.val rfl) Eg Fg Fd Fp Fo Ff Ft Af At Ad Ap Ao _ hm (fun h' arc' s11' o K A1 A2 A3 => k h' arc' s11' o (Keep.trans (Keep.refl _ [bd, bp, bo]) K (fun x hx => Or.inl hx)) A1 A2 A3)
      · intro hc1341
        rw [if_pos hc1341] at hm
        refine W.aloadN 193 d_prog_3_method_8_192 rfl rfl rfl ?_
        refine W.ifnull_null 207 d_prog_3_method_8_193 rfl ?_
        refine W.aloadN 208 d_prog_3_method_8_207 rfl rfl rfl ?_
        refine W.getfield 211 d_prog_3_method_8_208 rfl (host := "") (Or.inl (wd_68 hw)) Via.refl Fd ?_
        refine W.iload 213 d_prog_3_method_8_211 rfl rfl ?_
        refine W.iload 215 d_prog_3_method_8_213 rfl rfl ?_
        obtain ⟨zs1343, hz1344, hm⟩ := Option.bind_eq_some_iff.mp hm
        refine W.iastore 216 d_prog_3_method_8_215 rfl Ad (zv1336).toNatClampNeg rfl (own_set_ok hz1344).1 (own_set_ok hz1344).2.1 gd ?_
        intro h1342 W1342 K1342 A1342
        have kc1345 := Keep.trans (ws := [bd, bp, bo]) (Keep.refl _ [bd, bp, bo]) K1342 (allS (Or.inl (List.mem_of_getElem? (i := 0) rfl)) all0)
        rw [(own_set_ok hz1344).2.2] at A1342
        refine W.aloadN 217 d_prog_3_method_8_216 rfl rfl rfl ?_
        have q1346 := (Fp.keep K1342 (ninS ne_a_bd nin0))
        refine W.getfield 220 d_prog_3_method_8_217 rfl (host := "") (Or.inl (wd_74 hw)) Via.refl q1346 ?_
        refine W.iload 222 d_prog_3_method_8_220 rfl rfl ?_
        refine W.iload 224 d_prog_3_method_8_222 rfl rfl ?_
        have q1347 := (Ap.keep K1342 (ninS (Ne.symm ne_bd_bp) nin0))
        obtain ⟨zs1349, hz1350, hm⟩ := Option.bind_eq_some_iff.mp hm
        refine W.iastore 225 d_prog_3_method_8_224 rfl q1347 (zv1336).toNatClampNeg rfl (own_set_ok hz1350).1 (own_set_ok hz1350).2.1 gp ?_
        intro h1348 W1348 K1348 A1348
        have kc1351 := Keep.trans (ws := [bd, bp, bo]) kc1345 K1348 (allS (Or.inl (List.mem_of_getElem? (i := 1) rfl)) all0)
        rw [(own_set_ok hz1350).2.2] at A1348
        refine W.aloadN 226 d_prog_3_method_8_225 rfl rfl rfl ?_
        have q1352 := ((Fo.keep K1342 (ninS ne_a_bd nin0)).keep K1348 (ninS ne_a_bp nin0))
        refine W.getfield 229 d_prog_3_method_8_226 rfl (host := "") (Or.inl (wd_76 hw)) Via.refl q1352 ?_
        refine W.iload 231 d_prog_3_method_8_229 rfl rfl ?_
        refine W.iinc 234 d_prog_3_method_8_231 rfl rfl (tl + (1 : Int32)) rfl #[.val (.ref a), .val (.int s), .val (.int (0 : Int32)), .val .null, .val (.int (0 : Int32)), .val (.int (tl + (1 : Int32))), .val (.int hd), .val (.int v), .val (.int nx), .val (.int en), .val (.int arc), .val (.int zv1336)] rfl ?_
        refine W.iload 236 d_prog_3_method_8_234 rfl rfl ?_
        have q1353 := ((Ao.keep K1342 (ninS (Ne.symm ne_bd_bo) nin0)).keep K1348 (ninS (Ne.symm ne_bp_bo) nin0))
        obtain ⟨zs1355, hz1356, hm⟩ := Option.bind_eq_some_iff.mp hm
        refine W.iastore 237 d_prog_3_method_8_236 rfl q1353 (tl).toNatClampNeg rfl (own_set_ok hz1356).1 (own_set_ok hz1356).2.1 go ?_
        intro h1354 W1354 K1354 A1354
        have kc1357 := Keep.trans (ws := [bd, bp, bo]) kc1351 K1354 (allS (Or.inl (List.mem_of_getElem? (i := 2) rfl)) all0)
        rw [(own_set_ok hz1356).2.2] at A1354
        refine W.iinc 240 d_prog_3_method_8_237 rfl rfl (arc + (1 : Int32)) rfl #[.val (.ref a), .val (.int s), .val (.int (0 : Int32)), .val .null, .val (.int (0 : Int32)), .val (.int (tl + (1 : Int32))), .val (.int hd), .val (.int v), .val (.int nx), .val (.int en), .val (.int (arc + (1 : Int32))), .val (.int zv1336)] rfl ?_
        refine W.goto 147 d_prog_3_method_8_240 rfl ?_
        have q1358 := (((Eg.keep K1342).keep K1348).keep K1354)
        have q1359 := (((Fg.keep K1342 (ninS ne_a_bd nin0)).keep K1348 (ninS ne_a_bp nin0)).keep K1354 (ninS ne_a_bo nin0))
        have q1360 := (((Fd.keep K1342 (ninS ne_a_bd nin0)).keep K1348 (ninS ne_a_bp nin0)).keep K1354 (ninS ne_a_bo nin0))
        have q1361 := ((q1346.keep K1348 (ninS ne_a_bp nin0)).keep K1354 (ninS ne_a_bo nin0))
        have q1362 := (q1352.keep K1354 (ninS ne_a_bo nin0))
        have q1363 := (((Ff.keep K1342 (ninS ne_g_bd nin0)).keep K1348 (ninS ne_g_bp nin0)).keep K1354 (ninS ne_g_bo nin0))
        have q1364 := (((Ft.keep K1342 (ninS ne_g_bd nin0)).keep K1348 (ninS ne_g_bp nin0)).keep K1354 (ninS ne_g_bo nin0))
        have q1365 := (((Af.keep K1342 (ninS ne_bf_bd nin0)).keep K1348 (ninS ne_bf_bp nin0)).keep K1354 (ninS ne_bf_bo nin0))
        have q1366 := (((At.keep K1342 (ninS ne_bt_bd nin0)).keep K1348 (ninS ne_bt_bp nin0)).keep K1354 (ninS ne_bt_bo nin0))
        have q1367 := ((A1342.keep K1348 (ninS ne_bd_bp nin0)).keep K1354 (ninS ne_bd_bo nin0))
        have q1368 := (A1348.keep K1354 (ninS ne_bp_bo nin0))
        exact ih (arc + (1 : Int32)) zs1343 zs1349 zs1355 (tl + (1 : Int32)) (.val (.int zv1336)) _ (One.val rfl) q1358 q1359 q1360 q1361 q1362 q1363 q1364 q1365 q1366 q1367 q1368 A1354 _ hm (fun h' arc' s11' o K A1 A2 A3 => k h' arc' s11' o (Keep.trans kc1357 K (fun x hx => Or.inl hx)) A1 A2 A3)
theorem ou_0 (l : Launch) (Z : State) (a0 : Array Value) (hw : HwT Z a0) (a g bf bt bd bp bo : Addr) (xf xt : List Int32) (n0 : Nat) (gd : n0 ≤ bd) (gp : n0 ≤ bp) (go : n0 ≤ bo) (ne_a_bd : a ≠ bd) (ne_a_bp : a ≠ bp) (ne_a_bo : a ≠ bo) (ne_g_bd : g ≠ bd) (ne_g_bp : g ≠ bp) (ne_g_bo : g ≠ bo) (ne_bf_bd : bf ≠ bd) (ne_bf_bp : bf ≠ bp) (ne_bf_bo : bf ≠ bo) (ne_bt_bd : bt ≠ bd) (ne_bt_bp : bt ≠ bp) (ne_bt_bo : bt ≠ bo) (ne_bd_bp : bd ≠ bp) (ne_bd_bo : bd ≠ bo) (ne_bp_bo : bp ≠ bo) (s : Int32) (P : Option Value → Heap → Prop) : ∀ (fuel : Nat) (hd : Int32) (ds ps os : List Int32) (tl : Int32) (s7 s8 s9 s10 s11 : Slot) (h : Heap), One s7 → One s8 → One s9 → One s10 → One s11 → Exa Z h g "com/example/eccentra/eccentra/Graph" → Fld Z h a "com/example/eccentra/eccentra/BreadthFirst" "graph" "Lcom/example/eccentra/eccentra/Graph;" (.ref g) → Fld Z h a "com/example/eccentra/eccentra/BreadthFirst" "distance" "[I" (.ref bd) → Fld Z h a "com/example/eccentra/eccentra/BreadthFirst" "parent" "[I" (.ref bp) → Fld Z h a "com/example/eccentra/eccentra/BreadthFirst" "reachedOrder" "[I" (.ref bo) → Fld Z h g "com/example/eccentra/eccentra/Graph" "inOffsets" "[I" (.ref bf) → Fld Z h g "com/example/eccentra/eccentra/Graph" "inSources" "[I" (.ref bt) → Ary Z h bf .int (xf.map Value.int) → Ary Z h bt .int (xt.map Value.int) → Ary Z h bd .int (ds.map Value.int) → Ary Z h bp .int (ps.map Value.int) → Ary Z h bo .int (os.map Value.int) → ∀ r, own_outer fuel hd xf xt ds ps os tl = some r → (∀ (h' : Heap) (hd' : Int32) (t7 t8 t9 t10 t11 : Slot), One t7 → One t8 → One t9 → One t10 → One t11 → Keep h h' [bd, bp, bo] → Ary Z h' bd .int (r.1.map Value.int) → Ary Z h' bp .int (r.2.1.map Value.int) → Ary Z h' bo .int (r.2.2.1.map Value.int) → W l ({ frames := 1, cells := 0, slots := 0, locals := 30 } : Room) Z "com/example/eccentra/eccentra/BreadthFirst" "search" prog_3_method_8_code 12 (some .int) n0 P h' 0 0 249 #[.val (.ref a), .val (.int s), .val (.int (0 : Int32)), .val .null, .val (.int (0 : Int32)), .val (.int r.2.2.2), .val (.int hd'), t7, t8, t9, t10, t11] []) → W l ({ frames := 1, cells := 0, slots := 0, locals := 30 } : Room) Z "com/example/eccentra/eccentra/BreadthFirst" "search" prog_3_method_8_code 12 (some .int) n0 P h 0 0 66 #[.val (.ref a), .val (.int s), .val (.int (0 : Int32)), .val .null, .val (.int (0 : Int32)), .val (.int tl), .val (.int hd), s7, s8, s9, s10, s11] [] := by
  intro fuel
  induction fuel with
  | zero => intro hd ds ps os tl s7 s8 s9 s10 s11 h hs7 hs8 hs9 hs10 hs11 Eg Fg Fd Fp Fo Ff Ft Af At Ad Ap Ao r hm k; cases (show (none : Option _) = some _ from hm)
  | succ fuel ih =>
    intro hd ds ps os tl s7 s8 s9 s10 s11 h hs7 hs8 hs9 hs10 hs11 Eg Fg Fd Fp Fo Ff Ft Af At Ad Ap Ao r hm k
    refine W.iload 68 d_prog_3_method_8_66 rfl rfl ?_
    refine W.iload 70 d_prog_3_method_8_68 rfl rfl ?_
    refine W.icmp_ge 249 73 d_prog_3_method_8_70 rfl rfl ?_ ?_
    · intro hc1369
      rw [own_outer_s, if_neg hc1369] at hm
      cases hm
      exact k h hd s7 s8 s9 s10 s11 hs7 hs8 hs9 hs10 hs11 (Keep.refl _ _) Ad Ap Ao
    · intro hc1369
      rw [own_outer_s, if_pos hc1369] at hm
      refine W.aloadN 74 d_prog_3_method_8_73 rfl rfl rfl ?_
      refine W.getfield 77 d_prog_3_method_8_74 rfl (host := "") (Or.inl (wd_76 hw)) Via.refl Fo ?_
      refine W.iload 79 d_prog_3_method_8_77 rfl rfl ?_
      obtain ⟨zv1370, hz1371, hm⟩ := Option.bind_eq_some_iff.mp hm
      refine W.iaload 80 d_prog_3_method_8_79 rfl Ao (hd).toNatClampNeg rfl (own_get_ok hz1371).1 (.int zv1370) (own_get_ok hz1371).2 ?_
      refine W.istore 82 d_prog_3_method_8_80 rfl #[.val (.ref a), .val (.int s), .val (.int (0 : Int32)), .val .null, .val (.int (0 : Int32)), .val (.int tl), .val (.int hd), .val (.int zv1370), s8, s9, s10, s11] (XS.store1 (o := s7) rfl hs7 rfl) ?_
      refine W.aloadN 83 d_prog_3_method_8_82 rfl rfl rfl ?_
      refine W.getfield 86 d_prog_3_method_8_83 rfl (host := "") (Or.inl (wd_68 hw)) Via.refl Fd ?_
      refine W.iload 88 d_prog_3_method_8_86 rfl rfl ?_
      obtain ⟨zv1372, hz1373, hm⟩ := Option.bind_eq_some_iff.mp hm
      refine W.iaload 89 d_prog_3_method_8_88 rfl Ad (zv1370).toNatClampNeg rfl (own_get_ok hz1373).1 (.int zv1372) (own_get_ok hz1373).2 ?_
      refine W.iconst 90 d_prog_3_method_8_89 rfl (1 : Int32) rfl ?_
      refine W.iadd 91 d_prog_3_method_8_90 rfl (zv1372 + (1 : Int32)) rfl ?_
      refine W.istore 93 d_prog_3_method_8_91 rfl #[.val (.ref a), .val (.int s), .val (.int (0 : Int32)), .val .null, .val (.int (0 : Int32)), .val (.int tl), .val (.int hd), .val (.int zv1370), .val (.int (zv1372 + (1 : Int32))), s9, s10, s11] (XS.store1 (o := s8) rfl hs8 rfl) ?_
      refine W.iloadN 94 d_prog_3_method_8_93 rfl rfl ?_
      refine W.if_eq 109 97 d_prog_3_method_8_94 rfl rfl (fun _ => ?_) (fun hc => absurd (by decide) hc)
      refine W.aloadN 110 d_prog_3_method_8_109 rfl rfl rfl ?_
      refine W.getfield 113 d_prog_3_method_8_110 rfl (host := "") (Or.inl (wd_65 hw)) Via.refl Fg ?_
      refine W.iload 115 d_prog_3_method_8_113 rfl rfl ?_
      obtain ⟨zv1374, hz1375, hm⟩ := Option.bind_eq_some_iff.mp hm
      refine W.callV (rest := []) (argsL := [(.int zv1370)]) (a := g) 118 d_prog_3_method_8_115 rfl (fun hn => g_inEnd l Z a0 hw g bf zv1370 zv1374 xf _ n0 hn Ff Af hz1375) Eg (wd_89 hw) (wd_90 hw) (wd_92 hw) rfl (wd_91 hw) (wd_14 hw) (wd_93 hw) (by decide) pd_6 rfl rfl rfl (by decide) 0 (Nat.le_of_ble_eq_true rfl) (by decide) (by decide) (by decide) ?_
      rintro v1376 h1376 ⟨rfl, rfl⟩
      show WG _ _ _ _ _ _ _ _ _ _ _ _ 0 0 118 #[.val (.ref a), .val (.int s), .val (.int (0 : Int32)), .val .null, .val (.int (0 : Int32)), .val (.int tl), .val (.int hd), .val (.int zv1370), .val (.int (zv1372 + (1 : Int32))), s9, s10, s11] [(.int zv1374)]
      refine W.istore 120 d_prog_3_method_8_118 rfl #[.val (.ref a), .val (.int s), .val (.int (0 : Int32)), .val .null, .val (.int (0 : Int32)), .val (.int tl), .val (.int hd), .val (.int zv1370), .val (.int (zv1372 + (1 : Int32))), .val (.int zv1374), s10, s11] (XS.store1 (o := s9) rfl hs9 rfl) ?_
      refine W.iloadN 121 d_prog_3_method_8_120 rfl rfl ?_
      refine W.if_eq 136 124 d_prog_3_method_8_121 rfl rfl (fun _ => ?_) (fun hc => absurd (by decide) hc)
      refine W.aloadN 137 d_prog_3_method_8_136 rfl rfl rfl ?_
      refine W.getfield 140 d_prog_3_method_8_137 rfl (host := "") (Or.inl (wd_65 hw)) Via.refl Fg ?_
      refine W.iload 142 d_prog_3_method_8_140 rfl rfl ?_
      obtain ⟨zv1377, hz1378, hm⟩ := Option.bind_eq_some_iff.mp hm
      refine W.callV (rest := []) (argsL := [(.int zv1370)]) (a := g) 145 d_prog_3_method_8_142 rfl (fun hn => g_inBegin l Z a0 hw g bf zv1370 zv1377 xf _ n0 hn Ff Af hz1378) Eg (wd_94 hw) (wd_95 hw) (wd_97 hw) rfl (wd_96 hw) (wd_14 hw) (wd_98 hw) (by decide) pd_6 rfl rfl rfl (by decide) 0 (Nat.le_of_ble_eq_true rfl) (by decide) (by decide) (by decide) ?_
      rintro v1379 h1379 ⟨rfl, rfl⟩
      show WG _ _ _ _ _ _ _ _ _ _ _ _ 0 0 145 #[.val (.ref a), .val (.int s), .val (.int (0 : Int32)), .val .null, .val (.int (0 : Int32)), .val (.int tl), .val (.int hd), .val (.int zv1370), .val (.int (zv1372 + (1 : Int32))), .val (.int zv1374), s10, s11] [(.int zv1377)]
      refine W.istore 147 d_prog_3_method_8_145 rfl #[.val (.ref a), .val (.int s), .val (.int (0 : Int32)), .val .null, .val (.int (0 : Int32)), .val (.int tl), .val (.int hd), .val (.int zv1370), .val (.int (zv1372 + (1 : Int32))), .val (.int zv1374), .val (.int zv1377), s11] (XS.store1 (o := s10) rfl hs10 rfl) ?_
      obtain ⟨r1, hr1, hm⟩ := Option.bind_eq_some_iff.mp hm
      refine in_0 l Z a0 hw a g bf bt bd bp bo xf xt n0 gd gp go ne_a_bd ne_a_bp ne_a_bo ne_g_bd ne_g_bp ne_g_bo ne_bf_bd ne_bf_bp ne_bf_bo ne_bt_bd ne_bt_bp ne_bt_bo ne_bd_bp ne_bd_bo ne_bp_bo s hd zv1370 (zv1372 + (1 : Int32)) zv1374 P 4 zv1377 ds ps os tl s11 _ hs11 Eg Fg Fd Fp Fo Ff Ft Af At Ad Ap Ao r1 hr1 (fun h1380 arc1380 t1380 ht1380 K1380 A11380 A21380 A31380 => ?_)
      have kc1381 := Keep.trans (ws := [bd, bp, bo]) (Keep.refl _ [bd, bp, bo]) K1380 (allS (Or.inl (List.mem_of_getElem? (i := 0) rfl)) (allS (Or.inl (List.mem_of_getElem? (i := 1) rfl)) (allS (Or.inl (List.mem_of_getElem? (i := 2) rfl)) all0)))
      refine W.iinc 246 d_prog_3_method_8_243 rfl rfl (hd + (1 : Int32)) rfl #[.val (.ref a), .val (.int s), .val (.int (0 : Int32)), .val .null, .val (.int (0 : Int32)), .val (.int r1.2.2.2), .val (.int (hd + (1 : Int32))), .val (.int zv1370), .val (.int (zv1372 + (1 : Int32))), .val (.int zv1374), .val (.int arc1380), t1380] rfl ?_
      refine W.goto 66 d_prog_3_method_8_246 rfl ?_
      have q1382 := (Eg.keep K1380)
      have q1383 := (Fg.keep K1380 (ninS ne_a_bd (ninS ne_a_bp (ninS ne_a_bo nin0))))
      have q1384 := (Fd.keep K1380 (ninS ne_a_bd (ninS ne_a_bp (ninS ne_a_bo nin0))))
      have q1385 := (Fp.keep K1380 (ninS ne_a_bd (ninS ne_a_bp (ninS ne_a_bo nin0))))
      have q1386 := (Fo.keep K1380 (ninS ne_a_bd (ninS ne_a_bp (ninS ne_a_bo nin0))))
      have q1387 := (Ff.keep K1380 (ninS ne_g_bd (ninS ne_g_bp (ninS ne_g_bo nin0))))
      have q1388 := (Ft.keep K1380 (ninS ne_g_bd (ninS ne_g_bp (ninS ne_g_bo nin0))))
      have q1389 := (Af.keep K1380 (ninS ne_bf_bd (ninS ne_bf_bp (ninS ne_bf_bo nin0))))
      have q1390 := (At.keep K1380 (ninS ne_bt_bd (ninS ne_bt_bp (ninS ne_bt_bo nin0))))
      exact ih (hd + (1 : Int32)) r1.1 r1.2.1 r1.2.2.1 r1.2.2.2 (.val (.int zv1370)) (.val (.int (zv1372 + (1 : Int32)))) (.val (.int zv1374)) (.val (.int arc1380)) t1380 _ (One.val rfl) (One.val rfl) (One.val rfl) (One.val rfl) ht1380 q1382 q1383 q1384 q1385 q1386 q1387 q1388 q1389 q1390 A11380 A21380 A31380 _ hm (fun h' hd' t7 t8 t9 t10 t11 o7 o8 o9 o10 o11 K A1 A2 A3 => k h' hd' t7 t8 t9 t10 t11 o7 o8 o9 o10 o11 (Keep.trans kc1381 K (fun x hx => Or.inl hx)) A1 A2 A3)
theorem c_s3_0 (l : Launch) (Z : State) (a0 : Array Value) (hw : HwT Z a0) (a g bf bt bd bp bo : Addr) (xf xt ds ps os : List Int32) (s cnt : Int32) (r : List Int32 × List Int32 × List Int32 × Int32) (h : Heap) (n0 : Nat) (hn : n0 ≤ h.size) (gd : n0 ≤ bd) (gp : n0 ≤ bp) (go : n0 ≤ bo) (ne_a_bd : a ≠ bd) (ne_a_bp : a ≠ bp) (ne_a_bo : a ≠ bo) (ne_g_bd : g ≠ bd) (ne_g_bp : g ≠ bp) (ne_g_bo : g ≠ bo) (ne_bf_bd : bf ≠ bd) (ne_bf_bp : bf ≠ bp) (ne_bf_bo : bf ≠ bo) (ne_bt_bd : bt ≠ bd) (ne_bt_bp : bt ≠ bp) (ne_bt_bo : bt ≠ bo) (ne_bd_bp : bd ≠ bp) (ne_bd_bo : bd ≠ bo) (ne_bp_bo : bp ≠ bo) (ga : n0 ≤ a) (E : Exa Z h a "com/example/eccentra/eccentra/BreadthFirst") (Eg : Exa Z h g "com/example/eccentra/eccentra/Graph") (Fg : Fld Z h a "com/example/eccentra/eccentra/BreadthFirst" "graph" "Lcom/example/eccentra/eccentra/Graph;" (.ref g)) (Fd : Fld Z h a "com/example/eccentra/eccentra/BreadthFirst" "distance" "[I" (.ref bd)) (Fp : Fld Z h a "com/example/eccentra/eccentra/BreadthFirst" "parent" "[I" (.ref bp)) (Fo : Fld Z h a "com/example/eccentra/eccentra/BreadthFirst" "reachedOrder" "[I" (.ref bo)) (Ff : Fld Z h g "com/example/eccentra/eccentra/Graph" "inOffsets" "[I" (.ref bf)) (Ft : Fld Z h g "com/example/eccentra/eccentra/Graph" "inSources" "[I" (.ref bt)) (Af : Ary Z h bf .int (xf.map Value.int)) (At : Ary Z h bt .int (xt.map Value.int)) (Fc : Fld Z h a "com/example/eccentra/eccentra/BreadthFirst" "reachedCount" "I" (.int cnt)) (Ad : Ary Z h bd .int (ds.map Value.int)) (Ap : Ary Z h bp .int (ps.map Value.int)) (Ao : Ary Z h bo .int (os.map Value.int)) (hsr : own_search xf xt s ds ps os cnt = some r) : Con l Z (⟨"com/example/eccentra/eccentra/BreadthFirst", "search", "(IZLcom/example/eccentra/eccentra/Components;)I"⟩ : MethodName) prog_3_method_8_code 12 (some .int) ({ frames := 1, cells := 0, slots := 0, locals := 30 } : Room) #[(.ref a), (.int s), (.int (0 : Int32)), .null] h n0 (fun rv h' => (∃ z : Int32, rv = some (.int z)) ∧ Keep h h' [a, bd, bp, bo] ∧ Exa Z h' a "com/example/eccentra/eccentra/BreadthFirst" ∧ Fld Z h' a "com/example/eccentra/eccentra/BreadthFirst" "reachedCount" "I" (.int r.2.2.2) ∧ Fld Z h' a "com/example/eccentra/eccentra/BreadthFirst" "graph" "Lcom/example/eccentra/eccentra/Graph;" (.ref g) ∧ Fld Z h' a "com/example/eccentra/eccentra/BreadthFirst" "distance" "[I" (.ref bd) ∧ Fld Z h' a "com/example/eccentra/eccentra/BreadthFirst" "parent" "[I" (.ref bp) ∧ Fld Z h' a "com/example/eccentra/eccentra/BreadthFirst" "reachedOrder" "[I" (.ref bo) ∧ Ary Z h' bd .int (r.1.map Value.int) ∧ Ary Z h' bp .int (r.2.1.map Value.int) ∧ Ary Z h' bo .int (r.2.2.1.map Value.int)) := by
  refine ConG.of_W (Ls := #[.val (.ref a), .val (.int s), .val (.int (0 : Int32)), .val .null, .unset, .unset, .unset, .unset, .unset, .unset, .unset, .unset]) (plainFor_of_name pn_2) hn (fun m => by first | (simp [entryFrame, mkF, argsToLocals, Value.category]; done) | rfl) ?_
  have hm := hsr
  obtain ⟨dr, hdr, hm⟩ := Option.bind_eq_some_iff.mp hm
  refine W.iconst 1 d_prog_3_method_8_0 rfl (0 : Int32) rfl ?_
  refine W.istore 3 d_prog_3_method_8_1 rfl #[.val (.ref a), .val (.int s), .val (.int (0 : Int32)), .val .null, .val (.int (0 : Int32)), .unset, .unset, .unset, .unset, .unset, .unset, .unset] rfl ?_
  refine rs_0 l Z a0 hw a g bf bt bd bp bo xf xt n0 gd gp go ne_a_bd ne_a_bp ne_a_bo ne_g_bd ne_g_bp ne_g_bo ne_bf_bd ne_bf_bp ne_bf_bo ne_bt_bd ne_bt_bp ne_bt_bo ne_bd_bp ne_bd_bo ne_bp_bo s cnt os _ 5 (0 : Int32) ds _ Eg Fg Fd Fp Fo Ff Ft Af At Fc Ad Ao dr hdr (fun h1391 i1391 K1391 A1391 => ?_)
  have kc1392 := Keep.trans (ws := [a, bd, bp, bo]) (Keep.refl _ [a, bd, bp, bo]) K1391 (allS (Or.inl (List.mem_of_getElem? (i := 1) rfl)) all0)
  refine W.aloadN 32 d_prog_3_method_8_31 rfl rfl rfl ?_
  refine W.ifnonnull_null 35 d_prog_3_method_8_32 rfl ?_
  refine W.iconst 36 d_prog_3_method_8_35 rfl (0 : Int32) rfl ?_
  refine W.goto 44 d_prog_3_method_8_36 rfl ?_
  refine W.istore 46 d_prog_3_method_8_44 rfl #[.val (.ref a), .val (.int s), .val (.int (0 : Int32)), .val .null, .val (.int (0 : Int32)), .unset, .unset, .unset, .unset, .unset, .unset, .unset] rfl ?_
  refine W.aloadN 47 d_prog_3_method_8_46 rfl rfl rfl ?_
  have q1393 := (Fd.keep K1391 (ninS ne_a_bd nin0))
  refine W.getfield 50 d_prog_3_method_8_47 rfl (host := "") (Or.inl (wd_68 hw)) Via.refl q1393 ?_
  refine W.iloadN 51 d_prog_3_method_8_50 rfl rfl ?_
  refine W.iconst 52 d_prog_3_method_8_51 rfl (0 : Int32) rfl ?_
  obtain ⟨zs1395, hz1396, hm⟩ := Option.bind_eq_some_iff.mp hm
  refine W.iastore 53 d_prog_3_method_8_52 rfl A1391 (s).toNatClampNeg rfl (own_set_ok hz1396).1 (own_set_ok hz1396).2.1 gd ?_
  intro h1394 W1394 K1394 A1394
  have kc1397 := Keep.trans (ws := [a, bd, bp, bo]) kc1392 K1394 (allS (Or.inl (List.mem_of_getElem? (i := 1) rfl)) all0)
  rw [(own_set_ok hz1396).2.2] at A1394
  refine W.aloadN 54 d_prog_3_method_8_53 rfl rfl rfl ?_
  have q1398 := ((Fo.keep K1391 (ninS ne_a_bd nin0)).keep K1394 (ninS ne_a_bd nin0))
  refine W.getfield 57 d_prog_3_method_8_54 rfl (host := "") (Or.inl (wd_76 hw)) Via.refl q1398 ?_
  refine W.iconst 58 d_prog_3_method_8_57 rfl (0 : Int32) rfl ?_
  refine W.iloadN 59 d_prog_3_method_8_58 rfl rfl ?_
  have q1399 := ((Ao.keep K1391 (ninS (Ne.symm ne_bd_bo) nin0)).keep K1394 (ninS (Ne.symm ne_bd_bo) nin0))
  obtain ⟨zs1401, hz1402, hm⟩ := Option.bind_eq_some_iff.mp hm
  refine W.iastore 60 d_prog_3_method_8_59 rfl q1399 ((0 : Int32)).toNatClampNeg rfl (own_set_ok hz1402).1 (own_set_ok hz1402).2.1 go ?_
  intro h1400 W1400 K1400 A1400
  have kc1403 := Keep.trans (ws := [a, bd, bp, bo]) kc1397 K1400 (allS (Or.inl (List.mem_of_getElem? (i := 3) rfl)) all0)
  rw [(own_set_ok hz1402).2.2] at A1400
  refine W.iconst 61 d_prog_3_method_8_60 rfl (1 : Int32) rfl ?_
  refine W.istore 63 d_prog_3_method_8_61 rfl #[.val (.ref a), .val (.int s), .val (.int (0 : Int32)), .val .null, .val (.int (0 : Int32)), .val (.int (1 : Int32)), .unset, .unset, .unset, .unset, .unset, .unset] rfl ?_
  refine W.iconst 64 d_prog_3_method_8_63 rfl (0 : Int32) rfl ?_
  refine W.istore 66 d_prog_3_method_8_64 rfl #[.val (.ref a), .val (.int s), .val (.int (0 : Int32)), .val .null, .val (.int (0 : Int32)), .val (.int (1 : Int32)), .val (.int (0 : Int32)), .unset, .unset, .unset, .unset, .unset] rfl ?_
  obtain ⟨rr, hrr, hm⟩ := Option.bind_eq_some_iff.mp hm
  have q1405 := (((Eg.keep K1391).keep K1394).keep K1400)
  have q1406 := (((Fg.keep K1391 (ninS ne_a_bd nin0)).keep K1394 (ninS ne_a_bd nin0)).keep K1400 (ninS ne_a_bo nin0))
  have q1407 := ((q1393.keep K1394 (ninS ne_a_bd nin0)).keep K1400 (ninS ne_a_bo nin0))
  have q1408 := (((Fp.keep K1391 (ninS ne_a_bd nin0)).keep K1394 (ninS ne_a_bd nin0)).keep K1400 (ninS ne_a_bo nin0))
  have q1409 := (q1398.keep K1400 (ninS ne_a_bo nin0))
  have q1410 := (((Ff.keep K1391 (ninS ne_g_bd nin0)).keep K1394 (ninS ne_g_bd nin0)).keep K1400 (ninS ne_g_bo nin0))
  have q1411 := (((Ft.keep K1391 (ninS ne_g_bd nin0)).keep K1394 (ninS ne_g_bd nin0)).keep K1400 (ninS ne_g_bo nin0))
  have q1412 := (((Af.keep K1391 (ninS ne_bf_bd nin0)).keep K1394 (ninS ne_bf_bd nin0)).keep K1400 (ninS ne_bf_bo nin0))
  have q1413 := (((At.keep K1391 (ninS ne_bt_bd nin0)).keep K1394 (ninS ne_bt_bd nin0)).keep K1400 (ninS ne_bt_bo nin0))
  have q1414 := (A1394.keep K1400 (ninS ne_bd_bo nin0))
  have q1415 := (((Ap.keep K1391 (ninS (Ne.symm ne_bd_bp) nin0)).keep K1394 (ninS (Ne.symm ne_bd_bp) nin0)).keep K1400 (ninS ne_bp_bo nin0))
  refine ou_0 l Z a0 hw a g bf bt bd bp bo xf xt n0 gd gp go ne_a_bd ne_a_bp ne_a_bo ne_g_bd ne_g_bp ne_g_bo ne_bf_bd ne_bf_bp ne_bf_bo ne_bt_bd ne_bt_bp ne_bt_bo ne_bd_bp ne_bd_bo ne_bp_bo s _ 5 (0 : Int32) zs1395 ps zs1401 (1 : Int32) .unset .unset .unset .unset .unset _ One.u One.u One.u One.u One.u q1405 q1406 q1407 q1408 q1409 q1410 q1411 q1412 q1413 q1414 q1415 A1400 rr hrr (fun h1404 hd1404 t7 t8 t9 t10 t11 o7 o8 o9 o10 o11 K1404 A11404 A21404 A31404 => ?_)
  have kc1416 := Keep.trans (ws := [a, bd, bp, bo]) kc1403 K1404 (allS (Or.inl (List.mem_of_getElem? (i := 1) rfl)) (allS (Or.inl (List.mem_of_getElem? (i := 2) rfl)) (allS (Or.inl (List.mem_of_getElem? (i := 3) rfl)) all0)))
  refine W.aloadN 250 d_prog_3_method_8_249 rfl rfl rfl ?_
  refine W.iload 252 d_prog_3_method_8_250 rfl rfl ?_
  have q1417 := ((((Fc.keep K1391 (ninS ne_a_bd nin0)).keep K1394 (ninS ne_a_bd nin0)).keep K1400 (ninS ne_a_bo nin0)).keep K1404 (ninS ne_a_bd (ninS ne_a_bp (ninS ne_a_bo nin0))))
  have q1418 := ((((E.keep K1391).keep K1394).keep K1400).keep K1404)
  refine W.putfield 255 d_prog_3_method_8_252 rfl (host := "") (Or.inl (wd_87 hw)) Via.refl q1417 q1418 (Or.inl (wd_88 hw)) (wd_59 hw) (ty := .int) (by decide) rfl rfl ga ?_
  intro h1419 W1419 F1419 E1419 K1419
  have kc1420 := Keep.trans (ws := [a, bd, bp, bo]) kc1416 K1419 (allS (Or.inl (List.mem_of_getElem? (i := 0) rfl)) all0)
  refine W.aloadN 256 d_prog_3_method_8_255 rfl rfl rfl ?_
  have q1421 := ((q1407.keep K1404 (ninS ne_a_bd (ninS ne_a_bp (ninS ne_a_bo nin0)))).other W1419 (Or.inr (sne_52 hw)))
  refine W.getfield 259 d_prog_3_method_8_256 rfl (host := "") (Or.inl (wd_68 hw)) Via.refl q1421 ?_
  refine W.aloadN 260 d_prog_3_method_8_259 rfl rfl rfl ?_
  have q1422 := ((q1409.keep K1404 (ninS ne_a_bd (ninS ne_a_bp (ninS ne_a_bo nin0)))).other W1419 (Or.inr (sne_53 hw)))
  refine W.getfield 263 d_prog_3_method_8_260 rfl (host := "") (Or.inl (wd_76 hw)) Via.refl q1422 ?_
  refine W.iload 265 d_prog_3_method_8_263 rfl rfl ?_
  refine W.iconst 266 d_prog_3_method_8_265 rfl (1 : Int32) rfl ?_
  refine W.isub 267 d_prog_3_method_8_266 rfl (rr.2.2.2 - (1 : Int32)) rfl ?_
  have q1423 := (A31404.keep K1419 (ninS (Ne.symm ne_a_bo) nin0))
  obtain ⟨zv1424, hz1425, hm⟩ := Option.bind_eq_some_iff.mp hm
  refine W.iaload 268 d_prog_3_method_8_267 rfl q1423 ((rr.2.2.2 - (1 : Int32))).toNatClampNeg rfl (own_get_ok hz1425).1 (.int zv1424) (own_get_ok hz1425).2 ?_
  have q1426 := (A11404.keep K1419 (ninS (Ne.symm ne_a_bd) nin0))
  obtain ⟨zv1427, hz1428, hm⟩ := Option.bind_eq_some_iff.mp hm
  refine W.iaload 269 d_prog_3_method_8_268 rfl q1426 (zv1424).toNatClampNeg rfl (own_get_ok hz1428).1 (.int zv1427) (own_get_ok hz1428).2 ?_
  cases hm
  have q1429 := ((q1406.keep K1404 (ninS ne_a_bd (ninS ne_a_bp (ninS ne_a_bo nin0)))).other W1419 (Or.inr (sne_54 hw)))
  have q1430 := ((q1408.keep K1404 (ninS ne_a_bd (ninS ne_a_bp (ninS ne_a_bo nin0)))).other W1419 (Or.inr (sne_55 hw)))
  have q1431 := (A21404.keep K1419 (ninS (Ne.symm ne_a_bp) nin0))
  exact W.ireturn d_prog_3_method_8_269 rfl ⟨⟨_, rfl⟩, kc1420, E1419, F1419, q1429, q1421, q1430, q1422, q1426, q1431, q1423⟩ (by decide) (by decide)
theorem c_s2_0 (l : Launch) (Z : State) (a0 : Array Value) (hw : HwT Z a0) (a g bf bt bd bp bo : Addr) (xf xt ds ps os : List Int32) (s cnt : Int32) (r : List Int32 × List Int32 × List Int32 × Int32) (h : Heap) (n0 : Nat) (hn : n0 ≤ h.size) (gd : n0 ≤ bd) (gp : n0 ≤ bp) (go : n0 ≤ bo) (ne_a_bd : a ≠ bd) (ne_a_bp : a ≠ bp) (ne_a_bo : a ≠ bo) (ne_g_bd : g ≠ bd) (ne_g_bp : g ≠ bp) (ne_g_bo : g ≠ bo) (ne_bf_bd : bf ≠ bd) (ne_bf_bp : bf ≠ bp) (ne_bf_bo : bf ≠ bo) (ne_bt_bd : bt ≠ bd) (ne_bt_bp : bt ≠ bp) (ne_bt_bo : bt ≠ bo) (ne_bd_bp : bd ≠ bp) (ne_bd_bo : bd ≠ bo) (ne_bp_bo : bp ≠ bo) (ga : n0 ≤ a) (E : Exa Z h a "com/example/eccentra/eccentra/BreadthFirst") (Eg : Exa Z h g "com/example/eccentra/eccentra/Graph") (Fg : Fld Z h a "com/example/eccentra/eccentra/BreadthFirst" "graph" "Lcom/example/eccentra/eccentra/Graph;" (.ref g)) (Fd : Fld Z h a "com/example/eccentra/eccentra/BreadthFirst" "distance" "[I" (.ref bd)) (Fp : Fld Z h a "com/example/eccentra/eccentra/BreadthFirst" "parent" "[I" (.ref bp)) (Fo : Fld Z h a "com/example/eccentra/eccentra/BreadthFirst" "reachedOrder" "[I" (.ref bo)) (Ff : Fld Z h g "com/example/eccentra/eccentra/Graph" "inOffsets" "[I" (.ref bf)) (Ft : Fld Z h g "com/example/eccentra/eccentra/Graph" "inSources" "[I" (.ref bt)) (Af : Ary Z h bf .int (xf.map Value.int)) (At : Ary Z h bt .int (xt.map Value.int)) (Fc : Fld Z h a "com/example/eccentra/eccentra/BreadthFirst" "reachedCount" "I" (.int cnt)) (Ad : Ary Z h bd .int (ds.map Value.int)) (Ap : Ary Z h bp .int (ps.map Value.int)) (Ao : Ary Z h bo .int (os.map Value.int)) (hsr : own_search xf xt s ds ps os cnt = some r) : Con l Z (⟨"com/example/eccentra/eccentra/BreadthFirst", "search", "(IZ)I"⟩ : MethodName) prog_3_method_2_code 3 (some .int) ({ frames := 2, cells := 0, slots := 0, locals := 60 } : Room) #[(.ref a), (.int s), (.int (0 : Int32))] h n0 (fun rv h' => (∃ z : Int32, rv = some (.int z)) ∧ Keep h h' [a, bd, bp, bo] ∧ Exa Z h' a "com/example/eccentra/eccentra/BreadthFirst" ∧ Fld Z h' a "com/example/eccentra/eccentra/BreadthFirst" "reachedCount" "I" (.int r.2.2.2) ∧ Fld Z h' a "com/example/eccentra/eccentra/BreadthFirst" "graph" "Lcom/example/eccentra/eccentra/Graph;" (.ref g) ∧ Fld Z h' a "com/example/eccentra/eccentra/BreadthFirst" "distance" "[I" (.ref bd) ∧ Fld Z h' a "com/example/eccentra/eccentra/BreadthFirst" "parent" "[I" (.ref bp) ∧ Fld Z h' a "com/example/eccentra/eccentra/BreadthFirst" "reachedOrder" "[I" (.ref bo) ∧ Ary Z h' bd .int (r.1.map Value.int) ∧ Ary Z h' bp .int (r.2.1.map Value.int) ∧ Ary Z h' bo .int (r.2.2.1.map Value.int)) := by
  refine ConG.of_W (Ls := #[.val (.ref a), .val (.int s), .val (.int (0 : Int32))]) (plainFor_of_name pn_2) hn (fun m => by first | (simp [entryFrame, mkF, argsToLocals, Value.category]; done) | rfl) ?_
  refine W.aloadN 1 d_prog_3_method_2_0 rfl rfl rfl ?_
  refine W.iloadN 2 d_prog_3_method_2_1 rfl rfl ?_
  refine W.iloadN 3 d_prog_3_method_2_2 rfl rfl ?_
  refine W.aconst_null 4 d_prog_3_method_2_3 rfl ?_
  refine W.callP (rest := []) (argsL := [(.int s), (.int (0 : Int32)), .null]) (a := a) 7 d_prog_3_method_2_4 rfl (fun hn => c_s3_0 l Z a0 hw a g bf bt bd bp bo xf xt ds ps os s cnt r _ n0 hn gd gp go ne_a_bd ne_a_bp ne_a_bo ne_g_bd ne_g_bp ne_g_bo ne_bf_bd ne_bf_bp ne_bf_bo ne_bt_bd ne_bt_bp ne_bt_bo ne_bd_bp ne_bd_bo ne_bp_bo ga E Eg Fg Fd Fp Fo Ff Ft Af At Fc Ad Ap Ao hsr) E (wd_83 hw) (wd_85 hw) (wd_59 hw) (wd_84 hw) (wd_60 hw) (wd_86 hw) (by decide) pd_7 rfl rfl rfl (by decide) 0 (Nat.le_of_ble_eq_true rfl) (by decide) (by decide) (by decide) ?_
  rintro v1432 h1432 ⟨⟨z1432, rfl⟩, Q1432⟩
  show WG _ _ _ _ _ _ _ _ _ _ _ _ 0 0 7 #[.val (.ref a), .val (.int s), .val (.int (0 : Int32))] [(.int z1432)]
  exact W.ireturn d_prog_3_method_2_7 rfl ⟨⟨_, rfl⟩, Q1432⟩ (by decide) (by decide)
theorem rs_1 (l : Launch) (Z : State) (a0 : Array Value) (hw : HwT Z a0) (a g bf bt bd bp bo : Addr) (xf xt : List Int32) (n0 : Nat) (gd : n0 ≤ bd) (gp : n0 ≤ bp) (go : n0 ≤ bo) (ne_a_bd : a ≠ bd) (ne_a_bp : a ≠ bp) (ne_a_bo : a ≠ bo) (ne_g_bd : g ≠ bd) (ne_g_bp : g ≠ bp) (ne_g_bo : g ≠ bo) (ne_bf_bd : bf ≠ bd) (ne_bf_bp : bf ≠ bp) (ne_bf_bo : bf ≠ bo) (ne_bt_bd : bt ≠ bd) (ne_bt_bp : bt ≠ bp) (ne_bt_bo : bt ≠ bo) (ne_bd_bp : bd ≠ bp) (ne_bd_bo : bd ≠ bo) (ne_bp_bo : bp ≠ bo) (s cnt : Int32) (os : List Int32) (P : Option Value → Heap → Prop) : ∀ (fuel : Nat) (i : Int32) (ds : List Int32) (h : Heap), Exa Z h g "com/example/eccentra/eccentra/Graph" → Fld Z h a "com/example/eccentra/eccentra/BreadthFirst" "graph" "Lcom/example/eccentra/eccentra/Graph;" (.ref g) → Fld Z h a "com/example/eccentra/eccentra/BreadthFirst" "distance" "[I" (.ref bd) → Fld Z h a "com/example/eccentra/eccentra/BreadthFirst" "parent" "[I" (.ref bp) → Fld Z h a "com/example/eccentra/eccentra/BreadthFirst" "reachedOrder" "[I" (.ref bo) → Fld Z h g "com/example/eccentra/eccentra/Graph" "outOffsets" "[I" (.ref bf) → Fld Z h g "com/example/eccentra/eccentra/Graph" "outTargets" "[I" (.ref bt) → Ary Z h bf .int (xf.map Value.int) → Ary Z h bt .int (xt.map Value.int) → Fld Z h a "com/example/eccentra/eccentra/BreadthFirst" "reachedCount" "I" (.int cnt) → Ary Z h bd .int (ds.map Value.int) → Ary Z h bo .int (os.map Value.int) → ∀ ds', own_reset fuel i cnt os ds = some ds' → (∀ (h' : Heap) (i' : Int32), Keep h h' [bd] → Ary Z h' bd .int (ds'.map Value.int) → W l ({ frames := 1, cells := 0, slots := 0, locals := 30 } : Room) Z "com/example/eccentra/eccentra/BreadthFirst" "search" prog_3_method_8_code 12 (some .int) n0 P h' 0 0 31 #[.val (.ref a), .val (.int s), .val (.int (1 : Int32)), .val .null, .val (.int i'), .unset, .unset, .unset, .unset, .unset, .unset, .unset] []) → W l ({ frames := 1, cells := 0, slots := 0, locals := 30 } : Room) Z "com/example/eccentra/eccentra/BreadthFirst" "search" prog_3_method_8_code 12 (some .int) n0 P h 0 0 3 #[.val (.ref a), .val (.int s), .val (.int (1 : Int32)), .val .null, .val (.int i), .unset, .unset, .unset, .unset, .unset, .unset, .unset] [] := by
  intro fuel
  induction fuel with
  | zero => intro i ds h Eg Fg Fd Fp Fo Ff Ft Af At Fc Ad Ao ds' hm k; cases (show (none : Option _) = some _ from hm)
  | succ fuel ih =>
    intro i ds h Eg Fg Fd Fp Fo Ff Ft Af At Fc Ad Ao ds' hm k
    refine W.iload 5 d_prog_3_method_8_3 rfl rfl ?_
    refine W.aloadN 6 d_prog_3_method_8_5 rfl rfl rfl ?_
    refine W.getfield 9 d_prog_3_method_8_6 rfl (host := "") (Or.inl (wd_87 hw)) Via.refl Fc ?_
    refine W.icmp_ge 31 12 d_prog_3_method_8_9 rfl rfl ?_ ?_
    · intro hc1433
      rw [own_reset_s, if_neg hc1433] at hm
      cases hm
      exact k h i (Keep.refl _ _) Ad
    · intro hc1433
      rw [own_reset_s, if_pos hc1433] at hm
      refine W.aloadN 13 d_prog_3_method_8_12 rfl rfl rfl ?_
      refine W.getfield 16 d_prog_3_method_8_13 rfl (host := "") (Or.inl (wd_68 hw)) Via.refl Fd ?_
      refine W.aloadN 17 d_prog_3_method_8_16 rfl rfl rfl ?_
      refine W.getfield 20 d_prog_3_method_8_17 rfl (host := "") (Or.inl (wd_76 hw)) Via.refl Fo ?_
      refine W.iload 22 d_prog_3_method_8_20 rfl rfl ?_
      obtain ⟨zv1434, hz1435, hm⟩ := Option.bind_eq_some_iff.mp hm
      refine W.iaload 23 d_prog_3_method_8_22 rfl Ao (i).toNatClampNeg rfl (own_get_ok hz1435).1 (.int zv1434) (own_get_ok hz1435).2 ?_
      refine W.iconst 24 d_prog_3_method_8_23 rfl (-1 : Int32) rfl ?_
      obtain ⟨zs1437, hz1438, hm⟩ := Option.bind_eq_some_iff.mp hm
      refine W.iastore 25 d_prog_3_method_8_24 rfl Ad (zv1434).toNatClampNeg rfl (own_set_ok hz1438).1 (own_set_ok hz1438).2.1 gd ?_
      intro h1436 W1436 K1436 A1436
      have kc1439 := Keep.trans (ws := [bd]) (Keep.refl _ [bd]) K1436 (allS (Or.inl (List.mem_of_getElem? (i := 0) rfl)) all0)
      rw [(own_set_ok hz1438).2.2] at A1436
      refine W.iinc 28 d_prog_3_method_8_25 rfl rfl (i + (1 : Int32)) rfl #[.val (.ref a), .val (.int s), .val (.int (1 : Int32)), .val .null, .val (.int (i + (1 : Int32))), .unset, .unset, .unset, .unset, .unset, .unset, .unset] rfl ?_
      refine W.goto 3 d_prog_3_method_8_28 rfl ?_
      have q1440 := (Eg.keep K1436)
      have q1441 := (Fg.keep K1436 (ninS ne_a_bd nin0))
      have q1442 := (Fd.keep K1436 (ninS ne_a_bd nin0))
      have q1443 := (Fp.keep K1436 (ninS ne_a_bd nin0))
      have q1444 := (Fo.keep K1436 (ninS ne_a_bd nin0))
      have q1445 := (Ff.keep K1436 (ninS ne_g_bd nin0))
      have q1446 := (Ft.keep K1436 (ninS ne_g_bd nin0))
      have q1447 := (Af.keep K1436 (ninS ne_bf_bd nin0))
      have q1448 := (At.keep K1436 (ninS ne_bt_bd nin0))
      have q1449 := (Fc.keep K1436 (ninS ne_a_bd nin0))
      have q1450 := (Ao.keep K1436 (ninS (Ne.symm ne_bd_bo) nin0))
      exact ih (i + (1 : Int32)) zs1437 _ q1440 q1441 q1442 q1443 q1444 q1445 q1446 q1447 q1448 q1449 A1436 q1450 _ hm (fun h' i' K A => k h' i' (Keep.trans kc1439 K (fun x hx => Or.inl hx)) A)
theorem in_1 (l : Launch) (Z : State) (a0 : Array Value) (hw : HwT Z a0) (a g bf bt bd bp bo : Addr) (xf xt : List Int32) (n0 : Nat) (gd : n0 ≤ bd) (gp : n0 ≤ bp) (go : n0 ≤ bo) (ne_a_bd : a ≠ bd) (ne_a_bp : a ≠ bp) (ne_a_bo : a ≠ bo) (ne_g_bd : g ≠ bd) (ne_g_bp : g ≠ bp) (ne_g_bo : g ≠ bo) (ne_bf_bd : bf ≠ bd) (ne_bf_bp : bf ≠ bp) (ne_bf_bo : bf ≠ bo) (ne_bt_bd : bt ≠ bd) (ne_bt_bp : bt ≠ bp) (ne_bt_bo : bt ≠ bo) (ne_bd_bp : bd ≠ bp) (ne_bd_bo : bd ≠ bo) (ne_bp_bo : bp ≠ bo) (s hd v nx en : Int32) (P : Option Value → Heap → Prop) : ∀ (fuel : Nat) (arc : Int32) (ds ps os : List Int32) (tl : Int32) (s11 : Slot) (h : Heap), One s11 → Exa Z h g "com/example/eccentra/eccentra/Graph" → Fld Z h a "com/example/eccentra/eccentra/BreadthFirst" "graph" "Lcom/example/eccentra/eccentra/Graph;" (.ref g) → Fld Z h a "com/example/eccentra/eccentra/BreadthFirst" "distance" "[I" (.ref bd) → Fld Z h a "com/example/eccentra/eccentra/BreadthFirst" "parent" "[I" (.ref bp) → Fld Z h a "com/example/eccentra/eccentra/BreadthFirst" "reachedOrder" "[I" (.ref bo) → Fld Z h g "com/example/eccentra/eccentra/Graph" "outOffsets" "[I" (.ref bf) → Fld Z h g "com/example/eccentra/eccentra/Graph" "outTargets" "[I" (.ref bt) → Ary Z h bf .int (xf.map Value.int) → Ary Z h bt .int (xt.map Value.int) → Ary Z h bd .int (ds.map Value.int) → Ary Z h bp .int (ps.map Value.int) → Ary Z h bo .int (os.map Value.int) → ∀ r, own_inner fuel arc en xt nx v ds ps os tl = some r → (∀ (h' : Heap) (arc' : Int32) (s11' : Slot), One s11' → Keep h h' [bd, bp, bo] → Ary Z h' bd .int (r.1.map Value.int) → Ary Z h' bp .int (r.2.1.map Value.int) → Ary Z h' bo .int (r.2.2.1.map Value.int) → W l ({ frames := 1, cells := 0, slots := 0, locals := 30 } : Room) Z "com/example/eccentra/eccentra/BreadthFirst" "search" prog_3_method_8_code 12 (some .int) n0 P h' 0 0 243 #[.val (.ref a), .val (.int s), .val (.int (1 : Int32)), .val .null, .val (.int (0 : Int32)), .val (.int r.2.2.2), .val (.int hd), .val (.int v), .val (.int nx), .val (.int en), .val (.int arc'), s11'] []) → W l ({ frames := 1, cells := 0, slots := 0, locals := 30 } : Room) Z "com/example/eccentra/eccentra/BreadthFirst" "search" prog_3_method_8_code 12 (some .int) n0 P h 0 0 147 #[.val (.ref a), .val (.int s), .val (.int (1 : Int32)), .val .null, .val (.int (0 : Int32)), .val (.int tl), .val (.int hd), .val (.int v), .val (.int nx), .val (.int en), .val (.int arc), s11] [] := by
  intro fuel
  induction fuel with
  | zero => intro arc ds ps os tl s11 h hs11 Eg Fg Fd Fp Fo Ff Ft Af At Ad Ap Ao r hm k; cases (show (none : Option _) = some _ from hm)
  | succ fuel ih =>
    intro arc ds ps os tl s11 h hs11 Eg Fg Fd Fp Fo Ff Ft Af At Ad Ap Ao r hm k
    refine W.iload 149 d_prog_3_method_8_147 rfl rfl ?_
    refine W.iload 151 d_prog_3_method_8_149 rfl rfl ?_
    refine W.icmp_ge 243 154 d_prog_3_method_8_151 rfl rfl ?_ ?_
    · intro hc1451
      rw [own_inner_s, if_neg hc1451] at hm
      cases hm
      exact k h arc s11 hs11 (Keep.refl _ _) Ad Ap Ao
    · intro hc1451
      rw [own_inner_s, if_pos hc1451] at hm
      refine W.iloadN 155 d_prog_3_method_8_154 rfl rfl ?_
      refine W.if_eq 170 158 d_prog_3_method_8_155 rfl rfl (fun hc => absurd hc (by decide)) (fun _ => ?_)
      refine W.aloadN 159 d_prog_3_method_8_158 rfl rfl rfl ?_
      refine W.getfield 162 d_prog_3_method_8_159 rfl (host := "") (Or.inl (wd_65 hw)) Via.refl Fg ?_
      refine W.iload 164 d_prog_3_method_8_162 rfl rfl ?_
      obtain ⟨zv1452, hz1453, hm⟩ := Option.bind_eq_some_iff.mp hm
      refine W.callV (rest := []) (argsL := [(.int arc)]) (a := g) 167 d_prog_3_method_8_164 rfl (fun hn => g_outTarget l Z a0 hw g bt arc zv1452 xt _ n0 hn Ft At hz1453) Eg (wd_151 hw) (wd_152 hw) (wd_154 hw) rfl (wd_153 hw) (wd_14 hw) (wd_155 hw) (by decide) pd_6 rfl rfl rfl (by decide) 0 (Nat.le_of_ble_eq_true rfl) (by decide) (by decide) (by decide) ?_
      rintro v1454 h1454 ⟨rfl, rfl⟩
      show WG _ _ _ _ _ _ _ _ _ _ _ _ 0 0 167 #[.val (.ref a), .val (.int s), .val (.int (1 : Int32)), .val .null, .val (.int (0 : Int32)), .val (.int tl), .val (.int hd), .val (.int v), .val (.int nx), .val (.int en), .val (.int arc), s11] [(.int zv1452)]
      refine W.goto 179 d_prog_3_method_8_167 rfl ?_
      refine W.istore 181 d_prog_3_method_8_179 rfl #[.val (.ref a), .val (.int s), .val (.int (1 : Int32)), .val .null, .val (.int (0 : Int32)), .val (.int tl), .val (.int hd), .val (.int v), .val (.int nx), .val (.int en), .val (.int arc), .val (.int zv1452)] (XS.store1 (o := s11) rfl hs11 rfl) ?_
      refine W.aloadN 182 d_prog_3_method_8_181 rfl rfl rfl ?_
      refine W.getfield 185 d_prog_3_method_8_182 rfl (host := "") (Or.inl (wd_68 hw)) Via.refl Fd ?_
      refine W.iload 187 d_prog_3_method_8_185 rfl rfl ?_
      obtain ⟨zv1455, hz1456, hm⟩ := Option.bind_eq_some_iff.mp hm
      refine W.iaload 188 d_prog_3_method_8_187 rfl Ad (zv1452).toNatClampNeg rfl (own_get_ok hz1456).1 (.int zv1455) (own_get_ok hz1456).2 ?_
      refine W.iconst 189 d_prog_3_method_8_188 rfl (-1 : Int32) rfl ?_
      refine W.icmp_ne 237 192 d_prog_3_method_8_189 rfl rfl ?_ ?_
      · intro hc1457
        rw [if_neg hc1457] at hm
        refine W.iinc 240 d_prog_3_method_8_237 rfl rfl (arc + (1 : Int32)) rfl #[.val (.ref a), .val (.int s), .val (.int (1 : Int32)), .val .null, .val (.int (0 : Int32)), .val (.int tl), .val (.int hd), .val (.int v), .val (.int nx), .val (.int en), .val (.int (arc + (1 : Int32))), .val (.int zv1452)] rfl ?_
        refine W.goto 147 d_prog_3_method_8_240 rfl ?_
        exact ih (arc + (1 : Int32)) ds ps os tl (.val (.int zv1452)) _ (One.val rfl) Eg Fg Fd Fp Fo Ff Ft Af At Ad Ap Ao _ hm (fun h' arc' s11' o K A1 A2 A3 => k h' arc' s11' o (Keep.trans (Keep.refl _ [bd, bp, bo]) K (fun x hx => Or.inl hx)) A1 A2 A3)
      · intro hc1457
        rw [if_pos hc1457] at hm
        refine W.aloadN 193 d_prog_3_method_8_192 rfl rfl rfl ?_
        refine W.ifnull_null 207 d_prog_3_method_8_193 rfl ?_
        refine W.aloadN 208 d_prog_3_method_8_207 rfl rfl rfl ?_
        refine W.getfield 211 d_prog_3_method_8_208 rfl (host := "") (Or.inl (wd_68 hw)) Via.refl Fd ?_
        refine W.iload 213 d_prog_3_method_8_211 rfl rfl ?_
        refine W.iload 215 d_prog_3_method_8_213 rfl rfl ?_
        obtain ⟨zs1459, hz1460, hm⟩ := Option.bind_eq_some_iff.mp hm
        refine W.iastore 216 d_prog_3_method_8_215 rfl Ad (zv1452).toNatClampNeg rfl (own_set_ok hz1460).1 (own_set_ok hz1460).2.1 gd ?_
        intro h1458 W1458 K1458 A1458
        have kc1461 := Keep.trans (ws := [bd, bp, bo]) (Keep.refl _ [bd, bp, bo]) K1458 (allS (Or.inl (List.mem_of_getElem? (i := 0) rfl)) all0)
        rw [(own_set_ok hz1460).2.2] at A1458
        refine W.aloadN 217 d_prog_3_method_8_216 rfl rfl rfl ?_
        have q1462 := (Fp.keep K1458 (ninS ne_a_bd nin0))
        refine W.getfield 220 d_prog_3_method_8_217 rfl (host := "") (Or.inl (wd_74 hw)) Via.refl q1462 ?_
        refine W.iload 222 d_prog_3_method_8_220 rfl rfl ?_
        refine W.iload 224 d_prog_3_method_8_222 rfl rfl ?_
        have q1463 := (Ap.keep K1458 (ninS (Ne.symm ne_bd_bp) nin0))
        obtain ⟨zs1465, hz1466, hm⟩ := Option.bind_eq_some_iff.mp hm
        refine W.iastore 225 d_prog_3_method_8_224 rfl q1463 (zv1452).toNatClampNeg rfl (own_set_ok hz1466).1 (own_set_ok hz1466).2.1 gp ?_
        intro h1464 W1464 K1464 A1464
        have kc1467 := Keep.trans (ws := [bd, bp, bo]) kc1461 K1464 (allS (Or.inl (List.mem_of_getElem? (i := 1) rfl)) all0)
        rw [(own_set_ok hz1466).2.2] at A1464
        refine W.aloadN 226 d_prog_3_method_8_225 rfl rfl rfl ?_
        have q1468 := ((Fo.keep K1458 (ninS ne_a_bd nin0)).keep K1464 (ninS ne_a_bp nin0))
        refine W.getfield 229 d_prog_3_method_8_226 rfl (host := "") (Or.inl (wd_76 hw)) Via.refl q1468 ?_
        refine W.iload 231 d_prog_3_method_8_229 rfl rfl ?_
        refine W.iinc 234 d_prog_3_method_8_231 rfl rfl (tl + (1 : Int32)) rfl #[.val (.ref a), .val (.int s), .val (.int (1 : Int32)), .val .null, .val (.int (0 : Int32)), .val (.int (tl + (1 : Int32))), .val (.int hd), .val (.int v), .val (.int nx), .val (.int en), .val (.int arc), .val (.int zv1452)] rfl ?_
        refine W.iload 236 d_prog_3_method_8_234 rfl rfl ?_
        have q1469 := ((Ao.keep K1458 (ninS (Ne.symm ne_bd_bo) nin0)).keep K1464 (ninS (Ne.symm ne_bp_bo) nin0))
        obtain ⟨zs1471, hz1472, hm⟩ := Option.bind_eq_some_iff.mp hm
        refine W.iastore 237 d_prog_3_method_8_236 rfl q1469 (tl).toNatClampNeg rfl (own_set_ok hz1472).1 (own_set_ok hz1472).2.1 go ?_
        intro h1470 W1470 K1470 A1470
        have kc1473 := Keep.trans (ws := [bd, bp, bo]) kc1467 K1470 (allS (Or.inl (List.mem_of_getElem? (i := 2) rfl)) all0)
        rw [(own_set_ok hz1472).2.2] at A1470
        refine W.iinc 240 d_prog_3_method_8_237 rfl rfl (arc + (1 : Int32)) rfl #[.val (.ref a), .val (.int s), .val (.int (1 : Int32)), .val .null, .val (.int (0 : Int32)), .val (.int (tl + (1 : Int32))), .val (.int hd), .val (.int v), .val (.int nx), .val (.int en), .val (.int (arc + (1 : Int32))), .val (.int zv1452)] rfl ?_
        refine W.goto 147 d_prog_3_method_8_240 rfl ?_
        have q1474 := (((Eg.keep K1458).keep K1464).keep K1470)
        have q1475 := (((Fg.keep K1458 (ninS ne_a_bd nin0)).keep K1464 (ninS ne_a_bp nin0)).keep K1470 (ninS ne_a_bo nin0))
        have q1476 := (((Fd.keep K1458 (ninS ne_a_bd nin0)).keep K1464 (ninS ne_a_bp nin0)).keep K1470 (ninS ne_a_bo nin0))
        have q1477 := ((q1462.keep K1464 (ninS ne_a_bp nin0)).keep K1470 (ninS ne_a_bo nin0))
        have q1478 := (q1468.keep K1470 (ninS ne_a_bo nin0))
        have q1479 := (((Ff.keep K1458 (ninS ne_g_bd nin0)).keep K1464 (ninS ne_g_bp nin0)).keep K1470 (ninS ne_g_bo nin0))
        have q1480 := (((Ft.keep K1458 (ninS ne_g_bd nin0)).keep K1464 (ninS ne_g_bp nin0)).keep K1470 (ninS ne_g_bo nin0))
        have q1481 := (((Af.keep K1458 (ninS ne_bf_bd nin0)).keep K1464 (ninS ne_bf_bp nin0)).keep K1470 (ninS ne_bf_bo nin0))
        have q1482 := (((At.keep K1458 (ninS ne_bt_bd nin0)).keep K1464 (ninS ne_bt_bp nin0)).keep K1470 (ninS ne_bt_bo nin0))
        have q1483 := ((A1458.keep K1464 (ninS ne_bd_bp nin0)).keep K1470 (ninS ne_bd_bo nin0))
        have q1484 := (A1464.keep K1470 (ninS ne_bp_bo nin0))
        exact ih (arc + (1 : Int32)) zs1459 zs1465 zs1471 (tl + (1 : Int32)) (.val (.int zv1452)) _ (One.val rfl) q1474 q1475 q1476 q1477 q1478 q1479 q1480 q1481 q1482 q1483 q1484 A1470 _ hm (fun h' arc' s11' o K A1 A2 A3 => k h' arc' s11' o (Keep.trans kc1473 K (fun x hx => Or.inl hx)) A1 A2 A3)
theorem ou_1 (l : Launch) (Z : State) (a0 : Array Value) (hw : HwT Z a0) (a g bf bt bd bp bo : Addr) (xf xt : List Int32) (n0 : Nat) (gd : n0 ≤ bd) (gp : n0 ≤ bp) (go : n0 ≤ bo) (ne_a_bd : a ≠ bd) (ne_a_bp : a ≠ bp) (ne_a_bo : a ≠ bo) (ne_g_bd : g ≠ bd) (ne_g_bp : g ≠ bp) (ne_g_bo : g ≠ bo) (ne_bf_bd : bf ≠ bd) (ne_bf_bp : bf ≠ bp) (ne_bf_bo : bf ≠ bo) (ne_bt_bd : bt ≠ bd) (ne_bt_bp : bt ≠ bp) (ne_bt_bo : bt ≠ bo) (ne_bd_bp : bd ≠ bp) (ne_bd_bo : bd ≠ bo) (ne_bp_bo : bp ≠ bo) (s : Int32) (P : Option Value → Heap → Prop) : ∀ (fuel : Nat) (hd : Int32) (ds ps os : List Int32) (tl : Int32) (s7 s8 s9 s10 s11 : Slot) (h : Heap), One s7 → One s8 → One s9 → One s10 → One s11 → Exa Z h g "com/example/eccentra/eccentra/Graph" → Fld Z h a "com/example/eccentra/eccentra/BreadthFirst" "graph" "Lcom/example/eccentra/eccentra/Graph;" (.ref g) → Fld Z h a "com/example/eccentra/eccentra/BreadthFirst" "distance" "[I" (.ref bd) → Fld Z h a "com/example/eccentra/eccentra/BreadthFirst" "parent" "[I" (.ref bp) → Fld Z h a "com/example/eccentra/eccentra/BreadthFirst" "reachedOrder" "[I" (.ref bo) → Fld Z h g "com/example/eccentra/eccentra/Graph" "outOffsets" "[I" (.ref bf) → Fld Z h g "com/example/eccentra/eccentra/Graph" "outTargets" "[I" (.ref bt) → Ary Z h bf .int (xf.map Value.int) → Ary Z h bt .int (xt.map Value.int) → Ary Z h bd .int (ds.map Value.int) → Ary Z h bp .int (ps.map Value.int) → Ary Z h bo .int (os.map Value.int) → ∀ r, own_outer fuel hd xf xt ds ps os tl = some r → (∀ (h' : Heap) (hd' : Int32) (t7 t8 t9 t10 t11 : Slot), One t7 → One t8 → One t9 → One t10 → One t11 → Keep h h' [bd, bp, bo] → Ary Z h' bd .int (r.1.map Value.int) → Ary Z h' bp .int (r.2.1.map Value.int) → Ary Z h' bo .int (r.2.2.1.map Value.int) → W l ({ frames := 1, cells := 0, slots := 0, locals := 30 } : Room) Z "com/example/eccentra/eccentra/BreadthFirst" "search" prog_3_method_8_code 12 (some .int) n0 P h' 0 0 249 #[.val (.ref a), .val (.int s), .val (.int (1 : Int32)), .val .null, .val (.int (0 : Int32)), .val (.int r.2.2.2), .val (.int hd'), t7, t8, t9, t10, t11] []) → W l ({ frames := 1, cells := 0, slots := 0, locals := 30 } : Room) Z "com/example/eccentra/eccentra/BreadthFirst" "search" prog_3_method_8_code 12 (some .int) n0 P h 0 0 66 #[.val (.ref a), .val (.int s), .val (.int (1 : Int32)), .val .null, .val (.int (0 : Int32)), .val (.int tl), .val (.int hd), s7, s8, s9, s10, s11] [] := by
  intro fuel
  induction fuel with
  | zero => intro hd ds ps os tl s7 s8 s9 s10 s11 h hs7 hs8 hs9 hs10 hs11 Eg Fg Fd Fp Fo Ff Ft Af At Ad Ap Ao r hm k; cases (show (none : Option _) = some _ from hm)
  | succ fuel ih =>
    intro hd ds ps os tl s7 s8 s9 s10 s11 h hs7 hs8 hs9 hs10 hs11 Eg Fg Fd Fp Fo Ff Ft Af At Ad Ap Ao r hm k
    refine W.iload 68 d_prog_3_method_8_66 rfl rfl ?_
    refine W.iload 70 d_prog_3_method_8_68 rfl rfl ?_
    refine W.icmp_ge 249 73 d_prog_3_method_8_70 rfl rfl ?_ ?_
    · intro hc1485
      rw [own_outer_s, if_neg hc1485] at hm
      cases hm
      exact k h hd s7 s8 s9 s10 s11 hs7 hs8 hs9 hs10 hs11 (Keep.refl _ _) Ad Ap Ao
    · intro hc1485
      rw [own_outer_s, if_pos hc1485] at hm
      refine W.aloadN 74 d_prog_3_method_8_73 rfl rfl rfl ?_
      refine W.getfield 77 d_prog_3_method_8_74 rfl (host := "") (Or.inl (wd_76 hw)) Via.refl Fo ?_
      refine W.iload 79 d_prog_3_method_8_77 rfl rfl ?_
      obtain ⟨zv1486, hz1487, hm⟩ := Option.bind_eq_some_iff.mp hm
      refine W.iaload 80 d_prog_3_method_8_79 rfl Ao (hd).toNatClampNeg rfl (own_get_ok hz1487).1 (.int zv1486) (own_get_ok hz1487).2 ?_
      refine W.istore 82 d_prog_3_method_8_80 rfl #[.val (.ref a), .val (.int s), .val (.int (1 : Int32)), .val .null, .val (.int (0 : Int32)), .val (.int tl), .val (.int hd), .val (.int zv1486), s8, s9, s10, s11] (XS.store1 (o := s7) rfl hs7 rfl) ?_
      refine W.aloadN 83 d_prog_3_method_8_82 rfl rfl rfl ?_
      refine W.getfield 86 d_prog_3_method_8_83 rfl (host := "") (Or.inl (wd_68 hw)) Via.refl Fd ?_
      refine W.iload 88 d_prog_3_method_8_86 rfl rfl ?_
      obtain ⟨zv1488, hz1489, hm⟩ := Option.bind_eq_some_iff.mp hm
      refine W.iaload 89 d_prog_3_method_8_88 rfl Ad (zv1486).toNatClampNeg rfl (own_get_ok hz1489).1 (.int zv1488) (own_get_ok hz1489).2 ?_
      refine W.iconst 90 d_prog_3_method_8_89 rfl (1 : Int32) rfl ?_
      refine W.iadd 91 d_prog_3_method_8_90 rfl (zv1488 + (1 : Int32)) rfl ?_
      refine W.istore 93 d_prog_3_method_8_91 rfl #[.val (.ref a), .val (.int s), .val (.int (1 : Int32)), .val .null, .val (.int (0 : Int32)), .val (.int tl), .val (.int hd), .val (.int zv1486), .val (.int (zv1488 + (1 : Int32))), s9, s10, s11] (XS.store1 (o := s8) rfl hs8 rfl) ?_
      refine W.iloadN 94 d_prog_3_method_8_93 rfl rfl ?_
      refine W.if_eq 109 97 d_prog_3_method_8_94 rfl rfl (fun hc => absurd hc (by decide)) (fun _ => ?_)
      refine W.aloadN 98 d_prog_3_method_8_97 rfl rfl rfl ?_
      refine W.getfield 101 d_prog_3_method_8_98 rfl (host := "") (Or.inl (wd_65 hw)) Via.refl Fg ?_
      refine W.iload 103 d_prog_3_method_8_101 rfl rfl ?_
      obtain ⟨zv1490, hz1491, hm⟩ := Option.bind_eq_some_iff.mp hm
      refine W.callV (rest := []) (argsL := [(.int zv1486)]) (a := g) 106 d_prog_3_method_8_103 rfl (fun hn => g_outEnd l Z a0 hw g bf zv1486 zv1490 xf _ n0 hn Ff Af hz1491) Eg (wd_120 hw) (wd_121 hw) (wd_123 hw) rfl (wd_122 hw) (wd_14 hw) (wd_124 hw) (by decide) pd_6 rfl rfl rfl (by decide) 0 (Nat.le_of_ble_eq_true rfl) (by decide) (by decide) (by decide) ?_
      rintro v1492 h1492 ⟨rfl, rfl⟩
      show WG _ _ _ _ _ _ _ _ _ _ _ _ 0 0 106 #[.val (.ref a), .val (.int s), .val (.int (1 : Int32)), .val .null, .val (.int (0 : Int32)), .val (.int tl), .val (.int hd), .val (.int zv1486), .val (.int (zv1488 + (1 : Int32))), s9, s10, s11] [(.int zv1490)]
      refine W.goto 118 d_prog_3_method_8_106 rfl ?_
      refine W.istore 120 d_prog_3_method_8_118 rfl #[.val (.ref a), .val (.int s), .val (.int (1 : Int32)), .val .null, .val (.int (0 : Int32)), .val (.int tl), .val (.int hd), .val (.int zv1486), .val (.int (zv1488 + (1 : Int32))), .val (.int zv1490), s10, s11] (XS.store1 (o := s9) rfl hs9 rfl) ?_
      refine W.iloadN 121 d_prog_3_method_8_120 rfl rfl ?_
      refine W.if_eq 136 124 d_prog_3_method_8_121 rfl rfl (fun hc => absurd hc (by decide)) (fun _ => ?_)
      refine W.aloadN 125 d_prog_3_method_8_124 rfl rfl rfl ?_
      refine W.getfield 128 d_prog_3_method_8_125 rfl (host := "") (Or.inl (wd_65 hw)) Via.refl Fg ?_
      refine W.iload 130 d_prog_3_method_8_128 rfl rfl ?_
      obtain ⟨zv1493, hz1494, hm⟩ := Option.bind_eq_some_iff.mp hm
      refine W.callV (rest := []) (argsL := [(.int zv1486)]) (a := g) 133 d_prog_3_method_8_130 rfl (fun hn => g_outBegin l Z a0 hw g bf zv1486 zv1493 xf _ n0 hn Ff Af hz1494) Eg (wd_125 hw) (wd_126 hw) (wd_128 hw) rfl (wd_127 hw) (wd_14 hw) (wd_129 hw) (by decide) pd_6 rfl rfl rfl (by decide) 0 (Nat.le_of_ble_eq_true rfl) (by decide) (by decide) (by decide) ?_
      rintro v1495 h1495 ⟨rfl, rfl⟩
      show WG _ _ _ _ _ _ _ _ _ _ _ _ 0 0 133 #[.val (.ref a), .val (.int s), .val (.int (1 : Int32)), .val .null, .val (.int (0 : Int32)), .val (.int tl), .val (.int hd), .val (.int zv1486), .val (.int (zv1488 + (1 : Int32))), .val (.int zv1490), s10, s11] [(.int zv1493)]
      refine W.goto 145 d_prog_3_method_8_133 rfl ?_
      refine W.istore 147 d_prog_3_method_8_145 rfl #[.val (.ref a), .val (.int s), .val (.int (1 : Int32)), .val .null, .val (.int (0 : Int32)), .val (.int tl), .val (.int hd), .val (.int zv1486), .val (.int (zv1488 + (1 : Int32))), .val (.int zv1490), .val (.int zv1493), s11] (XS.store1 (o := s10) rfl hs10 rfl) ?_
      obtain ⟨r1, hr1, hm⟩ := Option.bind_eq_some_iff.mp hm
      refine in_1 l Z a0 hw a g bf bt bd bp bo xf xt n0 gd gp go ne_a_bd ne_a_bp ne_a_bo ne_g_bd ne_g_bp ne_g_bo ne_bf_bd ne_bf_bp ne_bf_bo ne_bt_bd ne_bt_bp ne_bt_bo ne_bd_bp ne_bd_bo ne_bp_bo s hd zv1486 (zv1488 + (1 : Int32)) zv1490 P 4 zv1493 ds ps os tl s11 _ hs11 Eg Fg Fd Fp Fo Ff Ft Af At Ad Ap Ao r1 hr1 (fun h1496 arc1496 t1496 ht1496 K1496 A11496 A21496 A31496 => ?_)
      have kc1497 := Keep.trans (ws := [bd, bp, bo]) (Keep.refl _ [bd, bp, bo]) K1496 (allS (Or.inl (List.mem_of_getElem? (i := 0) rfl)) (allS (Or.inl (List.mem_of_getElem? (i := 1) rfl)) (allS (Or.inl (List.mem_of_getElem? (i := 2) rfl)) all0)))
      refine W.iinc 246 d_prog_3_method_8_243 rfl rfl (hd + (1 : Int32)) rfl #[.val (.ref a), .val (.int s), .val (.int (1 : Int32)), .val .null, .val (.int (0 : Int32)), .val (.int r1.2.2.2), .val (.int (hd + (1 : Int32))), .val (.int zv1486), .val (.int (zv1488 + (1 : Int32))), .val (.int zv1490), .val (.int arc1496), t1496] rfl ?_
      refine W.goto 66 d_prog_3_method_8_246 rfl ?_
      have q1498 := (Eg.keep K1496)
      have q1499 := (Fg.keep K1496 (ninS ne_a_bd (ninS ne_a_bp (ninS ne_a_bo nin0))))
      have q1500 := (Fd.keep K1496 (ninS ne_a_bd (ninS ne_a_bp (ninS ne_a_bo nin0))))
      have q1501 := (Fp.keep K1496 (ninS ne_a_bd (ninS ne_a_bp (ninS ne_a_bo nin0))))
      have q1502 := (Fo.keep K1496 (ninS ne_a_bd (ninS ne_a_bp (ninS ne_a_bo nin0))))
      have q1503 := (Ff.keep K1496 (ninS ne_g_bd (ninS ne_g_bp (ninS ne_g_bo nin0))))
      have q1504 := (Ft.keep K1496 (ninS ne_g_bd (ninS ne_g_bp (ninS ne_g_bo nin0))))
      have q1505 := (Af.keep K1496 (ninS ne_bf_bd (ninS ne_bf_bp (ninS ne_bf_bo nin0))))
      have q1506 := (At.keep K1496 (ninS ne_bt_bd (ninS ne_bt_bp (ninS ne_bt_bo nin0))))
      exact ih (hd + (1 : Int32)) r1.1 r1.2.1 r1.2.2.1 r1.2.2.2 (.val (.int zv1486)) (.val (.int (zv1488 + (1 : Int32)))) (.val (.int zv1490)) (.val (.int arc1496)) t1496 _ (One.val rfl) (One.val rfl) (One.val rfl) (One.val rfl) ht1496 q1498 q1499 q1500 q1501 q1502 q1503 q1504 q1505 q1506 A11496 A21496 A31496 _ hm (fun h' hd' t7 t8 t9 t10 t11 o7 o8 o9 o10 o11 K A1 A2 A3 => k h' hd' t7 t8 t9 t10 t11 o7 o8 o9 o10 o11 (Keep.trans kc1497 K (fun x hx => Or.inl hx)) A1 A2 A3)
theorem c_s3_1 (l : Launch) (Z : State) (a0 : Array Value) (hw : HwT Z a0) (a g bf bt bd bp bo : Addr) (xf xt ds ps os : List Int32) (s cnt : Int32) (r : List Int32 × List Int32 × List Int32 × Int32) (h : Heap) (n0 : Nat) (hn : n0 ≤ h.size) (gd : n0 ≤ bd) (gp : n0 ≤ bp) (go : n0 ≤ bo) (ne_a_bd : a ≠ bd) (ne_a_bp : a ≠ bp) (ne_a_bo : a ≠ bo) (ne_g_bd : g ≠ bd) (ne_g_bp : g ≠ bp) (ne_g_bo : g ≠ bo) (ne_bf_bd : bf ≠ bd) (ne_bf_bp : bf ≠ bp) (ne_bf_bo : bf ≠ bo) (ne_bt_bd : bt ≠ bd) (ne_bt_bp : bt ≠ bp) (ne_bt_bo : bt ≠ bo) (ne_bd_bp : bd ≠ bp) (ne_bd_bo : bd ≠ bo) (ne_bp_bo : bp ≠ bo) (ga : n0 ≤ a) (E : Exa Z h a "com/example/eccentra/eccentra/BreadthFirst") (Eg : Exa Z h g "com/example/eccentra/eccentra/Graph") (Fg : Fld Z h a "com/example/eccentra/eccentra/BreadthFirst" "graph" "Lcom/example/eccentra/eccentra/Graph;" (.ref g)) (Fd : Fld Z h a "com/example/eccentra/eccentra/BreadthFirst" "distance" "[I" (.ref bd)) (Fp : Fld Z h a "com/example/eccentra/eccentra/BreadthFirst" "parent" "[I" (.ref bp)) (Fo : Fld Z h a "com/example/eccentra/eccentra/BreadthFirst" "reachedOrder" "[I" (.ref bo)) (Ff : Fld Z h g "com/example/eccentra/eccentra/Graph" "outOffsets" "[I" (.ref bf)) (Ft : Fld Z h g "com/example/eccentra/eccentra/Graph" "outTargets" "[I" (.ref bt)) (Af : Ary Z h bf .int (xf.map Value.int)) (At : Ary Z h bt .int (xt.map Value.int)) (Fc : Fld Z h a "com/example/eccentra/eccentra/BreadthFirst" "reachedCount" "I" (.int cnt)) (Ad : Ary Z h bd .int (ds.map Value.int)) (Ap : Ary Z h bp .int (ps.map Value.int)) (Ao : Ary Z h bo .int (os.map Value.int)) (hsr : own_search xf xt s ds ps os cnt = some r) : Con l Z (⟨"com/example/eccentra/eccentra/BreadthFirst", "search", "(IZLcom/example/eccentra/eccentra/Components;)I"⟩ : MethodName) prog_3_method_8_code 12 (some .int) ({ frames := 1, cells := 0, slots := 0, locals := 30 } : Room) #[(.ref a), (.int s), (.int (1 : Int32)), .null] h n0 (fun rv h' => (∃ z : Int32, rv = some (.int z)) ∧ Keep h h' [a, bd, bp, bo] ∧ Exa Z h' a "com/example/eccentra/eccentra/BreadthFirst" ∧ Fld Z h' a "com/example/eccentra/eccentra/BreadthFirst" "reachedCount" "I" (.int r.2.2.2) ∧ Fld Z h' a "com/example/eccentra/eccentra/BreadthFirst" "graph" "Lcom/example/eccentra/eccentra/Graph;" (.ref g) ∧ Fld Z h' a "com/example/eccentra/eccentra/BreadthFirst" "distance" "[I" (.ref bd) ∧ Fld Z h' a "com/example/eccentra/eccentra/BreadthFirst" "parent" "[I" (.ref bp) ∧ Fld Z h' a "com/example/eccentra/eccentra/BreadthFirst" "reachedOrder" "[I" (.ref bo) ∧ Ary Z h' bd .int (r.1.map Value.int) ∧ Ary Z h' bp .int (r.2.1.map Value.int) ∧ Ary Z h' bo .int (r.2.2.1.map Value.int)) := by
  refine ConG.of_W (Ls := #[.val (.ref a), .val (.int s), .val (.int (1 : Int32)), .val .null, .unset, .unset, .unset, .unset, .unset, .unset, .unset, .unset]) (plainFor_of_name pn_2) hn (fun m => by first | (simp [entryFrame, mkF, argsToLocals, Value.category]; done) | rfl) ?_
  have hm := hsr
  obtain ⟨dr, hdr, hm⟩ := Option.bind_eq_some_iff.mp hm
  refine W.iconst 1 d_prog_3_method_8_0 rfl (0 : Int32) rfl ?_
  refine W.istore 3 d_prog_3_method_8_1 rfl #[.val (.ref a), .val (.int s), .val (.int (1 : Int32)), .val .null, .val (.int (0 : Int32)), .unset, .unset, .unset, .unset, .unset, .unset, .unset] rfl ?_
  refine rs_1 l Z a0 hw a g bf bt bd bp bo xf xt n0 gd gp go ne_a_bd ne_a_bp ne_a_bo ne_g_bd ne_g_bp ne_g_bo ne_bf_bd ne_bf_bp ne_bf_bo ne_bt_bd ne_bt_bp ne_bt_bo ne_bd_bp ne_bd_bo ne_bp_bo s cnt os _ 5 (0 : Int32) ds _ Eg Fg Fd Fp Fo Ff Ft Af At Fc Ad Ao dr hdr (fun h1507 i1507 K1507 A1507 => ?_)
  have kc1508 := Keep.trans (ws := [a, bd, bp, bo]) (Keep.refl _ [a, bd, bp, bo]) K1507 (allS (Or.inl (List.mem_of_getElem? (i := 1) rfl)) all0)
  refine W.aloadN 32 d_prog_3_method_8_31 rfl rfl rfl ?_
  refine W.ifnonnull_null 35 d_prog_3_method_8_32 rfl ?_
  refine W.iconst 36 d_prog_3_method_8_35 rfl (0 : Int32) rfl ?_
  refine W.goto 44 d_prog_3_method_8_36 rfl ?_
  refine W.istore 46 d_prog_3_method_8_44 rfl #[.val (.ref a), .val (.int s), .val (.int (1 : Int32)), .val .null, .val (.int (0 : Int32)), .unset, .unset, .unset, .unset, .unset, .unset, .unset] rfl ?_
  refine W.aloadN 47 d_prog_3_method_8_46 rfl rfl rfl ?_
  have q1509 := (Fd.keep K1507 (ninS ne_a_bd nin0))
  refine W.getfield 50 d_prog_3_method_8_47 rfl (host := "") (Or.inl (wd_68 hw)) Via.refl q1509 ?_
  refine W.iloadN 51 d_prog_3_method_8_50 rfl rfl ?_
  refine W.iconst 52 d_prog_3_method_8_51 rfl (0 : Int32) rfl ?_
  obtain ⟨zs1511, hz1512, hm⟩ := Option.bind_eq_some_iff.mp hm
  refine W.iastore 53 d_prog_3_method_8_52 rfl A1507 (s).toNatClampNeg rfl (own_set_ok hz1512).1 (own_set_ok hz1512).2.1 gd ?_
  intro h1510 W1510 K1510 A1510
  have kc1513 := Keep.trans (ws := [a, bd, bp, bo]) kc1508 K1510 (allS (Or.inl (List.mem_of_getElem? (i := 1) rfl)) all0)
  rw [(own_set_ok hz1512).2.2] at A1510
  refine W.aloadN 54 d_prog_3_method_8_53 rfl rfl rfl ?_
  have q1514 := ((Fo.keep K1507 (ninS ne_a_bd nin0)).keep K1510 (ninS ne_a_bd nin0))
  refine W.getfield 57 d_prog_3_method_8_54 rfl (host := "") (Or.inl (wd_76 hw)) Via.refl q1514 ?_
  refine W.iconst 58 d_prog_3_method_8_57 rfl (0 : Int32) rfl ?_
  refine W.iloadN 59 d_prog_3_method_8_58 rfl rfl ?_
  have q1515 := ((Ao.keep K1507 (ninS (Ne.symm ne_bd_bo) nin0)).keep K1510 (ninS (Ne.symm ne_bd_bo) nin0))
  obtain ⟨zs1517, hz1518, hm⟩ := Option.bind_eq_some_iff.mp hm
  refine W.iastore 60 d_prog_3_method_8_59 rfl q1515 ((0 : Int32)).toNatClampNeg rfl (own_set_ok hz1518).1 (own_set_ok hz1518).2.1 go ?_
  intro h1516 W1516 K1516 A1516
  have kc1519 := Keep.trans (ws := [a, bd, bp, bo]) kc1513 K1516 (allS (Or.inl (List.mem_of_getElem? (i := 3) rfl)) all0)
  rw [(own_set_ok hz1518).2.2] at A1516
  refine W.iconst 61 d_prog_3_method_8_60 rfl (1 : Int32) rfl ?_
  refine W.istore 63 d_prog_3_method_8_61 rfl #[.val (.ref a), .val (.int s), .val (.int (1 : Int32)), .val .null, .val (.int (0 : Int32)), .val (.int (1 : Int32)), .unset, .unset, .unset, .unset, .unset, .unset] rfl ?_
  refine W.iconst 64 d_prog_3_method_8_63 rfl (0 : Int32) rfl ?_
  refine W.istore 66 d_prog_3_method_8_64 rfl #[.val (.ref a), .val (.int s), .val (.int (1 : Int32)), .val .null, .val (.int (0 : Int32)), .val (.int (1 : Int32)), .val (.int (0 : Int32)), .unset, .unset, .unset, .unset, .unset] rfl ?_
  obtain ⟨rr, hrr, hm⟩ := Option.bind_eq_some_iff.mp hm
  have q1521 := (((Eg.keep K1507).keep K1510).keep K1516)
  have q1522 := (((Fg.keep K1507 (ninS ne_a_bd nin0)).keep K1510 (ninS ne_a_bd nin0)).keep K1516 (ninS ne_a_bo nin0))
  have q1523 := ((q1509.keep K1510 (ninS ne_a_bd nin0)).keep K1516 (ninS ne_a_bo nin0))
  have q1524 := (((Fp.keep K1507 (ninS ne_a_bd nin0)).keep K1510 (ninS ne_a_bd nin0)).keep K1516 (ninS ne_a_bo nin0))
  have q1525 := (q1514.keep K1516 (ninS ne_a_bo nin0))
  have q1526 := (((Ff.keep K1507 (ninS ne_g_bd nin0)).keep K1510 (ninS ne_g_bd nin0)).keep K1516 (ninS ne_g_bo nin0))
  have q1527 := (((Ft.keep K1507 (ninS ne_g_bd nin0)).keep K1510 (ninS ne_g_bd nin0)).keep K1516 (ninS ne_g_bo nin0))
  have q1528 := (((Af.keep K1507 (ninS ne_bf_bd nin0)).keep K1510 (ninS ne_bf_bd nin0)).keep K1516 (ninS ne_bf_bo nin0))
  have q1529 := (((At.keep K1507 (ninS ne_bt_bd nin0)).keep K1510 (ninS ne_bt_bd nin0)).keep K1516 (ninS ne_bt_bo nin0))
  have q1530 := (A1510.keep K1516 (ninS ne_bd_bo nin0))
  have q1531 := (((Ap.keep K1507 (ninS (Ne.symm ne_bd_bp) nin0)).keep K1510 (ninS (Ne.symm ne_bd_bp) nin0)).keep K1516 (ninS ne_bp_bo nin0))
  refine ou_1 l Z a0 hw a g bf bt bd bp bo xf xt n0 gd gp go ne_a_bd ne_a_bp ne_a_bo ne_g_bd ne_g_bp ne_g_bo ne_bf_bd ne_bf_bp ne_bf_bo ne_bt_bd ne_bt_bp ne_bt_bo ne_bd_bp ne_bd_bo ne_bp_bo s _ 5 (0 : Int32) zs1511 ps zs1517 (1 : Int32) .unset .unset .unset .unset .unset _ One.u One.u One.u One.u One.u q1521 q1522 q1523 q1524 q1525 q1526 q1527 q1528 q1529 q1530 q1531 A1516 rr hrr (fun h1520 hd1520 t7 t8 t9 t10 t11 o7 o8 o9 o10 o11 K1520 A11520 A21520 A31520 => ?_)
  have kc1532 := Keep.trans (ws := [a, bd, bp, bo]) kc1519 K1520 (allS (Or.inl (List.mem_of_getElem? (i := 1) rfl)) (allS (Or.inl (List.mem_of_getElem? (i := 2) rfl)) (allS (Or.inl (List.mem_of_getElem? (i := 3) rfl)) all0)))
  refine W.aloadN 250 d_prog_3_method_8_249 rfl rfl rfl ?_
  refine W.iload 252 d_prog_3_method_8_250 rfl rfl ?_
  have q1533 := ((((Fc.keep K1507 (ninS ne_a_bd nin0)).keep K1510 (ninS ne_a_bd nin0)).keep K1516 (ninS ne_a_bo nin0)).keep K1520 (ninS ne_a_bd (ninS ne_a_bp (ninS ne_a_bo nin0))))
  have q1534 := ((((E.keep K1507).keep K1510).keep K1516).keep K1520)
  refine W.putfield 255 d_prog_3_method_8_252 rfl (host := "") (Or.inl (wd_87 hw)) Via.refl q1533 q1534 (Or.inl (wd_88 hw)) (wd_59 hw) (ty := .int) (by decide) rfl rfl ga ?_
  intro h1535 W1535 F1535 E1535 K1535
  have kc1536 := Keep.trans (ws := [a, bd, bp, bo]) kc1532 K1535 (allS (Or.inl (List.mem_of_getElem? (i := 0) rfl)) all0)
  refine W.aloadN 256 d_prog_3_method_8_255 rfl rfl rfl ?_
  have q1537 := ((q1523.keep K1520 (ninS ne_a_bd (ninS ne_a_bp (ninS ne_a_bo nin0)))).other W1535 (Or.inr (sne_52 hw)))
  refine W.getfield 259 d_prog_3_method_8_256 rfl (host := "") (Or.inl (wd_68 hw)) Via.refl q1537 ?_
  refine W.aloadN 260 d_prog_3_method_8_259 rfl rfl rfl ?_
  have q1538 := ((q1525.keep K1520 (ninS ne_a_bd (ninS ne_a_bp (ninS ne_a_bo nin0)))).other W1535 (Or.inr (sne_53 hw)))
  refine W.getfield 263 d_prog_3_method_8_260 rfl (host := "") (Or.inl (wd_76 hw)) Via.refl q1538 ?_
  refine W.iload 265 d_prog_3_method_8_263 rfl rfl ?_
  refine W.iconst 266 d_prog_3_method_8_265 rfl (1 : Int32) rfl ?_
  refine W.isub 267 d_prog_3_method_8_266 rfl (rr.2.2.2 - (1 : Int32)) rfl ?_
  have q1539 := (A31520.keep K1535 (ninS (Ne.symm ne_a_bo) nin0))
  obtain ⟨zv1540, hz1541, hm⟩ := Option.bind_eq_some_iff.mp hm
  refine W.iaload 268 d_prog_3_method_8_267 rfl q1539 ((rr.2.2.2 - (1 : Int32))).toNatClampNeg rfl (own_get_ok hz1541).1 (.int zv1540) (own_get_ok hz1541).2 ?_
  have q1542 := (A11520.keep K1535 (ninS (Ne.symm ne_a_bd) nin0))
  obtain ⟨zv1543, hz1544, hm⟩ := Option.bind_eq_some_iff.mp hm
  refine W.iaload 269 d_prog_3_method_8_268 rfl q1542 (zv1540).toNatClampNeg rfl (own_get_ok hz1544).1 (.int zv1543) (own_get_ok hz1544).2 ?_
  cases hm
  have q1545 := ((q1522.keep K1520 (ninS ne_a_bd (ninS ne_a_bp (ninS ne_a_bo nin0)))).other W1535 (Or.inr (sne_54 hw)))
  have q1546 := ((q1524.keep K1520 (ninS ne_a_bd (ninS ne_a_bp (ninS ne_a_bo nin0)))).other W1535 (Or.inr (sne_55 hw)))
  have q1547 := (A21520.keep K1535 (ninS (Ne.symm ne_a_bp) nin0))
  exact W.ireturn d_prog_3_method_8_269 rfl ⟨⟨_, rfl⟩, kc1536, E1535, F1535, q1545, q1537, q1546, q1538, q1542, q1547, q1539⟩ (by decide) (by decide)
theorem c_s2_1 (l : Launch) (Z : State) (a0 : Array Value) (hw : HwT Z a0) (a g bf bt bd bp bo : Addr) (xf xt ds ps os : List Int32) (s cnt : Int32) (r : List Int32 × List Int32 × List Int32 × Int32) (h : Heap) (n0 : Nat) (hn : n0 ≤ h.size) (gd : n0 ≤ bd) (gp : n0 ≤ bp) (go : n0 ≤ bo) (ne_a_bd : a ≠ bd) (ne_a_bp : a ≠ bp) (ne_a_bo : a ≠ bo) (ne_g_bd : g ≠ bd) (ne_g_bp : g ≠ bp) (ne_g_bo : g ≠ bo) (ne_bf_bd : bf ≠ bd) (ne_bf_bp : bf ≠ bp) (ne_bf_bo : bf ≠ bo) (ne_bt_bd : bt ≠ bd) (ne_bt_bp : bt ≠ bp) (ne_bt_bo : bt ≠ bo) (ne_bd_bp : bd ≠ bp) (ne_bd_bo : bd ≠ bo) (ne_bp_bo : bp ≠ bo) (ga : n0 ≤ a) (E : Exa Z h a "com/example/eccentra/eccentra/BreadthFirst") (Eg : Exa Z h g "com/example/eccentra/eccentra/Graph") (Fg : Fld Z h a "com/example/eccentra/eccentra/BreadthFirst" "graph" "Lcom/example/eccentra/eccentra/Graph;" (.ref g)) (Fd : Fld Z h a "com/example/eccentra/eccentra/BreadthFirst" "distance" "[I" (.ref bd)) (Fp : Fld Z h a "com/example/eccentra/eccentra/BreadthFirst" "parent" "[I" (.ref bp)) (Fo : Fld Z h a "com/example/eccentra/eccentra/BreadthFirst" "reachedOrder" "[I" (.ref bo)) (Ff : Fld Z h g "com/example/eccentra/eccentra/Graph" "outOffsets" "[I" (.ref bf)) (Ft : Fld Z h g "com/example/eccentra/eccentra/Graph" "outTargets" "[I" (.ref bt)) (Af : Ary Z h bf .int (xf.map Value.int)) (At : Ary Z h bt .int (xt.map Value.int)) (Fc : Fld Z h a "com/example/eccentra/eccentra/BreadthFirst" "reachedCount" "I" (.int cnt)) (Ad : Ary Z h bd .int (ds.map Value.int)) (Ap : Ary Z h bp .int (ps.map Value.int)) (Ao : Ary Z h bo .int (os.map Value.int)) (hsr : own_search xf xt s ds ps os cnt = some r) : Con l Z (⟨"com/example/eccentra/eccentra/BreadthFirst", "search", "(IZ)I"⟩ : MethodName) prog_3_method_2_code 3 (some .int) ({ frames := 2, cells := 0, slots := 0, locals := 60 } : Room) #[(.ref a), (.int s), (.int (1 : Int32))] h n0 (fun rv h' => (∃ z : Int32, rv = some (.int z)) ∧ Keep h h' [a, bd, bp, bo] ∧ Exa Z h' a "com/example/eccentra/eccentra/BreadthFirst" ∧ Fld Z h' a "com/example/eccentra/eccentra/BreadthFirst" "reachedCount" "I" (.int r.2.2.2) ∧ Fld Z h' a "com/example/eccentra/eccentra/BreadthFirst" "graph" "Lcom/example/eccentra/eccentra/Graph;" (.ref g) ∧ Fld Z h' a "com/example/eccentra/eccentra/BreadthFirst" "distance" "[I" (.ref bd) ∧ Fld Z h' a "com/example/eccentra/eccentra/BreadthFirst" "parent" "[I" (.ref bp) ∧ Fld Z h' a "com/example/eccentra/eccentra/BreadthFirst" "reachedOrder" "[I" (.ref bo) ∧ Ary Z h' bd .int (r.1.map Value.int) ∧ Ary Z h' bp .int (r.2.1.map Value.int) ∧ Ary Z h' bo .int (r.2.2.1.map Value.int)) := by
  refine ConG.of_W (Ls := #[.val (.ref a), .val (.int s), .val (.int (1 : Int32))]) (plainFor_of_name pn_2) hn (fun m => by first | (simp [entryFrame, mkF, argsToLocals, Value.category]; done) | rfl) ?_
  refine W.aloadN 1 d_prog_3_method_2_0 rfl rfl rfl ?_
  refine W.iloadN 2 d_prog_3_method_2_1 rfl rfl ?_
  refine W.iloadN 3 d_prog_3_method_2_2 rfl rfl ?_
  refine W.aconst_null 4 d_prog_3_method_2_3 rfl ?_
  refine W.callP (rest := []) (argsL := [(.int s), (.int (1 : Int32)), .null]) (a := a) 7 d_prog_3_method_2_4 rfl (fun hn => c_s3_1 l Z a0 hw a g bf bt bd bp bo xf xt ds ps os s cnt r _ n0 hn gd gp go ne_a_bd ne_a_bp ne_a_bo ne_g_bd ne_g_bp ne_g_bo ne_bf_bd ne_bf_bp ne_bf_bo ne_bt_bd ne_bt_bp ne_bt_bo ne_bd_bp ne_bd_bo ne_bp_bo ga E Eg Fg Fd Fp Fo Ff Ft Af At Fc Ad Ap Ao hsr) E (wd_83 hw) (wd_85 hw) (wd_59 hw) (wd_84 hw) (wd_60 hw) (wd_86 hw) (by decide) pd_7 rfl rfl rfl (by decide) 0 (Nat.le_of_ble_eq_true rfl) (by decide) (by decide) (by decide) ?_
  rintro v1548 h1548 ⟨⟨z1548, rfl⟩, Q1548⟩
  show WG _ _ _ _ _ _ _ _ _ _ _ _ 0 0 7 #[.val (.ref a), .val (.int s), .val (.int (1 : Int32))] [(.int z1548)]
  exact W.ireturn d_prog_3_method_2_7 rfl ⟨⟨_, rfl⟩, Q1548⟩ (by decide) (by decide)
theorem kl_0 (l : Launch) (Z : State) (a0 : Array Value) (hw : HwT Z a0) (a b bk bd bo : Addr) (os ds : List Int32) (cnt : Int32) (n0 : Nat) (gk : n0 ≤ bk) (ne_a_bk : a ≠ bk) (ne_b_bk : b ≠ bk) (ne_bd_bk : bd ≠ bk) (ne_bo_bk : bo ≠ bk) (ne_a_b : a ≠ b) (ne_a_bd : a ≠ bd) (ne_a_bo : a ≠ bo) (P : Option Value → Heap → Prop) : ∀ (fuel : Nat) (i : Int32) (ks : List Int32) (s5 : Slot) (h : Heap), One s5 → Exa Z h b "com/example/eccentra/eccentra/BreadthFirst" → Fld Z h b "com/example/eccentra/eccentra/BreadthFirst" "reachedCount" "I" (.int cnt) → Fld Z h b "com/example/eccentra/eccentra/BreadthFirst" "reachedOrder" "[I" (.ref bo) → Fld Z h b "com/example/eccentra/eccentra/BreadthFirst" "distance" "[I" (.ref bd) → Ary Z h bo .int (os.map Value.int) → Ary Z h bd .int (ds.map Value.int) → Ary Z h bk .int (ks.map Value.int) → ∀ ks', own_kloop fuel i cnt os ds ks = some ks' → (∀ (h' : Heap) (i' : Int32) (s5' : Slot), One s5' → Keep h h' [bk] → Ary Z h' bk .int (ks'.map Value.int) → W l ({ frames := 1, cells := 0, slots := 0, locals := 40 } : Room) Z "com/example/eccentra/eccentra/MainVertex" "keep" prog_19_method_4_code 6 none n0 P h' 0 0 57 #[.val (.ref a), .val (.ref b), .val (.int (0 : Int32)), .val (.ref bk), .val (.int i'), s5'] []) → W l ({ frames := 1, cells := 0, slots := 0, locals := 40 } : Room) Z "com/example/eccentra/eccentra/MainVertex" "keep" prog_19_method_4_code 6 none n0 P h 0 0 24 #[.val (.ref a), .val (.ref b), .val (.int (0 : Int32)), .val (.ref bk), .val (.int i), s5] [] := by
  intro fuel
  induction fuel with
  | zero => intro i ks s5 h hs5 Eb Fc Fo Fd Ao Ad Ak ks' hm k; cases (show (none : Option _) = some _ from hm)
  | succ fuel ih =>
    intro i ks s5 h hs5 Eb Fc Fo Fd Ao Ad Ak ks' hm k
    refine W.iload 26 d_prog_19_method_4_24 rfl rfl ?_
    refine W.aloadN 27 d_prog_19_method_4_26 rfl rfl rfl ?_
    refine W.callV (rest := [(.int i)]) (argsL := []) (a := b) 30 d_prog_19_method_4_27 rfl (fun hn => g_rc l Z a0 hw b cnt _ n0 hn Fc) Eb (wd_105 hw) (wd_106 hw) (wd_108 hw) rfl (wd_107 hw) (wd_60 hw) (wd_109 hw) (by decide) pd_3 rfl rfl rfl (by decide) 1 (Nat.le_of_ble_eq_true rfl) (by decide) (by decide) (by decide) ?_
    rintro v1549 h1549 ⟨rfl, rfl⟩
    show WG _ _ _ _ _ _ _ _ _ _ _ _ 0 0 30 #[.val (.ref a), .val (.ref b), .val (.int (0 : Int32)), .val (.ref bk), .val (.int i), s5] [(.int cnt), (.int i)]
    refine W.icmp_ge 57 33 d_prog_19_method_4_30 rfl rfl ?_ ?_
    · intro hc1550
      rw [own_kloop_s, if_neg hc1550] at hm
      cases hm
      exact k _ i s5 hs5 (Keep.refl _ _) Ak
    · intro hc1550
      rw [own_kloop_s, if_pos hc1550] at hm
      refine W.aloadN 34 d_prog_19_method_4_33 rfl rfl rfl ?_
      refine W.iload 36 d_prog_19_method_4_34 rfl rfl ?_
      obtain ⟨zv1551, hz1552, hm⟩ := Option.bind_eq_some_iff.mp hm
      refine W.callV (rest := []) (argsL := [(.int i)]) (a := b) 39 d_prog_19_method_4_36 rfl (fun hn => g_reached l Z a0 hw b bo i zv1551 os _ n0 hn Fo Ao hz1552) Eb (wd_110 hw) (wd_111 hw) (wd_113 hw) rfl (wd_112 hw) (wd_60 hw) (wd_114 hw) (by decide) pd_6 rfl rfl rfl (by decide) 0 (Nat.le_of_ble_eq_true rfl) (by decide) (by decide) (by decide) ?_
      rintro v1553 h1553 ⟨rfl, rfl⟩
      show WG _ _ _ _ _ _ _ _ _ _ _ _ 0 0 39 #[.val (.ref a), .val (.ref b), .val (.int (0 : Int32)), .val (.ref bk), .val (.int i), s5] [(.int zv1551)]
      refine W.istore 41 d_prog_19_method_4_39 rfl #[.val (.ref a), .val (.ref b), .val (.int (0 : Int32)), .val (.ref bk), .val (.int i), .val (.int zv1551)] (XS.store1 (o := s5) rfl hs5 rfl) ?_
      refine W.aloadN 42 d_prog_19_method_4_41 rfl rfl rfl ?_
      refine W.iload 44 d_prog_19_method_4_42 rfl rfl ?_
      refine W.aloadN 45 d_prog_19_method_4_44 rfl rfl rfl ?_
      refine W.iload 47 d_prog_19_method_4_45 rfl rfl ?_
      obtain ⟨zv1554, hz1555, hm⟩ := Option.bind_eq_some_iff.mp hm
      refine W.callV (rest := [(.int zv1551), (.ref bk)]) (argsL := [(.int zv1551)]) (a := b) 50 d_prog_19_method_4_47 rfl (fun hn => g_distance l Z a0 hw b bd zv1551 zv1554 ds _ n0 hn Fd Ad hz1555) Eb (wd_115 hw) (wd_116 hw) (wd_118 hw) rfl (wd_117 hw) (wd_60 hw) (wd_119 hw) (by decide) pd_6 rfl rfl rfl (by decide) 2 (Nat.le_of_ble_eq_true rfl) (by decide) (by decide) (by decide) ?_
      rintro v1556 h1556 ⟨rfl, rfl⟩
      show WG _ _ _ _ _ _ _ _ _ _ _ _ 0 0 50 #[.val (.ref a), .val (.ref b), .val (.int (0 : Int32)), .val (.ref bk), .val (.int i), .val (.int zv1551)] [(.int zv1554), (.int zv1551), (.ref bk)]
      obtain ⟨zs1558, hz1559, hm⟩ := Option.bind_eq_some_iff.mp hm
      refine W.iastore 51 d_prog_19_method_4_50 rfl Ak (zv1551).toNatClampNeg rfl (own_set_ok hz1559).1 (own_set_ok hz1559).2.1 gk ?_
      intro h1557 W1557 K1557 A1557
      have kc1560 := Keep.trans (ws := [bk]) (Keep.refl _ [bk]) K1557 (allS (Or.inl (List.mem_of_getElem? (i := 0) rfl)) all0)
      rw [(own_set_ok hz1559).2.2] at A1557
      refine W.iinc 54 d_prog_19_method_4_51 rfl rfl (i + (1 : Int32)) rfl #[.val (.ref a), .val (.ref b), .val (.int (0 : Int32)), .val (.ref bk), .val (.int (i + (1 : Int32))), .val (.int zv1551)] rfl ?_
      refine W.goto 24 d_prog_19_method_4_54 rfl ?_
      have q1561 := (Eb.keep K1557)
      have q1562 := (Fc.keep K1557 (ninS ne_b_bk nin0))
      have q1563 := (Fo.keep K1557 (ninS ne_b_bk nin0))
      have q1564 := (Fd.keep K1557 (ninS ne_b_bk nin0))
      have q1565 := (Ao.keep K1557 (ninS ne_bo_bk nin0))
      have q1566 := (Ad.keep K1557 (ninS ne_bd_bk nin0))
      exact ih (i + (1 : Int32)) zs1558 (.val (.int zv1551)) _ (One.val rfl) q1561 q1562 q1563 q1564 q1565 q1566 A1557 _ hm (fun h' i' s5' o K A => k h' i' s5' o (Keep.trans kc1560 K (fun x hx => Or.inl hx)) A)
theorem c_kp_0 (l : Launch) (Z : State) (a0 : Array Value) (hw : HwT Z a0) (a b bk bd bo : Addr) (bq : Addr) (os ds ks : List Int32) (cnt vx x0 x1 x2 : Int32) (h : Heap) (n0 : Nat) (hn : n0 ≤ h.size) (gk : n0 ≤ bk) (ne_a_bk : a ≠ bk) (ne_b_bk : b ≠ bk) (ne_bd_bk : bd ≠ bk) (ne_bo_bk : bo ≠ bk) (ne_a_b : a ≠ b) (ne_a_bd : a ≠ bd) (ne_a_bo : a ≠ bo) (ga : n0 ≤ a) (E : Exa Z h a "com/example/eccentra/eccentra/MainVertex") (F0 : Fld Z h a "com/example/eccentra/eccentra/MainVertex" "vertex" "I" (.int vx)) (F1 : Fld Z h a "com/example/eccentra/eccentra/MainVertex" "to" "[I" (.ref bk)) (F2 : Fld Z h a "com/example/eccentra/eccentra/MainVertex" "from" "[I" (.ref bq)) (Eb : Exa Z h b "com/example/eccentra/eccentra/BreadthFirst") (Fc : Fld Z h b "com/example/eccentra/eccentra/BreadthFirst" "reachedCount" "I" (.int cnt)) (Fo : Fld Z h b "com/example/eccentra/eccentra/BreadthFirst" "reachedOrder" "[I" (.ref bo)) (Fd : Fld Z h b "com/example/eccentra/eccentra/BreadthFirst" "distance" "[I" (.ref bd)) (Ao : Ary Z h bo .int (os.map Value.int)) (Ad : Ary Z h bd .int (ds.map Value.int)) (Ak : Ary Z h bk .int [.int x0, .int x1, .int x2]) (hkp : own_keep ds os cnt = some ks) : Con l Z (⟨"com/example/eccentra/eccentra/MainVertex", "keep", "(Lcom/example/eccentra/eccentra/BreadthFirst;Z)V"⟩ : MethodName) prog_19_method_4_code 6 none ({ frames := 1, cells := 0, slots := 0, locals := 40 } : Room) #[(.ref a), (.ref b), (.int (0 : Int32))] h n0 (fun rv h' => rv = none ∧ Keep h h' [a, bk] ∧ Exa Z h' a "com/example/eccentra/eccentra/MainVertex" ∧ (∃ z : Int32, Fld Z h' a "com/example/eccentra/eccentra/MainVertex" "vertex" "I" (.int z)) ∧ Fld Z h' a "com/example/eccentra/eccentra/MainVertex" "to" "[I" (.ref bk) ∧ Fld Z h' a "com/example/eccentra/eccentra/MainVertex" "from" "[I" (.ref bq) ∧ Ary Z h' bk .int (ks.map Value.int)) := by
  refine ConG.of_W (Ls := #[.val (.ref a), .val (.ref b), .val (.int (0 : Int32)), .unset, .unset, .unset]) (plainFor_of_name pn_4) hn (fun m => by first | (simp [entryFrame, mkF, argsToLocals, Value.category]; done) | rfl) ?_
  have hm := hkp
  obtain ⟨kk, hkk, hm⟩ := Option.bind_eq_some_iff.mp hm
  refine W.iloadN 1 d_prog_19_method_4_0 rfl rfl ?_
  refine W.if_eq 11 4 d_prog_19_method_4_1 rfl rfl (fun _ => ?_) (fun hc => absurd (by decide) hc)
  refine W.aloadN 12 d_prog_19_method_4_11 rfl rfl rfl ?_
  refine W.getfield 15 d_prog_19_method_4_12 rfl (host := "") (Or.inl (wd_56 hw)) Via.refl F1 ?_
  refine W.astoreN 16 d_prog_19_method_4_15 rfl rfl #[.val (.ref a), .val (.ref b), .val (.int (0 : Int32)), .val (.ref bk), .unset, .unset] rfl ?_
  refine W.aloadN 17 d_prog_19_method_4_16 rfl rfl rfl ?_
  refine W.iconst 18 d_prog_19_method_4_17 rfl (-1 : Int32) rfl ?_
  refine W.callS (rest := []) (argsL := [(.ref bk), (.int (-1 : Int32))]) 21 d_prog_19_method_4_18 rfl (fun hn => c_f3 l Z a0 hw bk x0 x1 x2 _ n0 hn gk Ak) (wd_104 hw) (wd_71 hw) (wd_72 hw) (wd_73 hw) (by decide) pd_5 rfl rfl rfl (by decide) 0 (Nat.le_of_ble_eq_true rfl) (by decide) (by decide) (by decide) ?_
  rintro v1567 h1567 ⟨rfl, K1567, A1567⟩
  have kc1568 := Keep.trans (ws := [a, bk]) (Keep.refl _ [a, bk]) K1567 (allS (Or.inl (List.mem_of_getElem? (i := 1) rfl)) all0)
  show WG _ _ _ _ _ _ _ _ _ _ _ _ 0 0 21 #[.val (.ref a), .val (.ref b), .val (.int (0 : Int32)), .val (.ref bk), .unset, .unset] []
  refine W.iconst 22 d_prog_19_method_4_21 rfl (0 : Int32) rfl ?_
  refine W.istore 24 d_prog_19_method_4_22 rfl #[.val (.ref a), .val (.ref b), .val (.int (0 : Int32)), .val (.ref bk), .val (.int (0 : Int32)), .unset] rfl ?_
  have q1570 := (Eb.keep K1567)
  have q1571 := (Fc.keep K1567 (ninS ne_b_bk nin0))
  have q1572 := (Fo.keep K1567 (ninS ne_b_bk nin0))
  have q1573 := (Fd.keep K1567 (ninS ne_b_bk nin0))
  have q1574 := (Ao.keep K1567 (ninS ne_bo_bk nin0))
  have q1575 := (Ad.keep K1567 (ninS ne_bd_bk nin0))
  refine kl_0 l Z a0 hw a b bk bd bo os ds cnt n0 gk ne_a_bk ne_b_bk ne_bd_bk ne_bo_bk ne_a_b ne_a_bd ne_a_bo _ 5 (0 : Int32) [-1, -1, -1] .unset _ One.u q1570 q1571 q1572 q1573 q1574 q1575 A1567 kk hkk (fun h1569 i1569 t5 o5 K1569 A1569 => ?_)
  have kc1576 := Keep.trans (ws := [a, bk]) kc1568 K1569 (allS (Or.inl (List.mem_of_getElem? (i := 1) rfl)) all0)
  refine W.aloadN 58 d_prog_19_method_4_57 rfl rfl rfl ?_
  refine W.aloadN 59 d_prog_19_method_4_58 rfl rfl rfl ?_
  refine W.iconst 60 d_prog_19_method_4_59 rfl (0 : Int32) rfl ?_
  obtain ⟨zv1577, hz1578, hm⟩ := Option.bind_eq_some_iff.mp hm
  have q1579 := (q1572.keep K1569 (ninS ne_b_bk nin0))
  have q1580 := (q1574.keep K1569 (ninS ne_bo_bk nin0))
  have q1582 := (q1570.keep K1569)
  refine W.callV (rest := [(.ref a)]) (argsL := [(.int (0 : Int32))]) (a := b) 63 d_prog_19_method_4_60 rfl (fun hn => g_reached l Z a0 hw b bo (0 : Int32) zv1577 os _ n0 hn q1579 q1580 hz1578) q1582 (wd_110 hw) (wd_111 hw) (wd_113 hw) rfl (wd_112 hw) (wd_60 hw) (wd_114 hw) (by decide) pd_6 rfl rfl rfl (by decide) 1 (Nat.le_of_ble_eq_true rfl) (by decide) (by decide) (by decide) ?_
  rintro v1581 h1581 ⟨rfl, rfl⟩
  show WG _ _ _ _ _ _ _ _ _ _ _ _ 0 0 63 #[.val (.ref a), .val (.ref b), .val (.int (0 : Int32)), .val (.ref bk), .val (.int i1569), t5] [(.int zv1577), (.ref a)]
  have q1583 := ((F0.keep K1567 (ninS ne_a_bk nin0)).keep K1569 (ninS ne_a_bk nin0))
  have q1584 := ((E.keep K1567).keep K1569)
  refine W.putfield 66 d_prog_19_method_4_63 rfl (host := "") (Or.inl (wd_42 hw)) Via.refl q1583 q1584 (Or.inl (wd_43 hw)) (wd_36 hw) (ty := .int) (by decide) rfl rfl ga ?_
  intro h1585 W1585 F1585 E1585 K1585
  have kc1586 := Keep.trans (ws := [a, bk]) kc1576 K1585 (allS (Or.inl (List.mem_of_getElem? (i := 0) rfl)) all0)
  cases hm
  have q1587 := (((F1.keep K1567 (ninS ne_a_bk nin0)).keep K1569 (ninS ne_a_bk nin0)).other W1585 (Or.inr (sne_31 hw)))
  have q1588 := (((F2.keep K1567 (ninS ne_a_bk nin0)).keep K1569 (ninS ne_a_bk nin0)).other W1585 (Or.inr (sne_30 hw)))
  have q1589 := (A1569.keep K1585 (ninS (Ne.symm ne_a_bk) nin0))
  exact W.return_ d_prog_19_method_4_66 rfl ⟨rfl, kc1586, E1585, ⟨_, F1585⟩, q1587, q1588, q1589⟩ (by decide) (by decide)
theorem c_di0 (l : Launch) (Z : State) (a0 : Array Value) (hw : HwT Z a0) (a bk : Addr) (h : Heap) (n0 : Nat) (hn : n0 ≤ h.size) (F1 : Fld Z h a "com/example/eccentra/eccentra/MainVertex" "to" "[I" (.ref bk)) : Con l Z (⟨"com/example/eccentra/eccentra/MainVertex", "distances", "(Z)[I"⟩ : MethodName) prog_19_method_3_code 2 (some (.array .int)) ({ frames := 0, cells := 0, slots := 0, locals := 0 } : Room) #[(.ref a), (.int (0 : Int32))] h n0 (fun r h' => r = some (.ref bk) ∧ h' = h) := by
  refine ConG.of_W (Ls := #[.val (.ref a), .val (.int (0 : Int32))]) (plainFor_of_name pn_4) hn (fun m => by first | (simp [entryFrame, mkF, argsToLocals, Value.category]; done) | rfl) ?_
  refine W.iloadN 1 d_prog_19_method_3_0 rfl rfl ?_
  refine W.if_eq 11 4 d_prog_19_method_3_1 rfl rfl (fun _ => ?_) (fun hc => absurd (by decide) hc)
  refine W.aloadN 12 d_prog_19_method_3_11 rfl rfl rfl ?_
  refine W.getfield 15 d_prog_19_method_3_12 rfl (host := "") (Or.inl (wd_56 hw)) Via.refl F1 ?_
  exact W.areturn d_prog_19_method_3_15 rfl rfl rfl rfl ⟨rfl, rfl⟩ (by decide) (by decide)
theorem kl_1 (l : Launch) (Z : State) (a0 : Array Value) (hw : HwT Z a0) (a b bk bd bo : Addr) (os ds : List Int32) (cnt : Int32) (n0 : Nat) (gk : n0 ≤ bk) (ne_a_bk : a ≠ bk) (ne_b_bk : b ≠ bk) (ne_bd_bk : bd ≠ bk) (ne_bo_bk : bo ≠ bk) (ne_a_b : a ≠ b) (ne_a_bd : a ≠ bd) (ne_a_bo : a ≠ bo) (P : Option Value → Heap → Prop) : ∀ (fuel : Nat) (i : Int32) (ks : List Int32) (s5 : Slot) (h : Heap), One s5 → Exa Z h b "com/example/eccentra/eccentra/BreadthFirst" → Fld Z h b "com/example/eccentra/eccentra/BreadthFirst" "reachedCount" "I" (.int cnt) → Fld Z h b "com/example/eccentra/eccentra/BreadthFirst" "reachedOrder" "[I" (.ref bo) → Fld Z h b "com/example/eccentra/eccentra/BreadthFirst" "distance" "[I" (.ref bd) → Ary Z h bo .int (os.map Value.int) → Ary Z h bd .int (ds.map Value.int) → Ary Z h bk .int (ks.map Value.int) → ∀ ks', own_kloop fuel i cnt os ds ks = some ks' → (∀ (h' : Heap) (i' : Int32) (s5' : Slot), One s5' → Keep h h' [bk] → Ary Z h' bk .int (ks'.map Value.int) → W l ({ frames := 1, cells := 0, slots := 0, locals := 40 } : Room) Z "com/example/eccentra/eccentra/MainVertex" "keep" prog_19_method_4_code 6 none n0 P h' 0 0 57 #[.val (.ref a), .val (.ref b), .val (.int (1 : Int32)), .val (.ref bk), .val (.int i'), s5'] []) → W l ({ frames := 1, cells := 0, slots := 0, locals := 40 } : Room) Z "com/example/eccentra/eccentra/MainVertex" "keep" prog_19_method_4_code 6 none n0 P h 0 0 24 #[.val (.ref a), .val (.ref b), .val (.int (1 : Int32)), .val (.ref bk), .val (.int i), s5] [] := by
  intro fuel
  induction fuel with
  | zero => intro i ks s5 h hs5 Eb Fc Fo Fd Ao Ad Ak ks' hm k; cases (show (none : Option _) = some _ from hm)
  | succ fuel ih =>
    intro i ks s5 h hs5 Eb Fc Fo Fd Ao Ad Ak ks' hm k
    refine W.iload 26 d_prog_19_method_4_24 rfl rfl ?_
    refine W.aloadN 27 d_prog_19_method_4_26 rfl rfl rfl ?_
    refine W.callV (rest := [(.int i)]) (argsL := []) (a := b) 30 d_prog_19_method_4_27 rfl (fun hn => g_rc l Z a0 hw b cnt _ n0 hn Fc) Eb (wd_105 hw) (wd_106 hw) (wd_108 hw) rfl (wd_107 hw) (wd_60 hw) (wd_109 hw) (by decide) pd_3 rfl rfl rfl (by decide) 1 (Nat.le_of_ble_eq_true rfl) (by decide) (by decide) (by decide) ?_
    rintro v1590 h1590 ⟨rfl, rfl⟩
    show WG _ _ _ _ _ _ _ _ _ _ _ _ 0 0 30 #[.val (.ref a), .val (.ref b), .val (.int (1 : Int32)), .val (.ref bk), .val (.int i), s5] [(.int cnt), (.int i)]
    refine W.icmp_ge 57 33 d_prog_19_method_4_30 rfl rfl ?_ ?_
    · intro hc1591
      rw [own_kloop_s, if_neg hc1591] at hm
      cases hm
      exact k _ i s5 hs5 (Keep.refl _ _) Ak
    · intro hc1591
      rw [own_kloop_s, if_pos hc1591] at hm
      refine W.aloadN 34 d_prog_19_method_4_33 rfl rfl rfl ?_
      refine W.iload 36 d_prog_19_method_4_34 rfl rfl ?_
      obtain ⟨zv1592, hz1593, hm⟩ := Option.bind_eq_some_iff.mp hm
      refine W.callV (rest := []) (argsL := [(.int i)]) (a := b) 39 d_prog_19_method_4_36 rfl (fun hn => g_reached l Z a0 hw b bo i zv1592 os _ n0 hn Fo Ao hz1593) Eb (wd_110 hw) (wd_111 hw) (wd_113 hw) rfl (wd_112 hw) (wd_60 hw) (wd_114 hw) (by decide) pd_6 rfl rfl rfl (by decide) 0 (Nat.le_of_ble_eq_true rfl) (by decide) (by decide) (by decide) ?_
      rintro v1594 h1594 ⟨rfl, rfl⟩
      show WG _ _ _ _ _ _ _ _ _ _ _ _ 0 0 39 #[.val (.ref a), .val (.ref b), .val (.int (1 : Int32)), .val (.ref bk), .val (.int i), s5] [(.int zv1592)]
      refine W.istore 41 d_prog_19_method_4_39 rfl #[.val (.ref a), .val (.ref b), .val (.int (1 : Int32)), .val (.ref bk), .val (.int i), .val (.int zv1592)] (XS.store1 (o := s5) rfl hs5 rfl) ?_
      refine W.aloadN 42 d_prog_19_method_4_41 rfl rfl rfl ?_
      refine W.iload 44 d_prog_19_method_4_42 rfl rfl ?_
      refine W.aloadN 45 d_prog_19_method_4_44 rfl rfl rfl ?_
      refine W.iload 47 d_prog_19_method_4_45 rfl rfl ?_
      obtain ⟨zv1595, hz1596, hm⟩ := Option.bind_eq_some_iff.mp hm
      refine W.callV (rest := [(.int zv1592), (.ref bk)]) (argsL := [(.int zv1592)]) (a := b) 50 d_prog_19_method_4_47 rfl (fun hn => g_distance l Z a0 hw b bd zv1592 zv1595 ds _ n0 hn Fd Ad hz1596) Eb (wd_115 hw) (wd_116 hw) (wd_118 hw) rfl (wd_117 hw) (wd_60 hw) (wd_119 hw) (by decide) pd_6 rfl rfl rfl (by decide) 2 (Nat.le_of_ble_eq_true rfl) (by decide) (by decide) (by decide) ?_
      rintro v1597 h1597 ⟨rfl, rfl⟩
      show WG _ _ _ _ _ _ _ _ _ _ _ _ 0 0 50 #[.val (.ref a), .val (.ref b), .val (.int (1 : Int32)), .val (.ref bk), .val (.int i), .val (.int zv1592)] [(.int zv1595), (.int zv1592), (.ref bk)]
      obtain ⟨zs1599, hz1600, hm⟩ := Option.bind_eq_some_iff.mp hm
      refine W.iastore 51 d_prog_19_method_4_50 rfl Ak (zv1592).toNatClampNeg rfl (own_set_ok hz1600).1 (own_set_ok hz1600).2.1 gk ?_
      intro h1598 W1598 K1598 A1598
      have kc1601 := Keep.trans (ws := [bk]) (Keep.refl _ [bk]) K1598 (allS (Or.inl (List.mem_of_getElem? (i := 0) rfl)) all0)
      rw [(own_set_ok hz1600).2.2] at A1598
      refine W.iinc 54 d_prog_19_method_4_51 rfl rfl (i + (1 : Int32)) rfl #[.val (.ref a), .val (.ref b), .val (.int (1 : Int32)), .val (.ref bk), .val (.int (i + (1 : Int32))), .val (.int zv1592)] rfl ?_
      refine W.goto 24 d_prog_19_method_4_54 rfl ?_
      have q1602 := (Eb.keep K1598)
      have q1603 := (Fc.keep K1598 (ninS ne_b_bk nin0))
      have q1604 := (Fo.keep K1598 (ninS ne_b_bk nin0))
      have q1605 := (Fd.keep K1598 (ninS ne_b_bk nin0))
      have q1606 := (Ao.keep K1598 (ninS ne_bo_bk nin0))
      have q1607 := (Ad.keep K1598 (ninS ne_bd_bk nin0))
      exact ih (i + (1 : Int32)) zs1599 (.val (.int zv1592)) _ (One.val rfl) q1602 q1603 q1604 q1605 q1606 q1607 A1598 _ hm (fun h' i' s5' o K A => k h' i' s5' o (Keep.trans kc1601 K (fun x hx => Or.inl hx)) A)
theorem c_kp_1 (l : Launch) (Z : State) (a0 : Array Value) (hw : HwT Z a0) (a b bk bd bo : Addr) (bq : Addr) (os ds ks : List Int32) (cnt vx x0 x1 x2 : Int32) (h : Heap) (n0 : Nat) (hn : n0 ≤ h.size) (gk : n0 ≤ bk) (ne_a_bk : a ≠ bk) (ne_b_bk : b ≠ bk) (ne_bd_bk : bd ≠ bk) (ne_bo_bk : bo ≠ bk) (ne_a_b : a ≠ b) (ne_a_bd : a ≠ bd) (ne_a_bo : a ≠ bo) (ga : n0 ≤ a) (E : Exa Z h a "com/example/eccentra/eccentra/MainVertex") (F0 : Fld Z h a "com/example/eccentra/eccentra/MainVertex" "vertex" "I" (.int vx)) (F1 : Fld Z h a "com/example/eccentra/eccentra/MainVertex" "from" "[I" (.ref bk)) (F2 : Fld Z h a "com/example/eccentra/eccentra/MainVertex" "to" "[I" (.ref bq)) (Eb : Exa Z h b "com/example/eccentra/eccentra/BreadthFirst") (Fc : Fld Z h b "com/example/eccentra/eccentra/BreadthFirst" "reachedCount" "I" (.int cnt)) (Fo : Fld Z h b "com/example/eccentra/eccentra/BreadthFirst" "reachedOrder" "[I" (.ref bo)) (Fd : Fld Z h b "com/example/eccentra/eccentra/BreadthFirst" "distance" "[I" (.ref bd)) (Ao : Ary Z h bo .int (os.map Value.int)) (Ad : Ary Z h bd .int (ds.map Value.int)) (Ak : Ary Z h bk .int [.int x0, .int x1, .int x2]) (hkp : own_keep ds os cnt = some ks) : Con l Z (⟨"com/example/eccentra/eccentra/MainVertex", "keep", "(Lcom/example/eccentra/eccentra/BreadthFirst;Z)V"⟩ : MethodName) prog_19_method_4_code 6 none ({ frames := 1, cells := 0, slots := 0, locals := 40 } : Room) #[(.ref a), (.ref b), (.int (1 : Int32))] h n0 (fun rv h' => rv = none ∧ Keep h h' [a, bk] ∧ Exa Z h' a "com/example/eccentra/eccentra/MainVertex" ∧ (∃ z : Int32, Fld Z h' a "com/example/eccentra/eccentra/MainVertex" "vertex" "I" (.int z)) ∧ Fld Z h' a "com/example/eccentra/eccentra/MainVertex" "from" "[I" (.ref bk) ∧ Fld Z h' a "com/example/eccentra/eccentra/MainVertex" "to" "[I" (.ref bq) ∧ Ary Z h' bk .int (ks.map Value.int)) := by
  refine ConG.of_W (Ls := #[.val (.ref a), .val (.ref b), .val (.int (1 : Int32)), .unset, .unset, .unset]) (plainFor_of_name pn_4) hn (fun m => by first | (simp [entryFrame, mkF, argsToLocals, Value.category]; done) | rfl) ?_
  have hm := hkp
  obtain ⟨kk, hkk, hm⟩ := Option.bind_eq_some_iff.mp hm
  refine W.iloadN 1 d_prog_19_method_4_0 rfl rfl ?_
  refine W.if_eq 11 4 d_prog_19_method_4_1 rfl rfl (fun hc => absurd hc (by decide)) (fun _ => ?_)
  refine W.aloadN 5 d_prog_19_method_4_4 rfl rfl rfl ?_
  refine W.getfield 8 d_prog_19_method_4_5 rfl (host := "") (Or.inl (wd_49 hw)) Via.refl F1 ?_
  refine W.goto 15 d_prog_19_method_4_8 rfl ?_
  refine W.astoreN 16 d_prog_19_method_4_15 rfl rfl #[.val (.ref a), .val (.ref b), .val (.int (1 : Int32)), .val (.ref bk), .unset, .unset] rfl ?_
  refine W.aloadN 17 d_prog_19_method_4_16 rfl rfl rfl ?_
  refine W.iconst 18 d_prog_19_method_4_17 rfl (-1 : Int32) rfl ?_
  refine W.callS (rest := []) (argsL := [(.ref bk), (.int (-1 : Int32))]) 21 d_prog_19_method_4_18 rfl (fun hn => c_f3 l Z a0 hw bk x0 x1 x2 _ n0 hn gk Ak) (wd_104 hw) (wd_71 hw) (wd_72 hw) (wd_73 hw) (by decide) pd_5 rfl rfl rfl (by decide) 0 (Nat.le_of_ble_eq_true rfl) (by decide) (by decide) (by decide) ?_
  rintro v1608 h1608 ⟨rfl, K1608, A1608⟩
  have kc1609 := Keep.trans (ws := [a, bk]) (Keep.refl _ [a, bk]) K1608 (allS (Or.inl (List.mem_of_getElem? (i := 1) rfl)) all0)
  show WG _ _ _ _ _ _ _ _ _ _ _ _ 0 0 21 #[.val (.ref a), .val (.ref b), .val (.int (1 : Int32)), .val (.ref bk), .unset, .unset] []
  refine W.iconst 22 d_prog_19_method_4_21 rfl (0 : Int32) rfl ?_
  refine W.istore 24 d_prog_19_method_4_22 rfl #[.val (.ref a), .val (.ref b), .val (.int (1 : Int32)), .val (.ref bk), .val (.int (0 : Int32)), .unset] rfl ?_
  have q1611 := (Eb.keep K1608)
  have q1612 := (Fc.keep K1608 (ninS ne_b_bk nin0))
  have q1613 := (Fo.keep K1608 (ninS ne_b_bk nin0))
  have q1614 := (Fd.keep K1608 (ninS ne_b_bk nin0))
  have q1615 := (Ao.keep K1608 (ninS ne_bo_bk nin0))
  have q1616 := (Ad.keep K1608 (ninS ne_bd_bk nin0))
  refine kl_1 l Z a0 hw a b bk bd bo os ds cnt n0 gk ne_a_bk ne_b_bk ne_bd_bk ne_bo_bk ne_a_b ne_a_bd ne_a_bo _ 5 (0 : Int32) [-1, -1, -1] .unset _ One.u q1611 q1612 q1613 q1614 q1615 q1616 A1608 kk hkk (fun h1610 i1610 t5 o5 K1610 A1610 => ?_)
  have kc1617 := Keep.trans (ws := [a, bk]) kc1609 K1610 (allS (Or.inl (List.mem_of_getElem? (i := 1) rfl)) all0)
  refine W.aloadN 58 d_prog_19_method_4_57 rfl rfl rfl ?_
  refine W.aloadN 59 d_prog_19_method_4_58 rfl rfl rfl ?_
  refine W.iconst 60 d_prog_19_method_4_59 rfl (0 : Int32) rfl ?_
  obtain ⟨zv1618, hz1619, hm⟩ := Option.bind_eq_some_iff.mp hm
  have q1620 := (q1613.keep K1610 (ninS ne_b_bk nin0))
  have q1621 := (q1615.keep K1610 (ninS ne_bo_bk nin0))
  have q1623 := (q1611.keep K1610)
  refine W.callV (rest := [(.ref a)]) (argsL := [(.int (0 : Int32))]) (a := b) 63 d_prog_19_method_4_60 rfl (fun hn => g_reached l Z a0 hw b bo (0 : Int32) zv1618 os _ n0 hn q1620 q1621 hz1619) q1623 (wd_110 hw) (wd_111 hw) (wd_113 hw) rfl (wd_112 hw) (wd_60 hw) (wd_114 hw) (by decide) pd_6 rfl rfl rfl (by decide) 1 (Nat.le_of_ble_eq_true rfl) (by decide) (by decide) (by decide) ?_
  rintro v1622 h1622 ⟨rfl, rfl⟩
  show WG _ _ _ _ _ _ _ _ _ _ _ _ 0 0 63 #[.val (.ref a), .val (.ref b), .val (.int (1 : Int32)), .val (.ref bk), .val (.int i1610), t5] [(.int zv1618), (.ref a)]
  have q1624 := ((F0.keep K1608 (ninS ne_a_bk nin0)).keep K1610 (ninS ne_a_bk nin0))
  have q1625 := ((E.keep K1608).keep K1610)
  refine W.putfield 66 d_prog_19_method_4_63 rfl (host := "") (Or.inl (wd_42 hw)) Via.refl q1624 q1625 (Or.inl (wd_43 hw)) (wd_36 hw) (ty := .int) (by decide) rfl rfl ga ?_
  intro h1626 W1626 F1626 E1626 K1626
  have kc1627 := Keep.trans (ws := [a, bk]) kc1617 K1626 (allS (Or.inl (List.mem_of_getElem? (i := 0) rfl)) all0)
  cases hm
  have q1628 := (((F1.keep K1608 (ninS ne_a_bk nin0)).keep K1610 (ninS ne_a_bk nin0)).other W1626 (Or.inr (sne_30 hw)))
  have q1629 := (((F2.keep K1608 (ninS ne_a_bk nin0)).keep K1610 (ninS ne_a_bk nin0)).other W1626 (Or.inr (sne_31 hw)))
  have q1630 := (A1610.keep K1626 (ninS (Ne.symm ne_a_bk) nin0))
  exact W.return_ d_prog_19_method_4_66 rfl ⟨rfl, kc1627, E1626, ⟨_, F1626⟩, q1628, q1629, q1630⟩ (by decide) (by decide)
theorem c_di1 (l : Launch) (Z : State) (a0 : Array Value) (hw : HwT Z a0) (a bk : Addr) (h : Heap) (n0 : Nat) (hn : n0 ≤ h.size) (F1 : Fld Z h a "com/example/eccentra/eccentra/MainVertex" "from" "[I" (.ref bk)) : Con l Z (⟨"com/example/eccentra/eccentra/MainVertex", "distances", "(Z)[I"⟩ : MethodName) prog_19_method_3_code 2 (some (.array .int)) ({ frames := 0, cells := 0, slots := 0, locals := 0 } : Room) #[(.ref a), (.int (1 : Int32))] h n0 (fun r h' => r = some (.ref bk) ∧ h' = h) := by
  refine ConG.of_W (Ls := #[.val (.ref a), .val (.int (1 : Int32))]) (plainFor_of_name pn_4) hn (fun m => by first | (simp [entryFrame, mkF, argsToLocals, Value.category]; done) | rfl) ?_
  refine W.iloadN 1 d_prog_19_method_3_0 rfl rfl ?_
  refine W.if_eq 11 4 d_prog_19_method_3_1 rfl rfl (fun hc => absurd hc (by decide)) (fun _ => ?_)
  refine W.aloadN 5 d_prog_19_method_3_4 rfl rfl rfl ?_
  refine W.getfield 8 d_prog_19_method_3_5 rfl (host := "") (Or.inl (wd_49 hw)) Via.refl F1 ?_
  refine W.goto 15 d_prog_19_method_3_8 rfl ?_
  exact W.areturn d_prog_19_method_3_15 rfl rfl rfl rfl ⟨rfl, rfl⟩ (by decide) (by decide)
abbrev own_A01 (m : Int32) : Int32 → Int32 → Int32 := own_adj (own_h m (1 : Int32)) (own_h m (2 : Int32)) (own_h m (1 : Int32)) (own_h m (5 : Int32)) (own_h m (2 : Int32)) (own_h m (5 : Int32))
abbrev own_A11 (m : Int32) : Int32 → Int32 → Int32 := own_adj (own_h m (1 : Int32)) (own_h m (2 : Int32)) (own_h m (3 : Int32)) (own_h m (5 : Int32)) (own_h m (6 : Int32)) (own_h m (7 : Int32))
abbrev own_A10 (m : Int32) : Int32 → Int32 → Int32 := own_adj (own_h m (3 : Int32)) (own_h m (6 : Int32)) (own_h m (1 : Int32)) (own_h m (7 : Int32)) (own_h m (2 : Int32)) (own_h m (5 : Int32))
theorem c_stp0101 (l : Launch) (Z : State) (a0 : Array Value) (hw : HwT Z a0) (m : Int32) (h : Heap) (n0 : Nat) (hn : n0 ≤ h.size) : Con l Z (⟨"com/example/eccentra/eccentra/MainVertexDistancesPinLaw", "step", "(IZZII)Z"⟩ : MethodName) method_6_code 5 (some .boolean) ({ frames := 2, cells := 0, slots := 0, locals := 40 } : Room) #[(.int m), (.int (0 : Int32)), (.int (1 : Int32)), (.int (0 : Int32)), (.int (1 : Int32))] h n0 (fun r h' => r = some (.int (own_h m (1 : Int32))) ∧ h' = h) := by
  refine ConG.of_W (Ls := #[.val (.int m), .val (.int (0 : Int32)), .val (.int (1 : Int32)), .val (.int (0 : Int32)), .val (.int (1 : Int32))]) (plainFor_of_name pn_0) hn (fun m => by first | (simp [entryFrame, mkF, argsToLocals, Value.category]; done) | rfl) ?_
  refine W.iloadN 1 d_method_6_0 rfl rfl ?_
  refine W.if_eq 15 4 d_method_6_1 rfl rfl (fun hc => absurd hc (by decide)) (fun _ => ?_)
  refine W.iloadN 5 d_method_6_4 rfl rfl ?_
  refine W.iloadN 6 d_method_6_5 rfl rfl ?_
  refine W.iloadN 7 d_method_6_6 rfl rfl ?_
  refine W.iload 9 d_method_6_7 rfl rfl ?_
  refine W.callS (rest := []) (argsL := [(.int m), (.int (0 : Int32)), (.int (0 : Int32)), (.int (1 : Int32))]) 12 d_method_6_9 rfl (fun hn => c_has001 l Z a0 hw m _ n0 hn) (wd_9 hw) (wd_10 hw) (wd_4 hw) (wd_11 hw) (by decide) pd_1 rfl rfl rfl (by decide) 0 (Nat.le_of_ble_eq_true rfl) (by decide) (by decide) (by decide) ?_
  rintro v1631 h1631 ⟨rfl, rfl⟩
  show WG _ _ _ _ _ _ _ _ _ _ _ _ 0 0 12 #[.val (.int m), .val (.int (0 : Int32)), .val (.int (1 : Int32)), .val (.int (0 : Int32)), .val (.int (1 : Int32))] [(.int (own_h m (1 : Int32)))]
  refine W.goto 23 d_method_6_12 rfl ?_
  exact W.ireturnN (t := .boolean) d_method_6_23 rfl (by simp) (own_h m (1 : Int32)) (own_h_nar _ _) ⟨rfl, rfl⟩ (by decide) (by decide)
theorem c_stp0102 (l : Launch) (Z : State) (a0 : Array Value) (hw : HwT Z a0) (m : Int32) (h : Heap) (n0 : Nat) (hn : n0 ≤ h.size) : Con l Z (⟨"com/example/eccentra/eccentra/MainVertexDistancesPinLaw", "step", "(IZZII)Z"⟩ : MethodName) method_6_code 5 (some .boolean) ({ frames := 2, cells := 0, slots := 0, locals := 40 } : Room) #[(.int m), (.int (0 : Int32)), (.int (1 : Int32)), (.int (0 : Int32)), (.int (2 : Int32))] h n0 (fun r h' => r = some (.int (own_h m (2 : Int32))) ∧ h' = h) := by
  refine ConG.of_W (Ls := #[.val (.int m), .val (.int (0 : Int32)), .val (.int (1 : Int32)), .val (.int (0 : Int32)), .val (.int (2 : Int32))]) (plainFor_of_name pn_0) hn (fun m => by first | (simp [entryFrame, mkF, argsToLocals, Value.category]; done) | rfl) ?_
  refine W.iloadN 1 d_method_6_0 rfl rfl ?_
  refine W.if_eq 15 4 d_method_6_1 rfl rfl (fun hc => absurd hc (by decide)) (fun _ => ?_)
  refine W.iloadN 5 d_method_6_4 rfl rfl ?_
  refine W.iloadN 6 d_method_6_5 rfl rfl ?_
  refine W.iloadN 7 d_method_6_6 rfl rfl ?_
  refine W.iload 9 d_method_6_7 rfl rfl ?_
  refine W.callS (rest := []) (argsL := [(.int m), (.int (0 : Int32)), (.int (0 : Int32)), (.int (2 : Int32))]) 12 d_method_6_9 rfl (fun hn => c_has002 l Z a0 hw m _ n0 hn) (wd_9 hw) (wd_10 hw) (wd_4 hw) (wd_11 hw) (by decide) pd_1 rfl rfl rfl (by decide) 0 (Nat.le_of_ble_eq_true rfl) (by decide) (by decide) (by decide) ?_
  rintro v1632 h1632 ⟨rfl, rfl⟩
  show WG _ _ _ _ _ _ _ _ _ _ _ _ 0 0 12 #[.val (.int m), .val (.int (0 : Int32)), .val (.int (1 : Int32)), .val (.int (0 : Int32)), .val (.int (2 : Int32))] [(.int (own_h m (2 : Int32)))]
  refine W.goto 23 d_method_6_12 rfl ?_
  exact W.ireturnN (t := .boolean) d_method_6_23 rfl (by simp) (own_h m (2 : Int32)) (own_h_nar _ _) ⟨rfl, rfl⟩ (by decide) (by decide)
theorem c_stp0110 (l : Launch) (Z : State) (a0 : Array Value) (hw : HwT Z a0) (m : Int32) (h : Heap) (n0 : Nat) (hn : n0 ≤ h.size) : Con l Z (⟨"com/example/eccentra/eccentra/MainVertexDistancesPinLaw", "step", "(IZZII)Z"⟩ : MethodName) method_6_code 5 (some .boolean) ({ frames := 2, cells := 0, slots := 0, locals := 40 } : Room) #[(.int m), (.int (0 : Int32)), (.int (1 : Int32)), (.int (1 : Int32)), (.int (0 : Int32))] h n0 (fun r h' => r = some (.int (own_h m (1 : Int32))) ∧ h' = h) := by
  refine ConG.of_W (Ls := #[.val (.int m), .val (.int (0 : Int32)), .val (.int (1 : Int32)), .val (.int (1 : Int32)), .val (.int (0 : Int32))]) (plainFor_of_name pn_0) hn (fun m => by first | (simp [entryFrame, mkF, argsToLocals, Value.category]; done) | rfl) ?_
  refine W.iloadN 1 d_method_6_0 rfl rfl ?_
  refine W.if_eq 15 4 d_method_6_1 rfl rfl (fun hc => absurd hc (by decide)) (fun _ => ?_)
  refine W.iloadN 5 d_method_6_4 rfl rfl ?_
  refine W.iloadN 6 d_method_6_5 rfl rfl ?_
  refine W.iloadN 7 d_method_6_6 rfl rfl ?_
  refine W.iload 9 d_method_6_7 rfl rfl ?_
  refine W.callS (rest := []) (argsL := [(.int m), (.int (0 : Int32)), (.int (1 : Int32)), (.int (0 : Int32))]) 12 d_method_6_9 rfl (fun hn => c_has010 l Z a0 hw m _ n0 hn) (wd_9 hw) (wd_10 hw) (wd_4 hw) (wd_11 hw) (by decide) pd_1 rfl rfl rfl (by decide) 0 (Nat.le_of_ble_eq_true rfl) (by decide) (by decide) (by decide) ?_
  rintro v1633 h1633 ⟨rfl, rfl⟩
  show WG _ _ _ _ _ _ _ _ _ _ _ _ 0 0 12 #[.val (.int m), .val (.int (0 : Int32)), .val (.int (1 : Int32)), .val (.int (1 : Int32)), .val (.int (0 : Int32))] [(.int (own_h m (1 : Int32)))]
  refine W.goto 23 d_method_6_12 rfl ?_
  exact W.ireturnN (t := .boolean) d_method_6_23 rfl (by simp) (own_h m (1 : Int32)) (own_h_nar _ _) ⟨rfl, rfl⟩ (by decide) (by decide)
theorem c_stp0112 (l : Launch) (Z : State) (a0 : Array Value) (hw : HwT Z a0) (m : Int32) (h : Heap) (n0 : Nat) (hn : n0 ≤ h.size) : Con l Z (⟨"com/example/eccentra/eccentra/MainVertexDistancesPinLaw", "step", "(IZZII)Z"⟩ : MethodName) method_6_code 5 (some .boolean) ({ frames := 2, cells := 0, slots := 0, locals := 40 } : Room) #[(.int m), (.int (0 : Int32)), (.int (1 : Int32)), (.int (1 : Int32)), (.int (2 : Int32))] h n0 (fun r h' => r = some (.int (own_h m (5 : Int32))) ∧ h' = h) := by
  refine ConG.of_W (Ls := #[.val (.int m), .val (.int (0 : Int32)), .val (.int (1 : Int32)), .val (.int (1 : Int32)), .val (.int (2 : Int32))]) (plainFor_of_name pn_0) hn (fun m => by first | (simp [entryFrame, mkF, argsToLocals, Value.category]; done) | rfl) ?_
  refine W.iloadN 1 d_method_6_0 rfl rfl ?_
  refine W.if_eq 15 4 d_method_6_1 rfl rfl (fun hc => absurd hc (by decide)) (fun _ => ?_)
  refine W.iloadN 5 d_method_6_4 rfl rfl ?_
  refine W.iloadN 6 d_method_6_5 rfl rfl ?_
  refine W.iloadN 7 d_method_6_6 rfl rfl ?_
  refine W.iload 9 d_method_6_7 rfl rfl ?_
  refine W.callS (rest := []) (argsL := [(.int m), (.int (0 : Int32)), (.int (1 : Int32)), (.int (2 : Int32))]) 12 d_method_6_9 rfl (fun hn => c_has012 l Z a0 hw m _ n0 hn) (wd_9 hw) (wd_10 hw) (wd_4 hw) (wd_11 hw) (by decide) pd_1 rfl rfl rfl (by decide) 0 (Nat.le_of_ble_eq_true rfl) (by decide) (by decide) (by decide) ?_
  rintro v1634 h1634 ⟨rfl, rfl⟩
  show WG _ _ _ _ _ _ _ _ _ _ _ _ 0 0 12 #[.val (.int m), .val (.int (0 : Int32)), .val (.int (1 : Int32)), .val (.int (1 : Int32)), .val (.int (2 : Int32))] [(.int (own_h m (5 : Int32)))]
  refine W.goto 23 d_method_6_12 rfl ?_
  exact W.ireturnN (t := .boolean) d_method_6_23 rfl (by simp) (own_h m (5 : Int32)) (own_h_nar _ _) ⟨rfl, rfl⟩ (by decide) (by decide)
theorem c_stp0120 (l : Launch) (Z : State) (a0 : Array Value) (hw : HwT Z a0) (m : Int32) (h : Heap) (n0 : Nat) (hn : n0 ≤ h.size) : Con l Z (⟨"com/example/eccentra/eccentra/MainVertexDistancesPinLaw", "step", "(IZZII)Z"⟩ : MethodName) method_6_code 5 (some .boolean) ({ frames := 2, cells := 0, slots := 0, locals := 40 } : Room) #[(.int m), (.int (0 : Int32)), (.int (1 : Int32)), (.int (2 : Int32)), (.int (0 : Int32))] h n0 (fun r h' => r = some (.int (own_h m (2 : Int32))) ∧ h' = h) := by
  refine ConG.of_W (Ls := #[.val (.int m), .val (.int (0 : Int32)), .val (.int (1 : Int32)), .val (.int (2 : Int32)), .val (.int (0 : Int32))]) (plainFor_of_name pn_0) hn (fun m => by first | (simp [entryFrame, mkF, argsToLocals, Value.category]; done) | rfl) ?_
  refine W.iloadN 1 d_method_6_0 rfl rfl ?_
  refine W.if_eq 15 4 d_method_6_1 rfl rfl (fun hc => absurd hc (by decide)) (fun _ => ?_)
  refine W.iloadN 5 d_method_6_4 rfl rfl ?_
  refine W.iloadN 6 d_method_6_5 rfl rfl ?_
  refine W.iloadN 7 d_method_6_6 rfl rfl ?_
  refine W.iload 9 d_method_6_7 rfl rfl ?_
  refine W.callS (rest := []) (argsL := [(.int m), (.int (0 : Int32)), (.int (2 : Int32)), (.int (0 : Int32))]) 12 d_method_6_9 rfl (fun hn => c_has020 l Z a0 hw m _ n0 hn) (wd_9 hw) (wd_10 hw) (wd_4 hw) (wd_11 hw) (by decide) pd_1 rfl rfl rfl (by decide) 0 (Nat.le_of_ble_eq_true rfl) (by decide) (by decide) (by decide) ?_
  rintro v1635 h1635 ⟨rfl, rfl⟩
  show WG _ _ _ _ _ _ _ _ _ _ _ _ 0 0 12 #[.val (.int m), .val (.int (0 : Int32)), .val (.int (1 : Int32)), .val (.int (2 : Int32)), .val (.int (0 : Int32))] [(.int (own_h m (2 : Int32)))]
  refine W.goto 23 d_method_6_12 rfl ?_
  exact W.ireturnN (t := .boolean) d_method_6_23 rfl (by simp) (own_h m (2 : Int32)) (own_h_nar _ _) ⟨rfl, rfl⟩ (by decide) (by decide)
theorem c_stp0121 (l : Launch) (Z : State) (a0 : Array Value) (hw : HwT Z a0) (m : Int32) (h : Heap) (n0 : Nat) (hn : n0 ≤ h.size) : Con l Z (⟨"com/example/eccentra/eccentra/MainVertexDistancesPinLaw", "step", "(IZZII)Z"⟩ : MethodName) method_6_code 5 (some .boolean) ({ frames := 2, cells := 0, slots := 0, locals := 40 } : Room) #[(.int m), (.int (0 : Int32)), (.int (1 : Int32)), (.int (2 : Int32)), (.int (1 : Int32))] h n0 (fun r h' => r = some (.int (own_h m (5 : Int32))) ∧ h' = h) := by
  refine ConG.of_W (Ls := #[.val (.int m), .val (.int (0 : Int32)), .val (.int (1 : Int32)), .val (.int (2 : Int32)), .val (.int (1 : Int32))]) (plainFor_of_name pn_0) hn (fun m => by first | (simp [entryFrame, mkF, argsToLocals, Value.category]; done) | rfl) ?_
  refine W.iloadN 1 d_method_6_0 rfl rfl ?_
  refine W.if_eq 15 4 d_method_6_1 rfl rfl (fun hc => absurd hc (by decide)) (fun _ => ?_)
  refine W.iloadN 5 d_method_6_4 rfl rfl ?_
  refine W.iloadN 6 d_method_6_5 rfl rfl ?_
  refine W.iloadN 7 d_method_6_6 rfl rfl ?_
  refine W.iload 9 d_method_6_7 rfl rfl ?_
  refine W.callS (rest := []) (argsL := [(.int m), (.int (0 : Int32)), (.int (2 : Int32)), (.int (1 : Int32))]) 12 d_method_6_9 rfl (fun hn => c_has021 l Z a0 hw m _ n0 hn) (wd_9 hw) (wd_10 hw) (wd_4 hw) (wd_11 hw) (by decide) pd_1 rfl rfl rfl (by decide) 0 (Nat.le_of_ble_eq_true rfl) (by decide) (by decide) (by decide) ?_
  rintro v1636 h1636 ⟨rfl, rfl⟩
  show WG _ _ _ _ _ _ _ _ _ _ _ _ 0 0 12 #[.val (.int m), .val (.int (0 : Int32)), .val (.int (1 : Int32)), .val (.int (2 : Int32)), .val (.int (1 : Int32))] [(.int (own_h m (5 : Int32)))]
  refine W.goto 23 d_method_6_12 rfl ?_
  exact W.ireturnN (t := .boolean) d_method_6_23 rfl (by simp) (own_h m (5 : Int32)) (own_h_nar _ _) ⟨rfl, rfl⟩ (by decide) (by decide)
theorem c_exp0100 (l : Launch) (Z : State) (a0 : Array Value) (hw : HwT Z a0) (m : Int32) (h : Heap) (n0 : Nat) (hn : n0 ≤ h.size) : Con l Z (⟨"com/example/eccentra/eccentra/MainVertexDistancesPinLaw", "expected", "(IZZII)I"⟩ : MethodName) method_7_code 6 (some .int) ({ frames := 3, cells := 0, slots := 0, locals := 70 } : Room) #[(.int m), (.int (0 : Int32)), (.int (1 : Int32)), (.int (0 : Int32)), (.int (0 : Int32))] h n0 (fun r h' => r = some (.int (own_exp (own_A01 m) (0 : Int32) (0 : Int32))) ∧ h' = h) := by
  refine ConG.of_W (Ls := #[.val (.int m), .val (.int (0 : Int32)), .val (.int (1 : Int32)), .val (.int (0 : Int32)), .val (.int (0 : Int32)), .unset]) (plainFor_of_name pn_0) hn (fun m => by first | (simp [entryFrame, mkF, argsToLocals, Value.category]; done) | rfl) ?_
  refine W.iload 2 d_method_7_0 rfl rfl ?_
  refine W.iloadN 3 d_method_7_2 rfl rfl ?_
  refine W.icmp_ne 8 6 d_method_7_3 rfl rfl (fun hc => absurd (by decide) hc) (fun _ => ?_)
  refine W.iconst 7 d_method_7_6 rfl (0 : Int32) rfl ?_
  exact W.ireturn d_method_7_7 rfl ⟨rfl, rfl⟩ (by decide) (by decide)
theorem c_exp0101 (l : Launch) (Z : State) (a0 : Array Value) (hw : HwT Z a0) (m : Int32) (h : Heap) (n0 : Nat) (hn : n0 ≤ h.size) : Con l Z (⟨"com/example/eccentra/eccentra/MainVertexDistancesPinLaw", "expected", "(IZZII)I"⟩ : MethodName) method_7_code 6 (some .int) ({ frames := 3, cells := 0, slots := 0, locals := 70 } : Room) #[(.int m), (.int (0 : Int32)), (.int (1 : Int32)), (.int (0 : Int32)), (.int (1 : Int32))] h n0 (fun r h' => r = some (.int (own_exp (own_A01 m) (0 : Int32) (1 : Int32))) ∧ h' = h) := by
  refine ConG.of_W (Ls := #[.val (.int m), .val (.int (0 : Int32)), .val (.int (1 : Int32)), .val (.int (0 : Int32)), .val (.int (1 : Int32)), .unset]) (plainFor_of_name pn_0) hn (fun m => by first | (simp [entryFrame, mkF, argsToLocals, Value.category]; done) | rfl) ?_
  refine W.iload 2 d_method_7_0 rfl rfl ?_
  refine W.iloadN 3 d_method_7_2 rfl rfl ?_
  refine W.icmp_ne 8 6 d_method_7_3 rfl rfl (fun _ => ?_) (fun hc => absurd hc (by decide))
  refine W.iloadN 9 d_method_7_8 rfl rfl ?_
  refine W.iloadN 10 d_method_7_9 rfl rfl ?_
  refine W.iloadN 11 d_method_7_10 rfl rfl ?_
  refine W.iloadN 12 d_method_7_11 rfl rfl ?_
  refine W.iload 14 d_method_7_12 rfl rfl ?_
  refine W.callS (rest := []) (argsL := [(.int m), (.int (0 : Int32)), (.int (1 : Int32)), (.int (0 : Int32)), (.int (1 : Int32))]) 17 d_method_7_14 rfl (fun hn => c_stp0101 l Z a0 hw m _ n0 hn) (wd_141 hw) (wd_142 hw) (wd_4 hw) (wd_143 hw) (by decide) pd_8 rfl rfl rfl (by decide) 0 (Nat.le_of_ble_eq_true rfl) (by decide) (by decide) (by decide) ?_
  rintro v1637 h1637 ⟨rfl, rfl⟩
  show WG _ _ _ _ _ _ _ _ _ _ _ _ 0 0 17 #[.val (.int m), .val (.int (0 : Int32)), .val (.int (1 : Int32)), .val (.int (0 : Int32)), .val (.int (1 : Int32)), .unset] [(.int (own_h m (1 : Int32)))]
  refine W.if_eq 22 20 d_method_7_17 rfl rfl ?_ ?_
  · intro hc1638
    refine W.iconst 23 d_method_7_22 rfl (3 : Int32) rfl ?_
    refine W.iloadN 24 d_method_7_23 rfl rfl ?_
    refine W.isub 25 d_method_7_24 rfl (3 : Int32) (by decide) ?_
    refine W.iload 27 d_method_7_25 rfl rfl ?_
    refine W.isub 28 d_method_7_27 rfl (2 : Int32) (by decide) ?_
    refine W.istore 30 d_method_7_28 rfl #[.val (.int m), .val (.int (0 : Int32)), .val (.int (1 : Int32)), .val (.int (0 : Int32)), .val (.int (1 : Int32)), .val (.int (2 : Int32))] rfl ?_
    refine W.iloadN 31 d_method_7_30 rfl rfl ?_
    refine W.iloadN 32 d_method_7_31 rfl rfl ?_
    refine W.iloadN 33 d_method_7_32 rfl rfl ?_
    refine W.iloadN 34 d_method_7_33 rfl rfl ?_
    refine W.iload 36 d_method_7_34 rfl rfl ?_
    refine W.callS (rest := []) (argsL := [(.int m), (.int (0 : Int32)), (.int (1 : Int32)), (.int (0 : Int32)), (.int (2 : Int32))]) 39 d_method_7_36 rfl (fun hn => c_stp0102 l Z a0 hw m _ n0 hn) (wd_141 hw) (wd_142 hw) (wd_4 hw) (wd_143 hw) (by decide) pd_8 rfl rfl rfl (by decide) 0 (Nat.le_of_ble_eq_true rfl) (by decide) (by decide) (by decide) ?_
    rintro v1639 h1639 ⟨rfl, rfl⟩
    show WG _ _ _ _ _ _ _ _ _ _ _ _ 0 0 39 #[.val (.int m), .val (.int (0 : Int32)), .val (.int (1 : Int32)), .val (.int (0 : Int32)), .val (.int (1 : Int32)), .val (.int (2 : Int32))] [(.int (own_h m (2 : Int32)))]
    refine W.if_eq 57 42 d_method_7_39 rfl rfl ?_ ?_
    · intro hc1640
      refine W.iconst 58 d_method_7_57 rfl (-1 : Int32) rfl ?_
      exact W.ireturn d_method_7_58 rfl ⟨by rw [show (own_exp (own_A01 m) (0 : Int32) (1 : Int32)) = (if (own_h m (1 : Int32)) = 0 then (if (own_h m (2 : Int32)) = 0 then -1 else if (own_h m (5 : Int32)) = 0 then -1 else 2) else 1) from rfl, if_pos hc1638, if_pos hc1640], rfl⟩ (by decide) (by decide)
    · intro hc1640
      refine W.iloadN 43 d_method_7_42 rfl rfl ?_
      refine W.iloadN 44 d_method_7_43 rfl rfl ?_
      refine W.iloadN 45 d_method_7_44 rfl rfl ?_
      refine W.iload 47 d_method_7_45 rfl rfl ?_
      refine W.iload 49 d_method_7_47 rfl rfl ?_
      refine W.callS (rest := []) (argsL := [(.int m), (.int (0 : Int32)), (.int (1 : Int32)), (.int (2 : Int32)), (.int (1 : Int32))]) 52 d_method_7_49 rfl (fun hn => c_stp0121 l Z a0 hw m _ n0 hn) (wd_141 hw) (wd_142 hw) (wd_4 hw) (wd_143 hw) (by decide) pd_8 rfl rfl rfl (by decide) 0 (Nat.le_of_ble_eq_true rfl) (by decide) (by decide) (by decide) ?_
      rintro v1641 h1641 ⟨rfl, rfl⟩
      show WG _ _ _ _ _ _ _ _ _ _ _ _ 0 0 52 #[.val (.int m), .val (.int (0 : Int32)), .val (.int (1 : Int32)), .val (.int (0 : Int32)), .val (.int (1 : Int32)), .val (.int (2 : Int32))] [(.int (own_h m (5 : Int32)))]
      refine W.if_eq 57 55 d_method_7_52 rfl rfl ?_ ?_
      · intro hc1642
        refine W.iconst 58 d_method_7_57 rfl (-1 : Int32) rfl ?_
        exact W.ireturn d_method_7_58 rfl ⟨by rw [show (own_exp (own_A01 m) (0 : Int32) (1 : Int32)) = (if (own_h m (1 : Int32)) = 0 then (if (own_h m (2 : Int32)) = 0 then -1 else if (own_h m (5 : Int32)) = 0 then -1 else 2) else 1) from rfl, if_pos hc1638, if_neg hc1640, if_pos hc1642], rfl⟩ (by decide) (by decide)
      · intro hc1642
        refine W.iconst 56 d_method_7_55 rfl (2 : Int32) rfl ?_
        exact W.ireturn d_method_7_56 rfl ⟨by rw [show (own_exp (own_A01 m) (0 : Int32) (1 : Int32)) = (if (own_h m (1 : Int32)) = 0 then (if (own_h m (2 : Int32)) = 0 then -1 else if (own_h m (5 : Int32)) = 0 then -1 else 2) else 1) from rfl, if_pos hc1638, if_neg hc1640, if_neg hc1642], rfl⟩ (by decide) (by decide)
  · intro hc1638
    refine W.iconst 21 d_method_7_20 rfl (1 : Int32) rfl ?_
    exact W.ireturn d_method_7_21 rfl ⟨by rw [show (own_exp (own_A01 m) (0 : Int32) (1 : Int32)) = (if (own_h m (1 : Int32)) = 0 then (if (own_h m (2 : Int32)) = 0 then -1 else if (own_h m (5 : Int32)) = 0 then -1 else 2) else 1) from rfl, if_neg hc1638], rfl⟩ (by decide) (by decide)
theorem c_exp0102 (l : Launch) (Z : State) (a0 : Array Value) (hw : HwT Z a0) (m : Int32) (h : Heap) (n0 : Nat) (hn : n0 ≤ h.size) : Con l Z (⟨"com/example/eccentra/eccentra/MainVertexDistancesPinLaw", "expected", "(IZZII)I"⟩ : MethodName) method_7_code 6 (some .int) ({ frames := 3, cells := 0, slots := 0, locals := 70 } : Room) #[(.int m), (.int (0 : Int32)), (.int (1 : Int32)), (.int (0 : Int32)), (.int (2 : Int32))] h n0 (fun r h' => r = some (.int (own_exp (own_A01 m) (0 : Int32) (2 : Int32))) ∧ h' = h) := by
  refine ConG.of_W (Ls := #[.val (.int m), .val (.int (0 : Int32)), .val (.int (1 : Int32)), .val (.int (0 : Int32)), .val (.int (2 : Int32)), .unset]) (plainFor_of_name pn_0) hn (fun m => by first | (simp [entryFrame, mkF, argsToLocals, Value.category]; done) | rfl) ?_
  refine W.iload 2 d_method_7_0 rfl rfl ?_
  refine W.iloadN 3 d_method_7_2 rfl rfl ?_
  refine W.icmp_ne 8 6 d_method_7_3 rfl rfl (fun _ => ?_) (fun hc => absurd hc (by decide))
  refine W.iloadN 9 d_method_7_8 rfl rfl ?_
  refine W.iloadN 10 d_method_7_9 rfl rfl ?_
  refine W.iloadN 11 d_method_7_10 rfl rfl ?_
  refine W.iloadN 12 d_method_7_11 rfl rfl ?_
  refine W.iload 14 d_method_7_12 rfl rfl ?_
  refine W.callS (rest := []) (argsL := [(.int m), (.int (0 : Int32)), (.int (1 : Int32)), (.int (0 : Int32)), (.int (2 : Int32))]) 17 d_method_7_14 rfl (fun hn => c_stp0102 l Z a0 hw m _ n0 hn) (wd_141 hw) (wd_142 hw) (wd_4 hw) (wd_143 hw) (by decide) pd_8 rfl rfl rfl (by decide) 0 (Nat.le_of_ble_eq_true rfl) (by decide) (by decide) (by decide) ?_
  rintro v1643 h1643 ⟨rfl, rfl⟩
  show WG _ _ _ _ _ _ _ _ _ _ _ _ 0 0 17 #[.val (.int m), .val (.int (0 : Int32)), .val (.int (1 : Int32)), .val (.int (0 : Int32)), .val (.int (2 : Int32)), .unset] [(.int (own_h m (2 : Int32)))]
  refine W.if_eq 22 20 d_method_7_17 rfl rfl ?_ ?_
  · intro hc1644
    refine W.iconst 23 d_method_7_22 rfl (3 : Int32) rfl ?_
    refine W.iloadN 24 d_method_7_23 rfl rfl ?_
    refine W.isub 25 d_method_7_24 rfl (3 : Int32) (by decide) ?_
    refine W.iload 27 d_method_7_25 rfl rfl ?_
    refine W.isub 28 d_method_7_27 rfl (1 : Int32) (by decide) ?_
    refine W.istore 30 d_method_7_28 rfl #[.val (.int m), .val (.int (0 : Int32)), .val (.int (1 : Int32)), .val (.int (0 : Int32)), .val (.int (2 : Int32)), .val (.int (1 : Int32))] rfl ?_
    refine W.iloadN 31 d_method_7_30 rfl rfl ?_
    refine W.iloadN 32 d_method_7_31 rfl rfl ?_
    refine W.iloadN 33 d_method_7_32 rfl rfl ?_
    refine W.iloadN 34 d_method_7_33 rfl rfl ?_
    refine W.iload 36 d_method_7_34 rfl rfl ?_
    refine W.callS (rest := []) (argsL := [(.int m), (.int (0 : Int32)), (.int (1 : Int32)), (.int (0 : Int32)), (.int (1 : Int32))]) 39 d_method_7_36 rfl (fun hn => c_stp0101 l Z a0 hw m _ n0 hn) (wd_141 hw) (wd_142 hw) (wd_4 hw) (wd_143 hw) (by decide) pd_8 rfl rfl rfl (by decide) 0 (Nat.le_of_ble_eq_true rfl) (by decide) (by decide) (by decide) ?_
    rintro v1645 h1645 ⟨rfl, rfl⟩
    show WG _ _ _ _ _ _ _ _ _ _ _ _ 0 0 39 #[.val (.int m), .val (.int (0 : Int32)), .val (.int (1 : Int32)), .val (.int (0 : Int32)), .val (.int (2 : Int32)), .val (.int (1 : Int32))] [(.int (own_h m (1 : Int32)))]
    refine W.if_eq 57 42 d_method_7_39 rfl rfl ?_ ?_
    · intro hc1646
      refine W.iconst 58 d_method_7_57 rfl (-1 : Int32) rfl ?_
      exact W.ireturn d_method_7_58 rfl ⟨by rw [show (own_exp (own_A01 m) (0 : Int32) (2 : Int32)) = (if (own_h m (2 : Int32)) = 0 then (if (own_h m (1 : Int32)) = 0 then -1 else if (own_h m (5 : Int32)) = 0 then -1 else 2) else 1) from rfl, if_pos hc1644, if_pos hc1646], rfl⟩ (by decide) (by decide)
    · intro hc1646
      refine W.iloadN 43 d_method_7_42 rfl rfl ?_
      refine W.iloadN 44 d_method_7_43 rfl rfl ?_
      refine W.iloadN 45 d_method_7_44 rfl rfl ?_
      refine W.iload 47 d_method_7_45 rfl rfl ?_
      refine W.iload 49 d_method_7_47 rfl rfl ?_
      refine W.callS (rest := []) (argsL := [(.int m), (.int (0 : Int32)), (.int (1 : Int32)), (.int (1 : Int32)), (.int (2 : Int32))]) 52 d_method_7_49 rfl (fun hn => c_stp0112 l Z a0 hw m _ n0 hn) (wd_141 hw) (wd_142 hw) (wd_4 hw) (wd_143 hw) (by decide) pd_8 rfl rfl rfl (by decide) 0 (Nat.le_of_ble_eq_true rfl) (by decide) (by decide) (by decide) ?_
      rintro v1647 h1647 ⟨rfl, rfl⟩
      show WG _ _ _ _ _ _ _ _ _ _ _ _ 0 0 52 #[.val (.int m), .val (.int (0 : Int32)), .val (.int (1 : Int32)), .val (.int (0 : Int32)), .val (.int (2 : Int32)), .val (.int (1 : Int32))] [(.int (own_h m (5 : Int32)))]
      refine W.if_eq 57 55 d_method_7_52 rfl rfl ?_ ?_
      · intro hc1648
        refine W.iconst 58 d_method_7_57 rfl (-1 : Int32) rfl ?_
        exact W.ireturn d_method_7_58 rfl ⟨by rw [show (own_exp (own_A01 m) (0 : Int32) (2 : Int32)) = (if (own_h m (2 : Int32)) = 0 then (if (own_h m (1 : Int32)) = 0 then -1 else if (own_h m (5 : Int32)) = 0 then -1 else 2) else 1) from rfl, if_pos hc1644, if_neg hc1646, if_pos hc1648], rfl⟩ (by decide) (by decide)
      · intro hc1648
        refine W.iconst 56 d_method_7_55 rfl (2 : Int32) rfl ?_
        exact W.ireturn d_method_7_56 rfl ⟨by rw [show (own_exp (own_A01 m) (0 : Int32) (2 : Int32)) = (if (own_h m (2 : Int32)) = 0 then (if (own_h m (1 : Int32)) = 0 then -1 else if (own_h m (5 : Int32)) = 0 then -1 else 2) else 1) from rfl, if_pos hc1644, if_neg hc1646, if_neg hc1648], rfl⟩ (by decide) (by decide)
  · intro hc1644
    refine W.iconst 21 d_method_7_20 rfl (1 : Int32) rfl ?_
    exact W.ireturn d_method_7_21 rfl ⟨by rw [show (own_exp (own_A01 m) (0 : Int32) (2 : Int32)) = (if (own_h m (2 : Int32)) = 0 then (if (own_h m (1 : Int32)) = 0 then -1 else if (own_h m (5 : Int32)) = 0 then -1 else 2) else 1) from rfl, if_neg hc1644], rfl⟩ (by decide) (by decide)
theorem c_mt010 (l : Launch) (Z : State) (a0 : Array Value) (hw : HwT Z a0) (t : Addr) (m : Int32) (h : Heap) (n0 : Nat) (hn : n0 ≤ h.size) (A : Ary Z h t .int [(.int (own_exp (own_A01 m) (0 : Int32) (0 : Int32))), (.int (own_exp (own_A01 m) (0 : Int32) (1 : Int32))), (.int (own_exp (own_A01 m) (0 : Int32) (2 : Int32)))]) : Con l Z (⟨"com/example/eccentra/eccentra/MainVertexDistancesPinLaw", "matches", "([IIZZI)Z"⟩ : MethodName) method_8_code 5 (some .boolean) ({ frames := 4, cells := 0, slots := 0, locals := 110 } : Room) #[(.ref t), (.int m), (.int (0 : Int32)), (.int (1 : Int32)), (.int (0 : Int32))] h n0 (fun r h' => r = some (.int 1) ∧ h' = h) := by
  refine ConG.of_W (Ls := #[.val (.ref t), .val (.int m), .val (.int (0 : Int32)), .val (.int (1 : Int32)), .val (.int (0 : Int32))]) (plainFor_of_name pn_0) hn (fun m => by first | (simp [entryFrame, mkF, argsToLocals, Value.category]; done) | rfl) ?_
  refine W.aloadN 1 d_method_8_0 rfl rfl rfl ?_
  refine W.iconst 2 d_method_8_1 rfl (0 : Int32) rfl ?_
  refine W.iaload 3 d_method_8_2 rfl A 0 (by decide) (by decide) (.int (own_exp (own_A01 m) (0 : Int32) (0 : Int32))) rfl ?_
  refine W.iloadN 4 d_method_8_3 rfl rfl ?_
  refine W.iloadN 5 d_method_8_4 rfl rfl ?_
  refine W.iloadN 6 d_method_8_5 rfl rfl ?_
  refine W.iload 8 d_method_8_6 rfl rfl ?_
  refine W.iconst 9 d_method_8_8 rfl (0 : Int32) rfl ?_
  refine W.callS (rest := [(.int (own_exp (own_A01 m) (0 : Int32) (0 : Int32)))]) (argsL := [(.int m), (.int (0 : Int32)), (.int (1 : Int32)), (.int (0 : Int32)), (.int (0 : Int32))]) 12 d_method_8_9 rfl (fun hn => c_exp0100 l Z a0 hw m _ n0 hn) (wd_138 hw) (wd_139 hw) (wd_4 hw) (wd_140 hw) (by decide) pd_9 rfl rfl rfl (by decide) 1 (Nat.le_of_ble_eq_true rfl) (by decide) (by decide) (by decide) ?_
  rintro v1649 h1649 ⟨rfl, rfl⟩
  show WG _ _ _ _ _ _ _ _ _ _ _ _ 0 0 12 #[.val (.ref t), .val (.int m), .val (.int (0 : Int32)), .val (.int (1 : Int32)), .val (.int (0 : Int32))] [(.int (own_exp (own_A01 m) (0 : Int32) (0 : Int32))), (.int (own_exp (own_A01 m) (0 : Int32) (0 : Int32)))]
  refine W.icmp_ne 49 15 d_method_8_12 rfl rfl (fun hc => absurd rfl hc) (fun _ => ?_)
  refine W.aloadN 16 d_method_8_15 rfl rfl rfl ?_
  refine W.iconst 17 d_method_8_16 rfl (1 : Int32) rfl ?_
  refine W.iaload 18 d_method_8_17 rfl A 1 (by decide) (by decide) (.int (own_exp (own_A01 m) (0 : Int32) (1 : Int32))) rfl ?_
  refine W.iloadN 19 d_method_8_18 rfl rfl ?_
  refine W.iloadN 20 d_method_8_19 rfl rfl ?_
  refine W.iloadN 21 d_method_8_20 rfl rfl ?_
  refine W.iload 23 d_method_8_21 rfl rfl ?_
  refine W.iconst 24 d_method_8_23 rfl (1 : Int32) rfl ?_
  refine W.callS (rest := [(.int (own_exp (own_A01 m) (0 : Int32) (1 : Int32)))]) (argsL := [(.int m), (.int (0 : Int32)), (.int (1 : Int32)), (.int (0 : Int32)), (.int (1 : Int32))]) 27 d_method_8_24 rfl (fun hn => c_exp0101 l Z a0 hw m _ n0 hn) (wd_138 hw) (wd_139 hw) (wd_4 hw) (wd_140 hw) (by decide) pd_9 rfl rfl rfl (by decide) 1 (Nat.le_of_ble_eq_true rfl) (by decide) (by decide) (by decide) ?_
  rintro v1650 h1650 ⟨rfl, rfl⟩
  show WG _ _ _ _ _ _ _ _ _ _ _ _ 0 0 27 #[.val (.ref t), .val (.int m), .val (.int (0 : Int32)), .val (.int (1 : Int32)), .val (.int (0 : Int32))] [(.int (own_exp (own_A01 m) (0 : Int32) (1 : Int32))), (.int (own_exp (own_A01 m) (0 : Int32) (1 : Int32)))]
  refine W.icmp_ne 49 30 d_method_8_27 rfl rfl (fun hc => absurd rfl hc) (fun _ => ?_)
  refine W.aloadN 31 d_method_8_30 rfl rfl rfl ?_
  refine W.iconst 32 d_method_8_31 rfl (2 : Int32) rfl ?_
  refine W.iaload 33 d_method_8_32 rfl A 2 (by decide) (by decide) (.int (own_exp (own_A01 m) (0 : Int32) (2 : Int32))) rfl ?_
  refine W.iloadN 34 d_method_8_33 rfl rfl ?_
  refine W.iloadN 35 d_method_8_34 rfl rfl ?_
  refine W.iloadN 36 d_method_8_35 rfl rfl ?_
  refine W.iload 38 d_method_8_36 rfl rfl ?_
  refine W.iconst 39 d_method_8_38 rfl (2 : Int32) rfl ?_
  refine W.callS (rest := [(.int (own_exp (own_A01 m) (0 : Int32) (2 : Int32)))]) (argsL := [(.int m), (.int (0 : Int32)), (.int (1 : Int32)), (.int (0 : Int32)), (.int (2 : Int32))]) 42 d_method_8_39 rfl (fun hn => c_exp0102 l Z a0 hw m _ n0 hn) (wd_138 hw) (wd_139 hw) (wd_4 hw) (wd_140 hw) (by decide) pd_9 rfl rfl rfl (by decide) 1 (Nat.le_of_ble_eq_true rfl) (by decide) (by decide) (by decide) ?_
  rintro v1651 h1651 ⟨rfl, rfl⟩
  show WG _ _ _ _ _ _ _ _ _ _ _ _ 0 0 42 #[.val (.ref t), .val (.int m), .val (.int (0 : Int32)), .val (.int (1 : Int32)), .val (.int (0 : Int32))] [(.int (own_exp (own_A01 m) (0 : Int32) (2 : Int32))), (.int (own_exp (own_A01 m) (0 : Int32) (2 : Int32)))]
  refine W.icmp_ne 49 45 d_method_8_42 rfl rfl (fun hc => absurd rfl hc) (fun _ => ?_)
  refine W.iconst 46 d_method_8_45 rfl (1 : Int32) rfl ?_
  refine W.goto 50 d_method_8_46 rfl ?_
  exact W.ireturnN (t := .boolean) d_method_8_50 rfl (by simp) (1 : Int32) rfl ⟨rfl, rfl⟩ (by decide) (by decide)
theorem c_exp0110 (l : Launch) (Z : State) (a0 : Array Value) (hw : HwT Z a0) (m : Int32) (h : Heap) (n0 : Nat) (hn : n0 ≤ h.size) : Con l Z (⟨"com/example/eccentra/eccentra/MainVertexDistancesPinLaw", "expected", "(IZZII)I"⟩ : MethodName) method_7_code 6 (some .int) ({ frames := 3, cells := 0, slots := 0, locals := 70 } : Room) #[(.int m), (.int (0 : Int32)), (.int (1 : Int32)), (.int (1 : Int32)), (.int (0 : Int32))] h n0 (fun r h' => r = some (.int (own_exp (own_A01 m) (1 : Int32) (0 : Int32))) ∧ h' = h) := by
  refine ConG.of_W (Ls := #[.val (.int m), .val (.int (0 : Int32)), .val (.int (1 : Int32)), .val (.int (1 : Int32)), .val (.int (0 : Int32)), .unset]) (plainFor_of_name pn_0) hn (fun m => by first | (simp [entryFrame, mkF, argsToLocals, Value.category]; done) | rfl) ?_
  refine W.iload 2 d_method_7_0 rfl rfl ?_
  refine W.iloadN 3 d_method_7_2 rfl rfl ?_
  refine W.icmp_ne 8 6 d_method_7_3 rfl rfl (fun _ => ?_) (fun hc => absurd hc (by decide))
  refine W.iloadN 9 d_method_7_8 rfl rfl ?_
  refine W.iloadN 10 d_method_7_9 rfl rfl ?_
  refine W.iloadN 11 d_method_7_10 rfl rfl ?_
  refine W.iloadN 12 d_method_7_11 rfl rfl ?_
  refine W.iload 14 d_method_7_12 rfl rfl ?_
  refine W.callS (rest := []) (argsL := [(.int m), (.int (0 : Int32)), (.int (1 : Int32)), (.int (1 : Int32)), (.int (0 : Int32))]) 17 d_method_7_14 rfl (fun hn => c_stp0110 l Z a0 hw m _ n0 hn) (wd_141 hw) (wd_142 hw) (wd_4 hw) (wd_143 hw) (by decide) pd_8 rfl rfl rfl (by decide) 0 (Nat.le_of_ble_eq_true rfl) (by decide) (by decide) (by decide) ?_
  rintro v1652 h1652 ⟨rfl, rfl⟩
  show WG _ _ _ _ _ _ _ _ _ _ _ _ 0 0 17 #[.val (.int m), .val (.int (0 : Int32)), .val (.int (1 : Int32)), .val (.int (1 : Int32)), .val (.int (0 : Int32)), .unset] [(.int (own_h m (1 : Int32)))]
  refine W.if_eq 22 20 d_method_7_17 rfl rfl ?_ ?_
  · intro hc1653
    refine W.iconst 23 d_method_7_22 rfl (3 : Int32) rfl ?_
    refine W.iloadN 24 d_method_7_23 rfl rfl ?_
    refine W.isub 25 d_method_7_24 rfl (2 : Int32) (by decide) ?_
    refine W.iload 27 d_method_7_25 rfl rfl ?_
    refine W.isub 28 d_method_7_27 rfl (2 : Int32) (by decide) ?_
    refine W.istore 30 d_method_7_28 rfl #[.val (.int m), .val (.int (0 : Int32)), .val (.int (1 : Int32)), .val (.int (1 : Int32)), .val (.int (0 : Int32)), .val (.int (2 : Int32))] rfl ?_
    refine W.iloadN 31 d_method_7_30 rfl rfl ?_
    refine W.iloadN 32 d_method_7_31 rfl rfl ?_
    refine W.iloadN 33 d_method_7_32 rfl rfl ?_
    refine W.iloadN 34 d_method_7_33 rfl rfl ?_
    refine W.iload 36 d_method_7_34 rfl rfl ?_
    refine W.callS (rest := []) (argsL := [(.int m), (.int (0 : Int32)), (.int (1 : Int32)), (.int (1 : Int32)), (.int (2 : Int32))]) 39 d_method_7_36 rfl (fun hn => c_stp0112 l Z a0 hw m _ n0 hn) (wd_141 hw) (wd_142 hw) (wd_4 hw) (wd_143 hw) (by decide) pd_8 rfl rfl rfl (by decide) 0 (Nat.le_of_ble_eq_true rfl) (by decide) (by decide) (by decide) ?_
    rintro v1654 h1654 ⟨rfl, rfl⟩
    show WG _ _ _ _ _ _ _ _ _ _ _ _ 0 0 39 #[.val (.int m), .val (.int (0 : Int32)), .val (.int (1 : Int32)), .val (.int (1 : Int32)), .val (.int (0 : Int32)), .val (.int (2 : Int32))] [(.int (own_h m (5 : Int32)))]
    refine W.if_eq 57 42 d_method_7_39 rfl rfl ?_ ?_
    · intro hc1655
      refine W.iconst 58 d_method_7_57 rfl (-1 : Int32) rfl ?_
      exact W.ireturn d_method_7_58 rfl ⟨by rw [show (own_exp (own_A01 m) (1 : Int32) (0 : Int32)) = (if (own_h m (1 : Int32)) = 0 then (if (own_h m (5 : Int32)) = 0 then -1 else if (own_h m (2 : Int32)) = 0 then -1 else 2) else 1) from rfl, if_pos hc1653, if_pos hc1655], rfl⟩ (by decide) (by decide)
    · intro hc1655
      refine W.iloadN 43 d_method_7_42 rfl rfl ?_
      refine W.iloadN 44 d_method_7_43 rfl rfl ?_
      refine W.iloadN 45 d_method_7_44 rfl rfl ?_
      refine W.iload 47 d_method_7_45 rfl rfl ?_
      refine W.iload 49 d_method_7_47 rfl rfl ?_
      refine W.callS (rest := []) (argsL := [(.int m), (.int (0 : Int32)), (.int (1 : Int32)), (.int (2 : Int32)), (.int (0 : Int32))]) 52 d_method_7_49 rfl (fun hn => c_stp0120 l Z a0 hw m _ n0 hn) (wd_141 hw) (wd_142 hw) (wd_4 hw) (wd_143 hw) (by decide) pd_8 rfl rfl rfl (by decide) 0 (Nat.le_of_ble_eq_true rfl) (by decide) (by decide) (by decide) ?_
      rintro v1656 h1656 ⟨rfl, rfl⟩
      show WG _ _ _ _ _ _ _ _ _ _ _ _ 0 0 52 #[.val (.int m), .val (.int (0 : Int32)), .val (.int (1 : Int32)), .val (.int (1 : Int32)), .val (.int (0 : Int32)), .val (.int (2 : Int32))] [(.int (own_h m (2 : Int32)))]
      refine W.if_eq 57 55 d_method_7_52 rfl rfl ?_ ?_
      · intro hc1657
        refine W.iconst 58 d_method_7_57 rfl (-1 : Int32) rfl ?_
        exact W.ireturn d_method_7_58 rfl ⟨by rw [show (own_exp (own_A01 m) (1 : Int32) (0 : Int32)) = (if (own_h m (1 : Int32)) = 0 then (if (own_h m (5 : Int32)) = 0 then -1 else if (own_h m (2 : Int32)) = 0 then -1 else 2) else 1) from rfl, if_pos hc1653, if_neg hc1655, if_pos hc1657], rfl⟩ (by decide) (by decide)
      · intro hc1657
        refine W.iconst 56 d_method_7_55 rfl (2 : Int32) rfl ?_
        exact W.ireturn d_method_7_56 rfl ⟨by rw [show (own_exp (own_A01 m) (1 : Int32) (0 : Int32)) = (if (own_h m (1 : Int32)) = 0 then (if (own_h m (5 : Int32)) = 0 then -1 else if (own_h m (2 : Int32)) = 0 then -1 else 2) else 1) from rfl, if_pos hc1653, if_neg hc1655, if_neg hc1657], rfl⟩ (by decide) (by decide)
  · intro hc1653
    refine W.iconst 21 d_method_7_20 rfl (1 : Int32) rfl ?_
    exact W.ireturn d_method_7_21 rfl ⟨by rw [show (own_exp (own_A01 m) (1 : Int32) (0 : Int32)) = (if (own_h m (1 : Int32)) = 0 then (if (own_h m (5 : Int32)) = 0 then -1 else if (own_h m (2 : Int32)) = 0 then -1 else 2) else 1) from rfl, if_neg hc1653], rfl⟩ (by decide) (by decide)
theorem c_exp0111 (l : Launch) (Z : State) (a0 : Array Value) (hw : HwT Z a0) (m : Int32) (h : Heap) (n0 : Nat) (hn : n0 ≤ h.size) : Con l Z (⟨"com/example/eccentra/eccentra/MainVertexDistancesPinLaw", "expected", "(IZZII)I"⟩ : MethodName) method_7_code 6 (some .int) ({ frames := 3, cells := 0, slots := 0, locals := 70 } : Room) #[(.int m), (.int (0 : Int32)), (.int (1 : Int32)), (.int (1 : Int32)), (.int (1 : Int32))] h n0 (fun r h' => r = some (.int (own_exp (own_A01 m) (1 : Int32) (1 : Int32))) ∧ h' = h) := by
  refine ConG.of_W (Ls := #[.val (.int m), .val (.int (0 : Int32)), .val (.int (1 : Int32)), .val (.int (1 : Int32)), .val (.int (1 : Int32)), .unset]) (plainFor_of_name pn_0) hn (fun m => by first | (simp [entryFrame, mkF, argsToLocals, Value.category]; done) | rfl) ?_
  refine W.iload 2 d_method_7_0 rfl rfl ?_
  refine W.iloadN 3 d_method_7_2 rfl rfl ?_
  refine W.icmp_ne 8 6 d_method_7_3 rfl rfl (fun hc => absurd (by decide) hc) (fun _ => ?_)
  refine W.iconst 7 d_method_7_6 rfl (0 : Int32) rfl ?_
  exact W.ireturn d_method_7_7 rfl ⟨rfl, rfl⟩ (by decide) (by decide)
theorem c_exp0112 (l : Launch) (Z : State) (a0 : Array Value) (hw : HwT Z a0) (m : Int32) (h : Heap) (n0 : Nat) (hn : n0 ≤ h.size) : Con l Z (⟨"com/example/eccentra/eccentra/MainVertexDistancesPinLaw", "expected", "(IZZII)I"⟩ : MethodName) method_7_code 6 (some .int) ({ frames := 3, cells := 0, slots := 0, locals := 70 } : Room) #[(.int m), (.int (0 : Int32)), (.int (1 : Int32)), (.int (1 : Int32)), (.int (2 : Int32))] h n0 (fun r h' => r = some (.int (own_exp (own_A01 m) (1 : Int32) (2 : Int32))) ∧ h' = h) := by
  refine ConG.of_W (Ls := #[.val (.int m), .val (.int (0 : Int32)), .val (.int (1 : Int32)), .val (.int (1 : Int32)), .val (.int (2 : Int32)), .unset]) (plainFor_of_name pn_0) hn (fun m => by first | (simp [entryFrame, mkF, argsToLocals, Value.category]; done) | rfl) ?_
  refine W.iload 2 d_method_7_0 rfl rfl ?_
  refine W.iloadN 3 d_method_7_2 rfl rfl ?_
  refine W.icmp_ne 8 6 d_method_7_3 rfl rfl (fun _ => ?_) (fun hc => absurd hc (by decide))
  refine W.iloadN 9 d_method_7_8 rfl rfl ?_
  refine W.iloadN 10 d_method_7_9 rfl rfl ?_
  refine W.iloadN 11 d_method_7_10 rfl rfl ?_
  refine W.iloadN 12 d_method_7_11 rfl rfl ?_
  refine W.iload 14 d_method_7_12 rfl rfl ?_
  refine W.callS (rest := []) (argsL := [(.int m), (.int (0 : Int32)), (.int (1 : Int32)), (.int (1 : Int32)), (.int (2 : Int32))]) 17 d_method_7_14 rfl (fun hn => c_stp0112 l Z a0 hw m _ n0 hn) (wd_141 hw) (wd_142 hw) (wd_4 hw) (wd_143 hw) (by decide) pd_8 rfl rfl rfl (by decide) 0 (Nat.le_of_ble_eq_true rfl) (by decide) (by decide) (by decide) ?_
  rintro v1658 h1658 ⟨rfl, rfl⟩
  show WG _ _ _ _ _ _ _ _ _ _ _ _ 0 0 17 #[.val (.int m), .val (.int (0 : Int32)), .val (.int (1 : Int32)), .val (.int (1 : Int32)), .val (.int (2 : Int32)), .unset] [(.int (own_h m (5 : Int32)))]
  refine W.if_eq 22 20 d_method_7_17 rfl rfl ?_ ?_
  · intro hc1659
    refine W.iconst 23 d_method_7_22 rfl (3 : Int32) rfl ?_
    refine W.iloadN 24 d_method_7_23 rfl rfl ?_
    refine W.isub 25 d_method_7_24 rfl (2 : Int32) (by decide) ?_
    refine W.iload 27 d_method_7_25 rfl rfl ?_
    refine W.isub 28 d_method_7_27 rfl (0 : Int32) (by decide) ?_
    refine W.istore 30 d_method_7_28 rfl #[.val (.int m), .val (.int (0 : Int32)), .val (.int (1 : Int32)), .val (.int (1 : Int32)), .val (.int (2 : Int32)), .val (.int (0 : Int32))] rfl ?_
    refine W.iloadN 31 d_method_7_30 rfl rfl ?_
    refine W.iloadN 32 d_method_7_31 rfl rfl ?_
    refine W.iloadN 33 d_method_7_32 rfl rfl ?_
    refine W.iloadN 34 d_method_7_33 rfl rfl ?_
    refine W.iload 36 d_method_7_34 rfl rfl ?_
    refine W.callS (rest := []) (argsL := [(.int m), (.int (0 : Int32)), (.int (1 : Int32)), (.int (1 : Int32)), (.int (0 : Int32))]) 39 d_method_7_36 rfl (fun hn => c_stp0110 l Z a0 hw m _ n0 hn) (wd_141 hw) (wd_142 hw) (wd_4 hw) (wd_143 hw) (by decide) pd_8 rfl rfl rfl (by decide) 0 (Nat.le_of_ble_eq_true rfl) (by decide) (by decide) (by decide) ?_
    rintro v1660 h1660 ⟨rfl, rfl⟩
    show WG _ _ _ _ _ _ _ _ _ _ _ _ 0 0 39 #[.val (.int m), .val (.int (0 : Int32)), .val (.int (1 : Int32)), .val (.int (1 : Int32)), .val (.int (2 : Int32)), .val (.int (0 : Int32))] [(.int (own_h m (1 : Int32)))]
    refine W.if_eq 57 42 d_method_7_39 rfl rfl ?_ ?_
    · intro hc1661
      refine W.iconst 58 d_method_7_57 rfl (-1 : Int32) rfl ?_
      exact W.ireturn d_method_7_58 rfl ⟨by rw [show (own_exp (own_A01 m) (1 : Int32) (2 : Int32)) = (if (own_h m (5 : Int32)) = 0 then (if (own_h m (1 : Int32)) = 0 then -1 else if (own_h m (2 : Int32)) = 0 then -1 else 2) else 1) from rfl, if_pos hc1659, if_pos hc1661], rfl⟩ (by decide) (by decide)
    · intro hc1661
      refine W.iloadN 43 d_method_7_42 rfl rfl ?_
      refine W.iloadN 44 d_method_7_43 rfl rfl ?_
      refine W.iloadN 45 d_method_7_44 rfl rfl ?_
      refine W.iload 47 d_method_7_45 rfl rfl ?_
      refine W.iload 49 d_method_7_47 rfl rfl ?_
      refine W.callS (rest := []) (argsL := [(.int m), (.int (0 : Int32)), (.int (1 : Int32)), (.int (0 : Int32)), (.int (2 : Int32))]) 52 d_method_7_49 rfl (fun hn => c_stp0102 l Z a0 hw m _ n0 hn) (wd_141 hw) (wd_142 hw) (wd_4 hw) (wd_143 hw) (by decide) pd_8 rfl rfl rfl (by decide) 0 (Nat.le_of_ble_eq_true rfl) (by decide) (by decide) (by decide) ?_
      rintro v1662 h1662 ⟨rfl, rfl⟩
      show WG _ _ _ _ _ _ _ _ _ _ _ _ 0 0 52 #[.val (.int m), .val (.int (0 : Int32)), .val (.int (1 : Int32)), .val (.int (1 : Int32)), .val (.int (2 : Int32)), .val (.int (0 : Int32))] [(.int (own_h m (2 : Int32)))]
      refine W.if_eq 57 55 d_method_7_52 rfl rfl ?_ ?_
      · intro hc1663
        refine W.iconst 58 d_method_7_57 rfl (-1 : Int32) rfl ?_
        exact W.ireturn d_method_7_58 rfl ⟨by rw [show (own_exp (own_A01 m) (1 : Int32) (2 : Int32)) = (if (own_h m (5 : Int32)) = 0 then (if (own_h m (1 : Int32)) = 0 then -1 else if (own_h m (2 : Int32)) = 0 then -1 else 2) else 1) from rfl, if_pos hc1659, if_neg hc1661, if_pos hc1663], rfl⟩ (by decide) (by decide)
      · intro hc1663
        refine W.iconst 56 d_method_7_55 rfl (2 : Int32) rfl ?_
        exact W.ireturn d_method_7_56 rfl ⟨by rw [show (own_exp (own_A01 m) (1 : Int32) (2 : Int32)) = (if (own_h m (5 : Int32)) = 0 then (if (own_h m (1 : Int32)) = 0 then -1 else if (own_h m (2 : Int32)) = 0 then -1 else 2) else 1) from rfl, if_pos hc1659, if_neg hc1661, if_neg hc1663], rfl⟩ (by decide) (by decide)
  · intro hc1659
    refine W.iconst 21 d_method_7_20 rfl (1 : Int32) rfl ?_
    exact W.ireturn d_method_7_21 rfl ⟨by rw [show (own_exp (own_A01 m) (1 : Int32) (2 : Int32)) = (if (own_h m (5 : Int32)) = 0 then (if (own_h m (1 : Int32)) = 0 then -1 else if (own_h m (2 : Int32)) = 0 then -1 else 2) else 1) from rfl, if_neg hc1659], rfl⟩ (by decide) (by decide)
theorem c_mt011 (l : Launch) (Z : State) (a0 : Array Value) (hw : HwT Z a0) (t : Addr) (m : Int32) (h : Heap) (n0 : Nat) (hn : n0 ≤ h.size) (A : Ary Z h t .int [(.int (own_exp (own_A01 m) (1 : Int32) (0 : Int32))), (.int (own_exp (own_A01 m) (1 : Int32) (1 : Int32))), (.int (own_exp (own_A01 m) (1 : Int32) (2 : Int32)))]) : Con l Z (⟨"com/example/eccentra/eccentra/MainVertexDistancesPinLaw", "matches", "([IIZZI)Z"⟩ : MethodName) method_8_code 5 (some .boolean) ({ frames := 4, cells := 0, slots := 0, locals := 110 } : Room) #[(.ref t), (.int m), (.int (0 : Int32)), (.int (1 : Int32)), (.int (1 : Int32))] h n0 (fun r h' => r = some (.int 1) ∧ h' = h) := by
  refine ConG.of_W (Ls := #[.val (.ref t), .val (.int m), .val (.int (0 : Int32)), .val (.int (1 : Int32)), .val (.int (1 : Int32))]) (plainFor_of_name pn_0) hn (fun m => by first | (simp [entryFrame, mkF, argsToLocals, Value.category]; done) | rfl) ?_
  refine W.aloadN 1 d_method_8_0 rfl rfl rfl ?_
  refine W.iconst 2 d_method_8_1 rfl (0 : Int32) rfl ?_
  refine W.iaload 3 d_method_8_2 rfl A 0 (by decide) (by decide) (.int (own_exp (own_A01 m) (1 : Int32) (0 : Int32))) rfl ?_
  refine W.iloadN 4 d_method_8_3 rfl rfl ?_
  refine W.iloadN 5 d_method_8_4 rfl rfl ?_
  refine W.iloadN 6 d_method_8_5 rfl rfl ?_
  refine W.iload 8 d_method_8_6 rfl rfl ?_
  refine W.iconst 9 d_method_8_8 rfl (0 : Int32) rfl ?_
  refine W.callS (rest := [(.int (own_exp (own_A01 m) (1 : Int32) (0 : Int32)))]) (argsL := [(.int m), (.int (0 : Int32)), (.int (1 : Int32)), (.int (1 : Int32)), (.int (0 : Int32))]) 12 d_method_8_9 rfl (fun hn => c_exp0110 l Z a0 hw m _ n0 hn) (wd_138 hw) (wd_139 hw) (wd_4 hw) (wd_140 hw) (by decide) pd_9 rfl rfl rfl (by decide) 1 (Nat.le_of_ble_eq_true rfl) (by decide) (by decide) (by decide) ?_
  rintro v1664 h1664 ⟨rfl, rfl⟩
  show WG _ _ _ _ _ _ _ _ _ _ _ _ 0 0 12 #[.val (.ref t), .val (.int m), .val (.int (0 : Int32)), .val (.int (1 : Int32)), .val (.int (1 : Int32))] [(.int (own_exp (own_A01 m) (1 : Int32) (0 : Int32))), (.int (own_exp (own_A01 m) (1 : Int32) (0 : Int32)))]
  refine W.icmp_ne 49 15 d_method_8_12 rfl rfl (fun hc => absurd rfl hc) (fun _ => ?_)
  refine W.aloadN 16 d_method_8_15 rfl rfl rfl ?_
  refine W.iconst 17 d_method_8_16 rfl (1 : Int32) rfl ?_
  refine W.iaload 18 d_method_8_17 rfl A 1 (by decide) (by decide) (.int (own_exp (own_A01 m) (1 : Int32) (1 : Int32))) rfl ?_
  refine W.iloadN 19 d_method_8_18 rfl rfl ?_
  refine W.iloadN 20 d_method_8_19 rfl rfl ?_
  refine W.iloadN 21 d_method_8_20 rfl rfl ?_
  refine W.iload 23 d_method_8_21 rfl rfl ?_
  refine W.iconst 24 d_method_8_23 rfl (1 : Int32) rfl ?_
  refine W.callS (rest := [(.int (own_exp (own_A01 m) (1 : Int32) (1 : Int32)))]) (argsL := [(.int m), (.int (0 : Int32)), (.int (1 : Int32)), (.int (1 : Int32)), (.int (1 : Int32))]) 27 d_method_8_24 rfl (fun hn => c_exp0111 l Z a0 hw m _ n0 hn) (wd_138 hw) (wd_139 hw) (wd_4 hw) (wd_140 hw) (by decide) pd_9 rfl rfl rfl (by decide) 1 (Nat.le_of_ble_eq_true rfl) (by decide) (by decide) (by decide) ?_
  rintro v1665 h1665 ⟨rfl, rfl⟩
  show WG _ _ _ _ _ _ _ _ _ _ _ _ 0 0 27 #[.val (.ref t), .val (.int m), .val (.int (0 : Int32)), .val (.int (1 : Int32)), .val (.int (1 : Int32))] [(.int (own_exp (own_A01 m) (1 : Int32) (1 : Int32))), (.int (own_exp (own_A01 m) (1 : Int32) (1 : Int32)))]
  refine W.icmp_ne 49 30 d_method_8_27 rfl rfl (fun hc => absurd rfl hc) (fun _ => ?_)
  refine W.aloadN 31 d_method_8_30 rfl rfl rfl ?_
  refine W.iconst 32 d_method_8_31 rfl (2 : Int32) rfl ?_
  refine W.iaload 33 d_method_8_32 rfl A 2 (by decide) (by decide) (.int (own_exp (own_A01 m) (1 : Int32) (2 : Int32))) rfl ?_
  refine W.iloadN 34 d_method_8_33 rfl rfl ?_
  refine W.iloadN 35 d_method_8_34 rfl rfl ?_
  refine W.iloadN 36 d_method_8_35 rfl rfl ?_
  refine W.iload 38 d_method_8_36 rfl rfl ?_
  refine W.iconst 39 d_method_8_38 rfl (2 : Int32) rfl ?_
  refine W.callS (rest := [(.int (own_exp (own_A01 m) (1 : Int32) (2 : Int32)))]) (argsL := [(.int m), (.int (0 : Int32)), (.int (1 : Int32)), (.int (1 : Int32)), (.int (2 : Int32))]) 42 d_method_8_39 rfl (fun hn => c_exp0112 l Z a0 hw m _ n0 hn) (wd_138 hw) (wd_139 hw) (wd_4 hw) (wd_140 hw) (by decide) pd_9 rfl rfl rfl (by decide) 1 (Nat.le_of_ble_eq_true rfl) (by decide) (by decide) (by decide) ?_
  rintro v1666 h1666 ⟨rfl, rfl⟩
  show WG _ _ _ _ _ _ _ _ _ _ _ _ 0 0 42 #[.val (.ref t), .val (.int m), .val (.int (0 : Int32)), .val (.int (1 : Int32)), .val (.int (1 : Int32))] [(.int (own_exp (own_A01 m) (1 : Int32) (2 : Int32))), (.int (own_exp (own_A01 m) (1 : Int32) (2 : Int32)))]
  refine W.icmp_ne 49 45 d_method_8_42 rfl rfl (fun hc => absurd rfl hc) (fun _ => ?_)
  refine W.iconst 46 d_method_8_45 rfl (1 : Int32) rfl ?_
  refine W.goto 50 d_method_8_46 rfl ?_
  exact W.ireturnN (t := .boolean) d_method_8_50 rfl (by simp) (1 : Int32) rfl ⟨rfl, rfl⟩ (by decide) (by decide)
theorem c_exp0120 (l : Launch) (Z : State) (a0 : Array Value) (hw : HwT Z a0) (m : Int32) (h : Heap) (n0 : Nat) (hn : n0 ≤ h.size) : Con l Z (⟨"com/example/eccentra/eccentra/MainVertexDistancesPinLaw", "expected", "(IZZII)I"⟩ : MethodName) method_7_code 6 (some .int) ({ frames := 3, cells := 0, slots := 0, locals := 70 } : Room) #[(.int m), (.int (0 : Int32)), (.int (1 : Int32)), (.int (2 : Int32)), (.int (0 : Int32))] h n0 (fun r h' => r = some (.int (own_exp (own_A01 m) (2 : Int32) (0 : Int32))) ∧ h' = h) := by
  refine ConG.of_W (Ls := #[.val (.int m), .val (.int (0 : Int32)), .val (.int (1 : Int32)), .val (.int (2 : Int32)), .val (.int (0 : Int32)), .unset]) (plainFor_of_name pn_0) hn (fun m => by first | (simp [entryFrame, mkF, argsToLocals, Value.category]; done) | rfl) ?_
  refine W.iload 2 d_method_7_0 rfl rfl ?_
  refine W.iloadN 3 d_method_7_2 rfl rfl ?_
  refine W.icmp_ne 8 6 d_method_7_3 rfl rfl (fun _ => ?_) (fun hc => absurd hc (by decide))
  refine W.iloadN 9 d_method_7_8 rfl rfl ?_
  refine W.iloadN 10 d_method_7_9 rfl rfl ?_
  refine W.iloadN 11 d_method_7_10 rfl rfl ?_
  refine W.iloadN 12 d_method_7_11 rfl rfl ?_
  refine W.iload 14 d_method_7_12 rfl rfl ?_
  refine W.callS (rest := []) (argsL := [(.int m), (.int (0 : Int32)), (.int (1 : Int32)), (.int (2 : Int32)), (.int (0 : Int32))]) 17 d_method_7_14 rfl (fun hn => c_stp0120 l Z a0 hw m _ n0 hn) (wd_141 hw) (wd_142 hw) (wd_4 hw) (wd_143 hw) (by decide) pd_8 rfl rfl rfl (by decide) 0 (Nat.le_of_ble_eq_true rfl) (by decide) (by decide) (by decide) ?_
  rintro v1667 h1667 ⟨rfl, rfl⟩
  show WG _ _ _ _ _ _ _ _ _ _ _ _ 0 0 17 #[.val (.int m), .val (.int (0 : Int32)), .val (.int (1 : Int32)), .val (.int (2 : Int32)), .val (.int (0 : Int32)), .unset] [(.int (own_h m (2 : Int32)))]
  refine W.if_eq 22 20 d_method_7_17 rfl rfl ?_ ?_
  · intro hc1668
    refine W.iconst 23 d_method_7_22 rfl (3 : Int32) rfl ?_
    refine W.iloadN 24 d_method_7_23 rfl rfl ?_
    refine W.isub 25 d_method_7_24 rfl (1 : Int32) (by decide) ?_
    refine W.iload 27 d_method_7_25 rfl rfl ?_
    refine W.isub 28 d_method_7_27 rfl (1 : Int32) (by decide) ?_
    refine W.istore 30 d_method_7_28 rfl #[.val (.int m), .val (.int (0 : Int32)), .val (.int (1 : Int32)), .val (.int (2 : Int32)), .val (.int (0 : Int32)), .val (.int (1 : Int32))] rfl ?_
    refine W.iloadN 31 d_method_7_30 rfl rfl ?_
    refine W.iloadN 32 d_method_7_31 rfl rfl ?_
    refine W.iloadN 33 d_method_7_32 rfl rfl ?_
    refine W.iloadN 34 d_method_7_33 rfl rfl ?_
    refine W.iload 36 d_method_7_34 rfl rfl ?_
    refine W.callS (rest := []) (argsL := [(.int m), (.int (0 : Int32)), (.int (1 : Int32)), (.int (2 : Int32)), (.int (1 : Int32))]) 39 d_method_7_36 rfl (fun hn => c_stp0121 l Z a0 hw m _ n0 hn) (wd_141 hw) (wd_142 hw) (wd_4 hw) (wd_143 hw) (by decide) pd_8 rfl rfl rfl (by decide) 0 (Nat.le_of_ble_eq_true rfl) (by decide) (by decide) (by decide) ?_
    rintro v1669 h1669 ⟨rfl, rfl⟩
    show WG _ _ _ _ _ _ _ _ _ _ _ _ 0 0 39 #[.val (.int m), .val (.int (0 : Int32)), .val (.int (1 : Int32)), .val (.int (2 : Int32)), .val (.int (0 : Int32)), .val (.int (1 : Int32))] [(.int (own_h m (5 : Int32)))]
    refine W.if_eq 57 42 d_method_7_39 rfl rfl ?_ ?_
    · intro hc1670
      refine W.iconst 58 d_method_7_57 rfl (-1 : Int32) rfl ?_
      exact W.ireturn d_method_7_58 rfl ⟨by rw [show (own_exp (own_A01 m) (2 : Int32) (0 : Int32)) = (if (own_h m (2 : Int32)) = 0 then (if (own_h m (5 : Int32)) = 0 then -1 else if (own_h m (1 : Int32)) = 0 then -1 else 2) else 1) from rfl, if_pos hc1668, if_pos hc1670], rfl⟩ (by decide) (by decide)
    · intro hc1670
      refine W.iloadN 43 d_method_7_42 rfl rfl ?_
      refine W.iloadN 44 d_method_7_43 rfl rfl ?_
      refine W.iloadN 45 d_method_7_44 rfl rfl ?_
      refine W.iload 47 d_method_7_45 rfl rfl ?_
      refine W.iload 49 d_method_7_47 rfl rfl ?_
      refine W.callS (rest := []) (argsL := [(.int m), (.int (0 : Int32)), (.int (1 : Int32)), (.int (1 : Int32)), (.int (0 : Int32))]) 52 d_method_7_49 rfl (fun hn => c_stp0110 l Z a0 hw m _ n0 hn) (wd_141 hw) (wd_142 hw) (wd_4 hw) (wd_143 hw) (by decide) pd_8 rfl rfl rfl (by decide) 0 (Nat.le_of_ble_eq_true rfl) (by decide) (by decide) (by decide) ?_
      rintro v1671 h1671 ⟨rfl, rfl⟩
      show WG _ _ _ _ _ _ _ _ _ _ _ _ 0 0 52 #[.val (.int m), .val (.int (0 : Int32)), .val (.int (1 : Int32)), .val (.int (2 : Int32)), .val (.int (0 : Int32)), .val (.int (1 : Int32))] [(.int (own_h m (1 : Int32)))]
      refine W.if_eq 57 55 d_method_7_52 rfl rfl ?_ ?_
      · intro hc1672
        refine W.iconst 58 d_method_7_57 rfl (-1 : Int32) rfl ?_
        exact W.ireturn d_method_7_58 rfl ⟨by rw [show (own_exp (own_A01 m) (2 : Int32) (0 : Int32)) = (if (own_h m (2 : Int32)) = 0 then (if (own_h m (5 : Int32)) = 0 then -1 else if (own_h m (1 : Int32)) = 0 then -1 else 2) else 1) from rfl, if_pos hc1668, if_neg hc1670, if_pos hc1672], rfl⟩ (by decide) (by decide)
      · intro hc1672
        refine W.iconst 56 d_method_7_55 rfl (2 : Int32) rfl ?_
        exact W.ireturn d_method_7_56 rfl ⟨by rw [show (own_exp (own_A01 m) (2 : Int32) (0 : Int32)) = (if (own_h m (2 : Int32)) = 0 then (if (own_h m (5 : Int32)) = 0 then -1 else if (own_h m (1 : Int32)) = 0 then -1 else 2) else 1) from rfl, if_pos hc1668, if_neg hc1670, if_neg hc1672], rfl⟩ (by decide) (by decide)
  · intro hc1668
    refine W.iconst 21 d_method_7_20 rfl (1 : Int32) rfl ?_
    exact W.ireturn d_method_7_21 rfl ⟨by rw [show (own_exp (own_A01 m) (2 : Int32) (0 : Int32)) = (if (own_h m (2 : Int32)) = 0 then (if (own_h m (5 : Int32)) = 0 then -1 else if (own_h m (1 : Int32)) = 0 then -1 else 2) else 1) from rfl, if_neg hc1668], rfl⟩ (by decide) (by decide)
theorem c_exp0121 (l : Launch) (Z : State) (a0 : Array Value) (hw : HwT Z a0) (m : Int32) (h : Heap) (n0 : Nat) (hn : n0 ≤ h.size) : Con l Z (⟨"com/example/eccentra/eccentra/MainVertexDistancesPinLaw", "expected", "(IZZII)I"⟩ : MethodName) method_7_code 6 (some .int) ({ frames := 3, cells := 0, slots := 0, locals := 70 } : Room) #[(.int m), (.int (0 : Int32)), (.int (1 : Int32)), (.int (2 : Int32)), (.int (1 : Int32))] h n0 (fun r h' => r = some (.int (own_exp (own_A01 m) (2 : Int32) (1 : Int32))) ∧ h' = h) := by
  refine ConG.of_W (Ls := #[.val (.int m), .val (.int (0 : Int32)), .val (.int (1 : Int32)), .val (.int (2 : Int32)), .val (.int (1 : Int32)), .unset]) (plainFor_of_name pn_0) hn (fun m => by first | (simp [entryFrame, mkF, argsToLocals, Value.category]; done) | rfl) ?_
  refine W.iload 2 d_method_7_0 rfl rfl ?_
  refine W.iloadN 3 d_method_7_2 rfl rfl ?_
  refine W.icmp_ne 8 6 d_method_7_3 rfl rfl (fun _ => ?_) (fun hc => absurd hc (by decide))
  refine W.iloadN 9 d_method_7_8 rfl rfl ?_
  refine W.iloadN 10 d_method_7_9 rfl rfl ?_
  refine W.iloadN 11 d_method_7_10 rfl rfl ?_
  refine W.iloadN 12 d_method_7_11 rfl rfl ?_
  refine W.iload 14 d_method_7_12 rfl rfl ?_
  refine W.callS (rest := []) (argsL := [(.int m), (.int (0 : Int32)), (.int (1 : Int32)), (.int (2 : Int32)), (.int (1 : Int32))]) 17 d_method_7_14 rfl (fun hn => c_stp0121 l Z a0 hw m _ n0 hn) (wd_141 hw) (wd_142 hw) (wd_4 hw) (wd_143 hw) (by decide) pd_8 rfl rfl rfl (by decide) 0 (Nat.le_of_ble_eq_true rfl) (by decide) (by decide) (by decide) ?_
  rintro v1673 h1673 ⟨rfl, rfl⟩
  show WG _ _ _ _ _ _ _ _ _ _ _ _ 0 0 17 #[.val (.int m), .val (.int (0 : Int32)), .val (.int (1 : Int32)), .val (.int (2 : Int32)), .val (.int (1 : Int32)), .unset] [(.int (own_h m (5 : Int32)))]
  refine W.if_eq 22 20 d_method_7_17 rfl rfl ?_ ?_
  · intro hc1674
    refine W.iconst 23 d_method_7_22 rfl (3 : Int32) rfl ?_
    refine W.iloadN 24 d_method_7_23 rfl rfl ?_
    refine W.isub 25 d_method_7_24 rfl (1 : Int32) (by decide) ?_
    refine W.iload 27 d_method_7_25 rfl rfl ?_
    refine W.isub 28 d_method_7_27 rfl (0 : Int32) (by decide) ?_
    refine W.istore 30 d_method_7_28 rfl #[.val (.int m), .val (.int (0 : Int32)), .val (.int (1 : Int32)), .val (.int (2 : Int32)), .val (.int (1 : Int32)), .val (.int (0 : Int32))] rfl ?_
    refine W.iloadN 31 d_method_7_30 rfl rfl ?_
    refine W.iloadN 32 d_method_7_31 rfl rfl ?_
    refine W.iloadN 33 d_method_7_32 rfl rfl ?_
    refine W.iloadN 34 d_method_7_33 rfl rfl ?_
    refine W.iload 36 d_method_7_34 rfl rfl ?_
    refine W.callS (rest := []) (argsL := [(.int m), (.int (0 : Int32)), (.int (1 : Int32)), (.int (2 : Int32)), (.int (0 : Int32))]) 39 d_method_7_36 rfl (fun hn => c_stp0120 l Z a0 hw m _ n0 hn) (wd_141 hw) (wd_142 hw) (wd_4 hw) (wd_143 hw) (by decide) pd_8 rfl rfl rfl (by decide) 0 (Nat.le_of_ble_eq_true rfl) (by decide) (by decide) (by decide) ?_
    rintro v1675 h1675 ⟨rfl, rfl⟩
    show WG _ _ _ _ _ _ _ _ _ _ _ _ 0 0 39 #[.val (.int m), .val (.int (0 : Int32)), .val (.int (1 : Int32)), .val (.int (2 : Int32)), .val (.int (1 : Int32)), .val (.int (0 : Int32))] [(.int (own_h m (2 : Int32)))]
    refine W.if_eq 57 42 d_method_7_39 rfl rfl ?_ ?_
    · intro hc1676
      refine W.iconst 58 d_method_7_57 rfl (-1 : Int32) rfl ?_
      exact W.ireturn d_method_7_58 rfl ⟨by rw [show (own_exp (own_A01 m) (2 : Int32) (1 : Int32)) = (if (own_h m (5 : Int32)) = 0 then (if (own_h m (2 : Int32)) = 0 then -1 else if (own_h m (1 : Int32)) = 0 then -1 else 2) else 1) from rfl, if_pos hc1674, if_pos hc1676], rfl⟩ (by decide) (by decide)
    · intro hc1676
      refine W.iloadN 43 d_method_7_42 rfl rfl ?_
      refine W.iloadN 44 d_method_7_43 rfl rfl ?_
      refine W.iloadN 45 d_method_7_44 rfl rfl ?_
      refine W.iload 47 d_method_7_45 rfl rfl ?_
      refine W.iload 49 d_method_7_47 rfl rfl ?_
      refine W.callS (rest := []) (argsL := [(.int m), (.int (0 : Int32)), (.int (1 : Int32)), (.int (0 : Int32)), (.int (1 : Int32))]) 52 d_method_7_49 rfl (fun hn => c_stp0101 l Z a0 hw m _ n0 hn) (wd_141 hw) (wd_142 hw) (wd_4 hw) (wd_143 hw) (by decide) pd_8 rfl rfl rfl (by decide) 0 (Nat.le_of_ble_eq_true rfl) (by decide) (by decide) (by decide) ?_
      rintro v1677 h1677 ⟨rfl, rfl⟩
      show WG _ _ _ _ _ _ _ _ _ _ _ _ 0 0 52 #[.val (.int m), .val (.int (0 : Int32)), .val (.int (1 : Int32)), .val (.int (2 : Int32)), .val (.int (1 : Int32)), .val (.int (0 : Int32))] [(.int (own_h m (1 : Int32)))]
      refine W.if_eq 57 55 d_method_7_52 rfl rfl ?_ ?_
      · intro hc1678
        refine W.iconst 58 d_method_7_57 rfl (-1 : Int32) rfl ?_
        exact W.ireturn d_method_7_58 rfl ⟨by rw [show (own_exp (own_A01 m) (2 : Int32) (1 : Int32)) = (if (own_h m (5 : Int32)) = 0 then (if (own_h m (2 : Int32)) = 0 then -1 else if (own_h m (1 : Int32)) = 0 then -1 else 2) else 1) from rfl, if_pos hc1674, if_neg hc1676, if_pos hc1678], rfl⟩ (by decide) (by decide)
      · intro hc1678
        refine W.iconst 56 d_method_7_55 rfl (2 : Int32) rfl ?_
        exact W.ireturn d_method_7_56 rfl ⟨by rw [show (own_exp (own_A01 m) (2 : Int32) (1 : Int32)) = (if (own_h m (5 : Int32)) = 0 then (if (own_h m (2 : Int32)) = 0 then -1 else if (own_h m (1 : Int32)) = 0 then -1 else 2) else 1) from rfl, if_pos hc1674, if_neg hc1676, if_neg hc1678], rfl⟩ (by decide) (by decide)
  · intro hc1674
    refine W.iconst 21 d_method_7_20 rfl (1 : Int32) rfl ?_
    exact W.ireturn d_method_7_21 rfl ⟨by rw [show (own_exp (own_A01 m) (2 : Int32) (1 : Int32)) = (if (own_h m (5 : Int32)) = 0 then (if (own_h m (2 : Int32)) = 0 then -1 else if (own_h m (1 : Int32)) = 0 then -1 else 2) else 1) from rfl, if_neg hc1674], rfl⟩ (by decide) (by decide)
theorem c_exp0122 (l : Launch) (Z : State) (a0 : Array Value) (hw : HwT Z a0) (m : Int32) (h : Heap) (n0 : Nat) (hn : n0 ≤ h.size) : Con l Z (⟨"com/example/eccentra/eccentra/MainVertexDistancesPinLaw", "expected", "(IZZII)I"⟩ : MethodName) method_7_code 6 (some .int) ({ frames := 3, cells := 0, slots := 0, locals := 70 } : Room) #[(.int m), (.int (0 : Int32)), (.int (1 : Int32)), (.int (2 : Int32)), (.int (2 : Int32))] h n0 (fun r h' => r = some (.int (own_exp (own_A01 m) (2 : Int32) (2 : Int32))) ∧ h' = h) := by
  refine ConG.of_W (Ls := #[.val (.int m), .val (.int (0 : Int32)), .val (.int (1 : Int32)), .val (.int (2 : Int32)), .val (.int (2 : Int32)), .unset]) (plainFor_of_name pn_0) hn (fun m => by first | (simp [entryFrame, mkF, argsToLocals, Value.category]; done) | rfl) ?_
  refine W.iload 2 d_method_7_0 rfl rfl ?_
  refine W.iloadN 3 d_method_7_2 rfl rfl ?_
  refine W.icmp_ne 8 6 d_method_7_3 rfl rfl (fun hc => absurd (by decide) hc) (fun _ => ?_)
  refine W.iconst 7 d_method_7_6 rfl (0 : Int32) rfl ?_
  exact W.ireturn d_method_7_7 rfl ⟨rfl, rfl⟩ (by decide) (by decide)
theorem c_mt012 (l : Launch) (Z : State) (a0 : Array Value) (hw : HwT Z a0) (t : Addr) (m : Int32) (h : Heap) (n0 : Nat) (hn : n0 ≤ h.size) (A : Ary Z h t .int [(.int (own_exp (own_A01 m) (2 : Int32) (0 : Int32))), (.int (own_exp (own_A01 m) (2 : Int32) (1 : Int32))), (.int (own_exp (own_A01 m) (2 : Int32) (2 : Int32)))]) : Con l Z (⟨"com/example/eccentra/eccentra/MainVertexDistancesPinLaw", "matches", "([IIZZI)Z"⟩ : MethodName) method_8_code 5 (some .boolean) ({ frames := 4, cells := 0, slots := 0, locals := 110 } : Room) #[(.ref t), (.int m), (.int (0 : Int32)), (.int (1 : Int32)), (.int (2 : Int32))] h n0 (fun r h' => r = some (.int 1) ∧ h' = h) := by
  refine ConG.of_W (Ls := #[.val (.ref t), .val (.int m), .val (.int (0 : Int32)), .val (.int (1 : Int32)), .val (.int (2 : Int32))]) (plainFor_of_name pn_0) hn (fun m => by first | (simp [entryFrame, mkF, argsToLocals, Value.category]; done) | rfl) ?_
  refine W.aloadN 1 d_method_8_0 rfl rfl rfl ?_
  refine W.iconst 2 d_method_8_1 rfl (0 : Int32) rfl ?_
  refine W.iaload 3 d_method_8_2 rfl A 0 (by decide) (by decide) (.int (own_exp (own_A01 m) (2 : Int32) (0 : Int32))) rfl ?_
  refine W.iloadN 4 d_method_8_3 rfl rfl ?_
  refine W.iloadN 5 d_method_8_4 rfl rfl ?_
  refine W.iloadN 6 d_method_8_5 rfl rfl ?_
  refine W.iload 8 d_method_8_6 rfl rfl ?_
  refine W.iconst 9 d_method_8_8 rfl (0 : Int32) rfl ?_
  refine W.callS (rest := [(.int (own_exp (own_A01 m) (2 : Int32) (0 : Int32)))]) (argsL := [(.int m), (.int (0 : Int32)), (.int (1 : Int32)), (.int (2 : Int32)), (.int (0 : Int32))]) 12 d_method_8_9 rfl (fun hn => c_exp0120 l Z a0 hw m _ n0 hn) (wd_138 hw) (wd_139 hw) (wd_4 hw) (wd_140 hw) (by decide) pd_9 rfl rfl rfl (by decide) 1 (Nat.le_of_ble_eq_true rfl) (by decide) (by decide) (by decide) ?_
  rintro v1679 h1679 ⟨rfl, rfl⟩
  show WG _ _ _ _ _ _ _ _ _ _ _ _ 0 0 12 #[.val (.ref t), .val (.int m), .val (.int (0 : Int32)), .val (.int (1 : Int32)), .val (.int (2 : Int32))] [(.int (own_exp (own_A01 m) (2 : Int32) (0 : Int32))), (.int (own_exp (own_A01 m) (2 : Int32) (0 : Int32)))]
  refine W.icmp_ne 49 15 d_method_8_12 rfl rfl (fun hc => absurd rfl hc) (fun _ => ?_)
  refine W.aloadN 16 d_method_8_15 rfl rfl rfl ?_
  refine W.iconst 17 d_method_8_16 rfl (1 : Int32) rfl ?_
  refine W.iaload 18 d_method_8_17 rfl A 1 (by decide) (by decide) (.int (own_exp (own_A01 m) (2 : Int32) (1 : Int32))) rfl ?_
  refine W.iloadN 19 d_method_8_18 rfl rfl ?_
  refine W.iloadN 20 d_method_8_19 rfl rfl ?_
  refine W.iloadN 21 d_method_8_20 rfl rfl ?_
  refine W.iload 23 d_method_8_21 rfl rfl ?_
  refine W.iconst 24 d_method_8_23 rfl (1 : Int32) rfl ?_
  refine W.callS (rest := [(.int (own_exp (own_A01 m) (2 : Int32) (1 : Int32)))]) (argsL := [(.int m), (.int (0 : Int32)), (.int (1 : Int32)), (.int (2 : Int32)), (.int (1 : Int32))]) 27 d_method_8_24 rfl (fun hn => c_exp0121 l Z a0 hw m _ n0 hn) (wd_138 hw) (wd_139 hw) (wd_4 hw) (wd_140 hw) (by decide) pd_9 rfl rfl rfl (by decide) 1 (Nat.le_of_ble_eq_true rfl) (by decide) (by decide) (by decide) ?_
  rintro v1680 h1680 ⟨rfl, rfl⟩
  show WG _ _ _ _ _ _ _ _ _ _ _ _ 0 0 27 #[.val (.ref t), .val (.int m), .val (.int (0 : Int32)), .val (.int (1 : Int32)), .val (.int (2 : Int32))] [(.int (own_exp (own_A01 m) (2 : Int32) (1 : Int32))), (.int (own_exp (own_A01 m) (2 : Int32) (1 : Int32)))]
  refine W.icmp_ne 49 30 d_method_8_27 rfl rfl (fun hc => absurd rfl hc) (fun _ => ?_)
  refine W.aloadN 31 d_method_8_30 rfl rfl rfl ?_
  refine W.iconst 32 d_method_8_31 rfl (2 : Int32) rfl ?_
  refine W.iaload 33 d_method_8_32 rfl A 2 (by decide) (by decide) (.int (own_exp (own_A01 m) (2 : Int32) (2 : Int32))) rfl ?_
  refine W.iloadN 34 d_method_8_33 rfl rfl ?_
  refine W.iloadN 35 d_method_8_34 rfl rfl ?_
  refine W.iloadN 36 d_method_8_35 rfl rfl ?_
  refine W.iload 38 d_method_8_36 rfl rfl ?_
  refine W.iconst 39 d_method_8_38 rfl (2 : Int32) rfl ?_
  refine W.callS (rest := [(.int (own_exp (own_A01 m) (2 : Int32) (2 : Int32)))]) (argsL := [(.int m), (.int (0 : Int32)), (.int (1 : Int32)), (.int (2 : Int32)), (.int (2 : Int32))]) 42 d_method_8_39 rfl (fun hn => c_exp0122 l Z a0 hw m _ n0 hn) (wd_138 hw) (wd_139 hw) (wd_4 hw) (wd_140 hw) (by decide) pd_9 rfl rfl rfl (by decide) 1 (Nat.le_of_ble_eq_true rfl) (by decide) (by decide) (by decide) ?_
  rintro v1681 h1681 ⟨rfl, rfl⟩
  show WG _ _ _ _ _ _ _ _ _ _ _ _ 0 0 42 #[.val (.ref t), .val (.int m), .val (.int (0 : Int32)), .val (.int (1 : Int32)), .val (.int (2 : Int32))] [(.int (own_exp (own_A01 m) (2 : Int32) (2 : Int32))), (.int (own_exp (own_A01 m) (2 : Int32) (2 : Int32)))]
  refine W.icmp_ne 49 45 d_method_8_42 rfl rfl (fun hc => absurd rfl hc) (fun _ => ?_)
  refine W.iconst 46 d_method_8_45 rfl (1 : Int32) rfl ?_
  refine W.goto 50 d_method_8_46 rfl ?_
  exact W.ireturnN (t := .boolean) d_method_8_50 rfl (by simp) (1 : Int32) rfl ⟨rfl, rfl⟩ (by decide) (by decide)
theorem c_mt01 (l : Launch) (Z : State) (a0 : Array Value) (hw : HwT Z a0) (t : Addr) (m s : Int32) (h : Heap) (n0 : Nat) (hn : n0 ≤ h.size) (hs : s = 0 ∨ s = 1 ∨ s = 2) (A : Ary Z h t .int [(.int (own_exp (own_A01 m) s (0 : Int32))), (.int (own_exp (own_A01 m) s (1 : Int32))), (.int (own_exp (own_A01 m) s (2 : Int32)))]) : Con l Z (⟨"com/example/eccentra/eccentra/MainVertexDistancesPinLaw", "matches", "([IIZZI)Z"⟩ : MethodName) method_8_code 5 (some .boolean) ({ frames := 4, cells := 0, slots := 0, locals := 110 } : Room) #[(.ref t), (.int m), (.int (0 : Int32)), (.int (1 : Int32)), (.int s)] h n0 (fun r h' => r = some (.int 1) ∧ h' = h) := by
  rcases hs with rfl | rfl | rfl
  · exact c_mt010 l Z a0 hw t m h n0 hn A
  · exact c_mt011 l Z a0 hw t m h n0 hn A
  · exact c_mt012 l Z a0 hw t m h n0 hn A
theorem c_stp1101 (l : Launch) (Z : State) (a0 : Array Value) (hw : HwT Z a0) (m : Int32) (h : Heap) (n0 : Nat) (hn : n0 ≤ h.size) : Con l Z (⟨"com/example/eccentra/eccentra/MainVertexDistancesPinLaw", "step", "(IZZII)Z"⟩ : MethodName) method_6_code 5 (some .boolean) ({ frames := 2, cells := 0, slots := 0, locals := 40 } : Room) #[(.int m), (.int (1 : Int32)), (.int (1 : Int32)), (.int (0 : Int32)), (.int (1 : Int32))] h n0 (fun r h' => r = some (.int (own_h m (1 : Int32))) ∧ h' = h) := by
  refine ConG.of_W (Ls := #[.val (.int m), .val (.int (1 : Int32)), .val (.int (1 : Int32)), .val (.int (0 : Int32)), .val (.int (1 : Int32))]) (plainFor_of_name pn_0) hn (fun m => by first | (simp [entryFrame, mkF, argsToLocals, Value.category]; done) | rfl) ?_
  refine W.iloadN 1 d_method_6_0 rfl rfl ?_
  refine W.if_eq 15 4 d_method_6_1 rfl rfl (fun hc => absurd hc (by decide)) (fun _ => ?_)
  refine W.iloadN 5 d_method_6_4 rfl rfl ?_
  refine W.iloadN 6 d_method_6_5 rfl rfl ?_
  refine W.iloadN 7 d_method_6_6 rfl rfl ?_
  refine W.iload 9 d_method_6_7 rfl rfl ?_
  refine W.callS (rest := []) (argsL := [(.int m), (.int (1 : Int32)), (.int (0 : Int32)), (.int (1 : Int32))]) 12 d_method_6_9 rfl (fun hn => c_has101 l Z a0 hw m _ n0 hn) (wd_9 hw) (wd_10 hw) (wd_4 hw) (wd_11 hw) (by decide) pd_1 rfl rfl rfl (by decide) 0 (Nat.le_of_ble_eq_true rfl) (by decide) (by decide) (by decide) ?_
  rintro v1682 h1682 ⟨rfl, rfl⟩
  show WG _ _ _ _ _ _ _ _ _ _ _ _ 0 0 12 #[.val (.int m), .val (.int (1 : Int32)), .val (.int (1 : Int32)), .val (.int (0 : Int32)), .val (.int (1 : Int32))] [(.int (own_h m (1 : Int32)))]
  refine W.goto 23 d_method_6_12 rfl ?_
  exact W.ireturnN (t := .boolean) d_method_6_23 rfl (by simp) (own_h m (1 : Int32)) (own_h_nar _ _) ⟨rfl, rfl⟩ (by decide) (by decide)
theorem c_stp1102 (l : Launch) (Z : State) (a0 : Array Value) (hw : HwT Z a0) (m : Int32) (h : Heap) (n0 : Nat) (hn : n0 ≤ h.size) : Con l Z (⟨"com/example/eccentra/eccentra/MainVertexDistancesPinLaw", "step", "(IZZII)Z"⟩ : MethodName) method_6_code 5 (some .boolean) ({ frames := 2, cells := 0, slots := 0, locals := 40 } : Room) #[(.int m), (.int (1 : Int32)), (.int (1 : Int32)), (.int (0 : Int32)), (.int (2 : Int32))] h n0 (fun r h' => r = some (.int (own_h m (2 : Int32))) ∧ h' = h) := by
  refine ConG.of_W (Ls := #[.val (.int m), .val (.int (1 : Int32)), .val (.int (1 : Int32)), .val (.int (0 : Int32)), .val (.int (2 : Int32))]) (plainFor_of_name pn_0) hn (fun m => by first | (simp [entryFrame, mkF, argsToLocals, Value.category]; done) | rfl) ?_
  refine W.iloadN 1 d_method_6_0 rfl rfl ?_
  refine W.if_eq 15 4 d_method_6_1 rfl rfl (fun hc => absurd hc (by decide)) (fun _ => ?_)
  refine W.iloadN 5 d_method_6_4 rfl rfl ?_
  refine W.iloadN 6 d_method_6_5 rfl rfl ?_
  refine W.iloadN 7 d_method_6_6 rfl rfl ?_
  refine W.iload 9 d_method_6_7 rfl rfl ?_
  refine W.callS (rest := []) (argsL := [(.int m), (.int (1 : Int32)), (.int (0 : Int32)), (.int (2 : Int32))]) 12 d_method_6_9 rfl (fun hn => c_has102 l Z a0 hw m _ n0 hn) (wd_9 hw) (wd_10 hw) (wd_4 hw) (wd_11 hw) (by decide) pd_1 rfl rfl rfl (by decide) 0 (Nat.le_of_ble_eq_true rfl) (by decide) (by decide) (by decide) ?_
  rintro v1683 h1683 ⟨rfl, rfl⟩
  show WG _ _ _ _ _ _ _ _ _ _ _ _ 0 0 12 #[.val (.int m), .val (.int (1 : Int32)), .val (.int (1 : Int32)), .val (.int (0 : Int32)), .val (.int (2 : Int32))] [(.int (own_h m (2 : Int32)))]
  refine W.goto 23 d_method_6_12 rfl ?_
  exact W.ireturnN (t := .boolean) d_method_6_23 rfl (by simp) (own_h m (2 : Int32)) (own_h_nar _ _) ⟨rfl, rfl⟩ (by decide) (by decide)
theorem c_stp1110 (l : Launch) (Z : State) (a0 : Array Value) (hw : HwT Z a0) (m : Int32) (h : Heap) (n0 : Nat) (hn : n0 ≤ h.size) : Con l Z (⟨"com/example/eccentra/eccentra/MainVertexDistancesPinLaw", "step", "(IZZII)Z"⟩ : MethodName) method_6_code 5 (some .boolean) ({ frames := 2, cells := 0, slots := 0, locals := 40 } : Room) #[(.int m), (.int (1 : Int32)), (.int (1 : Int32)), (.int (1 : Int32)), (.int (0 : Int32))] h n0 (fun r h' => r = some (.int (own_h m (3 : Int32))) ∧ h' = h) := by
  refine ConG.of_W (Ls := #[.val (.int m), .val (.int (1 : Int32)), .val (.int (1 : Int32)), .val (.int (1 : Int32)), .val (.int (0 : Int32))]) (plainFor_of_name pn_0) hn (fun m => by first | (simp [entryFrame, mkF, argsToLocals, Value.category]; done) | rfl) ?_
  refine W.iloadN 1 d_method_6_0 rfl rfl ?_
  refine W.if_eq 15 4 d_method_6_1 rfl rfl (fun hc => absurd hc (by decide)) (fun _ => ?_)
  refine W.iloadN 5 d_method_6_4 rfl rfl ?_
  refine W.iloadN 6 d_method_6_5 rfl rfl ?_
  refine W.iloadN 7 d_method_6_6 rfl rfl ?_
  refine W.iload 9 d_method_6_7 rfl rfl ?_
  refine W.callS (rest := []) (argsL := [(.int m), (.int (1 : Int32)), (.int (1 : Int32)), (.int (0 : Int32))]) 12 d_method_6_9 rfl (fun hn => c_has110 l Z a0 hw m _ n0 hn) (wd_9 hw) (wd_10 hw) (wd_4 hw) (wd_11 hw) (by decide) pd_1 rfl rfl rfl (by decide) 0 (Nat.le_of_ble_eq_true rfl) (by decide) (by decide) (by decide) ?_
  rintro v1684 h1684 ⟨rfl, rfl⟩
  show WG _ _ _ _ _ _ _ _ _ _ _ _ 0 0 12 #[.val (.int m), .val (.int (1 : Int32)), .val (.int (1 : Int32)), .val (.int (1 : Int32)), .val (.int (0 : Int32))] [(.int (own_h m (3 : Int32)))]
  refine W.goto 23 d_method_6_12 rfl ?_
  exact W.ireturnN (t := .boolean) d_method_6_23 rfl (by simp) (own_h m (3 : Int32)) (own_h_nar _ _) ⟨rfl, rfl⟩ (by decide) (by decide)
theorem c_stp1112 (l : Launch) (Z : State) (a0 : Array Value) (hw : HwT Z a0) (m : Int32) (h : Heap) (n0 : Nat) (hn : n0 ≤ h.size) : Con l Z (⟨"com/example/eccentra/eccentra/MainVertexDistancesPinLaw", "step", "(IZZII)Z"⟩ : MethodName) method_6_code 5 (some .boolean) ({ frames := 2, cells := 0, slots := 0, locals := 40 } : Room) #[(.int m), (.int (1 : Int32)), (.int (1 : Int32)), (.int (1 : Int32)), (.int (2 : Int32))] h n0 (fun r h' => r = some (.int (own_h m (5 : Int32))) ∧ h' = h) := by
  refine ConG.of_W (Ls := #[.val (.int m), .val (.int (1 : Int32)), .val (.int (1 : Int32)), .val (.int (1 : Int32)), .val (.int (2 : Int32))]) (plainFor_of_name pn_0) hn (fun m => by first | (simp [entryFrame, mkF, argsToLocals, Value.category]; done) | rfl) ?_
  refine W.iloadN 1 d_method_6_0 rfl rfl ?_
  refine W.if_eq 15 4 d_method_6_1 rfl rfl (fun hc => absurd hc (by decide)) (fun _ => ?_)
  refine W.iloadN 5 d_method_6_4 rfl rfl ?_
  refine W.iloadN 6 d_method_6_5 rfl rfl ?_
  refine W.iloadN 7 d_method_6_6 rfl rfl ?_
  refine W.iload 9 d_method_6_7 rfl rfl ?_
  refine W.callS (rest := []) (argsL := [(.int m), (.int (1 : Int32)), (.int (1 : Int32)), (.int (2 : Int32))]) 12 d_method_6_9 rfl (fun hn => c_has112 l Z a0 hw m _ n0 hn) (wd_9 hw) (wd_10 hw) (wd_4 hw) (wd_11 hw) (by decide) pd_1 rfl rfl rfl (by decide) 0 (Nat.le_of_ble_eq_true rfl) (by decide) (by decide) (by decide) ?_
  rintro v1685 h1685 ⟨rfl, rfl⟩
  show WG _ _ _ _ _ _ _ _ _ _ _ _ 0 0 12 #[.val (.int m), .val (.int (1 : Int32)), .val (.int (1 : Int32)), .val (.int (1 : Int32)), .val (.int (2 : Int32))] [(.int (own_h m (5 : Int32)))]
  refine W.goto 23 d_method_6_12 rfl ?_
  exact W.ireturnN (t := .boolean) d_method_6_23 rfl (by simp) (own_h m (5 : Int32)) (own_h_nar _ _) ⟨rfl, rfl⟩ (by decide) (by decide)
theorem c_stp1120 (l : Launch) (Z : State) (a0 : Array Value) (hw : HwT Z a0) (m : Int32) (h : Heap) (n0 : Nat) (hn : n0 ≤ h.size) : Con l Z (⟨"com/example/eccentra/eccentra/MainVertexDistancesPinLaw", "step", "(IZZII)Z"⟩ : MethodName) method_6_code 5 (some .boolean) ({ frames := 2, cells := 0, slots := 0, locals := 40 } : Room) #[(.int m), (.int (1 : Int32)), (.int (1 : Int32)), (.int (2 : Int32)), (.int (0 : Int32))] h n0 (fun r h' => r = some (.int (own_h m (6 : Int32))) ∧ h' = h) := by
  refine ConG.of_W (Ls := #[.val (.int m), .val (.int (1 : Int32)), .val (.int (1 : Int32)), .val (.int (2 : Int32)), .val (.int (0 : Int32))]) (plainFor_of_name pn_0) hn (fun m => by first | (simp [entryFrame, mkF, argsToLocals, Value.category]; done) | rfl) ?_
  refine W.iloadN 1 d_method_6_0 rfl rfl ?_
  refine W.if_eq 15 4 d_method_6_1 rfl rfl (fun hc => absurd hc (by decide)) (fun _ => ?_)
  refine W.iloadN 5 d_method_6_4 rfl rfl ?_
  refine W.iloadN 6 d_method_6_5 rfl rfl ?_
  refine W.iloadN 7 d_method_6_6 rfl rfl ?_
  refine W.iload 9 d_method_6_7 rfl rfl ?_
  refine W.callS (rest := []) (argsL := [(.int m), (.int (1 : Int32)), (.int (2 : Int32)), (.int (0 : Int32))]) 12 d_method_6_9 rfl (fun hn => c_has120 l Z a0 hw m _ n0 hn) (wd_9 hw) (wd_10 hw) (wd_4 hw) (wd_11 hw) (by decide) pd_1 rfl rfl rfl (by decide) 0 (Nat.le_of_ble_eq_true rfl) (by decide) (by decide) (by decide) ?_
  rintro v1686 h1686 ⟨rfl, rfl⟩
  show WG _ _ _ _ _ _ _ _ _ _ _ _ 0 0 12 #[.val (.int m), .val (.int (1 : Int32)), .val (.int (1 : Int32)), .val (.int (2 : Int32)), .val (.int (0 : Int32))] [(.int (own_h m (6 : Int32)))]
  refine W.goto 23 d_method_6_12 rfl ?_
  exact W.ireturnN (t := .boolean) d_method_6_23 rfl (by simp) (own_h m (6 : Int32)) (own_h_nar _ _) ⟨rfl, rfl⟩ (by decide) (by decide)
theorem c_stp1121 (l : Launch) (Z : State) (a0 : Array Value) (hw : HwT Z a0) (m : Int32) (h : Heap) (n0 : Nat) (hn : n0 ≤ h.size) : Con l Z (⟨"com/example/eccentra/eccentra/MainVertexDistancesPinLaw", "step", "(IZZII)Z"⟩ : MethodName) method_6_code 5 (some .boolean) ({ frames := 2, cells := 0, slots := 0, locals := 40 } : Room) #[(.int m), (.int (1 : Int32)), (.int (1 : Int32)), (.int (2 : Int32)), (.int (1 : Int32))] h n0 (fun r h' => r = some (.int (own_h m (7 : Int32))) ∧ h' = h) := by
  refine ConG.of_W (Ls := #[.val (.int m), .val (.int (1 : Int32)), .val (.int (1 : Int32)), .val (.int (2 : Int32)), .val (.int (1 : Int32))]) (plainFor_of_name pn_0) hn (fun m => by first | (simp [entryFrame, mkF, argsToLocals, Value.category]; done) | rfl) ?_
  refine W.iloadN 1 d_method_6_0 rfl rfl ?_
  refine W.if_eq 15 4 d_method_6_1 rfl rfl (fun hc => absurd hc (by decide)) (fun _ => ?_)
  refine W.iloadN 5 d_method_6_4 rfl rfl ?_
  refine W.iloadN 6 d_method_6_5 rfl rfl ?_
  refine W.iloadN 7 d_method_6_6 rfl rfl ?_
  refine W.iload 9 d_method_6_7 rfl rfl ?_
  refine W.callS (rest := []) (argsL := [(.int m), (.int (1 : Int32)), (.int (2 : Int32)), (.int (1 : Int32))]) 12 d_method_6_9 rfl (fun hn => c_has121 l Z a0 hw m _ n0 hn) (wd_9 hw) (wd_10 hw) (wd_4 hw) (wd_11 hw) (by decide) pd_1 rfl rfl rfl (by decide) 0 (Nat.le_of_ble_eq_true rfl) (by decide) (by decide) (by decide) ?_
  rintro v1687 h1687 ⟨rfl, rfl⟩
  show WG _ _ _ _ _ _ _ _ _ _ _ _ 0 0 12 #[.val (.int m), .val (.int (1 : Int32)), .val (.int (1 : Int32)), .val (.int (2 : Int32)), .val (.int (1 : Int32))] [(.int (own_h m (7 : Int32)))]
  refine W.goto 23 d_method_6_12 rfl ?_
  exact W.ireturnN (t := .boolean) d_method_6_23 rfl (by simp) (own_h m (7 : Int32)) (own_h_nar _ _) ⟨rfl, rfl⟩ (by decide) (by decide)
theorem c_exp1100 (l : Launch) (Z : State) (a0 : Array Value) (hw : HwT Z a0) (m : Int32) (h : Heap) (n0 : Nat) (hn : n0 ≤ h.size) : Con l Z (⟨"com/example/eccentra/eccentra/MainVertexDistancesPinLaw", "expected", "(IZZII)I"⟩ : MethodName) method_7_code 6 (some .int) ({ frames := 3, cells := 0, slots := 0, locals := 70 } : Room) #[(.int m), (.int (1 : Int32)), (.int (1 : Int32)), (.int (0 : Int32)), (.int (0 : Int32))] h n0 (fun r h' => r = some (.int (own_exp (own_A11 m) (0 : Int32) (0 : Int32))) ∧ h' = h) := by
  refine ConG.of_W (Ls := #[.val (.int m), .val (.int (1 : Int32)), .val (.int (1 : Int32)), .val (.int (0 : Int32)), .val (.int (0 : Int32)), .unset]) (plainFor_of_name pn_0) hn (fun m => by first | (simp [entryFrame, mkF, argsToLocals, Value.category]; done) | rfl) ?_
  refine W.iload 2 d_method_7_0 rfl rfl ?_
  refine W.iloadN 3 d_method_7_2 rfl rfl ?_
  refine W.icmp_ne 8 6 d_method_7_3 rfl rfl (fun hc => absurd (by decide) hc) (fun _ => ?_)
  refine W.iconst 7 d_method_7_6 rfl (0 : Int32) rfl ?_
  exact W.ireturn d_method_7_7 rfl ⟨rfl, rfl⟩ (by decide) (by decide)
theorem c_exp1101 (l : Launch) (Z : State) (a0 : Array Value) (hw : HwT Z a0) (m : Int32) (h : Heap) (n0 : Nat) (hn : n0 ≤ h.size) : Con l Z (⟨"com/example/eccentra/eccentra/MainVertexDistancesPinLaw", "expected", "(IZZII)I"⟩ : MethodName) method_7_code 6 (some .int) ({ frames := 3, cells := 0, slots := 0, locals := 70 } : Room) #[(.int m), (.int (1 : Int32)), (.int (1 : Int32)), (.int (0 : Int32)), (.int (1 : Int32))] h n0 (fun r h' => r = some (.int (own_exp (own_A11 m) (0 : Int32) (1 : Int32))) ∧ h' = h) := by
  refine ConG.of_W (Ls := #[.val (.int m), .val (.int (1 : Int32)), .val (.int (1 : Int32)), .val (.int (0 : Int32)), .val (.int (1 : Int32)), .unset]) (plainFor_of_name pn_0) hn (fun m => by first | (simp [entryFrame, mkF, argsToLocals, Value.category]; done) | rfl) ?_
  refine W.iload 2 d_method_7_0 rfl rfl ?_
  refine W.iloadN 3 d_method_7_2 rfl rfl ?_
  refine W.icmp_ne 8 6 d_method_7_3 rfl rfl (fun _ => ?_) (fun hc => absurd hc (by decide))
  refine W.iloadN 9 d_method_7_8 rfl rfl ?_
  refine W.iloadN 10 d_method_7_9 rfl rfl ?_
  refine W.iloadN 11 d_method_7_10 rfl rfl ?_
  refine W.iloadN 12 d_method_7_11 rfl rfl ?_
  refine W.iload 14 d_method_7_12 rfl rfl ?_
  refine W.callS (rest := []) (argsL := [(.int m), (.int (1 : Int32)), (.int (1 : Int32)), (.int (0 : Int32)), (.int (1 : Int32))]) 17 d_method_7_14 rfl (fun hn => c_stp1101 l Z a0 hw m _ n0 hn) (wd_141 hw) (wd_142 hw) (wd_4 hw) (wd_143 hw) (by decide) pd_8 rfl rfl rfl (by decide) 0 (Nat.le_of_ble_eq_true rfl) (by decide) (by decide) (by decide) ?_
  rintro v1688 h1688 ⟨rfl, rfl⟩
  show WG _ _ _ _ _ _ _ _ _ _ _ _ 0 0 17 #[.val (.int m), .val (.int (1 : Int32)), .val (.int (1 : Int32)), .val (.int (0 : Int32)), .val (.int (1 : Int32)), .unset] [(.int (own_h m (1 : Int32)))]
  refine W.if_eq 22 20 d_method_7_17 rfl rfl ?_ ?_
  · intro hc1689
    refine W.iconst 23 d_method_7_22 rfl (3 : Int32) rfl ?_
    refine W.iloadN 24 d_method_7_23 rfl rfl ?_
    refine W.isub 25 d_method_7_24 rfl (3 : Int32) (by decide) ?_
    refine W.iload 27 d_method_7_25 rfl rfl ?_
    refine W.isub 28 d_method_7_27 rfl (2 : Int32) (by decide) ?_
    refine W.istore 30 d_method_7_28 rfl #[.val (.int m), .val (.int (1 : Int32)), .val (.int (1 : Int32)), .val (.int (0 : Int32)), .val (.int (1 : Int32)), .val (.int (2 : Int32))] rfl ?_
    refine W.iloadN 31 d_method_7_30 rfl rfl ?_
    refine W.iloadN 32 d_method_7_31 rfl rfl ?_
    refine W.iloadN 33 d_method_7_32 rfl rfl ?_
    refine W.iloadN 34 d_method_7_33 rfl rfl ?_
    refine W.iload 36 d_method_7_34 rfl rfl ?_
    refine W.callS (rest := []) (argsL := [(.int m), (.int (1 : Int32)), (.int (1 : Int32)), (.int (0 : Int32)), (.int (2 : Int32))]) 39 d_method_7_36 rfl (fun hn => c_stp1102 l Z a0 hw m _ n0 hn) (wd_141 hw) (wd_142 hw) (wd_4 hw) (wd_143 hw) (by decide) pd_8 rfl rfl rfl (by decide) 0 (Nat.le_of_ble_eq_true rfl) (by decide) (by decide) (by decide) ?_
    rintro v1690 h1690 ⟨rfl, rfl⟩
    show WG _ _ _ _ _ _ _ _ _ _ _ _ 0 0 39 #[.val (.int m), .val (.int (1 : Int32)), .val (.int (1 : Int32)), .val (.int (0 : Int32)), .val (.int (1 : Int32)), .val (.int (2 : Int32))] [(.int (own_h m (2 : Int32)))]
    refine W.if_eq 57 42 d_method_7_39 rfl rfl ?_ ?_
    · intro hc1691
      refine W.iconst 58 d_method_7_57 rfl (-1 : Int32) rfl ?_
      exact W.ireturn d_method_7_58 rfl ⟨by rw [show (own_exp (own_A11 m) (0 : Int32) (1 : Int32)) = (if (own_h m (1 : Int32)) = 0 then (if (own_h m (2 : Int32)) = 0 then -1 else if (own_h m (7 : Int32)) = 0 then -1 else 2) else 1) from rfl, if_pos hc1689, if_pos hc1691], rfl⟩ (by decide) (by decide)
    · intro hc1691
      refine W.iloadN 43 d_method_7_42 rfl rfl ?_
      refine W.iloadN 44 d_method_7_43 rfl rfl ?_
      refine W.iloadN 45 d_method_7_44 rfl rfl ?_
      refine W.iload 47 d_method_7_45 rfl rfl ?_
      refine W.iload 49 d_method_7_47 rfl rfl ?_
      refine W.callS (rest := []) (argsL := [(.int m), (.int (1 : Int32)), (.int (1 : Int32)), (.int (2 : Int32)), (.int (1 : Int32))]) 52 d_method_7_49 rfl (fun hn => c_stp1121 l Z a0 hw m _ n0 hn) (wd_141 hw) (wd_142 hw) (wd_4 hw) (wd_143 hw) (by decide) pd_8 rfl rfl rfl (by decide) 0 (Nat.le_of_ble_eq_true rfl) (by decide) (by decide) (by decide) ?_
      rintro v1692 h1692 ⟨rfl, rfl⟩
      show WG _ _ _ _ _ _ _ _ _ _ _ _ 0 0 52 #[.val (.int m), .val (.int (1 : Int32)), .val (.int (1 : Int32)), .val (.int (0 : Int32)), .val (.int (1 : Int32)), .val (.int (2 : Int32))] [(.int (own_h m (7 : Int32)))]
      refine W.if_eq 57 55 d_method_7_52 rfl rfl ?_ ?_
      · intro hc1693
        refine W.iconst 58 d_method_7_57 rfl (-1 : Int32) rfl ?_
        exact W.ireturn d_method_7_58 rfl ⟨by rw [show (own_exp (own_A11 m) (0 : Int32) (1 : Int32)) = (if (own_h m (1 : Int32)) = 0 then (if (own_h m (2 : Int32)) = 0 then -1 else if (own_h m (7 : Int32)) = 0 then -1 else 2) else 1) from rfl, if_pos hc1689, if_neg hc1691, if_pos hc1693], rfl⟩ (by decide) (by decide)
      · intro hc1693
        refine W.iconst 56 d_method_7_55 rfl (2 : Int32) rfl ?_
        exact W.ireturn d_method_7_56 rfl ⟨by rw [show (own_exp (own_A11 m) (0 : Int32) (1 : Int32)) = (if (own_h m (1 : Int32)) = 0 then (if (own_h m (2 : Int32)) = 0 then -1 else if (own_h m (7 : Int32)) = 0 then -1 else 2) else 1) from rfl, if_pos hc1689, if_neg hc1691, if_neg hc1693], rfl⟩ (by decide) (by decide)
  · intro hc1689
    refine W.iconst 21 d_method_7_20 rfl (1 : Int32) rfl ?_
    exact W.ireturn d_method_7_21 rfl ⟨by rw [show (own_exp (own_A11 m) (0 : Int32) (1 : Int32)) = (if (own_h m (1 : Int32)) = 0 then (if (own_h m (2 : Int32)) = 0 then -1 else if (own_h m (7 : Int32)) = 0 then -1 else 2) else 1) from rfl, if_neg hc1689], rfl⟩ (by decide) (by decide)
theorem c_exp1102 (l : Launch) (Z : State) (a0 : Array Value) (hw : HwT Z a0) (m : Int32) (h : Heap) (n0 : Nat) (hn : n0 ≤ h.size) : Con l Z (⟨"com/example/eccentra/eccentra/MainVertexDistancesPinLaw", "expected", "(IZZII)I"⟩ : MethodName) method_7_code 6 (some .int) ({ frames := 3, cells := 0, slots := 0, locals := 70 } : Room) #[(.int m), (.int (1 : Int32)), (.int (1 : Int32)), (.int (0 : Int32)), (.int (2 : Int32))] h n0 (fun r h' => r = some (.int (own_exp (own_A11 m) (0 : Int32) (2 : Int32))) ∧ h' = h) := by
  refine ConG.of_W (Ls := #[.val (.int m), .val (.int (1 : Int32)), .val (.int (1 : Int32)), .val (.int (0 : Int32)), .val (.int (2 : Int32)), .unset]) (plainFor_of_name pn_0) hn (fun m => by first | (simp [entryFrame, mkF, argsToLocals, Value.category]; done) | rfl) ?_
  refine W.iload 2 d_method_7_0 rfl rfl ?_
  refine W.iloadN 3 d_method_7_2 rfl rfl ?_
  refine W.icmp_ne 8 6 d_method_7_3 rfl rfl (fun _ => ?_) (fun hc => absurd hc (by decide))
  refine W.iloadN 9 d_method_7_8 rfl rfl ?_
  refine W.iloadN 10 d_method_7_9 rfl rfl ?_
  refine W.iloadN 11 d_method_7_10 rfl rfl ?_
  refine W.iloadN 12 d_method_7_11 rfl rfl ?_
  refine W.iload 14 d_method_7_12 rfl rfl ?_
  refine W.callS (rest := []) (argsL := [(.int m), (.int (1 : Int32)), (.int (1 : Int32)), (.int (0 : Int32)), (.int (2 : Int32))]) 17 d_method_7_14 rfl (fun hn => c_stp1102 l Z a0 hw m _ n0 hn) (wd_141 hw) (wd_142 hw) (wd_4 hw) (wd_143 hw) (by decide) pd_8 rfl rfl rfl (by decide) 0 (Nat.le_of_ble_eq_true rfl) (by decide) (by decide) (by decide) ?_
  rintro v1694 h1694 ⟨rfl, rfl⟩
  show WG _ _ _ _ _ _ _ _ _ _ _ _ 0 0 17 #[.val (.int m), .val (.int (1 : Int32)), .val (.int (1 : Int32)), .val (.int (0 : Int32)), .val (.int (2 : Int32)), .unset] [(.int (own_h m (2 : Int32)))]
  refine W.if_eq 22 20 d_method_7_17 rfl rfl ?_ ?_
  · intro hc1695
    refine W.iconst 23 d_method_7_22 rfl (3 : Int32) rfl ?_
    refine W.iloadN 24 d_method_7_23 rfl rfl ?_
    refine W.isub 25 d_method_7_24 rfl (3 : Int32) (by decide) ?_
    refine W.iload 27 d_method_7_25 rfl rfl ?_
    refine W.isub 28 d_method_7_27 rfl (1 : Int32) (by decide) ?_
    refine W.istore 30 d_method_7_28 rfl #[.val (.int m), .val (.int (1 : Int32)), .val (.int (1 : Int32)), .val (.int (0 : Int32)), .val (.int (2 : Int32)), .val (.int (1 : Int32))] rfl ?_
    refine W.iloadN 31 d_method_7_30 rfl rfl ?_
    refine W.iloadN 32 d_method_7_31 rfl rfl ?_
    refine W.iloadN 33 d_method_7_32 rfl rfl ?_
    refine W.iloadN 34 d_method_7_33 rfl rfl ?_
    refine W.iload 36 d_method_7_34 rfl rfl ?_
    refine W.callS (rest := []) (argsL := [(.int m), (.int (1 : Int32)), (.int (1 : Int32)), (.int (0 : Int32)), (.int (1 : Int32))]) 39 d_method_7_36 rfl (fun hn => c_stp1101 l Z a0 hw m _ n0 hn) (wd_141 hw) (wd_142 hw) (wd_4 hw) (wd_143 hw) (by decide) pd_8 rfl rfl rfl (by decide) 0 (Nat.le_of_ble_eq_true rfl) (by decide) (by decide) (by decide) ?_
    rintro v1696 h1696 ⟨rfl, rfl⟩
    show WG _ _ _ _ _ _ _ _ _ _ _ _ 0 0 39 #[.val (.int m), .val (.int (1 : Int32)), .val (.int (1 : Int32)), .val (.int (0 : Int32)), .val (.int (2 : Int32)), .val (.int (1 : Int32))] [(.int (own_h m (1 : Int32)))]
    refine W.if_eq 57 42 d_method_7_39 rfl rfl ?_ ?_
    · intro hc1697
      refine W.iconst 58 d_method_7_57 rfl (-1 : Int32) rfl ?_
      exact W.ireturn d_method_7_58 rfl ⟨by rw [show (own_exp (own_A11 m) (0 : Int32) (2 : Int32)) = (if (own_h m (2 : Int32)) = 0 then (if (own_h m (1 : Int32)) = 0 then -1 else if (own_h m (5 : Int32)) = 0 then -1 else 2) else 1) from rfl, if_pos hc1695, if_pos hc1697], rfl⟩ (by decide) (by decide)
    · intro hc1697
      refine W.iloadN 43 d_method_7_42 rfl rfl ?_
      refine W.iloadN 44 d_method_7_43 rfl rfl ?_
      refine W.iloadN 45 d_method_7_44 rfl rfl ?_
      refine W.iload 47 d_method_7_45 rfl rfl ?_
      refine W.iload 49 d_method_7_47 rfl rfl ?_
      refine W.callS (rest := []) (argsL := [(.int m), (.int (1 : Int32)), (.int (1 : Int32)), (.int (1 : Int32)), (.int (2 : Int32))]) 52 d_method_7_49 rfl (fun hn => c_stp1112 l Z a0 hw m _ n0 hn) (wd_141 hw) (wd_142 hw) (wd_4 hw) (wd_143 hw) (by decide) pd_8 rfl rfl rfl (by decide) 0 (Nat.le_of_ble_eq_true rfl) (by decide) (by decide) (by decide) ?_
      rintro v1698 h1698 ⟨rfl, rfl⟩
      show WG _ _ _ _ _ _ _ _ _ _ _ _ 0 0 52 #[.val (.int m), .val (.int (1 : Int32)), .val (.int (1 : Int32)), .val (.int (0 : Int32)), .val (.int (2 : Int32)), .val (.int (1 : Int32))] [(.int (own_h m (5 : Int32)))]
      refine W.if_eq 57 55 d_method_7_52 rfl rfl ?_ ?_
      · intro hc1699
        refine W.iconst 58 d_method_7_57 rfl (-1 : Int32) rfl ?_
        exact W.ireturn d_method_7_58 rfl ⟨by rw [show (own_exp (own_A11 m) (0 : Int32) (2 : Int32)) = (if (own_h m (2 : Int32)) = 0 then (if (own_h m (1 : Int32)) = 0 then -1 else if (own_h m (5 : Int32)) = 0 then -1 else 2) else 1) from rfl, if_pos hc1695, if_neg hc1697, if_pos hc1699], rfl⟩ (by decide) (by decide)
      · intro hc1699
        refine W.iconst 56 d_method_7_55 rfl (2 : Int32) rfl ?_
        exact W.ireturn d_method_7_56 rfl ⟨by rw [show (own_exp (own_A11 m) (0 : Int32) (2 : Int32)) = (if (own_h m (2 : Int32)) = 0 then (if (own_h m (1 : Int32)) = 0 then -1 else if (own_h m (5 : Int32)) = 0 then -1 else 2) else 1) from rfl, if_pos hc1695, if_neg hc1697, if_neg hc1699], rfl⟩ (by decide) (by decide)
  · intro hc1695
    refine W.iconst 21 d_method_7_20 rfl (1 : Int32) rfl ?_
    exact W.ireturn d_method_7_21 rfl ⟨by rw [show (own_exp (own_A11 m) (0 : Int32) (2 : Int32)) = (if (own_h m (2 : Int32)) = 0 then (if (own_h m (1 : Int32)) = 0 then -1 else if (own_h m (5 : Int32)) = 0 then -1 else 2) else 1) from rfl, if_neg hc1695], rfl⟩ (by decide) (by decide)
theorem c_mt110 (l : Launch) (Z : State) (a0 : Array Value) (hw : HwT Z a0) (t : Addr) (m : Int32) (h : Heap) (n0 : Nat) (hn : n0 ≤ h.size) (A : Ary Z h t .int [(.int (own_exp (own_A11 m) (0 : Int32) (0 : Int32))), (.int (own_exp (own_A11 m) (0 : Int32) (1 : Int32))), (.int (own_exp (own_A11 m) (0 : Int32) (2 : Int32)))]) : Con l Z (⟨"com/example/eccentra/eccentra/MainVertexDistancesPinLaw", "matches", "([IIZZI)Z"⟩ : MethodName) method_8_code 5 (some .boolean) ({ frames := 4, cells := 0, slots := 0, locals := 110 } : Room) #[(.ref t), (.int m), (.int (1 : Int32)), (.int (1 : Int32)), (.int (0 : Int32))] h n0 (fun r h' => r = some (.int 1) ∧ h' = h) := by
  refine ConG.of_W (Ls := #[.val (.ref t), .val (.int m), .val (.int (1 : Int32)), .val (.int (1 : Int32)), .val (.int (0 : Int32))]) (plainFor_of_name pn_0) hn (fun m => by first | (simp [entryFrame, mkF, argsToLocals, Value.category]; done) | rfl) ?_
  refine W.aloadN 1 d_method_8_0 rfl rfl rfl ?_
  refine W.iconst 2 d_method_8_1 rfl (0 : Int32) rfl ?_
  refine W.iaload 3 d_method_8_2 rfl A 0 (by decide) (by decide) (.int (own_exp (own_A11 m) (0 : Int32) (0 : Int32))) rfl ?_
  refine W.iloadN 4 d_method_8_3 rfl rfl ?_
  refine W.iloadN 5 d_method_8_4 rfl rfl ?_
  refine W.iloadN 6 d_method_8_5 rfl rfl ?_
  refine W.iload 8 d_method_8_6 rfl rfl ?_
  refine W.iconst 9 d_method_8_8 rfl (0 : Int32) rfl ?_
  refine W.callS (rest := [(.int (own_exp (own_A11 m) (0 : Int32) (0 : Int32)))]) (argsL := [(.int m), (.int (1 : Int32)), (.int (1 : Int32)), (.int (0 : Int32)), (.int (0 : Int32))]) 12 d_method_8_9 rfl (fun hn => c_exp1100 l Z a0 hw m _ n0 hn) (wd_138 hw) (wd_139 hw) (wd_4 hw) (wd_140 hw) (by decide) pd_9 rfl rfl rfl (by decide) 1 (Nat.le_of_ble_eq_true rfl) (by decide) (by decide) (by decide) ?_
  rintro v1700 h1700 ⟨rfl, rfl⟩
  show WG _ _ _ _ _ _ _ _ _ _ _ _ 0 0 12 #[.val (.ref t), .val (.int m), .val (.int (1 : Int32)), .val (.int (1 : Int32)), .val (.int (0 : Int32))] [(.int (own_exp (own_A11 m) (0 : Int32) (0 : Int32))), (.int (own_exp (own_A11 m) (0 : Int32) (0 : Int32)))]
  refine W.icmp_ne 49 15 d_method_8_12 rfl rfl (fun hc => absurd rfl hc) (fun _ => ?_)
  refine W.aloadN 16 d_method_8_15 rfl rfl rfl ?_
  refine W.iconst 17 d_method_8_16 rfl (1 : Int32) rfl ?_
  refine W.iaload 18 d_method_8_17 rfl A 1 (by decide) (by decide) (.int (own_exp (own_A11 m) (0 : Int32) (1 : Int32))) rfl ?_
  refine W.iloadN 19 d_method_8_18 rfl rfl ?_
  refine W.iloadN 20 d_method_8_19 rfl rfl ?_
  refine W.iloadN 21 d_method_8_20 rfl rfl ?_
  refine W.iload 23 d_method_8_21 rfl rfl ?_
  refine W.iconst 24 d_method_8_23 rfl (1 : Int32) rfl ?_
  refine W.callS (rest := [(.int (own_exp (own_A11 m) (0 : Int32) (1 : Int32)))]) (argsL := [(.int m), (.int (1 : Int32)), (.int (1 : Int32)), (.int (0 : Int32)), (.int (1 : Int32))]) 27 d_method_8_24 rfl (fun hn => c_exp1101 l Z a0 hw m _ n0 hn) (wd_138 hw) (wd_139 hw) (wd_4 hw) (wd_140 hw) (by decide) pd_9 rfl rfl rfl (by decide) 1 (Nat.le_of_ble_eq_true rfl) (by decide) (by decide) (by decide) ?_
  rintro v1701 h1701 ⟨rfl, rfl⟩
  show WG _ _ _ _ _ _ _ _ _ _ _ _ 0 0 27 #[.val (.ref t), .val (.int m), .val (.int (1 : Int32)), .val (.int (1 : Int32)), .val (.int (0 : Int32))] [(.int (own_exp (own_A11 m) (0 : Int32) (1 : Int32))), (.int (own_exp (own_A11 m) (0 : Int32) (1 : Int32)))]
  refine W.icmp_ne 49 30 d_method_8_27 rfl rfl (fun hc => absurd rfl hc) (fun _ => ?_)
  refine W.aloadN 31 d_method_8_30 rfl rfl rfl ?_
  refine W.iconst 32 d_method_8_31 rfl (2 : Int32) rfl ?_
  refine W.iaload 33 d_method_8_32 rfl A 2 (by decide) (by decide) (.int (own_exp (own_A11 m) (0 : Int32) (2 : Int32))) rfl ?_
  refine W.iloadN 34 d_method_8_33 rfl rfl ?_
  refine W.iloadN 35 d_method_8_34 rfl rfl ?_
  refine W.iloadN 36 d_method_8_35 rfl rfl ?_
  refine W.iload 38 d_method_8_36 rfl rfl ?_
  refine W.iconst 39 d_method_8_38 rfl (2 : Int32) rfl ?_
  refine W.callS (rest := [(.int (own_exp (own_A11 m) (0 : Int32) (2 : Int32)))]) (argsL := [(.int m), (.int (1 : Int32)), (.int (1 : Int32)), (.int (0 : Int32)), (.int (2 : Int32))]) 42 d_method_8_39 rfl (fun hn => c_exp1102 l Z a0 hw m _ n0 hn) (wd_138 hw) (wd_139 hw) (wd_4 hw) (wd_140 hw) (by decide) pd_9 rfl rfl rfl (by decide) 1 (Nat.le_of_ble_eq_true rfl) (by decide) (by decide) (by decide) ?_
  rintro v1702 h1702 ⟨rfl, rfl⟩
  show WG _ _ _ _ _ _ _ _ _ _ _ _ 0 0 42 #[.val (.ref t), .val (.int m), .val (.int (1 : Int32)), .val (.int (1 : Int32)), .val (.int (0 : Int32))] [(.int (own_exp (own_A11 m) (0 : Int32) (2 : Int32))), (.int (own_exp (own_A11 m) (0 : Int32) (2 : Int32)))]
  refine W.icmp_ne 49 45 d_method_8_42 rfl rfl (fun hc => absurd rfl hc) (fun _ => ?_)
  refine W.iconst 46 d_method_8_45 rfl (1 : Int32) rfl ?_
  refine W.goto 50 d_method_8_46 rfl ?_
  exact W.ireturnN (t := .boolean) d_method_8_50 rfl (by simp) (1 : Int32) rfl ⟨rfl, rfl⟩ (by decide) (by decide)
theorem c_exp1110 (l : Launch) (Z : State) (a0 : Array Value) (hw : HwT Z a0) (m : Int32) (h : Heap) (n0 : Nat) (hn : n0 ≤ h.size) : Con l Z (⟨"com/example/eccentra/eccentra/MainVertexDistancesPinLaw", "expected", "(IZZII)I"⟩ : MethodName) method_7_code 6 (some .int) ({ frames := 3, cells := 0, slots := 0, locals := 70 } : Room) #[(.int m), (.int (1 : Int32)), (.int (1 : Int32)), (.int (1 : Int32)), (.int (0 : Int32))] h n0 (fun r h' => r = some (.int (own_exp (own_A11 m) (1 : Int32) (0 : Int32))) ∧ h' = h) := by
  refine ConG.of_W (Ls := #[.val (.int m), .val (.int (1 : Int32)), .val (.int (1 : Int32)), .val (.int (1 : Int32)), .val (.int (0 : Int32)), .unset]) (plainFor_of_name pn_0) hn (fun m => by first | (simp [entryFrame, mkF, argsToLocals, Value.category]; done) | rfl) ?_
  refine W.iload 2 d_method_7_0 rfl rfl ?_
  refine W.iloadN 3 d_method_7_2 rfl rfl ?_
  refine W.icmp_ne 8 6 d_method_7_3 rfl rfl (fun _ => ?_) (fun hc => absurd hc (by decide))
  refine W.iloadN 9 d_method_7_8 rfl rfl ?_
  refine W.iloadN 10 d_method_7_9 rfl rfl ?_
  refine W.iloadN 11 d_method_7_10 rfl rfl ?_
  refine W.iloadN 12 d_method_7_11 rfl rfl ?_
  refine W.iload 14 d_method_7_12 rfl rfl ?_
  refine W.callS (rest := []) (argsL := [(.int m), (.int (1 : Int32)), (.int (1 : Int32)), (.int (1 : Int32)), (.int (0 : Int32))]) 17 d_method_7_14 rfl (fun hn => c_stp1110 l Z a0 hw m _ n0 hn) (wd_141 hw) (wd_142 hw) (wd_4 hw) (wd_143 hw) (by decide) pd_8 rfl rfl rfl (by decide) 0 (Nat.le_of_ble_eq_true rfl) (by decide) (by decide) (by decide) ?_
  rintro v1703 h1703 ⟨rfl, rfl⟩
  show WG _ _ _ _ _ _ _ _ _ _ _ _ 0 0 17 #[.val (.int m), .val (.int (1 : Int32)), .val (.int (1 : Int32)), .val (.int (1 : Int32)), .val (.int (0 : Int32)), .unset] [(.int (own_h m (3 : Int32)))]
  refine W.if_eq 22 20 d_method_7_17 rfl rfl ?_ ?_
  · intro hc1704
    refine W.iconst 23 d_method_7_22 rfl (3 : Int32) rfl ?_
    refine W.iloadN 24 d_method_7_23 rfl rfl ?_
    refine W.isub 25 d_method_7_24 rfl (2 : Int32) (by decide) ?_
    refine W.iload 27 d_method_7_25 rfl rfl ?_
    refine W.isub 28 d_method_7_27 rfl (2 : Int32) (by decide) ?_
    refine W.istore 30 d_method_7_28 rfl #[.val (.int m), .val (.int (1 : Int32)), .val (.int (1 : Int32)), .val (.int (1 : Int32)), .val (.int (0 : Int32)), .val (.int (2 : Int32))] rfl ?_
    refine W.iloadN 31 d_method_7_30 rfl rfl ?_
    refine W.iloadN 32 d_method_7_31 rfl rfl ?_
    refine W.iloadN 33 d_method_7_32 rfl rfl ?_
    refine W.iloadN 34 d_method_7_33 rfl rfl ?_
    refine W.iload 36 d_method_7_34 rfl rfl ?_
    refine W.callS (rest := []) (argsL := [(.int m), (.int (1 : Int32)), (.int (1 : Int32)), (.int (1 : Int32)), (.int (2 : Int32))]) 39 d_method_7_36 rfl (fun hn => c_stp1112 l Z a0 hw m _ n0 hn) (wd_141 hw) (wd_142 hw) (wd_4 hw) (wd_143 hw) (by decide) pd_8 rfl rfl rfl (by decide) 0 (Nat.le_of_ble_eq_true rfl) (by decide) (by decide) (by decide) ?_
    rintro v1705 h1705 ⟨rfl, rfl⟩
    show WG _ _ _ _ _ _ _ _ _ _ _ _ 0 0 39 #[.val (.int m), .val (.int (1 : Int32)), .val (.int (1 : Int32)), .val (.int (1 : Int32)), .val (.int (0 : Int32)), .val (.int (2 : Int32))] [(.int (own_h m (5 : Int32)))]
    refine W.if_eq 57 42 d_method_7_39 rfl rfl ?_ ?_
    · intro hc1706
      refine W.iconst 58 d_method_7_57 rfl (-1 : Int32) rfl ?_
      exact W.ireturn d_method_7_58 rfl ⟨by rw [show (own_exp (own_A11 m) (1 : Int32) (0 : Int32)) = (if (own_h m (3 : Int32)) = 0 then (if (own_h m (5 : Int32)) = 0 then -1 else if (own_h m (6 : Int32)) = 0 then -1 else 2) else 1) from rfl, if_pos hc1704, if_pos hc1706], rfl⟩ (by decide) (by decide)
    · intro hc1706
      refine W.iloadN 43 d_method_7_42 rfl rfl ?_
      refine W.iloadN 44 d_method_7_43 rfl rfl ?_
      refine W.iloadN 45 d_method_7_44 rfl rfl ?_
      refine W.iload 47 d_method_7_45 rfl rfl ?_
      refine W.iload 49 d_method_7_47 rfl rfl ?_
      refine W.callS (rest := []) (argsL := [(.int m), (.int (1 : Int32)), (.int (1 : Int32)), (.int (2 : Int32)), (.int (0 : Int32))]) 52 d_method_7_49 rfl (fun hn => c_stp1120 l Z a0 hw m _ n0 hn) (wd_141 hw) (wd_142 hw) (wd_4 hw) (wd_143 hw) (by decide) pd_8 rfl rfl rfl (by decide) 0 (Nat.le_of_ble_eq_true rfl) (by decide) (by decide) (by decide) ?_
      rintro v1707 h1707 ⟨rfl, rfl⟩
      show WG _ _ _ _ _ _ _ _ _ _ _ _ 0 0 52 #[.val (.int m), .val (.int (1 : Int32)), .val (.int (1 : Int32)), .val (.int (1 : Int32)), .val (.int (0 : Int32)), .val (.int (2 : Int32))] [(.int (own_h m (6 : Int32)))]
      refine W.if_eq 57 55 d_method_7_52 rfl rfl ?_ ?_
      · intro hc1708
        refine W.iconst 58 d_method_7_57 rfl (-1 : Int32) rfl ?_
        exact W.ireturn d_method_7_58 rfl ⟨by rw [show (own_exp (own_A11 m) (1 : Int32) (0 : Int32)) = (if (own_h m (3 : Int32)) = 0 then (if (own_h m (5 : Int32)) = 0 then -1 else if (own_h m (6 : Int32)) = 0 then -1 else 2) else 1) from rfl, if_pos hc1704, if_neg hc1706, if_pos hc1708], rfl⟩ (by decide) (by decide)
      · intro hc1708
        refine W.iconst 56 d_method_7_55 rfl (2 : Int32) rfl ?_
        exact W.ireturn d_method_7_56 rfl ⟨by rw [show (own_exp (own_A11 m) (1 : Int32) (0 : Int32)) = (if (own_h m (3 : Int32)) = 0 then (if (own_h m (5 : Int32)) = 0 then -1 else if (own_h m (6 : Int32)) = 0 then -1 else 2) else 1) from rfl, if_pos hc1704, if_neg hc1706, if_neg hc1708], rfl⟩ (by decide) (by decide)
  · intro hc1704
    refine W.iconst 21 d_method_7_20 rfl (1 : Int32) rfl ?_
    exact W.ireturn d_method_7_21 rfl ⟨by rw [show (own_exp (own_A11 m) (1 : Int32) (0 : Int32)) = (if (own_h m (3 : Int32)) = 0 then (if (own_h m (5 : Int32)) = 0 then -1 else if (own_h m (6 : Int32)) = 0 then -1 else 2) else 1) from rfl, if_neg hc1704], rfl⟩ (by decide) (by decide)
theorem c_exp1111 (l : Launch) (Z : State) (a0 : Array Value) (hw : HwT Z a0) (m : Int32) (h : Heap) (n0 : Nat) (hn : n0 ≤ h.size) : Con l Z (⟨"com/example/eccentra/eccentra/MainVertexDistancesPinLaw", "expected", "(IZZII)I"⟩ : MethodName) method_7_code 6 (some .int) ({ frames := 3, cells := 0, slots := 0, locals := 70 } : Room) #[(.int m), (.int (1 : Int32)), (.int (1 : Int32)), (.int (1 : Int32)), (.int (1 : Int32))] h n0 (fun r h' => r = some (.int (own_exp (own_A11 m) (1 : Int32) (1 : Int32))) ∧ h' = h) := by
  refine ConG.of_W (Ls := #[.val (.int m), .val (.int (1 : Int32)), .val (.int (1 : Int32)), .val (.int (1 : Int32)), .val (.int (1 : Int32)), .unset]) (plainFor_of_name pn_0) hn (fun m => by first | (simp [entryFrame, mkF, argsToLocals, Value.category]; done) | rfl) ?_
  refine W.iload 2 d_method_7_0 rfl rfl ?_
  refine W.iloadN 3 d_method_7_2 rfl rfl ?_
  refine W.icmp_ne 8 6 d_method_7_3 rfl rfl (fun hc => absurd (by decide) hc) (fun _ => ?_)
  refine W.iconst 7 d_method_7_6 rfl (0 : Int32) rfl ?_
  exact W.ireturn d_method_7_7 rfl ⟨rfl, rfl⟩ (by decide) (by decide)
theorem c_exp1112 (l : Launch) (Z : State) (a0 : Array Value) (hw : HwT Z a0) (m : Int32) (h : Heap) (n0 : Nat) (hn : n0 ≤ h.size) : Con l Z (⟨"com/example/eccentra/eccentra/MainVertexDistancesPinLaw", "expected", "(IZZII)I"⟩ : MethodName) method_7_code 6 (some .int) ({ frames := 3, cells := 0, slots := 0, locals := 70 } : Room) #[(.int m), (.int (1 : Int32)), (.int (1 : Int32)), (.int (1 : Int32)), (.int (2 : Int32))] h n0 (fun r h' => r = some (.int (own_exp (own_A11 m) (1 : Int32) (2 : Int32))) ∧ h' = h) := by
  refine ConG.of_W (Ls := #[.val (.int m), .val (.int (1 : Int32)), .val (.int (1 : Int32)), .val (.int (1 : Int32)), .val (.int (2 : Int32)), .unset]) (plainFor_of_name pn_0) hn (fun m => by first | (simp [entryFrame, mkF, argsToLocals, Value.category]; done) | rfl) ?_
  refine W.iload 2 d_method_7_0 rfl rfl ?_
  refine W.iloadN 3 d_method_7_2 rfl rfl ?_
  refine W.icmp_ne 8 6 d_method_7_3 rfl rfl (fun _ => ?_) (fun hc => absurd hc (by decide))
  refine W.iloadN 9 d_method_7_8 rfl rfl ?_
  refine W.iloadN 10 d_method_7_9 rfl rfl ?_
  refine W.iloadN 11 d_method_7_10 rfl rfl ?_
  refine W.iloadN 12 d_method_7_11 rfl rfl ?_
  refine W.iload 14 d_method_7_12 rfl rfl ?_
  refine W.callS (rest := []) (argsL := [(.int m), (.int (1 : Int32)), (.int (1 : Int32)), (.int (1 : Int32)), (.int (2 : Int32))]) 17 d_method_7_14 rfl (fun hn => c_stp1112 l Z a0 hw m _ n0 hn) (wd_141 hw) (wd_142 hw) (wd_4 hw) (wd_143 hw) (by decide) pd_8 rfl rfl rfl (by decide) 0 (Nat.le_of_ble_eq_true rfl) (by decide) (by decide) (by decide) ?_
  rintro v1709 h1709 ⟨rfl, rfl⟩
  show WG _ _ _ _ _ _ _ _ _ _ _ _ 0 0 17 #[.val (.int m), .val (.int (1 : Int32)), .val (.int (1 : Int32)), .val (.int (1 : Int32)), .val (.int (2 : Int32)), .unset] [(.int (own_h m (5 : Int32)))]
  refine W.if_eq 22 20 d_method_7_17 rfl rfl ?_ ?_
  · intro hc1710
    refine W.iconst 23 d_method_7_22 rfl (3 : Int32) rfl ?_
    refine W.iloadN 24 d_method_7_23 rfl rfl ?_
    refine W.isub 25 d_method_7_24 rfl (2 : Int32) (by decide) ?_
    refine W.iload 27 d_method_7_25 rfl rfl ?_
    refine W.isub 28 d_method_7_27 rfl (0 : Int32) (by decide) ?_
    refine W.istore 30 d_method_7_28 rfl #[.val (.int m), .val (.int (1 : Int32)), .val (.int (1 : Int32)), .val (.int (1 : Int32)), .val (.int (2 : Int32)), .val (.int (0 : Int32))] rfl ?_
    refine W.iloadN 31 d_method_7_30 rfl rfl ?_
    refine W.iloadN 32 d_method_7_31 rfl rfl ?_
    refine W.iloadN 33 d_method_7_32 rfl rfl ?_
    refine W.iloadN 34 d_method_7_33 rfl rfl ?_
    refine W.iload 36 d_method_7_34 rfl rfl ?_
    refine W.callS (rest := []) (argsL := [(.int m), (.int (1 : Int32)), (.int (1 : Int32)), (.int (1 : Int32)), (.int (0 : Int32))]) 39 d_method_7_36 rfl (fun hn => c_stp1110 l Z a0 hw m _ n0 hn) (wd_141 hw) (wd_142 hw) (wd_4 hw) (wd_143 hw) (by decide) pd_8 rfl rfl rfl (by decide) 0 (Nat.le_of_ble_eq_true rfl) (by decide) (by decide) (by decide) ?_
    rintro v1711 h1711 ⟨rfl, rfl⟩
    show WG _ _ _ _ _ _ _ _ _ _ _ _ 0 0 39 #[.val (.int m), .val (.int (1 : Int32)), .val (.int (1 : Int32)), .val (.int (1 : Int32)), .val (.int (2 : Int32)), .val (.int (0 : Int32))] [(.int (own_h m (3 : Int32)))]
    refine W.if_eq 57 42 d_method_7_39 rfl rfl ?_ ?_
    · intro hc1712
      refine W.iconst 58 d_method_7_57 rfl (-1 : Int32) rfl ?_
      exact W.ireturn d_method_7_58 rfl ⟨by rw [show (own_exp (own_A11 m) (1 : Int32) (2 : Int32)) = (if (own_h m (5 : Int32)) = 0 then (if (own_h m (3 : Int32)) = 0 then -1 else if (own_h m (2 : Int32)) = 0 then -1 else 2) else 1) from rfl, if_pos hc1710, if_pos hc1712], rfl⟩ (by decide) (by decide)
    · intro hc1712
      refine W.iloadN 43 d_method_7_42 rfl rfl ?_
      refine W.iloadN 44 d_method_7_43 rfl rfl ?_
      refine W.iloadN 45 d_method_7_44 rfl rfl ?_
      refine W.iload 47 d_method_7_45 rfl rfl ?_
      refine W.iload 49 d_method_7_47 rfl rfl ?_
      refine W.callS (rest := []) (argsL := [(.int m), (.int (1 : Int32)), (.int (1 : Int32)), (.int (0 : Int32)), (.int (2 : Int32))]) 52 d_method_7_49 rfl (fun hn => c_stp1102 l Z a0 hw m _ n0 hn) (wd_141 hw) (wd_142 hw) (wd_4 hw) (wd_143 hw) (by decide) pd_8 rfl rfl rfl (by decide) 0 (Nat.le_of_ble_eq_true rfl) (by decide) (by decide) (by decide) ?_
      rintro v1713 h1713 ⟨rfl, rfl⟩
      show WG _ _ _ _ _ _ _ _ _ _ _ _ 0 0 52 #[.val (.int m), .val (.int (1 : Int32)), .val (.int (1 : Int32)), .val (.int (1 : Int32)), .val (.int (2 : Int32)), .val (.int (0 : Int32))] [(.int (own_h m (2 : Int32)))]
      refine W.if_eq 57 55 d_method_7_52 rfl rfl ?_ ?_
      · intro hc1714
        refine W.iconst 58 d_method_7_57 rfl (-1 : Int32) rfl ?_
        exact W.ireturn d_method_7_58 rfl ⟨by rw [show (own_exp (own_A11 m) (1 : Int32) (2 : Int32)) = (if (own_h m (5 : Int32)) = 0 then (if (own_h m (3 : Int32)) = 0 then -1 else if (own_h m (2 : Int32)) = 0 then -1 else 2) else 1) from rfl, if_pos hc1710, if_neg hc1712, if_pos hc1714], rfl⟩ (by decide) (by decide)
      · intro hc1714
        refine W.iconst 56 d_method_7_55 rfl (2 : Int32) rfl ?_
        exact W.ireturn d_method_7_56 rfl ⟨by rw [show (own_exp (own_A11 m) (1 : Int32) (2 : Int32)) = (if (own_h m (5 : Int32)) = 0 then (if (own_h m (3 : Int32)) = 0 then -1 else if (own_h m (2 : Int32)) = 0 then -1 else 2) else 1) from rfl, if_pos hc1710, if_neg hc1712, if_neg hc1714], rfl⟩ (by decide) (by decide)
  · intro hc1710
    refine W.iconst 21 d_method_7_20 rfl (1 : Int32) rfl ?_
    exact W.ireturn d_method_7_21 rfl ⟨by rw [show (own_exp (own_A11 m) (1 : Int32) (2 : Int32)) = (if (own_h m (5 : Int32)) = 0 then (if (own_h m (3 : Int32)) = 0 then -1 else if (own_h m (2 : Int32)) = 0 then -1 else 2) else 1) from rfl, if_neg hc1710], rfl⟩ (by decide) (by decide)
theorem c_mt111 (l : Launch) (Z : State) (a0 : Array Value) (hw : HwT Z a0) (t : Addr) (m : Int32) (h : Heap) (n0 : Nat) (hn : n0 ≤ h.size) (A : Ary Z h t .int [(.int (own_exp (own_A11 m) (1 : Int32) (0 : Int32))), (.int (own_exp (own_A11 m) (1 : Int32) (1 : Int32))), (.int (own_exp (own_A11 m) (1 : Int32) (2 : Int32)))]) : Con l Z (⟨"com/example/eccentra/eccentra/MainVertexDistancesPinLaw", "matches", "([IIZZI)Z"⟩ : MethodName) method_8_code 5 (some .boolean) ({ frames := 4, cells := 0, slots := 0, locals := 110 } : Room) #[(.ref t), (.int m), (.int (1 : Int32)), (.int (1 : Int32)), (.int (1 : Int32))] h n0 (fun r h' => r = some (.int 1) ∧ h' = h) := by
  refine ConG.of_W (Ls := #[.val (.ref t), .val (.int m), .val (.int (1 : Int32)), .val (.int (1 : Int32)), .val (.int (1 : Int32))]) (plainFor_of_name pn_0) hn (fun m => by first | (simp [entryFrame, mkF, argsToLocals, Value.category]; done) | rfl) ?_
  refine W.aloadN 1 d_method_8_0 rfl rfl rfl ?_
  refine W.iconst 2 d_method_8_1 rfl (0 : Int32) rfl ?_
  refine W.iaload 3 d_method_8_2 rfl A 0 (by decide) (by decide) (.int (own_exp (own_A11 m) (1 : Int32) (0 : Int32))) rfl ?_
  refine W.iloadN 4 d_method_8_3 rfl rfl ?_
  refine W.iloadN 5 d_method_8_4 rfl rfl ?_
  refine W.iloadN 6 d_method_8_5 rfl rfl ?_
  refine W.iload 8 d_method_8_6 rfl rfl ?_
  refine W.iconst 9 d_method_8_8 rfl (0 : Int32) rfl ?_
  refine W.callS (rest := [(.int (own_exp (own_A11 m) (1 : Int32) (0 : Int32)))]) (argsL := [(.int m), (.int (1 : Int32)), (.int (1 : Int32)), (.int (1 : Int32)), (.int (0 : Int32))]) 12 d_method_8_9 rfl (fun hn => c_exp1110 l Z a0 hw m _ n0 hn) (wd_138 hw) (wd_139 hw) (wd_4 hw) (wd_140 hw) (by decide) pd_9 rfl rfl rfl (by decide) 1 (Nat.le_of_ble_eq_true rfl) (by decide) (by decide) (by decide) ?_
  rintro v1715 h1715 ⟨rfl, rfl⟩
  show WG _ _ _ _ _ _ _ _ _ _ _ _ 0 0 12 #[.val (.ref t), .val (.int m), .val (.int (1 : Int32)), .val (.int (1 : Int32)), .val (.int (1 : Int32))] [(.int (own_exp (own_A11 m) (1 : Int32) (0 : Int32))), (.int (own_exp (own_A11 m) (1 : Int32) (0 : Int32)))]
  refine W.icmp_ne 49 15 d_method_8_12 rfl rfl (fun hc => absurd rfl hc) (fun _ => ?_)
  refine W.aloadN 16 d_method_8_15 rfl rfl rfl ?_
  refine W.iconst 17 d_method_8_16 rfl (1 : Int32) rfl ?_
  refine W.iaload 18 d_method_8_17 rfl A 1 (by decide) (by decide) (.int (own_exp (own_A11 m) (1 : Int32) (1 : Int32))) rfl ?_
  refine W.iloadN 19 d_method_8_18 rfl rfl ?_
  refine W.iloadN 20 d_method_8_19 rfl rfl ?_
  refine W.iloadN 21 d_method_8_20 rfl rfl ?_
  refine W.iload 23 d_method_8_21 rfl rfl ?_
  refine W.iconst 24 d_method_8_23 rfl (1 : Int32) rfl ?_
  refine W.callS (rest := [(.int (own_exp (own_A11 m) (1 : Int32) (1 : Int32)))]) (argsL := [(.int m), (.int (1 : Int32)), (.int (1 : Int32)), (.int (1 : Int32)), (.int (1 : Int32))]) 27 d_method_8_24 rfl (fun hn => c_exp1111 l Z a0 hw m _ n0 hn) (wd_138 hw) (wd_139 hw) (wd_4 hw) (wd_140 hw) (by decide) pd_9 rfl rfl rfl (by decide) 1 (Nat.le_of_ble_eq_true rfl) (by decide) (by decide) (by decide) ?_
  rintro v1716 h1716 ⟨rfl, rfl⟩
  show WG _ _ _ _ _ _ _ _ _ _ _ _ 0 0 27 #[.val (.ref t), .val (.int m), .val (.int (1 : Int32)), .val (.int (1 : Int32)), .val (.int (1 : Int32))] [(.int (own_exp (own_A11 m) (1 : Int32) (1 : Int32))), (.int (own_exp (own_A11 m) (1 : Int32) (1 : Int32)))]
  refine W.icmp_ne 49 30 d_method_8_27 rfl rfl (fun hc => absurd rfl hc) (fun _ => ?_)
  refine W.aloadN 31 d_method_8_30 rfl rfl rfl ?_
  refine W.iconst 32 d_method_8_31 rfl (2 : Int32) rfl ?_
  refine W.iaload 33 d_method_8_32 rfl A 2 (by decide) (by decide) (.int (own_exp (own_A11 m) (1 : Int32) (2 : Int32))) rfl ?_
  refine W.iloadN 34 d_method_8_33 rfl rfl ?_
  refine W.iloadN 35 d_method_8_34 rfl rfl ?_
  refine W.iloadN 36 d_method_8_35 rfl rfl ?_
  refine W.iload 38 d_method_8_36 rfl rfl ?_
  refine W.iconst 39 d_method_8_38 rfl (2 : Int32) rfl ?_
  refine W.callS (rest := [(.int (own_exp (own_A11 m) (1 : Int32) (2 : Int32)))]) (argsL := [(.int m), (.int (1 : Int32)), (.int (1 : Int32)), (.int (1 : Int32)), (.int (2 : Int32))]) 42 d_method_8_39 rfl (fun hn => c_exp1112 l Z a0 hw m _ n0 hn) (wd_138 hw) (wd_139 hw) (wd_4 hw) (wd_140 hw) (by decide) pd_9 rfl rfl rfl (by decide) 1 (Nat.le_of_ble_eq_true rfl) (by decide) (by decide) (by decide) ?_
  rintro v1717 h1717 ⟨rfl, rfl⟩
  show WG _ _ _ _ _ _ _ _ _ _ _ _ 0 0 42 #[.val (.ref t), .val (.int m), .val (.int (1 : Int32)), .val (.int (1 : Int32)), .val (.int (1 : Int32))] [(.int (own_exp (own_A11 m) (1 : Int32) (2 : Int32))), (.int (own_exp (own_A11 m) (1 : Int32) (2 : Int32)))]
  refine W.icmp_ne 49 45 d_method_8_42 rfl rfl (fun hc => absurd rfl hc) (fun _ => ?_)
  refine W.iconst 46 d_method_8_45 rfl (1 : Int32) rfl ?_
  refine W.goto 50 d_method_8_46 rfl ?_
  exact W.ireturnN (t := .boolean) d_method_8_50 rfl (by simp) (1 : Int32) rfl ⟨rfl, rfl⟩ (by decide) (by decide)
theorem c_exp1120 (l : Launch) (Z : State) (a0 : Array Value) (hw : HwT Z a0) (m : Int32) (h : Heap) (n0 : Nat) (hn : n0 ≤ h.size) : Con l Z (⟨"com/example/eccentra/eccentra/MainVertexDistancesPinLaw", "expected", "(IZZII)I"⟩ : MethodName) method_7_code 6 (some .int) ({ frames := 3, cells := 0, slots := 0, locals := 70 } : Room) #[(.int m), (.int (1 : Int32)), (.int (1 : Int32)), (.int (2 : Int32)), (.int (0 : Int32))] h n0 (fun r h' => r = some (.int (own_exp (own_A11 m) (2 : Int32) (0 : Int32))) ∧ h' = h) := by
  refine ConG.of_W (Ls := #[.val (.int m), .val (.int (1 : Int32)), .val (.int (1 : Int32)), .val (.int (2 : Int32)), .val (.int (0 : Int32)), .unset]) (plainFor_of_name pn_0) hn (fun m => by first | (simp [entryFrame, mkF, argsToLocals, Value.category]; done) | rfl) ?_
  refine W.iload 2 d_method_7_0 rfl rfl ?_
  refine W.iloadN 3 d_method_7_2 rfl rfl ?_
  refine W.icmp_ne 8 6 d_method_7_3 rfl rfl (fun _ => ?_) (fun hc => absurd hc (by decide))
  refine W.iloadN 9 d_method_7_8 rfl rfl ?_
  refine W.iloadN 10 d_method_7_9 rfl rfl ?_
  refine W.iloadN 11 d_method_7_10 rfl rfl ?_
  refine W.iloadN 12 d_method_7_11 rfl rfl ?_
  refine W.iload 14 d_method_7_12 rfl rfl ?_
  refine W.callS (rest := []) (argsL := [(.int m), (.int (1 : Int32)), (.int (1 : Int32)), (.int (2 : Int32)), (.int (0 : Int32))]) 17 d_method_7_14 rfl (fun hn => c_stp1120 l Z a0 hw m _ n0 hn) (wd_141 hw) (wd_142 hw) (wd_4 hw) (wd_143 hw) (by decide) pd_8 rfl rfl rfl (by decide) 0 (Nat.le_of_ble_eq_true rfl) (by decide) (by decide) (by decide) ?_
  rintro v1718 h1718 ⟨rfl, rfl⟩
  show WG _ _ _ _ _ _ _ _ _ _ _ _ 0 0 17 #[.val (.int m), .val (.int (1 : Int32)), .val (.int (1 : Int32)), .val (.int (2 : Int32)), .val (.int (0 : Int32)), .unset] [(.int (own_h m (6 : Int32)))]
  refine W.if_eq 22 20 d_method_7_17 rfl rfl ?_ ?_
  · intro hc1719
    refine W.iconst 23 d_method_7_22 rfl (3 : Int32) rfl ?_
    refine W.iloadN 24 d_method_7_23 rfl rfl ?_
    refine W.isub 25 d_method_7_24 rfl (1 : Int32) (by decide) ?_
    refine W.iload 27 d_method_7_25 rfl rfl ?_
    refine W.isub 28 d_method_7_27 rfl (1 : Int32) (by decide) ?_
    refine W.istore 30 d_method_7_28 rfl #[.val (.int m), .val (.int (1 : Int32)), .val (.int (1 : Int32)), .val (.int (2 : Int32)), .val (.int (0 : Int32)), .val (.int (1 : Int32))] rfl ?_
    refine W.iloadN 31 d_method_7_30 rfl rfl ?_
    refine W.iloadN 32 d_method_7_31 rfl rfl ?_
    refine W.iloadN 33 d_method_7_32 rfl rfl ?_
    refine W.iloadN 34 d_method_7_33 rfl rfl ?_
    refine W.iload 36 d_method_7_34 rfl rfl ?_
    refine W.callS (rest := []) (argsL := [(.int m), (.int (1 : Int32)), (.int (1 : Int32)), (.int (2 : Int32)), (.int (1 : Int32))]) 39 d_method_7_36 rfl (fun hn => c_stp1121 l Z a0 hw m _ n0 hn) (wd_141 hw) (wd_142 hw) (wd_4 hw) (wd_143 hw) (by decide) pd_8 rfl rfl rfl (by decide) 0 (Nat.le_of_ble_eq_true rfl) (by decide) (by decide) (by decide) ?_
    rintro v1720 h1720 ⟨rfl, rfl⟩
    show WG _ _ _ _ _ _ _ _ _ _ _ _ 0 0 39 #[.val (.int m), .val (.int (1 : Int32)), .val (.int (1 : Int32)), .val (.int (2 : Int32)), .val (.int (0 : Int32)), .val (.int (1 : Int32))] [(.int (own_h m (7 : Int32)))]
    refine W.if_eq 57 42 d_method_7_39 rfl rfl ?_ ?_
    · intro hc1721
      refine W.iconst 58 d_method_7_57 rfl (-1 : Int32) rfl ?_
      exact W.ireturn d_method_7_58 rfl ⟨by rw [show (own_exp (own_A11 m) (2 : Int32) (0 : Int32)) = (if (own_h m (6 : Int32)) = 0 then (if (own_h m (7 : Int32)) = 0 then -1 else if (own_h m (3 : Int32)) = 0 then -1 else 2) else 1) from rfl, if_pos hc1719, if_pos hc1721], rfl⟩ (by decide) (by decide)
    · intro hc1721
      refine W.iloadN 43 d_method_7_42 rfl rfl ?_
      refine W.iloadN 44 d_method_7_43 rfl rfl ?_
      refine W.iloadN 45 d_method_7_44 rfl rfl ?_
      refine W.iload 47 d_method_7_45 rfl rfl ?_
      refine W.iload 49 d_method_7_47 rfl rfl ?_
      refine W.callS (rest := []) (argsL := [(.int m), (.int (1 : Int32)), (.int (1 : Int32)), (.int (1 : Int32)), (.int (0 : Int32))]) 52 d_method_7_49 rfl (fun hn => c_stp1110 l Z a0 hw m _ n0 hn) (wd_141 hw) (wd_142 hw) (wd_4 hw) (wd_143 hw) (by decide) pd_8 rfl rfl rfl (by decide) 0 (Nat.le_of_ble_eq_true rfl) (by decide) (by decide) (by decide) ?_
      rintro v1722 h1722 ⟨rfl, rfl⟩
      show WG _ _ _ _ _ _ _ _ _ _ _ _ 0 0 52 #[.val (.int m), .val (.int (1 : Int32)), .val (.int (1 : Int32)), .val (.int (2 : Int32)), .val (.int (0 : Int32)), .val (.int (1 : Int32))] [(.int (own_h m (3 : Int32)))]
      refine W.if_eq 57 55 d_method_7_52 rfl rfl ?_ ?_
      · intro hc1723
        refine W.iconst 58 d_method_7_57 rfl (-1 : Int32) rfl ?_
        exact W.ireturn d_method_7_58 rfl ⟨by rw [show (own_exp (own_A11 m) (2 : Int32) (0 : Int32)) = (if (own_h m (6 : Int32)) = 0 then (if (own_h m (7 : Int32)) = 0 then -1 else if (own_h m (3 : Int32)) = 0 then -1 else 2) else 1) from rfl, if_pos hc1719, if_neg hc1721, if_pos hc1723], rfl⟩ (by decide) (by decide)
      · intro hc1723
        refine W.iconst 56 d_method_7_55 rfl (2 : Int32) rfl ?_
        exact W.ireturn d_method_7_56 rfl ⟨by rw [show (own_exp (own_A11 m) (2 : Int32) (0 : Int32)) = (if (own_h m (6 : Int32)) = 0 then (if (own_h m (7 : Int32)) = 0 then -1 else if (own_h m (3 : Int32)) = 0 then -1 else 2) else 1) from rfl, if_pos hc1719, if_neg hc1721, if_neg hc1723], rfl⟩ (by decide) (by decide)
  · intro hc1719
    refine W.iconst 21 d_method_7_20 rfl (1 : Int32) rfl ?_
    exact W.ireturn d_method_7_21 rfl ⟨by rw [show (own_exp (own_A11 m) (2 : Int32) (0 : Int32)) = (if (own_h m (6 : Int32)) = 0 then (if (own_h m (7 : Int32)) = 0 then -1 else if (own_h m (3 : Int32)) = 0 then -1 else 2) else 1) from rfl, if_neg hc1719], rfl⟩ (by decide) (by decide)
theorem c_exp1121 (l : Launch) (Z : State) (a0 : Array Value) (hw : HwT Z a0) (m : Int32) (h : Heap) (n0 : Nat) (hn : n0 ≤ h.size) : Con l Z (⟨"com/example/eccentra/eccentra/MainVertexDistancesPinLaw", "expected", "(IZZII)I"⟩ : MethodName) method_7_code 6 (some .int) ({ frames := 3, cells := 0, slots := 0, locals := 70 } : Room) #[(.int m), (.int (1 : Int32)), (.int (1 : Int32)), (.int (2 : Int32)), (.int (1 : Int32))] h n0 (fun r h' => r = some (.int (own_exp (own_A11 m) (2 : Int32) (1 : Int32))) ∧ h' = h) := by
  refine ConG.of_W (Ls := #[.val (.int m), .val (.int (1 : Int32)), .val (.int (1 : Int32)), .val (.int (2 : Int32)), .val (.int (1 : Int32)), .unset]) (plainFor_of_name pn_0) hn (fun m => by first | (simp [entryFrame, mkF, argsToLocals, Value.category]; done) | rfl) ?_
  refine W.iload 2 d_method_7_0 rfl rfl ?_
  refine W.iloadN 3 d_method_7_2 rfl rfl ?_
  refine W.icmp_ne 8 6 d_method_7_3 rfl rfl (fun _ => ?_) (fun hc => absurd hc (by decide))
  refine W.iloadN 9 d_method_7_8 rfl rfl ?_
  refine W.iloadN 10 d_method_7_9 rfl rfl ?_
  refine W.iloadN 11 d_method_7_10 rfl rfl ?_
  refine W.iloadN 12 d_method_7_11 rfl rfl ?_
  refine W.iload 14 d_method_7_12 rfl rfl ?_
  refine W.callS (rest := []) (argsL := [(.int m), (.int (1 : Int32)), (.int (1 : Int32)), (.int (2 : Int32)), (.int (1 : Int32))]) 17 d_method_7_14 rfl (fun hn => c_stp1121 l Z a0 hw m _ n0 hn) (wd_141 hw) (wd_142 hw) (wd_4 hw) (wd_143 hw) (by decide) pd_8 rfl rfl rfl (by decide) 0 (Nat.le_of_ble_eq_true rfl) (by decide) (by decide) (by decide) ?_
  rintro v1724 h1724 ⟨rfl, rfl⟩
  show WG _ _ _ _ _ _ _ _ _ _ _ _ 0 0 17 #[.val (.int m), .val (.int (1 : Int32)), .val (.int (1 : Int32)), .val (.int (2 : Int32)), .val (.int (1 : Int32)), .unset] [(.int (own_h m (7 : Int32)))]
  refine W.if_eq 22 20 d_method_7_17 rfl rfl ?_ ?_
  · intro hc1725
    refine W.iconst 23 d_method_7_22 rfl (3 : Int32) rfl ?_
    refine W.iloadN 24 d_method_7_23 rfl rfl ?_
    refine W.isub 25 d_method_7_24 rfl (1 : Int32) (by decide) ?_
    refine W.iload 27 d_method_7_25 rfl rfl ?_
    refine W.isub 28 d_method_7_27 rfl (0 : Int32) (by decide) ?_
    refine W.istore 30 d_method_7_28 rfl #[.val (.int m), .val (.int (1 : Int32)), .val (.int (1 : Int32)), .val (.int (2 : Int32)), .val (.int (1 : Int32)), .val (.int (0 : Int32))] rfl ?_
    refine W.iloadN 31 d_method_7_30 rfl rfl ?_
    refine W.iloadN 32 d_method_7_31 rfl rfl ?_
    refine W.iloadN 33 d_method_7_32 rfl rfl ?_
    refine W.iloadN 34 d_method_7_33 rfl rfl ?_
    refine W.iload 36 d_method_7_34 rfl rfl ?_
    refine W.callS (rest := []) (argsL := [(.int m), (.int (1 : Int32)), (.int (1 : Int32)), (.int (2 : Int32)), (.int (0 : Int32))]) 39 d_method_7_36 rfl (fun hn => c_stp1120 l Z a0 hw m _ n0 hn) (wd_141 hw) (wd_142 hw) (wd_4 hw) (wd_143 hw) (by decide) pd_8 rfl rfl rfl (by decide) 0 (Nat.le_of_ble_eq_true rfl) (by decide) (by decide) (by decide) ?_
    rintro v1726 h1726 ⟨rfl, rfl⟩
    show WG _ _ _ _ _ _ _ _ _ _ _ _ 0 0 39 #[.val (.int m), .val (.int (1 : Int32)), .val (.int (1 : Int32)), .val (.int (2 : Int32)), .val (.int (1 : Int32)), .val (.int (0 : Int32))] [(.int (own_h m (6 : Int32)))]
    refine W.if_eq 57 42 d_method_7_39 rfl rfl ?_ ?_
    · intro hc1727
      refine W.iconst 58 d_method_7_57 rfl (-1 : Int32) rfl ?_
      exact W.ireturn d_method_7_58 rfl ⟨by rw [show (own_exp (own_A11 m) (2 : Int32) (1 : Int32)) = (if (own_h m (7 : Int32)) = 0 then (if (own_h m (6 : Int32)) = 0 then -1 else if (own_h m (1 : Int32)) = 0 then -1 else 2) else 1) from rfl, if_pos hc1725, if_pos hc1727], rfl⟩ (by decide) (by decide)
    · intro hc1727
      refine W.iloadN 43 d_method_7_42 rfl rfl ?_
      refine W.iloadN 44 d_method_7_43 rfl rfl ?_
      refine W.iloadN 45 d_method_7_44 rfl rfl ?_
      refine W.iload 47 d_method_7_45 rfl rfl ?_
      refine W.iload 49 d_method_7_47 rfl rfl ?_
      refine W.callS (rest := []) (argsL := [(.int m), (.int (1 : Int32)), (.int (1 : Int32)), (.int (0 : Int32)), (.int (1 : Int32))]) 52 d_method_7_49 rfl (fun hn => c_stp1101 l Z a0 hw m _ n0 hn) (wd_141 hw) (wd_142 hw) (wd_4 hw) (wd_143 hw) (by decide) pd_8 rfl rfl rfl (by decide) 0 (Nat.le_of_ble_eq_true rfl) (by decide) (by decide) (by decide) ?_
      rintro v1728 h1728 ⟨rfl, rfl⟩
      show WG _ _ _ _ _ _ _ _ _ _ _ _ 0 0 52 #[.val (.int m), .val (.int (1 : Int32)), .val (.int (1 : Int32)), .val (.int (2 : Int32)), .val (.int (1 : Int32)), .val (.int (0 : Int32))] [(.int (own_h m (1 : Int32)))]
      refine W.if_eq 57 55 d_method_7_52 rfl rfl ?_ ?_
      · intro hc1729
        refine W.iconst 58 d_method_7_57 rfl (-1 : Int32) rfl ?_
        exact W.ireturn d_method_7_58 rfl ⟨by rw [show (own_exp (own_A11 m) (2 : Int32) (1 : Int32)) = (if (own_h m (7 : Int32)) = 0 then (if (own_h m (6 : Int32)) = 0 then -1 else if (own_h m (1 : Int32)) = 0 then -1 else 2) else 1) from rfl, if_pos hc1725, if_neg hc1727, if_pos hc1729], rfl⟩ (by decide) (by decide)
      · intro hc1729
        refine W.iconst 56 d_method_7_55 rfl (2 : Int32) rfl ?_
        exact W.ireturn d_method_7_56 rfl ⟨by rw [show (own_exp (own_A11 m) (2 : Int32) (1 : Int32)) = (if (own_h m (7 : Int32)) = 0 then (if (own_h m (6 : Int32)) = 0 then -1 else if (own_h m (1 : Int32)) = 0 then -1 else 2) else 1) from rfl, if_pos hc1725, if_neg hc1727, if_neg hc1729], rfl⟩ (by decide) (by decide)
  · intro hc1725
    refine W.iconst 21 d_method_7_20 rfl (1 : Int32) rfl ?_
    exact W.ireturn d_method_7_21 rfl ⟨by rw [show (own_exp (own_A11 m) (2 : Int32) (1 : Int32)) = (if (own_h m (7 : Int32)) = 0 then (if (own_h m (6 : Int32)) = 0 then -1 else if (own_h m (1 : Int32)) = 0 then -1 else 2) else 1) from rfl, if_neg hc1725], rfl⟩ (by decide) (by decide)
theorem c_exp1122 (l : Launch) (Z : State) (a0 : Array Value) (hw : HwT Z a0) (m : Int32) (h : Heap) (n0 : Nat) (hn : n0 ≤ h.size) : Con l Z (⟨"com/example/eccentra/eccentra/MainVertexDistancesPinLaw", "expected", "(IZZII)I"⟩ : MethodName) method_7_code 6 (some .int) ({ frames := 3, cells := 0, slots := 0, locals := 70 } : Room) #[(.int m), (.int (1 : Int32)), (.int (1 : Int32)), (.int (2 : Int32)), (.int (2 : Int32))] h n0 (fun r h' => r = some (.int (own_exp (own_A11 m) (2 : Int32) (2 : Int32))) ∧ h' = h) := by
  refine ConG.of_W (Ls := #[.val (.int m), .val (.int (1 : Int32)), .val (.int (1 : Int32)), .val (.int (2 : Int32)), .val (.int (2 : Int32)), .unset]) (plainFor_of_name pn_0) hn (fun m => by first | (simp [entryFrame, mkF, argsToLocals, Value.category]; done) | rfl) ?_
  refine W.iload 2 d_method_7_0 rfl rfl ?_
  refine W.iloadN 3 d_method_7_2 rfl rfl ?_
  refine W.icmp_ne 8 6 d_method_7_3 rfl rfl (fun hc => absurd (by decide) hc) (fun _ => ?_)
  refine W.iconst 7 d_method_7_6 rfl (0 : Int32) rfl ?_
  exact W.ireturn d_method_7_7 rfl ⟨rfl, rfl⟩ (by decide) (by decide)
theorem c_mt112 (l : Launch) (Z : State) (a0 : Array Value) (hw : HwT Z a0) (t : Addr) (m : Int32) (h : Heap) (n0 : Nat) (hn : n0 ≤ h.size) (A : Ary Z h t .int [(.int (own_exp (own_A11 m) (2 : Int32) (0 : Int32))), (.int (own_exp (own_A11 m) (2 : Int32) (1 : Int32))), (.int (own_exp (own_A11 m) (2 : Int32) (2 : Int32)))]) : Con l Z (⟨"com/example/eccentra/eccentra/MainVertexDistancesPinLaw", "matches", "([IIZZI)Z"⟩ : MethodName) method_8_code 5 (some .boolean) ({ frames := 4, cells := 0, slots := 0, locals := 110 } : Room) #[(.ref t), (.int m), (.int (1 : Int32)), (.int (1 : Int32)), (.int (2 : Int32))] h n0 (fun r h' => r = some (.int 1) ∧ h' = h) := by
  refine ConG.of_W (Ls := #[.val (.ref t), .val (.int m), .val (.int (1 : Int32)), .val (.int (1 : Int32)), .val (.int (2 : Int32))]) (plainFor_of_name pn_0) hn (fun m => by first | (simp [entryFrame, mkF, argsToLocals, Value.category]; done) | rfl) ?_
  refine W.aloadN 1 d_method_8_0 rfl rfl rfl ?_
  refine W.iconst 2 d_method_8_1 rfl (0 : Int32) rfl ?_
  refine W.iaload 3 d_method_8_2 rfl A 0 (by decide) (by decide) (.int (own_exp (own_A11 m) (2 : Int32) (0 : Int32))) rfl ?_
  refine W.iloadN 4 d_method_8_3 rfl rfl ?_
  refine W.iloadN 5 d_method_8_4 rfl rfl ?_
  refine W.iloadN 6 d_method_8_5 rfl rfl ?_
  refine W.iload 8 d_method_8_6 rfl rfl ?_
  refine W.iconst 9 d_method_8_8 rfl (0 : Int32) rfl ?_
  refine W.callS (rest := [(.int (own_exp (own_A11 m) (2 : Int32) (0 : Int32)))]) (argsL := [(.int m), (.int (1 : Int32)), (.int (1 : Int32)), (.int (2 : Int32)), (.int (0 : Int32))]) 12 d_method_8_9 rfl (fun hn => c_exp1120 l Z a0 hw m _ n0 hn) (wd_138 hw) (wd_139 hw) (wd_4 hw) (wd_140 hw) (by decide) pd_9 rfl rfl rfl (by decide) 1 (Nat.le_of_ble_eq_true rfl) (by decide) (by decide) (by decide) ?_
  rintro v1730 h1730 ⟨rfl, rfl⟩
  show WG _ _ _ _ _ _ _ _ _ _ _ _ 0 0 12 #[.val (.ref t), .val (.int m), .val (.int (1 : Int32)), .val (.int (1 : Int32)), .val (.int (2 : Int32))] [(.int (own_exp (own_A11 m) (2 : Int32) (0 : Int32))), (.int (own_exp (own_A11 m) (2 : Int32) (0 : Int32)))]
  refine W.icmp_ne 49 15 d_method_8_12 rfl rfl (fun hc => absurd rfl hc) (fun _ => ?_)
  refine W.aloadN 16 d_method_8_15 rfl rfl rfl ?_
  refine W.iconst 17 d_method_8_16 rfl (1 : Int32) rfl ?_
  refine W.iaload 18 d_method_8_17 rfl A 1 (by decide) (by decide) (.int (own_exp (own_A11 m) (2 : Int32) (1 : Int32))) rfl ?_
  refine W.iloadN 19 d_method_8_18 rfl rfl ?_
  refine W.iloadN 20 d_method_8_19 rfl rfl ?_
  refine W.iloadN 21 d_method_8_20 rfl rfl ?_
  refine W.iload 23 d_method_8_21 rfl rfl ?_
  refine W.iconst 24 d_method_8_23 rfl (1 : Int32) rfl ?_
  refine W.callS (rest := [(.int (own_exp (own_A11 m) (2 : Int32) (1 : Int32)))]) (argsL := [(.int m), (.int (1 : Int32)), (.int (1 : Int32)), (.int (2 : Int32)), (.int (1 : Int32))]) 27 d_method_8_24 rfl (fun hn => c_exp1121 l Z a0 hw m _ n0 hn) (wd_138 hw) (wd_139 hw) (wd_4 hw) (wd_140 hw) (by decide) pd_9 rfl rfl rfl (by decide) 1 (Nat.le_of_ble_eq_true rfl) (by decide) (by decide) (by decide) ?_
  rintro v1731 h1731 ⟨rfl, rfl⟩
  show WG _ _ _ _ _ _ _ _ _ _ _ _ 0 0 27 #[.val (.ref t), .val (.int m), .val (.int (1 : Int32)), .val (.int (1 : Int32)), .val (.int (2 : Int32))] [(.int (own_exp (own_A11 m) (2 : Int32) (1 : Int32))), (.int (own_exp (own_A11 m) (2 : Int32) (1 : Int32)))]
  refine W.icmp_ne 49 30 d_method_8_27 rfl rfl (fun hc => absurd rfl hc) (fun _ => ?_)
  refine W.aloadN 31 d_method_8_30 rfl rfl rfl ?_
  refine W.iconst 32 d_method_8_31 rfl (2 : Int32) rfl ?_
  refine W.iaload 33 d_method_8_32 rfl A 2 (by decide) (by decide) (.int (own_exp (own_A11 m) (2 : Int32) (2 : Int32))) rfl ?_
  refine W.iloadN 34 d_method_8_33 rfl rfl ?_
  refine W.iloadN 35 d_method_8_34 rfl rfl ?_
  refine W.iloadN 36 d_method_8_35 rfl rfl ?_
  refine W.iload 38 d_method_8_36 rfl rfl ?_
  refine W.iconst 39 d_method_8_38 rfl (2 : Int32) rfl ?_
  refine W.callS (rest := [(.int (own_exp (own_A11 m) (2 : Int32) (2 : Int32)))]) (argsL := [(.int m), (.int (1 : Int32)), (.int (1 : Int32)), (.int (2 : Int32)), (.int (2 : Int32))]) 42 d_method_8_39 rfl (fun hn => c_exp1122 l Z a0 hw m _ n0 hn) (wd_138 hw) (wd_139 hw) (wd_4 hw) (wd_140 hw) (by decide) pd_9 rfl rfl rfl (by decide) 1 (Nat.le_of_ble_eq_true rfl) (by decide) (by decide) (by decide) ?_
  rintro v1732 h1732 ⟨rfl, rfl⟩
  show WG _ _ _ _ _ _ _ _ _ _ _ _ 0 0 42 #[.val (.ref t), .val (.int m), .val (.int (1 : Int32)), .val (.int (1 : Int32)), .val (.int (2 : Int32))] [(.int (own_exp (own_A11 m) (2 : Int32) (2 : Int32))), (.int (own_exp (own_A11 m) (2 : Int32) (2 : Int32)))]
  refine W.icmp_ne 49 45 d_method_8_42 rfl rfl (fun hc => absurd rfl hc) (fun _ => ?_)
  refine W.iconst 46 d_method_8_45 rfl (1 : Int32) rfl ?_
  refine W.goto 50 d_method_8_46 rfl ?_
  exact W.ireturnN (t := .boolean) d_method_8_50 rfl (by simp) (1 : Int32) rfl ⟨rfl, rfl⟩ (by decide) (by decide)
theorem c_mt11 (l : Launch) (Z : State) (a0 : Array Value) (hw : HwT Z a0) (t : Addr) (m s : Int32) (h : Heap) (n0 : Nat) (hn : n0 ≤ h.size) (hs : s = 0 ∨ s = 1 ∨ s = 2) (A : Ary Z h t .int [(.int (own_exp (own_A11 m) s (0 : Int32))), (.int (own_exp (own_A11 m) s (1 : Int32))), (.int (own_exp (own_A11 m) s (2 : Int32)))]) : Con l Z (⟨"com/example/eccentra/eccentra/MainVertexDistancesPinLaw", "matches", "([IIZZI)Z"⟩ : MethodName) method_8_code 5 (some .boolean) ({ frames := 4, cells := 0, slots := 0, locals := 110 } : Room) #[(.ref t), (.int m), (.int (1 : Int32)), (.int (1 : Int32)), (.int s)] h n0 (fun r h' => r = some (.int 1) ∧ h' = h) := by
  rcases hs with rfl | rfl | rfl
  · exact c_mt110 l Z a0 hw t m h n0 hn A
  · exact c_mt111 l Z a0 hw t m h n0 hn A
  · exact c_mt112 l Z a0 hw t m h n0 hn A
theorem c_stp1001 (l : Launch) (Z : State) (a0 : Array Value) (hw : HwT Z a0) (m : Int32) (h : Heap) (n0 : Nat) (hn : n0 ≤ h.size) : Con l Z (⟨"com/example/eccentra/eccentra/MainVertexDistancesPinLaw", "step", "(IZZII)Z"⟩ : MethodName) method_6_code 5 (some .boolean) ({ frames := 2, cells := 0, slots := 0, locals := 40 } : Room) #[(.int m), (.int (1 : Int32)), (.int (0 : Int32)), (.int (0 : Int32)), (.int (1 : Int32))] h n0 (fun r h' => r = some (.int (own_h m (3 : Int32))) ∧ h' = h) := by
  refine ConG.of_W (Ls := #[.val (.int m), .val (.int (1 : Int32)), .val (.int (0 : Int32)), .val (.int (0 : Int32)), .val (.int (1 : Int32))]) (plainFor_of_name pn_0) hn (fun m => by first | (simp [entryFrame, mkF, argsToLocals, Value.category]; done) | rfl) ?_
  refine W.iloadN 1 d_method_6_0 rfl rfl ?_
  refine W.if_eq 15 4 d_method_6_1 rfl rfl (fun _ => ?_) (fun hc => absurd (by decide) hc)
  refine W.iloadN 16 d_method_6_15 rfl rfl ?_
  refine W.iloadN 17 d_method_6_16 rfl rfl ?_
  refine W.iload 19 d_method_6_17 rfl rfl ?_
  refine W.iloadN 20 d_method_6_19 rfl rfl ?_
  refine W.callS (rest := []) (argsL := [(.int m), (.int (1 : Int32)), (.int (1 : Int32)), (.int (0 : Int32))]) 23 d_method_6_20 rfl (fun hn => c_has110 l Z a0 hw m _ n0 hn) (wd_9 hw) (wd_10 hw) (wd_4 hw) (wd_11 hw) (by decide) pd_1 rfl rfl rfl (by decide) 0 (Nat.le_of_ble_eq_true rfl) (by decide) (by decide) (by decide) ?_
  rintro v1733 h1733 ⟨rfl, rfl⟩
  show WG _ _ _ _ _ _ _ _ _ _ _ _ 0 0 23 #[.val (.int m), .val (.int (1 : Int32)), .val (.int (0 : Int32)), .val (.int (0 : Int32)), .val (.int (1 : Int32))] [(.int (own_h m (3 : Int32)))]
  exact W.ireturnN (t := .boolean) d_method_6_23 rfl (by simp) (own_h m (3 : Int32)) (own_h_nar _ _) ⟨rfl, rfl⟩ (by decide) (by decide)
theorem c_stp1002 (l : Launch) (Z : State) (a0 : Array Value) (hw : HwT Z a0) (m : Int32) (h : Heap) (n0 : Nat) (hn : n0 ≤ h.size) : Con l Z (⟨"com/example/eccentra/eccentra/MainVertexDistancesPinLaw", "step", "(IZZII)Z"⟩ : MethodName) method_6_code 5 (some .boolean) ({ frames := 2, cells := 0, slots := 0, locals := 40 } : Room) #[(.int m), (.int (1 : Int32)), (.int (0 : Int32)), (.int (0 : Int32)), (.int (2 : Int32))] h n0 (fun r h' => r = some (.int (own_h m (6 : Int32))) ∧ h' = h) := by
  refine ConG.of_W (Ls := #[.val (.int m), .val (.int (1 : Int32)), .val (.int (0 : Int32)), .val (.int (0 : Int32)), .val (.int (2 : Int32))]) (plainFor_of_name pn_0) hn (fun m => by first | (simp [entryFrame, mkF, argsToLocals, Value.category]; done) | rfl) ?_
  refine W.iloadN 1 d_method_6_0 rfl rfl ?_
  refine W.if_eq 15 4 d_method_6_1 rfl rfl (fun _ => ?_) (fun hc => absurd (by decide) hc)
  refine W.iloadN 16 d_method_6_15 rfl rfl ?_
  refine W.iloadN 17 d_method_6_16 rfl rfl ?_
  refine W.iload 19 d_method_6_17 rfl rfl ?_
  refine W.iloadN 20 d_method_6_19 rfl rfl ?_
  refine W.callS (rest := []) (argsL := [(.int m), (.int (1 : Int32)), (.int (2 : Int32)), (.int (0 : Int32))]) 23 d_method_6_20 rfl (fun hn => c_has120 l Z a0 hw m _ n0 hn) (wd_9 hw) (wd_10 hw) (wd_4 hw) (wd_11 hw) (by decide) pd_1 rfl rfl rfl (by decide) 0 (Nat.le_of_ble_eq_true rfl) (by decide) (by decide) (by decide) ?_
  rintro v1734 h1734 ⟨rfl, rfl⟩
  show WG _ _ _ _ _ _ _ _ _ _ _ _ 0 0 23 #[.val (.int m), .val (.int (1 : Int32)), .val (.int (0 : Int32)), .val (.int (0 : Int32)), .val (.int (2 : Int32))] [(.int (own_h m (6 : Int32)))]
  exact W.ireturnN (t := .boolean) d_method_6_23 rfl (by simp) (own_h m (6 : Int32)) (own_h_nar _ _) ⟨rfl, rfl⟩ (by decide) (by decide)
theorem c_stp1010 (l : Launch) (Z : State) (a0 : Array Value) (hw : HwT Z a0) (m : Int32) (h : Heap) (n0 : Nat) (hn : n0 ≤ h.size) : Con l Z (⟨"com/example/eccentra/eccentra/MainVertexDistancesPinLaw", "step", "(IZZII)Z"⟩ : MethodName) method_6_code 5 (some .boolean) ({ frames := 2, cells := 0, slots := 0, locals := 40 } : Room) #[(.int m), (.int (1 : Int32)), (.int (0 : Int32)), (.int (1 : Int32)), (.int (0 : Int32))] h n0 (fun r h' => r = some (.int (own_h m (1 : Int32))) ∧ h' = h) := by
  refine ConG.of_W (Ls := #[.val (.int m), .val (.int (1 : Int32)), .val (.int (0 : Int32)), .val (.int (1 : Int32)), .val (.int (0 : Int32))]) (plainFor_of_name pn_0) hn (fun m => by first | (simp [entryFrame, mkF, argsToLocals, Value.category]; done) | rfl) ?_
  refine W.iloadN 1 d_method_6_0 rfl rfl ?_
  refine W.if_eq 15 4 d_method_6_1 rfl rfl (fun _ => ?_) (fun hc => absurd (by decide) hc)
  refine W.iloadN 16 d_method_6_15 rfl rfl ?_
  refine W.iloadN 17 d_method_6_16 rfl rfl ?_
  refine W.iload 19 d_method_6_17 rfl rfl ?_
  refine W.iloadN 20 d_method_6_19 rfl rfl ?_
  refine W.callS (rest := []) (argsL := [(.int m), (.int (1 : Int32)), (.int (0 : Int32)), (.int (1 : Int32))]) 23 d_method_6_20 rfl (fun hn => c_has101 l Z a0 hw m _ n0 hn) (wd_9 hw) (wd_10 hw) (wd_4 hw) (wd_11 hw) (by decide) pd_1 rfl rfl rfl (by decide) 0 (Nat.le_of_ble_eq_true rfl) (by decide) (by decide) (by decide) ?_
  rintro v1735 h1735 ⟨rfl, rfl⟩
  show WG _ _ _ _ _ _ _ _ _ _ _ _ 0 0 23 #[.val (.int m), .val (.int (1 : Int32)), .val (.int (0 : Int32)), .val (.int (1 : Int32)), .val (.int (0 : Int32))] [(.int (own_h m (1 : Int32)))]
  exact W.ireturnN (t := .boolean) d_method_6_23 rfl (by simp) (own_h m (1 : Int32)) (own_h_nar _ _) ⟨rfl, rfl⟩ (by decide) (by decide)
theorem c_stp1012 (l : Launch) (Z : State) (a0 : Array Value) (hw : HwT Z a0) (m : Int32) (h : Heap) (n0 : Nat) (hn : n0 ≤ h.size) : Con l Z (⟨"com/example/eccentra/eccentra/MainVertexDistancesPinLaw", "step", "(IZZII)Z"⟩ : MethodName) method_6_code 5 (some .boolean) ({ frames := 2, cells := 0, slots := 0, locals := 40 } : Room) #[(.int m), (.int (1 : Int32)), (.int (0 : Int32)), (.int (1 : Int32)), (.int (2 : Int32))] h n0 (fun r h' => r = some (.int (own_h m (7 : Int32))) ∧ h' = h) := by
  refine ConG.of_W (Ls := #[.val (.int m), .val (.int (1 : Int32)), .val (.int (0 : Int32)), .val (.int (1 : Int32)), .val (.int (2 : Int32))]) (plainFor_of_name pn_0) hn (fun m => by first | (simp [entryFrame, mkF, argsToLocals, Value.category]; done) | rfl) ?_
  refine W.iloadN 1 d_method_6_0 rfl rfl ?_
  refine W.if_eq 15 4 d_method_6_1 rfl rfl (fun _ => ?_) (fun hc => absurd (by decide) hc)
  refine W.iloadN 16 d_method_6_15 rfl rfl ?_
  refine W.iloadN 17 d_method_6_16 rfl rfl ?_
  refine W.iload 19 d_method_6_17 rfl rfl ?_
  refine W.iloadN 20 d_method_6_19 rfl rfl ?_
  refine W.callS (rest := []) (argsL := [(.int m), (.int (1 : Int32)), (.int (2 : Int32)), (.int (1 : Int32))]) 23 d_method_6_20 rfl (fun hn => c_has121 l Z a0 hw m _ n0 hn) (wd_9 hw) (wd_10 hw) (wd_4 hw) (wd_11 hw) (by decide) pd_1 rfl rfl rfl (by decide) 0 (Nat.le_of_ble_eq_true rfl) (by decide) (by decide) (by decide) ?_
  rintro v1736 h1736 ⟨rfl, rfl⟩
  show WG _ _ _ _ _ _ _ _ _ _ _ _ 0 0 23 #[.val (.int m), .val (.int (1 : Int32)), .val (.int (0 : Int32)), .val (.int (1 : Int32)), .val (.int (2 : Int32))] [(.int (own_h m (7 : Int32)))]
  exact W.ireturnN (t := .boolean) d_method_6_23 rfl (by simp) (own_h m (7 : Int32)) (own_h_nar _ _) ⟨rfl, rfl⟩ (by decide) (by decide)
theorem c_stp1020 (l : Launch) (Z : State) (a0 : Array Value) (hw : HwT Z a0) (m : Int32) (h : Heap) (n0 : Nat) (hn : n0 ≤ h.size) : Con l Z (⟨"com/example/eccentra/eccentra/MainVertexDistancesPinLaw", "step", "(IZZII)Z"⟩ : MethodName) method_6_code 5 (some .boolean) ({ frames := 2, cells := 0, slots := 0, locals := 40 } : Room) #[(.int m), (.int (1 : Int32)), (.int (0 : Int32)), (.int (2 : Int32)), (.int (0 : Int32))] h n0 (fun r h' => r = some (.int (own_h m (2 : Int32))) ∧ h' = h) := by
  refine ConG.of_W (Ls := #[.val (.int m), .val (.int (1 : Int32)), .val (.int (0 : Int32)), .val (.int (2 : Int32)), .val (.int (0 : Int32))]) (plainFor_of_name pn_0) hn (fun m => by first | (simp [entryFrame, mkF, argsToLocals, Value.category]; done) | rfl) ?_
  refine W.iloadN 1 d_method_6_0 rfl rfl ?_
  refine W.if_eq 15 4 d_method_6_1 rfl rfl (fun _ => ?_) (fun hc => absurd (by decide) hc)
  refine W.iloadN 16 d_method_6_15 rfl rfl ?_
  refine W.iloadN 17 d_method_6_16 rfl rfl ?_
  refine W.iload 19 d_method_6_17 rfl rfl ?_
  refine W.iloadN 20 d_method_6_19 rfl rfl ?_
  refine W.callS (rest := []) (argsL := [(.int m), (.int (1 : Int32)), (.int (0 : Int32)), (.int (2 : Int32))]) 23 d_method_6_20 rfl (fun hn => c_has102 l Z a0 hw m _ n0 hn) (wd_9 hw) (wd_10 hw) (wd_4 hw) (wd_11 hw) (by decide) pd_1 rfl rfl rfl (by decide) 0 (Nat.le_of_ble_eq_true rfl) (by decide) (by decide) (by decide) ?_
  rintro v1737 h1737 ⟨rfl, rfl⟩
  show WG _ _ _ _ _ _ _ _ _ _ _ _ 0 0 23 #[.val (.int m), .val (.int (1 : Int32)), .val (.int (0 : Int32)), .val (.int (2 : Int32)), .val (.int (0 : Int32))] [(.int (own_h m (2 : Int32)))]
  exact W.ireturnN (t := .boolean) d_method_6_23 rfl (by simp) (own_h m (2 : Int32)) (own_h_nar _ _) ⟨rfl, rfl⟩ (by decide) (by decide)
theorem c_stp1021 (l : Launch) (Z : State) (a0 : Array Value) (hw : HwT Z a0) (m : Int32) (h : Heap) (n0 : Nat) (hn : n0 ≤ h.size) : Con l Z (⟨"com/example/eccentra/eccentra/MainVertexDistancesPinLaw", "step", "(IZZII)Z"⟩ : MethodName) method_6_code 5 (some .boolean) ({ frames := 2, cells := 0, slots := 0, locals := 40 } : Room) #[(.int m), (.int (1 : Int32)), (.int (0 : Int32)), (.int (2 : Int32)), (.int (1 : Int32))] h n0 (fun r h' => r = some (.int (own_h m (5 : Int32))) ∧ h' = h) := by
  refine ConG.of_W (Ls := #[.val (.int m), .val (.int (1 : Int32)), .val (.int (0 : Int32)), .val (.int (2 : Int32)), .val (.int (1 : Int32))]) (plainFor_of_name pn_0) hn (fun m => by first | (simp [entryFrame, mkF, argsToLocals, Value.category]; done) | rfl) ?_
  refine W.iloadN 1 d_method_6_0 rfl rfl ?_
  refine W.if_eq 15 4 d_method_6_1 rfl rfl (fun _ => ?_) (fun hc => absurd (by decide) hc)
  refine W.iloadN 16 d_method_6_15 rfl rfl ?_
  refine W.iloadN 17 d_method_6_16 rfl rfl ?_
  refine W.iload 19 d_method_6_17 rfl rfl ?_
  refine W.iloadN 20 d_method_6_19 rfl rfl ?_
  refine W.callS (rest := []) (argsL := [(.int m), (.int (1 : Int32)), (.int (1 : Int32)), (.int (2 : Int32))]) 23 d_method_6_20 rfl (fun hn => c_has112 l Z a0 hw m _ n0 hn) (wd_9 hw) (wd_10 hw) (wd_4 hw) (wd_11 hw) (by decide) pd_1 rfl rfl rfl (by decide) 0 (Nat.le_of_ble_eq_true rfl) (by decide) (by decide) (by decide) ?_
  rintro v1738 h1738 ⟨rfl, rfl⟩
  show WG _ _ _ _ _ _ _ _ _ _ _ _ 0 0 23 #[.val (.int m), .val (.int (1 : Int32)), .val (.int (0 : Int32)), .val (.int (2 : Int32)), .val (.int (1 : Int32))] [(.int (own_h m (5 : Int32)))]
  exact W.ireturnN (t := .boolean) d_method_6_23 rfl (by simp) (own_h m (5 : Int32)) (own_h_nar _ _) ⟨rfl, rfl⟩ (by decide) (by decide)
theorem c_exp1000 (l : Launch) (Z : State) (a0 : Array Value) (hw : HwT Z a0) (m : Int32) (h : Heap) (n0 : Nat) (hn : n0 ≤ h.size) : Con l Z (⟨"com/example/eccentra/eccentra/MainVertexDistancesPinLaw", "expected", "(IZZII)I"⟩ : MethodName) method_7_code 6 (some .int) ({ frames := 3, cells := 0, slots := 0, locals := 70 } : Room) #[(.int m), (.int (1 : Int32)), (.int (0 : Int32)), (.int (0 : Int32)), (.int (0 : Int32))] h n0 (fun r h' => r = some (.int (own_exp (own_A10 m) (0 : Int32) (0 : Int32))) ∧ h' = h) := by
  refine ConG.of_W (Ls := #[.val (.int m), .val (.int (1 : Int32)), .val (.int (0 : Int32)), .val (.int (0 : Int32)), .val (.int (0 : Int32)), .unset]) (plainFor_of_name pn_0) hn (fun m => by first | (simp [entryFrame, mkF, argsToLocals, Value.category]; done) | rfl) ?_
  refine W.iload 2 d_method_7_0 rfl rfl ?_
  refine W.iloadN 3 d_method_7_2 rfl rfl ?_
  refine W.icmp_ne 8 6 d_method_7_3 rfl rfl (fun hc => absurd (by decide) hc) (fun _ => ?_)
  refine W.iconst 7 d_method_7_6 rfl (0 : Int32) rfl ?_
  exact W.ireturn d_method_7_7 rfl ⟨rfl, rfl⟩ (by decide) (by decide)
theorem c_exp1001 (l : Launch) (Z : State) (a0 : Array Value) (hw : HwT Z a0) (m : Int32) (h : Heap) (n0 : Nat) (hn : n0 ≤ h.size) : Con l Z (⟨"com/example/eccentra/eccentra/MainVertexDistancesPinLaw", "expected", "(IZZII)I"⟩ : MethodName) method_7_code 6 (some .int) ({ frames := 3, cells := 0, slots := 0, locals := 70 } : Room) #[(.int m), (.int (1 : Int32)), (.int (0 : Int32)), (.int (0 : Int32)), (.int (1 : Int32))] h n0 (fun r h' => r = some (.int (own_exp (own_A10 m) (0 : Int32) (1 : Int32))) ∧ h' = h) := by
  refine ConG.of_W (Ls := #[.val (.int m), .val (.int (1 : Int32)), .val (.int (0 : Int32)), .val (.int (0 : Int32)), .val (.int (1 : Int32)), .unset]) (plainFor_of_name pn_0) hn (fun m => by first | (simp [entryFrame, mkF, argsToLocals, Value.category]; done) | rfl) ?_
  refine W.iload 2 d_method_7_0 rfl rfl ?_
  refine W.iloadN 3 d_method_7_2 rfl rfl ?_
  refine W.icmp_ne 8 6 d_method_7_3 rfl rfl (fun _ => ?_) (fun hc => absurd hc (by decide))
  refine W.iloadN 9 d_method_7_8 rfl rfl ?_
  refine W.iloadN 10 d_method_7_9 rfl rfl ?_
  refine W.iloadN 11 d_method_7_10 rfl rfl ?_
  refine W.iloadN 12 d_method_7_11 rfl rfl ?_
  refine W.iload 14 d_method_7_12 rfl rfl ?_
  refine W.callS (rest := []) (argsL := [(.int m), (.int (1 : Int32)), (.int (0 : Int32)), (.int (0 : Int32)), (.int (1 : Int32))]) 17 d_method_7_14 rfl (fun hn => c_stp1001 l Z a0 hw m _ n0 hn) (wd_141 hw) (wd_142 hw) (wd_4 hw) (wd_143 hw) (by decide) pd_8 rfl rfl rfl (by decide) 0 (Nat.le_of_ble_eq_true rfl) (by decide) (by decide) (by decide) ?_
  rintro v1739 h1739 ⟨rfl, rfl⟩
  show WG _ _ _ _ _ _ _ _ _ _ _ _ 0 0 17 #[.val (.int m), .val (.int (1 : Int32)), .val (.int (0 : Int32)), .val (.int (0 : Int32)), .val (.int (1 : Int32)), .unset] [(.int (own_h m (3 : Int32)))]
  refine W.if_eq 22 20 d_method_7_17 rfl rfl ?_ ?_
  · intro hc1740
    refine W.iconst 23 d_method_7_22 rfl (3 : Int32) rfl ?_
    refine W.iloadN 24 d_method_7_23 rfl rfl ?_
    refine W.isub 25 d_method_7_24 rfl (3 : Int32) (by decide) ?_
    refine W.iload 27 d_method_7_25 rfl rfl ?_
    refine W.isub 28 d_method_7_27 rfl (2 : Int32) (by decide) ?_
    refine W.istore 30 d_method_7_28 rfl #[.val (.int m), .val (.int (1 : Int32)), .val (.int (0 : Int32)), .val (.int (0 : Int32)), .val (.int (1 : Int32)), .val (.int (2 : Int32))] rfl ?_
    refine W.iloadN 31 d_method_7_30 rfl rfl ?_
    refine W.iloadN 32 d_method_7_31 rfl rfl ?_
    refine W.iloadN 33 d_method_7_32 rfl rfl ?_
    refine W.iloadN 34 d_method_7_33 rfl rfl ?_
    refine W.iload 36 d_method_7_34 rfl rfl ?_
    refine W.callS (rest := []) (argsL := [(.int m), (.int (1 : Int32)), (.int (0 : Int32)), (.int (0 : Int32)), (.int (2 : Int32))]) 39 d_method_7_36 rfl (fun hn => c_stp1002 l Z a0 hw m _ n0 hn) (wd_141 hw) (wd_142 hw) (wd_4 hw) (wd_143 hw) (by decide) pd_8 rfl rfl rfl (by decide) 0 (Nat.le_of_ble_eq_true rfl) (by decide) (by decide) (by decide) ?_
    rintro v1741 h1741 ⟨rfl, rfl⟩
    show WG _ _ _ _ _ _ _ _ _ _ _ _ 0 0 39 #[.val (.int m), .val (.int (1 : Int32)), .val (.int (0 : Int32)), .val (.int (0 : Int32)), .val (.int (1 : Int32)), .val (.int (2 : Int32))] [(.int (own_h m (6 : Int32)))]
    refine W.if_eq 57 42 d_method_7_39 rfl rfl ?_ ?_
    · intro hc1742
      refine W.iconst 58 d_method_7_57 rfl (-1 : Int32) rfl ?_
      exact W.ireturn d_method_7_58 rfl ⟨by rw [show (own_exp (own_A10 m) (0 : Int32) (1 : Int32)) = (if (own_h m (3 : Int32)) = 0 then (if (own_h m (6 : Int32)) = 0 then -1 else if (own_h m (5 : Int32)) = 0 then -1 else 2) else 1) from rfl, if_pos hc1740, if_pos hc1742], rfl⟩ (by decide) (by decide)
    · intro hc1742
      refine W.iloadN 43 d_method_7_42 rfl rfl ?_
      refine W.iloadN 44 d_method_7_43 rfl rfl ?_
      refine W.iloadN 45 d_method_7_44 rfl rfl ?_
      refine W.iload 47 d_method_7_45 rfl rfl ?_
      refine W.iload 49 d_method_7_47 rfl rfl ?_
      refine W.callS (rest := []) (argsL := [(.int m), (.int (1 : Int32)), (.int (0 : Int32)), (.int (2 : Int32)), (.int (1 : Int32))]) 52 d_method_7_49 rfl (fun hn => c_stp1021 l Z a0 hw m _ n0 hn) (wd_141 hw) (wd_142 hw) (wd_4 hw) (wd_143 hw) (by decide) pd_8 rfl rfl rfl (by decide) 0 (Nat.le_of_ble_eq_true rfl) (by decide) (by decide) (by decide) ?_
      rintro v1743 h1743 ⟨rfl, rfl⟩
      show WG _ _ _ _ _ _ _ _ _ _ _ _ 0 0 52 #[.val (.int m), .val (.int (1 : Int32)), .val (.int (0 : Int32)), .val (.int (0 : Int32)), .val (.int (1 : Int32)), .val (.int (2 : Int32))] [(.int (own_h m (5 : Int32)))]
      refine W.if_eq 57 55 d_method_7_52 rfl rfl ?_ ?_
      · intro hc1744
        refine W.iconst 58 d_method_7_57 rfl (-1 : Int32) rfl ?_
        exact W.ireturn d_method_7_58 rfl ⟨by rw [show (own_exp (own_A10 m) (0 : Int32) (1 : Int32)) = (if (own_h m (3 : Int32)) = 0 then (if (own_h m (6 : Int32)) = 0 then -1 else if (own_h m (5 : Int32)) = 0 then -1 else 2) else 1) from rfl, if_pos hc1740, if_neg hc1742, if_pos hc1744], rfl⟩ (by decide) (by decide)
      · intro hc1744
        refine W.iconst 56 d_method_7_55 rfl (2 : Int32) rfl ?_
        exact W.ireturn d_method_7_56 rfl ⟨by rw [show (own_exp (own_A10 m) (0 : Int32) (1 : Int32)) = (if (own_h m (3 : Int32)) = 0 then (if (own_h m (6 : Int32)) = 0 then -1 else if (own_h m (5 : Int32)) = 0 then -1 else 2) else 1) from rfl, if_pos hc1740, if_neg hc1742, if_neg hc1744], rfl⟩ (by decide) (by decide)
  · intro hc1740
    refine W.iconst 21 d_method_7_20 rfl (1 : Int32) rfl ?_
    exact W.ireturn d_method_7_21 rfl ⟨by rw [show (own_exp (own_A10 m) (0 : Int32) (1 : Int32)) = (if (own_h m (3 : Int32)) = 0 then (if (own_h m (6 : Int32)) = 0 then -1 else if (own_h m (5 : Int32)) = 0 then -1 else 2) else 1) from rfl, if_neg hc1740], rfl⟩ (by decide) (by decide)
theorem c_exp1002 (l : Launch) (Z : State) (a0 : Array Value) (hw : HwT Z a0) (m : Int32) (h : Heap) (n0 : Nat) (hn : n0 ≤ h.size) : Con l Z (⟨"com/example/eccentra/eccentra/MainVertexDistancesPinLaw", "expected", "(IZZII)I"⟩ : MethodName) method_7_code 6 (some .int) ({ frames := 3, cells := 0, slots := 0, locals := 70 } : Room) #[(.int m), (.int (1 : Int32)), (.int (0 : Int32)), (.int (0 : Int32)), (.int (2 : Int32))] h n0 (fun r h' => r = some (.int (own_exp (own_A10 m) (0 : Int32) (2 : Int32))) ∧ h' = h) := by
  refine ConG.of_W (Ls := #[.val (.int m), .val (.int (1 : Int32)), .val (.int (0 : Int32)), .val (.int (0 : Int32)), .val (.int (2 : Int32)), .unset]) (plainFor_of_name pn_0) hn (fun m => by first | (simp [entryFrame, mkF, argsToLocals, Value.category]; done) | rfl) ?_
  refine W.iload 2 d_method_7_0 rfl rfl ?_
  refine W.iloadN 3 d_method_7_2 rfl rfl ?_
  refine W.icmp_ne 8 6 d_method_7_3 rfl rfl (fun _ => ?_) (fun hc => absurd hc (by decide))
  refine W.iloadN 9 d_method_7_8 rfl rfl ?_
  refine W.iloadN 10 d_method_7_9 rfl rfl ?_
  refine W.iloadN 11 d_method_7_10 rfl rfl ?_
  refine W.iloadN 12 d_method_7_11 rfl rfl ?_
  refine W.iload 14 d_method_7_12 rfl rfl ?_
  refine W.callS (rest := []) (argsL := [(.int m), (.int (1 : Int32)), (.int (0 : Int32)), (.int (0 : Int32)), (.int (2 : Int32))]) 17 d_method_7_14 rfl (fun hn => c_stp1002 l Z a0 hw m _ n0 hn) (wd_141 hw) (wd_142 hw) (wd_4 hw) (wd_143 hw) (by decide) pd_8 rfl rfl rfl (by decide) 0 (Nat.le_of_ble_eq_true rfl) (by decide) (by decide) (by decide) ?_
  rintro v1745 h1745 ⟨rfl, rfl⟩
  show WG _ _ _ _ _ _ _ _ _ _ _ _ 0 0 17 #[.val (.int m), .val (.int (1 : Int32)), .val (.int (0 : Int32)), .val (.int (0 : Int32)), .val (.int (2 : Int32)), .unset] [(.int (own_h m (6 : Int32)))]
  refine W.if_eq 22 20 d_method_7_17 rfl rfl ?_ ?_
  · intro hc1746
    refine W.iconst 23 d_method_7_22 rfl (3 : Int32) rfl ?_
    refine W.iloadN 24 d_method_7_23 rfl rfl ?_
    refine W.isub 25 d_method_7_24 rfl (3 : Int32) (by decide) ?_
    refine W.iload 27 d_method_7_25 rfl rfl ?_
    refine W.isub 28 d_method_7_27 rfl (1 : Int32) (by decide) ?_
    refine W.istore 30 d_method_7_28 rfl #[.val (.int m), .val (.int (1 : Int32)), .val (.int (0 : Int32)), .val (.int (0 : Int32)), .val (.int (2 : Int32)), .val (.int (1 : Int32))] rfl ?_
    refine W.iloadN 31 d_method_7_30 rfl rfl ?_
    refine W.iloadN 32 d_method_7_31 rfl rfl ?_
    refine W.iloadN 33 d_method_7_32 rfl rfl ?_
    refine W.iloadN 34 d_method_7_33 rfl rfl ?_
    refine W.iload 36 d_method_7_34 rfl rfl ?_
    refine W.callS (rest := []) (argsL := [(.int m), (.int (1 : Int32)), (.int (0 : Int32)), (.int (0 : Int32)), (.int (1 : Int32))]) 39 d_method_7_36 rfl (fun hn => c_stp1001 l Z a0 hw m _ n0 hn) (wd_141 hw) (wd_142 hw) (wd_4 hw) (wd_143 hw) (by decide) pd_8 rfl rfl rfl (by decide) 0 (Nat.le_of_ble_eq_true rfl) (by decide) (by decide) (by decide) ?_
    rintro v1747 h1747 ⟨rfl, rfl⟩
    show WG _ _ _ _ _ _ _ _ _ _ _ _ 0 0 39 #[.val (.int m), .val (.int (1 : Int32)), .val (.int (0 : Int32)), .val (.int (0 : Int32)), .val (.int (2 : Int32)), .val (.int (1 : Int32))] [(.int (own_h m (3 : Int32)))]
    refine W.if_eq 57 42 d_method_7_39 rfl rfl ?_ ?_
    · intro hc1748
      refine W.iconst 58 d_method_7_57 rfl (-1 : Int32) rfl ?_
      exact W.ireturn d_method_7_58 rfl ⟨by rw [show (own_exp (own_A10 m) (0 : Int32) (2 : Int32)) = (if (own_h m (6 : Int32)) = 0 then (if (own_h m (3 : Int32)) = 0 then -1 else if (own_h m (7 : Int32)) = 0 then -1 else 2) else 1) from rfl, if_pos hc1746, if_pos hc1748], rfl⟩ (by decide) (by decide)
    · intro hc1748
      refine W.iloadN 43 d_method_7_42 rfl rfl ?_
      refine W.iloadN 44 d_method_7_43 rfl rfl ?_
      refine W.iloadN 45 d_method_7_44 rfl rfl ?_
      refine W.iload 47 d_method_7_45 rfl rfl ?_
      refine W.iload 49 d_method_7_47 rfl rfl ?_
      refine W.callS (rest := []) (argsL := [(.int m), (.int (1 : Int32)), (.int (0 : Int32)), (.int (1 : Int32)), (.int (2 : Int32))]) 52 d_method_7_49 rfl (fun hn => c_stp1012 l Z a0 hw m _ n0 hn) (wd_141 hw) (wd_142 hw) (wd_4 hw) (wd_143 hw) (by decide) pd_8 rfl rfl rfl (by decide) 0 (Nat.le_of_ble_eq_true rfl) (by decide) (by decide) (by decide) ?_
      rintro v1749 h1749 ⟨rfl, rfl⟩
      show WG _ _ _ _ _ _ _ _ _ _ _ _ 0 0 52 #[.val (.int m), .val (.int (1 : Int32)), .val (.int (0 : Int32)), .val (.int (0 : Int32)), .val (.int (2 : Int32)), .val (.int (1 : Int32))] [(.int (own_h m (7 : Int32)))]
      refine W.if_eq 57 55 d_method_7_52 rfl rfl ?_ ?_
      · intro hc1750
        refine W.iconst 58 d_method_7_57 rfl (-1 : Int32) rfl ?_
        exact W.ireturn d_method_7_58 rfl ⟨by rw [show (own_exp (own_A10 m) (0 : Int32) (2 : Int32)) = (if (own_h m (6 : Int32)) = 0 then (if (own_h m (3 : Int32)) = 0 then -1 else if (own_h m (7 : Int32)) = 0 then -1 else 2) else 1) from rfl, if_pos hc1746, if_neg hc1748, if_pos hc1750], rfl⟩ (by decide) (by decide)
      · intro hc1750
        refine W.iconst 56 d_method_7_55 rfl (2 : Int32) rfl ?_
        exact W.ireturn d_method_7_56 rfl ⟨by rw [show (own_exp (own_A10 m) (0 : Int32) (2 : Int32)) = (if (own_h m (6 : Int32)) = 0 then (if (own_h m (3 : Int32)) = 0 then -1 else if (own_h m (7 : Int32)) = 0 then -1 else 2) else 1) from rfl, if_pos hc1746, if_neg hc1748, if_neg hc1750], rfl⟩ (by decide) (by decide)
  · intro hc1746
    refine W.iconst 21 d_method_7_20 rfl (1 : Int32) rfl ?_
    exact W.ireturn d_method_7_21 rfl ⟨by rw [show (own_exp (own_A10 m) (0 : Int32) (2 : Int32)) = (if (own_h m (6 : Int32)) = 0 then (if (own_h m (3 : Int32)) = 0 then -1 else if (own_h m (7 : Int32)) = 0 then -1 else 2) else 1) from rfl, if_neg hc1746], rfl⟩ (by decide) (by decide)
theorem c_mt100 (l : Launch) (Z : State) (a0 : Array Value) (hw : HwT Z a0) (t : Addr) (m : Int32) (h : Heap) (n0 : Nat) (hn : n0 ≤ h.size) (A : Ary Z h t .int [(.int (own_exp (own_A10 m) (0 : Int32) (0 : Int32))), (.int (own_exp (own_A10 m) (0 : Int32) (1 : Int32))), (.int (own_exp (own_A10 m) (0 : Int32) (2 : Int32)))]) : Con l Z (⟨"com/example/eccentra/eccentra/MainVertexDistancesPinLaw", "matches", "([IIZZI)Z"⟩ : MethodName) method_8_code 5 (some .boolean) ({ frames := 4, cells := 0, slots := 0, locals := 110 } : Room) #[(.ref t), (.int m), (.int (1 : Int32)), (.int (0 : Int32)), (.int (0 : Int32))] h n0 (fun r h' => r = some (.int 1) ∧ h' = h) := by
  refine ConG.of_W (Ls := #[.val (.ref t), .val (.int m), .val (.int (1 : Int32)), .val (.int (0 : Int32)), .val (.int (0 : Int32))]) (plainFor_of_name pn_0) hn (fun m => by first | (simp [entryFrame, mkF, argsToLocals, Value.category]; done) | rfl) ?_
  refine W.aloadN 1 d_method_8_0 rfl rfl rfl ?_
  refine W.iconst 2 d_method_8_1 rfl (0 : Int32) rfl ?_
  refine W.iaload 3 d_method_8_2 rfl A 0 (by decide) (by decide) (.int (own_exp (own_A10 m) (0 : Int32) (0 : Int32))) rfl ?_
  refine W.iloadN 4 d_method_8_3 rfl rfl ?_
  refine W.iloadN 5 d_method_8_4 rfl rfl ?_
  refine W.iloadN 6 d_method_8_5 rfl rfl ?_
  refine W.iload 8 d_method_8_6 rfl rfl ?_
  refine W.iconst 9 d_method_8_8 rfl (0 : Int32) rfl ?_
  refine W.callS (rest := [(.int (own_exp (own_A10 m) (0 : Int32) (0 : Int32)))]) (argsL := [(.int m), (.int (1 : Int32)), (.int (0 : Int32)), (.int (0 : Int32)), (.int (0 : Int32))]) 12 d_method_8_9 rfl (fun hn => c_exp1000 l Z a0 hw m _ n0 hn) (wd_138 hw) (wd_139 hw) (wd_4 hw) (wd_140 hw) (by decide) pd_9 rfl rfl rfl (by decide) 1 (Nat.le_of_ble_eq_true rfl) (by decide) (by decide) (by decide) ?_
  rintro v1751 h1751 ⟨rfl, rfl⟩
  show WG _ _ _ _ _ _ _ _ _ _ _ _ 0 0 12 #[.val (.ref t), .val (.int m), .val (.int (1 : Int32)), .val (.int (0 : Int32)), .val (.int (0 : Int32))] [(.int (own_exp (own_A10 m) (0 : Int32) (0 : Int32))), (.int (own_exp (own_A10 m) (0 : Int32) (0 : Int32)))]
  refine W.icmp_ne 49 15 d_method_8_12 rfl rfl (fun hc => absurd rfl hc) (fun _ => ?_)
  refine W.aloadN 16 d_method_8_15 rfl rfl rfl ?_
  refine W.iconst 17 d_method_8_16 rfl (1 : Int32) rfl ?_
  refine W.iaload 18 d_method_8_17 rfl A 1 (by decide) (by decide) (.int (own_exp (own_A10 m) (0 : Int32) (1 : Int32))) rfl ?_
  refine W.iloadN 19 d_method_8_18 rfl rfl ?_
  refine W.iloadN 20 d_method_8_19 rfl rfl ?_
  refine W.iloadN 21 d_method_8_20 rfl rfl ?_
  refine W.iload 23 d_method_8_21 rfl rfl ?_
  refine W.iconst 24 d_method_8_23 rfl (1 : Int32) rfl ?_
  refine W.callS (rest := [(.int (own_exp (own_A10 m) (0 : Int32) (1 : Int32)))]) (argsL := [(.int m), (.int (1 : Int32)), (.int (0 : Int32)), (.int (0 : Int32)), (.int (1 : Int32))]) 27 d_method_8_24 rfl (fun hn => c_exp1001 l Z a0 hw m _ n0 hn) (wd_138 hw) (wd_139 hw) (wd_4 hw) (wd_140 hw) (by decide) pd_9 rfl rfl rfl (by decide) 1 (Nat.le_of_ble_eq_true rfl) (by decide) (by decide) (by decide) ?_
  rintro v1752 h1752 ⟨rfl, rfl⟩
  show WG _ _ _ _ _ _ _ _ _ _ _ _ 0 0 27 #[.val (.ref t), .val (.int m), .val (.int (1 : Int32)), .val (.int (0 : Int32)), .val (.int (0 : Int32))] [(.int (own_exp (own_A10 m) (0 : Int32) (1 : Int32))), (.int (own_exp (own_A10 m) (0 : Int32) (1 : Int32)))]
  refine W.icmp_ne 49 30 d_method_8_27 rfl rfl (fun hc => absurd rfl hc) (fun _ => ?_)
  refine W.aloadN 31 d_method_8_30 rfl rfl rfl ?_
  refine W.iconst 32 d_method_8_31 rfl (2 : Int32) rfl ?_
  refine W.iaload 33 d_method_8_32 rfl A 2 (by decide) (by decide) (.int (own_exp (own_A10 m) (0 : Int32) (2 : Int32))) rfl ?_
  refine W.iloadN 34 d_method_8_33 rfl rfl ?_
  refine W.iloadN 35 d_method_8_34 rfl rfl ?_
  refine W.iloadN 36 d_method_8_35 rfl rfl ?_
  refine W.iload 38 d_method_8_36 rfl rfl ?_
  refine W.iconst 39 d_method_8_38 rfl (2 : Int32) rfl ?_
  refine W.callS (rest := [(.int (own_exp (own_A10 m) (0 : Int32) (2 : Int32)))]) (argsL := [(.int m), (.int (1 : Int32)), (.int (0 : Int32)), (.int (0 : Int32)), (.int (2 : Int32))]) 42 d_method_8_39 rfl (fun hn => c_exp1002 l Z a0 hw m _ n0 hn) (wd_138 hw) (wd_139 hw) (wd_4 hw) (wd_140 hw) (by decide) pd_9 rfl rfl rfl (by decide) 1 (Nat.le_of_ble_eq_true rfl) (by decide) (by decide) (by decide) ?_
  rintro v1753 h1753 ⟨rfl, rfl⟩
  show WG _ _ _ _ _ _ _ _ _ _ _ _ 0 0 42 #[.val (.ref t), .val (.int m), .val (.int (1 : Int32)), .val (.int (0 : Int32)), .val (.int (0 : Int32))] [(.int (own_exp (own_A10 m) (0 : Int32) (2 : Int32))), (.int (own_exp (own_A10 m) (0 : Int32) (2 : Int32)))]
  refine W.icmp_ne 49 45 d_method_8_42 rfl rfl (fun hc => absurd rfl hc) (fun _ => ?_)
  refine W.iconst 46 d_method_8_45 rfl (1 : Int32) rfl ?_
  refine W.goto 50 d_method_8_46 rfl ?_
  exact W.ireturnN (t := .boolean) d_method_8_50 rfl (by simp) (1 : Int32) rfl ⟨rfl, rfl⟩ (by decide) (by decide)
theorem c_exp1010 (l : Launch) (Z : State) (a0 : Array Value) (hw : HwT Z a0) (m : Int32) (h : Heap) (n0 : Nat) (hn : n0 ≤ h.size) : Con l Z (⟨"com/example/eccentra/eccentra/MainVertexDistancesPinLaw", "expected", "(IZZII)I"⟩ : MethodName) method_7_code 6 (some .int) ({ frames := 3, cells := 0, slots := 0, locals := 70 } : Room) #[(.int m), (.int (1 : Int32)), (.int (0 : Int32)), (.int (1 : Int32)), (.int (0 : Int32))] h n0 (fun r h' => r = some (.int (own_exp (own_A10 m) (1 : Int32) (0 : Int32))) ∧ h' = h) := by
  refine ConG.of_W (Ls := #[.val (.int m), .val (.int (1 : Int32)), .val (.int (0 : Int32)), .val (.int (1 : Int32)), .val (.int (0 : Int32)), .unset]) (plainFor_of_name pn_0) hn (fun m => by first | (simp [entryFrame, mkF, argsToLocals, Value.category]; done) | rfl) ?_
  refine W.iload 2 d_method_7_0 rfl rfl ?_
  refine W.iloadN 3 d_method_7_2 rfl rfl ?_
  refine W.icmp_ne 8 6 d_method_7_3 rfl rfl (fun _ => ?_) (fun hc => absurd hc (by decide))
  refine W.iloadN 9 d_method_7_8 rfl rfl ?_
  refine W.iloadN 10 d_method_7_9 rfl rfl ?_
  refine W.iloadN 11 d_method_7_10 rfl rfl ?_
  refine W.iloadN 12 d_method_7_11 rfl rfl ?_
  refine W.iload 14 d_method_7_12 rfl rfl ?_
  refine W.callS (rest := []) (argsL := [(.int m), (.int (1 : Int32)), (.int (0 : Int32)), (.int (1 : Int32)), (.int (0 : Int32))]) 17 d_method_7_14 rfl (fun hn => c_stp1010 l Z a0 hw m _ n0 hn) (wd_141 hw) (wd_142 hw) (wd_4 hw) (wd_143 hw) (by decide) pd_8 rfl rfl rfl (by decide) 0 (Nat.le_of_ble_eq_true rfl) (by decide) (by decide) (by decide) ?_
  rintro v1754 h1754 ⟨rfl, rfl⟩
  show WG _ _ _ _ _ _ _ _ _ _ _ _ 0 0 17 #[.val (.int m), .val (.int (1 : Int32)), .val (.int (0 : Int32)), .val (.int (1 : Int32)), .val (.int (0 : Int32)), .unset] [(.int (own_h m (1 : Int32)))]
  refine W.if_eq 22 20 d_method_7_17 rfl rfl ?_ ?_
  · intro hc1755
    refine W.iconst 23 d_method_7_22 rfl (3 : Int32) rfl ?_
    refine W.iloadN 24 d_method_7_23 rfl rfl ?_
    refine W.isub 25 d_method_7_24 rfl (2 : Int32) (by decide) ?_
    refine W.iload 27 d_method_7_25 rfl rfl ?_
    refine W.isub 28 d_method_7_27 rfl (2 : Int32) (by decide) ?_
    refine W.istore 30 d_method_7_28 rfl #[.val (.int m), .val (.int (1 : Int32)), .val (.int (0 : Int32)), .val (.int (1 : Int32)), .val (.int (0 : Int32)), .val (.int (2 : Int32))] rfl ?_
    refine W.iloadN 31 d_method_7_30 rfl rfl ?_
    refine W.iloadN 32 d_method_7_31 rfl rfl ?_
    refine W.iloadN 33 d_method_7_32 rfl rfl ?_
    refine W.iloadN 34 d_method_7_33 rfl rfl ?_
    refine W.iload 36 d_method_7_34 rfl rfl ?_
    refine W.callS (rest := []) (argsL := [(.int m), (.int (1 : Int32)), (.int (0 : Int32)), (.int (1 : Int32)), (.int (2 : Int32))]) 39 d_method_7_36 rfl (fun hn => c_stp1012 l Z a0 hw m _ n0 hn) (wd_141 hw) (wd_142 hw) (wd_4 hw) (wd_143 hw) (by decide) pd_8 rfl rfl rfl (by decide) 0 (Nat.le_of_ble_eq_true rfl) (by decide) (by decide) (by decide) ?_
    rintro v1756 h1756 ⟨rfl, rfl⟩
    show WG _ _ _ _ _ _ _ _ _ _ _ _ 0 0 39 #[.val (.int m), .val (.int (1 : Int32)), .val (.int (0 : Int32)), .val (.int (1 : Int32)), .val (.int (0 : Int32)), .val (.int (2 : Int32))] [(.int (own_h m (7 : Int32)))]
    refine W.if_eq 57 42 d_method_7_39 rfl rfl ?_ ?_
    · intro hc1757
      refine W.iconst 58 d_method_7_57 rfl (-1 : Int32) rfl ?_
      exact W.ireturn d_method_7_58 rfl ⟨by rw [show (own_exp (own_A10 m) (1 : Int32) (0 : Int32)) = (if (own_h m (1 : Int32)) = 0 then (if (own_h m (7 : Int32)) = 0 then -1 else if (own_h m (2 : Int32)) = 0 then -1 else 2) else 1) from rfl, if_pos hc1755, if_pos hc1757], rfl⟩ (by decide) (by decide)
    · intro hc1757
      refine W.iloadN 43 d_method_7_42 rfl rfl ?_
      refine W.iloadN 44 d_method_7_43 rfl rfl ?_
      refine W.iloadN 45 d_method_7_44 rfl rfl ?_
      refine W.iload 47 d_method_7_45 rfl rfl ?_
      refine W.iload 49 d_method_7_47 rfl rfl ?_
      refine W.callS (rest := []) (argsL := [(.int m), (.int (1 : Int32)), (.int (0 : Int32)), (.int (2 : Int32)), (.int (0 : Int32))]) 52 d_method_7_49 rfl (fun hn => c_stp1020 l Z a0 hw m _ n0 hn) (wd_141 hw) (wd_142 hw) (wd_4 hw) (wd_143 hw) (by decide) pd_8 rfl rfl rfl (by decide) 0 (Nat.le_of_ble_eq_true rfl) (by decide) (by decide) (by decide) ?_
      rintro v1758 h1758 ⟨rfl, rfl⟩
      show WG _ _ _ _ _ _ _ _ _ _ _ _ 0 0 52 #[.val (.int m), .val (.int (1 : Int32)), .val (.int (0 : Int32)), .val (.int (1 : Int32)), .val (.int (0 : Int32)), .val (.int (2 : Int32))] [(.int (own_h m (2 : Int32)))]
      refine W.if_eq 57 55 d_method_7_52 rfl rfl ?_ ?_
      · intro hc1759
        refine W.iconst 58 d_method_7_57 rfl (-1 : Int32) rfl ?_
        exact W.ireturn d_method_7_58 rfl ⟨by rw [show (own_exp (own_A10 m) (1 : Int32) (0 : Int32)) = (if (own_h m (1 : Int32)) = 0 then (if (own_h m (7 : Int32)) = 0 then -1 else if (own_h m (2 : Int32)) = 0 then -1 else 2) else 1) from rfl, if_pos hc1755, if_neg hc1757, if_pos hc1759], rfl⟩ (by decide) (by decide)
      · intro hc1759
        refine W.iconst 56 d_method_7_55 rfl (2 : Int32) rfl ?_
        exact W.ireturn d_method_7_56 rfl ⟨by rw [show (own_exp (own_A10 m) (1 : Int32) (0 : Int32)) = (if (own_h m (1 : Int32)) = 0 then (if (own_h m (7 : Int32)) = 0 then -1 else if (own_h m (2 : Int32)) = 0 then -1 else 2) else 1) from rfl, if_pos hc1755, if_neg hc1757, if_neg hc1759], rfl⟩ (by decide) (by decide)
  · intro hc1755
    refine W.iconst 21 d_method_7_20 rfl (1 : Int32) rfl ?_
    exact W.ireturn d_method_7_21 rfl ⟨by rw [show (own_exp (own_A10 m) (1 : Int32) (0 : Int32)) = (if (own_h m (1 : Int32)) = 0 then (if (own_h m (7 : Int32)) = 0 then -1 else if (own_h m (2 : Int32)) = 0 then -1 else 2) else 1) from rfl, if_neg hc1755], rfl⟩ (by decide) (by decide)
theorem c_exp1011 (l : Launch) (Z : State) (a0 : Array Value) (hw : HwT Z a0) (m : Int32) (h : Heap) (n0 : Nat) (hn : n0 ≤ h.size) : Con l Z (⟨"com/example/eccentra/eccentra/MainVertexDistancesPinLaw", "expected", "(IZZII)I"⟩ : MethodName) method_7_code 6 (some .int) ({ frames := 3, cells := 0, slots := 0, locals := 70 } : Room) #[(.int m), (.int (1 : Int32)), (.int (0 : Int32)), (.int (1 : Int32)), (.int (1 : Int32))] h n0 (fun r h' => r = some (.int (own_exp (own_A10 m) (1 : Int32) (1 : Int32))) ∧ h' = h) := by
  refine ConG.of_W (Ls := #[.val (.int m), .val (.int (1 : Int32)), .val (.int (0 : Int32)), .val (.int (1 : Int32)), .val (.int (1 : Int32)), .unset]) (plainFor_of_name pn_0) hn (fun m => by first | (simp [entryFrame, mkF, argsToLocals, Value.category]; done) | rfl) ?_
  refine W.iload 2 d_method_7_0 rfl rfl ?_
  refine W.iloadN 3 d_method_7_2 rfl rfl ?_
  refine W.icmp_ne 8 6 d_method_7_3 rfl rfl (fun hc => absurd (by decide) hc) (fun _ => ?_)
  refine W.iconst 7 d_method_7_6 rfl (0 : Int32) rfl ?_
  exact W.ireturn d_method_7_7 rfl ⟨rfl, rfl⟩ (by decide) (by decide)
theorem c_exp1012 (l : Launch) (Z : State) (a0 : Array Value) (hw : HwT Z a0) (m : Int32) (h : Heap) (n0 : Nat) (hn : n0 ≤ h.size) : Con l Z (⟨"com/example/eccentra/eccentra/MainVertexDistancesPinLaw", "expected", "(IZZII)I"⟩ : MethodName) method_7_code 6 (some .int) ({ frames := 3, cells := 0, slots := 0, locals := 70 } : Room) #[(.int m), (.int (1 : Int32)), (.int (0 : Int32)), (.int (1 : Int32)), (.int (2 : Int32))] h n0 (fun r h' => r = some (.int (own_exp (own_A10 m) (1 : Int32) (2 : Int32))) ∧ h' = h) := by
  refine ConG.of_W (Ls := #[.val (.int m), .val (.int (1 : Int32)), .val (.int (0 : Int32)), .val (.int (1 : Int32)), .val (.int (2 : Int32)), .unset]) (plainFor_of_name pn_0) hn (fun m => by first | (simp [entryFrame, mkF, argsToLocals, Value.category]; done) | rfl) ?_
  refine W.iload 2 d_method_7_0 rfl rfl ?_
  refine W.iloadN 3 d_method_7_2 rfl rfl ?_
  refine W.icmp_ne 8 6 d_method_7_3 rfl rfl (fun _ => ?_) (fun hc => absurd hc (by decide))
  refine W.iloadN 9 d_method_7_8 rfl rfl ?_
  refine W.iloadN 10 d_method_7_9 rfl rfl ?_
  refine W.iloadN 11 d_method_7_10 rfl rfl ?_
  refine W.iloadN 12 d_method_7_11 rfl rfl ?_
  refine W.iload 14 d_method_7_12 rfl rfl ?_
  refine W.callS (rest := []) (argsL := [(.int m), (.int (1 : Int32)), (.int (0 : Int32)), (.int (1 : Int32)), (.int (2 : Int32))]) 17 d_method_7_14 rfl (fun hn => c_stp1012 l Z a0 hw m _ n0 hn) (wd_141 hw) (wd_142 hw) (wd_4 hw) (wd_143 hw) (by decide) pd_8 rfl rfl rfl (by decide) 0 (Nat.le_of_ble_eq_true rfl) (by decide) (by decide) (by decide) ?_
  rintro v1760 h1760 ⟨rfl, rfl⟩
  show WG _ _ _ _ _ _ _ _ _ _ _ _ 0 0 17 #[.val (.int m), .val (.int (1 : Int32)), .val (.int (0 : Int32)), .val (.int (1 : Int32)), .val (.int (2 : Int32)), .unset] [(.int (own_h m (7 : Int32)))]
  refine W.if_eq 22 20 d_method_7_17 rfl rfl ?_ ?_
  · intro hc1761
    refine W.iconst 23 d_method_7_22 rfl (3 : Int32) rfl ?_
    refine W.iloadN 24 d_method_7_23 rfl rfl ?_
    refine W.isub 25 d_method_7_24 rfl (2 : Int32) (by decide) ?_
    refine W.iload 27 d_method_7_25 rfl rfl ?_
    refine W.isub 28 d_method_7_27 rfl (0 : Int32) (by decide) ?_
    refine W.istore 30 d_method_7_28 rfl #[.val (.int m), .val (.int (1 : Int32)), .val (.int (0 : Int32)), .val (.int (1 : Int32)), .val (.int (2 : Int32)), .val (.int (0 : Int32))] rfl ?_
    refine W.iloadN 31 d_method_7_30 rfl rfl ?_
    refine W.iloadN 32 d_method_7_31 rfl rfl ?_
    refine W.iloadN 33 d_method_7_32 rfl rfl ?_
    refine W.iloadN 34 d_method_7_33 rfl rfl ?_
    refine W.iload 36 d_method_7_34 rfl rfl ?_
    refine W.callS (rest := []) (argsL := [(.int m), (.int (1 : Int32)), (.int (0 : Int32)), (.int (1 : Int32)), (.int (0 : Int32))]) 39 d_method_7_36 rfl (fun hn => c_stp1010 l Z a0 hw m _ n0 hn) (wd_141 hw) (wd_142 hw) (wd_4 hw) (wd_143 hw) (by decide) pd_8 rfl rfl rfl (by decide) 0 (Nat.le_of_ble_eq_true rfl) (by decide) (by decide) (by decide) ?_
    rintro v1762 h1762 ⟨rfl, rfl⟩
    show WG _ _ _ _ _ _ _ _ _ _ _ _ 0 0 39 #[.val (.int m), .val (.int (1 : Int32)), .val (.int (0 : Int32)), .val (.int (1 : Int32)), .val (.int (2 : Int32)), .val (.int (0 : Int32))] [(.int (own_h m (1 : Int32)))]
    refine W.if_eq 57 42 d_method_7_39 rfl rfl ?_ ?_
    · intro hc1763
      refine W.iconst 58 d_method_7_57 rfl (-1 : Int32) rfl ?_
      exact W.ireturn d_method_7_58 rfl ⟨by rw [show (own_exp (own_A10 m) (1 : Int32) (2 : Int32)) = (if (own_h m (7 : Int32)) = 0 then (if (own_h m (1 : Int32)) = 0 then -1 else if (own_h m (6 : Int32)) = 0 then -1 else 2) else 1) from rfl, if_pos hc1761, if_pos hc1763], rfl⟩ (by decide) (by decide)
    · intro hc1763
      refine W.iloadN 43 d_method_7_42 rfl rfl ?_
      refine W.iloadN 44 d_method_7_43 rfl rfl ?_
      refine W.iloadN 45 d_method_7_44 rfl rfl ?_
      refine W.iload 47 d_method_7_45 rfl rfl ?_
      refine W.iload 49 d_method_7_47 rfl rfl ?_
      refine W.callS (rest := []) (argsL := [(.int m), (.int (1 : Int32)), (.int (0 : Int32)), (.int (0 : Int32)), (.int (2 : Int32))]) 52 d_method_7_49 rfl (fun hn => c_stp1002 l Z a0 hw m _ n0 hn) (wd_141 hw) (wd_142 hw) (wd_4 hw) (wd_143 hw) (by decide) pd_8 rfl rfl rfl (by decide) 0 (Nat.le_of_ble_eq_true rfl) (by decide) (by decide) (by decide) ?_
      rintro v1764 h1764 ⟨rfl, rfl⟩
      show WG _ _ _ _ _ _ _ _ _ _ _ _ 0 0 52 #[.val (.int m), .val (.int (1 : Int32)), .val (.int (0 : Int32)), .val (.int (1 : Int32)), .val (.int (2 : Int32)), .val (.int (0 : Int32))] [(.int (own_h m (6 : Int32)))]
      refine W.if_eq 57 55 d_method_7_52 rfl rfl ?_ ?_
      · intro hc1765
        refine W.iconst 58 d_method_7_57 rfl (-1 : Int32) rfl ?_
        exact W.ireturn d_method_7_58 rfl ⟨by rw [show (own_exp (own_A10 m) (1 : Int32) (2 : Int32)) = (if (own_h m (7 : Int32)) = 0 then (if (own_h m (1 : Int32)) = 0 then -1 else if (own_h m (6 : Int32)) = 0 then -1 else 2) else 1) from rfl, if_pos hc1761, if_neg hc1763, if_pos hc1765], rfl⟩ (by decide) (by decide)
      · intro hc1765
        refine W.iconst 56 d_method_7_55 rfl (2 : Int32) rfl ?_
        exact W.ireturn d_method_7_56 rfl ⟨by rw [show (own_exp (own_A10 m) (1 : Int32) (2 : Int32)) = (if (own_h m (7 : Int32)) = 0 then (if (own_h m (1 : Int32)) = 0 then -1 else if (own_h m (6 : Int32)) = 0 then -1 else 2) else 1) from rfl, if_pos hc1761, if_neg hc1763, if_neg hc1765], rfl⟩ (by decide) (by decide)
  · intro hc1761
    refine W.iconst 21 d_method_7_20 rfl (1 : Int32) rfl ?_
    exact W.ireturn d_method_7_21 rfl ⟨by rw [show (own_exp (own_A10 m) (1 : Int32) (2 : Int32)) = (if (own_h m (7 : Int32)) = 0 then (if (own_h m (1 : Int32)) = 0 then -1 else if (own_h m (6 : Int32)) = 0 then -1 else 2) else 1) from rfl, if_neg hc1761], rfl⟩ (by decide) (by decide)
theorem c_mt101 (l : Launch) (Z : State) (a0 : Array Value) (hw : HwT Z a0) (t : Addr) (m : Int32) (h : Heap) (n0 : Nat) (hn : n0 ≤ h.size) (A : Ary Z h t .int [(.int (own_exp (own_A10 m) (1 : Int32) (0 : Int32))), (.int (own_exp (own_A10 m) (1 : Int32) (1 : Int32))), (.int (own_exp (own_A10 m) (1 : Int32) (2 : Int32)))]) : Con l Z (⟨"com/example/eccentra/eccentra/MainVertexDistancesPinLaw", "matches", "([IIZZI)Z"⟩ : MethodName) method_8_code 5 (some .boolean) ({ frames := 4, cells := 0, slots := 0, locals := 110 } : Room) #[(.ref t), (.int m), (.int (1 : Int32)), (.int (0 : Int32)), (.int (1 : Int32))] h n0 (fun r h' => r = some (.int 1) ∧ h' = h) := by
  refine ConG.of_W (Ls := #[.val (.ref t), .val (.int m), .val (.int (1 : Int32)), .val (.int (0 : Int32)), .val (.int (1 : Int32))]) (plainFor_of_name pn_0) hn (fun m => by first | (simp [entryFrame, mkF, argsToLocals, Value.category]; done) | rfl) ?_
  refine W.aloadN 1 d_method_8_0 rfl rfl rfl ?_
  refine W.iconst 2 d_method_8_1 rfl (0 : Int32) rfl ?_
  refine W.iaload 3 d_method_8_2 rfl A 0 (by decide) (by decide) (.int (own_exp (own_A10 m) (1 : Int32) (0 : Int32))) rfl ?_
  refine W.iloadN 4 d_method_8_3 rfl rfl ?_
  refine W.iloadN 5 d_method_8_4 rfl rfl ?_
  refine W.iloadN 6 d_method_8_5 rfl rfl ?_
  refine W.iload 8 d_method_8_6 rfl rfl ?_
  refine W.iconst 9 d_method_8_8 rfl (0 : Int32) rfl ?_
  refine W.callS (rest := [(.int (own_exp (own_A10 m) (1 : Int32) (0 : Int32)))]) (argsL := [(.int m), (.int (1 : Int32)), (.int (0 : Int32)), (.int (1 : Int32)), (.int (0 : Int32))]) 12 d_method_8_9 rfl (fun hn => c_exp1010 l Z a0 hw m _ n0 hn) (wd_138 hw) (wd_139 hw) (wd_4 hw) (wd_140 hw) (by decide) pd_9 rfl rfl rfl (by decide) 1 (Nat.le_of_ble_eq_true rfl) (by decide) (by decide) (by decide) ?_
  rintro v1766 h1766 ⟨rfl, rfl⟩
  show WG _ _ _ _ _ _ _ _ _ _ _ _ 0 0 12 #[.val (.ref t), .val (.int m), .val (.int (1 : Int32)), .val (.int (0 : Int32)), .val (.int (1 : Int32))] [(.int (own_exp (own_A10 m) (1 : Int32) (0 : Int32))), (.int (own_exp (own_A10 m) (1 : Int32) (0 : Int32)))]
  refine W.icmp_ne 49 15 d_method_8_12 rfl rfl (fun hc => absurd rfl hc) (fun _ => ?_)
  refine W.aloadN 16 d_method_8_15 rfl rfl rfl ?_
  refine W.iconst 17 d_method_8_16 rfl (1 : Int32) rfl ?_
  refine W.iaload 18 d_method_8_17 rfl A 1 (by decide) (by decide) (.int (own_exp (own_A10 m) (1 : Int32) (1 : Int32))) rfl ?_
  refine W.iloadN 19 d_method_8_18 rfl rfl ?_
  refine W.iloadN 20 d_method_8_19 rfl rfl ?_
  refine W.iloadN 21 d_method_8_20 rfl rfl ?_
  refine W.iload 23 d_method_8_21 rfl rfl ?_
  refine W.iconst 24 d_method_8_23 rfl (1 : Int32) rfl ?_
  refine W.callS (rest := [(.int (own_exp (own_A10 m) (1 : Int32) (1 : Int32)))]) (argsL := [(.int m), (.int (1 : Int32)), (.int (0 : Int32)), (.int (1 : Int32)), (.int (1 : Int32))]) 27 d_method_8_24 rfl (fun hn => c_exp1011 l Z a0 hw m _ n0 hn) (wd_138 hw) (wd_139 hw) (wd_4 hw) (wd_140 hw) (by decide) pd_9 rfl rfl rfl (by decide) 1 (Nat.le_of_ble_eq_true rfl) (by decide) (by decide) (by decide) ?_
  rintro v1767 h1767 ⟨rfl, rfl⟩
  show WG _ _ _ _ _ _ _ _ _ _ _ _ 0 0 27 #[.val (.ref t), .val (.int m), .val (.int (1 : Int32)), .val (.int (0 : Int32)), .val (.int (1 : Int32))] [(.int (own_exp (own_A10 m) (1 : Int32) (1 : Int32))), (.int (own_exp (own_A10 m) (1 : Int32) (1 : Int32)))]
  refine W.icmp_ne 49 30 d_method_8_27 rfl rfl (fun hc => absurd rfl hc) (fun _ => ?_)
  refine W.aloadN 31 d_method_8_30 rfl rfl rfl ?_
  refine W.iconst 32 d_method_8_31 rfl (2 : Int32) rfl ?_
  refine W.iaload 33 d_method_8_32 rfl A 2 (by decide) (by decide) (.int (own_exp (own_A10 m) (1 : Int32) (2 : Int32))) rfl ?_
  refine W.iloadN 34 d_method_8_33 rfl rfl ?_
  refine W.iloadN 35 d_method_8_34 rfl rfl ?_
  refine W.iloadN 36 d_method_8_35 rfl rfl ?_
  refine W.iload 38 d_method_8_36 rfl rfl ?_
  refine W.iconst 39 d_method_8_38 rfl (2 : Int32) rfl ?_
  refine W.callS (rest := [(.int (own_exp (own_A10 m) (1 : Int32) (2 : Int32)))]) (argsL := [(.int m), (.int (1 : Int32)), (.int (0 : Int32)), (.int (1 : Int32)), (.int (2 : Int32))]) 42 d_method_8_39 rfl (fun hn => c_exp1012 l Z a0 hw m _ n0 hn) (wd_138 hw) (wd_139 hw) (wd_4 hw) (wd_140 hw) (by decide) pd_9 rfl rfl rfl (by decide) 1 (Nat.le_of_ble_eq_true rfl) (by decide) (by decide) (by decide) ?_
  rintro v1768 h1768 ⟨rfl, rfl⟩
  show WG _ _ _ _ _ _ _ _ _ _ _ _ 0 0 42 #[.val (.ref t), .val (.int m), .val (.int (1 : Int32)), .val (.int (0 : Int32)), .val (.int (1 : Int32))] [(.int (own_exp (own_A10 m) (1 : Int32) (2 : Int32))), (.int (own_exp (own_A10 m) (1 : Int32) (2 : Int32)))]
  refine W.icmp_ne 49 45 d_method_8_42 rfl rfl (fun hc => absurd rfl hc) (fun _ => ?_)
  refine W.iconst 46 d_method_8_45 rfl (1 : Int32) rfl ?_
  refine W.goto 50 d_method_8_46 rfl ?_
  exact W.ireturnN (t := .boolean) d_method_8_50 rfl (by simp) (1 : Int32) rfl ⟨rfl, rfl⟩ (by decide) (by decide)
theorem c_exp1020 (l : Launch) (Z : State) (a0 : Array Value) (hw : HwT Z a0) (m : Int32) (h : Heap) (n0 : Nat) (hn : n0 ≤ h.size) : Con l Z (⟨"com/example/eccentra/eccentra/MainVertexDistancesPinLaw", "expected", "(IZZII)I"⟩ : MethodName) method_7_code 6 (some .int) ({ frames := 3, cells := 0, slots := 0, locals := 70 } : Room) #[(.int m), (.int (1 : Int32)), (.int (0 : Int32)), (.int (2 : Int32)), (.int (0 : Int32))] h n0 (fun r h' => r = some (.int (own_exp (own_A10 m) (2 : Int32) (0 : Int32))) ∧ h' = h) := by
  refine ConG.of_W (Ls := #[.val (.int m), .val (.int (1 : Int32)), .val (.int (0 : Int32)), .val (.int (2 : Int32)), .val (.int (0 : Int32)), .unset]) (plainFor_of_name pn_0) hn (fun m => by first | (simp [entryFrame, mkF, argsToLocals, Value.category]; done) | rfl) ?_
  refine W.iload 2 d_method_7_0 rfl rfl ?_
  refine W.iloadN 3 d_method_7_2 rfl rfl ?_
  refine W.icmp_ne 8 6 d_method_7_3 rfl rfl (fun _ => ?_) (fun hc => absurd hc (by decide))
  refine W.iloadN 9 d_method_7_8 rfl rfl ?_
  refine W.iloadN 10 d_method_7_9 rfl rfl ?_
  refine W.iloadN 11 d_method_7_10 rfl rfl ?_
  refine W.iloadN 12 d_method_7_11 rfl rfl ?_
  refine W.iload 14 d_method_7_12 rfl rfl ?_
  refine W.callS (rest := []) (argsL := [(.int m), (.int (1 : Int32)), (.int (0 : Int32)), (.int (2 : Int32)), (.int (0 : Int32))]) 17 d_method_7_14 rfl (fun hn => c_stp1020 l Z a0 hw m _ n0 hn) (wd_141 hw) (wd_142 hw) (wd_4 hw) (wd_143 hw) (by decide) pd_8 rfl rfl rfl (by decide) 0 (Nat.le_of_ble_eq_true rfl) (by decide) (by decide) (by decide) ?_
  rintro v1769 h1769 ⟨rfl, rfl⟩
  show WG _ _ _ _ _ _ _ _ _ _ _ _ 0 0 17 #[.val (.int m), .val (.int (1 : Int32)), .val (.int (0 : Int32)), .val (.int (2 : Int32)), .val (.int (0 : Int32)), .unset] [(.int (own_h m (2 : Int32)))]
  refine W.if_eq 22 20 d_method_7_17 rfl rfl ?_ ?_
  · intro hc1770
    refine W.iconst 23 d_method_7_22 rfl (3 : Int32) rfl ?_
    refine W.iloadN 24 d_method_7_23 rfl rfl ?_
    refine W.isub 25 d_method_7_24 rfl (1 : Int32) (by decide) ?_
    refine W.iload 27 d_method_7_25 rfl rfl ?_
    refine W.isub 28 d_method_7_27 rfl (1 : Int32) (by decide) ?_
    refine W.istore 30 d_method_7_28 rfl #[.val (.int m), .val (.int (1 : Int32)), .val (.int (0 : Int32)), .val (.int (2 : Int32)), .val (.int (0 : Int32)), .val (.int (1 : Int32))] rfl ?_
    refine W.iloadN 31 d_method_7_30 rfl rfl ?_
    refine W.iloadN 32 d_method_7_31 rfl rfl ?_
    refine W.iloadN 33 d_method_7_32 rfl rfl ?_
    refine W.iloadN 34 d_method_7_33 rfl rfl ?_
    refine W.iload 36 d_method_7_34 rfl rfl ?_
    refine W.callS (rest := []) (argsL := [(.int m), (.int (1 : Int32)), (.int (0 : Int32)), (.int (2 : Int32)), (.int (1 : Int32))]) 39 d_method_7_36 rfl (fun hn => c_stp1021 l Z a0 hw m _ n0 hn) (wd_141 hw) (wd_142 hw) (wd_4 hw) (wd_143 hw) (by decide) pd_8 rfl rfl rfl (by decide) 0 (Nat.le_of_ble_eq_true rfl) (by decide) (by decide) (by decide) ?_
    rintro v1771 h1771 ⟨rfl, rfl⟩
    show WG _ _ _ _ _ _ _ _ _ _ _ _ 0 0 39 #[.val (.int m), .val (.int (1 : Int32)), .val (.int (0 : Int32)), .val (.int (2 : Int32)), .val (.int (0 : Int32)), .val (.int (1 : Int32))] [(.int (own_h m (5 : Int32)))]
    refine W.if_eq 57 42 d_method_7_39 rfl rfl ?_ ?_
    · intro hc1772
      refine W.iconst 58 d_method_7_57 rfl (-1 : Int32) rfl ?_
      exact W.ireturn d_method_7_58 rfl ⟨by rw [show (own_exp (own_A10 m) (2 : Int32) (0 : Int32)) = (if (own_h m (2 : Int32)) = 0 then (if (own_h m (5 : Int32)) = 0 then -1 else if (own_h m (1 : Int32)) = 0 then -1 else 2) else 1) from rfl, if_pos hc1770, if_pos hc1772], rfl⟩ (by decide) (by decide)
    · intro hc1772
      refine W.iloadN 43 d_method_7_42 rfl rfl ?_
      refine W.iloadN 44 d_method_7_43 rfl rfl ?_
      refine W.iloadN 45 d_method_7_44 rfl rfl ?_
      refine W.iload 47 d_method_7_45 rfl rfl ?_
      refine W.iload 49 d_method_7_47 rfl rfl ?_
      refine W.callS (rest := []) (argsL := [(.int m), (.int (1 : Int32)), (.int (0 : Int32)), (.int (1 : Int32)), (.int (0 : Int32))]) 52 d_method_7_49 rfl (fun hn => c_stp1010 l Z a0 hw m _ n0 hn) (wd_141 hw) (wd_142 hw) (wd_4 hw) (wd_143 hw) (by decide) pd_8 rfl rfl rfl (by decide) 0 (Nat.le_of_ble_eq_true rfl) (by decide) (by decide) (by decide) ?_
      rintro v1773 h1773 ⟨rfl, rfl⟩
      show WG _ _ _ _ _ _ _ _ _ _ _ _ 0 0 52 #[.val (.int m), .val (.int (1 : Int32)), .val (.int (0 : Int32)), .val (.int (2 : Int32)), .val (.int (0 : Int32)), .val (.int (1 : Int32))] [(.int (own_h m (1 : Int32)))]
      refine W.if_eq 57 55 d_method_7_52 rfl rfl ?_ ?_
      · intro hc1774
        refine W.iconst 58 d_method_7_57 rfl (-1 : Int32) rfl ?_
        exact W.ireturn d_method_7_58 rfl ⟨by rw [show (own_exp (own_A10 m) (2 : Int32) (0 : Int32)) = (if (own_h m (2 : Int32)) = 0 then (if (own_h m (5 : Int32)) = 0 then -1 else if (own_h m (1 : Int32)) = 0 then -1 else 2) else 1) from rfl, if_pos hc1770, if_neg hc1772, if_pos hc1774], rfl⟩ (by decide) (by decide)
      · intro hc1774
        refine W.iconst 56 d_method_7_55 rfl (2 : Int32) rfl ?_
        exact W.ireturn d_method_7_56 rfl ⟨by rw [show (own_exp (own_A10 m) (2 : Int32) (0 : Int32)) = (if (own_h m (2 : Int32)) = 0 then (if (own_h m (5 : Int32)) = 0 then -1 else if (own_h m (1 : Int32)) = 0 then -1 else 2) else 1) from rfl, if_pos hc1770, if_neg hc1772, if_neg hc1774], rfl⟩ (by decide) (by decide)
  · intro hc1770
    refine W.iconst 21 d_method_7_20 rfl (1 : Int32) rfl ?_
    exact W.ireturn d_method_7_21 rfl ⟨by rw [show (own_exp (own_A10 m) (2 : Int32) (0 : Int32)) = (if (own_h m (2 : Int32)) = 0 then (if (own_h m (5 : Int32)) = 0 then -1 else if (own_h m (1 : Int32)) = 0 then -1 else 2) else 1) from rfl, if_neg hc1770], rfl⟩ (by decide) (by decide)
theorem c_exp1021 (l : Launch) (Z : State) (a0 : Array Value) (hw : HwT Z a0) (m : Int32) (h : Heap) (n0 : Nat) (hn : n0 ≤ h.size) : Con l Z (⟨"com/example/eccentra/eccentra/MainVertexDistancesPinLaw", "expected", "(IZZII)I"⟩ : MethodName) method_7_code 6 (some .int) ({ frames := 3, cells := 0, slots := 0, locals := 70 } : Room) #[(.int m), (.int (1 : Int32)), (.int (0 : Int32)), (.int (2 : Int32)), (.int (1 : Int32))] h n0 (fun r h' => r = some (.int (own_exp (own_A10 m) (2 : Int32) (1 : Int32))) ∧ h' = h) := by
  refine ConG.of_W (Ls := #[.val (.int m), .val (.int (1 : Int32)), .val (.int (0 : Int32)), .val (.int (2 : Int32)), .val (.int (1 : Int32)), .unset]) (plainFor_of_name pn_0) hn (fun m => by first | (simp [entryFrame, mkF, argsToLocals, Value.category]; done) | rfl) ?_
  refine W.iload 2 d_method_7_0 rfl rfl ?_
  refine W.iloadN 3 d_method_7_2 rfl rfl ?_
  refine W.icmp_ne 8 6 d_method_7_3 rfl rfl (fun _ => ?_) (fun hc => absurd hc (by decide))
  refine W.iloadN 9 d_method_7_8 rfl rfl ?_
  refine W.iloadN 10 d_method_7_9 rfl rfl ?_
  refine W.iloadN 11 d_method_7_10 rfl rfl ?_
  refine W.iloadN 12 d_method_7_11 rfl rfl ?_
  refine W.iload 14 d_method_7_12 rfl rfl ?_
  refine W.callS (rest := []) (argsL := [(.int m), (.int (1 : Int32)), (.int (0 : Int32)), (.int (2 : Int32)), (.int (1 : Int32))]) 17 d_method_7_14 rfl (fun hn => c_stp1021 l Z a0 hw m _ n0 hn) (wd_141 hw) (wd_142 hw) (wd_4 hw) (wd_143 hw) (by decide) pd_8 rfl rfl rfl (by decide) 0 (Nat.le_of_ble_eq_true rfl) (by decide) (by decide) (by decide) ?_
  rintro v1775 h1775 ⟨rfl, rfl⟩
  show WG _ _ _ _ _ _ _ _ _ _ _ _ 0 0 17 #[.val (.int m), .val (.int (1 : Int32)), .val (.int (0 : Int32)), .val (.int (2 : Int32)), .val (.int (1 : Int32)), .unset] [(.int (own_h m (5 : Int32)))]
  refine W.if_eq 22 20 d_method_7_17 rfl rfl ?_ ?_
  · intro hc1776
    refine W.iconst 23 d_method_7_22 rfl (3 : Int32) rfl ?_
    refine W.iloadN 24 d_method_7_23 rfl rfl ?_
    refine W.isub 25 d_method_7_24 rfl (1 : Int32) (by decide) ?_
    refine W.iload 27 d_method_7_25 rfl rfl ?_
    refine W.isub 28 d_method_7_27 rfl (0 : Int32) (by decide) ?_
    refine W.istore 30 d_method_7_28 rfl #[.val (.int m), .val (.int (1 : Int32)), .val (.int (0 : Int32)), .val (.int (2 : Int32)), .val (.int (1 : Int32)), .val (.int (0 : Int32))] rfl ?_
    refine W.iloadN 31 d_method_7_30 rfl rfl ?_
    refine W.iloadN 32 d_method_7_31 rfl rfl ?_
    refine W.iloadN 33 d_method_7_32 rfl rfl ?_
    refine W.iloadN 34 d_method_7_33 rfl rfl ?_
    refine W.iload 36 d_method_7_34 rfl rfl ?_
    refine W.callS (rest := []) (argsL := [(.int m), (.int (1 : Int32)), (.int (0 : Int32)), (.int (2 : Int32)), (.int (0 : Int32))]) 39 d_method_7_36 rfl (fun hn => c_stp1020 l Z a0 hw m _ n0 hn) (wd_141 hw) (wd_142 hw) (wd_4 hw) (wd_143 hw) (by decide) pd_8 rfl rfl rfl (by decide) 0 (Nat.le_of_ble_eq_true rfl) (by decide) (by decide) (by decide) ?_
    rintro v1777 h1777 ⟨rfl, rfl⟩
    show WG _ _ _ _ _ _ _ _ _ _ _ _ 0 0 39 #[.val (.int m), .val (.int (1 : Int32)), .val (.int (0 : Int32)), .val (.int (2 : Int32)), .val (.int (1 : Int32)), .val (.int (0 : Int32))] [(.int (own_h m (2 : Int32)))]
    refine W.if_eq 57 42 d_method_7_39 rfl rfl ?_ ?_
    · intro hc1778
      refine W.iconst 58 d_method_7_57 rfl (-1 : Int32) rfl ?_
      exact W.ireturn d_method_7_58 rfl ⟨by rw [show (own_exp (own_A10 m) (2 : Int32) (1 : Int32)) = (if (own_h m (5 : Int32)) = 0 then (if (own_h m (2 : Int32)) = 0 then -1 else if (own_h m (3 : Int32)) = 0 then -1 else 2) else 1) from rfl, if_pos hc1776, if_pos hc1778], rfl⟩ (by decide) (by decide)
    · intro hc1778
      refine W.iloadN 43 d_method_7_42 rfl rfl ?_
      refine W.iloadN 44 d_method_7_43 rfl rfl ?_
      refine W.iloadN 45 d_method_7_44 rfl rfl ?_
      refine W.iload 47 d_method_7_45 rfl rfl ?_
      refine W.iload 49 d_method_7_47 rfl rfl ?_
      refine W.callS (rest := []) (argsL := [(.int m), (.int (1 : Int32)), (.int (0 : Int32)), (.int (0 : Int32)), (.int (1 : Int32))]) 52 d_method_7_49 rfl (fun hn => c_stp1001 l Z a0 hw m _ n0 hn) (wd_141 hw) (wd_142 hw) (wd_4 hw) (wd_143 hw) (by decide) pd_8 rfl rfl rfl (by decide) 0 (Nat.le_of_ble_eq_true rfl) (by decide) (by decide) (by decide) ?_
      rintro v1779 h1779 ⟨rfl, rfl⟩
      show WG _ _ _ _ _ _ _ _ _ _ _ _ 0 0 52 #[.val (.int m), .val (.int (1 : Int32)), .val (.int (0 : Int32)), .val (.int (2 : Int32)), .val (.int (1 : Int32)), .val (.int (0 : Int32))] [(.int (own_h m (3 : Int32)))]
      refine W.if_eq 57 55 d_method_7_52 rfl rfl ?_ ?_
      · intro hc1780
        refine W.iconst 58 d_method_7_57 rfl (-1 : Int32) rfl ?_
        exact W.ireturn d_method_7_58 rfl ⟨by rw [show (own_exp (own_A10 m) (2 : Int32) (1 : Int32)) = (if (own_h m (5 : Int32)) = 0 then (if (own_h m (2 : Int32)) = 0 then -1 else if (own_h m (3 : Int32)) = 0 then -1 else 2) else 1) from rfl, if_pos hc1776, if_neg hc1778, if_pos hc1780], rfl⟩ (by decide) (by decide)
      · intro hc1780
        refine W.iconst 56 d_method_7_55 rfl (2 : Int32) rfl ?_
        exact W.ireturn d_method_7_56 rfl ⟨by rw [show (own_exp (own_A10 m) (2 : Int32) (1 : Int32)) = (if (own_h m (5 : Int32)) = 0 then (if (own_h m (2 : Int32)) = 0 then -1 else if (own_h m (3 : Int32)) = 0 then -1 else 2) else 1) from rfl, if_pos hc1776, if_neg hc1778, if_neg hc1780], rfl⟩ (by decide) (by decide)
  · intro hc1776
    refine W.iconst 21 d_method_7_20 rfl (1 : Int32) rfl ?_
    exact W.ireturn d_method_7_21 rfl ⟨by rw [show (own_exp (own_A10 m) (2 : Int32) (1 : Int32)) = (if (own_h m (5 : Int32)) = 0 then (if (own_h m (2 : Int32)) = 0 then -1 else if (own_h m (3 : Int32)) = 0 then -1 else 2) else 1) from rfl, if_neg hc1776], rfl⟩ (by decide) (by decide)
theorem c_exp1022 (l : Launch) (Z : State) (a0 : Array Value) (hw : HwT Z a0) (m : Int32) (h : Heap) (n0 : Nat) (hn : n0 ≤ h.size) : Con l Z (⟨"com/example/eccentra/eccentra/MainVertexDistancesPinLaw", "expected", "(IZZII)I"⟩ : MethodName) method_7_code 6 (some .int) ({ frames := 3, cells := 0, slots := 0, locals := 70 } : Room) #[(.int m), (.int (1 : Int32)), (.int (0 : Int32)), (.int (2 : Int32)), (.int (2 : Int32))] h n0 (fun r h' => r = some (.int (own_exp (own_A10 m) (2 : Int32) (2 : Int32))) ∧ h' = h) := by
  refine ConG.of_W (Ls := #[.val (.int m), .val (.int (1 : Int32)), .val (.int (0 : Int32)), .val (.int (2 : Int32)), .val (.int (2 : Int32)), .unset]) (plainFor_of_name pn_0) hn (fun m => by first | (simp [entryFrame, mkF, argsToLocals, Value.category]; done) | rfl) ?_
  refine W.iload 2 d_method_7_0 rfl rfl ?_
  refine W.iloadN 3 d_method_7_2 rfl rfl ?_
  refine W.icmp_ne 8 6 d_method_7_3 rfl rfl (fun hc => absurd (by decide) hc) (fun _ => ?_)
  refine W.iconst 7 d_method_7_6 rfl (0 : Int32) rfl ?_
  exact W.ireturn d_method_7_7 rfl ⟨rfl, rfl⟩ (by decide) (by decide)
theorem c_mt102 (l : Launch) (Z : State) (a0 : Array Value) (hw : HwT Z a0) (t : Addr) (m : Int32) (h : Heap) (n0 : Nat) (hn : n0 ≤ h.size) (A : Ary Z h t .int [(.int (own_exp (own_A10 m) (2 : Int32) (0 : Int32))), (.int (own_exp (own_A10 m) (2 : Int32) (1 : Int32))), (.int (own_exp (own_A10 m) (2 : Int32) (2 : Int32)))]) : Con l Z (⟨"com/example/eccentra/eccentra/MainVertexDistancesPinLaw", "matches", "([IIZZI)Z"⟩ : MethodName) method_8_code 5 (some .boolean) ({ frames := 4, cells := 0, slots := 0, locals := 110 } : Room) #[(.ref t), (.int m), (.int (1 : Int32)), (.int (0 : Int32)), (.int (2 : Int32))] h n0 (fun r h' => r = some (.int 1) ∧ h' = h) := by
  refine ConG.of_W (Ls := #[.val (.ref t), .val (.int m), .val (.int (1 : Int32)), .val (.int (0 : Int32)), .val (.int (2 : Int32))]) (plainFor_of_name pn_0) hn (fun m => by first | (simp [entryFrame, mkF, argsToLocals, Value.category]; done) | rfl) ?_
  refine W.aloadN 1 d_method_8_0 rfl rfl rfl ?_
  refine W.iconst 2 d_method_8_1 rfl (0 : Int32) rfl ?_
  refine W.iaload 3 d_method_8_2 rfl A 0 (by decide) (by decide) (.int (own_exp (own_A10 m) (2 : Int32) (0 : Int32))) rfl ?_
  refine W.iloadN 4 d_method_8_3 rfl rfl ?_
  refine W.iloadN 5 d_method_8_4 rfl rfl ?_
  refine W.iloadN 6 d_method_8_5 rfl rfl ?_
  refine W.iload 8 d_method_8_6 rfl rfl ?_
  refine W.iconst 9 d_method_8_8 rfl (0 : Int32) rfl ?_
  refine W.callS (rest := [(.int (own_exp (own_A10 m) (2 : Int32) (0 : Int32)))]) (argsL := [(.int m), (.int (1 : Int32)), (.int (0 : Int32)), (.int (2 : Int32)), (.int (0 : Int32))]) 12 d_method_8_9 rfl (fun hn => c_exp1020 l Z a0 hw m _ n0 hn) (wd_138 hw) (wd_139 hw) (wd_4 hw) (wd_140 hw) (by decide) pd_9 rfl rfl rfl (by decide) 1 (Nat.le_of_ble_eq_true rfl) (by decide) (by decide) (by decide) ?_
  rintro v1781 h1781 ⟨rfl, rfl⟩
  show WG _ _ _ _ _ _ _ _ _ _ _ _ 0 0 12 #[.val (.ref t), .val (.int m), .val (.int (1 : Int32)), .val (.int (0 : Int32)), .val (.int (2 : Int32))] [(.int (own_exp (own_A10 m) (2 : Int32) (0 : Int32))), (.int (own_exp (own_A10 m) (2 : Int32) (0 : Int32)))]
  refine W.icmp_ne 49 15 d_method_8_12 rfl rfl (fun hc => absurd rfl hc) (fun _ => ?_)
  refine W.aloadN 16 d_method_8_15 rfl rfl rfl ?_
  refine W.iconst 17 d_method_8_16 rfl (1 : Int32) rfl ?_
  refine W.iaload 18 d_method_8_17 rfl A 1 (by decide) (by decide) (.int (own_exp (own_A10 m) (2 : Int32) (1 : Int32))) rfl ?_
  refine W.iloadN 19 d_method_8_18 rfl rfl ?_
  refine W.iloadN 20 d_method_8_19 rfl rfl ?_
  refine W.iloadN 21 d_method_8_20 rfl rfl ?_
  refine W.iload 23 d_method_8_21 rfl rfl ?_
  refine W.iconst 24 d_method_8_23 rfl (1 : Int32) rfl ?_
  refine W.callS (rest := [(.int (own_exp (own_A10 m) (2 : Int32) (1 : Int32)))]) (argsL := [(.int m), (.int (1 : Int32)), (.int (0 : Int32)), (.int (2 : Int32)), (.int (1 : Int32))]) 27 d_method_8_24 rfl (fun hn => c_exp1021 l Z a0 hw m _ n0 hn) (wd_138 hw) (wd_139 hw) (wd_4 hw) (wd_140 hw) (by decide) pd_9 rfl rfl rfl (by decide) 1 (Nat.le_of_ble_eq_true rfl) (by decide) (by decide) (by decide) ?_
  rintro v1782 h1782 ⟨rfl, rfl⟩
  show WG _ _ _ _ _ _ _ _ _ _ _ _ 0 0 27 #[.val (.ref t), .val (.int m), .val (.int (1 : Int32)), .val (.int (0 : Int32)), .val (.int (2 : Int32))] [(.int (own_exp (own_A10 m) (2 : Int32) (1 : Int32))), (.int (own_exp (own_A10 m) (2 : Int32) (1 : Int32)))]
  refine W.icmp_ne 49 30 d_method_8_27 rfl rfl (fun hc => absurd rfl hc) (fun _ => ?_)
  refine W.aloadN 31 d_method_8_30 rfl rfl rfl ?_
  refine W.iconst 32 d_method_8_31 rfl (2 : Int32) rfl ?_
  refine W.iaload 33 d_method_8_32 rfl A 2 (by decide) (by decide) (.int (own_exp (own_A10 m) (2 : Int32) (2 : Int32))) rfl ?_
  refine W.iloadN 34 d_method_8_33 rfl rfl ?_
  refine W.iloadN 35 d_method_8_34 rfl rfl ?_
  refine W.iloadN 36 d_method_8_35 rfl rfl ?_
  refine W.iload 38 d_method_8_36 rfl rfl ?_
  refine W.iconst 39 d_method_8_38 rfl (2 : Int32) rfl ?_
  refine W.callS (rest := [(.int (own_exp (own_A10 m) (2 : Int32) (2 : Int32)))]) (argsL := [(.int m), (.int (1 : Int32)), (.int (0 : Int32)), (.int (2 : Int32)), (.int (2 : Int32))]) 42 d_method_8_39 rfl (fun hn => c_exp1022 l Z a0 hw m _ n0 hn) (wd_138 hw) (wd_139 hw) (wd_4 hw) (wd_140 hw) (by decide) pd_9 rfl rfl rfl (by decide) 1 (Nat.le_of_ble_eq_true rfl) (by decide) (by decide) (by decide) ?_
  rintro v1783 h1783 ⟨rfl, rfl⟩
  show WG _ _ _ _ _ _ _ _ _ _ _ _ 0 0 42 #[.val (.ref t), .val (.int m), .val (.int (1 : Int32)), .val (.int (0 : Int32)), .val (.int (2 : Int32))] [(.int (own_exp (own_A10 m) (2 : Int32) (2 : Int32))), (.int (own_exp (own_A10 m) (2 : Int32) (2 : Int32)))]
  refine W.icmp_ne 49 45 d_method_8_42 rfl rfl (fun hc => absurd rfl hc) (fun _ => ?_)
  refine W.iconst 46 d_method_8_45 rfl (1 : Int32) rfl ?_
  refine W.goto 50 d_method_8_46 rfl ?_
  exact W.ireturnN (t := .boolean) d_method_8_50 rfl (by simp) (1 : Int32) rfl ⟨rfl, rfl⟩ (by decide) (by decide)
theorem c_mt10 (l : Launch) (Z : State) (a0 : Array Value) (hw : HwT Z a0) (t : Addr) (m s : Int32) (h : Heap) (n0 : Nat) (hn : n0 ≤ h.size) (hs : s = 0 ∨ s = 1 ∨ s = 2) (A : Ary Z h t .int [(.int (own_exp (own_A10 m) s (0 : Int32))), (.int (own_exp (own_A10 m) s (1 : Int32))), (.int (own_exp (own_A10 m) s (2 : Int32)))]) : Con l Z (⟨"com/example/eccentra/eccentra/MainVertexDistancesPinLaw", "matches", "([IIZZI)Z"⟩ : MethodName) method_8_code 5 (some .boolean) ({ frames := 4, cells := 0, slots := 0, locals := 110 } : Room) #[(.ref t), (.int m), (.int (1 : Int32)), (.int (0 : Int32)), (.int s)] h n0 (fun r h' => r = some (.int 1) ∧ h' = h) := by
  rcases hs with rfl | rfl | rfl
  · exact c_mt100 l Z a0 hw t m h n0 hn A
  · exact c_mt101 l Z a0 hw t m h n0 hn A
  · exact c_mt102 l Z a0 hw t m h n0 hn A
theorem own_csr_ex {e01 e02 e10 e12 e20 e21 : Int32} {c : List Int32 × List Int32} (h : own_csr e01 e02 e10 e12 e20 e21 = some c) : ∃ x0 q0 x1 q1 x2 q2, own_fill2 e01 1 e02 2 [0, 0, 0, 0, 0, 0] 0 = some (x0, q0) ∧ own_fill2 e10 0 e12 2 x0 q0 = some (x1, q1) ∧ own_fill2 e20 0 e21 1 x1 q1 = some (x2, q2) ∧ c = ([0, q0, q1, q2], x2) := by
  obtain ⟨⟨x0, q0⟩, h0, h⟩ := Option.bind_eq_some_iff.mp h
  obtain ⟨⟨x1, q1⟩, h1, h⟩ := Option.bind_eq_some_iff.mp h
  obtain ⟨⟨x2, q2⟩, h2, h⟩ := Option.bind_eq_some_iff.mp h
  exact ⟨x0, q0, x1, q1, x2, q2, h0, h1, h2, (Option.some.inj h).symm⟩
theorem own_OK_ex {e01 e02 e10 e12 e20 e21 s1 s2 : Int32} (h : own_OK e01 e02 e10 e12 e20 e21 s1 s2) : ∃ x0 q0 x1 q1 x2 q2 y0 w0 y1 w1 y2 w2 r1 r2, (own_fill2 e01 1 e02 2 [0, 0, 0, 0, 0, 0] 0 = some (x0, q0) ∧ own_fill2 e10 0 e12 2 x0 q0 = some (x1, q1) ∧ own_fill2 e20 0 e21 1 x1 q1 = some (x2, q2)) ∧ (own_fill2 e10 1 e20 2 [0, 0, 0, 0, 0, 0] 0 = some (y0, w0) ∧ own_fill2 e01 0 e21 2 y0 w0 = some (y1, w1) ∧ own_fill2 e02 0 e12 1 y1 w1 = some (y2, w2)) ∧
    own_search [0, q0, q1, q2] x2 s1 [-1, -1, -1] [0, 0, 0] [0, 0, 0] 0 = some r1 ∧ own_keep r1.1 r1.2.2.1 r1.2.2.2 = some [own_exp (own_adj e01 e02 e10 e12 e20 e21) s1 0, own_exp (own_adj e01 e02 e10 e12 e20 e21) s1 1, own_exp (own_adj e01 e02 e10 e12 e20 e21) s1 2] ∧ own_search [0, w0, w1, w2] y2 s2 r1.1 r1.2.1 r1.2.2.1 r1.2.2.2 = some r2 ∧ own_keep r2.1 r2.2.2.1 r2.2.2.2 = some [own_exp (own_adj e10 e20 e01 e21 e02 e12) s2 0, own_exp (own_adj e10 e20 e01 e21 e02 e12) s2 1, own_exp (own_adj e10 e20 e01 e21 e02 e12) s2 2] := by
  obtain ⟨k1, k2, k3, k4, k5, k6⟩ := h
  obtain ⟨x0, q0, x1, q1, x2, q2, a0, a1, a2, ec⟩ := own_csr_ex k1
  obtain ⟨y0, w0, y1, w1, y2, w2, b0, b1, b2, ed⟩ := own_csr_ex k2
  rw [ec] at k3 k4 k5 k6
  rw [ed] at k5 k6
  exact ⟨x0, q0, x1, q1, x2, q2, y0, w0, y1, w1, y2, w2, _, _, ⟨a0, a1, a2⟩, ⟨b0, b1, b2⟩, k3, k4, k5, k6⟩
theorem law_00 (l : Launch) (Z : State) (a0 : Array Value) (hw : HwT Z a0) (p0 p1 p2 p3 s1 s2 : Int32) (x0 x1 x2  : List Int32) (q0 q1 q2  : Int32) (r1 r2 : List Int32 × List Int32 × List Int32 × Int32) (h : Heap) (n0 : Nat) (hn : n0 ≤ h.size) (hD : (p3 &&& (1 : Int32)) = (0 : Int32)) (hF : (p3 &&& (2 : Int32)) = (0 : Int32)) (hS1 : ((p1 &&& (2147483647 : Int32)) % (3 : Int32)) = s1) (hS2 : ((p2 &&& (2147483647 : Int32)) % (3 : Int32)) = s2) (hs1 : s1 = 0 ∨ s1 = 1 ∨ s1 = 2) (hs2 : s2 = 0 ∨ s2 = 1 ∨ s2 = 2) (hx0 : own_fill2 (own_h p0 (1 : Int32)) 1 (own_h p0 (2 : Int32)) 2 [0, 0, 0, 0, 0, 0] 0 = some (x0, q0)) (hx1 : own_fill2 (own_h p0 (1 : Int32)) 0 (own_h p0 (5 : Int32)) 2 x0 q0 = some (x1, q1)) (hx2 : own_fill2 (own_h p0 (2 : Int32)) 0 (own_h p0 (5 : Int32)) 1 x1 q1 = some (x2, q2)) (hr1 : own_search [0, q0, q1, q2] x2 s1 [-1, -1, -1] [0, 0, 0] [0, 0, 0] 0 = some r1) (hk1 : own_keep r1.1 r1.2.2.1 r1.2.2.2 = some [(own_exp (own_A01 p0) s1 (0 : Int32)), (own_exp (own_A01 p0) s1 (1 : Int32)), (own_exp (own_A01 p0) s1 (2 : Int32))]) (hr2 : own_search [0, q0, q1, q2] x2 s2 r1.1 r1.2.1 r1.2.2.1 r1.2.2.2 = some r2) (hk2 : own_keep r2.1 r2.2.2.1 r2.2.2.2 = some [(own_exp (own_A01 p0) s2 (0 : Int32)), (own_exp (own_A01 p0) s2 (1 : Int32)), (own_exp (own_A01 p0) s2 (2 : Int32))]) : ConW tables_1 l Z x code maxLocals ret room_1 #[(.int p0), (.int p1), (.int p2), (.int p3)] h n0 (fun r _ => r = some (.int 1)) := by
  refine ConG.of_W (Ls := #[.val (.int p0), .val (.int p1), .val (.int p2), .val (.int p3), .unset, .unset, .unset, .unset, .unset, .unset, .unset, .unset, .unset, .unset, .unset, .unset, .unset]) (plainFor_of_name pn_0) hn (fun m => by first | (simp [entryFrame, mkF, argsToLocals, Value.category, maxLocals]; done) | rfl) ?_
  refine W.iloadN 1 at_0 rfl rfl ?_
  refine W.iconst 2 at_1 rfl (1 : Int32) rfl ?_
  refine W.iand 3 at_2 rfl (0 : Int32) hD ?_
  refine W.if_eq 10 6 at_3 rfl rfl (fun _ => ?_) (fun hc => absurd (by decide) hc)
  refine W.iconst 11 at_10 rfl (0 : Int32) rfl ?_
  refine W.istore 13 at_11 rfl #[.val (.int p0), .val (.int p1), .val (.int p2), .val (.int p3), .val (.int (0 : Int32)), .unset, .unset, .unset, .unset, .unset, .unset, .unset, .unset, .unset, .unset, .unset, .unset] rfl ?_
  refine W.iloadN 14 at_13 rfl rfl ?_
  refine W.iconst 15 at_14 rfl (2 : Int32) rfl ?_
  refine W.iand 16 at_15 rfl (0 : Int32) hF ?_
  refine W.if_eq 23 19 at_16 rfl rfl (fun _ => ?_) (fun hc => absurd (by decide) hc)
  refine W.iconst 24 at_23 rfl (0 : Int32) rfl ?_
  refine W.istore 26 at_24 rfl #[.val (.int p0), .val (.int p1), .val (.int p2), .val (.int p3), .val (.int (0 : Int32)), .val (.int (0 : Int32)), .unset, .unset, .unset, .unset, .unset, .unset, .unset, .unset, .unset, .unset, .unset] rfl ?_
  refine W.iloadN 27 at_26 rfl rfl ?_
  refine W.ldcI 29 at_27 rfl (wd_0 hw) ?_
  refine W.iand 30 at_29 rfl (p1 &&& (2147483647 : Int32)) rfl ?_
  refine W.iconst 31 at_30 rfl (3 : Int32) rfl ?_
  refine W.irem 32 at_31 rfl (by decide) s1 hS1 ?_
  refine W.istore 34 at_32 rfl #[.val (.int p0), .val (.int p1), .val (.int p2), .val (.int p3), .val (.int (0 : Int32)), .val (.int (0 : Int32)), .val (.int s1), .unset, .unset, .unset, .unset, .unset, .unset, .unset, .unset, .unset, .unset] rfl ?_
  refine W.iloadN 35 at_34 rfl rfl ?_
  refine W.ldcI 37 at_35 rfl (wd_0 hw) ?_
  refine W.iand 38 at_37 rfl (p2 &&& (2147483647 : Int32)) rfl ?_
  refine W.iconst 39 at_38 rfl (3 : Int32) rfl ?_
  refine W.irem 40 at_39 rfl (by decide) s2 hS2 ?_
  refine W.istore 42 at_40 rfl #[.val (.int p0), .val (.int p1), .val (.int p2), .val (.int p3), .val (.int (0 : Int32)), .val (.int (0 : Int32)), .val (.int s1), .val (.int s2), .unset, .unset, .unset, .unset, .unset, .unset, .unset, .unset, .unset] rfl ?_
  refine W.bipush 44 at_42 rfl (6 : Int32) rfl ?_
  refine W.newarray 46 at_44 rfl (wd_1 hw) rfl (by decide) 6 6 (by decide) (by decide) (by decide) (by decide) (by decide) rfl ?_
  intro h1784 b1784 g1784 ge1784 X1784 K1784 A1784
  have A1784 : Ary _ _ b1784 .int [(.int (0 : Int32)), (.int (0 : Int32)), (.int (0 : Int32)), (.int (0 : Int32)), (.int (0 : Int32)), (.int (0 : Int32))] := A1784
  show WG _ _ _ _ _ _ _ _ _ _ _ _ 1 6 46 #[.val (.int p0), .val (.int p1), .val (.int p2), .val (.int p3), .val (.int (0 : Int32)), .val (.int (0 : Int32)), .val (.int s1), .val (.int s2), .unset, .unset, .unset, .unset, .unset, .unset, .unset, .unset, .unset] [(.ref b1784)]
  refine W.astore 48 at_46 rfl rfl #[.val (.int p0), .val (.int p1), .val (.int p2), .val (.int p3), .val (.int (0 : Int32)), .val (.int (0 : Int32)), .val (.int s1), .val (.int s2), .val (.ref b1784), .unset, .unset, .unset, .unset, .unset, .unset, .unset, .unset] rfl ?_
  refine W.iconst 49 at_48 rfl (4 : Int32) rfl ?_
  refine W.newarray 51 at_49 rfl (wd_1 hw) rfl (by decide) 4 4 (by decide) (by decide) (by decide) (by decide) (by decide) rfl ?_
  intro h1785 b1785 g1785 ge1785 X1785 K1785 A1785
  have ne1786 : b1784 ≠ b1785 := Nat.ne_of_lt (Nat.lt_of_lt_of_eq A1784.lt g1785.symm)
  have A1785 : Ary _ _ b1785 .int [(.int (0 : Int32)), (.int (0 : Int32)), (.int (0 : Int32)), (.int (0 : Int32))] := A1785
  show WG _ _ _ _ _ _ _ _ _ _ _ _ 2 10 51 #[.val (.int p0), .val (.int p1), .val (.int p2), .val (.int p3), .val (.int (0 : Int32)), .val (.int (0 : Int32)), .val (.int s1), .val (.int s2), .val (.ref b1784), .unset, .unset, .unset, .unset, .unset, .unset, .unset, .unset] [(.ref b1785)]
  refine W.astore 53 at_51 rfl rfl #[.val (.int p0), .val (.int p1), .val (.int p2), .val (.int p3), .val (.int (0 : Int32)), .val (.int (0 : Int32)), .val (.int s1), .val (.int s2), .val (.ref b1784), .val (.ref b1785), .unset, .unset, .unset, .unset, .unset, .unset, .unset] rfl ?_
  refine W.aload 55 at_53 rfl rfl rfl ?_
  refine W.iconst 56 at_55 rfl (1 : Int32) rfl ?_
  refine W.iloadN 57 at_56 rfl rfl ?_
  refine W.iload 59 at_57 rfl rfl ?_
  refine W.iconst 60 at_59 rfl (1 : Int32) rfl ?_
  refine W.iconst 61 at_60 rfl (0 : Int32) rfl ?_
  refine W.aload 63 at_61 rfl rfl rfl ?_
  refine W.iconst 64 at_63 rfl (0 : Int32) rfl ?_
  have q1787 := (A1784.keep K1785 nin0)
  refine W.callS (rest := [(.int (1 : Int32)), (.ref b1785)]) (argsL := [(.int p0), (.int (0 : Int32)), (.int (1 : Int32)), (.int (0 : Int32)), (.ref b1784), (.int (0 : Int32))]) 67 at_64 rfl (fun hn => c_fil010 l Z a0 hw p0 (0 : Int32) q0 b1784 [0, 0, 0, 0, 0, 0] x0 _ n0 hn ge1784 q1787 hx0) (wd_2 hw) (wd_3 hw) (wd_4 hw) (wd_5 hw) (by decide) pd_10 rfl rfl rfl (by decide) 2 (Nat.le_of_ble_eq_true rfl) (by decide) (by decide) (by decide) ?_
  rintro v1788 h1788 ⟨rfl, A1788, K1788⟩
  show WG _ _ _ _ _ _ _ _ _ _ _ _ 2 10 67 #[.val (.int p0), .val (.int p1), .val (.int p2), .val (.int p3), .val (.int (0 : Int32)), .val (.int (0 : Int32)), .val (.int s1), .val (.int s2), .val (.ref b1784), .val (.ref b1785), .unset, .unset, .unset, .unset, .unset, .unset, .unset] [(.int q0), (.int (1 : Int32)), (.ref b1785)]
  have q1789 := (A1785.keep K1788 (ninS (Ne.symm ne1786) nin0))
  refine W.iastore 68 at_67 rfl q1789 1 (by decide) (by decide) (Nat.le_of_ble_eq_true rfl) ge1785 ?_
  intro h1790 W1790 K1790 A1790
  have A1790 : Ary _ _ b1785 .int [(.int (0 : Int32)), (.int q0), (.int (0 : Int32)), (.int (0 : Int32))] := A1790
  refine W.aload 70 at_68 rfl rfl rfl ?_
  refine W.iconst 71 at_70 rfl (2 : Int32) rfl ?_
  refine W.iloadN 72 at_71 rfl rfl ?_
  refine W.iload 74 at_72 rfl rfl ?_
  refine W.iconst 75 at_74 rfl (1 : Int32) rfl ?_
  refine W.iconst 76 at_75 rfl (1 : Int32) rfl ?_
  refine W.aload 78 at_76 rfl rfl rfl ?_
  refine W.aload 80 at_78 rfl rfl rfl ?_
  refine W.iconst 81 at_80 rfl (1 : Int32) rfl ?_
  refine W.iaload 82 at_81 rfl A1790 1 (by decide) (by decide) (.int q0) rfl ?_
  have q1791 := (A1788.keep K1790 (ninS ne1786 nin0))
  refine W.callS (rest := [(.int (2 : Int32)), (.ref b1785)]) (argsL := [(.int p0), (.int (0 : Int32)), (.int (1 : Int32)), (.int (1 : Int32)), (.ref b1784), (.int q0)]) 85 at_82 rfl (fun hn => c_fil011 l Z a0 hw p0 q0 q1 b1784 x0 x1 _ n0 hn ge1784 q1791 hx1) (wd_2 hw) (wd_3 hw) (wd_4 hw) (wd_5 hw) (by decide) pd_10 rfl rfl rfl (by decide) 2 (Nat.le_of_ble_eq_true rfl) (by decide) (by decide) (by decide) ?_
  rintro v1792 h1792 ⟨rfl, A1792, K1792⟩
  show WG _ _ _ _ _ _ _ _ _ _ _ _ 2 10 85 #[.val (.int p0), .val (.int p1), .val (.int p2), .val (.int p3), .val (.int (0 : Int32)), .val (.int (0 : Int32)), .val (.int s1), .val (.int s2), .val (.ref b1784), .val (.ref b1785), .unset, .unset, .unset, .unset, .unset, .unset, .unset] [(.int q1), (.int (2 : Int32)), (.ref b1785)]
  have q1793 := (A1790.keep K1792 (ninS (Ne.symm ne1786) nin0))
  refine W.iastore 86 at_85 rfl q1793 2 (by decide) (by decide) (Nat.le_of_ble_eq_true rfl) ge1785 ?_
  intro h1794 W1794 K1794 A1794
  have A1794 : Ary _ _ b1785 .int [(.int (0 : Int32)), (.int q0), (.int q1), (.int (0 : Int32))] := A1794
  refine W.aload 88 at_86 rfl rfl rfl ?_
  refine W.iconst 89 at_88 rfl (3 : Int32) rfl ?_
  refine W.iloadN 90 at_89 rfl rfl ?_
  refine W.iload 92 at_90 rfl rfl ?_
  refine W.iconst 93 at_92 rfl (1 : Int32) rfl ?_
  refine W.iconst 94 at_93 rfl (2 : Int32) rfl ?_
  refine W.aload 96 at_94 rfl rfl rfl ?_
  refine W.aload 98 at_96 rfl rfl rfl ?_
  refine W.iconst 99 at_98 rfl (2 : Int32) rfl ?_
  refine W.iaload 100 at_99 rfl A1794 2 (by decide) (by decide) (.int q1) rfl ?_
  have q1795 := (A1792.keep K1794 (ninS ne1786 nin0))
  refine W.callS (rest := [(.int (3 : Int32)), (.ref b1785)]) (argsL := [(.int p0), (.int (0 : Int32)), (.int (1 : Int32)), (.int (2 : Int32)), (.ref b1784), (.int q1)]) 103 at_100 rfl (fun hn => c_fil012 l Z a0 hw p0 q1 q2 b1784 x1 x2 _ n0 hn ge1784 q1795 hx2) (wd_2 hw) (wd_3 hw) (wd_4 hw) (wd_5 hw) (by decide) pd_10 rfl rfl rfl (by decide) 2 (Nat.le_of_ble_eq_true rfl) (by decide) (by decide) (by decide) ?_
  rintro v1796 h1796 ⟨rfl, A1796, K1796⟩
  show WG _ _ _ _ _ _ _ _ _ _ _ _ 2 10 103 #[.val (.int p0), .val (.int p1), .val (.int p2), .val (.int p3), .val (.int (0 : Int32)), .val (.int (0 : Int32)), .val (.int s1), .val (.int s2), .val (.ref b1784), .val (.ref b1785), .unset, .unset, .unset, .unset, .unset, .unset, .unset] [(.int q2), (.int (3 : Int32)), (.ref b1785)]
  have q1797 := (A1794.keep K1796 (ninS (Ne.symm ne1786) nin0))
  refine W.iastore 104 at_103 rfl q1797 3 (by decide) (by decide) (Nat.le_of_ble_eq_true rfl) ge1785 ?_
  intro h1798 W1798 K1798 A1798
  have A1798 : Ary _ _ b1785 .int [(.int (0 : Int32)), (.int q0), (.int q1), (.int q2)] := A1798
  refine W.aload 106 at_104 rfl rfl rfl ?_
  refine W.astore 108 at_106 rfl rfl #[.val (.int p0), .val (.int p1), .val (.int p2), .val (.int p3), .val (.int (0 : Int32)), .val (.int (0 : Int32)), .val (.int s1), .val (.int s2), .val (.ref b1784), .val (.ref b1785), .val (.ref b1784), .unset, .unset, .unset, .unset, .unset, .unset] rfl ?_
  refine W.aload 110 at_108 rfl rfl rfl ?_
  refine W.astore 112 at_110 rfl rfl #[.val (.int p0), .val (.int p1), .val (.int p2), .val (.int p3), .val (.int (0 : Int32)), .val (.int (0 : Int32)), .val (.int s1), .val (.int s2), .val (.ref b1784), .val (.ref b1785), .val (.ref b1784), .val (.ref b1785), .unset, .unset, .unset, .unset, .unset] rfl ?_
  refine W.iload 114 at_112 rfl rfl ?_
  refine W.if_eq 176 117 at_114 rfl rfl (fun _ => ?_) (fun hc => absurd (by decide) hc)
  refine W.new 179 at_176 rfl (wd_12 hw) (wd_13 hw) (wd_14 hw) (by decide) (by decide) ?_
  intro h1799 o1799 g1799 ge1799 X1799 K1799 E1799 D1799
  have q1800 := (A1796.keep K1798 (ninS ne1786 nin0))
  have ne1801 : b1784 ≠ o1799 := Nat.ne_of_lt (Nat.lt_of_lt_of_eq q1800.lt g1799.symm)
  have ne1802 : b1785 ≠ o1799 := Nat.ne_of_lt (Nat.lt_of_lt_of_eq A1798.lt g1799.symm)
  have f1803 : Fld _ _ o1799 "com/example/eccentra/eccentra/Graph" "labels" "[J" .null := D1799 (Or.inr (wd_24 hw)) (ty := (.array .long)) (by decide)
  have f1804 : Fld _ _ o1799 "com/example/eccentra/eccentra/Graph" "directed" "Z" (.int (0 : Int32)) := D1799 (Or.inr (wd_26 hw)) (ty := .boolean) (by decide)
  have f1805 : Fld _ _ o1799 "com/example/eccentra/eccentra/Graph" "outOffsets" "[I" .null := D1799 (Or.inr (wd_28 hw)) (ty := (.array .int)) (by decide)
  have f1806 : Fld _ _ o1799 "com/example/eccentra/eccentra/Graph" "outTargets" "[I" .null := D1799 (Or.inr (wd_30 hw)) (ty := (.array .int)) (by decide)
  have f1807 : Fld _ _ o1799 "com/example/eccentra/eccentra/Graph" "inOffsets" "[I" .null := D1799 (Or.inr (wd_32 hw)) (ty := (.array .int)) (by decide)
  have f1808 : Fld _ _ o1799 "com/example/eccentra/eccentra/Graph" "inSources" "[I" .null := D1799 (Or.inr (wd_34 hw)) (ty := (.array .int)) (by decide)
  show WG _ _ _ _ _ _ _ _ _ _ _ _ 3 16 179 #[.val (.int p0), .val (.int p1), .val (.int p2), .val (.int p3), .val (.int (0 : Int32)), .val (.int (0 : Int32)), .val (.int s1), .val (.int s2), .val (.ref b1784), .val (.ref b1785), .val (.ref b1784), .val (.ref b1785), .unset, .unset, .unset, .unset, .unset] [(.ref o1799)]
  refine W.dup 180 at_179 rfl rfl ?_
  refine W.iconst 181 at_180 rfl (3 : Int32) rfl ?_
  refine W.newarray 183 at_181 rfl (wd_15 hw) rfl (by decide) 3 3 (by decide) (by decide) (by decide) (by decide) (by decide) rfl ?_
  intro h1809 b1809 g1809 ge1809 X1809 K1809 A1809
  have q1810 := (q1800.keep K1799 nin0)
  have ne1811 : b1784 ≠ b1809 := Nat.ne_of_lt (Nat.lt_of_lt_of_eq q1810.lt g1809.symm)
  have q1812 := (A1798.keep K1799 nin0)
  have ne1813 : b1785 ≠ b1809 := Nat.ne_of_lt (Nat.lt_of_lt_of_eq q1812.lt g1809.symm)
  have ne1814 : o1799 ≠ b1809 := Nat.ne_of_lt (Nat.lt_of_lt_of_eq E1799.lt g1809.symm)
  have A1809 : Ary _ _ b1809 .long [(.long (0 : Int64)), (.long (0 : Int64)), (.long (0 : Int64))] := A1809
  show WG _ _ _ _ _ _ _ _ _ _ _ _ 4 19 183 #[.val (.int p0), .val (.int p1), .val (.int p2), .val (.int p3), .val (.int (0 : Int32)), .val (.int (0 : Int32)), .val (.int s1), .val (.int s2), .val (.ref b1784), .val (.ref b1785), .val (.ref b1784), .val (.ref b1785), .unset, .unset, .unset, .unset, .unset] [(.ref b1809), (.ref o1799), (.ref o1799)]
  refine W.dup 184 at_183 rfl rfl ?_
  refine W.iconst 185 at_184 rfl (0 : Int32) rfl ?_
  refine W.lconst 186 at_185 rfl (0 : Int64) rfl ?_
  refine W.lastore 187 at_186 rfl A1809 0 (by decide) (by decide) (Nat.le_of_ble_eq_true rfl) ge1809 ?_
  intro h1815 W1815 K1815 A1815
  have A1815 : Ary _ _ b1809 .long [(.long (0 : Int64)), (.long (0 : Int64)), (.long (0 : Int64))] := A1815
  refine W.dup 188 at_187 rfl rfl ?_
  refine W.iconst 189 at_188 rfl (1 : Int32) rfl ?_
  refine W.lconst 190 at_189 rfl (1 : Int64) rfl ?_
  refine W.lastore 191 at_190 rfl A1815 1 (by decide) (by decide) (Nat.le_of_ble_eq_true rfl) ge1809 ?_
  intro h1816 W1816 K1816 A1816
  have A1816 : Ary _ _ b1809 .long [(.long (0 : Int64)), (.long (1 : Int64)), (.long (0 : Int64))] := A1816
  refine W.dup 192 at_191 rfl rfl ?_
  refine W.iconst 193 at_192 rfl (2 : Int32) rfl ?_
  refine W.ldc2J 196 at_193 rfl (wd_16 hw) ?_
  refine W.lastore 197 at_196 rfl A1816 2 (by decide) (by decide) (Nat.le_of_ble_eq_true rfl) ge1809 ?_
  intro h1817 W1817 K1817 A1817
  have A1817 : Ary _ _ b1809 .long [(.long (0 : Int64)), (.long (1 : Int64)), (.long (2 : Int64))] := A1817
  refine W.iload 199 at_197 rfl rfl ?_
  refine W.aload 201 at_199 rfl rfl rfl ?_
  refine W.aload 203 at_201 rfl rfl rfl ?_
  refine W.aload 205 at_203 rfl rfl rfl ?_
  refine W.aload 207 at_205 rfl rfl rfl ?_
  have q1818 := ((((E1799.keep K1809).keep K1815).keep K1816).keep K1817)
  have q1819 := ((((f1803.keep K1809 nin0).keep K1815 (ninS ne1814 nin0)).keep K1816 (ninS ne1814 nin0)).keep K1817 (ninS ne1814 nin0))
  have q1820 := ((((f1804.keep K1809 nin0).keep K1815 (ninS ne1814 nin0)).keep K1816 (ninS ne1814 nin0)).keep K1817 (ninS ne1814 nin0))
  have q1821 := ((((f1805.keep K1809 nin0).keep K1815 (ninS ne1814 nin0)).keep K1816 (ninS ne1814 nin0)).keep K1817 (ninS ne1814 nin0))
  have q1822 := ((((f1806.keep K1809 nin0).keep K1815 (ninS ne1814 nin0)).keep K1816 (ninS ne1814 nin0)).keep K1817 (ninS ne1814 nin0))
  have q1823 := ((((f1807.keep K1809 nin0).keep K1815 (ninS ne1814 nin0)).keep K1816 (ninS ne1814 nin0)).keep K1817 (ninS ne1814 nin0))
  have q1824 := ((((f1808.keep K1809 nin0).keep K1815 (ninS ne1814 nin0)).keep K1816 (ninS ne1814 nin0)).keep K1817 (ninS ne1814 nin0))
  refine W.callInit (rest := [(.ref o1799)]) (argsL := [(.ref b1809), (.int (0 : Int32)), (.ref b1785), (.ref b1784), (.ref b1785), (.ref b1784)]) (a := o1799) 210 at_207 rfl (fun hn => c_gi0 l Z a0 hw o1799 b1809 b1785 b1784 b1785 b1784 _ n0 hn ge1799 q1818 q1819 q1820 q1821 q1822 q1823 q1824) rfl (wd_17 hw) (wd_18 hw) (wd_14 hw) (wd_19 hw) (by decide) pd_11 rfl rfl rfl (by decide) 1 (Nat.le_of_ble_eq_true rfl) (by decide) (by decide) (by decide) ?_
  rintro v1825 h1825 ⟨rfl, E1825, K1825, G01825, G11825, G21825, G31825, G41825, G51825⟩
  show WG _ _ _ _ _ _ _ _ _ _ _ _ 4 19 210 #[.val (.int p0), .val (.int p1), .val (.int p2), .val (.int p3), .val (.int (0 : Int32)), .val (.int (0 : Int32)), .val (.int s1), .val (.int s2), .val (.ref b1784), .val (.ref b1785), .val (.ref b1784), .val (.ref b1785), .unset, .unset, .unset, .unset, .unset] [(.ref o1799)]
  refine W.astore 212 at_210 rfl rfl #[.val (.int p0), .val (.int p1), .val (.int p2), .val (.int p3), .val (.int (0 : Int32)), .val (.int (0 : Int32)), .val (.int s1), .val (.int s2), .val (.ref b1784), .val (.ref b1785), .val (.ref b1784), .val (.ref b1785), .val (.ref o1799), .unset, .unset, .unset, .unset] rfl ?_
  refine W.new 215 at_212 rfl (wd_35 hw) (wd_36 hw) (wd_37 hw) (by decide) (by decide) ?_
  intro h1826 o1826 g1826 ge1826 X1826 K1826 E1826 D1826
  have q1827 := (((((q1810.keep K1809 nin0).keep K1815 (ninS ne1811 nin0)).keep K1816 (ninS ne1811 nin0)).keep K1817 (ninS ne1811 nin0)).keep K1825 (ninS ne1801 nin0))
  have ne1828 : b1784 ≠ o1826 := Nat.ne_of_lt (Nat.lt_of_lt_of_eq q1827.lt g1826.symm)
  have q1829 := (((((q1812.keep K1809 nin0).keep K1815 (ninS ne1813 nin0)).keep K1816 (ninS ne1813 nin0)).keep K1817 (ninS ne1813 nin0)).keep K1825 (ninS ne1802 nin0))
  have ne1830 : b1785 ≠ o1826 := Nat.ne_of_lt (Nat.lt_of_lt_of_eq q1829.lt g1826.symm)
  have q1831 := (A1817.keep K1825 (ninS (Ne.symm ne1814) nin0))
  have ne1832 : b1809 ≠ o1826 := Nat.ne_of_lt (Nat.lt_of_lt_of_eq q1831.lt g1826.symm)
  have ne1833 : o1799 ≠ o1826 := Nat.ne_of_lt (Nat.lt_of_lt_of_eq E1825.lt g1826.symm)
  have f1834 : Fld _ _ o1826 "com/example/eccentra/eccentra/MainVertex" "vertex" "I" (.int (0 : Int32)) := D1826 (Or.inl (wd_43 hw)) (ty := .int) (by decide)
  have f1835 : Fld _ _ o1826 "com/example/eccentra/eccentra/MainVertex" "from" "[I" .null := D1826 (Or.inr (wd_50 hw)) (ty := (.array .int)) (by decide)
  have f1836 : Fld _ _ o1826 "com/example/eccentra/eccentra/MainVertex" "to" "[I" .null := D1826 (Or.inr (wd_57 hw)) (ty := (.array .int)) (by decide)
  show WG _ _ _ _ _ _ _ _ _ _ _ _ 5 22 215 #[.val (.int p0), .val (.int p1), .val (.int p2), .val (.int p3), .val (.int (0 : Int32)), .val (.int (0 : Int32)), .val (.int s1), .val (.int s2), .val (.ref b1784), .val (.ref b1785), .val (.ref b1784), .val (.ref b1785), .val (.ref o1799), .unset, .unset, .unset, .unset] [(.ref o1826)]
  refine W.dup 216 at_215 rfl rfl ?_
  refine W.aload 218 at_216 rfl rfl rfl ?_
  have q1837 := (E1825.keep K1826)
  have q1838 := (G01825.keep K1826 nin0)
  have q1839 := (G11825.keep K1826 nin0)
  have q1840 := (q1831.keep K1826 nin0)
  refine W.callInit (rest := [(.ref o1826)]) (argsL := [(.ref o1799)]) (a := o1826) 221 at_218 rfl (fun hn => c_mi0 l Z a0 hw o1826 o1799 b1809 _ n0 hn ge1826 E1826 f1834 f1835 f1836 q1837 q1838 q1839 q1840 (Ne.symm ne1833) (Ne.symm ne1832)) rfl (wd_38 hw) (wd_39 hw) (wd_37 hw) (wd_40 hw) (by decide) pd_12 rfl rfl rfl (by decide) 1 (Nat.le_of_ble_eq_true rfl) (by decide) (by decide) (by decide) ?_
  rintro v1841 h1841 ⟨rfl, bf1841, sz11841, g11841, n11841, K1841, E1841, F01841, F11841, F21841, A11841⟩
  have q1842 := (q1827.keep K1826 nin0)
  have ne1843 : b1784 ≠ bf1841 := Nat.ne_of_lt (Nat.lt_of_lt_of_le q1842.lt sz11841)
  have q1844 := (q1829.keep K1826 nin0)
  have ne1845 : b1785 ≠ bf1841 := Nat.ne_of_lt (Nat.lt_of_lt_of_le q1844.lt sz11841)
  have ne1846 : b1809 ≠ bf1841 := Nat.ne_of_lt (Nat.lt_of_lt_of_le q1840.lt sz11841)
  have ne1847 : o1799 ≠ bf1841 := Nat.ne_of_lt (Nat.lt_of_lt_of_le q1837.lt sz11841)
  have ne1848 : o1826 ≠ bf1841 := Nat.ne_of_lt (Nat.lt_of_lt_of_le E1826.lt sz11841)
  show WG _ _ _ _ _ _ _ _ _ _ _ _ 7 28 221 #[.val (.int p0), .val (.int p1), .val (.int p2), .val (.int p3), .val (.int (0 : Int32)), .val (.int (0 : Int32)), .val (.int s1), .val (.int s2), .val (.ref b1784), .val (.ref b1785), .val (.ref b1784), .val (.ref b1785), .val (.ref o1799), .unset, .unset, .unset, .unset] [(.ref o1826)]
  refine W.astore 223 at_221 rfl rfl #[.val (.int p0), .val (.int p1), .val (.int p2), .val (.int p3), .val (.int (0 : Int32)), .val (.int (0 : Int32)), .val (.int s1), .val (.int s2), .val (.ref b1784), .val (.ref b1785), .val (.ref b1784), .val (.ref b1785), .val (.ref o1799), .val (.ref o1826), .unset, .unset, .unset] rfl ?_
  refine W.new 226 at_223 rfl (wd_58 hw) (wd_59 hw) (wd_60 hw) (by decide) (by decide) ?_
  intro h1849 o1849 g1849 ge1849 X1849 K1849 E1849 D1849
  have q1850 := (q1842.keep K1841 (ninS ne1828 nin0))
  have ne1851 : b1784 ≠ o1849 := Nat.ne_of_lt (Nat.lt_of_lt_of_eq q1850.lt g1849.symm)
  have q1852 := (q1844.keep K1841 (ninS ne1830 nin0))
  have ne1853 : b1785 ≠ o1849 := Nat.ne_of_lt (Nat.lt_of_lt_of_eq q1852.lt g1849.symm)
  have q1854 := (q1840.keep K1841 (ninS ne1832 nin0))
  have ne1855 : b1809 ≠ o1849 := Nat.ne_of_lt (Nat.lt_of_lt_of_eq q1854.lt g1849.symm)
  have ne1856 : bf1841 ≠ o1849 := Nat.ne_of_lt (Nat.lt_of_lt_of_eq A11841.lt g1849.symm)
  have q1857 := (q1837.keep K1841)
  have ne1858 : o1799 ≠ o1849 := Nat.ne_of_lt (Nat.lt_of_lt_of_eq q1857.lt g1849.symm)
  have ne1859 : o1826 ≠ o1849 := Nat.ne_of_lt (Nat.lt_of_lt_of_eq E1841.lt g1849.symm)
  have f1860 : Fld _ _ o1849 "com/example/eccentra/eccentra/BreadthFirst" "graph" "Lcom/example/eccentra/eccentra/Graph;" .null := D1849 (Or.inr (wd_66 hw)) (ty := (.object "com/example/eccentra/eccentra/Graph")) (by decide)
  have f1861 : Fld _ _ o1849 "com/example/eccentra/eccentra/BreadthFirst" "distance" "[I" .null := D1849 (Or.inr (wd_69 hw)) (ty := (.array .int)) (by decide)
  have f1862 : Fld _ _ o1849 "com/example/eccentra/eccentra/BreadthFirst" "parent" "[I" .null := D1849 (Or.inr (wd_75 hw)) (ty := (.array .int)) (by decide)
  have f1863 : Fld _ _ o1849 "com/example/eccentra/eccentra/BreadthFirst" "reachedOrder" "[I" .null := D1849 (Or.inr (wd_77 hw)) (ty := (.array .int)) (by decide)
  have f1864 : Fld _ _ o1849 "com/example/eccentra/eccentra/BreadthFirst" "reachedCount" "I" (.int (0 : Int32)) := D1849 (Or.inl (wd_88 hw)) (ty := .int) (by decide)
  show WG _ _ _ _ _ _ _ _ _ _ _ _ 8 33 226 #[.val (.int p0), .val (.int p1), .val (.int p2), .val (.int p3), .val (.int (0 : Int32)), .val (.int (0 : Int32)), .val (.int s1), .val (.int s2), .val (.ref b1784), .val (.ref b1785), .val (.ref b1784), .val (.ref b1785), .val (.ref o1799), .val (.ref o1826), .unset, .unset, .unset] [(.ref o1849)]
  refine W.dup 227 at_226 rfl rfl ?_
  refine W.aload 229 at_227 rfl rfl rfl ?_
  have q1865 := (q1857.keep K1849)
  have q1866 := ((q1838.keep K1841 (ninS ne1833 nin0)).keep K1849 nin0)
  have q1867 := (q1854.keep K1849 nin0)
  refine W.callInit (rest := [(.ref o1849)]) (argsL := [(.ref o1799)]) (a := o1849) 232 at_229 rfl (fun hn => c_bi l Z a0 hw o1849 o1799 b1809 _ n0 hn ge1849 E1849 f1860 f1861 f1862 f1863 f1864 q1865 q1866 q1867 (Ne.symm ne1858) (Ne.symm ne1855)) rfl (wd_61 hw) (wd_62 hw) (wd_60 hw) (wd_63 hw) (by decide) pd_12 rfl rfl rfl (by decide) 1 (Nat.le_of_ble_eq_true rfl) (by decide) (by decide) (by decide) ?_
  rintro v1868 h1868 ⟨rfl, bd1868, bp1868, bo1868, ⟨s11868, s21868, s31868, g11868, g21868, g31868, n11868, n21868, n31868, n41868, n51868, n61868⟩, K1868, E1868, F01868, F11868, F21868, F31868, F41868, A11868, A21868, A31868⟩
  have q1869 := (q1850.keep K1849 nin0)
  have ne1870 : b1784 ≠ bd1868 := Nat.ne_of_lt (Nat.lt_of_lt_of_le q1869.lt s11868)
  have q1871 := (q1852.keep K1849 nin0)
  have ne1872 : b1785 ≠ bd1868 := Nat.ne_of_lt (Nat.lt_of_lt_of_le q1871.lt s11868)
  have ne1873 : b1809 ≠ bd1868 := Nat.ne_of_lt (Nat.lt_of_lt_of_le q1867.lt s11868)
  have q1874 := (A11841.keep K1849 nin0)
  have ne1875 : bf1841 ≠ bd1868 := Nat.ne_of_lt (Nat.lt_of_lt_of_le q1874.lt s11868)
  have ne1876 : o1799 ≠ bd1868 := Nat.ne_of_lt (Nat.lt_of_lt_of_le q1865.lt s11868)
  have q1877 := (E1841.keep K1849)
  have ne1878 : o1826 ≠ bd1868 := Nat.ne_of_lt (Nat.lt_of_lt_of_le q1877.lt s11868)
  have ne1879 : o1849 ≠ bd1868 := Nat.ne_of_lt (Nat.lt_of_lt_of_le E1849.lt s11868)
  have ne1880 : b1784 ≠ bp1868 := Nat.ne_of_lt (Nat.lt_of_lt_of_le q1869.lt s21868)
  have ne1881 : b1785 ≠ bp1868 := Nat.ne_of_lt (Nat.lt_of_lt_of_le q1871.lt s21868)
  have ne1882 : b1809 ≠ bp1868 := Nat.ne_of_lt (Nat.lt_of_lt_of_le q1867.lt s21868)
  have ne1883 : bf1841 ≠ bp1868 := Nat.ne_of_lt (Nat.lt_of_lt_of_le q1874.lt s21868)
  have ne1884 : o1799 ≠ bp1868 := Nat.ne_of_lt (Nat.lt_of_lt_of_le q1865.lt s21868)
  have ne1885 : o1826 ≠ bp1868 := Nat.ne_of_lt (Nat.lt_of_lt_of_le q1877.lt s21868)
  have ne1886 : o1849 ≠ bp1868 := Nat.ne_of_lt (Nat.lt_of_lt_of_le E1849.lt s21868)
  have ne1887 : b1784 ≠ bo1868 := Nat.ne_of_lt (Nat.lt_of_lt_of_le q1869.lt s31868)
  have ne1888 : b1785 ≠ bo1868 := Nat.ne_of_lt (Nat.lt_of_lt_of_le q1871.lt s31868)
  have ne1889 : b1809 ≠ bo1868 := Nat.ne_of_lt (Nat.lt_of_lt_of_le q1867.lt s31868)
  have ne1890 : bf1841 ≠ bo1868 := Nat.ne_of_lt (Nat.lt_of_lt_of_le q1874.lt s31868)
  have ne1891 : o1799 ≠ bo1868 := Nat.ne_of_lt (Nat.lt_of_lt_of_le q1865.lt s31868)
  have ne1892 : o1826 ≠ bo1868 := Nat.ne_of_lt (Nat.lt_of_lt_of_le q1877.lt s31868)
  have ne1893 : o1849 ≠ bo1868 := Nat.ne_of_lt (Nat.lt_of_lt_of_le E1849.lt s31868)
  show WG _ _ _ _ _ _ _ _ _ _ _ _ 11 42 232 #[.val (.int p0), .val (.int p1), .val (.int p2), .val (.int p3), .val (.int (0 : Int32)), .val (.int (0 : Int32)), .val (.int s1), .val (.int s2), .val (.ref b1784), .val (.ref b1785), .val (.ref b1784), .val (.ref b1785), .val (.ref o1799), .val (.ref o1826), .unset, .unset, .unset] [(.ref o1849)]
  refine W.astore 234 at_232 rfl rfl #[.val (.int p0), .val (.int p1), .val (.int p2), .val (.int p3), .val (.int (0 : Int32)), .val (.int (0 : Int32)), .val (.int s1), .val (.int s2), .val (.ref b1784), .val (.ref b1785), .val (.ref b1784), .val (.ref b1785), .val (.ref o1799), .val (.ref o1826), .val (.ref o1849), .unset, .unset] rfl ?_
  refine W.aload 236 at_234 rfl rfl rfl ?_
  refine W.iload 238 at_236 rfl rfl ?_
  refine W.iload 240 at_238 rfl rfl ?_
  have q1894 := (q1865.keep K1868)
  have q1895 := ((((G41825.keep K1826 nin0).keep K1841 (ninS ne1833 nin0)).keep K1849 nin0).keep K1868 (ninS ne1858 nin0))
  have q1896 := ((((G51825.keep K1826 nin0).keep K1841 (ninS ne1833 nin0)).keep K1849 nin0).keep K1868 (ninS ne1858 nin0))
  have q1897 := (q1871.keep K1868 (ninS ne1853 nin0))
  have q1898 := (q1869.keep K1868 (ninS ne1851 nin0))
  refine W.callV (rest := []) (argsL := [(.int s1), (.int (0 : Int32))]) (a := o1849) 243 at_240 rfl (fun hn => c_s2_0 l Z a0 hw o1849 o1799 b1785 b1784 bd1868 bp1868 bo1868 [0, q0, q1, q2] x2 [-1, -1, -1] [0, 0, 0] [0, 0, 0] s1 (0 : Int32) r1 _ n0 hn g11868 g21868 g31868 n11868 n21868 n31868 ne1876 ne1884 ne1891 ne1872 ne1881 ne1888 ne1870 ne1880 ne1887 n41868 n51868 n61868 ge1849 E1868 q1894 F01868 F11868 F21868 F31868 q1895 q1896 q1897 q1898 F41868 A11868 A21868 A31868 hr1) E1868 (wd_78 hw) (wd_79 hw) (wd_81 hw) rfl (wd_80 hw) (wd_60 hw) (wd_82 hw) (by decide) pd_13 rfl rfl rfl (by decide) 0 (Nat.le_of_ble_eq_true rfl) (by decide) (by decide) (by decide) ?_
  rintro v1899 h1899 ⟨⟨z1899, rfl⟩, K1899, E1899, Fc1899, F11899, F21899, F31899, F41899, A11899, A21899, A31899⟩
  show WG _ _ _ _ _ _ _ _ _ _ _ _ 11 42 243 #[.val (.int p0), .val (.int p1), .val (.int p2), .val (.int p3), .val (.int (0 : Int32)), .val (.int (0 : Int32)), .val (.int s1), .val (.int s2), .val (.ref b1784), .val (.ref b1785), .val (.ref b1784), .val (.ref b1785), .val (.ref o1799), .val (.ref o1826), .val (.ref o1849), .unset, .unset] [(.int z1899)]
  refine W.pop1 244 at_243 rfl rfl ?_
  refine W.aload 246 at_244 rfl rfl rfl ?_
  refine W.aload 248 at_246 rfl rfl rfl ?_
  refine W.iload 250 at_248 rfl rfl ?_
  have q1900 := ((q1877.keep K1868).keep K1899)
  have q1901 := (((F01841.keep K1849 nin0).keep K1868 (ninS ne1859 nin0)).keep K1899 (ninS ne1859 (ninS ne1878 (ninS ne1885 (ninS ne1892 nin0)))))
  have q1902 := (((F21841.keep K1849 nin0).keep K1868 (ninS ne1859 nin0)).keep K1899 (ninS ne1859 (ninS ne1878 (ninS ne1885 (ninS ne1892 nin0)))))
  have q1903 := (((F11841.keep K1849 nin0).keep K1868 (ninS ne1859 nin0)).keep K1899 (ninS ne1859 (ninS ne1878 (ninS ne1885 (ninS ne1892 nin0)))))
  have q1904 := ((q1874.keep K1868 (ninS ne1856 nin0)).keep K1899 (ninS ne1856 (ninS ne1875 (ninS ne1883 (ninS ne1890 nin0)))))
  refine W.callV (rest := []) (argsL := [(.ref o1849), (.int (0 : Int32))]) (a := o1826) 253 at_250 rfl (fun hn => c_kp_0 l Z a0 hw o1826 o1849 bf1841 bd1868 bo1868 bf1841 r1.2.2.1 r1.1 [(own_exp (own_A01 p0) s1 (0 : Int32)), (own_exp (own_A01 p0) s1 (1 : Int32)), (own_exp (own_A01 p0) s1 (2 : Int32))] r1.2.2.2 (-1 : Int32) (0 : Int32) (0 : Int32) (0 : Int32) _ n0 hn g11841 n11841 (Ne.symm ne1856) (Ne.symm ne1875) (Ne.symm ne1890) ne1859 ne1878 ne1892 ge1826 q1900 q1901 q1902 q1903 E1899 Fc1899 F41899 F21899 A31899 A11899 q1904 hk1) q1900 (wd_99 hw) (wd_100 hw) (wd_102 hw) rfl (wd_101 hw) (wd_37 hw) (wd_103 hw) (by decide) pd_14 rfl rfl rfl (by decide) 0 (Nat.le_of_ble_eq_true rfl) (by decide) (by decide) (by decide) ?_
  rintro v1905 h1905 ⟨rfl, K1905, E1905, ⟨vx1905, F01905⟩, F11905, F21905, A1905⟩
  show WG _ _ _ _ _ _ _ _ _ _ _ _ 11 42 253 #[.val (.int p0), .val (.int p1), .val (.int p2), .val (.int p3), .val (.int (0 : Int32)), .val (.int (0 : Int32)), .val (.int s1), .val (.int s2), .val (.ref b1784), .val (.ref b1785), .val (.ref b1784), .val (.ref b1785), .val (.ref o1799), .val (.ref o1826), .val (.ref o1849), .unset, .unset] []
  refine W.aload 255 at_253 rfl rfl rfl ?_
  refine W.iload 257 at_255 rfl rfl ?_
  refine W.iload 259 at_257 rfl rfl ?_
  refine W.if_ne 266 262 at_259 rfl rfl (fun hc => absurd (by decide) hc) (fun _ => ?_)
  refine W.iconst 263 at_262 rfl (1 : Int32) rfl ?_
  refine W.goto 267 at_263 rfl ?_
  have q1906 := ((q1894.keep K1899).keep K1905)
  have q1907 := (F11899.keep K1905 (ninS (Ne.symm ne1859) (ninS (Ne.symm ne1856) nin0)))
  have q1908 := (F21899.keep K1905 (ninS (Ne.symm ne1859) (ninS (Ne.symm ne1856) nin0)))
  have q1909 := (F31899.keep K1905 (ninS (Ne.symm ne1859) (ninS (Ne.symm ne1856) nin0)))
  have q1910 := (F41899.keep K1905 (ninS (Ne.symm ne1859) (ninS (Ne.symm ne1856) nin0)))
  have q1911 := ((((((G21825.keep K1826 nin0).keep K1841 (ninS ne1833 nin0)).keep K1849 nin0).keep K1868 (ninS ne1858 nin0)).keep K1899 (ninS ne1858 (ninS ne1876 (ninS ne1884 (ninS ne1891 nin0))))).keep K1905 (ninS ne1833 (ninS ne1847 nin0)))
  have q1912 := ((((((G31825.keep K1826 nin0).keep K1841 (ninS ne1833 nin0)).keep K1849 nin0).keep K1868 (ninS ne1858 nin0)).keep K1899 (ninS ne1858 (ninS ne1876 (ninS ne1884 (ninS ne1891 nin0))))).keep K1905 (ninS ne1833 (ninS ne1847 nin0)))
  have q1913 := ((q1897.keep K1899 (ninS ne1853 (ninS ne1872 (ninS ne1881 (ninS ne1888 nin0))))).keep K1905 (ninS ne1830 (ninS ne1845 nin0)))
  have q1914 := ((q1898.keep K1899 (ninS ne1851 (ninS ne1870 (ninS ne1880 (ninS ne1887 nin0))))).keep K1905 (ninS ne1828 (ninS ne1843 nin0)))
  have q1915 := (E1899.keep K1905)
  have q1916 := (Fc1899.keep K1905 (ninS (Ne.symm ne1859) (ninS (Ne.symm ne1856) nin0)))
  have q1917 := (A11899.keep K1905 (ninS (Ne.symm ne1878) (ninS (Ne.symm ne1875) nin0)))
  have q1918 := (A21899.keep K1905 (ninS (Ne.symm ne1885) (ninS (Ne.symm ne1883) nin0)))
  have q1919 := (A31899.keep K1905 (ninS (Ne.symm ne1892) (ninS (Ne.symm ne1890) nin0)))
  refine W.callV (rest := []) (argsL := [(.int s2), (.int (1 : Int32))]) (a := o1849) 270 at_267 rfl (fun hn => c_s2_1 l Z a0 hw o1849 o1799 b1785 b1784 bd1868 bp1868 bo1868 [0, q0, q1, q2] x2 r1.1 r1.2.1 r1.2.2.1 s2 r1.2.2.2 r2 _ n0 hn g11868 g21868 g31868 n11868 n21868 n31868 ne1876 ne1884 ne1891 ne1872 ne1881 ne1888 ne1870 ne1880 ne1887 n41868 n51868 n61868 ge1849 q1915 q1906 q1907 q1908 q1909 q1910 q1911 q1912 q1913 q1914 q1916 q1917 q1918 q1919 hr2) q1915 (wd_78 hw) (wd_79 hw) (wd_81 hw) rfl (wd_80 hw) (wd_60 hw) (wd_82 hw) (by decide) pd_13 rfl rfl rfl (by decide) 0 (Nat.le_of_ble_eq_true rfl) (by decide) (by decide) (by decide) ?_
  rintro v1920 h1920 ⟨⟨z1920, rfl⟩, K1920, E1920, Fc1920, F11920, F21920, F31920, F41920, A11920, A21920, A31920⟩
  show WG _ _ _ _ _ _ _ _ _ _ _ _ 11 42 270 #[.val (.int p0), .val (.int p1), .val (.int p2), .val (.int p3), .val (.int (0 : Int32)), .val (.int (0 : Int32)), .val (.int s1), .val (.int s2), .val (.ref b1784), .val (.ref b1785), .val (.ref b1784), .val (.ref b1785), .val (.ref o1799), .val (.ref o1826), .val (.ref o1849), .unset, .unset] [(.int z1920)]
  refine W.pop1 271 at_270 rfl rfl ?_
  refine W.aload 273 at_271 rfl rfl rfl ?_
  refine W.aload 275 at_273 rfl rfl rfl ?_
  refine W.iload 277 at_275 rfl rfl ?_
  refine W.if_ne 284 280 at_277 rfl rfl (fun hc => absurd (by decide) hc) (fun _ => ?_)
  refine W.iconst 281 at_280 rfl (1 : Int32) rfl ?_
  refine W.goto 285 at_281 rfl ?_
  have q1921 := (E1905.keep K1920)
  have q1922 := (F01905.keep K1920 (ninS ne1859 (ninS ne1878 (ninS ne1885 (ninS ne1892 nin0)))))
  have q1923 := (F21905.keep K1920 (ninS ne1859 (ninS ne1878 (ninS ne1885 (ninS ne1892 nin0)))))
  have q1924 := (F11905.keep K1920 (ninS ne1859 (ninS ne1878 (ninS ne1885 (ninS ne1892 nin0)))))
  have q1925 := ((show Ary _ _ _ .int [(.int (own_exp (own_A01 p0) s1 (0 : Int32))), (.int (own_exp (own_A01 p0) s1 (1 : Int32))), (.int (own_exp (own_A01 p0) s1 (2 : Int32)))] from A1905).keep K1920 (ninS ne1856 (ninS ne1875 (ninS ne1883 (ninS ne1890 nin0)))))
  refine W.callV (rest := []) (argsL := [(.ref o1849), (.int (1 : Int32))]) (a := o1826) 288 at_285 rfl (fun hn => c_kp_1 l Z a0 hw o1826 o1849 bf1841 bd1868 bo1868 bf1841 r2.2.2.1 r2.1 [(own_exp (own_A01 p0) s2 (0 : Int32)), (own_exp (own_A01 p0) s2 (1 : Int32)), (own_exp (own_A01 p0) s2 (2 : Int32))] r2.2.2.2 vx1905 (own_exp (own_A01 p0) s1 (0 : Int32)) (own_exp (own_A01 p0) s1 (1 : Int32)) (own_exp (own_A01 p0) s1 (2 : Int32)) _ n0 hn g11841 n11841 (Ne.symm ne1856) (Ne.symm ne1875) (Ne.symm ne1890) ne1859 ne1878 ne1892 ge1826 q1921 q1922 q1923 q1924 E1920 Fc1920 F41920 F21920 A31920 A11920 q1925 hk2) q1921 (wd_99 hw) (wd_100 hw) (wd_102 hw) rfl (wd_101 hw) (wd_37 hw) (wd_103 hw) (by decide) pd_14 rfl rfl rfl (by decide) 0 (Nat.le_of_ble_eq_true rfl) (by decide) (by decide) (by decide) ?_
  rintro v1926 h1926 ⟨rfl, K1926, E1926, ⟨vx1926, F01926⟩, F11926, F21926, A1926⟩
  show WG _ _ _ _ _ _ _ _ _ _ _ _ 11 42 288 #[.val (.int p0), .val (.int p1), .val (.int p2), .val (.int p3), .val (.int (0 : Int32)), .val (.int (0 : Int32)), .val (.int s1), .val (.int s2), .val (.ref b1784), .val (.ref b1785), .val (.ref b1784), .val (.ref b1785), .val (.ref o1799), .val (.ref o1826), .val (.ref o1849), .unset, .unset] []
  refine W.aload 290 at_288 rfl rfl rfl ?_
  refine W.iload 292 at_290 rfl rfl ?_
  refine W.callV (rest := []) (argsL := [(.int (0 : Int32))]) (a := o1826) 295 at_292 rfl (fun hn => c_di0 l Z a0 hw o1826 bf1841 _ n0 hn F21926) E1926 (wd_130 hw) (wd_131 hw) (wd_133 hw) rfl (wd_132 hw) (wd_37 hw) (wd_134 hw) (by decide) pd_15 rfl rfl rfl (by decide) 0 (Nat.le_of_ble_eq_true rfl) (by decide) (by decide) (by decide) ?_
  rintro v1927 h1927 ⟨rfl, rfl⟩
  show WG _ _ _ _ _ _ _ _ _ _ _ _ 11 42 295 #[.val (.int p0), .val (.int p1), .val (.int p2), .val (.int p3), .val (.int (0 : Int32)), .val (.int (0 : Int32)), .val (.int s1), .val (.int s2), .val (.ref b1784), .val (.ref b1785), .val (.ref b1784), .val (.ref b1785), .val (.ref o1799), .val (.ref o1826), .val (.ref o1849), .unset, .unset] [(.ref bf1841)]
  refine W.astore 297 at_295 rfl rfl #[.val (.int p0), .val (.int p1), .val (.int p2), .val (.int p3), .val (.int (0 : Int32)), .val (.int (0 : Int32)), .val (.int s1), .val (.int s2), .val (.ref b1784), .val (.ref b1785), .val (.ref b1784), .val (.ref b1785), .val (.ref o1799), .val (.ref o1826), .val (.ref o1849), .val (.ref bf1841), .unset] rfl ?_
  refine W.aload 299 at_297 rfl rfl rfl ?_
  refine W.iload 301 at_299 rfl rfl ?_
  refine W.if_ne 308 304 at_301 rfl rfl (fun hc => absurd (by decide) hc) (fun _ => ?_)
  refine W.iconst 305 at_304 rfl (1 : Int32) rfl ?_
  refine W.goto 309 at_305 rfl ?_
  refine W.callV (rest := []) (argsL := [(.int (1 : Int32))]) (a := o1826) 312 at_309 rfl (fun hn => c_di1 l Z a0 hw o1826 bf1841 _ n0 hn F11926) E1926 (wd_130 hw) (wd_131 hw) (wd_133 hw) rfl (wd_132 hw) (wd_37 hw) (wd_134 hw) (by decide) pd_15 rfl rfl rfl (by decide) 0 (Nat.le_of_ble_eq_true rfl) (by decide) (by decide) (by decide) ?_
  rintro v1928 h1928 ⟨rfl, rfl⟩
  show WG _ _ _ _ _ _ _ _ _ _ _ _ 11 42 312 #[.val (.int p0), .val (.int p1), .val (.int p2), .val (.int p3), .val (.int (0 : Int32)), .val (.int (0 : Int32)), .val (.int s1), .val (.int s2), .val (.ref b1784), .val (.ref b1785), .val (.ref b1784), .val (.ref b1785), .val (.ref o1799), .val (.ref o1826), .val (.ref o1849), .val (.ref bf1841), .unset] [(.ref bf1841)]
  refine W.astore 314 at_312 rfl rfl #[.val (.int p0), .val (.int p1), .val (.int p2), .val (.int p3), .val (.int (0 : Int32)), .val (.int (0 : Int32)), .val (.int s1), .val (.int s2), .val (.ref b1784), .val (.ref b1785), .val (.ref b1784), .val (.ref b1785), .val (.ref o1799), .val (.ref o1826), .val (.ref o1849), .val (.ref bf1841), .val (.ref bf1841)] rfl ?_
  refine W.aload 316 at_314 rfl rfl rfl ?_
  refine W.ifnull_ref 319 at_316 rfl ?_
  refine W.aload 321 at_319 rfl rfl rfl ?_
  refine W.ifnull_ref 324 at_321 rfl ?_
  refine W.aload 326 at_324 rfl rfl rfl ?_
  refine W.arraylength 327 at_326 rfl (show Ary _ _ _ .int [(.int (own_exp (own_A01 p0) s2 (0 : Int32))), (.int (own_exp (own_A01 p0) s2 (1 : Int32))), (.int (own_exp (own_A01 p0) s2 (2 : Int32)))] from A1926) (3 : Int32) rfl ?_
  refine W.iconst 328 at_327 rfl (3 : Int32) rfl ?_
  refine W.icmp_ne 338 331 at_328 rfl rfl (fun hc => absurd (by decide) hc) (fun _ => ?_)
  refine W.aload 333 at_331 rfl rfl rfl ?_
  refine W.arraylength 334 at_333 rfl (show Ary _ _ _ .int [(.int (own_exp (own_A01 p0) s2 (0 : Int32))), (.int (own_exp (own_A01 p0) s2 (1 : Int32))), (.int (own_exp (own_A01 p0) s2 (2 : Int32)))] from A1926) (3 : Int32) rfl ?_
  refine W.iconst 335 at_334 rfl (3 : Int32) rfl ?_
  refine W.icmp_eq 340 338 at_335 rfl rfl (fun _ => ?_) (fun hc => absurd (by decide) hc)
  refine W.iload 342 at_340 rfl rfl ?_
  refine W.if_eq 394 345 at_342 rfl rfl (fun _ => ?_) (fun hc => absurd (by decide) hc)
  refine W.aload 396 at_394 rfl rfl rfl ?_
  refine W.aload 398 at_396 rfl rfl rfl ?_
  refine W.acmp_ne 418 401 at_398 rfl rfl rfl rfl (fun hc => absurd rfl hc) (fun _ => ?_)
  refine W.aload 403 at_401 rfl rfl rfl ?_
  refine W.iloadN 404 at_403 rfl rfl ?_
  refine W.iconst 405 at_404 rfl (0 : Int32) rfl ?_
  refine W.iconst 406 at_405 rfl (1 : Int32) rfl ?_
  refine W.iload 408 at_406 rfl rfl ?_
  refine W.callS (rest := []) (argsL := [(.ref bf1841), (.int p0), (.int (0 : Int32)), (.int (1 : Int32)), (.int s2)]) 411 at_408 rfl (fun hn => c_mt01 l Z a0 hw bf1841 p0 s2 _ n0 hn hs2 (show Ary _ _ _ .int [(.int (own_exp (own_A01 p0) s2 (0 : Int32))), (.int (own_exp (own_A01 p0) s2 (1 : Int32))), (.int (own_exp (own_A01 p0) s2 (2 : Int32)))] from A1926)) (wd_135 hw) (wd_136 hw) (wd_4 hw) (wd_137 hw) (by decide) pd_16 rfl rfl rfl (by decide) 0 (Nat.le_of_ble_eq_true rfl) (by decide) (by decide) (by decide) ?_
  rintro v1929 h1929 ⟨rfl, rfl⟩
  show WG _ _ _ _ _ _ _ _ _ _ _ _ 11 42 411 #[.val (.int p0), .val (.int p1), .val (.int p2), .val (.int p3), .val (.int (0 : Int32)), .val (.int (0 : Int32)), .val (.int s1), .val (.int s2), .val (.ref b1784), .val (.ref b1785), .val (.ref b1784), .val (.ref b1785), .val (.ref o1799), .val (.ref o1826), .val (.ref o1849), .val (.ref bf1841), .val (.ref bf1841)] [(.int (1 : Int32))]
  refine W.if_eq 418 414 at_411 rfl rfl (fun hc => absurd hc (by decide)) (fun _ => ?_)
  refine W.iconst 415 at_414 rfl (1 : Int32) rfl ?_
  refine W.goto 419 at_415 rfl ?_
  exact W.ireturnN (t := .boolean) at_419 rfl (by simp) (1 : Int32) rfl rfl (by decide) (by decide)
theorem law_01 (l : Launch) (Z : State) (a0 : Array Value) (hw : HwT Z a0) (p0 p1 p2 p3 s1 s2 : Int32) (x0 x1 x2  : List Int32) (q0 q1 q2  : Int32) (r1 r2 : List Int32 × List Int32 × List Int32 × Int32) (h : Heap) (n0 : Nat) (hn : n0 ≤ h.size) (hD : (p3 &&& (1 : Int32)) = (0 : Int32)) (hF : (p3 &&& (2 : Int32)) = (2 : Int32)) (hS1 : ((p1 &&& (2147483647 : Int32)) % (3 : Int32)) = s1) (hS2 : ((p2 &&& (2147483647 : Int32)) % (3 : Int32)) = s2) (hs1 : s1 = 0 ∨ s1 = 1 ∨ s1 = 2) (hs2 : s2 = 0 ∨ s2 = 1 ∨ s2 = 2) (hx0 : own_fill2 (own_h p0 (1 : Int32)) 1 (own_h p0 (2 : Int32)) 2 [0, 0, 0, 0, 0, 0] 0 = some (x0, q0)) (hx1 : own_fill2 (own_h p0 (1 : Int32)) 0 (own_h p0 (5 : Int32)) 2 x0 q0 = some (x1, q1)) (hx2 : own_fill2 (own_h p0 (2 : Int32)) 0 (own_h p0 (5 : Int32)) 1 x1 q1 = some (x2, q2)) (hr1 : own_search [0, q0, q1, q2] x2 s1 [-1, -1, -1] [0, 0, 0] [0, 0, 0] 0 = some r1) (hk1 : own_keep r1.1 r1.2.2.1 r1.2.2.2 = some [(own_exp (own_A01 p0) s1 (0 : Int32)), (own_exp (own_A01 p0) s1 (1 : Int32)), (own_exp (own_A01 p0) s1 (2 : Int32))]) (hr2 : own_search [0, q0, q1, q2] x2 s2 r1.1 r1.2.1 r1.2.2.1 r1.2.2.2 = some r2) (hk2 : own_keep r2.1 r2.2.2.1 r2.2.2.2 = some [(own_exp (own_A01 p0) s2 (0 : Int32)), (own_exp (own_A01 p0) s2 (1 : Int32)), (own_exp (own_A01 p0) s2 (2 : Int32))]) : ConW tables_1 l Z x code maxLocals ret room_1 #[(.int p0), (.int p1), (.int p2), (.int p3)] h n0 (fun r _ => r = some (.int 1)) := by
  refine ConG.of_W (Ls := #[.val (.int p0), .val (.int p1), .val (.int p2), .val (.int p3), .unset, .unset, .unset, .unset, .unset, .unset, .unset, .unset, .unset, .unset, .unset, .unset, .unset]) (plainFor_of_name pn_0) hn (fun m => by first | (simp [entryFrame, mkF, argsToLocals, Value.category, maxLocals]; done) | rfl) ?_
  refine W.iloadN 1 at_0 rfl rfl ?_
  refine W.iconst 2 at_1 rfl (1 : Int32) rfl ?_
  refine W.iand 3 at_2 rfl (0 : Int32) hD ?_
  refine W.if_eq 10 6 at_3 rfl rfl (fun _ => ?_) (fun hc => absurd (by decide) hc)
  refine W.iconst 11 at_10 rfl (0 : Int32) rfl ?_
  refine W.istore 13 at_11 rfl #[.val (.int p0), .val (.int p1), .val (.int p2), .val (.int p3), .val (.int (0 : Int32)), .unset, .unset, .unset, .unset, .unset, .unset, .unset, .unset, .unset, .unset, .unset, .unset] rfl ?_
  refine W.iloadN 14 at_13 rfl rfl ?_
  refine W.iconst 15 at_14 rfl (2 : Int32) rfl ?_
  refine W.iand 16 at_15 rfl (2 : Int32) hF ?_
  refine W.if_eq 23 19 at_16 rfl rfl (fun hc => absurd hc (by decide)) (fun _ => ?_)
  refine W.iconst 20 at_19 rfl (1 : Int32) rfl ?_
  refine W.goto 24 at_20 rfl ?_
  refine W.istore 26 at_24 rfl #[.val (.int p0), .val (.int p1), .val (.int p2), .val (.int p3), .val (.int (0 : Int32)), .val (.int (1 : Int32)), .unset, .unset, .unset, .unset, .unset, .unset, .unset, .unset, .unset, .unset, .unset] rfl ?_
  refine W.iloadN 27 at_26 rfl rfl ?_
  refine W.ldcI 29 at_27 rfl (wd_0 hw) ?_
  refine W.iand 30 at_29 rfl (p1 &&& (2147483647 : Int32)) rfl ?_
  refine W.iconst 31 at_30 rfl (3 : Int32) rfl ?_
  refine W.irem 32 at_31 rfl (by decide) s1 hS1 ?_
  refine W.istore 34 at_32 rfl #[.val (.int p0), .val (.int p1), .val (.int p2), .val (.int p3), .val (.int (0 : Int32)), .val (.int (1 : Int32)), .val (.int s1), .unset, .unset, .unset, .unset, .unset, .unset, .unset, .unset, .unset, .unset] rfl ?_
  refine W.iloadN 35 at_34 rfl rfl ?_
  refine W.ldcI 37 at_35 rfl (wd_0 hw) ?_
  refine W.iand 38 at_37 rfl (p2 &&& (2147483647 : Int32)) rfl ?_
  refine W.iconst 39 at_38 rfl (3 : Int32) rfl ?_
  refine W.irem 40 at_39 rfl (by decide) s2 hS2 ?_
  refine W.istore 42 at_40 rfl #[.val (.int p0), .val (.int p1), .val (.int p2), .val (.int p3), .val (.int (0 : Int32)), .val (.int (1 : Int32)), .val (.int s1), .val (.int s2), .unset, .unset, .unset, .unset, .unset, .unset, .unset, .unset, .unset] rfl ?_
  refine W.bipush 44 at_42 rfl (6 : Int32) rfl ?_
  refine W.newarray 46 at_44 rfl (wd_1 hw) rfl (by decide) 6 6 (by decide) (by decide) (by decide) (by decide) (by decide) rfl ?_
  intro h1930 b1930 g1930 ge1930 X1930 K1930 A1930
  have A1930 : Ary _ _ b1930 .int [(.int (0 : Int32)), (.int (0 : Int32)), (.int (0 : Int32)), (.int (0 : Int32)), (.int (0 : Int32)), (.int (0 : Int32))] := A1930
  show WG _ _ _ _ _ _ _ _ _ _ _ _ 1 6 46 #[.val (.int p0), .val (.int p1), .val (.int p2), .val (.int p3), .val (.int (0 : Int32)), .val (.int (1 : Int32)), .val (.int s1), .val (.int s2), .unset, .unset, .unset, .unset, .unset, .unset, .unset, .unset, .unset] [(.ref b1930)]
  refine W.astore 48 at_46 rfl rfl #[.val (.int p0), .val (.int p1), .val (.int p2), .val (.int p3), .val (.int (0 : Int32)), .val (.int (1 : Int32)), .val (.int s1), .val (.int s2), .val (.ref b1930), .unset, .unset, .unset, .unset, .unset, .unset, .unset, .unset] rfl ?_
  refine W.iconst 49 at_48 rfl (4 : Int32) rfl ?_
  refine W.newarray 51 at_49 rfl (wd_1 hw) rfl (by decide) 4 4 (by decide) (by decide) (by decide) (by decide) (by decide) rfl ?_
  intro h1931 b1931 g1931 ge1931 X1931 K1931 A1931
  have ne1932 : b1930 ≠ b1931 := Nat.ne_of_lt (Nat.lt_of_lt_of_eq A1930.lt g1931.symm)
  have A1931 : Ary _ _ b1931 .int [(.int (0 : Int32)), (.int (0 : Int32)), (.int (0 : Int32)), (.int (0 : Int32))] := A1931
  show WG _ _ _ _ _ _ _ _ _ _ _ _ 2 10 51 #[.val (.int p0), .val (.int p1), .val (.int p2), .val (.int p3), .val (.int (0 : Int32)), .val (.int (1 : Int32)), .val (.int s1), .val (.int s2), .val (.ref b1930), .unset, .unset, .unset, .unset, .unset, .unset, .unset, .unset] [(.ref b1931)]
  refine W.astore 53 at_51 rfl rfl #[.val (.int p0), .val (.int p1), .val (.int p2), .val (.int p3), .val (.int (0 : Int32)), .val (.int (1 : Int32)), .val (.int s1), .val (.int s2), .val (.ref b1930), .val (.ref b1931), .unset, .unset, .unset, .unset, .unset, .unset, .unset] rfl ?_
  refine W.aload 55 at_53 rfl rfl rfl ?_
  refine W.iconst 56 at_55 rfl (1 : Int32) rfl ?_
  refine W.iloadN 57 at_56 rfl rfl ?_
  refine W.iload 59 at_57 rfl rfl ?_
  refine W.iconst 60 at_59 rfl (1 : Int32) rfl ?_
  refine W.iconst 61 at_60 rfl (0 : Int32) rfl ?_
  refine W.aload 63 at_61 rfl rfl rfl ?_
  refine W.iconst 64 at_63 rfl (0 : Int32) rfl ?_
  have q1933 := (A1930.keep K1931 nin0)
  refine W.callS (rest := [(.int (1 : Int32)), (.ref b1931)]) (argsL := [(.int p0), (.int (0 : Int32)), (.int (1 : Int32)), (.int (0 : Int32)), (.ref b1930), (.int (0 : Int32))]) 67 at_64 rfl (fun hn => c_fil010 l Z a0 hw p0 (0 : Int32) q0 b1930 [0, 0, 0, 0, 0, 0] x0 _ n0 hn ge1930 q1933 hx0) (wd_2 hw) (wd_3 hw) (wd_4 hw) (wd_5 hw) (by decide) pd_10 rfl rfl rfl (by decide) 2 (Nat.le_of_ble_eq_true rfl) (by decide) (by decide) (by decide) ?_
  rintro v1934 h1934 ⟨rfl, A1934, K1934⟩
  show WG _ _ _ _ _ _ _ _ _ _ _ _ 2 10 67 #[.val (.int p0), .val (.int p1), .val (.int p2), .val (.int p3), .val (.int (0 : Int32)), .val (.int (1 : Int32)), .val (.int s1), .val (.int s2), .val (.ref b1930), .val (.ref b1931), .unset, .unset, .unset, .unset, .unset, .unset, .unset] [(.int q0), (.int (1 : Int32)), (.ref b1931)]
  have q1935 := (A1931.keep K1934 (ninS (Ne.symm ne1932) nin0))
  refine W.iastore 68 at_67 rfl q1935 1 (by decide) (by decide) (Nat.le_of_ble_eq_true rfl) ge1931 ?_
  intro h1936 W1936 K1936 A1936
  have A1936 : Ary _ _ b1931 .int [(.int (0 : Int32)), (.int q0), (.int (0 : Int32)), (.int (0 : Int32))] := A1936
  refine W.aload 70 at_68 rfl rfl rfl ?_
  refine W.iconst 71 at_70 rfl (2 : Int32) rfl ?_
  refine W.iloadN 72 at_71 rfl rfl ?_
  refine W.iload 74 at_72 rfl rfl ?_
  refine W.iconst 75 at_74 rfl (1 : Int32) rfl ?_
  refine W.iconst 76 at_75 rfl (1 : Int32) rfl ?_
  refine W.aload 78 at_76 rfl rfl rfl ?_
  refine W.aload 80 at_78 rfl rfl rfl ?_
  refine W.iconst 81 at_80 rfl (1 : Int32) rfl ?_
  refine W.iaload 82 at_81 rfl A1936 1 (by decide) (by decide) (.int q0) rfl ?_
  have q1937 := (A1934.keep K1936 (ninS ne1932 nin0))
  refine W.callS (rest := [(.int (2 : Int32)), (.ref b1931)]) (argsL := [(.int p0), (.int (0 : Int32)), (.int (1 : Int32)), (.int (1 : Int32)), (.ref b1930), (.int q0)]) 85 at_82 rfl (fun hn => c_fil011 l Z a0 hw p0 q0 q1 b1930 x0 x1 _ n0 hn ge1930 q1937 hx1) (wd_2 hw) (wd_3 hw) (wd_4 hw) (wd_5 hw) (by decide) pd_10 rfl rfl rfl (by decide) 2 (Nat.le_of_ble_eq_true rfl) (by decide) (by decide) (by decide) ?_
  rintro v1938 h1938 ⟨rfl, A1938, K1938⟩
  show WG _ _ _ _ _ _ _ _ _ _ _ _ 2 10 85 #[.val (.int p0), .val (.int p1), .val (.int p2), .val (.int p3), .val (.int (0 : Int32)), .val (.int (1 : Int32)), .val (.int s1), .val (.int s2), .val (.ref b1930), .val (.ref b1931), .unset, .unset, .unset, .unset, .unset, .unset, .unset] [(.int q1), (.int (2 : Int32)), (.ref b1931)]
  have q1939 := (A1936.keep K1938 (ninS (Ne.symm ne1932) nin0))
  refine W.iastore 86 at_85 rfl q1939 2 (by decide) (by decide) (Nat.le_of_ble_eq_true rfl) ge1931 ?_
  intro h1940 W1940 K1940 A1940
  have A1940 : Ary _ _ b1931 .int [(.int (0 : Int32)), (.int q0), (.int q1), (.int (0 : Int32))] := A1940
  refine W.aload 88 at_86 rfl rfl rfl ?_
  refine W.iconst 89 at_88 rfl (3 : Int32) rfl ?_
  refine W.iloadN 90 at_89 rfl rfl ?_
  refine W.iload 92 at_90 rfl rfl ?_
  refine W.iconst 93 at_92 rfl (1 : Int32) rfl ?_
  refine W.iconst 94 at_93 rfl (2 : Int32) rfl ?_
  refine W.aload 96 at_94 rfl rfl rfl ?_
  refine W.aload 98 at_96 rfl rfl rfl ?_
  refine W.iconst 99 at_98 rfl (2 : Int32) rfl ?_
  refine W.iaload 100 at_99 rfl A1940 2 (by decide) (by decide) (.int q1) rfl ?_
  have q1941 := (A1938.keep K1940 (ninS ne1932 nin0))
  refine W.callS (rest := [(.int (3 : Int32)), (.ref b1931)]) (argsL := [(.int p0), (.int (0 : Int32)), (.int (1 : Int32)), (.int (2 : Int32)), (.ref b1930), (.int q1)]) 103 at_100 rfl (fun hn => c_fil012 l Z a0 hw p0 q1 q2 b1930 x1 x2 _ n0 hn ge1930 q1941 hx2) (wd_2 hw) (wd_3 hw) (wd_4 hw) (wd_5 hw) (by decide) pd_10 rfl rfl rfl (by decide) 2 (Nat.le_of_ble_eq_true rfl) (by decide) (by decide) (by decide) ?_
  rintro v1942 h1942 ⟨rfl, A1942, K1942⟩
  show WG _ _ _ _ _ _ _ _ _ _ _ _ 2 10 103 #[.val (.int p0), .val (.int p1), .val (.int p2), .val (.int p3), .val (.int (0 : Int32)), .val (.int (1 : Int32)), .val (.int s1), .val (.int s2), .val (.ref b1930), .val (.ref b1931), .unset, .unset, .unset, .unset, .unset, .unset, .unset] [(.int q2), (.int (3 : Int32)), (.ref b1931)]
  have q1943 := (A1940.keep K1942 (ninS (Ne.symm ne1932) nin0))
  refine W.iastore 104 at_103 rfl q1943 3 (by decide) (by decide) (Nat.le_of_ble_eq_true rfl) ge1931 ?_
  intro h1944 W1944 K1944 A1944
  have A1944 : Ary _ _ b1931 .int [(.int (0 : Int32)), (.int q0), (.int q1), (.int q2)] := A1944
  refine W.aload 106 at_104 rfl rfl rfl ?_
  refine W.astore 108 at_106 rfl rfl #[.val (.int p0), .val (.int p1), .val (.int p2), .val (.int p3), .val (.int (0 : Int32)), .val (.int (1 : Int32)), .val (.int s1), .val (.int s2), .val (.ref b1930), .val (.ref b1931), .val (.ref b1930), .unset, .unset, .unset, .unset, .unset, .unset] rfl ?_
  refine W.aload 110 at_108 rfl rfl rfl ?_
  refine W.astore 112 at_110 rfl rfl #[.val (.int p0), .val (.int p1), .val (.int p2), .val (.int p3), .val (.int (0 : Int32)), .val (.int (1 : Int32)), .val (.int s1), .val (.int s2), .val (.ref b1930), .val (.ref b1931), .val (.ref b1930), .val (.ref b1931), .unset, .unset, .unset, .unset, .unset] rfl ?_
  refine W.iload 114 at_112 rfl rfl ?_
  refine W.if_eq 176 117 at_114 rfl rfl (fun _ => ?_) (fun hc => absurd (by decide) hc)
  refine W.new 179 at_176 rfl (wd_12 hw) (wd_13 hw) (wd_14 hw) (by decide) (by decide) ?_
  intro h1945 o1945 g1945 ge1945 X1945 K1945 E1945 D1945
  have q1946 := (A1942.keep K1944 (ninS ne1932 nin0))
  have ne1947 : b1930 ≠ o1945 := Nat.ne_of_lt (Nat.lt_of_lt_of_eq q1946.lt g1945.symm)
  have ne1948 : b1931 ≠ o1945 := Nat.ne_of_lt (Nat.lt_of_lt_of_eq A1944.lt g1945.symm)
  have f1949 : Fld _ _ o1945 "com/example/eccentra/eccentra/Graph" "labels" "[J" .null := D1945 (Or.inr (wd_24 hw)) (ty := (.array .long)) (by decide)
  have f1950 : Fld _ _ o1945 "com/example/eccentra/eccentra/Graph" "directed" "Z" (.int (0 : Int32)) := D1945 (Or.inr (wd_26 hw)) (ty := .boolean) (by decide)
  have f1951 : Fld _ _ o1945 "com/example/eccentra/eccentra/Graph" "outOffsets" "[I" .null := D1945 (Or.inr (wd_28 hw)) (ty := (.array .int)) (by decide)
  have f1952 : Fld _ _ o1945 "com/example/eccentra/eccentra/Graph" "outTargets" "[I" .null := D1945 (Or.inr (wd_30 hw)) (ty := (.array .int)) (by decide)
  have f1953 : Fld _ _ o1945 "com/example/eccentra/eccentra/Graph" "inOffsets" "[I" .null := D1945 (Or.inr (wd_32 hw)) (ty := (.array .int)) (by decide)
  have f1954 : Fld _ _ o1945 "com/example/eccentra/eccentra/Graph" "inSources" "[I" .null := D1945 (Or.inr (wd_34 hw)) (ty := (.array .int)) (by decide)
  show WG _ _ _ _ _ _ _ _ _ _ _ _ 3 16 179 #[.val (.int p0), .val (.int p1), .val (.int p2), .val (.int p3), .val (.int (0 : Int32)), .val (.int (1 : Int32)), .val (.int s1), .val (.int s2), .val (.ref b1930), .val (.ref b1931), .val (.ref b1930), .val (.ref b1931), .unset, .unset, .unset, .unset, .unset] [(.ref o1945)]
  refine W.dup 180 at_179 rfl rfl ?_
  refine W.iconst 181 at_180 rfl (3 : Int32) rfl ?_
  refine W.newarray 183 at_181 rfl (wd_15 hw) rfl (by decide) 3 3 (by decide) (by decide) (by decide) (by decide) (by decide) rfl ?_
  intro h1955 b1955 g1955 ge1955 X1955 K1955 A1955
  have q1956 := (q1946.keep K1945 nin0)
  have ne1957 : b1930 ≠ b1955 := Nat.ne_of_lt (Nat.lt_of_lt_of_eq q1956.lt g1955.symm)
  have q1958 := (A1944.keep K1945 nin0)
  have ne1959 : b1931 ≠ b1955 := Nat.ne_of_lt (Nat.lt_of_lt_of_eq q1958.lt g1955.symm)
  have ne1960 : o1945 ≠ b1955 := Nat.ne_of_lt (Nat.lt_of_lt_of_eq E1945.lt g1955.symm)
  have A1955 : Ary _ _ b1955 .long [(.long (0 : Int64)), (.long (0 : Int64)), (.long (0 : Int64))] := A1955
  show WG _ _ _ _ _ _ _ _ _ _ _ _ 4 19 183 #[.val (.int p0), .val (.int p1), .val (.int p2), .val (.int p3), .val (.int (0 : Int32)), .val (.int (1 : Int32)), .val (.int s1), .val (.int s2), .val (.ref b1930), .val (.ref b1931), .val (.ref b1930), .val (.ref b1931), .unset, .unset, .unset, .unset, .unset] [(.ref b1955), (.ref o1945), (.ref o1945)]
  refine W.dup 184 at_183 rfl rfl ?_
  refine W.iconst 185 at_184 rfl (0 : Int32) rfl ?_
  refine W.lconst 186 at_185 rfl (0 : Int64) rfl ?_
  refine W.lastore 187 at_186 rfl A1955 0 (by decide) (by decide) (Nat.le_of_ble_eq_true rfl) ge1955 ?_
  intro h1961 W1961 K1961 A1961
  have A1961 : Ary _ _ b1955 .long [(.long (0 : Int64)), (.long (0 : Int64)), (.long (0 : Int64))] := A1961
  refine W.dup 188 at_187 rfl rfl ?_
  refine W.iconst 189 at_188 rfl (1 : Int32) rfl ?_
  refine W.lconst 190 at_189 rfl (1 : Int64) rfl ?_
  refine W.lastore 191 at_190 rfl A1961 1 (by decide) (by decide) (Nat.le_of_ble_eq_true rfl) ge1955 ?_
  intro h1962 W1962 K1962 A1962
  have A1962 : Ary _ _ b1955 .long [(.long (0 : Int64)), (.long (1 : Int64)), (.long (0 : Int64))] := A1962
  refine W.dup 192 at_191 rfl rfl ?_
  refine W.iconst 193 at_192 rfl (2 : Int32) rfl ?_
  refine W.ldc2J 196 at_193 rfl (wd_16 hw) ?_
  refine W.lastore 197 at_196 rfl A1962 2 (by decide) (by decide) (Nat.le_of_ble_eq_true rfl) ge1955 ?_
  intro h1963 W1963 K1963 A1963
  have A1963 : Ary _ _ b1955 .long [(.long (0 : Int64)), (.long (1 : Int64)), (.long (2 : Int64))] := A1963
  refine W.iload 199 at_197 rfl rfl ?_
  refine W.aload 201 at_199 rfl rfl rfl ?_
  refine W.aload 203 at_201 rfl rfl rfl ?_
  refine W.aload 205 at_203 rfl rfl rfl ?_
  refine W.aload 207 at_205 rfl rfl rfl ?_
  have q1964 := ((((E1945.keep K1955).keep K1961).keep K1962).keep K1963)
  have q1965 := ((((f1949.keep K1955 nin0).keep K1961 (ninS ne1960 nin0)).keep K1962 (ninS ne1960 nin0)).keep K1963 (ninS ne1960 nin0))
  have q1966 := ((((f1950.keep K1955 nin0).keep K1961 (ninS ne1960 nin0)).keep K1962 (ninS ne1960 nin0)).keep K1963 (ninS ne1960 nin0))
  have q1967 := ((((f1951.keep K1955 nin0).keep K1961 (ninS ne1960 nin0)).keep K1962 (ninS ne1960 nin0)).keep K1963 (ninS ne1960 nin0))
  have q1968 := ((((f1952.keep K1955 nin0).keep K1961 (ninS ne1960 nin0)).keep K1962 (ninS ne1960 nin0)).keep K1963 (ninS ne1960 nin0))
  have q1969 := ((((f1953.keep K1955 nin0).keep K1961 (ninS ne1960 nin0)).keep K1962 (ninS ne1960 nin0)).keep K1963 (ninS ne1960 nin0))
  have q1970 := ((((f1954.keep K1955 nin0).keep K1961 (ninS ne1960 nin0)).keep K1962 (ninS ne1960 nin0)).keep K1963 (ninS ne1960 nin0))
  refine W.callInit (rest := [(.ref o1945)]) (argsL := [(.ref b1955), (.int (0 : Int32)), (.ref b1931), (.ref b1930), (.ref b1931), (.ref b1930)]) (a := o1945) 210 at_207 rfl (fun hn => c_gi0 l Z a0 hw o1945 b1955 b1931 b1930 b1931 b1930 _ n0 hn ge1945 q1964 q1965 q1966 q1967 q1968 q1969 q1970) rfl (wd_17 hw) (wd_18 hw) (wd_14 hw) (wd_19 hw) (by decide) pd_11 rfl rfl rfl (by decide) 1 (Nat.le_of_ble_eq_true rfl) (by decide) (by decide) (by decide) ?_
  rintro v1971 h1971 ⟨rfl, E1971, K1971, G01971, G11971, G21971, G31971, G41971, G51971⟩
  show WG _ _ _ _ _ _ _ _ _ _ _ _ 4 19 210 #[.val (.int p0), .val (.int p1), .val (.int p2), .val (.int p3), .val (.int (0 : Int32)), .val (.int (1 : Int32)), .val (.int s1), .val (.int s2), .val (.ref b1930), .val (.ref b1931), .val (.ref b1930), .val (.ref b1931), .unset, .unset, .unset, .unset, .unset] [(.ref o1945)]
  refine W.astore 212 at_210 rfl rfl #[.val (.int p0), .val (.int p1), .val (.int p2), .val (.int p3), .val (.int (0 : Int32)), .val (.int (1 : Int32)), .val (.int s1), .val (.int s2), .val (.ref b1930), .val (.ref b1931), .val (.ref b1930), .val (.ref b1931), .val (.ref o1945), .unset, .unset, .unset, .unset] rfl ?_
  refine W.new 215 at_212 rfl (wd_35 hw) (wd_36 hw) (wd_37 hw) (by decide) (by decide) ?_
  intro h1972 o1972 g1972 ge1972 X1972 K1972 E1972 D1972
  have q1973 := (((((q1956.keep K1955 nin0).keep K1961 (ninS ne1957 nin0)).keep K1962 (ninS ne1957 nin0)).keep K1963 (ninS ne1957 nin0)).keep K1971 (ninS ne1947 nin0))
  have ne1974 : b1930 ≠ o1972 := Nat.ne_of_lt (Nat.lt_of_lt_of_eq q1973.lt g1972.symm)
  have q1975 := (((((q1958.keep K1955 nin0).keep K1961 (ninS ne1959 nin0)).keep K1962 (ninS ne1959 nin0)).keep K1963 (ninS ne1959 nin0)).keep K1971 (ninS ne1948 nin0))
  have ne1976 : b1931 ≠ o1972 := Nat.ne_of_lt (Nat.lt_of_lt_of_eq q1975.lt g1972.symm)
  have q1977 := (A1963.keep K1971 (ninS (Ne.symm ne1960) nin0))
  have ne1978 : b1955 ≠ o1972 := Nat.ne_of_lt (Nat.lt_of_lt_of_eq q1977.lt g1972.symm)
  have ne1979 : o1945 ≠ o1972 := Nat.ne_of_lt (Nat.lt_of_lt_of_eq E1971.lt g1972.symm)
  have f1980 : Fld _ _ o1972 "com/example/eccentra/eccentra/MainVertex" "vertex" "I" (.int (0 : Int32)) := D1972 (Or.inl (wd_43 hw)) (ty := .int) (by decide)
  have f1981 : Fld _ _ o1972 "com/example/eccentra/eccentra/MainVertex" "from" "[I" .null := D1972 (Or.inr (wd_50 hw)) (ty := (.array .int)) (by decide)
  have f1982 : Fld _ _ o1972 "com/example/eccentra/eccentra/MainVertex" "to" "[I" .null := D1972 (Or.inr (wd_57 hw)) (ty := (.array .int)) (by decide)
  show WG _ _ _ _ _ _ _ _ _ _ _ _ 5 22 215 #[.val (.int p0), .val (.int p1), .val (.int p2), .val (.int p3), .val (.int (0 : Int32)), .val (.int (1 : Int32)), .val (.int s1), .val (.int s2), .val (.ref b1930), .val (.ref b1931), .val (.ref b1930), .val (.ref b1931), .val (.ref o1945), .unset, .unset, .unset, .unset] [(.ref o1972)]
  refine W.dup 216 at_215 rfl rfl ?_
  refine W.aload 218 at_216 rfl rfl rfl ?_
  have q1983 := (E1971.keep K1972)
  have q1984 := (G01971.keep K1972 nin0)
  have q1985 := (G11971.keep K1972 nin0)
  have q1986 := (q1977.keep K1972 nin0)
  refine W.callInit (rest := [(.ref o1972)]) (argsL := [(.ref o1945)]) (a := o1972) 221 at_218 rfl (fun hn => c_mi0 l Z a0 hw o1972 o1945 b1955 _ n0 hn ge1972 E1972 f1980 f1981 f1982 q1983 q1984 q1985 q1986 (Ne.symm ne1979) (Ne.symm ne1978)) rfl (wd_38 hw) (wd_39 hw) (wd_37 hw) (wd_40 hw) (by decide) pd_12 rfl rfl rfl (by decide) 1 (Nat.le_of_ble_eq_true rfl) (by decide) (by decide) (by decide) ?_
  rintro v1987 h1987 ⟨rfl, bf1987, sz11987, g11987, n11987, K1987, E1987, F01987, F11987, F21987, A11987⟩
  have q1988 := (q1973.keep K1972 nin0)
  have ne1989 : b1930 ≠ bf1987 := Nat.ne_of_lt (Nat.lt_of_lt_of_le q1988.lt sz11987)
  have q1990 := (q1975.keep K1972 nin0)
  have ne1991 : b1931 ≠ bf1987 := Nat.ne_of_lt (Nat.lt_of_lt_of_le q1990.lt sz11987)
  have ne1992 : b1955 ≠ bf1987 := Nat.ne_of_lt (Nat.lt_of_lt_of_le q1986.lt sz11987)
  have ne1993 : o1945 ≠ bf1987 := Nat.ne_of_lt (Nat.lt_of_lt_of_le q1983.lt sz11987)
  have ne1994 : o1972 ≠ bf1987 := Nat.ne_of_lt (Nat.lt_of_lt_of_le E1972.lt sz11987)
  show WG _ _ _ _ _ _ _ _ _ _ _ _ 7 28 221 #[.val (.int p0), .val (.int p1), .val (.int p2), .val (.int p3), .val (.int (0 : Int32)), .val (.int (1 : Int32)), .val (.int s1), .val (.int s2), .val (.ref b1930), .val (.ref b1931), .val (.ref b1930), .val (.ref b1931), .val (.ref o1945), .unset, .unset, .unset, .unset] [(.ref o1972)]
  refine W.astore 223 at_221 rfl rfl #[.val (.int p0), .val (.int p1), .val (.int p2), .val (.int p3), .val (.int (0 : Int32)), .val (.int (1 : Int32)), .val (.int s1), .val (.int s2), .val (.ref b1930), .val (.ref b1931), .val (.ref b1930), .val (.ref b1931), .val (.ref o1945), .val (.ref o1972), .unset, .unset, .unset] rfl ?_
  refine W.new 226 at_223 rfl (wd_58 hw) (wd_59 hw) (wd_60 hw) (by decide) (by decide) ?_
  intro h1995 o1995 g1995 ge1995 X1995 K1995 E1995 D1995
  have q1996 := (q1988.keep K1987 (ninS ne1974 nin0))
  have ne1997 : b1930 ≠ o1995 := Nat.ne_of_lt (Nat.lt_of_lt_of_eq q1996.lt g1995.symm)
  have q1998 := (q1990.keep K1987 (ninS ne1976 nin0))
  have ne1999 : b1931 ≠ o1995 := Nat.ne_of_lt (Nat.lt_of_lt_of_eq q1998.lt g1995.symm)
  have q2000 := (q1986.keep K1987 (ninS ne1978 nin0))
  have ne2001 : b1955 ≠ o1995 := Nat.ne_of_lt (Nat.lt_of_lt_of_eq q2000.lt g1995.symm)
  have ne2002 : bf1987 ≠ o1995 := Nat.ne_of_lt (Nat.lt_of_lt_of_eq A11987.lt g1995.symm)
  have q2003 := (q1983.keep K1987)
  have ne2004 : o1945 ≠ o1995 := Nat.ne_of_lt (Nat.lt_of_lt_of_eq q2003.lt g1995.symm)
  have ne2005 : o1972 ≠ o1995 := Nat.ne_of_lt (Nat.lt_of_lt_of_eq E1987.lt g1995.symm)
  have f2006 : Fld _ _ o1995 "com/example/eccentra/eccentra/BreadthFirst" "graph" "Lcom/example/eccentra/eccentra/Graph;" .null := D1995 (Or.inr (wd_66 hw)) (ty := (.object "com/example/eccentra/eccentra/Graph")) (by decide)
  have f2007 : Fld _ _ o1995 "com/example/eccentra/eccentra/BreadthFirst" "distance" "[I" .null := D1995 (Or.inr (wd_69 hw)) (ty := (.array .int)) (by decide)
  have f2008 : Fld _ _ o1995 "com/example/eccentra/eccentra/BreadthFirst" "parent" "[I" .null := D1995 (Or.inr (wd_75 hw)) (ty := (.array .int)) (by decide)
  have f2009 : Fld _ _ o1995 "com/example/eccentra/eccentra/BreadthFirst" "reachedOrder" "[I" .null := D1995 (Or.inr (wd_77 hw)) (ty := (.array .int)) (by decide)
  have f2010 : Fld _ _ o1995 "com/example/eccentra/eccentra/BreadthFirst" "reachedCount" "I" (.int (0 : Int32)) := D1995 (Or.inl (wd_88 hw)) (ty := .int) (by decide)
  show WG _ _ _ _ _ _ _ _ _ _ _ _ 8 33 226 #[.val (.int p0), .val (.int p1), .val (.int p2), .val (.int p3), .val (.int (0 : Int32)), .val (.int (1 : Int32)), .val (.int s1), .val (.int s2), .val (.ref b1930), .val (.ref b1931), .val (.ref b1930), .val (.ref b1931), .val (.ref o1945), .val (.ref o1972), .unset, .unset, .unset] [(.ref o1995)]
  refine W.dup 227 at_226 rfl rfl ?_
  refine W.aload 229 at_227 rfl rfl rfl ?_
  have q2011 := (q2003.keep K1995)
  have q2012 := ((q1984.keep K1987 (ninS ne1979 nin0)).keep K1995 nin0)
  have q2013 := (q2000.keep K1995 nin0)
  refine W.callInit (rest := [(.ref o1995)]) (argsL := [(.ref o1945)]) (a := o1995) 232 at_229 rfl (fun hn => c_bi l Z a0 hw o1995 o1945 b1955 _ n0 hn ge1995 E1995 f2006 f2007 f2008 f2009 f2010 q2011 q2012 q2013 (Ne.symm ne2004) (Ne.symm ne2001)) rfl (wd_61 hw) (wd_62 hw) (wd_60 hw) (wd_63 hw) (by decide) pd_12 rfl rfl rfl (by decide) 1 (Nat.le_of_ble_eq_true rfl) (by decide) (by decide) (by decide) ?_
  rintro v2014 h2014 ⟨rfl, bd2014, bp2014, bo2014, ⟨s12014, s22014, s32014, g12014, g22014, g32014, n12014, n22014, n32014, n42014, n52014, n62014⟩, K2014, E2014, F02014, F12014, F22014, F32014, F42014, A12014, A22014, A32014⟩
  have q2015 := (q1996.keep K1995 nin0)
  have ne2016 : b1930 ≠ bd2014 := Nat.ne_of_lt (Nat.lt_of_lt_of_le q2015.lt s12014)
  have q2017 := (q1998.keep K1995 nin0)
  have ne2018 : b1931 ≠ bd2014 := Nat.ne_of_lt (Nat.lt_of_lt_of_le q2017.lt s12014)
  have ne2019 : b1955 ≠ bd2014 := Nat.ne_of_lt (Nat.lt_of_lt_of_le q2013.lt s12014)
  have q2020 := (A11987.keep K1995 nin0)
  have ne2021 : bf1987 ≠ bd2014 := Nat.ne_of_lt (Nat.lt_of_lt_of_le q2020.lt s12014)
  have ne2022 : o1945 ≠ bd2014 := Nat.ne_of_lt (Nat.lt_of_lt_of_le q2011.lt s12014)
  have q2023 := (E1987.keep K1995)
  have ne2024 : o1972 ≠ bd2014 := Nat.ne_of_lt (Nat.lt_of_lt_of_le q2023.lt s12014)
  have ne2025 : o1995 ≠ bd2014 := Nat.ne_of_lt (Nat.lt_of_lt_of_le E1995.lt s12014)
  have ne2026 : b1930 ≠ bp2014 := Nat.ne_of_lt (Nat.lt_of_lt_of_le q2015.lt s22014)
  have ne2027 : b1931 ≠ bp2014 := Nat.ne_of_lt (Nat.lt_of_lt_of_le q2017.lt s22014)
  have ne2028 : b1955 ≠ bp2014 := Nat.ne_of_lt (Nat.lt_of_lt_of_le q2013.lt s22014)
  have ne2029 : bf1987 ≠ bp2014 := Nat.ne_of_lt (Nat.lt_of_lt_of_le q2020.lt s22014)
  have ne2030 : o1945 ≠ bp2014 := Nat.ne_of_lt (Nat.lt_of_lt_of_le q2011.lt s22014)
  have ne2031 : o1972 ≠ bp2014 := Nat.ne_of_lt (Nat.lt_of_lt_of_le q2023.lt s22014)
  have ne2032 : o1995 ≠ bp2014 := Nat.ne_of_lt (Nat.lt_of_lt_of_le E1995.lt s22014)
  have ne2033 : b1930 ≠ bo2014 := Nat.ne_of_lt (Nat.lt_of_lt_of_le q2015.lt s32014)
  have ne2034 : b1931 ≠ bo2014 := Nat.ne_of_lt (Nat.lt_of_lt_of_le q2017.lt s32014)
  have ne2035 : b1955 ≠ bo2014 := Nat.ne_of_lt (Nat.lt_of_lt_of_le q2013.lt s32014)
  have ne2036 : bf1987 ≠ bo2014 := Nat.ne_of_lt (Nat.lt_of_lt_of_le q2020.lt s32014)
  have ne2037 : o1945 ≠ bo2014 := Nat.ne_of_lt (Nat.lt_of_lt_of_le q2011.lt s32014)
  have ne2038 : o1972 ≠ bo2014 := Nat.ne_of_lt (Nat.lt_of_lt_of_le q2023.lt s32014)
  have ne2039 : o1995 ≠ bo2014 := Nat.ne_of_lt (Nat.lt_of_lt_of_le E1995.lt s32014)
  show WG _ _ _ _ _ _ _ _ _ _ _ _ 11 42 232 #[.val (.int p0), .val (.int p1), .val (.int p2), .val (.int p3), .val (.int (0 : Int32)), .val (.int (1 : Int32)), .val (.int s1), .val (.int s2), .val (.ref b1930), .val (.ref b1931), .val (.ref b1930), .val (.ref b1931), .val (.ref o1945), .val (.ref o1972), .unset, .unset, .unset] [(.ref o1995)]
  refine W.astore 234 at_232 rfl rfl #[.val (.int p0), .val (.int p1), .val (.int p2), .val (.int p3), .val (.int (0 : Int32)), .val (.int (1 : Int32)), .val (.int s1), .val (.int s2), .val (.ref b1930), .val (.ref b1931), .val (.ref b1930), .val (.ref b1931), .val (.ref o1945), .val (.ref o1972), .val (.ref o1995), .unset, .unset] rfl ?_
  refine W.aload 236 at_234 rfl rfl rfl ?_
  refine W.iload 238 at_236 rfl rfl ?_
  refine W.iload 240 at_238 rfl rfl ?_
  have q2040 := (q2011.keep K2014)
  have q2041 := ((((G21971.keep K1972 nin0).keep K1987 (ninS ne1979 nin0)).keep K1995 nin0).keep K2014 (ninS ne2004 nin0))
  have q2042 := ((((G31971.keep K1972 nin0).keep K1987 (ninS ne1979 nin0)).keep K1995 nin0).keep K2014 (ninS ne2004 nin0))
  have q2043 := (q2017.keep K2014 (ninS ne1999 nin0))
  have q2044 := (q2015.keep K2014 (ninS ne1997 nin0))
  refine W.callV (rest := []) (argsL := [(.int s1), (.int (1 : Int32))]) (a := o1995) 243 at_240 rfl (fun hn => c_s2_1 l Z a0 hw o1995 o1945 b1931 b1930 bd2014 bp2014 bo2014 [0, q0, q1, q2] x2 [-1, -1, -1] [0, 0, 0] [0, 0, 0] s1 (0 : Int32) r1 _ n0 hn g12014 g22014 g32014 n12014 n22014 n32014 ne2022 ne2030 ne2037 ne2018 ne2027 ne2034 ne2016 ne2026 ne2033 n42014 n52014 n62014 ge1995 E2014 q2040 F02014 F12014 F22014 F32014 q2041 q2042 q2043 q2044 F42014 A12014 A22014 A32014 hr1) E2014 (wd_78 hw) (wd_79 hw) (wd_81 hw) rfl (wd_80 hw) (wd_60 hw) (wd_82 hw) (by decide) pd_13 rfl rfl rfl (by decide) 0 (Nat.le_of_ble_eq_true rfl) (by decide) (by decide) (by decide) ?_
  rintro v2045 h2045 ⟨⟨z2045, rfl⟩, K2045, E2045, Fc2045, F12045, F22045, F32045, F42045, A12045, A22045, A32045⟩
  show WG _ _ _ _ _ _ _ _ _ _ _ _ 11 42 243 #[.val (.int p0), .val (.int p1), .val (.int p2), .val (.int p3), .val (.int (0 : Int32)), .val (.int (1 : Int32)), .val (.int s1), .val (.int s2), .val (.ref b1930), .val (.ref b1931), .val (.ref b1930), .val (.ref b1931), .val (.ref o1945), .val (.ref o1972), .val (.ref o1995), .unset, .unset] [(.int z2045)]
  refine W.pop1 244 at_243 rfl rfl ?_
  refine W.aload 246 at_244 rfl rfl rfl ?_
  refine W.aload 248 at_246 rfl rfl rfl ?_
  refine W.iload 250 at_248 rfl rfl ?_
  have q2046 := ((q2023.keep K2014).keep K2045)
  have q2047 := (((F01987.keep K1995 nin0).keep K2014 (ninS ne2005 nin0)).keep K2045 (ninS ne2005 (ninS ne2024 (ninS ne2031 (ninS ne2038 nin0)))))
  have q2048 := (((F11987.keep K1995 nin0).keep K2014 (ninS ne2005 nin0)).keep K2045 (ninS ne2005 (ninS ne2024 (ninS ne2031 (ninS ne2038 nin0)))))
  have q2049 := (((F21987.keep K1995 nin0).keep K2014 (ninS ne2005 nin0)).keep K2045 (ninS ne2005 (ninS ne2024 (ninS ne2031 (ninS ne2038 nin0)))))
  have q2050 := ((q2020.keep K2014 (ninS ne2002 nin0)).keep K2045 (ninS ne2002 (ninS ne2021 (ninS ne2029 (ninS ne2036 nin0)))))
  refine W.callV (rest := []) (argsL := [(.ref o1995), (.int (1 : Int32))]) (a := o1972) 253 at_250 rfl (fun hn => c_kp_1 l Z a0 hw o1972 o1995 bf1987 bd2014 bo2014 bf1987 r1.2.2.1 r1.1 [(own_exp (own_A01 p0) s1 (0 : Int32)), (own_exp (own_A01 p0) s1 (1 : Int32)), (own_exp (own_A01 p0) s1 (2 : Int32))] r1.2.2.2 (-1 : Int32) (0 : Int32) (0 : Int32) (0 : Int32) _ n0 hn g11987 n11987 (Ne.symm ne2002) (Ne.symm ne2021) (Ne.symm ne2036) ne2005 ne2024 ne2038 ge1972 q2046 q2047 q2048 q2049 E2045 Fc2045 F42045 F22045 A32045 A12045 q2050 hk1) q2046 (wd_99 hw) (wd_100 hw) (wd_102 hw) rfl (wd_101 hw) (wd_37 hw) (wd_103 hw) (by decide) pd_14 rfl rfl rfl (by decide) 0 (Nat.le_of_ble_eq_true rfl) (by decide) (by decide) (by decide) ?_
  rintro v2051 h2051 ⟨rfl, K2051, E2051, ⟨vx2051, F02051⟩, F12051, F22051, A2051⟩
  show WG _ _ _ _ _ _ _ _ _ _ _ _ 11 42 253 #[.val (.int p0), .val (.int p1), .val (.int p2), .val (.int p3), .val (.int (0 : Int32)), .val (.int (1 : Int32)), .val (.int s1), .val (.int s2), .val (.ref b1930), .val (.ref b1931), .val (.ref b1930), .val (.ref b1931), .val (.ref o1945), .val (.ref o1972), .val (.ref o1995), .unset, .unset] []
  refine W.aload 255 at_253 rfl rfl rfl ?_
  refine W.iload 257 at_255 rfl rfl ?_
  refine W.iload 259 at_257 rfl rfl ?_
  refine W.if_ne 266 262 at_259 rfl rfl (fun _ => ?_) (fun hc => absurd hc (by decide))
  refine W.iconst 267 at_266 rfl (0 : Int32) rfl ?_
  have q2052 := ((q2040.keep K2045).keep K2051)
  have q2053 := (F12045.keep K2051 (ninS (Ne.symm ne2005) (ninS (Ne.symm ne2002) nin0)))
  have q2054 := (F22045.keep K2051 (ninS (Ne.symm ne2005) (ninS (Ne.symm ne2002) nin0)))
  have q2055 := (F32045.keep K2051 (ninS (Ne.symm ne2005) (ninS (Ne.symm ne2002) nin0)))
  have q2056 := (F42045.keep K2051 (ninS (Ne.symm ne2005) (ninS (Ne.symm ne2002) nin0)))
  have q2057 := ((((((G41971.keep K1972 nin0).keep K1987 (ninS ne1979 nin0)).keep K1995 nin0).keep K2014 (ninS ne2004 nin0)).keep K2045 (ninS ne2004 (ninS ne2022 (ninS ne2030 (ninS ne2037 nin0))))).keep K2051 (ninS ne1979 (ninS ne1993 nin0)))
  have q2058 := ((((((G51971.keep K1972 nin0).keep K1987 (ninS ne1979 nin0)).keep K1995 nin0).keep K2014 (ninS ne2004 nin0)).keep K2045 (ninS ne2004 (ninS ne2022 (ninS ne2030 (ninS ne2037 nin0))))).keep K2051 (ninS ne1979 (ninS ne1993 nin0)))
  have q2059 := ((q2043.keep K2045 (ninS ne1999 (ninS ne2018 (ninS ne2027 (ninS ne2034 nin0))))).keep K2051 (ninS ne1976 (ninS ne1991 nin0)))
  have q2060 := ((q2044.keep K2045 (ninS ne1997 (ninS ne2016 (ninS ne2026 (ninS ne2033 nin0))))).keep K2051 (ninS ne1974 (ninS ne1989 nin0)))
  have q2061 := (E2045.keep K2051)
  have q2062 := (Fc2045.keep K2051 (ninS (Ne.symm ne2005) (ninS (Ne.symm ne2002) nin0)))
  have q2063 := (A12045.keep K2051 (ninS (Ne.symm ne2024) (ninS (Ne.symm ne2021) nin0)))
  have q2064 := (A22045.keep K2051 (ninS (Ne.symm ne2031) (ninS (Ne.symm ne2029) nin0)))
  have q2065 := (A32045.keep K2051 (ninS (Ne.symm ne2038) (ninS (Ne.symm ne2036) nin0)))
  refine W.callV (rest := []) (argsL := [(.int s2), (.int (0 : Int32))]) (a := o1995) 270 at_267 rfl (fun hn => c_s2_0 l Z a0 hw o1995 o1945 b1931 b1930 bd2014 bp2014 bo2014 [0, q0, q1, q2] x2 r1.1 r1.2.1 r1.2.2.1 s2 r1.2.2.2 r2 _ n0 hn g12014 g22014 g32014 n12014 n22014 n32014 ne2022 ne2030 ne2037 ne2018 ne2027 ne2034 ne2016 ne2026 ne2033 n42014 n52014 n62014 ge1995 q2061 q2052 q2053 q2054 q2055 q2056 q2057 q2058 q2059 q2060 q2062 q2063 q2064 q2065 hr2) q2061 (wd_78 hw) (wd_79 hw) (wd_81 hw) rfl (wd_80 hw) (wd_60 hw) (wd_82 hw) (by decide) pd_13 rfl rfl rfl (by decide) 0 (Nat.le_of_ble_eq_true rfl) (by decide) (by decide) (by decide) ?_
  rintro v2066 h2066 ⟨⟨z2066, rfl⟩, K2066, E2066, Fc2066, F12066, F22066, F32066, F42066, A12066, A22066, A32066⟩
  show WG _ _ _ _ _ _ _ _ _ _ _ _ 11 42 270 #[.val (.int p0), .val (.int p1), .val (.int p2), .val (.int p3), .val (.int (0 : Int32)), .val (.int (1 : Int32)), .val (.int s1), .val (.int s2), .val (.ref b1930), .val (.ref b1931), .val (.ref b1930), .val (.ref b1931), .val (.ref o1945), .val (.ref o1972), .val (.ref o1995), .unset, .unset] [(.int z2066)]
  refine W.pop1 271 at_270 rfl rfl ?_
  refine W.aload 273 at_271 rfl rfl rfl ?_
  refine W.aload 275 at_273 rfl rfl rfl ?_
  refine W.iload 277 at_275 rfl rfl ?_
  refine W.if_ne 284 280 at_277 rfl rfl (fun _ => ?_) (fun hc => absurd hc (by decide))
  refine W.iconst 285 at_284 rfl (0 : Int32) rfl ?_
  have q2067 := (E2051.keep K2066)
  have q2068 := (F02051.keep K2066 (ninS ne2005 (ninS ne2024 (ninS ne2031 (ninS ne2038 nin0)))))
  have q2069 := (F22051.keep K2066 (ninS ne2005 (ninS ne2024 (ninS ne2031 (ninS ne2038 nin0)))))
  have q2070 := (F12051.keep K2066 (ninS ne2005 (ninS ne2024 (ninS ne2031 (ninS ne2038 nin0)))))
  have q2071 := ((show Ary _ _ _ .int [(.int (own_exp (own_A01 p0) s1 (0 : Int32))), (.int (own_exp (own_A01 p0) s1 (1 : Int32))), (.int (own_exp (own_A01 p0) s1 (2 : Int32)))] from A2051).keep K2066 (ninS ne2002 (ninS ne2021 (ninS ne2029 (ninS ne2036 nin0)))))
  refine W.callV (rest := []) (argsL := [(.ref o1995), (.int (0 : Int32))]) (a := o1972) 288 at_285 rfl (fun hn => c_kp_0 l Z a0 hw o1972 o1995 bf1987 bd2014 bo2014 bf1987 r2.2.2.1 r2.1 [(own_exp (own_A01 p0) s2 (0 : Int32)), (own_exp (own_A01 p0) s2 (1 : Int32)), (own_exp (own_A01 p0) s2 (2 : Int32))] r2.2.2.2 vx2051 (own_exp (own_A01 p0) s1 (0 : Int32)) (own_exp (own_A01 p0) s1 (1 : Int32)) (own_exp (own_A01 p0) s1 (2 : Int32)) _ n0 hn g11987 n11987 (Ne.symm ne2002) (Ne.symm ne2021) (Ne.symm ne2036) ne2005 ne2024 ne2038 ge1972 q2067 q2068 q2069 q2070 E2066 Fc2066 F42066 F22066 A32066 A12066 q2071 hk2) q2067 (wd_99 hw) (wd_100 hw) (wd_102 hw) rfl (wd_101 hw) (wd_37 hw) (wd_103 hw) (by decide) pd_14 rfl rfl rfl (by decide) 0 (Nat.le_of_ble_eq_true rfl) (by decide) (by decide) (by decide) ?_
  rintro v2072 h2072 ⟨rfl, K2072, E2072, ⟨vx2072, F02072⟩, F12072, F22072, A2072⟩
  show WG _ _ _ _ _ _ _ _ _ _ _ _ 11 42 288 #[.val (.int p0), .val (.int p1), .val (.int p2), .val (.int p3), .val (.int (0 : Int32)), .val (.int (1 : Int32)), .val (.int s1), .val (.int s2), .val (.ref b1930), .val (.ref b1931), .val (.ref b1930), .val (.ref b1931), .val (.ref o1945), .val (.ref o1972), .val (.ref o1995), .unset, .unset] []
  refine W.aload 290 at_288 rfl rfl rfl ?_
  refine W.iload 292 at_290 rfl rfl ?_
  refine W.callV (rest := []) (argsL := [(.int (1 : Int32))]) (a := o1972) 295 at_292 rfl (fun hn => c_di1 l Z a0 hw o1972 bf1987 _ n0 hn F22072) E2072 (wd_130 hw) (wd_131 hw) (wd_133 hw) rfl (wd_132 hw) (wd_37 hw) (wd_134 hw) (by decide) pd_15 rfl rfl rfl (by decide) 0 (Nat.le_of_ble_eq_true rfl) (by decide) (by decide) (by decide) ?_
  rintro v2073 h2073 ⟨rfl, rfl⟩
  show WG _ _ _ _ _ _ _ _ _ _ _ _ 11 42 295 #[.val (.int p0), .val (.int p1), .val (.int p2), .val (.int p3), .val (.int (0 : Int32)), .val (.int (1 : Int32)), .val (.int s1), .val (.int s2), .val (.ref b1930), .val (.ref b1931), .val (.ref b1930), .val (.ref b1931), .val (.ref o1945), .val (.ref o1972), .val (.ref o1995), .unset, .unset] [(.ref bf1987)]
  refine W.astore 297 at_295 rfl rfl #[.val (.int p0), .val (.int p1), .val (.int p2), .val (.int p3), .val (.int (0 : Int32)), .val (.int (1 : Int32)), .val (.int s1), .val (.int s2), .val (.ref b1930), .val (.ref b1931), .val (.ref b1930), .val (.ref b1931), .val (.ref o1945), .val (.ref o1972), .val (.ref o1995), .val (.ref bf1987), .unset] rfl ?_
  refine W.aload 299 at_297 rfl rfl rfl ?_
  refine W.iload 301 at_299 rfl rfl ?_
  refine W.if_ne 308 304 at_301 rfl rfl (fun _ => ?_) (fun hc => absurd hc (by decide))
  refine W.iconst 309 at_308 rfl (0 : Int32) rfl ?_
  refine W.callV (rest := []) (argsL := [(.int (0 : Int32))]) (a := o1972) 312 at_309 rfl (fun hn => c_di0 l Z a0 hw o1972 bf1987 _ n0 hn F12072) E2072 (wd_130 hw) (wd_131 hw) (wd_133 hw) rfl (wd_132 hw) (wd_37 hw) (wd_134 hw) (by decide) pd_15 rfl rfl rfl (by decide) 0 (Nat.le_of_ble_eq_true rfl) (by decide) (by decide) (by decide) ?_
  rintro v2074 h2074 ⟨rfl, rfl⟩
  show WG _ _ _ _ _ _ _ _ _ _ _ _ 11 42 312 #[.val (.int p0), .val (.int p1), .val (.int p2), .val (.int p3), .val (.int (0 : Int32)), .val (.int (1 : Int32)), .val (.int s1), .val (.int s2), .val (.ref b1930), .val (.ref b1931), .val (.ref b1930), .val (.ref b1931), .val (.ref o1945), .val (.ref o1972), .val (.ref o1995), .val (.ref bf1987), .unset] [(.ref bf1987)]
  refine W.astore 314 at_312 rfl rfl #[.val (.int p0), .val (.int p1), .val (.int p2), .val (.int p3), .val (.int (0 : Int32)), .val (.int (1 : Int32)), .val (.int s1), .val (.int s2), .val (.ref b1930), .val (.ref b1931), .val (.ref b1930), .val (.ref b1931), .val (.ref o1945), .val (.ref o1972), .val (.ref o1995), .val (.ref bf1987), .val (.ref bf1987)] rfl ?_
  refine W.aload 316 at_314 rfl rfl rfl ?_
  refine W.ifnull_ref 319 at_316 rfl ?_
  refine W.aload 321 at_319 rfl rfl rfl ?_
  refine W.ifnull_ref 324 at_321 rfl ?_
  refine W.aload 326 at_324 rfl rfl rfl ?_
  refine W.arraylength 327 at_326 rfl (show Ary _ _ _ .int [(.int (own_exp (own_A01 p0) s2 (0 : Int32))), (.int (own_exp (own_A01 p0) s2 (1 : Int32))), (.int (own_exp (own_A01 p0) s2 (2 : Int32)))] from A2072) (3 : Int32) rfl ?_
  refine W.iconst 328 at_327 rfl (3 : Int32) rfl ?_
  refine W.icmp_ne 338 331 at_328 rfl rfl (fun hc => absurd (by decide) hc) (fun _ => ?_)
  refine W.aload 333 at_331 rfl rfl rfl ?_
  refine W.arraylength 334 at_333 rfl (show Ary _ _ _ .int [(.int (own_exp (own_A01 p0) s2 (0 : Int32))), (.int (own_exp (own_A01 p0) s2 (1 : Int32))), (.int (own_exp (own_A01 p0) s2 (2 : Int32)))] from A2072) (3 : Int32) rfl ?_
  refine W.iconst 335 at_334 rfl (3 : Int32) rfl ?_
  refine W.icmp_eq 340 338 at_335 rfl rfl (fun _ => ?_) (fun hc => absurd (by decide) hc)
  refine W.iload 342 at_340 rfl rfl ?_
  refine W.if_eq 394 345 at_342 rfl rfl (fun _ => ?_) (fun hc => absurd (by decide) hc)
  refine W.aload 396 at_394 rfl rfl rfl ?_
  refine W.aload 398 at_396 rfl rfl rfl ?_
  refine W.acmp_ne 418 401 at_398 rfl rfl rfl rfl (fun hc => absurd rfl hc) (fun _ => ?_)
  refine W.aload 403 at_401 rfl rfl rfl ?_
  refine W.iloadN 404 at_403 rfl rfl ?_
  refine W.iconst 405 at_404 rfl (0 : Int32) rfl ?_
  refine W.iconst 406 at_405 rfl (1 : Int32) rfl ?_
  refine W.iload 408 at_406 rfl rfl ?_
  refine W.callS (rest := []) (argsL := [(.ref bf1987), (.int p0), (.int (0 : Int32)), (.int (1 : Int32)), (.int s2)]) 411 at_408 rfl (fun hn => c_mt01 l Z a0 hw bf1987 p0 s2 _ n0 hn hs2 (show Ary _ _ _ .int [(.int (own_exp (own_A01 p0) s2 (0 : Int32))), (.int (own_exp (own_A01 p0) s2 (1 : Int32))), (.int (own_exp (own_A01 p0) s2 (2 : Int32)))] from A2072)) (wd_135 hw) (wd_136 hw) (wd_4 hw) (wd_137 hw) (by decide) pd_16 rfl rfl rfl (by decide) 0 (Nat.le_of_ble_eq_true rfl) (by decide) (by decide) (by decide) ?_
  rintro v2075 h2075 ⟨rfl, rfl⟩
  show WG _ _ _ _ _ _ _ _ _ _ _ _ 11 42 411 #[.val (.int p0), .val (.int p1), .val (.int p2), .val (.int p3), .val (.int (0 : Int32)), .val (.int (1 : Int32)), .val (.int s1), .val (.int s2), .val (.ref b1930), .val (.ref b1931), .val (.ref b1930), .val (.ref b1931), .val (.ref o1945), .val (.ref o1972), .val (.ref o1995), .val (.ref bf1987), .val (.ref bf1987)] [(.int (1 : Int32))]
  refine W.if_eq 418 414 at_411 rfl rfl (fun hc => absurd hc (by decide)) (fun _ => ?_)
  refine W.iconst 415 at_414 rfl (1 : Int32) rfl ?_
  refine W.goto 419 at_415 rfl ?_
  exact W.ireturnN (t := .boolean) at_419 rfl (by simp) (1 : Int32) rfl rfl (by decide) (by decide)
theorem law_10 (l : Launch) (Z : State) (a0 : Array Value) (hw : HwT Z a0) (p0 p1 p2 p3 s1 s2 : Int32) (x0 x1 x2 y0 y1 y2 : List Int32) (q0 q1 q2 w0 w1 w2 : Int32) (r1 r2 : List Int32 × List Int32 × List Int32 × Int32) (h : Heap) (n0 : Nat) (hn : n0 ≤ h.size) (hD : (p3 &&& (1 : Int32)) = (1 : Int32)) (hF : (p3 &&& (2 : Int32)) = (0 : Int32)) (hS1 : ((p1 &&& (2147483647 : Int32)) % (3 : Int32)) = s1) (hS2 : ((p2 &&& (2147483647 : Int32)) % (3 : Int32)) = s2) (hs1 : s1 = 0 ∨ s1 = 1 ∨ s1 = 2) (hs2 : s2 = 0 ∨ s2 = 1 ∨ s2 = 2) (hx0 : own_fill2 (own_h p0 (3 : Int32)) 1 (own_h p0 (6 : Int32)) 2 [0, 0, 0, 0, 0, 0] 0 = some (x0, q0)) (hx1 : own_fill2 (own_h p0 (1 : Int32)) 0 (own_h p0 (7 : Int32)) 2 x0 q0 = some (x1, q1)) (hx2 : own_fill2 (own_h p0 (2 : Int32)) 0 (own_h p0 (5 : Int32)) 1 x1 q1 = some (x2, q2)) (hy0 : own_fill2 (own_h p0 (1 : Int32)) 1 (own_h p0 (2 : Int32)) 2 [0, 0, 0, 0, 0, 0] 0 = some (y0, w0)) (hy1 : own_fill2 (own_h p0 (3 : Int32)) 0 (own_h p0 (5 : Int32)) 2 y0 w0 = some (y1, w1)) (hy2 : own_fill2 (own_h p0 (6 : Int32)) 0 (own_h p0 (7 : Int32)) 1 y1 w1 = some (y2, w2)) (hr1 : own_search [0, q0, q1, q2] x2 s1 [-1, -1, -1] [0, 0, 0] [0, 0, 0] 0 = some r1) (hk1 : own_keep r1.1 r1.2.2.1 r1.2.2.2 = some [(own_exp (own_A10 p0) s1 (0 : Int32)), (own_exp (own_A10 p0) s1 (1 : Int32)), (own_exp (own_A10 p0) s1 (2 : Int32))]) (hr2 : own_search [0, w0, w1, w2] y2 s2 r1.1 r1.2.1 r1.2.2.1 r1.2.2.2 = some r2) (hk2 : own_keep r2.1 r2.2.2.1 r2.2.2.2 = some [(own_exp (own_A11 p0) s2 (0 : Int32)), (own_exp (own_A11 p0) s2 (1 : Int32)), (own_exp (own_A11 p0) s2 (2 : Int32))]) : ConW tables_1 l Z x code maxLocals ret room_1 #[(.int p0), (.int p1), (.int p2), (.int p3)] h n0 (fun r _ => r = some (.int 1)) := by
  refine ConG.of_W (Ls := #[.val (.int p0), .val (.int p1), .val (.int p2), .val (.int p3), .unset, .unset, .unset, .unset, .unset, .unset, .unset, .unset, .unset, .unset, .unset, .unset, .unset]) (plainFor_of_name pn_0) hn (fun m => by first | (simp [entryFrame, mkF, argsToLocals, Value.category, maxLocals]; done) | rfl) ?_
  refine W.iloadN 1 at_0 rfl rfl ?_
  refine W.iconst 2 at_1 rfl (1 : Int32) rfl ?_
  refine W.iand 3 at_2 rfl (1 : Int32) hD ?_
  refine W.if_eq 10 6 at_3 rfl rfl (fun hc => absurd hc (by decide)) (fun _ => ?_)
  refine W.iconst 7 at_6 rfl (1 : Int32) rfl ?_
  refine W.goto 11 at_7 rfl ?_
  refine W.istore 13 at_11 rfl #[.val (.int p0), .val (.int p1), .val (.int p2), .val (.int p3), .val (.int (1 : Int32)), .unset, .unset, .unset, .unset, .unset, .unset, .unset, .unset, .unset, .unset, .unset, .unset] rfl ?_
  refine W.iloadN 14 at_13 rfl rfl ?_
  refine W.iconst 15 at_14 rfl (2 : Int32) rfl ?_
  refine W.iand 16 at_15 rfl (0 : Int32) hF ?_
  refine W.if_eq 23 19 at_16 rfl rfl (fun _ => ?_) (fun hc => absurd (by decide) hc)
  refine W.iconst 24 at_23 rfl (0 : Int32) rfl ?_
  refine W.istore 26 at_24 rfl #[.val (.int p0), .val (.int p1), .val (.int p2), .val (.int p3), .val (.int (1 : Int32)), .val (.int (0 : Int32)), .unset, .unset, .unset, .unset, .unset, .unset, .unset, .unset, .unset, .unset, .unset] rfl ?_
  refine W.iloadN 27 at_26 rfl rfl ?_
  refine W.ldcI 29 at_27 rfl (wd_0 hw) ?_
  refine W.iand 30 at_29 rfl (p1 &&& (2147483647 : Int32)) rfl ?_
  refine W.iconst 31 at_30 rfl (3 : Int32) rfl ?_
  refine W.irem 32 at_31 rfl (by decide) s1 hS1 ?_
  refine W.istore 34 at_32 rfl #[.val (.int p0), .val (.int p1), .val (.int p2), .val (.int p3), .val (.int (1 : Int32)), .val (.int (0 : Int32)), .val (.int s1), .unset, .unset, .unset, .unset, .unset, .unset, .unset, .unset, .unset, .unset] rfl ?_
  refine W.iloadN 35 at_34 rfl rfl ?_
  refine W.ldcI 37 at_35 rfl (wd_0 hw) ?_
  refine W.iand 38 at_37 rfl (p2 &&& (2147483647 : Int32)) rfl ?_
  refine W.iconst 39 at_38 rfl (3 : Int32) rfl ?_
  refine W.irem 40 at_39 rfl (by decide) s2 hS2 ?_
  refine W.istore 42 at_40 rfl #[.val (.int p0), .val (.int p1), .val (.int p2), .val (.int p3), .val (.int (1 : Int32)), .val (.int (0 : Int32)), .val (.int s1), .val (.int s2), .unset, .unset, .unset, .unset, .unset, .unset, .unset, .unset, .unset] rfl ?_
  refine W.bipush 44 at_42 rfl (6 : Int32) rfl ?_
  refine W.newarray 46 at_44 rfl (wd_1 hw) rfl (by decide) 6 6 (by decide) (by decide) (by decide) (by decide) (by decide) rfl ?_
  intro h2076 b2076 g2076 ge2076 X2076 K2076 A2076
  have A2076 : Ary _ _ b2076 .int [(.int (0 : Int32)), (.int (0 : Int32)), (.int (0 : Int32)), (.int (0 : Int32)), (.int (0 : Int32)), (.int (0 : Int32))] := A2076
  show WG _ _ _ _ _ _ _ _ _ _ _ _ 1 6 46 #[.val (.int p0), .val (.int p1), .val (.int p2), .val (.int p3), .val (.int (1 : Int32)), .val (.int (0 : Int32)), .val (.int s1), .val (.int s2), .unset, .unset, .unset, .unset, .unset, .unset, .unset, .unset, .unset] [(.ref b2076)]
  refine W.astore 48 at_46 rfl rfl #[.val (.int p0), .val (.int p1), .val (.int p2), .val (.int p3), .val (.int (1 : Int32)), .val (.int (0 : Int32)), .val (.int s1), .val (.int s2), .val (.ref b2076), .unset, .unset, .unset, .unset, .unset, .unset, .unset, .unset] rfl ?_
  refine W.iconst 49 at_48 rfl (4 : Int32) rfl ?_
  refine W.newarray 51 at_49 rfl (wd_1 hw) rfl (by decide) 4 4 (by decide) (by decide) (by decide) (by decide) (by decide) rfl ?_
  intro h2077 b2077 g2077 ge2077 X2077 K2077 A2077
  have ne2078 : b2076 ≠ b2077 := Nat.ne_of_lt (Nat.lt_of_lt_of_eq A2076.lt g2077.symm)
  have A2077 : Ary _ _ b2077 .int [(.int (0 : Int32)), (.int (0 : Int32)), (.int (0 : Int32)), (.int (0 : Int32))] := A2077
  show WG _ _ _ _ _ _ _ _ _ _ _ _ 2 10 51 #[.val (.int p0), .val (.int p1), .val (.int p2), .val (.int p3), .val (.int (1 : Int32)), .val (.int (0 : Int32)), .val (.int s1), .val (.int s2), .val (.ref b2076), .unset, .unset, .unset, .unset, .unset, .unset, .unset, .unset] [(.ref b2077)]
  refine W.astore 53 at_51 rfl rfl #[.val (.int p0), .val (.int p1), .val (.int p2), .val (.int p3), .val (.int (1 : Int32)), .val (.int (0 : Int32)), .val (.int s1), .val (.int s2), .val (.ref b2076), .val (.ref b2077), .unset, .unset, .unset, .unset, .unset, .unset, .unset] rfl ?_
  refine W.aload 55 at_53 rfl rfl rfl ?_
  refine W.iconst 56 at_55 rfl (1 : Int32) rfl ?_
  refine W.iloadN 57 at_56 rfl rfl ?_
  refine W.iload 59 at_57 rfl rfl ?_
  refine W.iconst 60 at_59 rfl (1 : Int32) rfl ?_
  refine W.iconst 61 at_60 rfl (0 : Int32) rfl ?_
  refine W.aload 63 at_61 rfl rfl rfl ?_
  refine W.iconst 64 at_63 rfl (0 : Int32) rfl ?_
  have q2079 := (A2076.keep K2077 nin0)
  refine W.callS (rest := [(.int (1 : Int32)), (.ref b2077)]) (argsL := [(.int p0), (.int (1 : Int32)), (.int (1 : Int32)), (.int (0 : Int32)), (.ref b2076), (.int (0 : Int32))]) 67 at_64 rfl (fun hn => c_fil110 l Z a0 hw p0 (0 : Int32) w0 b2076 [0, 0, 0, 0, 0, 0] y0 _ n0 hn ge2076 q2079 hy0) (wd_2 hw) (wd_3 hw) (wd_4 hw) (wd_5 hw) (by decide) pd_10 rfl rfl rfl (by decide) 2 (Nat.le_of_ble_eq_true rfl) (by decide) (by decide) (by decide) ?_
  rintro v2080 h2080 ⟨rfl, A2080, K2080⟩
  show WG _ _ _ _ _ _ _ _ _ _ _ _ 2 10 67 #[.val (.int p0), .val (.int p1), .val (.int p2), .val (.int p3), .val (.int (1 : Int32)), .val (.int (0 : Int32)), .val (.int s1), .val (.int s2), .val (.ref b2076), .val (.ref b2077), .unset, .unset, .unset, .unset, .unset, .unset, .unset] [(.int w0), (.int (1 : Int32)), (.ref b2077)]
  have q2081 := (A2077.keep K2080 (ninS (Ne.symm ne2078) nin0))
  refine W.iastore 68 at_67 rfl q2081 1 (by decide) (by decide) (Nat.le_of_ble_eq_true rfl) ge2077 ?_
  intro h2082 W2082 K2082 A2082
  have A2082 : Ary _ _ b2077 .int [(.int (0 : Int32)), (.int w0), (.int (0 : Int32)), (.int (0 : Int32))] := A2082
  refine W.aload 70 at_68 rfl rfl rfl ?_
  refine W.iconst 71 at_70 rfl (2 : Int32) rfl ?_
  refine W.iloadN 72 at_71 rfl rfl ?_
  refine W.iload 74 at_72 rfl rfl ?_
  refine W.iconst 75 at_74 rfl (1 : Int32) rfl ?_
  refine W.iconst 76 at_75 rfl (1 : Int32) rfl ?_
  refine W.aload 78 at_76 rfl rfl rfl ?_
  refine W.aload 80 at_78 rfl rfl rfl ?_
  refine W.iconst 81 at_80 rfl (1 : Int32) rfl ?_
  refine W.iaload 82 at_81 rfl A2082 1 (by decide) (by decide) (.int w0) rfl ?_
  have q2083 := (A2080.keep K2082 (ninS ne2078 nin0))
  refine W.callS (rest := [(.int (2 : Int32)), (.ref b2077)]) (argsL := [(.int p0), (.int (1 : Int32)), (.int (1 : Int32)), (.int (1 : Int32)), (.ref b2076), (.int w0)]) 85 at_82 rfl (fun hn => c_fil111 l Z a0 hw p0 w0 w1 b2076 y0 y1 _ n0 hn ge2076 q2083 hy1) (wd_2 hw) (wd_3 hw) (wd_4 hw) (wd_5 hw) (by decide) pd_10 rfl rfl rfl (by decide) 2 (Nat.le_of_ble_eq_true rfl) (by decide) (by decide) (by decide) ?_
  rintro v2084 h2084 ⟨rfl, A2084, K2084⟩
  show WG _ _ _ _ _ _ _ _ _ _ _ _ 2 10 85 #[.val (.int p0), .val (.int p1), .val (.int p2), .val (.int p3), .val (.int (1 : Int32)), .val (.int (0 : Int32)), .val (.int s1), .val (.int s2), .val (.ref b2076), .val (.ref b2077), .unset, .unset, .unset, .unset, .unset, .unset, .unset] [(.int w1), (.int (2 : Int32)), (.ref b2077)]
  have q2085 := (A2082.keep K2084 (ninS (Ne.symm ne2078) nin0))
  refine W.iastore 86 at_85 rfl q2085 2 (by decide) (by decide) (Nat.le_of_ble_eq_true rfl) ge2077 ?_
  intro h2086 W2086 K2086 A2086
  have A2086 : Ary _ _ b2077 .int [(.int (0 : Int32)), (.int w0), (.int w1), (.int (0 : Int32))] := A2086
  refine W.aload 88 at_86 rfl rfl rfl ?_
  refine W.iconst 89 at_88 rfl (3 : Int32) rfl ?_
  refine W.iloadN 90 at_89 rfl rfl ?_
  refine W.iload 92 at_90 rfl rfl ?_
  refine W.iconst 93 at_92 rfl (1 : Int32) rfl ?_
  refine W.iconst 94 at_93 rfl (2 : Int32) rfl ?_
  refine W.aload 96 at_94 rfl rfl rfl ?_
  refine W.aload 98 at_96 rfl rfl rfl ?_
  refine W.iconst 99 at_98 rfl (2 : Int32) rfl ?_
  refine W.iaload 100 at_99 rfl A2086 2 (by decide) (by decide) (.int w1) rfl ?_
  have q2087 := (A2084.keep K2086 (ninS ne2078 nin0))
  refine W.callS (rest := [(.int (3 : Int32)), (.ref b2077)]) (argsL := [(.int p0), (.int (1 : Int32)), (.int (1 : Int32)), (.int (2 : Int32)), (.ref b2076), (.int w1)]) 103 at_100 rfl (fun hn => c_fil112 l Z a0 hw p0 w1 w2 b2076 y1 y2 _ n0 hn ge2076 q2087 hy2) (wd_2 hw) (wd_3 hw) (wd_4 hw) (wd_5 hw) (by decide) pd_10 rfl rfl rfl (by decide) 2 (Nat.le_of_ble_eq_true rfl) (by decide) (by decide) (by decide) ?_
  rintro v2088 h2088 ⟨rfl, A2088, K2088⟩
  show WG _ _ _ _ _ _ _ _ _ _ _ _ 2 10 103 #[.val (.int p0), .val (.int p1), .val (.int p2), .val (.int p3), .val (.int (1 : Int32)), .val (.int (0 : Int32)), .val (.int s1), .val (.int s2), .val (.ref b2076), .val (.ref b2077), .unset, .unset, .unset, .unset, .unset, .unset, .unset] [(.int w2), (.int (3 : Int32)), (.ref b2077)]
  have q2089 := (A2086.keep K2088 (ninS (Ne.symm ne2078) nin0))
  refine W.iastore 104 at_103 rfl q2089 3 (by decide) (by decide) (Nat.le_of_ble_eq_true rfl) ge2077 ?_
  intro h2090 W2090 K2090 A2090
  have A2090 : Ary _ _ b2077 .int [(.int (0 : Int32)), (.int w0), (.int w1), (.int w2)] := A2090
  refine W.aload 106 at_104 rfl rfl rfl ?_
  refine W.astore 108 at_106 rfl rfl #[.val (.int p0), .val (.int p1), .val (.int p2), .val (.int p3), .val (.int (1 : Int32)), .val (.int (0 : Int32)), .val (.int s1), .val (.int s2), .val (.ref b2076), .val (.ref b2077), .val (.ref b2076), .unset, .unset, .unset, .unset, .unset, .unset] rfl ?_
  refine W.aload 110 at_108 rfl rfl rfl ?_
  refine W.astore 112 at_110 rfl rfl #[.val (.int p0), .val (.int p1), .val (.int p2), .val (.int p3), .val (.int (1 : Int32)), .val (.int (0 : Int32)), .val (.int s1), .val (.int s2), .val (.ref b2076), .val (.ref b2077), .val (.ref b2076), .val (.ref b2077), .unset, .unset, .unset, .unset, .unset] rfl ?_
  refine W.iload 114 at_112 rfl rfl ?_
  refine W.if_eq 176 117 at_114 rfl rfl (fun hc => absurd hc (by decide)) (fun _ => ?_)
  refine W.bipush 119 at_117 rfl (6 : Int32) rfl ?_
  refine W.newarray 121 at_119 rfl (wd_1 hw) rfl (by decide) 6 6 (by decide) (by decide) (by decide) (by decide) (by decide) rfl ?_
  intro h2091 b2091 g2091 ge2091 X2091 K2091 A2091
  have q2092 := (A2088.keep K2090 (ninS ne2078 nin0))
  have ne2093 : b2076 ≠ b2091 := Nat.ne_of_lt (Nat.lt_of_lt_of_eq q2092.lt g2091.symm)
  have ne2094 : b2077 ≠ b2091 := Nat.ne_of_lt (Nat.lt_of_lt_of_eq A2090.lt g2091.symm)
  have A2091 : Ary _ _ b2091 .int [(.int (0 : Int32)), (.int (0 : Int32)), (.int (0 : Int32)), (.int (0 : Int32)), (.int (0 : Int32)), (.int (0 : Int32))] := A2091
  show WG _ _ _ _ _ _ _ _ _ _ _ _ 3 16 121 #[.val (.int p0), .val (.int p1), .val (.int p2), .val (.int p3), .val (.int (1 : Int32)), .val (.int (0 : Int32)), .val (.int s1), .val (.int s2), .val (.ref b2076), .val (.ref b2077), .val (.ref b2076), .val (.ref b2077), .unset, .unset, .unset, .unset, .unset] [(.ref b2091)]
  refine W.astore 123 at_121 rfl rfl #[.val (.int p0), .val (.int p1), .val (.int p2), .val (.int p3), .val (.int (1 : Int32)), .val (.int (0 : Int32)), .val (.int s1), .val (.int s2), .val (.ref b2076), .val (.ref b2077), .val (.ref b2091), .val (.ref b2077), .unset, .unset, .unset, .unset, .unset] rfl ?_
  refine W.iconst 124 at_123 rfl (4 : Int32) rfl ?_
  refine W.newarray 126 at_124 rfl (wd_1 hw) rfl (by decide) 4 4 (by decide) (by decide) (by decide) (by decide) (by decide) rfl ?_
  intro h2095 b2095 g2095 ge2095 X2095 K2095 A2095
  have q2096 := (q2092.keep K2091 nin0)
  have ne2097 : b2076 ≠ b2095 := Nat.ne_of_lt (Nat.lt_of_lt_of_eq q2096.lt g2095.symm)
  have q2098 := (A2090.keep K2091 nin0)
  have ne2099 : b2077 ≠ b2095 := Nat.ne_of_lt (Nat.lt_of_lt_of_eq q2098.lt g2095.symm)
  have ne2100 : b2091 ≠ b2095 := Nat.ne_of_lt (Nat.lt_of_lt_of_eq A2091.lt g2095.symm)
  have A2095 : Ary _ _ b2095 .int [(.int (0 : Int32)), (.int (0 : Int32)), (.int (0 : Int32)), (.int (0 : Int32))] := A2095
  show WG _ _ _ _ _ _ _ _ _ _ _ _ 4 20 126 #[.val (.int p0), .val (.int p1), .val (.int p2), .val (.int p3), .val (.int (1 : Int32)), .val (.int (0 : Int32)), .val (.int s1), .val (.int s2), .val (.ref b2076), .val (.ref b2077), .val (.ref b2091), .val (.ref b2077), .unset, .unset, .unset, .unset, .unset] [(.ref b2095)]
  refine W.astore 128 at_126 rfl rfl #[.val (.int p0), .val (.int p1), .val (.int p2), .val (.int p3), .val (.int (1 : Int32)), .val (.int (0 : Int32)), .val (.int s1), .val (.int s2), .val (.ref b2076), .val (.ref b2077), .val (.ref b2091), .val (.ref b2095), .unset, .unset, .unset, .unset, .unset] rfl ?_
  refine W.aload 130 at_128 rfl rfl rfl ?_
  refine W.iconst 131 at_130 rfl (1 : Int32) rfl ?_
  refine W.iloadN 132 at_131 rfl rfl ?_
  refine W.iconst 133 at_132 rfl (1 : Int32) rfl ?_
  refine W.iconst 134 at_133 rfl (0 : Int32) rfl ?_
  refine W.iconst 135 at_134 rfl (0 : Int32) rfl ?_
  refine W.aload 137 at_135 rfl rfl rfl ?_
  refine W.iconst 138 at_137 rfl (0 : Int32) rfl ?_
  have q2101 := (A2091.keep K2095 nin0)
  refine W.callS (rest := [(.int (1 : Int32)), (.ref b2095)]) (argsL := [(.int p0), (.int (1 : Int32)), (.int (0 : Int32)), (.int (0 : Int32)), (.ref b2091), (.int (0 : Int32))]) 141 at_138 rfl (fun hn => c_fil100 l Z a0 hw p0 (0 : Int32) q0 b2091 [0, 0, 0, 0, 0, 0] x0 _ n0 hn ge2091 q2101 hx0) (wd_2 hw) (wd_3 hw) (wd_4 hw) (wd_5 hw) (by decide) pd_10 rfl rfl rfl (by decide) 2 (Nat.le_of_ble_eq_true rfl) (by decide) (by decide) (by decide) ?_
  rintro v2102 h2102 ⟨rfl, A2102, K2102⟩
  show WG _ _ _ _ _ _ _ _ _ _ _ _ 4 20 141 #[.val (.int p0), .val (.int p1), .val (.int p2), .val (.int p3), .val (.int (1 : Int32)), .val (.int (0 : Int32)), .val (.int s1), .val (.int s2), .val (.ref b2076), .val (.ref b2077), .val (.ref b2091), .val (.ref b2095), .unset, .unset, .unset, .unset, .unset] [(.int q0), (.int (1 : Int32)), (.ref b2095)]
  have q2103 := (A2095.keep K2102 (ninS (Ne.symm ne2100) nin0))
  refine W.iastore 142 at_141 rfl q2103 1 (by decide) (by decide) (Nat.le_of_ble_eq_true rfl) ge2095 ?_
  intro h2104 W2104 K2104 A2104
  have A2104 : Ary _ _ b2095 .int [(.int (0 : Int32)), (.int q0), (.int (0 : Int32)), (.int (0 : Int32))] := A2104
  refine W.aload 144 at_142 rfl rfl rfl ?_
  refine W.iconst 145 at_144 rfl (2 : Int32) rfl ?_
  refine W.iloadN 146 at_145 rfl rfl ?_
  refine W.iconst 147 at_146 rfl (1 : Int32) rfl ?_
  refine W.iconst 148 at_147 rfl (0 : Int32) rfl ?_
  refine W.iconst 149 at_148 rfl (1 : Int32) rfl ?_
  refine W.aload 151 at_149 rfl rfl rfl ?_
  refine W.aload 153 at_151 rfl rfl rfl ?_
  refine W.iconst 154 at_153 rfl (1 : Int32) rfl ?_
  refine W.iaload 155 at_154 rfl A2104 1 (by decide) (by decide) (.int q0) rfl ?_
  have q2105 := (A2102.keep K2104 (ninS ne2100 nin0))
  refine W.callS (rest := [(.int (2 : Int32)), (.ref b2095)]) (argsL := [(.int p0), (.int (1 : Int32)), (.int (0 : Int32)), (.int (1 : Int32)), (.ref b2091), (.int q0)]) 158 at_155 rfl (fun hn => c_fil101 l Z a0 hw p0 q0 q1 b2091 x0 x1 _ n0 hn ge2091 q2105 hx1) (wd_2 hw) (wd_3 hw) (wd_4 hw) (wd_5 hw) (by decide) pd_10 rfl rfl rfl (by decide) 2 (Nat.le_of_ble_eq_true rfl) (by decide) (by decide) (by decide) ?_
  rintro v2106 h2106 ⟨rfl, A2106, K2106⟩
  show WG _ _ _ _ _ _ _ _ _ _ _ _ 4 20 158 #[.val (.int p0), .val (.int p1), .val (.int p2), .val (.int p3), .val (.int (1 : Int32)), .val (.int (0 : Int32)), .val (.int s1), .val (.int s2), .val (.ref b2076), .val (.ref b2077), .val (.ref b2091), .val (.ref b2095), .unset, .unset, .unset, .unset, .unset] [(.int q1), (.int (2 : Int32)), (.ref b2095)]
  have q2107 := (A2104.keep K2106 (ninS (Ne.symm ne2100) nin0))
  refine W.iastore 159 at_158 rfl q2107 2 (by decide) (by decide) (Nat.le_of_ble_eq_true rfl) ge2095 ?_
  intro h2108 W2108 K2108 A2108
  have A2108 : Ary _ _ b2095 .int [(.int (0 : Int32)), (.int q0), (.int q1), (.int (0 : Int32))] := A2108
  refine W.aload 161 at_159 rfl rfl rfl ?_
  refine W.iconst 162 at_161 rfl (3 : Int32) rfl ?_
  refine W.iloadN 163 at_162 rfl rfl ?_
  refine W.iconst 164 at_163 rfl (1 : Int32) rfl ?_
  refine W.iconst 165 at_164 rfl (0 : Int32) rfl ?_
  refine W.iconst 166 at_165 rfl (2 : Int32) rfl ?_
  refine W.aload 168 at_166 rfl rfl rfl ?_
  refine W.aload 170 at_168 rfl rfl rfl ?_
  refine W.iconst 171 at_170 rfl (2 : Int32) rfl ?_
  refine W.iaload 172 at_171 rfl A2108 2 (by decide) (by decide) (.int q1) rfl ?_
  have q2109 := (A2106.keep K2108 (ninS ne2100 nin0))
  refine W.callS (rest := [(.int (3 : Int32)), (.ref b2095)]) (argsL := [(.int p0), (.int (1 : Int32)), (.int (0 : Int32)), (.int (2 : Int32)), (.ref b2091), (.int q1)]) 175 at_172 rfl (fun hn => c_fil102 l Z a0 hw p0 q1 q2 b2091 x1 x2 _ n0 hn ge2091 q2109 hx2) (wd_2 hw) (wd_3 hw) (wd_4 hw) (wd_5 hw) (by decide) pd_10 rfl rfl rfl (by decide) 2 (Nat.le_of_ble_eq_true rfl) (by decide) (by decide) (by decide) ?_
  rintro v2110 h2110 ⟨rfl, A2110, K2110⟩
  show WG _ _ _ _ _ _ _ _ _ _ _ _ 4 20 175 #[.val (.int p0), .val (.int p1), .val (.int p2), .val (.int p3), .val (.int (1 : Int32)), .val (.int (0 : Int32)), .val (.int s1), .val (.int s2), .val (.ref b2076), .val (.ref b2077), .val (.ref b2091), .val (.ref b2095), .unset, .unset, .unset, .unset, .unset] [(.int q2), (.int (3 : Int32)), (.ref b2095)]
  have q2111 := (A2108.keep K2110 (ninS (Ne.symm ne2100) nin0))
  refine W.iastore 176 at_175 rfl q2111 3 (by decide) (by decide) (Nat.le_of_ble_eq_true rfl) ge2095 ?_
  intro h2112 W2112 K2112 A2112
  have A2112 : Ary _ _ b2095 .int [(.int (0 : Int32)), (.int q0), (.int q1), (.int q2)] := A2112
  refine W.new 179 at_176 rfl (wd_12 hw) (wd_13 hw) (wd_14 hw) (by decide) (by decide) ?_
  intro h2113 o2113 g2113 ge2113 X2113 K2113 E2113 D2113
  have q2114 := (((((((q2096.keep K2095 nin0).keep K2102 (ninS ne2093 nin0)).keep K2104 (ninS ne2097 nin0)).keep K2106 (ninS ne2093 nin0)).keep K2108 (ninS ne2097 nin0)).keep K2110 (ninS ne2093 nin0)).keep K2112 (ninS ne2097 nin0))
  have ne2115 : b2076 ≠ o2113 := Nat.ne_of_lt (Nat.lt_of_lt_of_eq q2114.lt g2113.symm)
  have q2116 := (((((((q2098.keep K2095 nin0).keep K2102 (ninS ne2094 nin0)).keep K2104 (ninS ne2099 nin0)).keep K2106 (ninS ne2094 nin0)).keep K2108 (ninS ne2099 nin0)).keep K2110 (ninS ne2094 nin0)).keep K2112 (ninS ne2099 nin0))
  have ne2117 : b2077 ≠ o2113 := Nat.ne_of_lt (Nat.lt_of_lt_of_eq q2116.lt g2113.symm)
  have q2118 := (A2110.keep K2112 (ninS ne2100 nin0))
  have ne2119 : b2091 ≠ o2113 := Nat.ne_of_lt (Nat.lt_of_lt_of_eq q2118.lt g2113.symm)
  have ne2120 : b2095 ≠ o2113 := Nat.ne_of_lt (Nat.lt_of_lt_of_eq A2112.lt g2113.symm)
  have f2121 : Fld _ _ o2113 "com/example/eccentra/eccentra/Graph" "labels" "[J" .null := D2113 (Or.inr (wd_24 hw)) (ty := (.array .long)) (by decide)
  have f2122 : Fld _ _ o2113 "com/example/eccentra/eccentra/Graph" "directed" "Z" (.int (0 : Int32)) := D2113 (Or.inr (wd_26 hw)) (ty := .boolean) (by decide)
  have f2123 : Fld _ _ o2113 "com/example/eccentra/eccentra/Graph" "outOffsets" "[I" .null := D2113 (Or.inr (wd_28 hw)) (ty := (.array .int)) (by decide)
  have f2124 : Fld _ _ o2113 "com/example/eccentra/eccentra/Graph" "outTargets" "[I" .null := D2113 (Or.inr (wd_30 hw)) (ty := (.array .int)) (by decide)
  have f2125 : Fld _ _ o2113 "com/example/eccentra/eccentra/Graph" "inOffsets" "[I" .null := D2113 (Or.inr (wd_32 hw)) (ty := (.array .int)) (by decide)
  have f2126 : Fld _ _ o2113 "com/example/eccentra/eccentra/Graph" "inSources" "[I" .null := D2113 (Or.inr (wd_34 hw)) (ty := (.array .int)) (by decide)
  show WG _ _ _ _ _ _ _ _ _ _ _ _ 5 26 179 #[.val (.int p0), .val (.int p1), .val (.int p2), .val (.int p3), .val (.int (1 : Int32)), .val (.int (0 : Int32)), .val (.int s1), .val (.int s2), .val (.ref b2076), .val (.ref b2077), .val (.ref b2091), .val (.ref b2095), .unset, .unset, .unset, .unset, .unset] [(.ref o2113)]
  refine W.dup 180 at_179 rfl rfl ?_
  refine W.iconst 181 at_180 rfl (3 : Int32) rfl ?_
  refine W.newarray 183 at_181 rfl (wd_15 hw) rfl (by decide) 3 3 (by decide) (by decide) (by decide) (by decide) (by decide) rfl ?_
  intro h2127 b2127 g2127 ge2127 X2127 K2127 A2127
  have q2128 := (q2114.keep K2113 nin0)
  have ne2129 : b2076 ≠ b2127 := Nat.ne_of_lt (Nat.lt_of_lt_of_eq q2128.lt g2127.symm)
  have q2130 := (q2116.keep K2113 nin0)
  have ne2131 : b2077 ≠ b2127 := Nat.ne_of_lt (Nat.lt_of_lt_of_eq q2130.lt g2127.symm)
  have q2132 := (q2118.keep K2113 nin0)
  have ne2133 : b2091 ≠ b2127 := Nat.ne_of_lt (Nat.lt_of_lt_of_eq q2132.lt g2127.symm)
  have q2134 := (A2112.keep K2113 nin0)
  have ne2135 : b2095 ≠ b2127 := Nat.ne_of_lt (Nat.lt_of_lt_of_eq q2134.lt g2127.symm)
  have ne2136 : o2113 ≠ b2127 := Nat.ne_of_lt (Nat.lt_of_lt_of_eq E2113.lt g2127.symm)
  have A2127 : Ary _ _ b2127 .long [(.long (0 : Int64)), (.long (0 : Int64)), (.long (0 : Int64))] := A2127
  show WG _ _ _ _ _ _ _ _ _ _ _ _ 6 29 183 #[.val (.int p0), .val (.int p1), .val (.int p2), .val (.int p3), .val (.int (1 : Int32)), .val (.int (0 : Int32)), .val (.int s1), .val (.int s2), .val (.ref b2076), .val (.ref b2077), .val (.ref b2091), .val (.ref b2095), .unset, .unset, .unset, .unset, .unset] [(.ref b2127), (.ref o2113), (.ref o2113)]
  refine W.dup 184 at_183 rfl rfl ?_
  refine W.iconst 185 at_184 rfl (0 : Int32) rfl ?_
  refine W.lconst 186 at_185 rfl (0 : Int64) rfl ?_
  refine W.lastore 187 at_186 rfl A2127 0 (by decide) (by decide) (Nat.le_of_ble_eq_true rfl) ge2127 ?_
  intro h2137 W2137 K2137 A2137
  have A2137 : Ary _ _ b2127 .long [(.long (0 : Int64)), (.long (0 : Int64)), (.long (0 : Int64))] := A2137
  refine W.dup 188 at_187 rfl rfl ?_
  refine W.iconst 189 at_188 rfl (1 : Int32) rfl ?_
  refine W.lconst 190 at_189 rfl (1 : Int64) rfl ?_
  refine W.lastore 191 at_190 rfl A2137 1 (by decide) (by decide) (Nat.le_of_ble_eq_true rfl) ge2127 ?_
  intro h2138 W2138 K2138 A2138
  have A2138 : Ary _ _ b2127 .long [(.long (0 : Int64)), (.long (1 : Int64)), (.long (0 : Int64))] := A2138
  refine W.dup 192 at_191 rfl rfl ?_
  refine W.iconst 193 at_192 rfl (2 : Int32) rfl ?_
  refine W.ldc2J 196 at_193 rfl (wd_16 hw) ?_
  refine W.lastore 197 at_196 rfl A2138 2 (by decide) (by decide) (Nat.le_of_ble_eq_true rfl) ge2127 ?_
  intro h2139 W2139 K2139 A2139
  have A2139 : Ary _ _ b2127 .long [(.long (0 : Int64)), (.long (1 : Int64)), (.long (2 : Int64))] := A2139
  refine W.iload 199 at_197 rfl rfl ?_
  refine W.aload 201 at_199 rfl rfl rfl ?_
  refine W.aload 203 at_201 rfl rfl rfl ?_
  refine W.aload 205 at_203 rfl rfl rfl ?_
  refine W.aload 207 at_205 rfl rfl rfl ?_
  have q2140 := ((((E2113.keep K2127).keep K2137).keep K2138).keep K2139)
  have q2141 := ((((f2121.keep K2127 nin0).keep K2137 (ninS ne2136 nin0)).keep K2138 (ninS ne2136 nin0)).keep K2139 (ninS ne2136 nin0))
  have q2142 := ((((f2122.keep K2127 nin0).keep K2137 (ninS ne2136 nin0)).keep K2138 (ninS ne2136 nin0)).keep K2139 (ninS ne2136 nin0))
  have q2143 := ((((f2123.keep K2127 nin0).keep K2137 (ninS ne2136 nin0)).keep K2138 (ninS ne2136 nin0)).keep K2139 (ninS ne2136 nin0))
  have q2144 := ((((f2124.keep K2127 nin0).keep K2137 (ninS ne2136 nin0)).keep K2138 (ninS ne2136 nin0)).keep K2139 (ninS ne2136 nin0))
  have q2145 := ((((f2125.keep K2127 nin0).keep K2137 (ninS ne2136 nin0)).keep K2138 (ninS ne2136 nin0)).keep K2139 (ninS ne2136 nin0))
  have q2146 := ((((f2126.keep K2127 nin0).keep K2137 (ninS ne2136 nin0)).keep K2138 (ninS ne2136 nin0)).keep K2139 (ninS ne2136 nin0))
  refine W.callInit (rest := [(.ref o2113)]) (argsL := [(.ref b2127), (.int (1 : Int32)), (.ref b2077), (.ref b2076), (.ref b2095), (.ref b2091)]) (a := o2113) 210 at_207 rfl (fun hn => c_gi1 l Z a0 hw o2113 b2127 b2077 b2076 b2095 b2091 _ n0 hn ge2113 q2140 q2141 q2142 q2143 q2144 q2145 q2146) rfl (wd_17 hw) (wd_18 hw) (wd_14 hw) (wd_19 hw) (by decide) pd_11 rfl rfl rfl (by decide) 1 (Nat.le_of_ble_eq_true rfl) (by decide) (by decide) (by decide) ?_
  rintro v2147 h2147 ⟨rfl, E2147, K2147, G02147, G12147, G22147, G32147, G42147, G52147⟩
  show WG _ _ _ _ _ _ _ _ _ _ _ _ 6 29 210 #[.val (.int p0), .val (.int p1), .val (.int p2), .val (.int p3), .val (.int (1 : Int32)), .val (.int (0 : Int32)), .val (.int s1), .val (.int s2), .val (.ref b2076), .val (.ref b2077), .val (.ref b2091), .val (.ref b2095), .unset, .unset, .unset, .unset, .unset] [(.ref o2113)]
  refine W.astore 212 at_210 rfl rfl #[.val (.int p0), .val (.int p1), .val (.int p2), .val (.int p3), .val (.int (1 : Int32)), .val (.int (0 : Int32)), .val (.int s1), .val (.int s2), .val (.ref b2076), .val (.ref b2077), .val (.ref b2091), .val (.ref b2095), .val (.ref o2113), .unset, .unset, .unset, .unset] rfl ?_
  refine W.new 215 at_212 rfl (wd_35 hw) (wd_36 hw) (wd_37 hw) (by decide) (by decide) ?_
  intro h2148 o2148 g2148 ge2148 X2148 K2148 E2148 D2148
  have q2149 := (((((q2128.keep K2127 nin0).keep K2137 (ninS ne2129 nin0)).keep K2138 (ninS ne2129 nin0)).keep K2139 (ninS ne2129 nin0)).keep K2147 (ninS ne2115 nin0))
  have ne2150 : b2076 ≠ o2148 := Nat.ne_of_lt (Nat.lt_of_lt_of_eq q2149.lt g2148.symm)
  have q2151 := (((((q2130.keep K2127 nin0).keep K2137 (ninS ne2131 nin0)).keep K2138 (ninS ne2131 nin0)).keep K2139 (ninS ne2131 nin0)).keep K2147 (ninS ne2117 nin0))
  have ne2152 : b2077 ≠ o2148 := Nat.ne_of_lt (Nat.lt_of_lt_of_eq q2151.lt g2148.symm)
  have q2153 := (((((q2132.keep K2127 nin0).keep K2137 (ninS ne2133 nin0)).keep K2138 (ninS ne2133 nin0)).keep K2139 (ninS ne2133 nin0)).keep K2147 (ninS ne2119 nin0))
  have ne2154 : b2091 ≠ o2148 := Nat.ne_of_lt (Nat.lt_of_lt_of_eq q2153.lt g2148.symm)
  have q2155 := (((((q2134.keep K2127 nin0).keep K2137 (ninS ne2135 nin0)).keep K2138 (ninS ne2135 nin0)).keep K2139 (ninS ne2135 nin0)).keep K2147 (ninS ne2120 nin0))
  have ne2156 : b2095 ≠ o2148 := Nat.ne_of_lt (Nat.lt_of_lt_of_eq q2155.lt g2148.symm)
  have q2157 := (A2139.keep K2147 (ninS (Ne.symm ne2136) nin0))
  have ne2158 : b2127 ≠ o2148 := Nat.ne_of_lt (Nat.lt_of_lt_of_eq q2157.lt g2148.symm)
  have ne2159 : o2113 ≠ o2148 := Nat.ne_of_lt (Nat.lt_of_lt_of_eq E2147.lt g2148.symm)
  have f2160 : Fld _ _ o2148 "com/example/eccentra/eccentra/MainVertex" "vertex" "I" (.int (0 : Int32)) := D2148 (Or.inl (wd_43 hw)) (ty := .int) (by decide)
  have f2161 : Fld _ _ o2148 "com/example/eccentra/eccentra/MainVertex" "from" "[I" .null := D2148 (Or.inr (wd_50 hw)) (ty := (.array .int)) (by decide)
  have f2162 : Fld _ _ o2148 "com/example/eccentra/eccentra/MainVertex" "to" "[I" .null := D2148 (Or.inr (wd_57 hw)) (ty := (.array .int)) (by decide)
  show WG _ _ _ _ _ _ _ _ _ _ _ _ 7 32 215 #[.val (.int p0), .val (.int p1), .val (.int p2), .val (.int p3), .val (.int (1 : Int32)), .val (.int (0 : Int32)), .val (.int s1), .val (.int s2), .val (.ref b2076), .val (.ref b2077), .val (.ref b2091), .val (.ref b2095), .val (.ref o2113), .unset, .unset, .unset, .unset] [(.ref o2148)]
  refine W.dup 216 at_215 rfl rfl ?_
  refine W.aload 218 at_216 rfl rfl rfl ?_
  have q2163 := (E2147.keep K2148)
  have q2164 := (G02147.keep K2148 nin0)
  have q2165 := (G12147.keep K2148 nin0)
  have q2166 := (q2157.keep K2148 nin0)
  refine W.callInit (rest := [(.ref o2148)]) (argsL := [(.ref o2113)]) (a := o2148) 221 at_218 rfl (fun hn => c_mi1 l Z a0 hw o2148 o2113 b2127 _ n0 hn ge2148 E2148 f2160 f2161 f2162 q2163 q2164 q2165 q2166 (Ne.symm ne2159) (Ne.symm ne2158)) rfl (wd_38 hw) (wd_39 hw) (wd_37 hw) (wd_40 hw) (by decide) pd_12 rfl rfl rfl (by decide) 1 (Nat.le_of_ble_eq_true rfl) (by decide) (by decide) (by decide) ?_
  rintro v2167 h2167 ⟨rfl, bf2167, bt2167, ⟨sz12167, g12167, sz22167, g22167, n12167, n22167, n32167⟩, K2167, E2167, F02167, F12167, F22167, A12167, A22167⟩
  have q2168 := (q2149.keep K2148 nin0)
  have ne2169 : b2076 ≠ bf2167 := Nat.ne_of_lt (Nat.lt_of_lt_of_le q2168.lt sz12167)
  have q2170 := (q2151.keep K2148 nin0)
  have ne2171 : b2077 ≠ bf2167 := Nat.ne_of_lt (Nat.lt_of_lt_of_le q2170.lt sz12167)
  have q2172 := (q2153.keep K2148 nin0)
  have ne2173 : b2091 ≠ bf2167 := Nat.ne_of_lt (Nat.lt_of_lt_of_le q2172.lt sz12167)
  have q2174 := (q2155.keep K2148 nin0)
  have ne2175 : b2095 ≠ bf2167 := Nat.ne_of_lt (Nat.lt_of_lt_of_le q2174.lt sz12167)
  have ne2176 : b2127 ≠ bf2167 := Nat.ne_of_lt (Nat.lt_of_lt_of_le q2166.lt sz12167)
  have ne2177 : o2113 ≠ bf2167 := Nat.ne_of_lt (Nat.lt_of_lt_of_le q2163.lt sz12167)
  have ne2178 : o2148 ≠ bf2167 := Nat.ne_of_lt (Nat.lt_of_lt_of_le E2148.lt sz12167)
  have ne2179 : b2076 ≠ bt2167 := Nat.ne_of_lt (Nat.lt_of_lt_of_le q2168.lt sz22167)
  have ne2180 : b2077 ≠ bt2167 := Nat.ne_of_lt (Nat.lt_of_lt_of_le q2170.lt sz22167)
  have ne2181 : b2091 ≠ bt2167 := Nat.ne_of_lt (Nat.lt_of_lt_of_le q2172.lt sz22167)
  have ne2182 : b2095 ≠ bt2167 := Nat.ne_of_lt (Nat.lt_of_lt_of_le q2174.lt sz22167)
  have ne2183 : b2127 ≠ bt2167 := Nat.ne_of_lt (Nat.lt_of_lt_of_le q2166.lt sz22167)
  have ne2184 : o2113 ≠ bt2167 := Nat.ne_of_lt (Nat.lt_of_lt_of_le q2163.lt sz22167)
  have ne2185 : o2148 ≠ bt2167 := Nat.ne_of_lt (Nat.lt_of_lt_of_le E2148.lt sz22167)
  show WG _ _ _ _ _ _ _ _ _ _ _ _ 9 38 221 #[.val (.int p0), .val (.int p1), .val (.int p2), .val (.int p3), .val (.int (1 : Int32)), .val (.int (0 : Int32)), .val (.int s1), .val (.int s2), .val (.ref b2076), .val (.ref b2077), .val (.ref b2091), .val (.ref b2095), .val (.ref o2113), .unset, .unset, .unset, .unset] [(.ref o2148)]
  refine W.astore 223 at_221 rfl rfl #[.val (.int p0), .val (.int p1), .val (.int p2), .val (.int p3), .val (.int (1 : Int32)), .val (.int (0 : Int32)), .val (.int s1), .val (.int s2), .val (.ref b2076), .val (.ref b2077), .val (.ref b2091), .val (.ref b2095), .val (.ref o2113), .val (.ref o2148), .unset, .unset, .unset] rfl ?_
  refine W.new 226 at_223 rfl (wd_58 hw) (wd_59 hw) (wd_60 hw) (by decide) (by decide) ?_
  intro h2186 o2186 g2186 ge2186 X2186 K2186 E2186 D2186
  have q2187 := (q2168.keep K2167 (ninS ne2150 nin0))
  have ne2188 : b2076 ≠ o2186 := Nat.ne_of_lt (Nat.lt_of_lt_of_eq q2187.lt g2186.symm)
  have q2189 := (q2170.keep K2167 (ninS ne2152 nin0))
  have ne2190 : b2077 ≠ o2186 := Nat.ne_of_lt (Nat.lt_of_lt_of_eq q2189.lt g2186.symm)
  have q2191 := (q2172.keep K2167 (ninS ne2154 nin0))
  have ne2192 : b2091 ≠ o2186 := Nat.ne_of_lt (Nat.lt_of_lt_of_eq q2191.lt g2186.symm)
  have q2193 := (q2174.keep K2167 (ninS ne2156 nin0))
  have ne2194 : b2095 ≠ o2186 := Nat.ne_of_lt (Nat.lt_of_lt_of_eq q2193.lt g2186.symm)
  have q2195 := (q2166.keep K2167 (ninS ne2158 nin0))
  have ne2196 : b2127 ≠ o2186 := Nat.ne_of_lt (Nat.lt_of_lt_of_eq q2195.lt g2186.symm)
  have ne2197 : bf2167 ≠ o2186 := Nat.ne_of_lt (Nat.lt_of_lt_of_eq A12167.lt g2186.symm)
  have ne2198 : bt2167 ≠ o2186 := Nat.ne_of_lt (Nat.lt_of_lt_of_eq A22167.lt g2186.symm)
  have q2199 := (q2163.keep K2167)
  have ne2200 : o2113 ≠ o2186 := Nat.ne_of_lt (Nat.lt_of_lt_of_eq q2199.lt g2186.symm)
  have ne2201 : o2148 ≠ o2186 := Nat.ne_of_lt (Nat.lt_of_lt_of_eq E2167.lt g2186.symm)
  have f2202 : Fld _ _ o2186 "com/example/eccentra/eccentra/BreadthFirst" "graph" "Lcom/example/eccentra/eccentra/Graph;" .null := D2186 (Or.inr (wd_66 hw)) (ty := (.object "com/example/eccentra/eccentra/Graph")) (by decide)
  have f2203 : Fld _ _ o2186 "com/example/eccentra/eccentra/BreadthFirst" "distance" "[I" .null := D2186 (Or.inr (wd_69 hw)) (ty := (.array .int)) (by decide)
  have f2204 : Fld _ _ o2186 "com/example/eccentra/eccentra/BreadthFirst" "parent" "[I" .null := D2186 (Or.inr (wd_75 hw)) (ty := (.array .int)) (by decide)
  have f2205 : Fld _ _ o2186 "com/example/eccentra/eccentra/BreadthFirst" "reachedOrder" "[I" .null := D2186 (Or.inr (wd_77 hw)) (ty := (.array .int)) (by decide)
  have f2206 : Fld _ _ o2186 "com/example/eccentra/eccentra/BreadthFirst" "reachedCount" "I" (.int (0 : Int32)) := D2186 (Or.inl (wd_88 hw)) (ty := .int) (by decide)
  show WG _ _ _ _ _ _ _ _ _ _ _ _ 10 43 226 #[.val (.int p0), .val (.int p1), .val (.int p2), .val (.int p3), .val (.int (1 : Int32)), .val (.int (0 : Int32)), .val (.int s1), .val (.int s2), .val (.ref b2076), .val (.ref b2077), .val (.ref b2091), .val (.ref b2095), .val (.ref o2113), .val (.ref o2148), .unset, .unset, .unset] [(.ref o2186)]
  refine W.dup 227 at_226 rfl rfl ?_
  refine W.aload 229 at_227 rfl rfl rfl ?_
  have q2207 := (q2199.keep K2186)
  have q2208 := ((q2164.keep K2167 (ninS ne2159 nin0)).keep K2186 nin0)
  have q2209 := (q2195.keep K2186 nin0)
  refine W.callInit (rest := [(.ref o2186)]) (argsL := [(.ref o2113)]) (a := o2186) 232 at_229 rfl (fun hn => c_bi l Z a0 hw o2186 o2113 b2127 _ n0 hn ge2186 E2186 f2202 f2203 f2204 f2205 f2206 q2207 q2208 q2209 (Ne.symm ne2200) (Ne.symm ne2196)) rfl (wd_61 hw) (wd_62 hw) (wd_60 hw) (wd_63 hw) (by decide) pd_12 rfl rfl rfl (by decide) 1 (Nat.le_of_ble_eq_true rfl) (by decide) (by decide) (by decide) ?_
  rintro v2210 h2210 ⟨rfl, bd2210, bp2210, bo2210, ⟨s12210, s22210, s32210, g12210, g22210, g32210, n12210, n22210, n32210, n42210, n52210, n62210⟩, K2210, E2210, F02210, F12210, F22210, F32210, F42210, A12210, A22210, A32210⟩
  have q2211 := (q2187.keep K2186 nin0)
  have ne2212 : b2076 ≠ bd2210 := Nat.ne_of_lt (Nat.lt_of_lt_of_le q2211.lt s12210)
  have q2213 := (q2189.keep K2186 nin0)
  have ne2214 : b2077 ≠ bd2210 := Nat.ne_of_lt (Nat.lt_of_lt_of_le q2213.lt s12210)
  have q2215 := (q2191.keep K2186 nin0)
  have ne2216 : b2091 ≠ bd2210 := Nat.ne_of_lt (Nat.lt_of_lt_of_le q2215.lt s12210)
  have q2217 := (q2193.keep K2186 nin0)
  have ne2218 : b2095 ≠ bd2210 := Nat.ne_of_lt (Nat.lt_of_lt_of_le q2217.lt s12210)
  have ne2219 : b2127 ≠ bd2210 := Nat.ne_of_lt (Nat.lt_of_lt_of_le q2209.lt s12210)
  have q2220 := (A12167.keep K2186 nin0)
  have ne2221 : bf2167 ≠ bd2210 := Nat.ne_of_lt (Nat.lt_of_lt_of_le q2220.lt s12210)
  have q2222 := (A22167.keep K2186 nin0)
  have ne2223 : bt2167 ≠ bd2210 := Nat.ne_of_lt (Nat.lt_of_lt_of_le q2222.lt s12210)
  have ne2224 : o2113 ≠ bd2210 := Nat.ne_of_lt (Nat.lt_of_lt_of_le q2207.lt s12210)
  have q2225 := (E2167.keep K2186)
  have ne2226 : o2148 ≠ bd2210 := Nat.ne_of_lt (Nat.lt_of_lt_of_le q2225.lt s12210)
  have ne2227 : o2186 ≠ bd2210 := Nat.ne_of_lt (Nat.lt_of_lt_of_le E2186.lt s12210)
  have ne2228 : b2076 ≠ bp2210 := Nat.ne_of_lt (Nat.lt_of_lt_of_le q2211.lt s22210)
  have ne2229 : b2077 ≠ bp2210 := Nat.ne_of_lt (Nat.lt_of_lt_of_le q2213.lt s22210)
  have ne2230 : b2091 ≠ bp2210 := Nat.ne_of_lt (Nat.lt_of_lt_of_le q2215.lt s22210)
  have ne2231 : b2095 ≠ bp2210 := Nat.ne_of_lt (Nat.lt_of_lt_of_le q2217.lt s22210)
  have ne2232 : b2127 ≠ bp2210 := Nat.ne_of_lt (Nat.lt_of_lt_of_le q2209.lt s22210)
  have ne2233 : bf2167 ≠ bp2210 := Nat.ne_of_lt (Nat.lt_of_lt_of_le q2220.lt s22210)
  have ne2234 : bt2167 ≠ bp2210 := Nat.ne_of_lt (Nat.lt_of_lt_of_le q2222.lt s22210)
  have ne2235 : o2113 ≠ bp2210 := Nat.ne_of_lt (Nat.lt_of_lt_of_le q2207.lt s22210)
  have ne2236 : o2148 ≠ bp2210 := Nat.ne_of_lt (Nat.lt_of_lt_of_le q2225.lt s22210)
  have ne2237 : o2186 ≠ bp2210 := Nat.ne_of_lt (Nat.lt_of_lt_of_le E2186.lt s22210)
  have ne2238 : b2076 ≠ bo2210 := Nat.ne_of_lt (Nat.lt_of_lt_of_le q2211.lt s32210)
  have ne2239 : b2077 ≠ bo2210 := Nat.ne_of_lt (Nat.lt_of_lt_of_le q2213.lt s32210)
  have ne2240 : b2091 ≠ bo2210 := Nat.ne_of_lt (Nat.lt_of_lt_of_le q2215.lt s32210)
  have ne2241 : b2095 ≠ bo2210 := Nat.ne_of_lt (Nat.lt_of_lt_of_le q2217.lt s32210)
  have ne2242 : b2127 ≠ bo2210 := Nat.ne_of_lt (Nat.lt_of_lt_of_le q2209.lt s32210)
  have ne2243 : bf2167 ≠ bo2210 := Nat.ne_of_lt (Nat.lt_of_lt_of_le q2220.lt s32210)
  have ne2244 : bt2167 ≠ bo2210 := Nat.ne_of_lt (Nat.lt_of_lt_of_le q2222.lt s32210)
  have ne2245 : o2113 ≠ bo2210 := Nat.ne_of_lt (Nat.lt_of_lt_of_le q2207.lt s32210)
  have ne2246 : o2148 ≠ bo2210 := Nat.ne_of_lt (Nat.lt_of_lt_of_le q2225.lt s32210)
  have ne2247 : o2186 ≠ bo2210 := Nat.ne_of_lt (Nat.lt_of_lt_of_le E2186.lt s32210)
  show WG _ _ _ _ _ _ _ _ _ _ _ _ 13 52 232 #[.val (.int p0), .val (.int p1), .val (.int p2), .val (.int p3), .val (.int (1 : Int32)), .val (.int (0 : Int32)), .val (.int s1), .val (.int s2), .val (.ref b2076), .val (.ref b2077), .val (.ref b2091), .val (.ref b2095), .val (.ref o2113), .val (.ref o2148), .unset, .unset, .unset] [(.ref o2186)]
  refine W.astore 234 at_232 rfl rfl #[.val (.int p0), .val (.int p1), .val (.int p2), .val (.int p3), .val (.int (1 : Int32)), .val (.int (0 : Int32)), .val (.int s1), .val (.int s2), .val (.ref b2076), .val (.ref b2077), .val (.ref b2091), .val (.ref b2095), .val (.ref o2113), .val (.ref o2148), .val (.ref o2186), .unset, .unset] rfl ?_
  refine W.aload 236 at_234 rfl rfl rfl ?_
  refine W.iload 238 at_236 rfl rfl ?_
  refine W.iload 240 at_238 rfl rfl ?_
  have q2248 := (q2207.keep K2210)
  have q2249 := ((((G42147.keep K2148 nin0).keep K2167 (ninS ne2159 nin0)).keep K2186 nin0).keep K2210 (ninS ne2200 nin0))
  have q2250 := ((((G52147.keep K2148 nin0).keep K2167 (ninS ne2159 nin0)).keep K2186 nin0).keep K2210 (ninS ne2200 nin0))
  have q2251 := (q2217.keep K2210 (ninS ne2194 nin0))
  have q2252 := (q2215.keep K2210 (ninS ne2192 nin0))
  refine W.callV (rest := []) (argsL := [(.int s1), (.int (0 : Int32))]) (a := o2186) 243 at_240 rfl (fun hn => c_s2_0 l Z a0 hw o2186 o2113 b2095 b2091 bd2210 bp2210 bo2210 [0, q0, q1, q2] x2 [-1, -1, -1] [0, 0, 0] [0, 0, 0] s1 (0 : Int32) r1 _ n0 hn g12210 g22210 g32210 n12210 n22210 n32210 ne2224 ne2235 ne2245 ne2218 ne2231 ne2241 ne2216 ne2230 ne2240 n42210 n52210 n62210 ge2186 E2210 q2248 F02210 F12210 F22210 F32210 q2249 q2250 q2251 q2252 F42210 A12210 A22210 A32210 hr1) E2210 (wd_78 hw) (wd_79 hw) (wd_81 hw) rfl (wd_80 hw) (wd_60 hw) (wd_82 hw) (by decide) pd_13 rfl rfl rfl (by decide) 0 (Nat.le_of_ble_eq_true rfl) (by decide) (by decide) (by decide) ?_
  rintro v2253 h2253 ⟨⟨z2253, rfl⟩, K2253, E2253, Fc2253, F12253, F22253, F32253, F42253, A12253, A22253, A32253⟩
  show WG _ _ _ _ _ _ _ _ _ _ _ _ 13 52 243 #[.val (.int p0), .val (.int p1), .val (.int p2), .val (.int p3), .val (.int (1 : Int32)), .val (.int (0 : Int32)), .val (.int s1), .val (.int s2), .val (.ref b2076), .val (.ref b2077), .val (.ref b2091), .val (.ref b2095), .val (.ref o2113), .val (.ref o2148), .val (.ref o2186), .unset, .unset] [(.int z2253)]
  refine W.pop1 244 at_243 rfl rfl ?_
  refine W.aload 246 at_244 rfl rfl rfl ?_
  refine W.aload 248 at_246 rfl rfl rfl ?_
  refine W.iload 250 at_248 rfl rfl ?_
  have q2254 := ((q2225.keep K2210).keep K2253)
  have q2255 := (((F02167.keep K2186 nin0).keep K2210 (ninS ne2201 nin0)).keep K2253 (ninS ne2201 (ninS ne2226 (ninS ne2236 (ninS ne2246 nin0)))))
  have q2256 := (((F22167.keep K2186 nin0).keep K2210 (ninS ne2201 nin0)).keep K2253 (ninS ne2201 (ninS ne2226 (ninS ne2236 (ninS ne2246 nin0)))))
  have q2257 := (((F12167.keep K2186 nin0).keep K2210 (ninS ne2201 nin0)).keep K2253 (ninS ne2201 (ninS ne2226 (ninS ne2236 (ninS ne2246 nin0)))))
  have q2258 := ((q2222.keep K2210 (ninS ne2198 nin0)).keep K2253 (ninS ne2198 (ninS ne2223 (ninS ne2234 (ninS ne2244 nin0)))))
  refine W.callV (rest := []) (argsL := [(.ref o2186), (.int (0 : Int32))]) (a := o2148) 253 at_250 rfl (fun hn => c_kp_0 l Z a0 hw o2148 o2186 bt2167 bd2210 bo2210 bf2167 r1.2.2.1 r1.1 [(own_exp (own_A10 p0) s1 (0 : Int32)), (own_exp (own_A10 p0) s1 (1 : Int32)), (own_exp (own_A10 p0) s1 (2 : Int32))] r1.2.2.2 (-1 : Int32) (0 : Int32) (0 : Int32) (0 : Int32) _ n0 hn g22167 n22167 (Ne.symm ne2198) (Ne.symm ne2223) (Ne.symm ne2244) ne2201 ne2226 ne2246 ge2148 q2254 q2255 q2256 q2257 E2253 Fc2253 F42253 F22253 A32253 A12253 q2258 hk1) q2254 (wd_99 hw) (wd_100 hw) (wd_102 hw) rfl (wd_101 hw) (wd_37 hw) (wd_103 hw) (by decide) pd_14 rfl rfl rfl (by decide) 0 (Nat.le_of_ble_eq_true rfl) (by decide) (by decide) (by decide) ?_
  rintro v2259 h2259 ⟨rfl, K2259, E2259, ⟨vx2259, F02259⟩, F12259, F22259, A2259⟩
  show WG _ _ _ _ _ _ _ _ _ _ _ _ 13 52 253 #[.val (.int p0), .val (.int p1), .val (.int p2), .val (.int p3), .val (.int (1 : Int32)), .val (.int (0 : Int32)), .val (.int s1), .val (.int s2), .val (.ref b2076), .val (.ref b2077), .val (.ref b2091), .val (.ref b2095), .val (.ref o2113), .val (.ref o2148), .val (.ref o2186), .unset, .unset] []
  refine W.aload 255 at_253 rfl rfl rfl ?_
  refine W.iload 257 at_255 rfl rfl ?_
  refine W.iload 259 at_257 rfl rfl ?_
  refine W.if_ne 266 262 at_259 rfl rfl (fun hc => absurd (by decide) hc) (fun _ => ?_)
  refine W.iconst 263 at_262 rfl (1 : Int32) rfl ?_
  refine W.goto 267 at_263 rfl ?_
  have q2260 := ((q2248.keep K2253).keep K2259)
  have q2261 := (F12253.keep K2259 (ninS (Ne.symm ne2201) (ninS (Ne.symm ne2198) nin0)))
  have q2262 := (F22253.keep K2259 (ninS (Ne.symm ne2201) (ninS (Ne.symm ne2198) nin0)))
  have q2263 := (F32253.keep K2259 (ninS (Ne.symm ne2201) (ninS (Ne.symm ne2198) nin0)))
  have q2264 := (F42253.keep K2259 (ninS (Ne.symm ne2201) (ninS (Ne.symm ne2198) nin0)))
  have q2265 := ((((((G22147.keep K2148 nin0).keep K2167 (ninS ne2159 nin0)).keep K2186 nin0).keep K2210 (ninS ne2200 nin0)).keep K2253 (ninS ne2200 (ninS ne2224 (ninS ne2235 (ninS ne2245 nin0))))).keep K2259 (ninS ne2159 (ninS ne2184 nin0)))
  have q2266 := ((((((G32147.keep K2148 nin0).keep K2167 (ninS ne2159 nin0)).keep K2186 nin0).keep K2210 (ninS ne2200 nin0)).keep K2253 (ninS ne2200 (ninS ne2224 (ninS ne2235 (ninS ne2245 nin0))))).keep K2259 (ninS ne2159 (ninS ne2184 nin0)))
  have q2267 := (((q2213.keep K2210 (ninS ne2190 nin0)).keep K2253 (ninS ne2190 (ninS ne2214 (ninS ne2229 (ninS ne2239 nin0))))).keep K2259 (ninS ne2152 (ninS ne2180 nin0)))
  have q2268 := (((q2211.keep K2210 (ninS ne2188 nin0)).keep K2253 (ninS ne2188 (ninS ne2212 (ninS ne2228 (ninS ne2238 nin0))))).keep K2259 (ninS ne2150 (ninS ne2179 nin0)))
  have q2269 := (E2253.keep K2259)
  have q2270 := (Fc2253.keep K2259 (ninS (Ne.symm ne2201) (ninS (Ne.symm ne2198) nin0)))
  have q2271 := (A12253.keep K2259 (ninS (Ne.symm ne2226) (ninS (Ne.symm ne2223) nin0)))
  have q2272 := (A22253.keep K2259 (ninS (Ne.symm ne2236) (ninS (Ne.symm ne2234) nin0)))
  have q2273 := (A32253.keep K2259 (ninS (Ne.symm ne2246) (ninS (Ne.symm ne2244) nin0)))
  refine W.callV (rest := []) (argsL := [(.int s2), (.int (1 : Int32))]) (a := o2186) 270 at_267 rfl (fun hn => c_s2_1 l Z a0 hw o2186 o2113 b2077 b2076 bd2210 bp2210 bo2210 [0, w0, w1, w2] y2 r1.1 r1.2.1 r1.2.2.1 s2 r1.2.2.2 r2 _ n0 hn g12210 g22210 g32210 n12210 n22210 n32210 ne2224 ne2235 ne2245 ne2214 ne2229 ne2239 ne2212 ne2228 ne2238 n42210 n52210 n62210 ge2186 q2269 q2260 q2261 q2262 q2263 q2264 q2265 q2266 q2267 q2268 q2270 q2271 q2272 q2273 hr2) q2269 (wd_78 hw) (wd_79 hw) (wd_81 hw) rfl (wd_80 hw) (wd_60 hw) (wd_82 hw) (by decide) pd_13 rfl rfl rfl (by decide) 0 (Nat.le_of_ble_eq_true rfl) (by decide) (by decide) (by decide) ?_
  rintro v2274 h2274 ⟨⟨z2274, rfl⟩, K2274, E2274, Fc2274, F12274, F22274, F32274, F42274, A12274, A22274, A32274⟩
  show WG _ _ _ _ _ _ _ _ _ _ _ _ 13 52 270 #[.val (.int p0), .val (.int p1), .val (.int p2), .val (.int p3), .val (.int (1 : Int32)), .val (.int (0 : Int32)), .val (.int s1), .val (.int s2), .val (.ref b2076), .val (.ref b2077), .val (.ref b2091), .val (.ref b2095), .val (.ref o2113), .val (.ref o2148), .val (.ref o2186), .unset, .unset] [(.int z2274)]
  refine W.pop1 271 at_270 rfl rfl ?_
  refine W.aload 273 at_271 rfl rfl rfl ?_
  refine W.aload 275 at_273 rfl rfl rfl ?_
  refine W.iload 277 at_275 rfl rfl ?_
  refine W.if_ne 284 280 at_277 rfl rfl (fun hc => absurd (by decide) hc) (fun _ => ?_)
  refine W.iconst 281 at_280 rfl (1 : Int32) rfl ?_
  refine W.goto 285 at_281 rfl ?_
  have q2275 := (E2259.keep K2274)
  have q2276 := (F02259.keep K2274 (ninS ne2201 (ninS ne2226 (ninS ne2236 (ninS ne2246 nin0)))))
  have q2277 := (F22259.keep K2274 (ninS ne2201 (ninS ne2226 (ninS ne2236 (ninS ne2246 nin0)))))
  have q2278 := (F12259.keep K2274 (ninS ne2201 (ninS ne2226 (ninS ne2236 (ninS ne2246 nin0)))))
  have q2279 := ((((q2220.keep K2210 (ninS ne2197 nin0)).keep K2253 (ninS ne2197 (ninS ne2221 (ninS ne2233 (ninS ne2243 nin0))))).keep K2259 (ninS (Ne.symm n12167) (ninS n32167 nin0))).keep K2274 (ninS ne2197 (ninS ne2221 (ninS ne2233 (ninS ne2243 nin0)))))
  refine W.callV (rest := []) (argsL := [(.ref o2186), (.int (1 : Int32))]) (a := o2148) 288 at_285 rfl (fun hn => c_kp_1 l Z a0 hw o2148 o2186 bf2167 bd2210 bo2210 bt2167 r2.2.2.1 r2.1 [(own_exp (own_A11 p0) s2 (0 : Int32)), (own_exp (own_A11 p0) s2 (1 : Int32)), (own_exp (own_A11 p0) s2 (2 : Int32))] r2.2.2.2 vx2259 (0 : Int32) (0 : Int32) (0 : Int32) _ n0 hn g12167 n12167 (Ne.symm ne2197) (Ne.symm ne2221) (Ne.symm ne2243) ne2201 ne2226 ne2246 ge2148 q2275 q2276 q2277 q2278 E2274 Fc2274 F42274 F22274 A32274 A12274 q2279 hk2) q2275 (wd_99 hw) (wd_100 hw) (wd_102 hw) rfl (wd_101 hw) (wd_37 hw) (wd_103 hw) (by decide) pd_14 rfl rfl rfl (by decide) 0 (Nat.le_of_ble_eq_true rfl) (by decide) (by decide) (by decide) ?_
  rintro v2280 h2280 ⟨rfl, K2280, E2280, ⟨vx2280, F02280⟩, F12280, F22280, A2280⟩
  show WG _ _ _ _ _ _ _ _ _ _ _ _ 13 52 288 #[.val (.int p0), .val (.int p1), .val (.int p2), .val (.int p3), .val (.int (1 : Int32)), .val (.int (0 : Int32)), .val (.int s1), .val (.int s2), .val (.ref b2076), .val (.ref b2077), .val (.ref b2091), .val (.ref b2095), .val (.ref o2113), .val (.ref o2148), .val (.ref o2186), .unset, .unset] []
  refine W.aload 290 at_288 rfl rfl rfl ?_
  refine W.iload 292 at_290 rfl rfl ?_
  refine W.callV (rest := []) (argsL := [(.int (0 : Int32))]) (a := o2148) 295 at_292 rfl (fun hn => c_di0 l Z a0 hw o2148 bt2167 _ n0 hn F22280) E2280 (wd_130 hw) (wd_131 hw) (wd_133 hw) rfl (wd_132 hw) (wd_37 hw) (wd_134 hw) (by decide) pd_15 rfl rfl rfl (by decide) 0 (Nat.le_of_ble_eq_true rfl) (by decide) (by decide) (by decide) ?_
  rintro v2281 h2281 ⟨rfl, rfl⟩
  show WG _ _ _ _ _ _ _ _ _ _ _ _ 13 52 295 #[.val (.int p0), .val (.int p1), .val (.int p2), .val (.int p3), .val (.int (1 : Int32)), .val (.int (0 : Int32)), .val (.int s1), .val (.int s2), .val (.ref b2076), .val (.ref b2077), .val (.ref b2091), .val (.ref b2095), .val (.ref o2113), .val (.ref o2148), .val (.ref o2186), .unset, .unset] [(.ref bt2167)]
  refine W.astore 297 at_295 rfl rfl #[.val (.int p0), .val (.int p1), .val (.int p2), .val (.int p3), .val (.int (1 : Int32)), .val (.int (0 : Int32)), .val (.int s1), .val (.int s2), .val (.ref b2076), .val (.ref b2077), .val (.ref b2091), .val (.ref b2095), .val (.ref o2113), .val (.ref o2148), .val (.ref o2186), .val (.ref bt2167), .unset] rfl ?_
  refine W.aload 299 at_297 rfl rfl rfl ?_
  refine W.iload 301 at_299 rfl rfl ?_
  refine W.if_ne 308 304 at_301 rfl rfl (fun hc => absurd (by decide) hc) (fun _ => ?_)
  refine W.iconst 305 at_304 rfl (1 : Int32) rfl ?_
  refine W.goto 309 at_305 rfl ?_
  refine W.callV (rest := []) (argsL := [(.int (1 : Int32))]) (a := o2148) 312 at_309 rfl (fun hn => c_di1 l Z a0 hw o2148 bf2167 _ n0 hn F12280) E2280 (wd_130 hw) (wd_131 hw) (wd_133 hw) rfl (wd_132 hw) (wd_37 hw) (wd_134 hw) (by decide) pd_15 rfl rfl rfl (by decide) 0 (Nat.le_of_ble_eq_true rfl) (by decide) (by decide) (by decide) ?_
  rintro v2282 h2282 ⟨rfl, rfl⟩
  show WG _ _ _ _ _ _ _ _ _ _ _ _ 13 52 312 #[.val (.int p0), .val (.int p1), .val (.int p2), .val (.int p3), .val (.int (1 : Int32)), .val (.int (0 : Int32)), .val (.int s1), .val (.int s2), .val (.ref b2076), .val (.ref b2077), .val (.ref b2091), .val (.ref b2095), .val (.ref o2113), .val (.ref o2148), .val (.ref o2186), .val (.ref bt2167), .unset] [(.ref bf2167)]
  refine W.astore 314 at_312 rfl rfl #[.val (.int p0), .val (.int p1), .val (.int p2), .val (.int p3), .val (.int (1 : Int32)), .val (.int (0 : Int32)), .val (.int s1), .val (.int s2), .val (.ref b2076), .val (.ref b2077), .val (.ref b2091), .val (.ref b2095), .val (.ref o2113), .val (.ref o2148), .val (.ref o2186), .val (.ref bt2167), .val (.ref bf2167)] rfl ?_
  refine W.aload 316 at_314 rfl rfl rfl ?_
  refine W.ifnull_ref 319 at_316 rfl ?_
  refine W.aload 321 at_319 rfl rfl rfl ?_
  refine W.ifnull_ref 324 at_321 rfl ?_
  refine W.aload 326 at_324 rfl rfl rfl ?_
  have q2283 := (((show Ary _ _ _ .int [(.int (own_exp (own_A10 p0) s1 (0 : Int32))), (.int (own_exp (own_A10 p0) s1 (1 : Int32))), (.int (own_exp (own_A10 p0) s1 (2 : Int32)))] from A2259).keep K2274 (ninS ne2198 (ninS ne2223 (ninS ne2234 (ninS ne2244 nin0))))).keep K2280 (ninS (Ne.symm n22167) (ninS (Ne.symm n32167) nin0)))
  refine W.arraylength 327 at_326 rfl q2283 (3 : Int32) rfl ?_
  refine W.iconst 328 at_327 rfl (3 : Int32) rfl ?_
  refine W.icmp_ne 338 331 at_328 rfl rfl (fun hc => absurd (by decide) hc) (fun _ => ?_)
  refine W.aload 333 at_331 rfl rfl rfl ?_
  refine W.arraylength 334 at_333 rfl (show Ary _ _ _ .int [(.int (own_exp (own_A11 p0) s2 (0 : Int32))), (.int (own_exp (own_A11 p0) s2 (1 : Int32))), (.int (own_exp (own_A11 p0) s2 (2 : Int32)))] from A2280) (3 : Int32) rfl ?_
  refine W.iconst 335 at_334 rfl (3 : Int32) rfl ?_
  refine W.icmp_eq 340 338 at_335 rfl rfl (fun _ => ?_) (fun hc => absurd (by decide) hc)
  refine W.iload 342 at_340 rfl rfl ?_
  refine W.if_eq 394 345 at_342 rfl rfl (fun hc => absurd hc (by decide)) (fun _ => ?_)
  refine W.aload 347 at_345 rfl rfl rfl ?_
  refine W.aload 349 at_347 rfl rfl rfl ?_
  refine W.acmp_eq 392 352 at_349 rfl rfl rfl rfl (fun hc => absurd hc (fun q => (Ne.symm n32167) (Value.ref.inj q))) (fun _ => ?_)
  refine W.aload 354 at_352 rfl rfl rfl ?_
  refine W.iloadN 355 at_354 rfl rfl ?_
  refine W.iconst 356 at_355 rfl (1 : Int32) rfl ?_
  refine W.iload 358 at_356 rfl rfl ?_
  refine W.iload 360 at_358 rfl rfl ?_
  refine W.callS (rest := []) (argsL := [(.ref bt2167), (.int p0), (.int (1 : Int32)), (.int (0 : Int32)), (.int s1)]) 363 at_360 rfl (fun hn => c_mt10 l Z a0 hw bt2167 p0 s1 _ n0 hn hs1 q2283) (wd_135 hw) (wd_136 hw) (wd_4 hw) (wd_137 hw) (by decide) pd_16 rfl rfl rfl (by decide) 0 (Nat.le_of_ble_eq_true rfl) (by decide) (by decide) (by decide) ?_
  rintro v2284 h2284 ⟨rfl, rfl⟩
  show WG _ _ _ _ _ _ _ _ _ _ _ _ 13 52 363 #[.val (.int p0), .val (.int p1), .val (.int p2), .val (.int p3), .val (.int (1 : Int32)), .val (.int (0 : Int32)), .val (.int s1), .val (.int s2), .val (.ref b2076), .val (.ref b2077), .val (.ref b2091), .val (.ref b2095), .val (.ref o2113), .val (.ref o2148), .val (.ref o2186), .val (.ref bt2167), .val (.ref bf2167)] [(.int (1 : Int32))]
  refine W.if_eq 392 366 at_363 rfl rfl (fun hc => absurd hc (by decide)) (fun _ => ?_)
  refine W.aload 368 at_366 rfl rfl rfl ?_
  refine W.iloadN 369 at_368 rfl rfl ?_
  refine W.iconst 370 at_369 rfl (1 : Int32) rfl ?_
  refine W.iload 372 at_370 rfl rfl ?_
  refine W.if_ne 379 375 at_372 rfl rfl (fun hc => absurd (by decide) hc) (fun _ => ?_)
  refine W.iconst 376 at_375 rfl (1 : Int32) rfl ?_
  refine W.goto 380 at_376 rfl ?_
  refine W.iload 382 at_380 rfl rfl ?_
  refine W.callS (rest := []) (argsL := [(.ref bf2167), (.int p0), (.int (1 : Int32)), (.int (1 : Int32)), (.int s2)]) 385 at_382 rfl (fun hn => c_mt11 l Z a0 hw bf2167 p0 s2 _ n0 hn hs2 (show Ary _ _ _ .int [(.int (own_exp (own_A11 p0) s2 (0 : Int32))), (.int (own_exp (own_A11 p0) s2 (1 : Int32))), (.int (own_exp (own_A11 p0) s2 (2 : Int32)))] from A2280)) (wd_135 hw) (wd_136 hw) (wd_4 hw) (wd_137 hw) (by decide) pd_16 rfl rfl rfl (by decide) 0 (Nat.le_of_ble_eq_true rfl) (by decide) (by decide) (by decide) ?_
  rintro v2285 h2285 ⟨rfl, rfl⟩
  show WG _ _ _ _ _ _ _ _ _ _ _ _ 13 52 385 #[.val (.int p0), .val (.int p1), .val (.int p2), .val (.int p3), .val (.int (1 : Int32)), .val (.int (0 : Int32)), .val (.int s1), .val (.int s2), .val (.ref b2076), .val (.ref b2077), .val (.ref b2091), .val (.ref b2095), .val (.ref o2113), .val (.ref o2148), .val (.ref o2186), .val (.ref bt2167), .val (.ref bf2167)] [(.int (1 : Int32))]
  refine W.if_eq 392 388 at_385 rfl rfl (fun hc => absurd hc (by decide)) (fun _ => ?_)
  refine W.iconst 389 at_388 rfl (1 : Int32) rfl ?_
  refine W.goto 393 at_389 rfl ?_
  exact W.ireturnN (t := .boolean) at_393 rfl (by simp) (1 : Int32) rfl rfl (by decide) (by decide)
theorem law_11 (l : Launch) (Z : State) (a0 : Array Value) (hw : HwT Z a0) (p0 p1 p2 p3 s1 s2 : Int32) (x0 x1 x2 y0 y1 y2 : List Int32) (q0 q1 q2 w0 w1 w2 : Int32) (r1 r2 : List Int32 × List Int32 × List Int32 × Int32) (h : Heap) (n0 : Nat) (hn : n0 ≤ h.size) (hD : (p3 &&& (1 : Int32)) = (1 : Int32)) (hF : (p3 &&& (2 : Int32)) = (2 : Int32)) (hS1 : ((p1 &&& (2147483647 : Int32)) % (3 : Int32)) = s1) (hS2 : ((p2 &&& (2147483647 : Int32)) % (3 : Int32)) = s2) (hs1 : s1 = 0 ∨ s1 = 1 ∨ s1 = 2) (hs2 : s2 = 0 ∨ s2 = 1 ∨ s2 = 2) (hx0 : own_fill2 (own_h p0 (1 : Int32)) 1 (own_h p0 (2 : Int32)) 2 [0, 0, 0, 0, 0, 0] 0 = some (x0, q0)) (hx1 : own_fill2 (own_h p0 (3 : Int32)) 0 (own_h p0 (5 : Int32)) 2 x0 q0 = some (x1, q1)) (hx2 : own_fill2 (own_h p0 (6 : Int32)) 0 (own_h p0 (7 : Int32)) 1 x1 q1 = some (x2, q2)) (hy0 : own_fill2 (own_h p0 (3 : Int32)) 1 (own_h p0 (6 : Int32)) 2 [0, 0, 0, 0, 0, 0] 0 = some (y0, w0)) (hy1 : own_fill2 (own_h p0 (1 : Int32)) 0 (own_h p0 (7 : Int32)) 2 y0 w0 = some (y1, w1)) (hy2 : own_fill2 (own_h p0 (2 : Int32)) 0 (own_h p0 (5 : Int32)) 1 y1 w1 = some (y2, w2)) (hr1 : own_search [0, q0, q1, q2] x2 s1 [-1, -1, -1] [0, 0, 0] [0, 0, 0] 0 = some r1) (hk1 : own_keep r1.1 r1.2.2.1 r1.2.2.2 = some [(own_exp (own_A11 p0) s1 (0 : Int32)), (own_exp (own_A11 p0) s1 (1 : Int32)), (own_exp (own_A11 p0) s1 (2 : Int32))]) (hr2 : own_search [0, w0, w1, w2] y2 s2 r1.1 r1.2.1 r1.2.2.1 r1.2.2.2 = some r2) (hk2 : own_keep r2.1 r2.2.2.1 r2.2.2.2 = some [(own_exp (own_A10 p0) s2 (0 : Int32)), (own_exp (own_A10 p0) s2 (1 : Int32)), (own_exp (own_A10 p0) s2 (2 : Int32))]) : ConW tables_1 l Z x code maxLocals ret room_1 #[(.int p0), (.int p1), (.int p2), (.int p3)] h n0 (fun r _ => r = some (.int 1)) := by
  refine ConG.of_W (Ls := #[.val (.int p0), .val (.int p1), .val (.int p2), .val (.int p3), .unset, .unset, .unset, .unset, .unset, .unset, .unset, .unset, .unset, .unset, .unset, .unset, .unset]) (plainFor_of_name pn_0) hn (fun m => by first | (simp [entryFrame, mkF, argsToLocals, Value.category, maxLocals]; done) | rfl) ?_
  refine W.iloadN 1 at_0 rfl rfl ?_
  refine W.iconst 2 at_1 rfl (1 : Int32) rfl ?_
  refine W.iand 3 at_2 rfl (1 : Int32) hD ?_
  refine W.if_eq 10 6 at_3 rfl rfl (fun hc => absurd hc (by decide)) (fun _ => ?_)
  refine W.iconst 7 at_6 rfl (1 : Int32) rfl ?_
  refine W.goto 11 at_7 rfl ?_
  refine W.istore 13 at_11 rfl #[.val (.int p0), .val (.int p1), .val (.int p2), .val (.int p3), .val (.int (1 : Int32)), .unset, .unset, .unset, .unset, .unset, .unset, .unset, .unset, .unset, .unset, .unset, .unset] rfl ?_
  refine W.iloadN 14 at_13 rfl rfl ?_
  refine W.iconst 15 at_14 rfl (2 : Int32) rfl ?_
  refine W.iand 16 at_15 rfl (2 : Int32) hF ?_
  refine W.if_eq 23 19 at_16 rfl rfl (fun hc => absurd hc (by decide)) (fun _ => ?_)
  refine W.iconst 20 at_19 rfl (1 : Int32) rfl ?_
  refine W.goto 24 at_20 rfl ?_
  refine W.istore 26 at_24 rfl #[.val (.int p0), .val (.int p1), .val (.int p2), .val (.int p3), .val (.int (1 : Int32)), .val (.int (1 : Int32)), .unset, .unset, .unset, .unset, .unset, .unset, .unset, .unset, .unset, .unset, .unset] rfl ?_
  refine W.iloadN 27 at_26 rfl rfl ?_
  refine W.ldcI 29 at_27 rfl (wd_0 hw) ?_
  refine W.iand 30 at_29 rfl (p1 &&& (2147483647 : Int32)) rfl ?_
  refine W.iconst 31 at_30 rfl (3 : Int32) rfl ?_
  refine W.irem 32 at_31 rfl (by decide) s1 hS1 ?_
  refine W.istore 34 at_32 rfl #[.val (.int p0), .val (.int p1), .val (.int p2), .val (.int p3), .val (.int (1 : Int32)), .val (.int (1 : Int32)), .val (.int s1), .unset, .unset, .unset, .unset, .unset, .unset, .unset, .unset, .unset, .unset] rfl ?_
  refine W.iloadN 35 at_34 rfl rfl ?_
  refine W.ldcI 37 at_35 rfl (wd_0 hw) ?_
  refine W.iand 38 at_37 rfl (p2 &&& (2147483647 : Int32)) rfl ?_
  refine W.iconst 39 at_38 rfl (3 : Int32) rfl ?_
  refine W.irem 40 at_39 rfl (by decide) s2 hS2 ?_
  refine W.istore 42 at_40 rfl #[.val (.int p0), .val (.int p1), .val (.int p2), .val (.int p3), .val (.int (1 : Int32)), .val (.int (1 : Int32)), .val (.int s1), .val (.int s2), .unset, .unset, .unset, .unset, .unset, .unset, .unset, .unset, .unset] rfl ?_
  refine W.bipush 44 at_42 rfl (6 : Int32) rfl ?_
  refine W.newarray 46 at_44 rfl (wd_1 hw) rfl (by decide) 6 6 (by decide) (by decide) (by decide) (by decide) (by decide) rfl ?_
  intro h2286 b2286 g2286 ge2286 X2286 K2286 A2286
  have A2286 : Ary _ _ b2286 .int [(.int (0 : Int32)), (.int (0 : Int32)), (.int (0 : Int32)), (.int (0 : Int32)), (.int (0 : Int32)), (.int (0 : Int32))] := A2286
  show WG _ _ _ _ _ _ _ _ _ _ _ _ 1 6 46 #[.val (.int p0), .val (.int p1), .val (.int p2), .val (.int p3), .val (.int (1 : Int32)), .val (.int (1 : Int32)), .val (.int s1), .val (.int s2), .unset, .unset, .unset, .unset, .unset, .unset, .unset, .unset, .unset] [(.ref b2286)]
  refine W.astore 48 at_46 rfl rfl #[.val (.int p0), .val (.int p1), .val (.int p2), .val (.int p3), .val (.int (1 : Int32)), .val (.int (1 : Int32)), .val (.int s1), .val (.int s2), .val (.ref b2286), .unset, .unset, .unset, .unset, .unset, .unset, .unset, .unset] rfl ?_
  refine W.iconst 49 at_48 rfl (4 : Int32) rfl ?_
  refine W.newarray 51 at_49 rfl (wd_1 hw) rfl (by decide) 4 4 (by decide) (by decide) (by decide) (by decide) (by decide) rfl ?_
  intro h2287 b2287 g2287 ge2287 X2287 K2287 A2287
  have ne2288 : b2286 ≠ b2287 := Nat.ne_of_lt (Nat.lt_of_lt_of_eq A2286.lt g2287.symm)
  have A2287 : Ary _ _ b2287 .int [(.int (0 : Int32)), (.int (0 : Int32)), (.int (0 : Int32)), (.int (0 : Int32))] := A2287
  show WG _ _ _ _ _ _ _ _ _ _ _ _ 2 10 51 #[.val (.int p0), .val (.int p1), .val (.int p2), .val (.int p3), .val (.int (1 : Int32)), .val (.int (1 : Int32)), .val (.int s1), .val (.int s2), .val (.ref b2286), .unset, .unset, .unset, .unset, .unset, .unset, .unset, .unset] [(.ref b2287)]
  refine W.astore 53 at_51 rfl rfl #[.val (.int p0), .val (.int p1), .val (.int p2), .val (.int p3), .val (.int (1 : Int32)), .val (.int (1 : Int32)), .val (.int s1), .val (.int s2), .val (.ref b2286), .val (.ref b2287), .unset, .unset, .unset, .unset, .unset, .unset, .unset] rfl ?_
  refine W.aload 55 at_53 rfl rfl rfl ?_
  refine W.iconst 56 at_55 rfl (1 : Int32) rfl ?_
  refine W.iloadN 57 at_56 rfl rfl ?_
  refine W.iload 59 at_57 rfl rfl ?_
  refine W.iconst 60 at_59 rfl (1 : Int32) rfl ?_
  refine W.iconst 61 at_60 rfl (0 : Int32) rfl ?_
  refine W.aload 63 at_61 rfl rfl rfl ?_
  refine W.iconst 64 at_63 rfl (0 : Int32) rfl ?_
  have q2289 := (A2286.keep K2287 nin0)
  refine W.callS (rest := [(.int (1 : Int32)), (.ref b2287)]) (argsL := [(.int p0), (.int (1 : Int32)), (.int (1 : Int32)), (.int (0 : Int32)), (.ref b2286), (.int (0 : Int32))]) 67 at_64 rfl (fun hn => c_fil110 l Z a0 hw p0 (0 : Int32) q0 b2286 [0, 0, 0, 0, 0, 0] x0 _ n0 hn ge2286 q2289 hx0) (wd_2 hw) (wd_3 hw) (wd_4 hw) (wd_5 hw) (by decide) pd_10 rfl rfl rfl (by decide) 2 (Nat.le_of_ble_eq_true rfl) (by decide) (by decide) (by decide) ?_
  rintro v2290 h2290 ⟨rfl, A2290, K2290⟩
  show WG _ _ _ _ _ _ _ _ _ _ _ _ 2 10 67 #[.val (.int p0), .val (.int p1), .val (.int p2), .val (.int p3), .val (.int (1 : Int32)), .val (.int (1 : Int32)), .val (.int s1), .val (.int s2), .val (.ref b2286), .val (.ref b2287), .unset, .unset, .unset, .unset, .unset, .unset, .unset] [(.int q0), (.int (1 : Int32)), (.ref b2287)]
  have q2291 := (A2287.keep K2290 (ninS (Ne.symm ne2288) nin0))
  refine W.iastore 68 at_67 rfl q2291 1 (by decide) (by decide) (Nat.le_of_ble_eq_true rfl) ge2287 ?_
  intro h2292 W2292 K2292 A2292
  have A2292 : Ary _ _ b2287 .int [(.int (0 : Int32)), (.int q0), (.int (0 : Int32)), (.int (0 : Int32))] := A2292
  refine W.aload 70 at_68 rfl rfl rfl ?_
  refine W.iconst 71 at_70 rfl (2 : Int32) rfl ?_
  refine W.iloadN 72 at_71 rfl rfl ?_
  refine W.iload 74 at_72 rfl rfl ?_
  refine W.iconst 75 at_74 rfl (1 : Int32) rfl ?_
  refine W.iconst 76 at_75 rfl (1 : Int32) rfl ?_
  refine W.aload 78 at_76 rfl rfl rfl ?_
  refine W.aload 80 at_78 rfl rfl rfl ?_
  refine W.iconst 81 at_80 rfl (1 : Int32) rfl ?_
  refine W.iaload 82 at_81 rfl A2292 1 (by decide) (by decide) (.int q0) rfl ?_
  have q2293 := (A2290.keep K2292 (ninS ne2288 nin0))
  refine W.callS (rest := [(.int (2 : Int32)), (.ref b2287)]) (argsL := [(.int p0), (.int (1 : Int32)), (.int (1 : Int32)), (.int (1 : Int32)), (.ref b2286), (.int q0)]) 85 at_82 rfl (fun hn => c_fil111 l Z a0 hw p0 q0 q1 b2286 x0 x1 _ n0 hn ge2286 q2293 hx1) (wd_2 hw) (wd_3 hw) (wd_4 hw) (wd_5 hw) (by decide) pd_10 rfl rfl rfl (by decide) 2 (Nat.le_of_ble_eq_true rfl) (by decide) (by decide) (by decide) ?_
  rintro v2294 h2294 ⟨rfl, A2294, K2294⟩
  show WG _ _ _ _ _ _ _ _ _ _ _ _ 2 10 85 #[.val (.int p0), .val (.int p1), .val (.int p2), .val (.int p3), .val (.int (1 : Int32)), .val (.int (1 : Int32)), .val (.int s1), .val (.int s2), .val (.ref b2286), .val (.ref b2287), .unset, .unset, .unset, .unset, .unset, .unset, .unset] [(.int q1), (.int (2 : Int32)), (.ref b2287)]
  have q2295 := (A2292.keep K2294 (ninS (Ne.symm ne2288) nin0))
  refine W.iastore 86 at_85 rfl q2295 2 (by decide) (by decide) (Nat.le_of_ble_eq_true rfl) ge2287 ?_
  intro h2296 W2296 K2296 A2296
  have A2296 : Ary _ _ b2287 .int [(.int (0 : Int32)), (.int q0), (.int q1), (.int (0 : Int32))] := A2296
  refine W.aload 88 at_86 rfl rfl rfl ?_
  refine W.iconst 89 at_88 rfl (3 : Int32) rfl ?_
  refine W.iloadN 90 at_89 rfl rfl ?_
  refine W.iload 92 at_90 rfl rfl ?_
  refine W.iconst 93 at_92 rfl (1 : Int32) rfl ?_
  refine W.iconst 94 at_93 rfl (2 : Int32) rfl ?_
  refine W.aload 96 at_94 rfl rfl rfl ?_
  refine W.aload 98 at_96 rfl rfl rfl ?_
  refine W.iconst 99 at_98 rfl (2 : Int32) rfl ?_
  refine W.iaload 100 at_99 rfl A2296 2 (by decide) (by decide) (.int q1) rfl ?_
  have q2297 := (A2294.keep K2296 (ninS ne2288 nin0))
  refine W.callS (rest := [(.int (3 : Int32)), (.ref b2287)]) (argsL := [(.int p0), (.int (1 : Int32)), (.int (1 : Int32)), (.int (2 : Int32)), (.ref b2286), (.int q1)]) 103 at_100 rfl (fun hn => c_fil112 l Z a0 hw p0 q1 q2 b2286 x1 x2 _ n0 hn ge2286 q2297 hx2) (wd_2 hw) (wd_3 hw) (wd_4 hw) (wd_5 hw) (by decide) pd_10 rfl rfl rfl (by decide) 2 (Nat.le_of_ble_eq_true rfl) (by decide) (by decide) (by decide) ?_
  rintro v2298 h2298 ⟨rfl, A2298, K2298⟩
  show WG _ _ _ _ _ _ _ _ _ _ _ _ 2 10 103 #[.val (.int p0), .val (.int p1), .val (.int p2), .val (.int p3), .val (.int (1 : Int32)), .val (.int (1 : Int32)), .val (.int s1), .val (.int s2), .val (.ref b2286), .val (.ref b2287), .unset, .unset, .unset, .unset, .unset, .unset, .unset] [(.int q2), (.int (3 : Int32)), (.ref b2287)]
  have q2299 := (A2296.keep K2298 (ninS (Ne.symm ne2288) nin0))
  refine W.iastore 104 at_103 rfl q2299 3 (by decide) (by decide) (Nat.le_of_ble_eq_true rfl) ge2287 ?_
  intro h2300 W2300 K2300 A2300
  have A2300 : Ary _ _ b2287 .int [(.int (0 : Int32)), (.int q0), (.int q1), (.int q2)] := A2300
  refine W.aload 106 at_104 rfl rfl rfl ?_
  refine W.astore 108 at_106 rfl rfl #[.val (.int p0), .val (.int p1), .val (.int p2), .val (.int p3), .val (.int (1 : Int32)), .val (.int (1 : Int32)), .val (.int s1), .val (.int s2), .val (.ref b2286), .val (.ref b2287), .val (.ref b2286), .unset, .unset, .unset, .unset, .unset, .unset] rfl ?_
  refine W.aload 110 at_108 rfl rfl rfl ?_
  refine W.astore 112 at_110 rfl rfl #[.val (.int p0), .val (.int p1), .val (.int p2), .val (.int p3), .val (.int (1 : Int32)), .val (.int (1 : Int32)), .val (.int s1), .val (.int s2), .val (.ref b2286), .val (.ref b2287), .val (.ref b2286), .val (.ref b2287), .unset, .unset, .unset, .unset, .unset] rfl ?_
  refine W.iload 114 at_112 rfl rfl ?_
  refine W.if_eq 176 117 at_114 rfl rfl (fun hc => absurd hc (by decide)) (fun _ => ?_)
  refine W.bipush 119 at_117 rfl (6 : Int32) rfl ?_
  refine W.newarray 121 at_119 rfl (wd_1 hw) rfl (by decide) 6 6 (by decide) (by decide) (by decide) (by decide) (by decide) rfl ?_
  intro h2301 b2301 g2301 ge2301 X2301 K2301 A2301
  have q2302 := (A2298.keep K2300 (ninS ne2288 nin0))
  have ne2303 : b2286 ≠ b2301 := Nat.ne_of_lt (Nat.lt_of_lt_of_eq q2302.lt g2301.symm)
  have ne2304 : b2287 ≠ b2301 := Nat.ne_of_lt (Nat.lt_of_lt_of_eq A2300.lt g2301.symm)
  have A2301 : Ary _ _ b2301 .int [(.int (0 : Int32)), (.int (0 : Int32)), (.int (0 : Int32)), (.int (0 : Int32)), (.int (0 : Int32)), (.int (0 : Int32))] := A2301
  show WG _ _ _ _ _ _ _ _ _ _ _ _ 3 16 121 #[.val (.int p0), .val (.int p1), .val (.int p2), .val (.int p3), .val (.int (1 : Int32)), .val (.int (1 : Int32)), .val (.int s1), .val (.int s2), .val (.ref b2286), .val (.ref b2287), .val (.ref b2286), .val (.ref b2287), .unset, .unset, .unset, .unset, .unset] [(.ref b2301)]
  refine W.astore 123 at_121 rfl rfl #[.val (.int p0), .val (.int p1), .val (.int p2), .val (.int p3), .val (.int (1 : Int32)), .val (.int (1 : Int32)), .val (.int s1), .val (.int s2), .val (.ref b2286), .val (.ref b2287), .val (.ref b2301), .val (.ref b2287), .unset, .unset, .unset, .unset, .unset] rfl ?_
  refine W.iconst 124 at_123 rfl (4 : Int32) rfl ?_
  refine W.newarray 126 at_124 rfl (wd_1 hw) rfl (by decide) 4 4 (by decide) (by decide) (by decide) (by decide) (by decide) rfl ?_
  intro h2305 b2305 g2305 ge2305 X2305 K2305 A2305
  have q2306 := (q2302.keep K2301 nin0)
  have ne2307 : b2286 ≠ b2305 := Nat.ne_of_lt (Nat.lt_of_lt_of_eq q2306.lt g2305.symm)
  have q2308 := (A2300.keep K2301 nin0)
  have ne2309 : b2287 ≠ b2305 := Nat.ne_of_lt (Nat.lt_of_lt_of_eq q2308.lt g2305.symm)
  have ne2310 : b2301 ≠ b2305 := Nat.ne_of_lt (Nat.lt_of_lt_of_eq A2301.lt g2305.symm)
  have A2305 : Ary _ _ b2305 .int [(.int (0 : Int32)), (.int (0 : Int32)), (.int (0 : Int32)), (.int (0 : Int32))] := A2305
  show WG _ _ _ _ _ _ _ _ _ _ _ _ 4 20 126 #[.val (.int p0), .val (.int p1), .val (.int p2), .val (.int p3), .val (.int (1 : Int32)), .val (.int (1 : Int32)), .val (.int s1), .val (.int s2), .val (.ref b2286), .val (.ref b2287), .val (.ref b2301), .val (.ref b2287), .unset, .unset, .unset, .unset, .unset] [(.ref b2305)]
  refine W.astore 128 at_126 rfl rfl #[.val (.int p0), .val (.int p1), .val (.int p2), .val (.int p3), .val (.int (1 : Int32)), .val (.int (1 : Int32)), .val (.int s1), .val (.int s2), .val (.ref b2286), .val (.ref b2287), .val (.ref b2301), .val (.ref b2305), .unset, .unset, .unset, .unset, .unset] rfl ?_
  refine W.aload 130 at_128 rfl rfl rfl ?_
  refine W.iconst 131 at_130 rfl (1 : Int32) rfl ?_
  refine W.iloadN 132 at_131 rfl rfl ?_
  refine W.iconst 133 at_132 rfl (1 : Int32) rfl ?_
  refine W.iconst 134 at_133 rfl (0 : Int32) rfl ?_
  refine W.iconst 135 at_134 rfl (0 : Int32) rfl ?_
  refine W.aload 137 at_135 rfl rfl rfl ?_
  refine W.iconst 138 at_137 rfl (0 : Int32) rfl ?_
  have q2311 := (A2301.keep K2305 nin0)
  refine W.callS (rest := [(.int (1 : Int32)), (.ref b2305)]) (argsL := [(.int p0), (.int (1 : Int32)), (.int (0 : Int32)), (.int (0 : Int32)), (.ref b2301), (.int (0 : Int32))]) 141 at_138 rfl (fun hn => c_fil100 l Z a0 hw p0 (0 : Int32) w0 b2301 [0, 0, 0, 0, 0, 0] y0 _ n0 hn ge2301 q2311 hy0) (wd_2 hw) (wd_3 hw) (wd_4 hw) (wd_5 hw) (by decide) pd_10 rfl rfl rfl (by decide) 2 (Nat.le_of_ble_eq_true rfl) (by decide) (by decide) (by decide) ?_
  rintro v2312 h2312 ⟨rfl, A2312, K2312⟩
  show WG _ _ _ _ _ _ _ _ _ _ _ _ 4 20 141 #[.val (.int p0), .val (.int p1), .val (.int p2), .val (.int p3), .val (.int (1 : Int32)), .val (.int (1 : Int32)), .val (.int s1), .val (.int s2), .val (.ref b2286), .val (.ref b2287), .val (.ref b2301), .val (.ref b2305), .unset, .unset, .unset, .unset, .unset] [(.int w0), (.int (1 : Int32)), (.ref b2305)]
  have q2313 := (A2305.keep K2312 (ninS (Ne.symm ne2310) nin0))
  refine W.iastore 142 at_141 rfl q2313 1 (by decide) (by decide) (Nat.le_of_ble_eq_true rfl) ge2305 ?_
  intro h2314 W2314 K2314 A2314
  have A2314 : Ary _ _ b2305 .int [(.int (0 : Int32)), (.int w0), (.int (0 : Int32)), (.int (0 : Int32))] := A2314
  refine W.aload 144 at_142 rfl rfl rfl ?_
  refine W.iconst 145 at_144 rfl (2 : Int32) rfl ?_
  refine W.iloadN 146 at_145 rfl rfl ?_
  refine W.iconst 147 at_146 rfl (1 : Int32) rfl ?_
  refine W.iconst 148 at_147 rfl (0 : Int32) rfl ?_
  refine W.iconst 149 at_148 rfl (1 : Int32) rfl ?_
  refine W.aload 151 at_149 rfl rfl rfl ?_
  refine W.aload 153 at_151 rfl rfl rfl ?_
  refine W.iconst 154 at_153 rfl (1 : Int32) rfl ?_
  refine W.iaload 155 at_154 rfl A2314 1 (by decide) (by decide) (.int w0) rfl ?_
  have q2315 := (A2312.keep K2314 (ninS ne2310 nin0))
  refine W.callS (rest := [(.int (2 : Int32)), (.ref b2305)]) (argsL := [(.int p0), (.int (1 : Int32)), (.int (0 : Int32)), (.int (1 : Int32)), (.ref b2301), (.int w0)]) 158 at_155 rfl (fun hn => c_fil101 l Z a0 hw p0 w0 w1 b2301 y0 y1 _ n0 hn ge2301 q2315 hy1) (wd_2 hw) (wd_3 hw) (wd_4 hw) (wd_5 hw) (by decide) pd_10 rfl rfl rfl (by decide) 2 (Nat.le_of_ble_eq_true rfl) (by decide) (by decide) (by decide) ?_
  rintro v2316 h2316 ⟨rfl, A2316, K2316⟩
  show WG _ _ _ _ _ _ _ _ _ _ _ _ 4 20 158 #[.val (.int p0), .val (.int p1), .val (.int p2), .val (.int p3), .val (.int (1 : Int32)), .val (.int (1 : Int32)), .val (.int s1), .val (.int s2), .val (.ref b2286), .val (.ref b2287), .val (.ref b2301), .val (.ref b2305), .unset, .unset, .unset, .unset, .unset] [(.int w1), (.int (2 : Int32)), (.ref b2305)]
  have q2317 := (A2314.keep K2316 (ninS (Ne.symm ne2310) nin0))
  refine W.iastore 159 at_158 rfl q2317 2 (by decide) (by decide) (Nat.le_of_ble_eq_true rfl) ge2305 ?_
  intro h2318 W2318 K2318 A2318
  have A2318 : Ary _ _ b2305 .int [(.int (0 : Int32)), (.int w0), (.int w1), (.int (0 : Int32))] := A2318
  refine W.aload 161 at_159 rfl rfl rfl ?_
  refine W.iconst 162 at_161 rfl (3 : Int32) rfl ?_
  refine W.iloadN 163 at_162 rfl rfl ?_
  refine W.iconst 164 at_163 rfl (1 : Int32) rfl ?_
  refine W.iconst 165 at_164 rfl (0 : Int32) rfl ?_
  refine W.iconst 166 at_165 rfl (2 : Int32) rfl ?_
  refine W.aload 168 at_166 rfl rfl rfl ?_
  refine W.aload 170 at_168 rfl rfl rfl ?_
  refine W.iconst 171 at_170 rfl (2 : Int32) rfl ?_
  refine W.iaload 172 at_171 rfl A2318 2 (by decide) (by decide) (.int w1) rfl ?_
  have q2319 := (A2316.keep K2318 (ninS ne2310 nin0))
  refine W.callS (rest := [(.int (3 : Int32)), (.ref b2305)]) (argsL := [(.int p0), (.int (1 : Int32)), (.int (0 : Int32)), (.int (2 : Int32)), (.ref b2301), (.int w1)]) 175 at_172 rfl (fun hn => c_fil102 l Z a0 hw p0 w1 w2 b2301 y1 y2 _ n0 hn ge2301 q2319 hy2) (wd_2 hw) (wd_3 hw) (wd_4 hw) (wd_5 hw) (by decide) pd_10 rfl rfl rfl (by decide) 2 (Nat.le_of_ble_eq_true rfl) (by decide) (by decide) (by decide) ?_
  rintro v2320 h2320 ⟨rfl, A2320, K2320⟩
  show WG _ _ _ _ _ _ _ _ _ _ _ _ 4 20 175 #[.val (.int p0), .val (.int p1), .val (.int p2), .val (.int p3), .val (.int (1 : Int32)), .val (.int (1 : Int32)), .val (.int s1), .val (.int s2), .val (.ref b2286), .val (.ref b2287), .val (.ref b2301), .val (.ref b2305), .unset, .unset, .unset, .unset, .unset] [(.int w2), (.int (3 : Int32)), (.ref b2305)]
  have q2321 := (A2318.keep K2320 (ninS (Ne.symm ne2310) nin0))
  refine W.iastore 176 at_175 rfl q2321 3 (by decide) (by decide) (Nat.le_of_ble_eq_true rfl) ge2305 ?_
  intro h2322 W2322 K2322 A2322
  have A2322 : Ary _ _ b2305 .int [(.int (0 : Int32)), (.int w0), (.int w1), (.int w2)] := A2322
  refine W.new 179 at_176 rfl (wd_12 hw) (wd_13 hw) (wd_14 hw) (by decide) (by decide) ?_
  intro h2323 o2323 g2323 ge2323 X2323 K2323 E2323 D2323
  have q2324 := (((((((q2306.keep K2305 nin0).keep K2312 (ninS ne2303 nin0)).keep K2314 (ninS ne2307 nin0)).keep K2316 (ninS ne2303 nin0)).keep K2318 (ninS ne2307 nin0)).keep K2320 (ninS ne2303 nin0)).keep K2322 (ninS ne2307 nin0))
  have ne2325 : b2286 ≠ o2323 := Nat.ne_of_lt (Nat.lt_of_lt_of_eq q2324.lt g2323.symm)
  have q2326 := (((((((q2308.keep K2305 nin0).keep K2312 (ninS ne2304 nin0)).keep K2314 (ninS ne2309 nin0)).keep K2316 (ninS ne2304 nin0)).keep K2318 (ninS ne2309 nin0)).keep K2320 (ninS ne2304 nin0)).keep K2322 (ninS ne2309 nin0))
  have ne2327 : b2287 ≠ o2323 := Nat.ne_of_lt (Nat.lt_of_lt_of_eq q2326.lt g2323.symm)
  have q2328 := (A2320.keep K2322 (ninS ne2310 nin0))
  have ne2329 : b2301 ≠ o2323 := Nat.ne_of_lt (Nat.lt_of_lt_of_eq q2328.lt g2323.symm)
  have ne2330 : b2305 ≠ o2323 := Nat.ne_of_lt (Nat.lt_of_lt_of_eq A2322.lt g2323.symm)
  have f2331 : Fld _ _ o2323 "com/example/eccentra/eccentra/Graph" "labels" "[J" .null := D2323 (Or.inr (wd_24 hw)) (ty := (.array .long)) (by decide)
  have f2332 : Fld _ _ o2323 "com/example/eccentra/eccentra/Graph" "directed" "Z" (.int (0 : Int32)) := D2323 (Or.inr (wd_26 hw)) (ty := .boolean) (by decide)
  have f2333 : Fld _ _ o2323 "com/example/eccentra/eccentra/Graph" "outOffsets" "[I" .null := D2323 (Or.inr (wd_28 hw)) (ty := (.array .int)) (by decide)
  have f2334 : Fld _ _ o2323 "com/example/eccentra/eccentra/Graph" "outTargets" "[I" .null := D2323 (Or.inr (wd_30 hw)) (ty := (.array .int)) (by decide)
  have f2335 : Fld _ _ o2323 "com/example/eccentra/eccentra/Graph" "inOffsets" "[I" .null := D2323 (Or.inr (wd_32 hw)) (ty := (.array .int)) (by decide)
  have f2336 : Fld _ _ o2323 "com/example/eccentra/eccentra/Graph" "inSources" "[I" .null := D2323 (Or.inr (wd_34 hw)) (ty := (.array .int)) (by decide)
  show WG _ _ _ _ _ _ _ _ _ _ _ _ 5 26 179 #[.val (.int p0), .val (.int p1), .val (.int p2), .val (.int p3), .val (.int (1 : Int32)), .val (.int (1 : Int32)), .val (.int s1), .val (.int s2), .val (.ref b2286), .val (.ref b2287), .val (.ref b2301), .val (.ref b2305), .unset, .unset, .unset, .unset, .unset] [(.ref o2323)]
  refine W.dup 180 at_179 rfl rfl ?_
  refine W.iconst 181 at_180 rfl (3 : Int32) rfl ?_
  refine W.newarray 183 at_181 rfl (wd_15 hw) rfl (by decide) 3 3 (by decide) (by decide) (by decide) (by decide) (by decide) rfl ?_
  intro h2337 b2337 g2337 ge2337 X2337 K2337 A2337
  have q2338 := (q2324.keep K2323 nin0)
  have ne2339 : b2286 ≠ b2337 := Nat.ne_of_lt (Nat.lt_of_lt_of_eq q2338.lt g2337.symm)
  have q2340 := (q2326.keep K2323 nin0)
  have ne2341 : b2287 ≠ b2337 := Nat.ne_of_lt (Nat.lt_of_lt_of_eq q2340.lt g2337.symm)
  have q2342 := (q2328.keep K2323 nin0)
  have ne2343 : b2301 ≠ b2337 := Nat.ne_of_lt (Nat.lt_of_lt_of_eq q2342.lt g2337.symm)
  have q2344 := (A2322.keep K2323 nin0)
  have ne2345 : b2305 ≠ b2337 := Nat.ne_of_lt (Nat.lt_of_lt_of_eq q2344.lt g2337.symm)
  have ne2346 : o2323 ≠ b2337 := Nat.ne_of_lt (Nat.lt_of_lt_of_eq E2323.lt g2337.symm)
  have A2337 : Ary _ _ b2337 .long [(.long (0 : Int64)), (.long (0 : Int64)), (.long (0 : Int64))] := A2337
  show WG _ _ _ _ _ _ _ _ _ _ _ _ 6 29 183 #[.val (.int p0), .val (.int p1), .val (.int p2), .val (.int p3), .val (.int (1 : Int32)), .val (.int (1 : Int32)), .val (.int s1), .val (.int s2), .val (.ref b2286), .val (.ref b2287), .val (.ref b2301), .val (.ref b2305), .unset, .unset, .unset, .unset, .unset] [(.ref b2337), (.ref o2323), (.ref o2323)]
  refine W.dup 184 at_183 rfl rfl ?_
  refine W.iconst 185 at_184 rfl (0 : Int32) rfl ?_
  refine W.lconst 186 at_185 rfl (0 : Int64) rfl ?_
  refine W.lastore 187 at_186 rfl A2337 0 (by decide) (by decide) (Nat.le_of_ble_eq_true rfl) ge2337 ?_
  intro h2347 W2347 K2347 A2347
  have A2347 : Ary _ _ b2337 .long [(.long (0 : Int64)), (.long (0 : Int64)), (.long (0 : Int64))] := A2347
  refine W.dup 188 at_187 rfl rfl ?_
  refine W.iconst 189 at_188 rfl (1 : Int32) rfl ?_
  refine W.lconst 190 at_189 rfl (1 : Int64) rfl ?_
  refine W.lastore 191 at_190 rfl A2347 1 (by decide) (by decide) (Nat.le_of_ble_eq_true rfl) ge2337 ?_
  intro h2348 W2348 K2348 A2348
  have A2348 : Ary _ _ b2337 .long [(.long (0 : Int64)), (.long (1 : Int64)), (.long (0 : Int64))] := A2348
  refine W.dup 192 at_191 rfl rfl ?_
  refine W.iconst 193 at_192 rfl (2 : Int32) rfl ?_
  refine W.ldc2J 196 at_193 rfl (wd_16 hw) ?_
  refine W.lastore 197 at_196 rfl A2348 2 (by decide) (by decide) (Nat.le_of_ble_eq_true rfl) ge2337 ?_
  intro h2349 W2349 K2349 A2349
  have A2349 : Ary _ _ b2337 .long [(.long (0 : Int64)), (.long (1 : Int64)), (.long (2 : Int64))] := A2349
  refine W.iload 199 at_197 rfl rfl ?_
  refine W.aload 201 at_199 rfl rfl rfl ?_
  refine W.aload 203 at_201 rfl rfl rfl ?_
  refine W.aload 205 at_203 rfl rfl rfl ?_
  refine W.aload 207 at_205 rfl rfl rfl ?_
  have q2350 := ((((E2323.keep K2337).keep K2347).keep K2348).keep K2349)
  have q2351 := ((((f2331.keep K2337 nin0).keep K2347 (ninS ne2346 nin0)).keep K2348 (ninS ne2346 nin0)).keep K2349 (ninS ne2346 nin0))
  have q2352 := ((((f2332.keep K2337 nin0).keep K2347 (ninS ne2346 nin0)).keep K2348 (ninS ne2346 nin0)).keep K2349 (ninS ne2346 nin0))
  have q2353 := ((((f2333.keep K2337 nin0).keep K2347 (ninS ne2346 nin0)).keep K2348 (ninS ne2346 nin0)).keep K2349 (ninS ne2346 nin0))
  have q2354 := ((((f2334.keep K2337 nin0).keep K2347 (ninS ne2346 nin0)).keep K2348 (ninS ne2346 nin0)).keep K2349 (ninS ne2346 nin0))
  have q2355 := ((((f2335.keep K2337 nin0).keep K2347 (ninS ne2346 nin0)).keep K2348 (ninS ne2346 nin0)).keep K2349 (ninS ne2346 nin0))
  have q2356 := ((((f2336.keep K2337 nin0).keep K2347 (ninS ne2346 nin0)).keep K2348 (ninS ne2346 nin0)).keep K2349 (ninS ne2346 nin0))
  refine W.callInit (rest := [(.ref o2323)]) (argsL := [(.ref b2337), (.int (1 : Int32)), (.ref b2287), (.ref b2286), (.ref b2305), (.ref b2301)]) (a := o2323) 210 at_207 rfl (fun hn => c_gi1 l Z a0 hw o2323 b2337 b2287 b2286 b2305 b2301 _ n0 hn ge2323 q2350 q2351 q2352 q2353 q2354 q2355 q2356) rfl (wd_17 hw) (wd_18 hw) (wd_14 hw) (wd_19 hw) (by decide) pd_11 rfl rfl rfl (by decide) 1 (Nat.le_of_ble_eq_true rfl) (by decide) (by decide) (by decide) ?_
  rintro v2357 h2357 ⟨rfl, E2357, K2357, G02357, G12357, G22357, G32357, G42357, G52357⟩
  show WG _ _ _ _ _ _ _ _ _ _ _ _ 6 29 210 #[.val (.int p0), .val (.int p1), .val (.int p2), .val (.int p3), .val (.int (1 : Int32)), .val (.int (1 : Int32)), .val (.int s1), .val (.int s2), .val (.ref b2286), .val (.ref b2287), .val (.ref b2301), .val (.ref b2305), .unset, .unset, .unset, .unset, .unset] [(.ref o2323)]
  refine W.astore 212 at_210 rfl rfl #[.val (.int p0), .val (.int p1), .val (.int p2), .val (.int p3), .val (.int (1 : Int32)), .val (.int (1 : Int32)), .val (.int s1), .val (.int s2), .val (.ref b2286), .val (.ref b2287), .val (.ref b2301), .val (.ref b2305), .val (.ref o2323), .unset, .unset, .unset, .unset] rfl ?_
  refine W.new 215 at_212 rfl (wd_35 hw) (wd_36 hw) (wd_37 hw) (by decide) (by decide) ?_
  intro h2358 o2358 g2358 ge2358 X2358 K2358 E2358 D2358
  have q2359 := (((((q2338.keep K2337 nin0).keep K2347 (ninS ne2339 nin0)).keep K2348 (ninS ne2339 nin0)).keep K2349 (ninS ne2339 nin0)).keep K2357 (ninS ne2325 nin0))
  have ne2360 : b2286 ≠ o2358 := Nat.ne_of_lt (Nat.lt_of_lt_of_eq q2359.lt g2358.symm)
  have q2361 := (((((q2340.keep K2337 nin0).keep K2347 (ninS ne2341 nin0)).keep K2348 (ninS ne2341 nin0)).keep K2349 (ninS ne2341 nin0)).keep K2357 (ninS ne2327 nin0))
  have ne2362 : b2287 ≠ o2358 := Nat.ne_of_lt (Nat.lt_of_lt_of_eq q2361.lt g2358.symm)
  have q2363 := (((((q2342.keep K2337 nin0).keep K2347 (ninS ne2343 nin0)).keep K2348 (ninS ne2343 nin0)).keep K2349 (ninS ne2343 nin0)).keep K2357 (ninS ne2329 nin0))
  have ne2364 : b2301 ≠ o2358 := Nat.ne_of_lt (Nat.lt_of_lt_of_eq q2363.lt g2358.symm)
  have q2365 := (((((q2344.keep K2337 nin0).keep K2347 (ninS ne2345 nin0)).keep K2348 (ninS ne2345 nin0)).keep K2349 (ninS ne2345 nin0)).keep K2357 (ninS ne2330 nin0))
  have ne2366 : b2305 ≠ o2358 := Nat.ne_of_lt (Nat.lt_of_lt_of_eq q2365.lt g2358.symm)
  have q2367 := (A2349.keep K2357 (ninS (Ne.symm ne2346) nin0))
  have ne2368 : b2337 ≠ o2358 := Nat.ne_of_lt (Nat.lt_of_lt_of_eq q2367.lt g2358.symm)
  have ne2369 : o2323 ≠ o2358 := Nat.ne_of_lt (Nat.lt_of_lt_of_eq E2357.lt g2358.symm)
  have f2370 : Fld _ _ o2358 "com/example/eccentra/eccentra/MainVertex" "vertex" "I" (.int (0 : Int32)) := D2358 (Or.inl (wd_43 hw)) (ty := .int) (by decide)
  have f2371 : Fld _ _ o2358 "com/example/eccentra/eccentra/MainVertex" "from" "[I" .null := D2358 (Or.inr (wd_50 hw)) (ty := (.array .int)) (by decide)
  have f2372 : Fld _ _ o2358 "com/example/eccentra/eccentra/MainVertex" "to" "[I" .null := D2358 (Or.inr (wd_57 hw)) (ty := (.array .int)) (by decide)
  show WG _ _ _ _ _ _ _ _ _ _ _ _ 7 32 215 #[.val (.int p0), .val (.int p1), .val (.int p2), .val (.int p3), .val (.int (1 : Int32)), .val (.int (1 : Int32)), .val (.int s1), .val (.int s2), .val (.ref b2286), .val (.ref b2287), .val (.ref b2301), .val (.ref b2305), .val (.ref o2323), .unset, .unset, .unset, .unset] [(.ref o2358)]
  refine W.dup 216 at_215 rfl rfl ?_
  refine W.aload 218 at_216 rfl rfl rfl ?_
  have q2373 := (E2357.keep K2358)
  have q2374 := (G02357.keep K2358 nin0)
  have q2375 := (G12357.keep K2358 nin0)
  have q2376 := (q2367.keep K2358 nin0)
  refine W.callInit (rest := [(.ref o2358)]) (argsL := [(.ref o2323)]) (a := o2358) 221 at_218 rfl (fun hn => c_mi1 l Z a0 hw o2358 o2323 b2337 _ n0 hn ge2358 E2358 f2370 f2371 f2372 q2373 q2374 q2375 q2376 (Ne.symm ne2369) (Ne.symm ne2368)) rfl (wd_38 hw) (wd_39 hw) (wd_37 hw) (wd_40 hw) (by decide) pd_12 rfl rfl rfl (by decide) 1 (Nat.le_of_ble_eq_true rfl) (by decide) (by decide) (by decide) ?_
  rintro v2377 h2377 ⟨rfl, bf2377, bt2377, ⟨sz12377, g12377, sz22377, g22377, n12377, n22377, n32377⟩, K2377, E2377, F02377, F12377, F22377, A12377, A22377⟩
  have q2378 := (q2359.keep K2358 nin0)
  have ne2379 : b2286 ≠ bf2377 := Nat.ne_of_lt (Nat.lt_of_lt_of_le q2378.lt sz12377)
  have q2380 := (q2361.keep K2358 nin0)
  have ne2381 : b2287 ≠ bf2377 := Nat.ne_of_lt (Nat.lt_of_lt_of_le q2380.lt sz12377)
  have q2382 := (q2363.keep K2358 nin0)
  have ne2383 : b2301 ≠ bf2377 := Nat.ne_of_lt (Nat.lt_of_lt_of_le q2382.lt sz12377)
  have q2384 := (q2365.keep K2358 nin0)
  have ne2385 : b2305 ≠ bf2377 := Nat.ne_of_lt (Nat.lt_of_lt_of_le q2384.lt sz12377)
  have ne2386 : b2337 ≠ bf2377 := Nat.ne_of_lt (Nat.lt_of_lt_of_le q2376.lt sz12377)
  have ne2387 : o2323 ≠ bf2377 := Nat.ne_of_lt (Nat.lt_of_lt_of_le q2373.lt sz12377)
  have ne2388 : o2358 ≠ bf2377 := Nat.ne_of_lt (Nat.lt_of_lt_of_le E2358.lt sz12377)
  have ne2389 : b2286 ≠ bt2377 := Nat.ne_of_lt (Nat.lt_of_lt_of_le q2378.lt sz22377)
  have ne2390 : b2287 ≠ bt2377 := Nat.ne_of_lt (Nat.lt_of_lt_of_le q2380.lt sz22377)
  have ne2391 : b2301 ≠ bt2377 := Nat.ne_of_lt (Nat.lt_of_lt_of_le q2382.lt sz22377)
  have ne2392 : b2305 ≠ bt2377 := Nat.ne_of_lt (Nat.lt_of_lt_of_le q2384.lt sz22377)
  have ne2393 : b2337 ≠ bt2377 := Nat.ne_of_lt (Nat.lt_of_lt_of_le q2376.lt sz22377)
  have ne2394 : o2323 ≠ bt2377 := Nat.ne_of_lt (Nat.lt_of_lt_of_le q2373.lt sz22377)
  have ne2395 : o2358 ≠ bt2377 := Nat.ne_of_lt (Nat.lt_of_lt_of_le E2358.lt sz22377)
  show WG _ _ _ _ _ _ _ _ _ _ _ _ 9 38 221 #[.val (.int p0), .val (.int p1), .val (.int p2), .val (.int p3), .val (.int (1 : Int32)), .val (.int (1 : Int32)), .val (.int s1), .val (.int s2), .val (.ref b2286), .val (.ref b2287), .val (.ref b2301), .val (.ref b2305), .val (.ref o2323), .unset, .unset, .unset, .unset] [(.ref o2358)]
  refine W.astore 223 at_221 rfl rfl #[.val (.int p0), .val (.int p1), .val (.int p2), .val (.int p3), .val (.int (1 : Int32)), .val (.int (1 : Int32)), .val (.int s1), .val (.int s2), .val (.ref b2286), .val (.ref b2287), .val (.ref b2301), .val (.ref b2305), .val (.ref o2323), .val (.ref o2358), .unset, .unset, .unset] rfl ?_
  refine W.new 226 at_223 rfl (wd_58 hw) (wd_59 hw) (wd_60 hw) (by decide) (by decide) ?_
  intro h2396 o2396 g2396 ge2396 X2396 K2396 E2396 D2396
  have q2397 := (q2378.keep K2377 (ninS ne2360 nin0))
  have ne2398 : b2286 ≠ o2396 := Nat.ne_of_lt (Nat.lt_of_lt_of_eq q2397.lt g2396.symm)
  have q2399 := (q2380.keep K2377 (ninS ne2362 nin0))
  have ne2400 : b2287 ≠ o2396 := Nat.ne_of_lt (Nat.lt_of_lt_of_eq q2399.lt g2396.symm)
  have q2401 := (q2382.keep K2377 (ninS ne2364 nin0))
  have ne2402 : b2301 ≠ o2396 := Nat.ne_of_lt (Nat.lt_of_lt_of_eq q2401.lt g2396.symm)
  have q2403 := (q2384.keep K2377 (ninS ne2366 nin0))
  have ne2404 : b2305 ≠ o2396 := Nat.ne_of_lt (Nat.lt_of_lt_of_eq q2403.lt g2396.symm)
  have q2405 := (q2376.keep K2377 (ninS ne2368 nin0))
  have ne2406 : b2337 ≠ o2396 := Nat.ne_of_lt (Nat.lt_of_lt_of_eq q2405.lt g2396.symm)
  have ne2407 : bf2377 ≠ o2396 := Nat.ne_of_lt (Nat.lt_of_lt_of_eq A12377.lt g2396.symm)
  have ne2408 : bt2377 ≠ o2396 := Nat.ne_of_lt (Nat.lt_of_lt_of_eq A22377.lt g2396.symm)
  have q2409 := (q2373.keep K2377)
  have ne2410 : o2323 ≠ o2396 := Nat.ne_of_lt (Nat.lt_of_lt_of_eq q2409.lt g2396.symm)
  have ne2411 : o2358 ≠ o2396 := Nat.ne_of_lt (Nat.lt_of_lt_of_eq E2377.lt g2396.symm)
  have f2412 : Fld _ _ o2396 "com/example/eccentra/eccentra/BreadthFirst" "graph" "Lcom/example/eccentra/eccentra/Graph;" .null := D2396 (Or.inr (wd_66 hw)) (ty := (.object "com/example/eccentra/eccentra/Graph")) (by decide)
  have f2413 : Fld _ _ o2396 "com/example/eccentra/eccentra/BreadthFirst" "distance" "[I" .null := D2396 (Or.inr (wd_69 hw)) (ty := (.array .int)) (by decide)
  have f2414 : Fld _ _ o2396 "com/example/eccentra/eccentra/BreadthFirst" "parent" "[I" .null := D2396 (Or.inr (wd_75 hw)) (ty := (.array .int)) (by decide)
  have f2415 : Fld _ _ o2396 "com/example/eccentra/eccentra/BreadthFirst" "reachedOrder" "[I" .null := D2396 (Or.inr (wd_77 hw)) (ty := (.array .int)) (by decide)
  have f2416 : Fld _ _ o2396 "com/example/eccentra/eccentra/BreadthFirst" "reachedCount" "I" (.int (0 : Int32)) := D2396 (Or.inl (wd_88 hw)) (ty := .int) (by decide)
  show WG _ _ _ _ _ _ _ _ _ _ _ _ 10 43 226 #[.val (.int p0), .val (.int p1), .val (.int p2), .val (.int p3), .val (.int (1 : Int32)), .val (.int (1 : Int32)), .val (.int s1), .val (.int s2), .val (.ref b2286), .val (.ref b2287), .val (.ref b2301), .val (.ref b2305), .val (.ref o2323), .val (.ref o2358), .unset, .unset, .unset] [(.ref o2396)]
  refine W.dup 227 at_226 rfl rfl ?_
  refine W.aload 229 at_227 rfl rfl rfl ?_
  have q2417 := (q2409.keep K2396)
  have q2418 := ((q2374.keep K2377 (ninS ne2369 nin0)).keep K2396 nin0)
  have q2419 := (q2405.keep K2396 nin0)
  refine W.callInit (rest := [(.ref o2396)]) (argsL := [(.ref o2323)]) (a := o2396) 232 at_229 rfl (fun hn => c_bi l Z a0 hw o2396 o2323 b2337 _ n0 hn ge2396 E2396 f2412 f2413 f2414 f2415 f2416 q2417 q2418 q2419 (Ne.symm ne2410) (Ne.symm ne2406)) rfl (wd_61 hw) (wd_62 hw) (wd_60 hw) (wd_63 hw) (by decide) pd_12 rfl rfl rfl (by decide) 1 (Nat.le_of_ble_eq_true rfl) (by decide) (by decide) (by decide) ?_
  rintro v2420 h2420 ⟨rfl, bd2420, bp2420, bo2420, ⟨s12420, s22420, s32420, g12420, g22420, g32420, n12420, n22420, n32420, n42420, n52420, n62420⟩, K2420, E2420, F02420, F12420, F22420, F32420, F42420, A12420, A22420, A32420⟩
  have q2421 := (q2397.keep K2396 nin0)
  have ne2422 : b2286 ≠ bd2420 := Nat.ne_of_lt (Nat.lt_of_lt_of_le q2421.lt s12420)
  have q2423 := (q2399.keep K2396 nin0)
  have ne2424 : b2287 ≠ bd2420 := Nat.ne_of_lt (Nat.lt_of_lt_of_le q2423.lt s12420)
  have q2425 := (q2401.keep K2396 nin0)
  have ne2426 : b2301 ≠ bd2420 := Nat.ne_of_lt (Nat.lt_of_lt_of_le q2425.lt s12420)
  have q2427 := (q2403.keep K2396 nin0)
  have ne2428 : b2305 ≠ bd2420 := Nat.ne_of_lt (Nat.lt_of_lt_of_le q2427.lt s12420)
  have ne2429 : b2337 ≠ bd2420 := Nat.ne_of_lt (Nat.lt_of_lt_of_le q2419.lt s12420)
  have q2430 := (A12377.keep K2396 nin0)
  have ne2431 : bf2377 ≠ bd2420 := Nat.ne_of_lt (Nat.lt_of_lt_of_le q2430.lt s12420)
  have q2432 := (A22377.keep K2396 nin0)
  have ne2433 : bt2377 ≠ bd2420 := Nat.ne_of_lt (Nat.lt_of_lt_of_le q2432.lt s12420)
  have ne2434 : o2323 ≠ bd2420 := Nat.ne_of_lt (Nat.lt_of_lt_of_le q2417.lt s12420)
  have q2435 := (E2377.keep K2396)
  have ne2436 : o2358 ≠ bd2420 := Nat.ne_of_lt (Nat.lt_of_lt_of_le q2435.lt s12420)
  have ne2437 : o2396 ≠ bd2420 := Nat.ne_of_lt (Nat.lt_of_lt_of_le E2396.lt s12420)
  have ne2438 : b2286 ≠ bp2420 := Nat.ne_of_lt (Nat.lt_of_lt_of_le q2421.lt s22420)
  have ne2439 : b2287 ≠ bp2420 := Nat.ne_of_lt (Nat.lt_of_lt_of_le q2423.lt s22420)
  have ne2440 : b2301 ≠ bp2420 := Nat.ne_of_lt (Nat.lt_of_lt_of_le q2425.lt s22420)
  have ne2441 : b2305 ≠ bp2420 := Nat.ne_of_lt (Nat.lt_of_lt_of_le q2427.lt s22420)
  have ne2442 : b2337 ≠ bp2420 := Nat.ne_of_lt (Nat.lt_of_lt_of_le q2419.lt s22420)
  have ne2443 : bf2377 ≠ bp2420 := Nat.ne_of_lt (Nat.lt_of_lt_of_le q2430.lt s22420)
  have ne2444 : bt2377 ≠ bp2420 := Nat.ne_of_lt (Nat.lt_of_lt_of_le q2432.lt s22420)
  have ne2445 : o2323 ≠ bp2420 := Nat.ne_of_lt (Nat.lt_of_lt_of_le q2417.lt s22420)
  have ne2446 : o2358 ≠ bp2420 := Nat.ne_of_lt (Nat.lt_of_lt_of_le q2435.lt s22420)
  have ne2447 : o2396 ≠ bp2420 := Nat.ne_of_lt (Nat.lt_of_lt_of_le E2396.lt s22420)
  have ne2448 : b2286 ≠ bo2420 := Nat.ne_of_lt (Nat.lt_of_lt_of_le q2421.lt s32420)
  have ne2449 : b2287 ≠ bo2420 := Nat.ne_of_lt (Nat.lt_of_lt_of_le q2423.lt s32420)
  have ne2450 : b2301 ≠ bo2420 := Nat.ne_of_lt (Nat.lt_of_lt_of_le q2425.lt s32420)
  have ne2451 : b2305 ≠ bo2420 := Nat.ne_of_lt (Nat.lt_of_lt_of_le q2427.lt s32420)
  have ne2452 : b2337 ≠ bo2420 := Nat.ne_of_lt (Nat.lt_of_lt_of_le q2419.lt s32420)
  have ne2453 : bf2377 ≠ bo2420 := Nat.ne_of_lt (Nat.lt_of_lt_of_le q2430.lt s32420)
  have ne2454 : bt2377 ≠ bo2420 := Nat.ne_of_lt (Nat.lt_of_lt_of_le q2432.lt s32420)
  have ne2455 : o2323 ≠ bo2420 := Nat.ne_of_lt (Nat.lt_of_lt_of_le q2417.lt s32420)
  have ne2456 : o2358 ≠ bo2420 := Nat.ne_of_lt (Nat.lt_of_lt_of_le q2435.lt s32420)
  have ne2457 : o2396 ≠ bo2420 := Nat.ne_of_lt (Nat.lt_of_lt_of_le E2396.lt s32420)
  show WG _ _ _ _ _ _ _ _ _ _ _ _ 13 52 232 #[.val (.int p0), .val (.int p1), .val (.int p2), .val (.int p3), .val (.int (1 : Int32)), .val (.int (1 : Int32)), .val (.int s1), .val (.int s2), .val (.ref b2286), .val (.ref b2287), .val (.ref b2301), .val (.ref b2305), .val (.ref o2323), .val (.ref o2358), .unset, .unset, .unset] [(.ref o2396)]
  refine W.astore 234 at_232 rfl rfl #[.val (.int p0), .val (.int p1), .val (.int p2), .val (.int p3), .val (.int (1 : Int32)), .val (.int (1 : Int32)), .val (.int s1), .val (.int s2), .val (.ref b2286), .val (.ref b2287), .val (.ref b2301), .val (.ref b2305), .val (.ref o2323), .val (.ref o2358), .val (.ref o2396), .unset, .unset] rfl ?_
  refine W.aload 236 at_234 rfl rfl rfl ?_
  refine W.iload 238 at_236 rfl rfl ?_
  refine W.iload 240 at_238 rfl rfl ?_
  have q2458 := (q2417.keep K2420)
  have q2459 := ((((G22357.keep K2358 nin0).keep K2377 (ninS ne2369 nin0)).keep K2396 nin0).keep K2420 (ninS ne2410 nin0))
  have q2460 := ((((G32357.keep K2358 nin0).keep K2377 (ninS ne2369 nin0)).keep K2396 nin0).keep K2420 (ninS ne2410 nin0))
  have q2461 := (q2423.keep K2420 (ninS ne2400 nin0))
  have q2462 := (q2421.keep K2420 (ninS ne2398 nin0))
  refine W.callV (rest := []) (argsL := [(.int s1), (.int (1 : Int32))]) (a := o2396) 243 at_240 rfl (fun hn => c_s2_1 l Z a0 hw o2396 o2323 b2287 b2286 bd2420 bp2420 bo2420 [0, q0, q1, q2] x2 [-1, -1, -1] [0, 0, 0] [0, 0, 0] s1 (0 : Int32) r1 _ n0 hn g12420 g22420 g32420 n12420 n22420 n32420 ne2434 ne2445 ne2455 ne2424 ne2439 ne2449 ne2422 ne2438 ne2448 n42420 n52420 n62420 ge2396 E2420 q2458 F02420 F12420 F22420 F32420 q2459 q2460 q2461 q2462 F42420 A12420 A22420 A32420 hr1) E2420 (wd_78 hw) (wd_79 hw) (wd_81 hw) rfl (wd_80 hw) (wd_60 hw) (wd_82 hw) (by decide) pd_13 rfl rfl rfl (by decide) 0 (Nat.le_of_ble_eq_true rfl) (by decide) (by decide) (by decide) ?_
  rintro v2463 h2463 ⟨⟨z2463, rfl⟩, K2463, E2463, Fc2463, F12463, F22463, F32463, F42463, A12463, A22463, A32463⟩
  show WG _ _ _ _ _ _ _ _ _ _ _ _ 13 52 243 #[.val (.int p0), .val (.int p1), .val (.int p2), .val (.int p3), .val (.int (1 : Int32)), .val (.int (1 : Int32)), .val (.int s1), .val (.int s2), .val (.ref b2286), .val (.ref b2287), .val (.ref b2301), .val (.ref b2305), .val (.ref o2323), .val (.ref o2358), .val (.ref o2396), .unset, .unset] [(.int z2463)]
  refine W.pop1 244 at_243 rfl rfl ?_
  refine W.aload 246 at_244 rfl rfl rfl ?_
  refine W.aload 248 at_246 rfl rfl rfl ?_
  refine W.iload 250 at_248 rfl rfl ?_
  have q2464 := ((q2435.keep K2420).keep K2463)
  have q2465 := (((F02377.keep K2396 nin0).keep K2420 (ninS ne2411 nin0)).keep K2463 (ninS ne2411 (ninS ne2436 (ninS ne2446 (ninS ne2456 nin0)))))
  have q2466 := (((F12377.keep K2396 nin0).keep K2420 (ninS ne2411 nin0)).keep K2463 (ninS ne2411 (ninS ne2436 (ninS ne2446 (ninS ne2456 nin0)))))
  have q2467 := (((F22377.keep K2396 nin0).keep K2420 (ninS ne2411 nin0)).keep K2463 (ninS ne2411 (ninS ne2436 (ninS ne2446 (ninS ne2456 nin0)))))
  have q2468 := ((q2430.keep K2420 (ninS ne2407 nin0)).keep K2463 (ninS ne2407 (ninS ne2431 (ninS ne2443 (ninS ne2453 nin0)))))
  refine W.callV (rest := []) (argsL := [(.ref o2396), (.int (1 : Int32))]) (a := o2358) 253 at_250 rfl (fun hn => c_kp_1 l Z a0 hw o2358 o2396 bf2377 bd2420 bo2420 bt2377 r1.2.2.1 r1.1 [(own_exp (own_A11 p0) s1 (0 : Int32)), (own_exp (own_A11 p0) s1 (1 : Int32)), (own_exp (own_A11 p0) s1 (2 : Int32))] r1.2.2.2 (-1 : Int32) (0 : Int32) (0 : Int32) (0 : Int32) _ n0 hn g12377 n12377 (Ne.symm ne2407) (Ne.symm ne2431) (Ne.symm ne2453) ne2411 ne2436 ne2456 ge2358 q2464 q2465 q2466 q2467 E2463 Fc2463 F42463 F22463 A32463 A12463 q2468 hk1) q2464 (wd_99 hw) (wd_100 hw) (wd_102 hw) rfl (wd_101 hw) (wd_37 hw) (wd_103 hw) (by decide) pd_14 rfl rfl rfl (by decide) 0 (Nat.le_of_ble_eq_true rfl) (by decide) (by decide) (by decide) ?_
  rintro v2469 h2469 ⟨rfl, K2469, E2469, ⟨vx2469, F02469⟩, F12469, F22469, A2469⟩
  show WG _ _ _ _ _ _ _ _ _ _ _ _ 13 52 253 #[.val (.int p0), .val (.int p1), .val (.int p2), .val (.int p3), .val (.int (1 : Int32)), .val (.int (1 : Int32)), .val (.int s1), .val (.int s2), .val (.ref b2286), .val (.ref b2287), .val (.ref b2301), .val (.ref b2305), .val (.ref o2323), .val (.ref o2358), .val (.ref o2396), .unset, .unset] []
  refine W.aload 255 at_253 rfl rfl rfl ?_
  refine W.iload 257 at_255 rfl rfl ?_
  refine W.iload 259 at_257 rfl rfl ?_
  refine W.if_ne 266 262 at_259 rfl rfl (fun _ => ?_) (fun hc => absurd hc (by decide))
  refine W.iconst 267 at_266 rfl (0 : Int32) rfl ?_
  have q2470 := ((q2458.keep K2463).keep K2469)
  have q2471 := (F12463.keep K2469 (ninS (Ne.symm ne2411) (ninS (Ne.symm ne2407) nin0)))
  have q2472 := (F22463.keep K2469 (ninS (Ne.symm ne2411) (ninS (Ne.symm ne2407) nin0)))
  have q2473 := (F32463.keep K2469 (ninS (Ne.symm ne2411) (ninS (Ne.symm ne2407) nin0)))
  have q2474 := (F42463.keep K2469 (ninS (Ne.symm ne2411) (ninS (Ne.symm ne2407) nin0)))
  have q2475 := ((((((G42357.keep K2358 nin0).keep K2377 (ninS ne2369 nin0)).keep K2396 nin0).keep K2420 (ninS ne2410 nin0)).keep K2463 (ninS ne2410 (ninS ne2434 (ninS ne2445 (ninS ne2455 nin0))))).keep K2469 (ninS ne2369 (ninS ne2387 nin0)))
  have q2476 := ((((((G52357.keep K2358 nin0).keep K2377 (ninS ne2369 nin0)).keep K2396 nin0).keep K2420 (ninS ne2410 nin0)).keep K2463 (ninS ne2410 (ninS ne2434 (ninS ne2445 (ninS ne2455 nin0))))).keep K2469 (ninS ne2369 (ninS ne2387 nin0)))
  have q2477 := (((q2427.keep K2420 (ninS ne2404 nin0)).keep K2463 (ninS ne2404 (ninS ne2428 (ninS ne2441 (ninS ne2451 nin0))))).keep K2469 (ninS ne2366 (ninS ne2385 nin0)))
  have q2478 := (((q2425.keep K2420 (ninS ne2402 nin0)).keep K2463 (ninS ne2402 (ninS ne2426 (ninS ne2440 (ninS ne2450 nin0))))).keep K2469 (ninS ne2364 (ninS ne2383 nin0)))
  have q2479 := (E2463.keep K2469)
  have q2480 := (Fc2463.keep K2469 (ninS (Ne.symm ne2411) (ninS (Ne.symm ne2407) nin0)))
  have q2481 := (A12463.keep K2469 (ninS (Ne.symm ne2436) (ninS (Ne.symm ne2431) nin0)))
  have q2482 := (A22463.keep K2469 (ninS (Ne.symm ne2446) (ninS (Ne.symm ne2443) nin0)))
  have q2483 := (A32463.keep K2469 (ninS (Ne.symm ne2456) (ninS (Ne.symm ne2453) nin0)))
  refine W.callV (rest := []) (argsL := [(.int s2), (.int (0 : Int32))]) (a := o2396) 270 at_267 rfl (fun hn => c_s2_0 l Z a0 hw o2396 o2323 b2305 b2301 bd2420 bp2420 bo2420 [0, w0, w1, w2] y2 r1.1 r1.2.1 r1.2.2.1 s2 r1.2.2.2 r2 _ n0 hn g12420 g22420 g32420 n12420 n22420 n32420 ne2434 ne2445 ne2455 ne2428 ne2441 ne2451 ne2426 ne2440 ne2450 n42420 n52420 n62420 ge2396 q2479 q2470 q2471 q2472 q2473 q2474 q2475 q2476 q2477 q2478 q2480 q2481 q2482 q2483 hr2) q2479 (wd_78 hw) (wd_79 hw) (wd_81 hw) rfl (wd_80 hw) (wd_60 hw) (wd_82 hw) (by decide) pd_13 rfl rfl rfl (by decide) 0 (Nat.le_of_ble_eq_true rfl) (by decide) (by decide) (by decide) ?_
  rintro v2484 h2484 ⟨⟨z2484, rfl⟩, K2484, E2484, Fc2484, F12484, F22484, F32484, F42484, A12484, A22484, A32484⟩
  show WG _ _ _ _ _ _ _ _ _ _ _ _ 13 52 270 #[.val (.int p0), .val (.int p1), .val (.int p2), .val (.int p3), .val (.int (1 : Int32)), .val (.int (1 : Int32)), .val (.int s1), .val (.int s2), .val (.ref b2286), .val (.ref b2287), .val (.ref b2301), .val (.ref b2305), .val (.ref o2323), .val (.ref o2358), .val (.ref o2396), .unset, .unset] [(.int z2484)]
  refine W.pop1 271 at_270 rfl rfl ?_
  refine W.aload 273 at_271 rfl rfl rfl ?_
  refine W.aload 275 at_273 rfl rfl rfl ?_
  refine W.iload 277 at_275 rfl rfl ?_
  refine W.if_ne 284 280 at_277 rfl rfl (fun _ => ?_) (fun hc => absurd hc (by decide))
  refine W.iconst 285 at_284 rfl (0 : Int32) rfl ?_
  have q2485 := (E2469.keep K2484)
  have q2486 := (F02469.keep K2484 (ninS ne2411 (ninS ne2436 (ninS ne2446 (ninS ne2456 nin0)))))
  have q2487 := (F22469.keep K2484 (ninS ne2411 (ninS ne2436 (ninS ne2446 (ninS ne2456 nin0)))))
  have q2488 := (F12469.keep K2484 (ninS ne2411 (ninS ne2436 (ninS ne2446 (ninS ne2456 nin0)))))
  have q2489 := ((((q2432.keep K2420 (ninS ne2408 nin0)).keep K2463 (ninS ne2408 (ninS ne2433 (ninS ne2444 (ninS ne2454 nin0))))).keep K2469 (ninS (Ne.symm n22377) (ninS (Ne.symm n32377) nin0))).keep K2484 (ninS ne2408 (ninS ne2433 (ninS ne2444 (ninS ne2454 nin0)))))
  refine W.callV (rest := []) (argsL := [(.ref o2396), (.int (0 : Int32))]) (a := o2358) 288 at_285 rfl (fun hn => c_kp_0 l Z a0 hw o2358 o2396 bt2377 bd2420 bo2420 bf2377 r2.2.2.1 r2.1 [(own_exp (own_A10 p0) s2 (0 : Int32)), (own_exp (own_A10 p0) s2 (1 : Int32)), (own_exp (own_A10 p0) s2 (2 : Int32))] r2.2.2.2 vx2469 (0 : Int32) (0 : Int32) (0 : Int32) _ n0 hn g22377 n22377 (Ne.symm ne2408) (Ne.symm ne2433) (Ne.symm ne2454) ne2411 ne2436 ne2456 ge2358 q2485 q2486 q2487 q2488 E2484 Fc2484 F42484 F22484 A32484 A12484 q2489 hk2) q2485 (wd_99 hw) (wd_100 hw) (wd_102 hw) rfl (wd_101 hw) (wd_37 hw) (wd_103 hw) (by decide) pd_14 rfl rfl rfl (by decide) 0 (Nat.le_of_ble_eq_true rfl) (by decide) (by decide) (by decide) ?_
  rintro v2490 h2490 ⟨rfl, K2490, E2490, ⟨vx2490, F02490⟩, F12490, F22490, A2490⟩
  show WG _ _ _ _ _ _ _ _ _ _ _ _ 13 52 288 #[.val (.int p0), .val (.int p1), .val (.int p2), .val (.int p3), .val (.int (1 : Int32)), .val (.int (1 : Int32)), .val (.int s1), .val (.int s2), .val (.ref b2286), .val (.ref b2287), .val (.ref b2301), .val (.ref b2305), .val (.ref o2323), .val (.ref o2358), .val (.ref o2396), .unset, .unset] []
  refine W.aload 290 at_288 rfl rfl rfl ?_
  refine W.iload 292 at_290 rfl rfl ?_
  refine W.callV (rest := []) (argsL := [(.int (1 : Int32))]) (a := o2358) 295 at_292 rfl (fun hn => c_di1 l Z a0 hw o2358 bf2377 _ n0 hn F22490) E2490 (wd_130 hw) (wd_131 hw) (wd_133 hw) rfl (wd_132 hw) (wd_37 hw) (wd_134 hw) (by decide) pd_15 rfl rfl rfl (by decide) 0 (Nat.le_of_ble_eq_true rfl) (by decide) (by decide) (by decide) ?_
  rintro v2491 h2491 ⟨rfl, rfl⟩
  show WG _ _ _ _ _ _ _ _ _ _ _ _ 13 52 295 #[.val (.int p0), .val (.int p1), .val (.int p2), .val (.int p3), .val (.int (1 : Int32)), .val (.int (1 : Int32)), .val (.int s1), .val (.int s2), .val (.ref b2286), .val (.ref b2287), .val (.ref b2301), .val (.ref b2305), .val (.ref o2323), .val (.ref o2358), .val (.ref o2396), .unset, .unset] [(.ref bf2377)]
  refine W.astore 297 at_295 rfl rfl #[.val (.int p0), .val (.int p1), .val (.int p2), .val (.int p3), .val (.int (1 : Int32)), .val (.int (1 : Int32)), .val (.int s1), .val (.int s2), .val (.ref b2286), .val (.ref b2287), .val (.ref b2301), .val (.ref b2305), .val (.ref o2323), .val (.ref o2358), .val (.ref o2396), .val (.ref bf2377), .unset] rfl ?_
  refine W.aload 299 at_297 rfl rfl rfl ?_
  refine W.iload 301 at_299 rfl rfl ?_
  refine W.if_ne 308 304 at_301 rfl rfl (fun _ => ?_) (fun hc => absurd hc (by decide))
  refine W.iconst 309 at_308 rfl (0 : Int32) rfl ?_
  refine W.callV (rest := []) (argsL := [(.int (0 : Int32))]) (a := o2358) 312 at_309 rfl (fun hn => c_di0 l Z a0 hw o2358 bt2377 _ n0 hn F12490) E2490 (wd_130 hw) (wd_131 hw) (wd_133 hw) rfl (wd_132 hw) (wd_37 hw) (wd_134 hw) (by decide) pd_15 rfl rfl rfl (by decide) 0 (Nat.le_of_ble_eq_true rfl) (by decide) (by decide) (by decide) ?_
  rintro v2492 h2492 ⟨rfl, rfl⟩
  show WG _ _ _ _ _ _ _ _ _ _ _ _ 13 52 312 #[.val (.int p0), .val (.int p1), .val (.int p2), .val (.int p3), .val (.int (1 : Int32)), .val (.int (1 : Int32)), .val (.int s1), .val (.int s2), .val (.ref b2286), .val (.ref b2287), .val (.ref b2301), .val (.ref b2305), .val (.ref o2323), .val (.ref o2358), .val (.ref o2396), .val (.ref bf2377), .unset] [(.ref bt2377)]
  refine W.astore 314 at_312 rfl rfl #[.val (.int p0), .val (.int p1), .val (.int p2), .val (.int p3), .val (.int (1 : Int32)), .val (.int (1 : Int32)), .val (.int s1), .val (.int s2), .val (.ref b2286), .val (.ref b2287), .val (.ref b2301), .val (.ref b2305), .val (.ref o2323), .val (.ref o2358), .val (.ref o2396), .val (.ref bf2377), .val (.ref bt2377)] rfl ?_
  refine W.aload 316 at_314 rfl rfl rfl ?_
  refine W.ifnull_ref 319 at_316 rfl ?_
  refine W.aload 321 at_319 rfl rfl rfl ?_
  refine W.ifnull_ref 324 at_321 rfl ?_
  refine W.aload 326 at_324 rfl rfl rfl ?_
  have q2493 := (((show Ary _ _ _ .int [(.int (own_exp (own_A11 p0) s1 (0 : Int32))), (.int (own_exp (own_A11 p0) s1 (1 : Int32))), (.int (own_exp (own_A11 p0) s1 (2 : Int32)))] from A2469).keep K2484 (ninS ne2407 (ninS ne2431 (ninS ne2443 (ninS ne2453 nin0))))).keep K2490 (ninS (Ne.symm n12377) (ninS n32377 nin0)))
  refine W.arraylength 327 at_326 rfl q2493 (3 : Int32) rfl ?_
  refine W.iconst 328 at_327 rfl (3 : Int32) rfl ?_
  refine W.icmp_ne 338 331 at_328 rfl rfl (fun hc => absurd (by decide) hc) (fun _ => ?_)
  refine W.aload 333 at_331 rfl rfl rfl ?_
  refine W.arraylength 334 at_333 rfl (show Ary _ _ _ .int [(.int (own_exp (own_A10 p0) s2 (0 : Int32))), (.int (own_exp (own_A10 p0) s2 (1 : Int32))), (.int (own_exp (own_A10 p0) s2 (2 : Int32)))] from A2490) (3 : Int32) rfl ?_
  refine W.iconst 335 at_334 rfl (3 : Int32) rfl ?_
  refine W.icmp_eq 340 338 at_335 rfl rfl (fun _ => ?_) (fun hc => absurd (by decide) hc)
  refine W.iload 342 at_340 rfl rfl ?_
  refine W.if_eq 394 345 at_342 rfl rfl (fun hc => absurd hc (by decide)) (fun _ => ?_)
  refine W.aload 347 at_345 rfl rfl rfl ?_
  refine W.aload 349 at_347 rfl rfl rfl ?_
  refine W.acmp_eq 392 352 at_349 rfl rfl rfl rfl (fun hc => absurd hc (fun q => n32377 (Value.ref.inj q))) (fun _ => ?_)
  refine W.aload 354 at_352 rfl rfl rfl ?_
  refine W.iloadN 355 at_354 rfl rfl ?_
  refine W.iconst 356 at_355 rfl (1 : Int32) rfl ?_
  refine W.iload 358 at_356 rfl rfl ?_
  refine W.iload 360 at_358 rfl rfl ?_
  refine W.callS (rest := []) (argsL := [(.ref bf2377), (.int p0), (.int (1 : Int32)), (.int (1 : Int32)), (.int s1)]) 363 at_360 rfl (fun hn => c_mt11 l Z a0 hw bf2377 p0 s1 _ n0 hn hs1 q2493) (wd_135 hw) (wd_136 hw) (wd_4 hw) (wd_137 hw) (by decide) pd_16 rfl rfl rfl (by decide) 0 (Nat.le_of_ble_eq_true rfl) (by decide) (by decide) (by decide) ?_
  rintro v2494 h2494 ⟨rfl, rfl⟩
  show WG _ _ _ _ _ _ _ _ _ _ _ _ 13 52 363 #[.val (.int p0), .val (.int p1), .val (.int p2), .val (.int p3), .val (.int (1 : Int32)), .val (.int (1 : Int32)), .val (.int s1), .val (.int s2), .val (.ref b2286), .val (.ref b2287), .val (.ref b2301), .val (.ref b2305), .val (.ref o2323), .val (.ref o2358), .val (.ref o2396), .val (.ref bf2377), .val (.ref bt2377)] [(.int (1 : Int32))]
  refine W.if_eq 392 366 at_363 rfl rfl (fun hc => absurd hc (by decide)) (fun _ => ?_)
  refine W.aload 368 at_366 rfl rfl rfl ?_
  refine W.iloadN 369 at_368 rfl rfl ?_
  refine W.iconst 370 at_369 rfl (1 : Int32) rfl ?_
  refine W.iload 372 at_370 rfl rfl ?_
  refine W.if_ne 379 375 at_372 rfl rfl (fun _ => ?_) (fun hc => absurd hc (by decide))
  refine W.iconst 380 at_379 rfl (0 : Int32) rfl ?_
  refine W.iload 382 at_380 rfl rfl ?_
  refine W.callS (rest := []) (argsL := [(.ref bt2377), (.int p0), (.int (1 : Int32)), (.int (0 : Int32)), (.int s2)]) 385 at_382 rfl (fun hn => c_mt10 l Z a0 hw bt2377 p0 s2 _ n0 hn hs2 (show Ary _ _ _ .int [(.int (own_exp (own_A10 p0) s2 (0 : Int32))), (.int (own_exp (own_A10 p0) s2 (1 : Int32))), (.int (own_exp (own_A10 p0) s2 (2 : Int32)))] from A2490)) (wd_135 hw) (wd_136 hw) (wd_4 hw) (wd_137 hw) (by decide) pd_16 rfl rfl rfl (by decide) 0 (Nat.le_of_ble_eq_true rfl) (by decide) (by decide) (by decide) ?_
  rintro v2495 h2495 ⟨rfl, rfl⟩
  show WG _ _ _ _ _ _ _ _ _ _ _ _ 13 52 385 #[.val (.int p0), .val (.int p1), .val (.int p2), .val (.int p3), .val (.int (1 : Int32)), .val (.int (1 : Int32)), .val (.int s1), .val (.int s2), .val (.ref b2286), .val (.ref b2287), .val (.ref b2301), .val (.ref b2305), .val (.ref o2323), .val (.ref o2358), .val (.ref o2396), .val (.ref bf2377), .val (.ref bt2377)] [(.int (1 : Int32))]
  refine W.if_eq 392 388 at_385 rfl rfl (fun hc => absurd hc (by decide)) (fun _ => ?_)
  refine W.iconst 389 at_388 rfl (1 : Int32) rfl ?_
  refine W.goto 393 at_389 rfl ?_
  exact W.ireturnN (t := .boolean) at_393 rfl (by simp) (1 : Int32) rfl rfl (by decide) (by decide)
theorem own_mod3 (x : Int32) : ∃ j : Fin 3, (x &&& 2147483647) % 3 = j.1.toInt32 := by
  have h1 := c_mask x 2147483647 31 (by decide) (by decide)
  have h2 := (c_irem (x &&& 2147483647) 3 3 rfl).1 (by omega)
  have : (x &&& 2147483647) % 3 = 0 ∨ (x &&& 2147483647) % 3 = 1 ∨ (x &&& 2147483647) % 3 = 2 := by
    have e0 : (0 : Int32).toInt = 0 := rfl
    have e1 : (1 : Int32).toInt = 1 := rfl
    have e2 : (2 : Int32).toInt = 2 := rfl
    simp only [← Int32.toInt_inj]
    omega
  rcases this with q | q | q
  · exact ⟨0, q⟩
  · exact ⟨1, q⟩
  · exact ⟨2, q⟩
theorem own_j3 (j : Fin 3) : j.1.toInt32 = 0 ∨ j.1.toInt32 = 1 ∨ j.1.toInt32 = 2 := by revert j; decide
theorem own_and2 (x : Int32) : x &&& 2 = 0 ∨ x &&& 2 = 2 := by
  have h1 := c_mask x 3 2 (by decide) (by decide)
  have h : x &&& 3 = 0 ∨ x &&& 3 = 1 ∨ x &&& 3 = 2 ∨ x &&& 3 = 3 := by
    have e0 : (0 : Int32).toInt = 0 := rfl
    have e1 : (1 : Int32).toInt = 1 := rfl
    have e2 : (2 : Int32).toInt = 2 := rfl
    have e3 : (3 : Int32).toInt = 3 := rfl
    simp only [← Int32.toInt_inj]
    omega
  have e : x &&& 2 = (x &&& 3) &&& 2 := by rw [Int32.and_assoc]; rfl
  rw [e]
  rcases h with h | h | h | h <;> rw [h] <;> decide
theorem law_ok (l : Launch) (Z : State) (a0 : Array Value) (hw : HwT Z a0) (p0 p1 p2 p3 : Int32) (h : Heap) (n0 : Nat) (hn : n0 ≤ h.size) : ConW tables_1 l Z x code maxLocals ret room_1 #[(.int p0), (.int p1), (.int p2), (.int p3)] h n0 (fun r _ => r = some (.int 1)) := by
  obtain ⟨j1, hj1⟩ := own_mod3 p1
  obtain ⟨j2, hj2⟩ := own_mod3 p2
  rcases and_one p3 with hd | hd <;> rcases own_and2 p3 with hf | hf
  · obtain ⟨b1, hb1⟩ := own_h_bi p0 (1 : Int32)
    obtain ⟨b2, hb2⟩ := own_h_bi p0 (2 : Int32)
    obtain ⟨b5, hb5⟩ := own_h_bi p0 (5 : Int32)
    have hOK := own_T1 b1 b2 b1 b5 b2 b5 j1 j2
    rw [← hb1, ← hb2, ← hb5] at hOK
    obtain ⟨x0, q0, x1, q1, x2, q2, y0, w0, y1, w1, y2, w2, r1, r2, ⟨hx0, hx1, hx2⟩, ⟨hy0, hy1, hy2⟩, hr1, hk1, hr2, hk2⟩ := own_OK_ex hOK
    cases hx0.symm.trans hy0
    cases hx1.symm.trans hy1
    cases hx2.symm.trans hy2
    exact law_00 l Z a0 hw p0 p1 p2 p3 _ _ x0 x1 x2 q0 q1 q2 r1 r2 h n0 hn hd hf hj1 hj2 (own_j3 j1) (own_j3 j2) hx0 hx1 hx2 hr1 hk1 hr2 hk2
  · obtain ⟨b1, hb1⟩ := own_h_bi p0 (1 : Int32)
    obtain ⟨b2, hb2⟩ := own_h_bi p0 (2 : Int32)
    obtain ⟨b5, hb5⟩ := own_h_bi p0 (5 : Int32)
    have hOK := own_T1 b1 b2 b1 b5 b2 b5 j1 j2
    rw [← hb1, ← hb2, ← hb5] at hOK
    obtain ⟨x0, q0, x1, q1, x2, q2, y0, w0, y1, w1, y2, w2, r1, r2, ⟨hx0, hx1, hx2⟩, ⟨hy0, hy1, hy2⟩, hr1, hk1, hr2, hk2⟩ := own_OK_ex hOK
    cases hx0.symm.trans hy0
    cases hx1.symm.trans hy1
    cases hx2.symm.trans hy2
    exact law_01 l Z a0 hw p0 p1 p2 p3 _ _ x0 x1 x2 q0 q1 q2 r1 r2 h n0 hn hd hf hj1 hj2 (own_j3 j1) (own_j3 j2) hx0 hx1 hx2 hr1 hk1 hr2 hk2
  · obtain ⟨b1, hb1⟩ := own_h_bi p0 (1 : Int32)
    obtain ⟨b2, hb2⟩ := own_h_bi p0 (2 : Int32)
    obtain ⟨b3, hb3⟩ := own_h_bi p0 (3 : Int32)
    obtain ⟨b5, hb5⟩ := own_h_bi p0 (5 : Int32)
    obtain ⟨b6, hb6⟩ := own_h_bi p0 (6 : Int32)
    obtain ⟨b7, hb7⟩ := own_h_bi p0 (7 : Int32)
    have hOK := own_T1 b3 b6 b1 b7 b2 b5 j1 j2
    rw [← hb1, ← hb2, ← hb3, ← hb5, ← hb6, ← hb7] at hOK
    obtain ⟨x0, q0, x1, q1, x2, q2, y0, w0, y1, w1, y2, w2, r1, r2, ⟨hx0, hx1, hx2⟩, ⟨hy0, hy1, hy2⟩, hr1, hk1, hr2, hk2⟩ := own_OK_ex hOK
    exact law_10 l Z a0 hw p0 p1 p2 p3 _ _ x0 x1 x2 y0 y1 y2 q0 q1 q2 w0 w1 w2 r1 r2 h n0 hn hd hf hj1 hj2 (own_j3 j1) (own_j3 j2) hx0 hx1 hx2 hy0 hy1 hy2 hr1 hk1 hr2 hk2
  · obtain ⟨b1, hb1⟩ := own_h_bi p0 (1 : Int32)
    obtain ⟨b2, hb2⟩ := own_h_bi p0 (2 : Int32)
    obtain ⟨b3, hb3⟩ := own_h_bi p0 (3 : Int32)
    obtain ⟨b5, hb5⟩ := own_h_bi p0 (5 : Int32)
    obtain ⟨b6, hb6⟩ := own_h_bi p0 (6 : Int32)
    obtain ⟨b7, hb7⟩ := own_h_bi p0 (7 : Int32)
    have hOK := own_T1 b1 b2 b3 b5 b6 b7 j1 j2
    rw [← hb1, ← hb2, ← hb3, ← hb5, ← hb6, ← hb7] at hOK
    obtain ⟨x0, q0, x1, q1, x2, q2, y0, w0, y1, w1, y2, w2, r1, r2, ⟨hx0, hx1, hx2⟩, ⟨hy0, hy1, hy2⟩, hr1, hk1, hr2, hk2⟩ := own_OK_ex hOK
    exact law_11 l Z a0 hw p0 p1 p2 p3 _ _ x0 x1 x2 y0 y1 y2 q0 q1 q2 w0 w1 w2 r1 r2 h n0 hn hd hf hj1 hj2 (own_j3 j1) (own_j3 j2) hx0 hx1 hx2 hy0 hy1 hy2 hr1 hk1 hr2 hk2
theorem comes_1 {Post : Tables → Env → Array Value → State → Outcome → State → Prop} (hpost : ∀ tb e args s v u, (limb_1_1.after args s (.returned v) u = true ∧ limb_1_2.after args s (.returned v) u = true ∧ True) → FrameEnd s (.returned v) u (Jvm.fieldLocs frame_1_writes args s ++ Jvm.arrayLocs frame_1_arrays args s ++ Jvm.staticLocs frame_1_statics s) 40 192 → Post tb e args s (.returned v) u) :
    ArmFor flags0 classFile x code maxLocals ret World_1 tables_1 room_1 Calls_1 rest_1 Pre_1 Post := by
  intro l hfl _ _ p e ha hc hk s m args below hf hA hF happ hP
  obtain ⟨hcalls, hrest, hpre⟩ := hP
  obtain ⟨-, -, -, hnamed, -, -, -, hat⟩ := (Spec.applies_iff hf).mp happ
  obtain ⟨hg, hn⟩ := and_e (Cond.before_iff.mp (show (Jvm.Cond.and given_1 narrow_1).before args s = true from hpre))
  obtain ⟨hcnt, hg1⟩ := and_e hg
  obtain ⟨k0, hh0⟩ := and_e hg1
  obtain ⟨k1, hh1⟩ := and_e hh0
  obtain ⟨k2, hh2⟩ := and_e hh1
  have k3 := hh2
  obtain ⟨w0, w1, w2, w3, rfl⟩ : ∃ w0 w1 w2 w3 : Value, args = #[w0, w1, w2, w3] := by
    have hs : args.size = 4 := by simpa [Cond.value, given_1] using hcnt
    obtain ⟨L⟩ := args
    match L, hs with
    | [w0, w1, w2, w3], _ => exact ⟨w0, w1, w2, w3, rfl⟩
  have hw := fun d (hd : d ∈ tables_1) => atoms_spec (ws := Jvm.Cond.code x code maxLocals ret :: tables_1) hat d (List.mem_cons_of_mem _ hd)
  have hfit : Fit s := fun {y c} hc i hi => by
    obtain ⟨ha, rfl⟩ := Array.getElem?_eq_some_iff.mp hc
    have q := List.all_eq_true.mp ((Array.all_eq_true_iff_forall_mem.mp hF) _ (Array.getElem_mem ha)) i (List.mem_range.mpr hi)
    simpa [Array.getElem?_eq_getElem hi] using q
  obtain ⟨i0, ei0⟩ := is_v k0
  obtain rfl : w0 = (.int i0) := Option.some.inj ei0
  obtain ⟨i1, ei1⟩ := is_v k1
  obtain rfl : w1 = (.int i1) := Option.some.inj ei1
  obtain ⟨i2, ei2⟩ := is_v k2
  obtain rfl : w2 = (.int i2) := Option.some.inj ei2
  obtain ⟨i3, ei3⟩ := is_v k3
  obtain rfl : w3 = (.int i3) := Option.some.inj ei3
  obtain ⟨n, o, h1, h2, h3, _, L, rfl, ⟨rfl, N⟩, hq⟩ := law_ok l s _ hw i0 i1 i2 i3 s.heap s.heap.size (Nat.le_refl _) p e ha hc hk s m _ below hf ((Spec.applies_iff_loose hf).mp happ).1 ⟨rfl, State.Warmed39.refl s, rfl⟩ trivial
  refine ⟨n, _, h1, h2, h3, hpost _ _ _ _ _ _ ⟨Cond.after_iff.mpr rfl, Cond.after_iff.mpr (eq_i res_at (Term.int_eval (1)) rfl), trivial⟩ ⟨hq.1, hq.2.1, (hq.2.2.sift fun y hy => Or.inr (N y hy)).mono (by decide) (by decide)⟩⟩
theorem main_1_1 : Claimed_1_1 := comes_1 fun _ _ _ _ _ _ h hF => ⟨h.1, hF⟩
theorem main_1_2 : Claimed_1_2 := comes_1 fun _ _ _ _ _ _ h hF => ⟨h.2.1, hF⟩
end Jvm.Pilot.@@N@@
namespace Jvm.Pilot.@@N@@
open Jvm Jvm.ClassFile Sem Op Lib Jvm.Free Jvm.Stand Jvm.Pilot.@@N@@.Jvm.D
/-! MADE BY PROGRAM (witnessworld.py) out of the Statement's table words and the real class files: 15 classes; the members and pool entries that the words name. The judged class is class 1, her method 1. -/
namespace start1
open Jvm.ClassFile
def u (s : String) : CpInfo := .utf8 (stringToUtf16 s)
/-- a pool by its gaps: so many unusable entries, then the entry; so many at the end -/
def gap : Nat → List CpInfo → List CpInfo
  | 0, r => r
  | n + 1, r => .unusable :: gap n r
def poolList (es : List (Nat × CpInfo)) (last : Nat) : List CpInfo := es.foldr (fun e r => gap e.1 (e.2 :: r)) (gap last [])
def pool (es : List (Nat × CpInfo)) (last : Nat) : Array CpInfo := ⟨poolList es last⟩
def fileOf (pool : Array CpInfo) (this : Nat) (attrs : Array Attribute := #[]) (ms : Array MethodInfo := #[]) (fl : Nat := 33) (sup : Nat := 0) (ifs : Array Nat := #[]) (fds : Array FieldInfo := #[]) : ClassFile where
  minorVersion := 0
  majorVersion := 65
  constantPool := pool
  accessFlags := fl
  thisClass := this
  superClass := sup
  interfaces := ifs
  fields := fds
  methods := ms
  attributes := attrs
def plain (name : String) (sup : Option ClassId) : Class where
  name := name
  kind := .ordinary
  loader := none
  accessFlags := 33
  super := sup
  interfaces := #[]
  cf := none
  fields := #[]
  methods := #[]
  instanceTypes := #[]
  staticTypes := #[]
  resolved := #[]
  callSites := []
  init := .initialized
  statics := none
  mirror := none

def pool0 : Array CpInfo := pool [(5, u "<init>"), (0, u "()V"), (1, .class_ 10), (1, u "java/lang/Object")] 113

def k0c0 : Code := { maxStack := 0, maxLocals := 1, code := object_method_1_code, exceptionTable := #[], attributes := #[] }
def k0m0 : Method := { name := "<init>", desc := "()V", sig := { parameters := [], returnType := none }, accessFlags := 1, code := some k0c0 }
/-- java/lang/Object -/
def k0 : Class := { plain "java/lang/Object" none with
  accessFlags := 33
  interfaces := #[]
  cf := some (fileOf pool0 8 #[] #[{ accessFlags := 1, nameIndex := 5, descriptorIndex := 6, attributes := #[] }] 33 0 #[] #[])
  fields := #[]
  methods := #[k0m0]
  instanceTypes := #[]
  staticTypes := #[]
  resolved := Array.replicate 124 none
  statics := none }

def pool1 : Array CpInfo := pool [(2, .class_ 4), (1, u "java/lang/Object"), (0, u "<init>"), (0, u "()V"), (0, .integer 2147483647), (0, .methodref 9 10), (0, .class_ 11), (0, .nameAndType 12 13), (0, u "com/example/eccentra/eccentra/MainVertexDistancesPinLaw"), (0, u "fill"), (0, u "(IZZI[II)I"), (0, .class_ 15), (0, u "com/example/eccentra/eccentra/Graph"), (0, .long 2), (1, .methodref 14 19), (0, .nameAndType 5 20), (0, u "([JZ[I[I[I[I)V"), (0, .class_ 22), (0, u "com/example/eccentra/eccentra/MainVertex"), (0, .methodref 21 24), (0, .nameAndType 5 25), (0, u "(Lcom/example/eccentra/eccentra/Graph;)V"), (0, .class_ 27), (0, u "com/example/eccentra/eccentra/BreadthFirst"), (0, .methodref 26 24), (0, .methodref 26 30), (0, .nameAndType 31 32), (0, u "search"), (0, u "(IZ)I"), (0, .methodref 21 34), (0, .nameAndType 35 36), (0, u "keep"), (0, u "(Lcom/example/eccentra/eccentra/BreadthFirst;Z)V"), (0, .methodref 21 38), (0, .nameAndType 39 40), (0, u "distances"), (0, u "(Z)[I"), (0, .methodref 9 42), (0, .nameAndType 43 44), (0, u "matches"), (0, u "([IIZZI)Z"), (0, .methodref 46 47), (0, .class_ 48), (0, .nameAndType 49 50), (0, u "java/lang/Math"), (0, u "min"), (0, u "(II)I"), (0, .methodref 46 52), (0, .nameAndType 53 50), (0, u "max"), (0, .methodref 9 55), (0, .nameAndType 56 57), (0, u "has"), (0, u "(IZII)Z"), (0, .methodref 9 59), (0, .nameAndType 60 61), (0, u "put"), (0, u "(IZZII[II)I"), (0, .methodref 9 63), (0, .nameAndType 64 65), (0, u "step"), (0, u "(IZZII)Z"), (0, .methodref 9 67), (0, .nameAndType 68 69), (0, u "expected"), (0, u "(IZZII)I"), (2, u "law"), (0, u "(IIII)Z")] 5

def k1m0 : Method := { name := "<init>", desc := "()V", sig := { parameters := [], returnType := none }, accessFlags := 1, code := none }
def k1c1 : Code := { maxStack := 9, maxLocals := 17, code := code, exceptionTable := #[], attributes := #[] }
def k1m1 : Method := { name := "law", desc := "(IIII)Z", sig := { parameters := [.int, .int, .int, .int], returnType := some .boolean }, accessFlags := 9, code := some k1c1 }
def k1c2 : Code := { maxStack := 3, maxLocals := 5, code := method_3_code, exceptionTable := #[], attributes := #[] }
def k1m2 : Method := { name := "has", desc := "(IZII)Z", sig := { parameters := [.int, .boolean, .int, .int], returnType := some .boolean }, accessFlags := 10, code := some k1c2 }
def k1c3 : Code := { maxStack := 4, maxLocals := 7, code := method_4_code, exceptionTable := #[], attributes := #[] }
def k1m3 : Method := { name := "put", desc := "(IZZII[II)I", sig := { parameters := [.int, .boolean, .boolean, .int, .int, (.array .int), .int], returnType := some .int }, accessFlags := 10, code := some k1c3 }
def k1c4 : Code := { maxStack := 7, maxLocals := 7, code := method_5_code, exceptionTable := #[], attributes := #[] }
def k1m4 : Method := { name := "fill", desc := "(IZZI[II)I", sig := { parameters := [.int, .boolean, .boolean, .int, (.array .int), .int], returnType := some .int }, accessFlags := 10, code := some k1c4 }
def k1c5 : Code := { maxStack := 4, maxLocals := 5, code := method_6_code, exceptionTable := #[], attributes := #[] }
def k1m5 : Method := { name := "step", desc := "(IZZII)Z", sig := { parameters := [.int, .boolean, .boolean, .int, .int], returnType := some .boolean }, accessFlags := 10, code := some k1c5 }
def k1c6 : Code := { maxStack := 5, maxLocals := 6, code := method_7_code, exceptionTable := #[], attributes := #[] }
def k1m6 : Method := { name := "expected", desc := "(IZZII)I", sig := { parameters := [.int, .boolean, .boolean, .int, .int], returnType := some .int }, accessFlags := 10, code := some k1c6 }
def k1c7 : Code := { maxStack := 6, maxLocals := 5, code := method_8_code, exceptionTable := #[], attributes := #[] }
def k1m7 : Method := { name := "matches", desc := "([IIZZI)Z", sig := { parameters := [(.array .int), .int, .boolean, .boolean, .int], returnType := some .boolean }, accessFlags := 10, code := some k1c7 }
/-- com/example/eccentra/eccentra/MainVertexDistancesPinLaw -/
def k1 : Class := { plain "com/example/eccentra/eccentra/MainVertexDistancesPinLaw" (some 0) with
  accessFlags := 49
  interfaces := #[]
  cf := some (fileOf pool1 9 #[] #[{ accessFlags := 1, nameIndex := 5, descriptorIndex := 6, attributes := #[] }, { accessFlags := 9, nameIndex := 72, descriptorIndex := 73, attributes := #[] }, { accessFlags := 10, nameIndex := 56, descriptorIndex := 57, attributes := #[] }, { accessFlags := 10, nameIndex := 60, descriptorIndex := 61, attributes := #[] }, { accessFlags := 10, nameIndex := 12, descriptorIndex := 13, attributes := #[] }, { accessFlags := 10, nameIndex := 64, descriptorIndex := 65, attributes := #[] }, { accessFlags := 10, nameIndex := 68, descriptorIndex := 69, attributes := #[] }, { accessFlags := 10, nameIndex := 43, descriptorIndex := 44, attributes := #[] }] 49 2 #[] #[])
  fields := #[]
  methods := #[k1m0, k1m1, k1m2, k1m3, k1m4, k1m5, k1m6, k1m7]
  instanceTypes := #[]
  staticTypes := #[]
  resolved := Array.replicate 79 none
  statics := none }

def pool2 : Array CpInfo := pool [(1, .methodref 2 3), (0, .class_ 4), (0, .nameAndType 5 6), (0, u "java/lang/Object"), (0, u "<init>"), (0, u "()V"), (0, .fieldref 8 9), (0, .class_ 10), (0, .nameAndType 11 12), (0, u "com/example/eccentra/eccentra/Graph"), (0, u "labels"), (0, u "[J"), (0, .fieldref 8 14), (0, .nameAndType 15 16), (0, u "directed"), (0, u "Z"), (0, .fieldref 8 18), (0, .nameAndType 19 20), (0, u "outOffsets"), (0, u "[I"), (0, .fieldref 8 22), (0, .nameAndType 23 20), (0, u "outTargets"), (0, .fieldref 8 25), (0, .nameAndType 26 20), (0, u "inOffsets"), (0, .fieldref 8 28), (0, .nameAndType 29 20), (0, u "inSources"), (27, u "([JZ[I[I[I[I)V"), (0, u "DROPPED"), (0, u "I"), (4, u "vertexCount"), (0, u "()I"), (0, u "isDirected"), (0, u "()Z"), (8, u "outBegin"), (0, u "(I)I"), (0, u "outEnd"), (0, u "outTarget"), (0, u "inBegin"), (0, u "inEnd"), (0, u "inSource")] 20

def k2c0 : Code := { maxStack := 2, maxLocals := 7, code := prog_7_method_1_code, exceptionTable := #[], attributes := #[] }
def k2m0 : Method := { name := "<init>", desc := "([JZ[I[I[I[I)V", sig := { parameters := [(.array .long), .boolean, (.array .int), (.array .int), (.array .int), (.array .int)], returnType := none }, accessFlags := 0, code := some k2c0 }
def k2c1 : Code := { maxStack := 1, maxLocals := 1, code := prog_7_method_2_code, exceptionTable := #[], attributes := #[] }
def k2m1 : Method := { name := "vertexCount", desc := "()I", sig := { parameters := [], returnType := some .int }, accessFlags := 1, code := some k2c1 }
def k2c2 : Code := { maxStack := 1, maxLocals := 1, code := prog_7_method_3_code, exceptionTable := #[], attributes := #[] }
def k2m2 : Method := { name := "isDirected", desc := "()Z", sig := { parameters := [], returnType := some .boolean }, accessFlags := 1, code := some k2c2 }
def k2c3 : Code := { maxStack := 2, maxLocals := 2, code := prog_7_method_9_code, exceptionTable := #[], attributes := #[] }
def k2m3 : Method := { name := "outBegin", desc := "(I)I", sig := { parameters := [.int], returnType := some .int }, accessFlags := 0, code := some k2c3 }
def k2c4 : Code := { maxStack := 3, maxLocals := 2, code := prog_7_method_10_code, exceptionTable := #[], attributes := #[] }
def k2m4 : Method := { name := "outEnd", desc := "(I)I", sig := { parameters := [.int], returnType := some .int }, accessFlags := 0, code := some k2c4 }
def k2c5 : Code := { maxStack := 2, maxLocals := 2, code := prog_7_method_11_code, exceptionTable := #[], attributes := #[] }
def k2m5 : Method := { name := "outTarget", desc := "(I)I", sig := { parameters := [.int], returnType := some .int }, accessFlags := 0, code := some k2c5 }
def k2c6 : Code := { maxStack := 2, maxLocals := 2, code := prog_7_method_12_code, exceptionTable := #[], attributes := #[] }
def k2m6 : Method := { name := "inBegin", desc := "(I)I", sig := { parameters := [.int], returnType := some .int }, accessFlags := 0, code := some k2c6 }
def k2c7 : Code := { maxStack := 3, maxLocals := 2, code := prog_7_method_13_code, exceptionTable := #[], attributes := #[] }
def k2m7 : Method := { name := "inEnd", desc := "(I)I", sig := { parameters := [.int], returnType := some .int }, accessFlags := 0, code := some k2c7 }
def k2c8 : Code := { maxStack := 2, maxLocals := 2, code := prog_7_method_14_code, exceptionTable := #[], attributes := #[] }
def k2m8 : Method := { name := "inSource", desc := "(I)I", sig := { parameters := [.int], returnType := some .int }, accessFlags := 0, code := some k2c8 }
/-- com/example/eccentra/eccentra/Graph -/
def k2 : Class := { plain "com/example/eccentra/eccentra/Graph" (some 0) with
  accessFlags := 49
  interfaces := #[]
  cf := some (fileOf pool2 8 #[] #[{ accessFlags := 0, nameIndex := 5, descriptorIndex := 57, attributes := #[] }, { accessFlags := 1, nameIndex := 64, descriptorIndex := 65, attributes := #[] }, { accessFlags := 1, nameIndex := 66, descriptorIndex := 67, attributes := #[] }, { accessFlags := 0, nameIndex := 76, descriptorIndex := 77, attributes := #[] }, { accessFlags := 0, nameIndex := 78, descriptorIndex := 77, attributes := #[] }, { accessFlags := 0, nameIndex := 79, descriptorIndex := 77, attributes := #[] }, { accessFlags := 0, nameIndex := 80, descriptorIndex := 77, attributes := #[] }, { accessFlags := 0, nameIndex := 81, descriptorIndex := 77, attributes := #[] }, { accessFlags := 0, nameIndex := 82, descriptorIndex := 77, attributes := #[] }] 49 2 #[] #[{ accessFlags := 26, nameIndex := 58, descriptorIndex := 59, attributes := #[] }, { accessFlags := 18, nameIndex := 11, descriptorIndex := 12, attributes := #[] }, { accessFlags := 18, nameIndex := 15, descriptorIndex := 16, attributes := #[] }, { accessFlags := 18, nameIndex := 19, descriptorIndex := 20, attributes := #[] }, { accessFlags := 18, nameIndex := 23, descriptorIndex := 20, attributes := #[] }, { accessFlags := 18, nameIndex := 26, descriptorIndex := 20, attributes := #[] }, { accessFlags := 18, nameIndex := 29, descriptorIndex := 20, attributes := #[] }])
  fields := #[{ name := "DROPPED", type := .int, accessFlags := 26, slot := 0, constantValue := 0 }, { name := "labels", type := (.array .long), accessFlags := 18, slot := 0, constantValue := 0 }, { name := "directed", type := .boolean, accessFlags := 18, slot := 1, constantValue := 0 }, { name := "outOffsets", type := (.array .int), accessFlags := 18, slot := 2, constantValue := 0 }, { name := "outTargets", type := (.array .int), accessFlags := 18, slot := 3, constantValue := 0 }, { name := "inOffsets", type := (.array .int), accessFlags := 18, slot := 4, constantValue := 0 }, { name := "inSources", type := (.array .int), accessFlags := 18, slot := 5, constantValue := 0 }]
  methods := #[k2m0, k2m1, k2m2, k2m3, k2m4, k2m5, k2m6, k2m7, k2m8]
  instanceTypes := #[(.array .long), .boolean, (.array .int), (.array .int), (.array .int), (.array .int)]
  staticTypes := #[.int]
  resolved := Array.replicate 103 none
  statics := none }

def pool3 : Array CpInfo := pool [(1, .methodref 2 3), (0, .class_ 4), (0, .nameAndType 5 6), (0, u "java/lang/Object"), (0, u "<init>"), (0, u "()V"), (2, .fieldref 10 11), (0, .class_ 12), (0, .nameAndType 13 14), (0, u "com/example/eccentra/eccentra/MainVertex"), (0, u "vertex"), (0, u "I"), (0, .methodref 16 17), (0, .class_ 18), (0, .nameAndType 19 20), (0, u "com/example/eccentra/eccentra/Graph"), (0, u "vertexCount"), (0, u "()I"), (0, .fieldref 10 22), (0, .nameAndType 23 24), (0, u "from"), (0, u "[I"), (0, .methodref 16 26), (0, .nameAndType 27 28), (0, u "isDirected"), (0, u "()Z"), (0, .fieldref 10 30), (0, .nameAndType 31 24), (0, u "to"), (0, .methodref 33 34), (0, .class_ 35), (0, .nameAndType 36 37), (0, u "java/util/Arrays"), (0, u "fill"), (0, u "([II)V"), (0, .methodref 39 40), (0, .class_ 41), (0, .nameAndType 42 20), (0, u "com/example/eccentra/eccentra/BreadthFirst"), (0, u "reachedCount"), (0, .methodref 39 44), (0, .nameAndType 45 46), (0, u "reached"), (0, u "(I)I"), (0, .methodref 39 48), (0, .nameAndType 49 46), (0, u "distance"), (15, u "UNREACHED"), (2, u "(Lcom/example/eccentra/eccentra/Graph;)V"), (4, u "distances"), (0, u "(Z)[I"), (0, u "keep"), (0, u "(Lcom/example/eccentra/eccentra/BreadthFirst;Z)V")] 6

def k3c0 : Code := { maxStack := 2, maxLocals := 2, code := prog_19_method_1_code, exceptionTable := #[], attributes := #[] }
def k3m0 : Method := { name := "<init>", desc := "(Lcom/example/eccentra/eccentra/Graph;)V", sig := { parameters := [(.object "com/example/eccentra/eccentra/Graph")], returnType := none }, accessFlags := 0, code := some k3c0 }
def k3c1 : Code := { maxStack := 1, maxLocals := 2, code := prog_19_method_3_code, exceptionTable := #[], attributes := #[] }
def k3m1 : Method := { name := "distances", desc := "(Z)[I", sig := { parameters := [.boolean], returnType := some (.array .int) }, accessFlags := 0, code := some k3c1 }
def k3c2 : Code := { maxStack := 4, maxLocals := 6, code := prog_19_method_4_code, exceptionTable := #[], attributes := #[] }
def k3m2 : Method := { name := "keep", desc := "(Lcom/example/eccentra/eccentra/BreadthFirst;Z)V", sig := { parameters := [(.object "com/example/eccentra/eccentra/BreadthFirst"), .boolean], returnType := none }, accessFlags := 0, code := some k3c2 }
/-- com/example/eccentra/eccentra/MainVertex -/
def k3 : Class := { plain "com/example/eccentra/eccentra/MainVertex" (some 0) with
  accessFlags := 48
  interfaces := #[]
  cf := some (fileOf pool3 10 #[] #[{ accessFlags := 0, nameIndex := 5, descriptorIndex := 68, attributes := #[] }, { accessFlags := 0, nameIndex := 73, descriptorIndex := 74, attributes := #[] }, { accessFlags := 0, nameIndex := 75, descriptorIndex := 76, attributes := #[] }] 48 2 #[] #[{ accessFlags := 24, nameIndex := 65, descriptorIndex := 14, attributes := #[] }, { accessFlags := 2, nameIndex := 13, descriptorIndex := 14, attributes := #[] }, { accessFlags := 18, nameIndex := 23, descriptorIndex := 24, attributes := #[] }, { accessFlags := 18, nameIndex := 31, descriptorIndex := 24, attributes := #[] }])
  fields := #[{ name := "UNREACHED", type := .int, accessFlags := 24, slot := 0, constantValue := 0 }, { name := "vertex", type := .int, accessFlags := 2, slot := 0, constantValue := 0 }, { name := "from", type := (.array .int), accessFlags := 18, slot := 1, constantValue := 0 }, { name := "to", type := (.array .int), accessFlags := 18, slot := 2, constantValue := 0 }]
  methods := #[k3m0, k3m1, k3m2]
  instanceTypes := #[.int, (.array .int), (.array .int)]
  staticTypes := #[.int]
  resolved := Array.replicate 83 none
  statics := none }

def pool4 : Array CpInfo := pool [(1, .methodref 2 3), (0, .class_ 4), (0, .nameAndType 5 6), (0, u "java/lang/Object"), (0, u "<init>"), (0, u "()V"), (0, .fieldref 8 9), (0, .class_ 10), (0, .nameAndType 11 12), (0, u "com/example/eccentra/eccentra/BreadthFirst"), (0, u "graph"), (0, u "Lcom/example/eccentra/eccentra/Graph;"), (0, .methodref 14 15), (0, .class_ 16), (0, .nameAndType 17 18), (0, u "com/example/eccentra/eccentra/Graph"), (0, u "vertexCount"), (0, u "()I"), (0, .fieldref 8 20), (0, .nameAndType 21 22), (0, u "distance"), (0, u "[I"), (0, .methodref 24 25), (0, .class_ 26), (0, .nameAndType 27 28), (0, u "java/util/Arrays"), (0, u "fill"), (0, u "([II)V"), (0, .fieldref 8 30), (0, .nameAndType 31 22), (0, u "parent"), (0, .fieldref 8 33), (0, .nameAndType 34 22), (0, u "reachedOrder"), (0, .methodref 8 36), (0, .nameAndType 37 38), (0, u "search"), (0, u "(IZLcom/example/eccentra/eccentra/Components;)I"), (0, .fieldref 8 40), (0, .nameAndType 41 42), (0, u "reachedCount"), (0, u "I"), (5, u "(I)I"), (0, .methodref 14 50), (0, .nameAndType 51 48), (0, u "outEnd"), (0, .methodref 14 53), (0, .nameAndType 54 48), (0, u "inEnd"), (0, .methodref 14 56), (0, .nameAndType 57 48), (0, u "outBegin"), (0, .methodref 14 59), (0, .nameAndType 60 48), (0, u "inBegin"), (0, .methodref 14 62), (0, .nameAndType 63 48), (0, u "outTarget"), (0, .methodref 14 65), (0, .nameAndType 66 48), (0, u "inSource"), (0, u "UNREACHED"), (2, u "(Lcom/example/eccentra/eccentra/Graph;)V"), (2, u "(IZ)I"), (1, u "reached")] 3

def k4c0 : Code := { maxStack := 2, maxLocals := 2, code := prog_3_method_1_code, exceptionTable := #[], attributes := #[] }
def k4m0 : Method := { name := "<init>", desc := "(Lcom/example/eccentra/eccentra/Graph;)V", sig := { parameters := [(.object "com/example/eccentra/eccentra/Graph")], returnType := none }, accessFlags := 0, code := some k4c0 }
def k4c1 : Code := { maxStack := 4, maxLocals := 3, code := prog_3_method_2_code, exceptionTable := #[], attributes := #[] }
def k4m1 : Method := { name := "search", desc := "(IZ)I", sig := { parameters := [.int, .boolean], returnType := some .int }, accessFlags := 0, code := some k4c1 }
def k4c2 : Code := { maxStack := 1, maxLocals := 1, code := prog_3_method_4_code, exceptionTable := #[], attributes := #[] }
def k4m2 : Method := { name := "reachedCount", desc := "()I", sig := { parameters := [], returnType := some .int }, accessFlags := 0, code := some k4c2 }
def k4c3 : Code := { maxStack := 2, maxLocals := 2, code := prog_3_method_5_code, exceptionTable := #[], attributes := #[] }
def k4m3 : Method := { name := "reached", desc := "(I)I", sig := { parameters := [.int], returnType := some .int }, accessFlags := 0, code := some k4c3 }
def k4c4 : Code := { maxStack := 2, maxLocals := 2, code := prog_3_method_6_code, exceptionTable := #[], attributes := #[] }
def k4m4 : Method := { name := "distance", desc := "(I)I", sig := { parameters := [.int], returnType := some .int }, accessFlags := 0, code := some k4c4 }
def k4c5 : Code := { maxStack := 4, maxLocals := 12, code := prog_3_method_8_code, exceptionTable := #[], attributes := #[] }
def k4m5 : Method := { name := "search", desc := "(IZLcom/example/eccentra/eccentra/Components;)I", sig := { parameters := [.int, .boolean, (.object "com/example/eccentra/eccentra/Components")], returnType := some .int }, accessFlags := 2, code := some k4c5 }
/-- com/example/eccentra/eccentra/BreadthFirst -/
def k4 : Class := { plain "com/example/eccentra/eccentra/BreadthFirst" (some 0) with
  accessFlags := 48
  interfaces := #[]
  cf := some (fileOf pool4 8 #[] #[{ accessFlags := 0, nameIndex := 5, descriptorIndex := 70, attributes := #[] }, { accessFlags := 0, nameIndex := 37, descriptorIndex := 73, attributes := #[] }, { accessFlags := 0, nameIndex := 41, descriptorIndex := 18, attributes := #[] }, { accessFlags := 0, nameIndex := 75, descriptorIndex := 48, attributes := #[] }, { accessFlags := 0, nameIndex := 21, descriptorIndex := 48, attributes := #[] }, { accessFlags := 2, nameIndex := 37, descriptorIndex := 38, attributes := #[] }] 48 2 #[] #[{ accessFlags := 26, nameIndex := 67, descriptorIndex := 42, attributes := #[] }, { accessFlags := 18, nameIndex := 11, descriptorIndex := 12, attributes := #[] }, { accessFlags := 18, nameIndex := 21, descriptorIndex := 22, attributes := #[] }, { accessFlags := 18, nameIndex := 31, descriptorIndex := 22, attributes := #[] }, { accessFlags := 18, nameIndex := 34, descriptorIndex := 22, attributes := #[] }, { accessFlags := 2, nameIndex := 41, descriptorIndex := 42, attributes := #[] }])
  fields := #[{ name := "UNREACHED", type := .int, accessFlags := 26, slot := 0, constantValue := 0 }, { name := "graph", type := (.object "com/example/eccentra/eccentra/Graph"), accessFlags := 18, slot := 0, constantValue := 0 }, { name := "distance", type := (.array .int), accessFlags := 18, slot := 1, constantValue := 0 }, { name := "parent", type := (.array .int), accessFlags := 18, slot := 2, constantValue := 0 }, { name := "reachedOrder", type := (.array .int), accessFlags := 18, slot := 3, constantValue := 0 }, { name := "reachedCount", type := .int, accessFlags := 2, slot := 4, constantValue := 0 }]
  methods := #[k4m0, k4m1, k4m2, k4m3, k4m4, k4m5]
  instanceTypes := #[(.object "com/example/eccentra/eccentra/Graph"), (.array .int), (.array .int), (.array .int), .int]
  staticTypes := #[.int]
  resolved := Array.replicate 79 none
  statics := none }

def pool5 : Array CpInfo := pool [(2, .class_ 4), (1, u "java/lang/Object"), (0, u "<init>"), (0, u "()V"), (7, .class_ 16), (1, u "java/util/Arrays"), (57, .class_ 76), (1, u "java/util/Arrays$NaturalOrder"), (36, .class_ 115), (1, u "java/util/Arrays$LegacyMergeSort"), (1, u "Z"), (257, .class_ 376), (0, u "java/util/Arrays$ArrayList"), (68, u "$assertionsDisabled"), (269, u "MIN_ARRAY_SORT_GRAN"), (0, u "I"), (2, u "INSERTIONSORT_THRESHOLD"), (120, u "fill"), (4, u "([II)V"), (129, .class_ 976), (0, u "java/util/Arrays$ArrayItr")] 52

def k5m0 : Method := { name := "<init>", desc := "()V", sig := { parameters := [], returnType := none }, accessFlags := 2, code := none }
def k5c1 : Code := { maxStack := 3, maxLocals := 4, code := jdk_65_method_103_code, exceptionTable := #[], attributes := #[] }
def k5m1 : Method := { name := "fill", desc := "([II)V", sig := { parameters := [(.array .int), .int], returnType := none }, accessFlags := 9, code := some k5c1 }
/-- java/util/Arrays -/
def k5 : Class := { plain "java/util/Arrays" (some 0) with
  accessFlags := 49
  interfaces := #[]
  cf := some (fileOf pool5 14 #[.nestMembers #[975, 375, 113, 74]] #[{ accessFlags := 2, nameIndex := 5, descriptorIndex := 6, attributes := #[] }, { accessFlags := 9, nameIndex := 840, descriptorIndex := 845, attributes := #[] }] 49 2 #[] #[{ accessFlags := 26, nameIndex := 715, descriptorIndex := 716, attributes := #[] }, { accessFlags := 26, nameIndex := 719, descriptorIndex := 716, attributes := #[] }, { accessFlags := 4120, nameIndex := 445, descriptorIndex := 117, attributes := #[] }])
  fields := #[{ name := "MIN_ARRAY_SORT_GRAN", type := .int, accessFlags := 26, slot := 0, constantValue := 0 }, { name := "INSERTIONSORT_THRESHOLD", type := .int, accessFlags := 26, slot := 1, constantValue := 0 }, { name := "$assertionsDisabled", type := .boolean, accessFlags := 4120, slot := 2, constantValue := 0 }]
  methods := #[k5m0, k5m1]
  instanceTypes := #[]
  staticTypes := #[.int, .int, .boolean]
  resolved := Array.replicate 1029 none
  statics := none }

def pool6 : Array CpInfo := pool [(1, .class_ 2), (0, u "java/lang/Math"), (1, .class_ 6), (1, u "java/lang/Object"), (0, u "<init>"), (0, u "()V"), (89, .class_ 100), (1, u "java/lang/Math$RandomNumberGeneratorHolder"), (71, u "negativeZeroFloatBits"), (0, u "J"), (2, u "negativeZeroDoubleBits"), (21, u "max"), (2, u "min"), (43, u "$assertionsDisabled"), (0, u "Z"), (88, u "(II)I"), (2, u "twoToTheDoubleScaleDown"), (0, u "D"), (4, u "twoToTheDoubleScaleUp"), (9, u "E"), (3, u "PI"), (2, u "TAU"), (2, u "DEGREES_TO_RADIANS"), (0, u "RADIANS_TO_DEGREES")] 94

def k6m0 : Method := { name := "<init>", desc := "()V", sig := { parameters := [], returnType := none }, accessFlags := 2, code := none }
def k6c1 : Code := { maxStack := 2, maxLocals := 2, code := jdk_29_method_65_code, exceptionTable := #[], attributes := #[] }
def k6m1 : Method := { name := "max", desc := "(II)I", sig := { parameters := [.int, .int], returnType := some .int }, accessFlags := 9, code := some k6c1 }
def k6c2 : Code := { maxStack := 2, maxLocals := 2, code := jdk_29_method_69_code, exceptionTable := #[], attributes := #[] }
def k6m2 : Method := { name := "min", desc := "(II)I", sig := { parameters := [.int, .int], returnType := some .int }, accessFlags := 9, code := some k6c2 }
/-- java/lang/Math -/
def k6 : Class := { plain "java/lang/Math" (some 0) with
  accessFlags := 49
  interfaces := #[]
  cf := some (fileOf pool6 1 #[.nestMembers #[98]] #[{ accessFlags := 2, nameIndex := 7, descriptorIndex := 8, attributes := #[] }, { accessFlags := 9, nameIndex := 198, descriptorIndex := 335, attributes := #[] }, { accessFlags := 9, nameIndex := 201, descriptorIndex := 335, attributes := #[] }] 49 4 #[] #[{ accessFlags := 25, nameIndex := 354, descriptorIndex := 339, attributes := #[] }, { accessFlags := 25, nameIndex := 358, descriptorIndex := 339, attributes := #[] }, { accessFlags := 25, nameIndex := 361, descriptorIndex := 339, attributes := #[] }, { accessFlags := 26, nameIndex := 364, descriptorIndex := 339, attributes := #[] }, { accessFlags := 26, nameIndex := 365, descriptorIndex := 339, attributes := #[] }, { accessFlags := 26, nameIndex := 172, descriptorIndex := 173, attributes := #[] }, { accessFlags := 26, nameIndex := 176, descriptorIndex := 173, attributes := #[] }, { accessFlags := 8, nameIndex := 344, descriptorIndex := 339, attributes := #[] }, { accessFlags := 8, nameIndex := 338, descriptorIndex := 339, attributes := #[] }, { accessFlags := 4120, nameIndex := 245, descriptorIndex := 246, attributes := #[] }])
  fields := #[{ name := "E", type := .double, accessFlags := 25, slot := 0, constantValue := 0 }, { name := "PI", type := .double, accessFlags := 25, slot := 1, constantValue := 0 }, { name := "TAU", type := .double, accessFlags := 25, slot := 2, constantValue := 0 }, { name := "DEGREES_TO_RADIANS", type := .double, accessFlags := 26, slot := 3, constantValue := 0 }, { name := "RADIANS_TO_DEGREES", type := .double, accessFlags := 26, slot := 4, constantValue := 0 }, { name := "negativeZeroFloatBits", type := .long, accessFlags := 26, slot := 5, constantValue := 0 }, { name := "negativeZeroDoubleBits", type := .long, accessFlags := 26, slot := 6, constantValue := 0 }, { name := "twoToTheDoubleScaleUp", type := .double, accessFlags := 8, slot := 7, constantValue := 0 }, { name := "twoToTheDoubleScaleDown", type := .double, accessFlags := 8, slot := 8, constantValue := 0 }, { name := "$assertionsDisabled", type := .boolean, accessFlags := 4120, slot := 9, constantValue := 0 }]
  methods := #[k6m0, k6m1, k6m2]
  instanceTypes := #[]
  staticTypes := #[.double, .double, .double, .double, .double, .long, .long, .double, .double, .boolean]
  resolved := Array.replicate 460 none
  statics := none }

def pool7 : Array CpInfo := pool [(1, u "java/lang/Cloneable"), (0, .class_ 1), (0, u "java/lang/Object"), (0, .class_ 3)] 3

/-- java/lang/Cloneable -/
def k7 : Class := { plain "java/lang/Cloneable" (some 0) with
  accessFlags := 1537
  interfaces := #[]
  cf := some (fileOf pool7 2 #[] #[] 1537 4 #[] #[])
  fields := #[]
  methods := #[]
  instanceTypes := #[]
  staticTypes := #[]
  resolved := Array.replicate 8 none
  statics := none }

def pool8 : Array CpInfo := pool [(1, u "java/io/Serializable"), (0, .class_ 1), (0, u "java/lang/Object"), (0, .class_ 3)] 3

/-- java/io/Serializable -/
def k8 : Class := { plain "java/io/Serializable" (some 0) with
  accessFlags := 1537
  interfaces := #[]
  cf := some (fileOf pool8 2 #[] #[] 1537 4 #[] #[])
  fields := #[]
  methods := #[]
  instanceTypes := #[]
  staticTypes := #[]
  resolved := Array.replicate 8 none
  statics := none }

/-- the primitive byte -/
def k9 : Class := { plain "byte" none with kind := .primitive 'B', accessFlags := 0x411 }
/-- [B -/
def k10 : Class := { plain "[B" (some 0) with kind := .array 9 .byte, interfaces := #[7, 8], accessFlags := 1041 }

/-- the primitive int -/
def k11 : Class := { plain "int" none with kind := .primitive 'I', accessFlags := 0x411 }
/-- [I -/
def k12 : Class := { plain "[I" (some 0) with kind := .array 11 .int, interfaces := #[7, 8], accessFlags := 1041 }

/-- the primitive long -/
def k13 : Class := { plain "long" none with kind := .primitive 'J', accessFlags := 0x411 }
/-- [J -/
def k14 : Class := { plain "[J" (some 0) with kind := .array 13 .long, interfaces := #[7, 8], accessFlags := 1041 }

def heap : Heap := #[]
def classes : Array Class := #[k0, k1, k2, k3, k4, k5, k6, k7, k8, k9, k10, k11, k12, k13, k14]
def interned : List (Array UInt16 × Addr) := []
def slotsUsed : Nat := 0
def theMethod : MethodId := ⟨1, 1⟩
def args0 : Array Value := #[.int 3, .int 9, .int 4, .int 3]
def aboutOver (below : List Frame) : State where
  vm := { classes := classes, interned := interned.toArray }
  heap := heap
  slotsUsed := slotsUsed
  threads := #[{ frames := .invoking theMethod args0 :: below }]
def below0 : List Frame := [.native { method := ⟨0, 0⟩, args := #[] }]
def about1 : State := aboutOver below0
def p0 : Program := .bare "" "" ""
def e0 : Env := launch0.env 0 0 0
theorem w_frames : about1.frames = Frame.invoking theMethod args0 :: below0 := rfl
set_option maxRecDepth 65536 in
theorem w_args : argsFit about1.vm theMethod args0 = true := by decide +kernel
set_option maxRecDepth 65536 in
theorem w_heap : heapFits about1 = true := by decide +kernel
set_option maxRecDepth 65536 in
theorem w_runnable : about1.curStatus? = some .runnable := by decide +kernel
set_option maxRecDepth 65536 in
theorem w_alone : about1.alone = true := by decide +kernel
set_option maxRecDepth 65536 in
theorem w_named : about1.methodNamed? x = some theMethod := by decide +kernel
set_option maxRecDepth 65536 in
theorem w_hears : about1.hears theMethod below0 = true := by decide +kernel
set_option maxRecDepth 65536 in
theorem w_ripe : about1.ripe theMethod args0 below0 = true := by decide +kernel
theorem w_running : about1.status = .running := rfl
set_option maxRecDepth 65536 in
theorem w_room : about1.hasRoom e0.platform room_1 = true :=
  launch0.hasRoom_least _ room_1 (by decide +kernel) (by decide +kernel) (by decide +kernel) (by decide +kernel) (by decide +kernel) (by decide +kernel)
theorem allAtoms_all (ts : List Jvm.Cond) (a : Array Jvm.Value) (st : Jvm.State) : (allAtoms ts).before a st = ts.all (fun c => c.before a st) := by
  induction ts with
  | nil => rfl
  | cons c t ih =>
    show (Jvm.Cond.and c (allAtoms t)).before a st = _
    rw [Jvm.Cond.before_and, ih, List.all_cons]
def words1 : List Jvm.Cond := Jvm.Cond.code x code maxLocals ret :: tables_1
/-- a 'code' word, met by the world's own term for the bytes: nothing is compared byte by byte -/
theorem code_word {y : MethodName} {bytes : ByteArray} {mx : Nat} {rt : Option FieldType} {a : Array Value} {s : State} {m : MethodId} {meth : Method} {c : Code} (h1 : s.methodNamed? y = some m) (h2 : s.vm.method? m = some meth) (h3 : meth.code = some c) (h4 : c.code = bytes)
    (h5 : (c.maxLocals == mx && c.exceptionTable.isEmpty && decide (c.maxStack ≤ mostOperands) && decide (meth.sig.returnType = rt) && !meth.locks && decide (parseMethodDescriptor y.desc = some meth.sig)) = true) : (Jvm.Cond.code y bytes mx rt).before a s = true := by
  simp only [Bool.and_eq_true, beq_iff_eq, Bool.not_eq_true', decide_eq_true_eq] at h5
  obtain ⟨⟨⟨⟨⟨g1, g2⟩, g3⟩, g4⟩, g5⟩, g6⟩ := h5
  simp [Cond.before, Cond.holds, Cond.value, h1, h2, h3, h4, g1, g2, g3, g4, g5, g6]
def isCode : Jvm.Cond → Bool
  | .code _ _ _ _ => true
  | _ => false
theorem all_split {L : List Jvm.Cond} {P : Jvm.Cond → Bool} (h1 : L.all (fun c => isCode c || P c) = true) (h2 : ∀ c ∈ L.filter isCode, P c = true) : L.all P = true := by
  refine List.all_eq_true.mpr fun c hc => ?_
  have h := List.all_eq_true.mp h1 c hc
  rcases Bool.eq_false_or_eq_true (isCode c) with hi | hi
  · exact h2 c (List.mem_filter.mpr ⟨hc, hi⟩)
  · simpa [hi] using h
set_option maxRecDepth 65536 in
theorem w_c0 : (Jvm.Cond.code x code maxLocals ret).before args0 about1 = true := code_word (m := ⟨1, 1⟩) (meth := k1m1) (c := k1c1) (by decide +kernel) rfl rfl rfl (by decide +kernel)
set_option maxRecDepth 65536 in
theorem w_c1 : (Jvm.Cond.code ({ cls := "com/example/eccentra/eccentra/MainVertexDistancesPinLaw", name := "fill", desc := "(IZZI[II)I" } : Jvm.MethodName) method_5_code (7 : Nat) (Option.some Jvm.ClassFile.FieldType.int)).before args0 about1 = true := code_word (m := ⟨1, 4⟩) (meth := k1m4) (c := k1c4) (by decide +kernel) rfl rfl rfl (by decide +kernel)
set_option maxRecDepth 65536 in
theorem w_c2 : (Jvm.Cond.code ({ cls := "com/example/eccentra/eccentra/MainVertexDistancesPinLaw", name := "put", desc := "(IZZII[II)I" } : Jvm.MethodName) method_4_code (7 : Nat) (Option.some Jvm.ClassFile.FieldType.int)).before args0 about1 = true := code_word (m := ⟨1, 3⟩) (meth := k1m3) (c := k1c3) (by decide +kernel) rfl rfl rfl (by decide +kernel)
set_option maxRecDepth 65536 in
theorem w_c3 : (Jvm.Cond.code ({ cls := "com/example/eccentra/eccentra/MainVertexDistancesPinLaw", name := "has", desc := "(IZII)Z" } : Jvm.MethodName) method_3_code (5 : Nat) (Option.some Jvm.ClassFile.FieldType.boolean)).before args0 about1 = true := code_word (m := ⟨1, 2⟩) (meth := k1m2) (c := k1c2) (by decide +kernel) rfl rfl rfl (by decide +kernel)
set_option maxRecDepth 65536 in
theorem w_c4 : (Jvm.Cond.code ({ cls := "com/example/eccentra/eccentra/Graph", name := "<init>", desc := "([JZ[I[I[I[I)V" } : Jvm.MethodName) prog_7_method_1_code (7 : Nat) (Option.none : Option Jvm.ClassFile.FieldType)).before args0 about1 = true := code_word (m := ⟨2, 0⟩) (meth := k2m0) (c := k2c0) (by decide +kernel) rfl rfl rfl (by decide +kernel)
set_option maxRecDepth 65536 in
theorem w_c5 : (Jvm.Cond.code ({ cls := "java/lang/Object", name := "<init>", desc := "()V" } : Jvm.MethodName) object_method_1_code (1 : Nat) (Option.none : Option Jvm.ClassFile.FieldType)).before args0 about1 = true := code_word (m := ⟨0, 0⟩) (meth := k0m0) (c := k0c0) (by decide +kernel) rfl rfl rfl (by decide +kernel)
set_option maxRecDepth 65536 in
theorem w_c6 : (Jvm.Cond.code ({ cls := "com/example/eccentra/eccentra/MainVertex", name := "<init>", desc := "(Lcom/example/eccentra/eccentra/Graph;)V" } : Jvm.MethodName) prog_19_method_1_code (2 : Nat) (Option.none : Option Jvm.ClassFile.FieldType)).before args0 about1 = true := code_word (m := ⟨3, 0⟩) (meth := k3m0) (c := k3c0) (by decide +kernel) rfl rfl rfl (by decide +kernel)
set_option maxRecDepth 65536 in
theorem w_c7 : (Jvm.Cond.code ({ cls := "com/example/eccentra/eccentra/Graph", name := "vertexCount", desc := "()I" } : Jvm.MethodName) prog_7_method_2_code (1 : Nat) (Option.some Jvm.ClassFile.FieldType.int)).before args0 about1 = true := code_word (m := ⟨2, 1⟩) (meth := k2m1) (c := k2c1) (by decide +kernel) rfl rfl rfl (by decide +kernel)
set_option maxRecDepth 65536 in
theorem w_c8 : (Jvm.Cond.code ({ cls := "com/example/eccentra/eccentra/Graph", name := "isDirected", desc := "()Z" } : Jvm.MethodName) prog_7_method_3_code (1 : Nat) (Option.some Jvm.ClassFile.FieldType.boolean)).before args0 about1 = true := code_word (m := ⟨2, 2⟩) (meth := k2m2) (c := k2c2) (by decide +kernel) rfl rfl rfl (by decide +kernel)
set_option maxRecDepth 65536 in
theorem w_c9 : (Jvm.Cond.code ({ cls := "com/example/eccentra/eccentra/BreadthFirst", name := "<init>", desc := "(Lcom/example/eccentra/eccentra/Graph;)V" } : Jvm.MethodName) prog_3_method_1_code (2 : Nat) (Option.none : Option Jvm.ClassFile.FieldType)).before args0 about1 = true := code_word (m := ⟨4, 0⟩) (meth := k4m0) (c := k4c0) (by decide +kernel) rfl rfl rfl (by decide +kernel)
set_option maxRecDepth 65536 in
theorem w_c10 : (Jvm.Cond.code ({ cls := "java/util/Arrays", name := "fill", desc := "([II)V" } : Jvm.MethodName) jdk_65_method_103_code (4 : Nat) (Option.none : Option Jvm.ClassFile.FieldType)).before args0 about1 = true := code_word (m := ⟨5, 1⟩) (meth := k5m1) (c := k5c1) (by decide +kernel) rfl rfl rfl (by decide +kernel)
set_option maxRecDepth 65536 in
theorem w_c11 : (Jvm.Cond.code ({ cls := "com/example/eccentra/eccentra/BreadthFirst", name := "search", desc := "(IZ)I" } : Jvm.MethodName) prog_3_method_2_code (3 : Nat) (Option.some Jvm.ClassFile.FieldType.int)).before args0 about1 = true := code_word (m := ⟨4, 1⟩) (meth := k4m1) (c := k4c1) (by decide +kernel) rfl rfl rfl (by decide +kernel)
set_option maxRecDepth 65536 in
theorem w_c12 : (Jvm.Cond.code ({ cls := "com/example/eccentra/eccentra/BreadthFirst", name := "search", desc := "(IZLcom/example/eccentra/eccentra/Components;)I" } : Jvm.MethodName) prog_3_method_8_code (12 : Nat) (Option.some Jvm.ClassFile.FieldType.int)).before args0 about1 = true := code_word (m := ⟨4, 5⟩) (meth := k4m5) (c := k4c5) (by decide +kernel) rfl rfl rfl (by decide +kernel)
set_option maxRecDepth 65536 in
theorem w_c13 : (Jvm.Cond.code ({ cls := "com/example/eccentra/eccentra/Graph", name := "inEnd", desc := "(I)I" } : Jvm.MethodName) prog_7_method_13_code (2 : Nat) (Option.some Jvm.ClassFile.FieldType.int)).before args0 about1 = true := code_word (m := ⟨2, 7⟩) (meth := k2m7) (c := k2c7) (by decide +kernel) rfl rfl rfl (by decide +kernel)
set_option maxRecDepth 65536 in
theorem w_c14 : (Jvm.Cond.code ({ cls := "com/example/eccentra/eccentra/Graph", name := "inBegin", desc := "(I)I" } : Jvm.MethodName) prog_7_method_12_code (2 : Nat) (Option.some Jvm.ClassFile.FieldType.int)).before args0 about1 = true := code_word (m := ⟨2, 6⟩) (meth := k2m6) (c := k2c6) (by decide +kernel) rfl rfl rfl (by decide +kernel)
set_option maxRecDepth 65536 in
theorem w_c15 : (Jvm.Cond.code ({ cls := "com/example/eccentra/eccentra/MainVertex", name := "keep", desc := "(Lcom/example/eccentra/eccentra/BreadthFirst;Z)V" } : Jvm.MethodName) prog_19_method_4_code (6 : Nat) (Option.none : Option Jvm.ClassFile.FieldType)).before args0 about1 = true := code_word (m := ⟨3, 2⟩) (meth := k3m2) (c := k3c2) (by decide +kernel) rfl rfl rfl (by decide +kernel)
set_option maxRecDepth 65536 in
theorem w_c16 : (Jvm.Cond.code ({ cls := "com/example/eccentra/eccentra/BreadthFirst", name := "reachedCount", desc := "()I" } : Jvm.MethodName) prog_3_method_4_code (1 : Nat) (Option.some Jvm.ClassFile.FieldType.int)).before args0 about1 = true := code_word (m := ⟨4, 2⟩) (meth := k4m2) (c := k4c2) (by decide +kernel) rfl rfl rfl (by decide +kernel)
set_option maxRecDepth 65536 in
theorem w_c17 : (Jvm.Cond.code ({ cls := "com/example/eccentra/eccentra/BreadthFirst", name := "reached", desc := "(I)I" } : Jvm.MethodName) prog_3_method_5_code (2 : Nat) (Option.some Jvm.ClassFile.FieldType.int)).before args0 about1 = true := code_word (m := ⟨4, 3⟩) (meth := k4m3) (c := k4c3) (by decide +kernel) rfl rfl rfl (by decide +kernel)
set_option maxRecDepth 65536 in
theorem w_c18 : (Jvm.Cond.code ({ cls := "com/example/eccentra/eccentra/BreadthFirst", name := "distance", desc := "(I)I" } : Jvm.MethodName) prog_3_method_6_code (2 : Nat) (Option.some Jvm.ClassFile.FieldType.int)).before args0 about1 = true := code_word (m := ⟨4, 4⟩) (meth := k4m4) (c := k4c4) (by decide +kernel) rfl rfl rfl (by decide +kernel)
set_option maxRecDepth 65536 in
theorem w_c19 : (Jvm.Cond.code ({ cls := "com/example/eccentra/eccentra/Graph", name := "outEnd", desc := "(I)I" } : Jvm.MethodName) prog_7_method_10_code (2 : Nat) (Option.some Jvm.ClassFile.FieldType.int)).before args0 about1 = true := code_word (m := ⟨2, 4⟩) (meth := k2m4) (c := k2c4) (by decide +kernel) rfl rfl rfl (by decide +kernel)
set_option maxRecDepth 65536 in
theorem w_c20 : (Jvm.Cond.code ({ cls := "com/example/eccentra/eccentra/Graph", name := "outBegin", desc := "(I)I" } : Jvm.MethodName) prog_7_method_9_code (2 : Nat) (Option.some Jvm.ClassFile.FieldType.int)).before args0 about1 = true := code_word (m := ⟨2, 3⟩) (meth := k2m3) (c := k2c3) (by decide +kernel) rfl rfl rfl (by decide +kernel)
set_option maxRecDepth 65536 in
theorem w_c21 : (Jvm.Cond.code ({ cls := "com/example/eccentra/eccentra/MainVertex", name := "distances", desc := "(Z)[I" } : Jvm.MethodName) prog_19_method_3_code (2 : Nat) (Option.some (Jvm.ClassFile.FieldType.array Jvm.ClassFile.FieldType.int))).before args0 about1 = true := code_word (m := ⟨3, 1⟩) (meth := k3m1) (c := k3c1) (by decide +kernel) rfl rfl rfl (by decide +kernel)
set_option maxRecDepth 65536 in
theorem w_c22 : (Jvm.Cond.code ({ cls := "com/example/eccentra/eccentra/MainVertexDistancesPinLaw", name := "matches", desc := "([IIZZI)Z" } : Jvm.MethodName) method_8_code (5 : Nat) (Option.some Jvm.ClassFile.FieldType.boolean)).before args0 about1 = true := code_word (m := ⟨1, 7⟩) (meth := k1m7) (c := k1c7) (by decide +kernel) rfl rfl rfl (by decide +kernel)
set_option maxRecDepth 65536 in
theorem w_c23 : (Jvm.Cond.code ({ cls := "com/example/eccentra/eccentra/MainVertexDistancesPinLaw", name := "expected", desc := "(IZZII)I" } : Jvm.MethodName) method_7_code (6 : Nat) (Option.some Jvm.ClassFile.FieldType.int)).before args0 about1 = true := code_word (m := ⟨1, 6⟩) (meth := k1m6) (c := k1c6) (by decide +kernel) rfl rfl rfl (by decide +kernel)
set_option maxRecDepth 65536 in
theorem w_c24 : (Jvm.Cond.code ({ cls := "com/example/eccentra/eccentra/MainVertexDistancesPinLaw", name := "step", desc := "(IZZII)Z" } : Jvm.MethodName) method_6_code (5 : Nat) (Option.some Jvm.ClassFile.FieldType.boolean)).before args0 about1 = true := code_word (m := ⟨1, 5⟩) (meth := k1m5) (c := k1c5) (by decide +kernel) rfl rfl rfl (by decide +kernel)
set_option maxRecDepth 65536 in
theorem w_c25 : (Jvm.Cond.code ({ cls := "java/lang/Math", name := "min", desc := "(II)I" } : Jvm.MethodName) jdk_29_method_69_code (2 : Nat) (Option.some Jvm.ClassFile.FieldType.int)).before args0 about1 = true := code_word (m := ⟨6, 2⟩) (meth := k6m2) (c := k6c2) (by decide +kernel) rfl rfl rfl (by decide +kernel)
set_option maxRecDepth 65536 in
theorem w_c26 : (Jvm.Cond.code ({ cls := "java/lang/Math", name := "max", desc := "(II)I" } : Jvm.MethodName) jdk_29_method_65_code (2 : Nat) (Option.some Jvm.ClassFile.FieldType.int)).before args0 about1 = true := code_word (m := ⟨6, 1⟩) (meth := k6m1) (c := k6c1) (by decide +kernel) rfl rfl rfl (by decide +kernel)
set_option maxRecDepth 65536 in
theorem w_c27 : (Jvm.Cond.code ({ cls := "com/example/eccentra/eccentra/Graph", name := "outTarget", desc := "(I)I" } : Jvm.MethodName) prog_7_method_11_code (2 : Nat) (Option.some Jvm.ClassFile.FieldType.int)).before args0 about1 = true := code_word (m := ⟨2, 5⟩) (meth := k2m5) (c := k2c5) (by decide +kernel) rfl rfl rfl (by decide +kernel)
set_option maxRecDepth 65536 in
theorem w_c28 : (Jvm.Cond.code ({ cls := "com/example/eccentra/eccentra/Graph", name := "inSource", desc := "(I)I" } : Jvm.MethodName) prog_7_method_14_code (2 : Nat) (Option.some Jvm.ClassFile.FieldType.int)).before args0 about1 = true := code_word (m := ⟨2, 8⟩) (meth := k2m8) (c := k2c8) (by decide +kernel) rfl rfl rfl (by decide +kernel)
def codes1 : List Jvm.Cond := [Jvm.Cond.code x code maxLocals ret, Jvm.Cond.code ({ cls := "com/example/eccentra/eccentra/MainVertexDistancesPinLaw", name := "fill", desc := "(IZZI[II)I" } : Jvm.MethodName) method_5_code (7 : Nat) (Option.some Jvm.ClassFile.FieldType.int), Jvm.Cond.code ({ cls := "com/example/eccentra/eccentra/MainVertexDistancesPinLaw", name := "put", desc := "(IZZII[II)I" } : Jvm.MethodName) method_4_code (7 : Nat) (Option.some Jvm.ClassFile.FieldType.int), Jvm.Cond.code ({ cls := "com/example/eccentra/eccentra/MainVertexDistancesPinLaw", name := "has", desc := "(IZII)Z" } : Jvm.MethodName) method_3_code (5 : Nat) (Option.some Jvm.ClassFile.FieldType.boolean), Jvm.Cond.code ({ cls := "com/example/eccentra/eccentra/Graph", name := "<init>", desc := "([JZ[I[I[I[I)V" } : Jvm.MethodName) prog_7_method_1_code (7 : Nat) (Option.none : Option Jvm.ClassFile.FieldType), Jvm.Cond.code ({ cls := "java/lang/Object", name := "<init>", desc := "()V" } : Jvm.MethodName) object_method_1_code (1 : Nat) (Option.none : Option Jvm.ClassFile.FieldType), Jvm.Cond.code ({ cls := "com/example/eccentra/eccentra/MainVertex", name := "<init>", desc := "(Lcom/example/eccentra/eccentra/Graph;)V" } : Jvm.MethodName) prog_19_method_1_code (2 : Nat) (Option.none : Option Jvm.ClassFile.FieldType), Jvm.Cond.code ({ cls := "com/example/eccentra/eccentra/Graph", name := "vertexCount", desc := "()I" } : Jvm.MethodName) prog_7_method_2_code (1 : Nat) (Option.some Jvm.ClassFile.FieldType.int), Jvm.Cond.code ({ cls := "com/example/eccentra/eccentra/Graph", name := "isDirected", desc := "()Z" } : Jvm.MethodName) prog_7_method_3_code (1 : Nat) (Option.some Jvm.ClassFile.FieldType.boolean), Jvm.Cond.code ({ cls := "com/example/eccentra/eccentra/BreadthFirst", name := "<init>", desc := "(Lcom/example/eccentra/eccentra/Graph;)V" } : Jvm.MethodName) prog_3_method_1_code (2 : Nat) (Option.none : Option Jvm.ClassFile.FieldType), Jvm.Cond.code ({ cls := "java/util/Arrays", name := "fill", desc := "([II)V" } : Jvm.MethodName) jdk_65_method_103_code (4 : Nat) (Option.none : Option Jvm.ClassFile.FieldType), Jvm.Cond.code ({ cls := "com/example/eccentra/eccentra/BreadthFirst", name := "search", desc := "(IZ)I" } : Jvm.MethodName) prog_3_method_2_code (3 : Nat) (Option.some Jvm.ClassFile.FieldType.int), Jvm.Cond.code ({ cls := "com/example/eccentra/eccentra/BreadthFirst", name := "search", desc := "(IZLcom/example/eccentra/eccentra/Components;)I" } : Jvm.MethodName) prog_3_method_8_code (12 : Nat) (Option.some Jvm.ClassFile.FieldType.int), Jvm.Cond.code ({ cls := "com/example/eccentra/eccentra/Graph", name := "inEnd", desc := "(I)I" } : Jvm.MethodName) prog_7_method_13_code (2 : Nat) (Option.some Jvm.ClassFile.FieldType.int), Jvm.Cond.code ({ cls := "com/example/eccentra/eccentra/Graph", name := "inBegin", desc := "(I)I" } : Jvm.MethodName) prog_7_method_12_code (2 : Nat) (Option.some Jvm.ClassFile.FieldType.int), Jvm.Cond.code ({ cls := "com/example/eccentra/eccentra/MainVertex", name := "keep", desc := "(Lcom/example/eccentra/eccentra/BreadthFirst;Z)V" } : Jvm.MethodName) prog_19_method_4_code (6 : Nat) (Option.none : Option Jvm.ClassFile.FieldType), Jvm.Cond.code ({ cls := "com/example/eccentra/eccentra/BreadthFirst", name := "reachedCount", desc := "()I" } : Jvm.MethodName) prog_3_method_4_code (1 : Nat) (Option.some Jvm.ClassFile.FieldType.int), Jvm.Cond.code ({ cls := "com/example/eccentra/eccentra/BreadthFirst", name := "reached", desc := "(I)I" } : Jvm.MethodName) prog_3_method_5_code (2 : Nat) (Option.some Jvm.ClassFile.FieldType.int), Jvm.Cond.code ({ cls := "com/example/eccentra/eccentra/BreadthFirst", name := "distance", desc := "(I)I" } : Jvm.MethodName) prog_3_method_6_code (2 : Nat) (Option.some Jvm.ClassFile.FieldType.int), Jvm.Cond.code ({ cls := "com/example/eccentra/eccentra/Graph", name := "outEnd", desc := "(I)I" } : Jvm.MethodName) prog_7_method_10_code (2 : Nat) (Option.some Jvm.ClassFile.FieldType.int), Jvm.Cond.code ({ cls := "com/example/eccentra/eccentra/Graph", name := "outBegin", desc := "(I)I" } : Jvm.MethodName) prog_7_method_9_code (2 : Nat) (Option.some Jvm.ClassFile.FieldType.int), Jvm.Cond.code ({ cls := "com/example/eccentra/eccentra/MainVertex", name := "distances", desc := "(Z)[I" } : Jvm.MethodName) prog_19_method_3_code (2 : Nat) (Option.some (Jvm.ClassFile.FieldType.array Jvm.ClassFile.FieldType.int)), Jvm.Cond.code ({ cls := "com/example/eccentra/eccentra/MainVertexDistancesPinLaw", name := "matches", desc := "([IIZZI)Z" } : Jvm.MethodName) method_8_code (5 : Nat) (Option.some Jvm.ClassFile.FieldType.boolean), Jvm.Cond.code ({ cls := "com/example/eccentra/eccentra/MainVertexDistancesPinLaw", name := "expected", desc := "(IZZII)I" } : Jvm.MethodName) method_7_code (6 : Nat) (Option.some Jvm.ClassFile.FieldType.int), Jvm.Cond.code ({ cls := "com/example/eccentra/eccentra/MainVertexDistancesPinLaw", name := "step", desc := "(IZZII)Z" } : Jvm.MethodName) method_6_code (5 : Nat) (Option.some Jvm.ClassFile.FieldType.boolean), Jvm.Cond.code ({ cls := "java/lang/Math", name := "min", desc := "(II)I" } : Jvm.MethodName) jdk_29_method_69_code (2 : Nat) (Option.some Jvm.ClassFile.FieldType.int), Jvm.Cond.code ({ cls := "java/lang/Math", name := "max", desc := "(II)I" } : Jvm.MethodName) jdk_29_method_65_code (2 : Nat) (Option.some Jvm.ClassFile.FieldType.int), Jvm.Cond.code ({ cls := "com/example/eccentra/eccentra/Graph", name := "outTarget", desc := "(I)I" } : Jvm.MethodName) prog_7_method_11_code (2 : Nat) (Option.some Jvm.ClassFile.FieldType.int), Jvm.Cond.code ({ cls := "com/example/eccentra/eccentra/Graph", name := "inSource", desc := "(I)I" } : Jvm.MethodName) prog_7_method_14_code (2 : Nat) (Option.some Jvm.ClassFile.FieldType.int)]
set_option maxRecDepth 65536 in
theorem codes_eq : words1.filter isCode = codes1 := rfl
theorem w_codes : ∀ c ∈ words1.filter isCode, c.before args0 about1 = true := by
  rw [codes_eq]
  intro c hc
  simp only [codes1, List.mem_cons, List.not_mem_nil, or_false] at hc
  rcases hc with rfl | rfl | rfl | rfl | rfl | rfl | rfl | rfl | rfl | rfl | rfl | rfl | rfl | rfl | rfl | rfl | rfl | rfl | rfl | rfl | rfl | rfl | rfl | rfl | rfl | rfl | rfl | rfl | rfl
  · exact w_c0
  · exact w_c1
  · exact w_c2
  · exact w_c3
  · exact w_c4
  · exact w_c5
  · exact w_c6
  · exact w_c7
  · exact w_c8
  · exact w_c9
  · exact w_c10
  · exact w_c11
  · exact w_c12
  · exact w_c13
  · exact w_c14
  · exact w_c15
  · exact w_c16
  · exact w_c17
  · exact w_c18
  · exact w_c19
  · exact w_c20
  · exact w_c21
  · exact w_c22
  · exact w_c23
  · exact w_c24
  · exact w_c25
  · exact w_c26
  · exact w_c27
  · exact w_c28
set_option maxRecDepth 65536 in
theorem w_t1 : (words1.take 24).all (fun c => isCode c || c.before args0 about1) = true := by decide +kernel
set_option maxRecDepth 65536 in
theorem w_t2 : ((words1.drop 24).take 24).all (fun c => isCode c || c.before args0 about1) = true := by decide +kernel
set_option maxRecDepth 65536 in
theorem w_t3 : (((words1.drop 24).drop 24).take 24).all (fun c => isCode c || c.before args0 about1) = true := by decide +kernel
set_option maxRecDepth 65536 in
theorem w_t4 : ((((words1.drop 24).drop 24).drop 24).take 24).all (fun c => isCode c || c.before args0 about1) = true := by decide +kernel
set_option maxRecDepth 65536 in
theorem w_t5 : (((((words1.drop 24).drop 24).drop 24).drop 24).take 24).all (fun c => isCode c || c.before args0 about1) = true := by decide +kernel
set_option maxRecDepth 65536 in
theorem w_t6 : ((((((words1.drop 24).drop 24).drop 24).drop 24).drop 24).take 24).all (fun c => isCode c || c.before args0 about1) = true := by decide +kernel
set_option maxRecDepth 65536 in
theorem w_t7 : ((((((words1.drop 24).drop 24).drop 24).drop 24).drop 24).drop 24).all (fun c => isCode c || c.before args0 about1) = true := by decide +kernel
theorem w_tables : (allAtoms (Jvm.Cond.code x code maxLocals ret :: tables_1)).before args0 about1 = true := by
  rw [allAtoms_all]
  show words1.all (fun c => c.before args0 about1) = true
  refine all_split ?_ w_codes
  rw [← List.take_append_drop 24 words1, List.all_append, w_t1, ← List.take_append_drop 24 (words1.drop 24), List.all_append, w_t2, ← List.take_append_drop 24 ((words1.drop 24).drop 24), List.all_append, w_t3, ← List.take_append_drop 24 (((words1.drop 24).drop 24).drop 24), List.all_append, w_t4, ← List.take_append_drop 24 ((((words1.drop 24).drop 24).drop 24).drop 24), List.all_append, w_t5, ← List.take_append_drop 24 (((((words1.drop 24).drop 24).drop 24).drop 24).drop 24), List.all_append, w_t6, w_t7]
  rfl
set_option maxRecDepth 65536 in
theorem w_case : (Jvm.Cond.and given_1 narrow_1).before args0 about1 = true := by decide +kernel
theorem w_applies : (headSpec (Jvm.Cond.code x code maxLocals ret :: tables_1) room_1).applies x e0.platform about1 = true :=
  (Spec.applies_iff w_frames).mpr ⟨w_running, w_runnable, w_alone, w_named, w_hears, w_ripe, w_room, w_tables⟩
theorem atStart : AtStart classFile x code maxLocals ret World_1 tables_1 room_1 Calls_1 rest_1 Pre_1 launch0 p0 e0 about1 theMethod args0 below0 :=
  ⟨lists_1, trivial, launch0.admits_env _ _ _, launch0.least_env, fairChoices_fair.cas, fairChoices_fair.clock, w_frames, w_args, w_heap, w_applies, trivial, trivial, w_case⟩
end start1
theorem witness_1 : WitnessClaimed_1 := ⟨start1.p0, start1.e0, start1.about1, start1.theMethod, start1.args0, start1.below0, start1.atStart⟩
end Jvm.Pilot.@@N@@
