import JvmDerived
import JvmDerived.Pilot.@@N@@Statement
import JvmDerived.Pilot.@@N@@Code
set_option linter.unusedVariables false
set_option linter.unusedSimpArgs false
set_option maxRecDepth 65536
set_option maxHeartbeats 40000000
namespace Jvm.Wk
abbrev F4 := Fin 4
abbrev F2 := Fin 2
open Sem ClassFile Op Lib Jvm.Stand Jvm.Free Jvm.LawKit Jvm.RoadKit
/-- the array at a holds just these values -/
def Ary (Z : State) (h : Heap) (a : Addr) (ty : FieldType) (vs : List Value) : Prop :=
  ∃ c : Cell, Arr Z h a c ty ∧ c.slots.toList = vs ∧ (∀ v ∈ vs, fits ty v = true) ∧ vs.length < 2 ^ 31
/-- how a body ends (of the start and the end), and what is known of the tables where its walk stands -/
abbrev FEnd := (State → Outcome → State → List Loc → Nat → Nat → Prop) × (Vm → Prop)
abbrev FN : FEnd := ⟨FrameEnd, fun _ => True⟩
/-- the wide frame: String constants may have been resolved, the table of interned texts may have grown -/
abbrev FEW : FEnd := ⟨fun s o t L k n => (∃ v : Option Value, o = Outcome.returned v) ∧ s.Warmed39 t.vm ∧ (∀ (j : Nat) (p : Array UInt16 × Addr), s.vm.interned.size ≤ j → t.vm.interned[j]? = some p → s.heap.size ≤ p.2 ∧ p.2 < t.heap.size) ∧ s.sameButNew { t with vm := s.vm } L k n, fun _ => True⟩
def Endz (FE : FEnd) (p : Program) (e : Env) (below : List Frame) (s : State) (R : Room) (n0 : Nat) (P : Option Value → Heap → Prop) (T : State) (g : JFrame) : Prop :=
  ∃ s₂ o, Steps p.tables e below (T.setTop g) s₂ ∧ s₂.status = .running ∧ Ended s₂ below o ∧ ∃ v L, o = .returned v ∧ (P v s₂.heap ∧ Fr n0 L) ∧ FE.1 s o s₂ L R.cells R.slots
/-- from pc, with these locals, this stack and this heap, the body comes to its end, and P holds there -/
def WG (FE : FEnd) (l : Launch) (R : Room) (Z : State) (own nm : String) (bytes : ByteArray) (maxL : Nat) (ret : Option FieldType) (n0 : Nat) (P : Option Value → Heap → Prop) (h : Heap) (cells slots pc : Nat) (Ls : Array Slot) (st : List Value) : Prop :=
  ∀ (p : Program) (e : Env) (s : State) (m : MethodId) (args : Array Value) (below : List Frame) (meth : Method) (c : Code) (T : State) (locs : List Loc),
    p.tables.exec = Jvm.exec → Z.Warmed39 s.vm → c.code = bytes → c.maxLocals = maxL → s.vm.findClass own = some m.cls → meth.sig.returnType = ret → meth.locks = false → meth.name = nm → (n0 ≤ s.heap.size ∧ FE.2 s.vm) →
    Stand p l e R s m args below meth c T locs cells slots → T.heap = h → Fr n0 locs → Endz FE p e below s R n0 P T (mkF m pc Ls st)
abbrev W := WG FN
/-- a method's contract where it is called with these arguments over this heap -/
def ConG (FE : FEnd) (ws : List Jvm.Cond) (l : Launch) (Z : State) (y : MethodName) (bytes : ByteArray) (maxL : Nat) (ret : Option FieldType) (rm : Room) (as : Array Value) (h : Heap) (n0 : Nat) (P : Option Value → Heap → Prop) : Prop :=
  MetFree l y (head1 (Jvm.Cond.code y bytes maxL ret :: ws) rm) (fun a U => a = as ∧ Z.Warmed39 U.vm ∧ U.heap = h) (fun _ _ _ _ _ => True) (fun _ U o U' => ∃ v L, o = .returned v ∧ (P v U'.heap ∧ Fr n0 L) ∧ FE.1 U o U' L rm.cells rm.slots)
abbrev ConW := ConG FN
abbrev Con := ConW []
section Rules
variable {FE : FEnd} {l : Launch} {R : Room} {Z : State} {own nm : String} {bytes : ByteArray} {maxL : Nat} {ret : Option FieldType} {n0 : Nat} {P : Option Value → Heap → Prop} {h : Heap} {cells slots pc : Nat} {Ls : Array Slot} {st : List Value} {a0 : Array Value}
theorem Endz.step {p : Program} {e : Env} {below : List Frame} {s : State} {T T' : State} {g g' : JFrame} (k : Endz FE p e below s R n0 P T' g') (f : ∀ t, Steps p.tables e below (T'.setTop g') t → Steps p.tables e below (T.setTop g) t) : Endz FE p e below s R n0 P T g := by
  obtain ⟨s₂, o, h1, h2⟩ := k
  exact ⟨s₂, o, f _ h1, h2⟩
theorem WG.step {pc' : Nat} {Ls' : Array Slot} {st' : List Value} (k : WG FE l R Z own nm bytes maxL ret n0 P h cells slots pc' Ls' st')
    (f : ∀ (p : Program) (e : Env) (s : State) (m : MethodId) (args : Array Value) (below : List Frame) (meth : Method) (c : Code) (T : State) (locs : List Loc), p.tables.exec = Jvm.exec → Z.Warmed39 s.vm → c.code = bytes → s.vm.findClass own = some m.cls → Stand p l e R s m args below meth c T locs cells slots → T.heap = h →
      ∀ t, Steps p.tables e below (T.setTop (mkF m pc' Ls' st')) t → Steps p.tables e below (T.setTop (mkF m pc Ls st)) t) : WG FE l R Z own nm bytes maxL ret n0 P h cells slots pc Ls st := by
  intro p e s m args below meth c T locs hx hZ hby hml hown hret hlk hnm hn0 X eT N
  exact (k p e s m args below meth c T locs hx hZ hby hml hown hret hlk hnm hn0 X eT N).step (f p e s m args below meth c T locs hx hZ hby hown X eT)
theorem WG.post {P' : Option Value → Heap → Prop} (k : WG FE l R Z own nm bytes maxL ret n0 P' h cells slots pc Ls st) (f : ∀ v h', P' v h' → P v h') : WG FE l R Z own nm bytes maxL ret n0 P h cells slots pc Ls st := by
  intro p e s m args below meth c T locs hx hZ hby hml hown hret hlk hnm hn0 X eT N
  obtain ⟨s₂, o, h1, h2, h3, v, L, h4, h5, h6⟩ := k p e s m args below meth c T locs hx hZ hby hml hown hret hlk hnm hn0 X eT N
  exact ⟨s₂, o, h1, h2, h3, v, L, h4, ⟨f _ _ h5.1, h5.2⟩, h6⟩
theorem WG.mono {cells' slots' : Nat} (k : WG FE l R Z own nm bytes maxL ret n0 P h cells' slots' pc Ls st) (hc : cells ≤ cells') (hs : slots ≤ slots') : WG FE l R Z own nm bytes maxL ret n0 P h cells slots pc Ls st := by
  intro p e s m args below meth c T locs hx hZ hby hml hown hret hlk hnm hn0 X eT N
  exact k p e s m args below meth c T locs hx hZ hby hml hown hret hlk hnm hn0 { X with same := X.same.mono hc hs } eT N
theorem ConG.post {ws : List Jvm.Cond} {y : MethodName} {rm : Room} {as : Array Value} {P' : Option Value → Heap → Prop} (k : ConG FE ws l Z y bytes maxL ret rm as h n0 P') (f : ∀ v h', P' v h' → P v h') : ConG FE ws l Z y bytes maxL ret rm as h n0 P := by
  intro p e ha hc hk s m args below hf happ hP hK
  obtain ⟨n, o, h1, h2, h3, v, L, h4, h5, h6⟩ := k p e ha hc hk s m args below hf happ hP hK
  exact ⟨n, o, h1, h2, h3, v, L, h4, ⟨f _ _ h5.1, h5.2⟩, h6⟩
theorem ConG.of_W {ws : List Jvm.Cond} {y : MethodName} {rm : Room} {as : Array Value} (hy : plainFor y = true) (hn : n0 ≤ h.size) (hef : ∀ m, entryFrame m as maxL = mkF m 0 Ls []) (k : WG FE l rm Z y.cls y.name bytes maxL ret n0 P h 0 0 0 Ls []) (hI : ∀ vm, FE.2 vm := by intro _; trivial) : ConG FE ws l Z y bytes maxL ret rm as h n0 P := by
  refine MetFree.of_bodySF hy hisR ?_
  intro p e s m args below meth c s₁ Bd hml0 hP hK
  obtain ⟨rfl, hZ, hh⟩ := hP
  have hown : s.vm.findClass y.cls = some m.cls := findClass_of_methodNamed Bd.named
  have hnm := (name_of_methodNamed Bd.named Bd.method).1
  have X0 : Stand p l e rm s m _ below meth c s₁ [] 0 0 := Stand.of_body Bd
  have e0 : s₁.heap = h := by rw [← hh, Bd.state]; rfl
  obtain ⟨s₂, o, h1, h2⟩ := k p e s m _ below meth c s₁ [] Bd.exec hZ Bd.bytes hml0 hown Bd.returns (BodyLoose.notSynchronized Bd) hnm ⟨by rw [hh]; exact hn, hI _⟩ X0 e0 (Fr.nil n0)
  exact ⟨s₂, o, castTop (hef m) h1, h2⟩
/-! pure steps -/
theorem W.isub {x y : Int32} (n : Nat) (hd : decode bytes pc = .ok (.isub, 1)) (hn : pc + 1 = n) (v : Int32) (hv : x - y = v) (k : WG FE l R Z own nm bytes maxL ret n0 P h cells slots n Ls (.int v :: st)) : WG FE l R Z own nm bytes maxL ret n0 P h cells slots pc Ls (.int y :: .int x :: st) := by
  subst hn
  exact k.step fun p e s m args below meth c T locs hx hZ hby hown X eT t q => XS.isub X.here hx rfl (hb hby hd) rfl (hv ▸ q)
theorem W.iand {x y : Int32} (n : Nat) (hd : decode bytes pc = .ok (.iand, 1)) (hn : pc + 1 = n) (v : Int32) (hv : x &&& y = v) (k : WG FE l R Z own nm bytes maxL ret n0 P h cells slots n Ls (.int v :: st)) : WG FE l R Z own nm bytes maxL ret n0 P h cells slots pc Ls (.int y :: .int x :: st) := by
  subst hn
  exact k.step fun p e s m args below meth c T locs hx hZ hby hown X eT t q => XS.iand X.here hx rfl (hb hby hd) rfl (hv ▸ q)
theorem W.irem {x y : Int32} (n : Nat) (hd : decode bytes pc = .ok (.irem, 1)) (hn : pc + 1 = n) (hy : y ≠ 0) (v : Int32) (hv : x % y = v) (k : WG FE l R Z own nm bytes maxL ret n0 P h cells slots n Ls (.int v :: st)) : WG FE l R Z own nm bytes maxL ret n0 P h cells slots pc Ls (.int y :: .int x :: st) := by
  subst hn
  exact k.step fun p e s m args below meth c T locs hx hZ hby hown X eT t q => iremM X hx rfl (hb hby hd) rfl hy (hv ▸ q)
theorem W.iushr {x y : Int32} (n : Nat) (hd : decode bytes pc = .ok (.iushr, 1)) (hn : pc + 1 = n) (v : Int32) (hv : (x.toUInt32 >>> (y &&& 31).toUInt32).toInt32 = v) (k : WG FE l R Z own nm bytes maxL ret n0 P h cells slots n Ls (.int v :: st)) : WG FE l R Z own nm bytes maxL ret n0 P h cells slots pc Ls (.int y :: .int x :: st) := by
  subst hn
  exact k.step fun p e s m args below meth c T locs hx hZ hby hown X eT t q => XS.iushr X.here hx rfl (hb hby hd) rfl (hv ▸ q)
theorem W.i2b {x : Int32} (n : Nat) (hd : decode bytes pc = .ok (.i2b, 1)) (hn : pc + 1 = n) (v : Int32) (hv : x.toInt8.toInt32 = v) (k : WG FE l R Z own nm bytes maxL ret n0 P h cells slots n Ls (.int v :: st)) : WG FE l R Z own nm bytes maxL ret n0 P h cells slots pc Ls (.int x :: st) := by
  subst hn
  exact k.step fun p e s m args below meth c T locs hx hZ hby hown X eT t q => XS.i2b X.here hx rfl (hb hby hd) rfl (hv ▸ q)
theorem W.i2c {x : Int32} (n : Nat) (hd : decode bytes pc = .ok (.i2c, 1)) (hn : pc + 1 = n) (v : Int32) (hv : x.toUInt32.toUInt16.toUInt32.toInt32 = v) (k : WG FE l R Z own nm bytes maxL ret n0 P h cells slots n Ls (.int v :: st)) : WG FE l R Z own nm bytes maxL ret n0 P h cells slots pc Ls (.int x :: st) := by
  subst hn
  exact k.step fun p e s m args below meth c T locs hx hZ hby hown X eT t q => XS.i2c X.here hx rfl (hb hby hd) rfl (hv ▸ q)
theorem W.iconst {i : Int} (n : Nat) (hd : decode bytes pc = .ok (.iconst i, 1)) (hn : pc + 1 = n) (v : Int32) (hv : Int32.ofInt i = v) (k : WG FE l R Z own nm bytes maxL ret n0 P h cells slots n Ls (.int v :: st)) : WG FE l R Z own nm bytes maxL ret n0 P h cells slots pc Ls st := by
  subst hn
  exact k.step fun p e s m args below meth c T locs hx hZ hby hown X eT t q => XS.iconst X.here hx rfl (hb hby hd) (hv ▸ q)
theorem W.bipush {i : Int} (n : Nat) (hd : decode bytes pc = .ok (.bipush i, 2)) (hn : pc + 2 = n) (v : Int32) (hv : (Int8.ofInt i).toInt32 = v) (k : WG FE l R Z own nm bytes maxL ret n0 P h cells slots n Ls (.int v :: st)) : WG FE l R Z own nm bytes maxL ret n0 P h cells slots pc Ls st := by
  subst hn
  exact k.step fun p e s m args below meth c T locs hx hZ hby hown X eT t q => XS.bipush X.here hx rfl (hb hby hd) (hv ▸ q)
theorem W.sipush {i : Int} (n : Nat) (hd : decode bytes pc = .ok (.sipush i, 3)) (hn : pc + 3 = n) (v : Int32) (hv : (Int16.ofInt i).toInt32 = v) (k : WG FE l R Z own nm bytes maxL ret n0 P h cells slots n Ls (.int v :: st)) : WG FE l R Z own nm bytes maxL ret n0 P h cells slots pc Ls st := by
  subst hn
  exact k.step fun p e s m args below meth c T locs hx hZ hby hown X eT t q => XS.sipush X.here hx rfl (hb hby hd) (hv ▸ q)
theorem W.aconst_null (n : Nat) (hd : decode bytes pc = .ok (.aconst_null, 1)) (hn : pc + 1 = n) (k : WG FE l R Z own nm bytes maxL ret n0 P h cells slots n Ls (.null :: st)) : WG FE l R Z own nm bytes maxL ret n0 P h cells slots pc Ls st := by
  subst hn
  exact k.step fun p e s m args below meth c T locs hx hZ hby hown X eT t q => XS.aconstNull X.here hx rfl (hb hby hd) q
theorem W.ldcI {i : Nat} {v : Int32} (n : Nat) (hd : decode bytes pc = .ok (.ldc i, 2)) (hn : pc + 2 = n) (w : (Jvm.Cond.constant own i v).before a0 Z = true) (k : WG FE l R Z own nm bytes maxL ret n0 P h cells slots n Ls (.int v :: st)) : WG FE l R Z own nm bytes maxL ret n0 P h cells slots pc Ls st := by
  subst hn
  exact k.step fun p e s m args below meth c T locs hx hZ hby hown X eT t q => X.ldcI hx hown (mvT hZ w) rfl (hb hby hd) q
theorem W.iload {i : Nat} {v : Int32} (n : Nat) (hd : decode bytes pc = .ok (.iload i, 2)) (hn : pc + 2 = n) (hl : Ls[i]? = some (.val (.int v))) (k : WG FE l R Z own nm bytes maxL ret n0 P h cells slots n Ls (.int v :: st)) : WG FE l R Z own nm bytes maxL ret n0 P h cells slots pc Ls st := by
  subst hn
  exact k.step fun p e s m args below meth c T locs hx hZ hby hown X eT t q => XS.iload X.here hx rfl (hb hby hd) hl q
theorem W.iloadN {i : F4} {v : Int32} (n : Nat) (hd : decode bytes pc = .ok (.iload_n i, 1)) (hn : pc + 1 = n) (hl : Ls[i.val]? = some (.val (.int v))) (k : WG FE l R Z own nm bytes maxL ret n0 P h cells slots n Ls (.int v :: st)) : WG FE l R Z own nm bytes maxL ret n0 P h cells slots pc Ls st := by
  subst hn
  exact k.step fun p e s m args below meth c T locs hx hZ hby hown X eT t q => XS.iloadN X.here hx rfl (hb hby hd) hl q
theorem W.aload {i : Nat} {v : Value} (n : Nat) (hd : decode bytes pc = .ok (.aload i, 2)) (hn : pc + 2 = n) (hl : Ls[i]? = some (.val v)) (hv : v.isRef = true) (k : WG FE l R Z own nm bytes maxL ret n0 P h cells slots n Ls (v :: st)) : WG FE l R Z own nm bytes maxL ret n0 P h cells slots pc Ls st := by
  subst hn
  exact k.step fun p e s m args below meth c T locs hx hZ hby hown X eT t q => XS.aload X.here hx rfl (hb hby hd) hl hv q
theorem W.aloadN {i : F4} {v : Value} (n : Nat) (hd : decode bytes pc = .ok (.aload_n i, 1)) (hn : pc + 1 = n) (hl : Ls[i.val]? = some (.val v)) (hv : v.isRef = true) (k : WG FE l R Z own nm bytes maxL ret n0 P h cells slots n Ls (v :: st)) : WG FE l R Z own nm bytes maxL ret n0 P h cells slots pc Ls st := by
  subst hn
  exact k.step fun p e s m args below meth c T locs hx hZ hby hown X eT t q => XS.aloadN X.here hx rfl (hb hby hd) hl hv q
theorem W.istore {i : Nat} {v : Int32} (n : Nat) (hd : decode bytes pc = .ok (.istore i, 2)) (hn : pc + 2 = n) (Ls' : Array Slot) (hl : storeLocals Ls i (.int v) = some Ls') (k : WG FE l R Z own nm bytes maxL ret n0 P h cells slots n Ls' st) : WG FE l R Z own nm bytes maxL ret n0 P h cells slots pc Ls (.int v :: st) := by
  subst hn
  exact k.step fun p e s m args below meth c T locs hx hZ hby hown X eT t q => XS.istore X.here hx rfl (hb hby hd) rfl hl q
theorem W.istoreN {i : F4} {v : Int32} (n : Nat) (hd : decode bytes pc = .ok (.istore_n i, 1)) (hn : pc + 1 = n) (Ls' : Array Slot) (hl : storeLocals Ls i.val (.int v) = some Ls') (k : WG FE l R Z own nm bytes maxL ret n0 P h cells slots n Ls' st) : WG FE l R Z own nm bytes maxL ret n0 P h cells slots pc Ls (.int v :: st) := by
  subst hn
  exact k.step fun p e s m args below meth c T locs hx hZ hby hown X eT t q => XS.istoreN X.here hx rfl (hb hby hd) rfl hl q
theorem W.astore {i : Nat} {v : Value} (n : Nat) (hd : decode bytes pc = .ok (.astore i, 2)) (hn : pc + 2 = n) (hv : v.isRef = true) (Ls' : Array Slot) (hl : storeLocals Ls i v = some Ls') (k : WG FE l R Z own nm bytes maxL ret n0 P h cells slots n Ls' st) : WG FE l R Z own nm bytes maxL ret n0 P h cells slots pc Ls (v :: st) := by
  subst hn
  exact k.step fun p e s m args below meth c T locs hx hZ hby hown X eT t q => XS.astore X.here hx rfl (hb hby hd) rfl hv hl q
theorem W.astoreN {i : F4} {v : Value} (n : Nat) (hd : decode bytes pc = .ok (.astore_n i, 1)) (hn : pc + 1 = n) (hv : v.isRef = true) (Ls' : Array Slot) (hl : storeLocals Ls i.val v = some Ls') (k : WG FE l R Z own nm bytes maxL ret n0 P h cells slots n Ls' st) : WG FE l R Z own nm bytes maxL ret n0 P h cells slots pc Ls (v :: st) := by
  subst hn
  exact k.step fun p e s m args below meth c T locs hx hZ hby hown X eT t q => XS.astoreN X.here hx rfl (hb hby hd) rfl hv hl q
theorem W.iinc {i : Nat} {cst : Int} {x : Int32} (n : Nat) (hd : decode bytes pc = .ok (.iinc i cst, 3)) (hn : pc + 3 = n) (hx0 : Ls[i]? = some (.val (.int x))) (v : Int32) (hv : x + Int32.ofInt cst = v) (Ls' : Array Slot) (hl : storeLocals Ls i (.int v) = some Ls') (k : WG FE l R Z own nm bytes maxL ret n0 P h cells slots n Ls' st) : WG FE l R Z own nm bytes maxL ret n0 P h cells slots pc Ls st := by
  subst hn
  exact k.step fun p e s m args below meth c T locs hx hZ hby hown X eT t q => XS.iinc X.here hx rfl (hb hby hd) hx0 (hv ▸ hl) q
theorem W.dup {v : Value} (n : Nat) (hd : decode bytes pc = .ok (.dup, 1)) (hn : pc + 1 = n) (hc : v.category = 1) (k : WG FE l R Z own nm bytes maxL ret n0 P h cells slots n Ls (v :: v :: st)) : WG FE l R Z own nm bytes maxL ret n0 P h cells slots pc Ls (v :: st) := by
  subst hn
  exact k.step fun p e s m args below meth c T locs hx hZ hby hown X eT t q => XS.dup X.here hx rfl (hb hby hd) rfl hc q
theorem W.goto {o : Int} (n : Nat) (hd : decode bytes pc = .ok (.goto o, 3)) (hn : (pc : Int) + o = (n : Int)) (k : WG FE l R Z own nm bytes maxL ret n0 P h cells slots n Ls st) : WG FE l R Z own nm bytes maxL ret n0 P h cells slots pc Ls st :=
  k.step fun p e s m args below meth c T locs hx hZ hby hown X eT t q => XS.goto X.here hx rfl (pc0 := pc) (pc' := n) rfl (hb hby hd) (by omega) (by omega) q
theorem W.icmp_ge {x y : Int32} {o : Int} (n n' : Nat) (hd : decode bytes pc = .ok (.if_icmp .ge o, 3)) (hn : (pc : Int) + o = (n : Int)) (hn' : pc + 3 = n') (k : ¬ x < y → WG FE l R Z own nm bytes maxL ret n0 P h cells slots n Ls st) (k' : x < y → WG FE l R Z own nm bytes maxL ret n0 P h cells slots n' Ls st) : WG FE l R Z own nm bytes maxL ret n0 P h cells slots pc Ls (.int y :: .int x :: st) := by
  subst hn'
  by_cases hc : x < y
  · exact (k' hc).step fun p e s m args below meth c T locs hx hZ hby hown X eT t q => XS.icmpNo X.here hx rfl (hb hby hd) rfl (tlt hc).2.1 q
  · exact (k hc).step fun p e s m args below meth c T locs hx hZ hby hown X eT t q => XS.icmpYes X.here hx rfl (pc0 := pc) (pc' := n) rfl (hb hby hd) rfl (flt hc).2.1 (by omega) (by omega) q
theorem W.icmp_gt {x y : Int32} {o : Int} (n n' : Nat) (hd : decode bytes pc = .ok (.if_icmp .gt o, 3)) (hn : (pc : Int) + o = (n : Int)) (hn' : pc + 3 = n') (k : y < x → WG FE l R Z own nm bytes maxL ret n0 P h cells slots n Ls st) (k' : ¬ y < x → WG FE l R Z own nm bytes maxL ret n0 P h cells slots n' Ls st) : WG FE l R Z own nm bytes maxL ret n0 P h cells slots pc Ls (.int y :: .int x :: st) := by
  subst hn'
  by_cases hc : y < x
  · exact (k hc).step fun p e s m args below meth c T locs hx hZ hby hown X eT t q => XS.icmpYes X.here hx rfl (pc0 := pc) (pc' := n) rfl (hb hby hd) rfl (tlt hc).2.2.1 (by omega) (by omega) q
  · exact (k' hc).step fun p e s m args below meth c T locs hx hZ hby hown X eT t q => XS.icmpNo X.here hx rfl (hb hby hd) rfl (flt hc).2.2.1 q
theorem W.icmp_le {x y : Int32} {o : Int} (n n' : Nat) (hd : decode bytes pc = .ok (.if_icmp .le o, 3)) (hn : (pc : Int) + o = (n : Int)) (hn' : pc + 3 = n') (k : ¬ y < x → WG FE l R Z own nm bytes maxL ret n0 P h cells slots n Ls st) (k' : y < x → WG FE l R Z own nm bytes maxL ret n0 P h cells slots n' Ls st) : WG FE l R Z own nm bytes maxL ret n0 P h cells slots pc Ls (.int y :: .int x :: st) := by
  subst hn'
  by_cases hc : y < x
  · exact (k' hc).step fun p e s m args below meth c T locs hx hZ hby hown X eT t q => XS.icmpNo X.here hx rfl (hb hby hd) rfl (tlt hc).2.2.2 q
  · exact (k hc).step fun p e s m args below meth c T locs hx hZ hby hown X eT t q => XS.icmpYes X.here hx rfl (pc0 := pc) (pc' := n) rfl (hb hby hd) rfl (flt hc).2.2.2 (by omega) (by omega) q
theorem W.icmp_eq {x y : Int32} {o : Int} (n n' : Nat) (hd : decode bytes pc = .ok (.if_icmp .eq o, 3)) (hn : (pc : Int) + o = (n : Int)) (hn' : pc + 3 = n') (k : x = y → WG FE l R Z own nm bytes maxL ret n0 P h cells slots n Ls st) (k' : ¬ x = y → WG FE l R Z own nm bytes maxL ret n0 P h cells slots n' Ls st) : WG FE l R Z own nm bytes maxL ret n0 P h cells slots pc Ls (.int y :: .int x :: st) := by
  subst hn'
  by_cases hc : x = y
  · exact (k hc).step fun p e s m args below meth c T locs hx hZ hby hown X eT t q => XS.icmpYes X.here hx rfl (pc0 := pc) (pc' := n) rfl (hb hby hd) rfl (teq hc).1 (by omega) (by omega) q
  · exact (k' hc).step fun p e s m args below meth c T locs hx hZ hby hown X eT t q => XS.icmpNo X.here hx rfl (hb hby hd) rfl (feq hc).1 q
theorem W.if_eq {x : Int32} {o : Int} (n n' : Nat) (hd : decode bytes pc = .ok (.ifCond .eq o, 3)) (hn : (pc : Int) + o = (n : Int)) (hn' : pc + 3 = n') (k : x = (0 : Int32) → WG FE l R Z own nm bytes maxL ret n0 P h cells slots n Ls st) (k' : ¬ x = (0 : Int32) → WG FE l R Z own nm bytes maxL ret n0 P h cells slots n' Ls st) : WG FE l R Z own nm bytes maxL ret n0 P h cells slots pc Ls (.int x :: st) := by
  subst hn'
  by_cases hc : x = (0 : Int32)
  · exact (k hc).step fun p e s m args below meth c T locs hx hZ hby hown X eT t q => XS.ifYes X.here hx rfl (pc0 := pc) (pc' := n) rfl (hb hby hd) rfl ((if0 _ _).trans (teq hc).1) (by omega) (by omega) q
  · exact (k' hc).step fun p e s m args below meth c T locs hx hZ hby hown X eT t q => XS.ifNo X.here hx rfl (hb hby hd) rfl ((if0 _ _).trans (feq hc).1) q
theorem W.icmp_ne {x y : Int32} {o : Int} (n n' : Nat) (hd : decode bytes pc = .ok (.if_icmp .ne o, 3)) (hn : (pc : Int) + o = (n : Int)) (hn' : pc + 3 = n') (k : ¬ x = y → WG FE l R Z own nm bytes maxL ret n0 P h cells slots n Ls st) (k' : x = y → WG FE l R Z own nm bytes maxL ret n0 P h cells slots n' Ls st) : WG FE l R Z own nm bytes maxL ret n0 P h cells slots pc Ls (.int y :: .int x :: st) := by
  subst hn'
  by_cases hc : x = y
  · exact (k' hc).step fun p e s m args below meth c T locs hx hZ hby hown X eT t q => XS.icmpNo X.here hx rfl (hb hby hd) rfl (teq hc).2 q
  · exact (k hc).step fun p e s m args below meth c T locs hx hZ hby hown X eT t q => XS.icmpYes X.here hx rfl (pc0 := pc) (pc' := n) rfl (hb hby hd) rfl (feq hc).2 (by omega) (by omega) q
theorem W.if_ne {x : Int32} {o : Int} (n n' : Nat) (hd : decode bytes pc = .ok (.ifCond .ne o, 3)) (hn : (pc : Int) + o = (n : Int)) (hn' : pc + 3 = n') (k : ¬ x = (0 : Int32) → WG FE l R Z own nm bytes maxL ret n0 P h cells slots n Ls st) (k' : x = (0 : Int32) → WG FE l R Z own nm bytes maxL ret n0 P h cells slots n' Ls st) : WG FE l R Z own nm bytes maxL ret n0 P h cells slots pc Ls (.int x :: st) := by
  subst hn'
  by_cases hc : x = (0 : Int32)
  · exact (k' hc).step fun p e s m args below meth c T locs hx hZ hby hown X eT t q => XS.ifNo X.here hx rfl (hb hby hd) rfl ((if0 _ _).trans (teq hc).2) q
  · exact (k hc).step fun p e s m args below meth c T locs hx hZ hby hown X eT t q => XS.ifYes X.here hx rfl (pc0 := pc) (pc' := n) rfl (hb hby hd) rfl ((if0 _ _).trans (feq hc).2) (by omega) (by omega) q
theorem W.ifnonnull_null {o : Int} (n : Nat) (hd : decode bytes pc = .ok (.ifnonnull o, 3)) (hn : pc + 3 = n) (k : WG FE l R Z own nm bytes maxL ret n0 P h cells slots n Ls st) : WG FE l R Z own nm bytes maxL ret n0 P h cells slots pc Ls (.null :: st) := by
  subst hn
  exact k.step fun p e s m args below meth c T locs hx hZ hby hown X eT t q => XS.ifnonnullNo X.here hx rfl (hb hby hd) rfl q
theorem W.ifnonnull_ref {o : Int} {a : Addr} (n : Nat) (hd : decode bytes pc = .ok (.ifnonnull o, 3)) (hn : (pc : Int) + o = (n : Int)) (k : WG FE l R Z own nm bytes maxL ret n0 P h cells slots n Ls st) : WG FE l R Z own nm bytes maxL ret n0 P h cells slots pc Ls (.ref a :: st) := by
  exact k.step fun p e s m args below meth c T locs hx hZ hby hown X eT t q => XS.ifnonnullYes X.here hx rfl (pc0 := pc) (pc' := n) rfl (hb hby hd) rfl (by omega) (by omega) q
theorem W.acmp_ne {x y : Value} {o : Int} (n n' : Nat) (hd : decode bytes pc = .ok (.if_acmp .ne o, 3)) (hn : (pc : Int) + o = (n : Int)) (hn' : pc + 3 = n') (h1 : x.isRef = true) (h2 : y.isRef = true) (k : ¬ x = y → WG FE l R Z own nm bytes maxL ret n0 P h cells slots n Ls st) (k' : x = y → WG FE l R Z own nm bytes maxL ret n0 P h cells slots n' Ls st) : WG FE l R Z own nm bytes maxL ret n0 P h cells slots pc Ls (y :: x :: st) := by
  subst hn'
  by_cases hc : x = y
  · exact (k' hc).step fun p e s m args below meth c T locs hx hZ hby hown X eT t q => RoadKit.acmp X hx rfl h1 h2 (pc0 := pc) (pc' := pc + 3) (same := true) rfl (hb hby hd) rfl (decide_eq_true hc) (by omega) (by simp [acV]; try omega) q
  · exact (k hc).step fun p e s m args below meth c T locs hx hZ hby hown X eT t q => RoadKit.acmp X hx rfl h1 h2 (pc0 := pc) (pc' := n) (same := false) rfl (hb hby hd) rfl (decide_eq_false hc) (by omega) (by simp [acV]; try omega) q
/-! the heap -/
theorem Fr.one {k : Nat} {L : List Loc} {a : Addr} {sl : Nat} (N : Fr k L) (q : k ≤ a) : Fr k (L ++ [⟨a, sl⟩]) := N.app fun y hy => by cases List.mem_singleton.mp hy; exact q
theorem Keep.of_ext {h h' : Heap} (E : Ext h h') : Keep h h' [] := (Keep.refl h []).ext E
theorem size_le {p : Program} {e : Env} {s : State} {m : MethodId} {args : Array Value} {below : List Frame} {meth : Method} {c : Code} {T : State} {locs : List Loc} (X : Stand p l e R s m args below meth c T locs cells slots) : s.heap.size ≤ T.heap.size := X.same.2.1
theorem W.getfield {i : Nat} {R0 O f d host : String} {a : Addr} {v : Value} (n : Nat) (hd : decode bytes pc = .ok (.getfield i, 3)) (hn : pc + 3 = n) (w : (Jvm.Cond.fieldLink own i R0 f d).before a0 Z = true ∨ (Jvm.Cond.fieldLinkNest own i R0 f d host).before a0 Z = true) (via : Via Z R0 O f d) (F : Fld Z h a O f d v) (k : WG FE l R Z own nm bytes maxL ret n0 P h cells slots n Ls (v :: st)) : WG FE l R Z own nm bytes maxL ret n0 P h cells slots pc Ls (.ref a :: st) := by
  subst hn
  intro p e s m args below meth c T locs hx hZ hby hml hown hret hlk hnm hn0 X eT N
  obtain ⟨T', X', e', st'⟩ := getF X hx hZ hown w via eT F (g := mkF m pc Ls (.ref a :: st)) rfl rfl (hb hby hd)
  exact (k p e s m args below meth c T' locs hx hZ hby hml hown hret hlk hnm hn0 X' e' N).step st'
theorem W.getstatic {i : Nat} {R0 O f d host : String} {v : Value} (n : Nat) (hd : decode bytes pc = .ok (.getstatic i, 3)) (hn : pc + 3 = n) (w : (Jvm.Cond.fieldLink own i R0 f d).before a0 Z = true ∨ (Jvm.Cond.fieldLinkNest own i R0 f d host).before a0 Z = true) (via : Via Z R0 O f d) (F : Sta Z h O f d v) (k : WG FE l R Z own nm bytes maxL ret n0 P h cells slots n Ls (v :: st)) : WG FE l R Z own nm bytes maxL ret n0 P h cells slots pc Ls st := by
  subst hn
  intro p e s m args below meth c T locs hx hZ hby hml hown hret hlk hnm hn0 X eT N
  obtain ⟨T', X', e', st'⟩ := getS2 X hx hZ hown w via eT F (g := mkF m pc Ls st) rfl (hb hby hd)
  exact (k p e s m args below meth c T' locs hx hZ hby hml hown hret hlk hnm hn0 X' e' N).step st'
theorem W.putfield {i kk : Nat} {R0 O f d host C : String} {ty : FieldType} {a : Addr} {v old : Value} (n : Nat) (hd : decode bytes pc = .ok (.putfield i, 3)) (hn : pc + 3 = n) (w : (Jvm.Cond.fieldLink own i R0 f d).before a0 Z = true ∨ (Jvm.Cond.fieldLinkNest own i R0 f d host).before a0 Z = true) (via : Via Z R0 O f d) (F : Fld Z h a O f d old) (E : Exa Z h a C)
    (L : (Jvm.Cond.lays C O f d).before a0 Z = true ∨ ((Jvm.Cond.laysFinal C O f d).before a0 Z = true ∧ own = O ∧ nm = "<init>")) (wi : (Jvm.Cond.instantiable C kk).before a0 Z = true) (hty : parseFieldDescriptor d = some ty) (hv : narrow ty v = v) (hf : fits ty v = true) (ge : n0 ≤ a)
    (k : ∀ h', Wr h h' a (RoadKit.slotOf Z O f d) v → Fld Z h' a O f d v → Exa Z h' a C → Keep h h' [a] → WG FE l R Z own nm bytes maxL ret n0 P h' cells slots n Ls st) : WG FE l R Z own nm bytes maxL ret n0 P h cells slots pc Ls (v :: .ref a :: st) := by
  subst hn
  intro p e s m args below meth c T locs hx hZ hby hml hown hret hlk hnm hn0 X eT N
  obtain ⟨T', h', X', e', W', st'⟩ := putF X hx hZ hown w via eT F E (L.imp id fun q => ⟨q.1, q.2.1, hnm.trans q.2.2⟩) wi hty hv hf (g := mkF m pc Ls (v :: .ref a :: st)) rfl rfl (hb hby hd)
  exact (k h' W' (F.same W') (E.wr W') (Keep.of_wr W') p e s m args below meth c T' _ hx hZ hby hml hown hret hlk hnm hn0 X' e' (Fr.one N ge)).step st'
theorem W.putfieldN {i kk : Nat} {R0 O f d C : String} {ty : FieldType} {a : Addr} {v old : Value} (n : Nat) (hd : decode bytes pc = .ok (.putfield i, 3)) (hn : pc + 3 = n) (w : (Jvm.Cond.fieldLink own i R0 f d).before a0 Z = true) (via : Via Z R0 O f d) (F : Fld Z h a O f d old) (E : Exa Z h a C)
    (L : (Jvm.Cond.lays C O f d).before a0 Z = true ∨ ((Jvm.Cond.laysFinal C O f d).before a0 Z = true ∧ own = O ∧ nm = "<init>")) (wi : (Jvm.Cond.instantiable C kk).before a0 Z = true) (hty : parseFieldDescriptor d = some ty) (v' : Value) (hv : narrow ty v = v') (hf : fits ty v' = true) (ge : n0 ≤ a)
    (k : ∀ h', Wr h h' a (RoadKit.slotOf Z O f d) v' → Fld Z h' a O f d v' → Exa Z h' a C → Keep h h' [a] → WG FE l R Z own nm bytes maxL ret n0 P h' cells slots n Ls st) : WG FE l R Z own nm bytes maxL ret n0 P h cells slots pc Ls (v :: .ref a :: st) := by
  subst hn
  intro p e s m args below meth c T locs hx hZ hby hml hown hret hlk hnm hn0 X eT N
  obtain ⟨T', h', X', e', W', st'⟩ := putFN X hx hZ hown w via eT F E (L.imp id fun q => ⟨q.1, q.2.1, hnm.trans q.2.2⟩) wi hty hv hf (g := mkF m pc Ls (v :: .ref a :: st)) rfl rfl (hb hby hd)
  exact (k h' W' (F.same W') (E.wr W') (Keep.of_wr W') p e s m args below meth c T' _ hx hZ hby hml hown hret hlk hnm hn0 X' e' (Fr.one N ge)).step st'
theorem W.new {i ns : Nat} {C : String} (n : Nat) (hd : decode bytes pc = .ok (.new i, 3)) (hn : pc + 3 = n) (w : (Jvm.Cond.classLink own i C).before a0 Z = true) (wi : (Jvm.Cond.instantiable C ns).before a0 Z = true) (wz : (Jvm.Cond.initialized C).before a0 Z = true) (hc : cells + 1 ≤ R.cells) (hs : slots + ns ≤ R.slots)
    (k : ∀ h' b, b = h.size → n0 ≤ b → Ext h h' → Keep h h' [] → Exa Z h' b C → (∀ {O f d : String} {ty : FieldType}, Laid Z a0 C O f d → parseFieldDescriptor d = some ty → Fld Z h' b O f d (defaultValue ty)) → WG FE l R Z own nm bytes maxL ret n0 P h' (cells + 1) (slots + ns) n Ls (.ref b :: st)) : WG FE l R Z own nm bytes maxL ret n0 P h cells slots pc Ls st := by
  subst hn
  intro p e s m args below meth c T locs hx hZ hby hml hown hret hlk hnm hn0 X eT N
  obtain ⟨T', h', X', e', E', A', D', -, st'⟩ := newO X hx hZ hown w wi wz eT (g := mkF m pc Ls st) rfl (hb hby hd) hc hs
  have hb0 : n0 ≤ h.size := Nat.le_trans hn0.1 (eT ▸ size_le X)
  exact (k h' h.size rfl hb0 E' (Keep.of_ext E') A' D' p e s m args below meth c T' _ hx hZ hby hml hown hret hlk hnm hn0 X' e' N).step st'
theorem Ary.lt {a : Addr} {ty : FieldType} {vs : List Value} (A : Ary Z h a ty vs) : a < h.size := by obtain ⟨c, A, -⟩ := A; exact A.lt
theorem Ary.keep {h' : Heap} {ws : List Addr} {a : Addr} {ty : FieldType} {vs : List Value} (A : Ary Z h a ty vs) (K : Keep h h' ws) (q : a ∉ ws) : Ary Z h' a ty vs := by obtain ⟨c, A, r⟩ := A; exact ⟨c, ⟨K.2.1 a c A.1 q, A.2⟩, r⟩
theorem Ary.new {k : ClassId} {a : Addr} {ty : FieldType} {z : Int32} (A : Arr Z h a (newA k ty z) ty) (hf : fits ty (defaultValue ty) = true) : Ary Z h a ty (List.replicate z.toNatClampNeg (defaultValue ty)) :=
  ⟨_, A, by simp [newA], fun v hv => by rw [(List.mem_replicate.mp hv).2]; exact hf, by rw [List.length_replicate]; have := Int32.toInt_lt z; simp only [Int32.toNatClampNeg]; omega⟩
theorem Ary.set {h' : Heap} {a : Addr} {ty : FieldType} {vs : List Value} {i : Nat} {v : Value} (A : Ary Z h a ty vs) (W' : Wr h h' a i v) (hf : fits ty v = true) : Ary Z h' a ty (vs.set i v) := by
  obtain ⟨c, A, rfl, F, S⟩ := A
  exact ⟨_, A.same W', by simp [Cell.setSlot], fun w hw => (List.mem_or_eq_of_mem_set hw).elim (fun q => F w q) (fun q => q ▸ hf), by simpa using S⟩
theorem Ary.arv {a : Addr} {ty : FieldType} {vs : List Value} (A : Ary Z h a ty vs) (d : Value) : ∃ k, Arv Z h a k ty vs.length.toInt32 vs d := by
  obtain ⟨c, A, rfl, F, S⟩ := A
  have hz : (c.slots.toList.length.toInt32).toInt = c.slots.toList.length := Int32.toInt_ofNat_small S
  have hn : (c.slots.toList.length.toInt32).toNatClampNeg = c.slots.size := by simp only [Int32.toNatClampNeg]; rw [hz]; simp
  refine ⟨c.cls, c, A, rfl, hn.symm, fun q => ?_, fun i hi => ?_, fun i hi => ?_⟩
  · have := Int32.lt_iff_toInt_lt.mp q; rw [hz] at this; have e0 : (0 : Int32).toInt = 0 := rfl; omega
  · rw [List.getD_eq_getElem?_getD]; simp [hi]
  · rw [List.getD_eq_getElem?_getD]; exact F _ (by simp [hi])
theorem Ary.of_arv {a : Addr} {k : ClassId} {ty : FieldType} {vs : List Value} {z : Int32} {d : Value} (A : Arv Z h a k ty z vs d) (hz : z.toNatClampNeg = vs.length) : Ary Z h a ty vs := by
  obtain ⟨c, A, q1, q2, q3, H, G⟩ := A
  have hl : c.slots.toList = vs := by
    apply List.ext_getElem?
    intro i
    by_cases hi : i < c.slots.size
    · have := H i hi
      rw [List.getD_eq_getElem?_getD, List.getElem?_eq_getElem (by omega)] at this
      rw [List.getElem?_eq_getElem (l := vs) (by omega)]
      simpa using this
    · rw [List.getElem?_eq_none (by simpa using hi), List.getElem?_eq_none (by omega)]
  refine ⟨c, A, hl, fun v hv => ?_, ?_⟩
  · obtain ⟨i, hi, rfl⟩ := List.getElem_of_mem hv
    have := G i (by omega)
    rwa [List.getD_eq_getElem?_getD, List.getElem?_eq_getElem hi] at this
  · have := Int32.toInt_lt z; simp only [Int32.toNatClampNeg] at hz; omega
theorem W.newarray {aty : ArrayType} {ty : FieldType} {x : Int32} (n : Nat) (hd : decode bytes pc = .ok (.newarray aty, 2)) (hn : pc + 2 = n) (w : (Jvm.Cond.arrayClass ty).before a0 Z = true) (hty : newarray.typeOf aty = ty) (hx0 : ¬ x < 0) (len cap : Nat) (hlen : x.toNatClampNeg = len) (hcap : len ≤ cap) (hb8 : cap * 8 ≤ 536870912) (hc : cells + 1 ≤ R.cells) (hs : slots + cap ≤ R.slots) (hfd : fits ty (defaultValue ty) = true)
    (k : ∀ h' b, b = h.size → n0 ≤ b → Ext h h' → Keep h h' [] → Ary Z h' b ty (List.replicate len (defaultValue ty)) → WG FE l R Z own nm bytes maxL ret n0 P h' (cells + 1) (slots + cap) n Ls (.ref b :: st)) : WG FE l R Z own nm bytes maxL ret n0 P h cells slots pc Ls (.int x :: st) := by
  subst hn hty hlen
  intro p e s m args below meth c T locs hx hZ hby hml hown hret hlk hnm hn0 X eT N
  obtain ⟨T', h', cA, X', e', E', A', st'⟩ := newP X hx hZ w eT (g := mkF m pc Ls (.int x :: st)) rfl (hb hby hd) rfl hx0 hcap hb8 hc hs
  have hb0 : n0 ≤ h.size := Nat.le_trans hn0.1 (eT ▸ size_le X)
  exact (k h' h.size rfl hb0 E' (Keep.of_ext E') (Ary.new A' hfd) p e s m args below meth c T' _ hx hZ hby hml hown hret hlk hnm hn0 X' e' N).step st'
theorem ary_in {c : Cell} {vs : List Value} {j : Int32} {i : Nat} (hc : c.slots.toList = vs) (hj : j.toNatClampNeg = i) (h0 : ¬ j < 0) (hi : i < vs.length) : ¬ (j < 0 ∨ c.slots.size ≤ j.toNatClampNeg) := by
  subst hc hj; rintro (q | q)
  · exact h0 q
  · exact absurd hi (by simpa using q)
theorem W.arraylength {a : Addr} {ty : FieldType} {vs : List Value} (n : Nat) (hd : decode bytes pc = .ok (.arraylength, 1)) (hn : pc + 1 = n) (A : Ary Z h a ty vs) (v : Int32) (hv : vs.length.toInt32 = v) (k : WG FE l R Z own nm bytes maxL ret n0 P h cells slots n Ls (.int v :: st)) : WG FE l R Z own nm bytes maxL ret n0 P h cells slots pc Ls (.ref a :: st) := by
  subst hn
  obtain ⟨c, A, rfl, F, S⟩ := A
  have e : c.slots.size.toInt32 = v := by rw [← hv]; simp
  exact k.step fun p e' s m args below meth c' T locs hx hZ hby hown X eT t q => X.arraylength hx (by rw [eT]; exact A.1) (State.isArrayOf_alike hZ.alike A.2.1) (g := mkF m pc Ls (.ref a :: st)) rfl rfl (hb hby hd) t (e ▸ q)

theorem W.caload {a : Addr} {vs : List Value} {j : Int32} (n : Nat) (hd : decode bytes pc = .ok (.caload, 1)) (hn : pc + 1 = n) (A : Ary Z h a .char vs) (i : Nat) (hj : j.toNatClampNeg = i) (h0 : ¬ j < 0) (v : Value) (hv : vs[i]? = some v) (k : WG FE l R Z own nm bytes maxL ret n0 P h cells slots n Ls (v :: st)) : WG FE l R Z own nm bytes maxL ret n0 P h cells slots pc Ls (.int j :: .ref a :: st) := by
  subst hn
  obtain ⟨c, A, hc, F, S⟩ := A
  have hi : i < vs.length := (List.getElem?_eq_some_iff.mp hv).1
  have hin := ary_in hc hj h0 hi
  have hat : c.slots[j.toNatClampNeg]? = some v := by rw [hj, ← hv, ← hc]; simp
  exact k.step fun p e' s m args below meth c' T locs hx hZ hby hown X eT t q => X.caload hx (j := j) (v := v) (by rw [eT]; exact A.1) (State.isArrayOf_alike hZ.alike A.2.1) A.2.2 hin hat (g := mkF m pc Ls (.int j :: .ref a :: st)) rfl rfl (hb hby hd) t q
theorem W.baload {a : Addr} {vs : List Value} {j : Int32} (n : Nat) (hd : decode bytes pc = .ok (.baload, 1)) (hn : pc + 1 = n) (A : Ary Z h a .byte vs) (i : Nat) (hj : j.toNatClampNeg = i) (h0 : ¬ j < 0) (v : Value) (hv : vs[i]? = some v) (k : WG FE l R Z own nm bytes maxL ret n0 P h cells slots n Ls (v :: st)) : WG FE l R Z own nm bytes maxL ret n0 P h cells slots pc Ls (.int j :: .ref a :: st) := by
  subst hn
  obtain ⟨c, A, hc, F, S⟩ := A
  have hi : i < vs.length := (List.getElem?_eq_some_iff.mp hv).1
  have hin := ary_in hc hj h0 hi
  have hat : c.slots[j.toNatClampNeg]? = some v := by rw [hj, ← hv, ← hc]; simp
  exact k.step fun p e' s m args below meth c' T locs hx hZ hby hown X eT t q => X.baloadBytes hx (j := j) (v := v) (by rw [eT]; exact A.1) (State.isArrayOf_alike hZ.alike A.2.1) A.2.2 hin hat (g := mkF m pc Ls (.int j :: .ref a :: st)) rfl rfl (hb hby hd) t q
theorem W.aaload {a : Addr} {vs : List Value} {j : Int32} {ty : FieldType} (n : Nat) (hd : decode bytes pc = .ok (.aaload, 1)) (hn : pc + 1 = n) (A : Ary Z h a ty vs) (hty : ty.isReference = true) (i : Nat) (hj : j.toNatClampNeg = i) (h0 : ¬ j < 0) (v : Value) (hv : vs[i]? = some v) (k : WG FE l R Z own nm bytes maxL ret n0 P h cells slots n Ls (v :: st)) : WG FE l R Z own nm bytes maxL ret n0 P h cells slots pc Ls (.int j :: .ref a :: st) := by
  subst hn
  obtain ⟨c, A, hc, F, S⟩ := A
  have hi : i < vs.length := (List.getElem?_eq_some_iff.mp hv).1
  have hin := ary_in hc hj h0 hi
  have hat : c.slots[j.toNatClampNeg]? = some v := by rw [hj, ← hv, ← hc]; simp
  exact k.step fun p e' s m args below meth c' T locs hx hZ hby hown X eT t q => X.aaload hx (j := j) (v := v) (by rw [eT]; exact A.1) (State.isArrayOf_alike hZ.alike A.2.1) hty A.2.2 hin hat (g := mkF m pc Ls (.int j :: .ref a :: st)) rfl rfl (hb hby hd) t q
theorem W.castore {a : Addr} {vs : List Value} {j : Int32} {x : Int32} (n : Nat) (hd : decode bytes pc = .ok (.castore, 1)) (hn : pc + 1 = n) (A : Ary Z h a .char vs) (i : Nat) (hj : j.toNatClampNeg = i) (h0 : ¬ j < 0) (hi : i < vs.length) (x' : Int32) (hx' : nar .char x = x') (ge : n0 ≤ a)
    (k : ∀ h', Wr h h' a i (.int x') → Keep h h' [a] → Ary Z h' a .char (vs.set i (.int x')) → WG FE l R Z own nm bytes maxL ret n0 P h' cells slots n Ls st) : WG FE l R Z own nm bytes maxL ret n0 P h cells slots pc Ls (.int x :: .int j :: .ref a :: st) := by
  subst hn hx'
  intro p e s m args below meth c T locs hx hZ hby hml hown hret hlk hnm hn0 X eT N
  have A0 := A
  obtain ⟨cl, A, hc, F, S⟩ := A
  obtain ⟨T', h', X', e', W', st'⟩ := stC X hx hZ eT A (ary_in hc hj h0 hi) (g := mkF m pc Ls (.int x :: .int j :: .ref a :: st)) rfl rfl (hb hby hd)
  subst hj
  exact (k h' W' (Keep.of_wr W') (A0.set W' (fits_nar_char _)) p e s m args below meth c T' _ hx hZ hby hml hown hret hlk hnm hn0 X' e' (Fr.one N ge)).step st'

theorem W.bastore {a : Addr} {vs : List Value} {j : Int32} {x : Int32} (n : Nat) (hd : decode bytes pc = .ok (.bastore, 1)) (hn : pc + 1 = n) (A : Ary Z h a .byte vs) (i : Nat) (hj : j.toNatClampNeg = i) (h0 : ¬ j < 0) (hi : i < vs.length) (x' : Int32) (hx' : nar .byte x = x') (ge : n0 ≤ a)
    (k : ∀ h', Wr h h' a i (.int x') → Keep h h' [a] → Ary Z h' a .byte (vs.set i (.int x')) → WG FE l R Z own nm bytes maxL ret n0 P h' cells slots n Ls st) : WG FE l R Z own nm bytes maxL ret n0 P h cells slots pc Ls (.int x :: .int j :: .ref a :: st) := by
  subst hn hx'
  intro p e s m args below meth c T locs hx hZ hby hml hown hret hlk hnm hn0 X eT N
  have A0 := A
  obtain ⟨cl, A, hc, F, S⟩ := A
  obtain ⟨T', h', X', e', W', st'⟩ := stB X hx hZ eT A (ary_in hc hj h0 hi) (g := mkF m pc Ls (.int x :: .int j :: .ref a :: st)) rfl rfl (hb hby hd)
  subst hj
  exact (k h' W' (Keep.of_wr W') (A0.set W' (fits_nar_byte _)) p e s m args below meth c T' _ hx hZ hby hml hown hret hlk hnm hn0 X' e' (Fr.one N ge)).step st'

theorem Sta.keep0 {h' : Heap} {C f d : String} {v : Value} (K : Keep h h' []) (F : Sta Z h C f d v) : Sta Z h' C f d v := by
  obtain ⟨cf, i, k, fd, st, cell, h1, h2, h3, h4, h5, r⟩ := F; exact ⟨cf, i, k, fd, st, cell, h1, h2, h3, h4, K.2.1 _ _ h5 nin0, r⟩
/-- an array of references, and what may lie in it -/
def AryO (Z : State) (h : Heap) (a : Addr) (C : String) (vs : List Value) : Prop :=
  ∃ c : Cell, Arr Z h a c (.object C) ∧ Ovr Z c.cls C ∧ c.slots.toList = vs ∧ (∀ v ∈ vs, fits (.object C) v = true) ∧ vs.length < 2 ^ 31
theorem AryO.ary {a : Addr} {C : String} {vs : List Value} (A : AryO Z h a C vs) : Ary Z h a (.object C) vs := by obtain ⟨c, A, -, r⟩ := A; exact ⟨c, A, r⟩
theorem AryO.lt {a : Addr} {C : String} {vs : List Value} (A : AryO Z h a C vs) : a < h.size := A.ary.lt
theorem AryO.keep {h' : Heap} {ws : List Addr} {a : Addr} {C : String} {vs : List Value} (A : AryO Z h a C vs) (K : Keep h h' ws) (q : a ∉ ws) : AryO Z h' a C vs := by obtain ⟨c, A, r⟩ := A; exact ⟨c, ⟨K.2.1 a c A.1 q, A.2⟩, r⟩
/-! calls and returns -/
theorem W.initObj {i : Nat} {a : Addr} (n : Nat) (hd : decode bytes pc = .ok (.invokespecial i, 3)) (hn : pc + 3 = n) (w1 : (Jvm.Cond.methodLink own i Lib.objectInit).before a0 Z = true) (w2 : (Jvm.Cond.instanceMethod Lib.objectInit).before a0 Z = true) (w3 : (Jvm.Cond.code Lib.objectInit ⟨#[0xb1]⟩ 1 none).before a0 Z = true) (hsz : Ls.size = maxL) (hf : 1 ≤ R.frames) (W0 : Nat) (hW : (st.map fun v => v.category).sum ≤ W0) (hl : W0 + 12 ≤ R.locals)
    (k : WG FE l R Z own nm bytes maxL ret n0 P h cells slots n Ls st) : WG FE l R Z own nm bytes maxL ret n0 P h cells slots pc Ls (.ref a :: st) := by
  subst hn
  intro p e s m args below meth c T locs hx hZ hby hml hown hret hlk hnm hn0 X eT N
  obtain ⟨T', X', e', st'⟩ := initO X hx hZ hown w1 w2 w3 eT (g := mkF m pc Ls (.ref a :: st)) rfl (by rw [hml]; exact hsz) rfl (hb hby hd) hf (W := W0) (by show 2 * 0 + _ ≤ _; omega) hl
  exact (k p e s m args below meth c T' locs hx hZ hby hml hown hret hlk hnm hn0 X' e' N).step st'
section Calls
variable {y : MethodName} {bytes' : ByteArray} {maxL' : Nat} {ret' : Option FieldType} {rm : Room} {P' : Option Value → Heap → Prop} {rest argsL : List Value} {i : Nat}
theorem W.callS (n : Nat) (hd : decode bytes pc = .ok (.invokestatic i, 3)) (hn : pc + 3 = n) (C : n0 ≤ h.size → Con l Z y bytes' maxL' ret' rm argsL.toArray h n0 P') (w1 : (Jvm.Cond.methodLink own i y).before a0 Z = true) (w2 : (Jvm.Cond.static y).before a0 Z = true) (w3 : (Jvm.Cond.initialized y.cls).before a0 Z = true) (w4 : (Jvm.Cond.code y bytes' maxL' ret').before a0 Z = true)
    (hy : y.cls ≠ "java/lang/invoke/MethodHandle" ∧ y.cls ≠ "java/lang/invoke/VarHandle") {ps : List FieldType} {r : Option FieldType} (hpd : parseMethodDescriptor y.desc = some ⟨ps, r⟩) (hlen : argsL.length = ps.length) (hst : st = argsL.reverse ++ rest) (hsz : Ls.size = maxL) (hf : rm.frames + 1 ≤ R.frames) (W0 : Nat) (hW : (rest.map fun v => v.category).sum ≤ W0) (hl : W0 + (maxL' + 11) + rm.locals ≤ R.locals) (hc : cells + rm.cells ≤ R.cells) (hs : slots + rm.slots ≤ R.slots)
    (k : ∀ v h', P' v h' → WG FE l R Z own nm bytes maxL ret n0 P h' (cells + rm.cells) (slots + rm.slots) n Ls (v.toList ++ rest)) : WG FE l R Z own nm bytes maxL ret n0 P h cells slots pc Ls st := by
  subst hn hst
  intro p e s m args below meth c T locs hx hZ hby hml hown hret hlk hnm hn0 X eT N
  obtain ⟨v, _, ⟨T', L', c', n'⟩, -, X', ⟨Lc, hQ, l', y', z'⟩, st'⟩ := Jvm.LawKit.callS X hx (y := y) hown (mvT hZ w1) (mvT hZ w2) (mvT hZ w3) (mvT hZ w4) hy (backOf (W := W0) (Z := Z) (h := h) (bytes := bytes') (maxL := maxL') (rm := rm) (Q := fun v h' L => P' v h' ∧ Fr n0 L) (C (Nat.le_trans hn0.1 (eT ▸ size_le X))) hZ w4 w3 hf hl) (g := mkF m pc Ls (argsL.reverse ++ rest)) rfl (by rw [hml]; exact hsz) (argsL := argsL) (rest := rest) (lenOf hpd hlen) rfl (by show 2 * 0 + _ ≤ _; omega) (hb hby hd) (fun _ _ => ⟨rfl, eT, hc, hs⟩)
  dsimp only [Pt.U, Pt.locs, Pt.cells, Pt.slots] at X' l' y' z' st' hQ
  subst l' y' z'
  exact (k v T'.heap hQ.1 p e s m args below meth c T' _ hx hZ hby hml hown hret hlk hnm hn0 X' rfl (Fr.app N hQ.2)).step st'
theorem W.callInit {a : Addr} (n : Nat) (hd : decode bytes pc = .ok (.invokespecial i, 3)) (hn : pc + 3 = n) (C : n0 ≤ h.size → Con l Z y bytes' maxL' none rm (.ref a :: argsL).toArray h n0 P') (hi : y.name = "<init>") (w1 : (Jvm.Cond.methodLink own i y).before a0 Z = true) (w2 : (Jvm.Cond.instanceMethod y).before a0 Z = true) (w3 : (Jvm.Cond.initialized y.cls).before a0 Z = true) (w4 : (Jvm.Cond.code y bytes' maxL' none).before a0 Z = true)
    (hy : y.cls ≠ "java/lang/invoke/MethodHandle" ∧ y.cls ≠ "java/lang/invoke/VarHandle") {ps : List FieldType} {r : Option FieldType} (hpd : parseMethodDescriptor y.desc = some ⟨ps, r⟩) (hlen : argsL.length = ps.length) (hst : st = argsL.reverse ++ .ref a :: rest) (hsz : Ls.size = maxL) (hf : rm.frames + 1 ≤ R.frames) (W0 : Nat) (hW : (rest.map fun v => v.category).sum ≤ W0) (hl : W0 + (maxL' + 11) + rm.locals ≤ R.locals) (hc : cells + rm.cells ≤ R.cells) (hs : slots + rm.slots ≤ R.slots)
    (k : ∀ v h', P' v h' → WG FE l R Z own nm bytes maxL ret n0 P h' (cells + rm.cells) (slots + rm.slots) n Ls (v.toList ++ rest)) : WG FE l R Z own nm bytes maxL ret n0 P h cells slots pc Ls st := by
  subst hn hst
  intro p e s m args below meth c T locs hx hZ hby hml hown hret hlk hnm hn0 X eT N
  obtain ⟨v, _, ⟨T', L', c', n'⟩, -, X', ⟨Lc, hQ, l', y', z'⟩, st'⟩ := X.specialBack hx (y := y) hi hown (mvT hZ w1) (mvT hZ w2) (mvT hZ w4) hy (backOf (W := W0) (Z := Z) (h := h) (bytes := bytes') (maxL := maxL') (rm := rm) (Q := fun v h' L => P' v h' ∧ Fr n0 L) (C (Nat.le_trans hn0.1 (eT ▸ size_le X))) hZ w4 w3 hf hl) (g := mkF m pc Ls (argsL.reverse ++ .ref a :: rest)) rfl (by rw [hml]; exact hsz) (Steps.refl _) (a := a) (argsL := argsL) (rest := rest) (lenOf hpd hlen) rfl (by show 2 * 0 + _ ≤ _; omega) (hb hby hd) (fun _ _ => ⟨rfl, eT, hc, hs⟩)
  dsimp only [Pt.U, Pt.locs, Pt.cells, Pt.slots] at X' l' y' z' st' hQ
  subst l' y' z'
  exact (k v T'.heap hQ.1 p e s m args below meth c T' _ hx hZ hby hml hown hret hlk hnm hn0 X' rfl (Fr.app N hQ.2)).step fun t q => st'.trans q
theorem W.callV {C0 : String} {a : Addr} (n : Nat) (hd : decode bytes pc = .ok (.invokevirtual i, 3)) (hn : pc + 3 = n) (C : n0 ≤ h.size → Con l Z y bytes' maxL' ret' rm (.ref a :: argsL).toArray h n0 P') (E : Exa Z h a C0) (w1 : (Jvm.Cond.methodLink own i y).before a0 Z = true) (w2 : (Jvm.Cond.declares y).before a0 Z = true) (w5 : (Jvm.Cond.selects C0 y y).before a0 Z = true) (hcy : C0 = y.cls) (w6 : (Jvm.Cond.instanceMethod y).before a0 Z = true) (w3 : (Jvm.Cond.initialized y.cls).before a0 Z = true) (w4 : (Jvm.Cond.code y bytes' maxL' ret').before a0 Z = true)
    (hy : y.cls ≠ "java/lang/invoke/MethodHandle" ∧ y.cls ≠ "java/lang/invoke/VarHandle") {ps : List FieldType} {r : Option FieldType} (hpd : parseMethodDescriptor y.desc = some ⟨ps, r⟩) (hlen : argsL.length = ps.length) (hst : st = argsL.reverse ++ .ref a :: rest) (hsz : Ls.size = maxL) (hf : rm.frames + 1 ≤ R.frames) (W0 : Nat) (hW : (rest.map fun v => v.category).sum ≤ W0) (hl : W0 + (maxL' + 11) + rm.locals ≤ R.locals) (hc : cells + rm.cells ≤ R.cells) (hs : slots + rm.slots ≤ R.slots)
    (k : ∀ v h', P' v h' → WG FE l R Z own nm bytes maxL ret n0 P h' (cells + rm.cells) (slots + rm.slots) n Ls (v.toList ++ rest)) : WG FE l R Z own nm bytes maxL ret n0 P h cells slots pc Ls st := by
  subst hn hst hcy
  intro p e s m args below meth c T locs hx hZ hby hml hown hret hlk hnm hn0 X eT N
  obtain ⟨cq, kq, qa, qb, qc⟩ := isOf hZ eT E
  obtain ⟨v, _, ⟨T', L', c', n'⟩, -, X', ⟨Lc, hQ, l', y', z'⟩, st'⟩ := X.virtualBack hx (y := y) (z := y) hown (mvT hZ w1) (mvT hZ w2) (notFace_of_selects (args := #[]) (mvT hZ w5)) (mvT hZ w5) (mvT hZ w6) hy (backOf (W := W0) (Z := Z) (h := h) (bytes := bytes') (maxL := maxL') (rm := rm) (Q := fun v h' L => P' v h' ∧ Fr n0 L) (C (Nat.le_trans hn0.1 (eT ▸ size_le X))) hZ w4 w3 hf hl) qa qc (g := mkF m pc Ls (argsL.reverse ++ .ref a :: rest)) rfl (by rw [hml]; exact hsz) (Steps.refl _) (argsL := argsL) (rest := rest) (lenOf hpd hlen) rfl (by show 2 * 0 + _ ≤ _; omega) (hb hby hd) (fun _ _ => ⟨rfl, eT, hc, hs⟩)
  dsimp only [Pt.U, Pt.locs, Pt.cells, Pt.slots] at X' l' y' z' st' hQ
  subst l' y' z'
  exact (k v T'.heap hQ.1 p e s m args below meth c T' _ hx hZ hby hml hown hret hlk hnm hn0 X' rfl (Fr.app N hQ.2)).step fun t q => st'.trans q
end Calls
theorem W.checkcast {i : Nat} {K : String} {a : Addr} (n : Nat) (hd : decode bytes pc = .ok (.checkcast i, 3)) (hn : pc + 3 = n) (w : (Jvm.Cond.classLink own i K).before a0 Z = true) (F : Ins Z h a K true) (k : WG FE l R Z own nm bytes maxL ret n0 P h cells slots n Ls (.ref a :: st)) : WG FE l R Z own nm bytes maxL ret n0 P h cells slots pc Ls (.ref a :: st) := by
  subst hn
  intro p e s m args below meth c T locs hx hZ hby hml hown hret hlk hnm hn0 X eT N
  obtain ⟨T', X', e', st'⟩ := castY X hx hZ hown w eT F (g := mkF m pc Ls (.ref a :: st)) rfl rfl (hb hby hd)
  exact (k p e s m args below meth c T' locs hx hZ hby hml hown hret hlk hnm hn0 X' e' N).step st'
theorem W.instYes {i : Nat} {K : String} {a : Addr} (n : Nat) (hd : decode bytes pc = .ok (.instanceof i, 3)) (hn : pc + 3 = n) (w : (Jvm.Cond.classLink own i K).before a0 Z = true) (F : Ins Z h a K true) (k : WG FE l R Z own nm bytes maxL ret n0 P h cells slots n Ls (.int 1 :: st)) : WG FE l R Z own nm bytes maxL ret n0 P h cells slots pc Ls (.ref a :: st) := by
  subst hn
  intro p e s m args below meth c T locs hx hZ hby hml hown hret hlk hnm hn0 X eT N
  obtain ⟨T', X', e', st'⟩ := instY X hx hZ hown w eT F (g := mkF m pc Ls (.ref a :: st)) rfl rfl (hb hby hd)
  exact (k p e s m args below meth c T' locs hx hZ hby hml hown hret hlk hnm hn0 X' e' N).step st'
theorem W.instNull {i : Nat} (n : Nat) (hd : decode bytes pc = .ok (.instanceof i, 3)) (hn : pc + 3 = n) (k : WG FE l R Z own nm bytes maxL ret n0 P h cells slots n Ls (.int 0 :: st)) : WG FE l R Z own nm bytes maxL ret n0 P h cells slots pc Ls (.null :: st) := by
  subst hn
  exact k.step fun p e s m args below meth c T locs hx hZ hby hown X eT t q => X.instanceofNull hx (g := mkF m pc Ls (.null :: st)) rfl rfl (hb hby hd) t q
theorem ary_us {vs : List Value} {d : Value} (i k : Nat) (hs : i + k ≤ vs.length) : (List.range k).map (fun j => vs.getD (i + j) d) = (vs.drop i).take k := by
  apply List.ext_getElem?
  intro j
  by_cases hj : j < k
  · simp [hj, List.getD_eq_getElem?_getD, List.getElem?_eq_getElem (show i + j < vs.length by omega)]
  · simp [hj]; omega
theorem W.cloneArr {i : Nat} {a : Addr} {ty : FieldType} {vs : List Value} {ad : String} (n : Nat) (hd : decode bytes pc = .ok (.invokevirtual i, 3)) (hn : pc + 3 = n) (w1 : (Jvm.Cond.methodLink own i ⟨ad, "clone", "()Ljava/lang/Object;"⟩).before a0 Z = true) (w2 : (Jvm.Cond.sameMethod ad "java/lang/Object" "clone" "()Ljava/lang/Object;").before a0 Z = true) (w3 : (Jvm.Cond.native ⟨"java/lang/Object", "clone", "()Ljava/lang/Object;"⟩).before a0 Z = true)
    (w4 : (Jvm.Cond.instanceMethod ⟨"java/lang/Object", "clone", "()Ljava/lang/Object;"⟩).before a0 Z = true) (w5 : (Jvm.Cond.selects ad ⟨ad, "clone", "()Ljava/lang/Object;"⟩ ⟨"java/lang/Object", "clone", "()Ljava/lang/Object;"⟩).before a0 Z = true) (w6 : (Jvm.Cond.castable ad "java/lang/Cloneable").before a0 Z = true)
    (A : Ary Z h a ty vs) (E : Exa Z h a ad) (hsz : Ls.size = maxL) (hf : 1 ≤ R.frames) (W0 cap : Nat) (hW : (st.map fun v => v.category).sum ≤ W0) (hl : W0 + 14 ≤ R.locals) (hcap : vs.length ≤ cap) (hc : cells + 1 ≤ R.cells) (hs : slots + cap ≤ R.slots)
    (k : ∀ h' b, b = h.size → n0 ≤ b → Ext h h' → Keep h h' [] → Ary Z h' b ty vs → Exa Z h' b ad → WG FE l R Z own nm bytes maxL ret n0 P h' (cells + 1) (slots + cap) n Ls (.ref b :: st)) : WG FE l R Z own nm bytes maxL ret n0 P h cells slots pc Ls (.ref a :: st) := by
  subst hn
  intro p e s m args below meth c T locs hx hZ hby hml hown hret hlk hnm hn0 X eT N
  have za : vs.length.toInt32.toNatClampNeg = vs.length := by
    have S : vs.length < 2 ^ 31 := by obtain ⟨_, _, _, _, S⟩ := A; exact S
    have hz : (vs.length.toInt32).toInt = vs.length := Int32.toInt_ofNat_small S
    simp only [Int32.toNatClampNeg]; rw [hz]; simp
  obtain ⟨ka, A'⟩ := A.arv .null
  obtain ⟨T', h', X', e', E', B', C', st'⟩ := cloneH X hx hZ hown w1 w2 w3 w4 w5 w6 eT A'.arh E (g := mkF m pc Ls (.ref a :: st)) rfl (by rw [hml]; exact hsz) rfl (hb hby hd) hf (W := W0) (cap := cap) (by show 2 * 0 + _ ≤ _; omega) hl (by rw [za]; exact hcap) hc hs
  have hb0 : n0 ≤ h.size := Nat.le_trans hn0.1 (eT ▸ size_le X)
  exact (k h' h.size rfl hb0 E' (Keep.of_ext E') (Ary.of_arv (show Arv Z h' h.size ka ty vs.length.toInt32 vs .null from B') za) C' p e s m args below meth c T' _ hx hZ hby hml hown hret hlk hnm hn0 X' e' N).step st'
theorem W.ireturn {x : Int32} (hd : decode bytes pc = .ok (.ireturn, 1)) (hr : ret = some .int) (hp : P (some (.int x)) h) (hc : cells ≤ R.cells) (hs : slots ≤ R.slots) (hFE : ∀ {s : State} {o : Outcome} {t : State} {L : List Loc} {k n : Nat}, FrameEnd s o t L k n → FE.1 s o t L k n := by first | exact fun q => q | exact fun q => RoadKit.wide q) : WG FE l R Z own nm bytes maxL ret n0 P h cells slots pc Ls (.int x :: st) := by
  intro p e s m args below meth c T locs hx hZ hby hml hown hret hlk hnm hn0 X eT N
  obtain ⟨fs, hr', hrun, hended, hW, hsame⟩ := X.leave (v := some (.int x)) (fun q => by rw [hret, hr] at q; cases q) hlk
  exact ⟨_, _, retOut X hx (t := .int) (i := .ireturn) (hret.trans hr) rfl (Or.inl ⟨rfl, Or.inl rfl, _, rfl⟩) (hb hby hd) hr', hrun, hended, _, _, rfl, ⟨by show P _ T.heap; rw [eT]; exact hp, N⟩, hFE ⟨⟨_, rfl⟩, hW, hsame.mono hc hs⟩⟩
theorem W.ireturnN {x : Int32} {t : FieldType} (hd : decode bytes pc = .ok (.ireturn, 1)) (hr : ret = some t) (ht : t = .boolean ∨ t = .byte ∨ t = .char ∨ t = .short) (x' : Int32) (hx' : nar t x = x') (hp : P (some (.int x')) h) (hc : cells ≤ R.cells) (hs : slots ≤ R.slots) (hFE : ∀ {s : State} {o : Outcome} {t : State} {L : List Loc} {k n : Nat}, FrameEnd s o t L k n → FE.1 s o t L k n := by first | exact fun q => q | exact fun q => RoadKit.wide q) : WG FE l R Z own nm bytes maxL ret n0 P h cells slots pc Ls (.int x :: st) := by
  subst hx'
  intro p e s m args below meth c T locs hx hZ hby hml hown hret hlk hnm hn0 X eT N
  obtain ⟨fs, hr', hrun, hended, hW, hsame⟩ := X.leave (v := some (.int (nar t x))) (fun q => by rw [hret, hr] at q; cases q) hlk
  exact ⟨_, _, retN X hx (hret.trans hr) ht (hb hby hd) hr', hrun, hended, _, _, rfl, ⟨by show P _ T.heap; rw [eT]; exact hp, N⟩, hFE ⟨⟨_, rfl⟩, hW, hsame.mono hc hs⟩⟩
theorem W.areturn {v : Value} {t : FieldType} (hd : decode bytes pc = .ok (.areturn, 1)) (hr : ret = some t) (ht : t.isReference = true) (hv : v.isRef = true) (hn : narrow t v = v) (hp : P (some v) h) (hc : cells ≤ R.cells) (hs : slots ≤ R.slots) (hFE : ∀ {s : State} {o : Outcome} {t : State} {L : List Loc} {k n : Nat}, FrameEnd s o t L k n → FE.1 s o t L k n := by first | exact fun q => q | exact fun q => RoadKit.wide q) : WG FE l R Z own nm bytes maxL ret n0 P h cells slots pc Ls (v :: st) := by
  intro p e s m args below meth c T locs hx hZ hby hml hown hret hlk hnm hn0 X eT N
  obtain ⟨fs, hr', hrun, hended, hW, hsame⟩ := X.leave (v := some v) (fun q => by rw [hret, hr] at q; cases q) hlk
  exact ⟨_, _, retOut X hx (t := t) (i := .areturn) (hret.trans hr) hn (Or.inr (Or.inr (Or.inr (Or.inr ⟨rfl, ht, hv⟩)))) (hb hby hd) hr', hrun, hended, _, _, rfl, ⟨by show P _ T.heap; rw [eT]; exact hp, N⟩, hFE ⟨⟨_, rfl⟩, hW, hsame.mono hc hs⟩⟩
theorem W.return_ (hd : decode bytes pc = .ok (.return_, 1)) (hr : ret = none) (hp : P none h) (hc : cells ≤ R.cells) (hs : slots ≤ R.slots) (hFE : ∀ {s : State} {o : Outcome} {t : State} {L : List Loc} {k n : Nat}, FrameEnd s o t L k n → FE.1 s o t L k n := by first | exact fun q => q | exact fun q => RoadKit.wide q) : WG FE l R Z own nm bytes maxL ret n0 P h cells slots pc Ls [] := by
  intro p e s m args below meth c T locs hx hZ hby hml hown hret hlk hnm hn0 X eT N
  obtain ⟨fs, hr', hrun, hended, hW, hsame⟩ := X.leave (v := none) (fun q => rfl) hlk
  exact ⟨_, _, X.returnOut hx (hret.trans hr) (hb hby hd) hr', hrun, hended, _, _, rfl, ⟨by show P _ T.heap; rw [eT]; exact hp, N⟩, hFE ⟨⟨_, rfl⟩, hW, hsame.mono hc hs⟩⟩
theorem WG.widen (k : W l R Z own nm bytes maxL ret n0 P h cells slots pc Ls st) : WG FEW l R Z own nm bytes maxL ret n0 P h cells slots pc Ls st := by
  intro p e s m args below meth c T locs hx hZ hby hml hown hret hlk hnm hn0 X eT N
  obtain ⟨s₂, o, h1, h2, h3, v, L, h4, h5, h6⟩ := k p e s m args below meth c T locs hx hZ hby hml hown hret hlk hnm hn0 X eT N
  exact ⟨s₂, o, h1, h2, h3, v, L, h4, h5, RoadKit.wide h6⟩
theorem Ary.nostat {a : Addr} {ty : FieldType} {vs : List Value} (A : Ary Z h a ty vs) : ∀ cell : Cell, h[a]? = some cell → cell.vm.isStatics = false := by
  obtain ⟨c, A1, -⟩ := A
  exact Arr.nostat A1
theorem Sta.keepN {h' : Heap} {ws : List Addr} {C n d : String} {w : Value} (K : Keep h h' ws) (hw : ∀ x ∈ ws, ∀ cell : Cell, h[x]? = some cell → cell.vm.isStatics = false) (F : Sta Z h C n d w) : Sta Z h' C n d w := by
  obtain ⟨cf, i, k, f, st, cell, h1, h2, h3, h4, h5, h6, h7⟩ := F
  refine ⟨cf, i, k, f, st, cell, h1, h2, h3, h4, K.2.1 _ _ h5 (fun hm => ?_), h6, h7⟩
  rw [hw _ hm _ h5] at h6; cases h6
/-! literals: the invariant CHv carried along -/
section Held
variable {EL : List (String × Nat)} {I : Vm → Prop} {hs h' : Heap} {S : List Addr}
/-- the wide end, and the invariant from the heap hs on -/
def FX (Z : State) (EL : List (String × Nat)) (I : Vm → Prop) (hs : Heap) : FEnd := ⟨fun s o t L k n => ReturnedEndW s o t L k n ∧ CHr Z EL s.vm hs t.vm t.heap, I⟩
def NI (Z : State) (EL : List (String × Nat)) (h : Heap) (S : List Addr) (vm : Vm) : Prop := CHv Z EL vm h ∧ ∀ x ∈ S, Safe Z EL vm h x
/-- at heap h the invariant stands, and S may be written -/
def HV (Z : State) (EL : List (String × Nat)) (I : Vm → Prop) (hs h : Heap) (S : List Addr) : Prop := ∀ vm, I vm → CHr Z EL vm hs vm h ∧ ∀ x ∈ S, Safe Z EL vm h x
theorem HV.here : HV Z EL (NI Z EL h S) h h S := fun vm q => ⟨CHr.refl q.1, q.2⟩
theorem HV.keep {ws : List Addr} (H : HV Z EL I hs h S) (K : Keep h h' ws) (hw : ∀ x ∈ ws, x ∈ S) : HV Z EL I hs h' S := fun vm q => by
  obtain ⟨c, s⟩ := H vm q
  have hz : ∀ x ∈ ws, Safe Z EL vm h x := fun x hx => s x (hw x hx)
  exact ⟨c.trans (CHr.keep K hz c.1), fun x hx => (s x hx).keep K hz c.1⟩
theorem HV.new {ws : List Addr} {b : Addr} (H : HV Z EL I hs h S) (K : Keep h h' ws) (hw : ∀ x ∈ ws, x ∈ S) (hb : h.size ≤ b) : HV Z EL I hs h' (b :: S) := fun vm q => by
  obtain ⟨c, s⟩ := H vm q
  have hz : ∀ x ∈ ws, Safe Z EL vm h x := fun x hx => s x (hw x hx)
  refine ⟨c.trans (CHr.keep K hz c.1), fun x hx => ?_⟩
  rcases List.mem_cons.mp hx with rfl | hx
  · exact (Safe.new hb).keep K hz c.1
  · exact (s x hx).keep K hz c.1
theorem HV.sub {S' : List Addr} (H : HV Z EL I hs h S) (hw : ∀ x ∈ S', x ∈ S) : HV Z EL I hs h S' := fun vm q => ⟨(H vm q).1, fun x hx => (H vm q).2 x (hw x hx)⟩
theorem sinceW {s t : State} {vm1 : Vm} {k1 : Nat} {o : Outcome} {L : List Loc} {k n : Nat} (hS : s.Since vm1 k1) (hk : k1 ≤ t.heap.size) (q : ReturnedEndW (s.setVm vm1) o t L k n) : ReturnedEndW s o t L k n := by
  obtain ⟨q1, q2, q3, q4⟩ := q
  have h2 := hS.trans (show (s.setVm vm1).Since t.vm t.heap.size from ⟨q2, q3⟩) hk
  exact ⟨q1, h2.1, h2.2, State.sameButNew.setVm q4 s.vm⟩
theorem WG.retX (hEL : EW Z a0 EL) (H : HV Z EL I hs h S) (k : W l R Z own nm bytes maxL ret n0 (fun v hf => P v hf ∧ hf = h) h cells slots pc Ls st) : WG (FX Z EL I hs) l R Z own nm bytes maxL ret n0 P h cells slots pc Ls st := by
  intro p e s m args below meth c T locs hx hZ hby hml hown hret hlk hnm hn0 X eT N
  obtain ⟨s₂, o, h1, h2, h3, v, L, h4, ⟨⟨h5, h5'⟩, h5''⟩, h6⟩ := k p e s m args below meth c T locs hx hZ hby hml hown hret hlk hnm ⟨hn0.1, trivial⟩ X eT N
  have c := (H s.vm hn0.2).1
  refine ⟨s₂, o, h1, h2, h3, v, L, h4, ⟨h5, h5''⟩, RoadKit.wide h6, ?_⟩
  have hW : s.WarmedH s₂.vm := h6.2.1
  have q := CHv.later (vm := s.vm) (vm1 := s₂.vm) (h := h) (h' := h) hZ (show (Wst Z s.vm h).Warmed39 s₂.vm from hW.wide) hEL ⟨Nat.le_refl _, fun _ _ q => q⟩ (Or.inl hW.interned_eq) c.1
  rw [h5']
  exact c.trans ⟨q.1, Nat.le_refl _, q.2⟩
theorem W.ldcX {i : Nat} {text : String} (n : Nat) (hd : decode bytes pc = .ok (.ldc i, 2)) (hn : pc + 2 = n) (w : (Jvm.Cond.stringLink own i text).before a0 Z = true) (wS : ∀ a ∈ Bundle.stringAtoms, a.before a0 Z = true) (hEL : EW Z a0 EL) (hm : (own, i) ∈ EL) (H : HV Z EL I hs h S) (hlt : ∀ x ∈ S, x < h.size)
    (vs : List Value) (ht : (∀ c ∈ text.toList, c.toNat < 256) ∧ text.toList.map (fun c => Value.int (Jvm.Lit.byteI c.toNat.toUInt16)) = vs) (hv : vs.length < 2 ^ 31) (sl : Nat) (hlen : 4 * text.toList.length ≤ sl) (hbig : sl ≤ 536870912) (hc : cells + 2 ≤ R.cells) (hs' : slots + (sl + 4) ≤ R.slots)
    (k : ∀ h' a b, Ext h h' → Keep h h' [] → Exa Z h' a "java/lang/String" → Fld Z h' a "java/lang/String" "coder" "B" (.int 0) → Fld Z h' a "java/lang/String" "value" "[B" (.ref b) → Ary Z h' b .byte vs → (∀ x ∈ S, x ≠ a ∧ x ≠ b) → WG (FX Z EL (NI Z EL h' S) h') l R Z own nm bytes maxL ret n0 P h' (cells + 2) (slots + (sl + 4)) n Ls (.ref a :: st)) : WG (FX Z EL I hs) l R Z own nm bytes maxL ret n0 P h cells slots pc Ls st := by
  subst hn
  intro p e s m args below meth c T locs hx hZ hby hml hown hret hlk hnm hn0 X eT N
  obtain ⟨c0, s0⟩ := H s.vm hn0.2
  have hz : ¬ vs.length.toInt32 < 0 := by
    have e1 : (vs.length.toInt32).toInt = vs.length := Int32.toInt_ofNat_of_lt hv
    rw [Int32.lt_iff_toInt_lt, e1]; simp
  have hl : vs.length.toInt32.toNatClampNeg = vs.length := by
    have e1 : (vs.length.toInt32).toInt = vs.length := Int32.toInt_ofNat_of_lt hv
    simp only [Int32.toNatClampNeg]; rw [e1]; simp
  obtain ⟨a, T', h', k1, b, kk, X', e', E', hS, hk1, hZ', hown', x1, x2, x3, x4, lt1, lt2, hC, -, hne, st'⟩ := ldcCH (vm0 := s.vm) (s := s) X hx hZ hown w wS eT (k0 := h.size) ((State.WarmedH.refl s).since _) (Nat.le_refl _) hEL hm c0.1 ht hz hl (g := mkF m pc Ls st) rfl (hb hby hd) hlen hbig hc hs'
  have sf : ∀ x ∈ S, Safe Z EL T'.vm h' x := fun x hx => hC.safe (hlt x hx) (s0 x hx)
  obtain ⟨s₂, o, h1, h2, h3, v, L, h4, h5, h6, h7⟩ := k h' a b E' (Keep.of_ext E') x1 x2 x3 (Ary.of_arv x4 hl) (fun x hx => hne x (sf x hx)) p e (s.setVm T'.vm) m args below meth c T' locs hx hZ' hby hml hown' hret hlk hnm ⟨hn0.1, hC.1, sf⟩ X' e' N
  exact ⟨s₂, o, st' _ h1, h2, h3, v, L, h4, h5, sinceW hS (Nat.le_trans hk1 h7.2.1) h6, (c0.trans hC).trans h7⟩
/-- a wide contract: S may be written -/
def ConX (Z : State) (EL : List (String × Nat)) (S : List Addr) (ws : List Jvm.Cond) (l : Launch) (y : MethodName) (bytes : ByteArray) (maxL : Nat) (ret : Option FieldType) (rm : Room) (as : Array Value) (h : Heap) (n0 : Nat) (P : Option Value → Heap → Prop) : Prop :=
  MetFree l y (head1 (Jvm.Cond.code y bytes maxL ret :: ws) rm) (fun a U => a = as ∧ Z.Warmed39 U.vm ∧ U.heap = h ∧ NI Z EL h S U.vm) (fun _ _ _ _ _ => True) (fun _ U o U' => ∃ v L, o = .returned v ∧ (P v U'.heap ∧ Fr n0 L) ∧ ReturnedEndW U o U' L rm.cells rm.slots ∧ CHr Z EL U.vm U.heap U'.vm U'.heap)
theorem ConX.of_W {ws : List Jvm.Cond} {y : MethodName} {rm : Room} {as : Array Value} (hy : plainFor y = true) (hn : n0 ≤ h.size) (hef : ∀ m, entryFrame m as maxL = mkF m 0 Ls []) (k : WG (FX Z EL (NI Z EL h S) h) l rm Z y.cls y.name bytes maxL ret n0 P h 0 0 0 Ls []) : ConX Z EL S ws l y bytes maxL ret rm as h n0 P := by
  refine MetFree.of_bodySF hy hisR ?_
  intro p e s m args below meth c s₁ Bd hml0 hP hK
  obtain ⟨rfl, hZ, hh, hI⟩ := hP
  have hown : s.vm.findClass y.cls = some m.cls := findClass_of_methodNamed Bd.named
  have hnm := (name_of_methodNamed Bd.named Bd.method).1
  have X0 : Stand p l e rm s m _ below meth c s₁ [] 0 0 := Stand.of_body Bd
  have e0 : s₁.heap = h := by rw [← hh, Bd.state]; rfl
  obtain ⟨s₂, o, h1, h2, h3, v, L, h4, h5, h6, h7⟩ := k p e s m _ below meth c s₁ [] Bd.exec hZ Bd.bytes hml0 hown Bd.returns (BodyLoose.notSynchronized Bd) hnm ⟨by rw [hh]; exact hn, hI⟩ X0 e0 (Fr.nil n0)
  exact ⟨s₂, o, castTop (hef m) h1, h2, h3, v, L, h4, h5, h6, by rw [hh]; exact h7⟩
theorem backOfX {p : Program} {e : Env} {s : State} {args : Array Value} {below : List Frame} {y : MethodName} {rm : Room} {len W : Nat} {as : Array Value} {S' : List Addr} (hM : ConX Z EL S' [] l y bytes maxL ret rm as h n0 P)
    (hZ : Z.Warmed39 s.vm) (wc : (Jvm.Cond.code y bytes maxL ret).before a0 Z = true) (wz : (Jvm.Cond.initialized y.cls).before a0 Z = true) (hf : rm.frames + 1 ≤ R.frames) (hl : W + (maxL + 11) + rm.locals ≤ R.locals) (hEL : EW Z a0 EL) (H : NI Z EL h S s.vm) (hlt : ∀ x ∈ S, x < h.size) (hsub : ∀ x ∈ S', x ∈ S) :
    BackS l R p e below s args y len W (fun A a => a = as ∧ A.U.heap = h ∧ A.cells + rm.cells ≤ R.cells ∧ A.slots + rm.slots ≤ R.slots)
      (fun A _ v B => ∃ L, (P v B.U.heap ∧ Fr n0 L) ∧ B.locs = A.locs ++ L ∧ B.cells = A.cells + rm.cells ∧ B.slots = A.slots + rm.slots ∧ CHr Z EL s.vm h B.U.vm B.U.heap) :=
  BackS.of_freeW (bytes := bytes) (maxL := maxL) (ret := ret) (E := fun _ first o t L k n => k = rm.cells ∧ n = rm.slots ∧ (∃ v, o = .returned v ∧ (P v t.heap ∧ Fr n0 L)) ∧ CHr Z EL first.vm first.heap t.vm t.heap) hM hf hl
    (fun m meth c A a Y hp => have hU : Z.Warmed39 A.U.vm := wtrans (s := s) hZ Y.warmed
      ⟨by show (Jvm.Cond.and _ .tt).before a A.U = true; rw [Cond.before_and, mv hU wc]; rfl, mv hU wc, mv hU wz, hp.2.2.1, hp.2.2.2⟩)
    (fun m meth c A a g mk Y hp => ⟨hp.1, wtrans (s := s) hZ Y.warmed, hp.2.1, (CHv.at (vm0 := s.vm) (s := s) Y hZ hEL H.1).1, fun x hx => (CHv.at (vm0 := s.vm) (s := s) Y hZ hEL H.1).safe (hlt x (hsub x hx)) (H.2 x (hsub x hx))⟩) (fun _ _ _ _ _ _ _ _ _ => trivial)
    (fun _ _ _ _ ⟨v, L, h1, h2, h3, h4⟩ => ⟨L, _, _, h3, rfl, rfl, ⟨v, h1, h2⟩, h4⟩)
    (fun m meth c A a g mk v t L k n Y hp _ _ ⟨e1, e2, ⟨v', e3, e4⟩, e5⟩ => by
      cases e3; subst e1 e2
      refine ⟨L, e4, rfl, rfl, rfl, (CHv.at (vm0 := s.vm) (s := s) Y hZ hEL H.1).trans ?_⟩
      rw [← hp.2.1]; exact e5)
section CallsX
variable {y : MethodName} {bytes' : ByteArray} {maxL' : Nat} {ret' : Option FieldType} {rm : Room} {P' : Option Value → Heap → Prop} {rest argsL : List Value} {i : Nat} {S' : List Addr}
theorem W.callSX (n : Nat) (hd : decode bytes pc = .ok (.invokestatic i, 3)) (hn : pc + 3 = n) (C : n0 ≤ h.size → ConX Z EL S' [] l y bytes' maxL' ret' rm argsL.toArray h n0 P') (w1 : (Jvm.Cond.methodLink own i y).before a0 Z = true) (w2 : (Jvm.Cond.static y).before a0 Z = true) (w3 : (Jvm.Cond.initialized y.cls).before a0 Z = true) (w4 : (Jvm.Cond.code y bytes' maxL' ret').before a0 Z = true)
    (hy : y.cls ≠ "java/lang/invoke/MethodHandle" ∧ y.cls ≠ "java/lang/invoke/VarHandle") {ps : List FieldType} {r : Option FieldType} (hpd : parseMethodDescriptor y.desc = some ⟨ps, r⟩) (hlen : argsL.length = ps.length) (hst : st = argsL.reverse ++ rest) (hsz : Ls.size = maxL) (hf : rm.frames + 1 ≤ R.frames) (W0 : Nat) (hW : (rest.map fun v => v.category).sum ≤ W0) (hl : W0 + (maxL' + 11) + rm.locals ≤ R.locals) (hc : cells + rm.cells ≤ R.cells) (hs' : slots + rm.slots ≤ R.slots)
    (hEL : EW Z a0 EL) (H : HV Z EL I hs h S) (hlt : ∀ x ∈ S, x < h.size) (hsub : ∀ x ∈ S', x ∈ S)
    (k : ∀ v h', P' v h' → WG (FX Z EL (NI Z EL h' S) h') l R Z own nm bytes maxL ret n0 P h' (cells + rm.cells) (slots + rm.slots) n Ls (v.toList ++ rest)) : WG (FX Z EL I hs) l R Z own nm bytes maxL ret n0 P h cells slots pc Ls st := by
  subst hn hst
  intro p e s m args below meth c T locs hx hZ hby hml hown hret hlk hnm hn0 X eT N
  obtain ⟨c0, s0⟩ := H s.vm hn0.2
  obtain ⟨v, _, ⟨T', L', c', n'⟩, -, X', hS, hgr, ⟨Lc, hQ, l', y', z', hC⟩, st'⟩ := callSS X hx (y := y) hown (mvT hZ w1) (mvT hZ w2) (mvT hZ w3) (mvT hZ w4) hy (backOfX (W := W0) (C (Nat.le_trans hn0.1 (eT ▸ size_le X))) hZ w4 w3 hf hl hEL ⟨c0.1, s0⟩ hlt hsub) (g := mkF m pc Ls (argsL.reverse ++ rest)) rfl (by rw [hml]; exact hsz) (argsL := argsL) (rest := rest) (lenOf hpd hlen) rfl (by show 2 * 0 + _ ≤ _; omega) (hb hby hd) (fun _ _ => ⟨rfl, eT, hc, hs'⟩)
  dsimp only [Pt.U, Pt.locs, Pt.cells, Pt.slots] at X' l' y' z' st' hQ hS hgr hC
  subst l' y' z'
  obtain ⟨s₂, o, h1, h2, h3, v', L2, h4, h5, h6, h7⟩ := k v T'.heap hQ.1 p e (s.setVm T'.vm) m args below meth c T' _ hx (State.Warmed39.trans hZ hS.1) hby hml ((hS.1.alike.findClass _ _).trans hown) hret hlk hnm ⟨hn0.1, hC.1, fun x hx => hC.safe (hlt x hx) (s0 x hx)⟩ X' rfl (Fr.app N hQ.2)
  exact ⟨s₂, o, st'.trans h1, h2, h3, v', L2, h4, h5, sinceW hS h7.2.1 h6, (c0.trans hC).trans h7⟩
theorem W.callInitX {a : Addr} (n : Nat) (hd : decode bytes pc = .ok (.invokespecial i, 3)) (hn : pc + 3 = n) (C : n0 ≤ h.size → ConX Z EL S' [] l y bytes' maxL' none rm (.ref a :: argsL).toArray h n0 P') (hi : y.name = "<init>") (w1 : (Jvm.Cond.methodLink own i y).before a0 Z = true) (w2 : (Jvm.Cond.instanceMethod y).before a0 Z = true) (w3 : (Jvm.Cond.initialized y.cls).before a0 Z = true) (w4 : (Jvm.Cond.code y bytes' maxL' none).before a0 Z = true)
    (hy : y.cls ≠ "java/lang/invoke/MethodHandle" ∧ y.cls ≠ "java/lang/invoke/VarHandle") {ps : List FieldType} {r : Option FieldType} (hpd : parseMethodDescriptor y.desc = some ⟨ps, r⟩) (hlen : argsL.length = ps.length) (hst : st = argsL.reverse ++ .ref a :: rest) (hsz : Ls.size = maxL) (hf : rm.frames + 1 ≤ R.frames) (W0 : Nat) (hW : (rest.map fun v => v.category).sum ≤ W0) (hl : W0 + (maxL' + 11) + rm.locals ≤ R.locals) (hc : cells + rm.cells ≤ R.cells) (hs' : slots + rm.slots ≤ R.slots)
    (hEL : EW Z a0 EL) (H : HV Z EL I hs h S) (hlt : ∀ x ∈ S, x < h.size) (hsub : ∀ x ∈ S', x ∈ S)
    (k : ∀ v h', P' v h' → WG (FX Z EL (NI Z EL h' S) h') l R Z own nm bytes maxL ret n0 P h' (cells + rm.cells) (slots + rm.slots) n Ls (v.toList ++ rest)) : WG (FX Z EL I hs) l R Z own nm bytes maxL ret n0 P h cells slots pc Ls st := by
  subst hn hst
  intro p e s m args below meth c T locs hx hZ hby hml hown hret hlk hnm hn0 X eT N
  obtain ⟨c0, s0⟩ := H s.vm hn0.2
  obtain ⟨v, _, ⟨T', L', c', n'⟩, -, X', hS, hgr, ⟨Lc, hQ, l', y', z', hC⟩, st'⟩ := X.specialBackS hx (y := y) hi hown (mvT hZ w1) (mvT hZ w2) (mvT hZ w4) hy (backOfX (W := W0) (C (Nat.le_trans hn0.1 (eT ▸ size_le X))) hZ w4 w3 hf hl hEL ⟨c0.1, s0⟩ hlt hsub) (g := mkF m pc Ls (argsL.reverse ++ .ref a :: rest)) rfl (by rw [hml]; exact hsz) (Steps.refl _) (a := a) (argsL := argsL) (rest := rest) (lenOf hpd hlen) rfl (by show 2 * 0 + _ ≤ _; omega) (hb hby hd) (fun _ _ => ⟨rfl, eT, hc, hs'⟩)
  dsimp only [Pt.U, Pt.locs, Pt.cells, Pt.slots] at X' l' y' z' st' hQ hS hgr hC
  subst l' y' z'
  obtain ⟨s₂, o, h1, h2, h3, v', L2, h4, h5, h6, h7⟩ := k v T'.heap hQ.1 p e (s.setVm T'.vm) m args below meth c T' _ hx (State.Warmed39.trans hZ hS.1) hby hml ((hS.1.alike.findClass _ _).trans hown) hret hlk hnm ⟨hn0.1, hC.1, fun x hx => hC.safe (hlt x hx) (s0 x hx)⟩ X' rfl (Fr.app N hQ.2)
  exact ⟨s₂, o, st'.trans h1, h2, h3, v', L2, h4, h5, sinceW hS h7.2.1 h6, (c0.trans hC).trans h7⟩
end CallsX
end Held
end Rules
end Jvm.Wk

namespace Jvm.Pilot.@@N@@
open Jvm Jvm.ClassFile Sem Op Lib Jvm.Free Jvm.Stand Jvm.LawKit Jvm.RoadKit Jvm.Wk Bundle Jvm.Pilot.@@N@@.Jvm.D
abbrev HwT (Z : State) (a0 : Array Value) : Prop := ∀ d ∈ tables_1, d.before a0 Z = true
theorem wd_78 {Z : State} {a0 : Array Value} (hw : HwT Z a0) : (Jvm.Cond.stringLink "java/lang/String" (7 : Nat) "").before a0 Z = true := hw _ (List.mem_of_getElem? (i := 78) rfl)
theorem wd_77 {Z : State} {a0 : Array Value} (hw : HwT Z a0) : (Jvm.Cond.stringLink "com/example/eccentra/eccentra/GraphFormatNamedPinLaw" (54 : Nat) "mtx").before a0 Z = true := hw _ (List.mem_of_getElem? (i := 77) rfl)
theorem wd_76 {Z : State} {a0 : Array Value} (hw : HwT Z a0) : (Jvm.Cond.stringLink "com/example/eccentra/eccentra/GraphFormatNamedPinLaw" (49 : Nat) "adjlist").before a0 Z = true := hw _ (List.mem_of_getElem? (i := 76) rfl)
theorem wd_72 {Z : State} {a0 : Array Value} (hw : HwT Z a0) : (Jvm.Cond.stringLink "com/example/eccentra/eccentra/GraphFormatNamedPinLaw" (39 : Nat) "edgelist").before a0 Z = true := hw _ (List.mem_of_getElem? (i := 72) rfl)
theorem wd_3 {Z : State} {a0 : Array Value} (hw : HwT Z a0) : (Jvm.Cond.initialized "java/lang/String").before a0 Z = true := hw _ (List.mem_of_getElem? (i := 3) rfl)
theorem wd_2 {Z : State} {a0 : Array Value} (hw : HwT Z a0) : (Jvm.Cond.instantiable "java/lang/String" (4 : Nat)).before a0 Z = true := hw _ (List.mem_of_getElem? (i := 2) rfl)
theorem wd_24 {Z : State} {a0 : Array Value} (hw : HwT Z a0) : (Jvm.Cond.arrayClass Jvm.ClassFile.FieldType.byte).before a0 Z = true := hw _ (List.mem_of_getElem? (i := 24) rfl)
theorem wd_34 {Z : State} {a0 : Array Value} (hw : HwT Z a0) : (Jvm.Cond.laysFinal "java/lang/String" "java/lang/String" "value" "[B").before a0 Z = true := hw _ (List.mem_of_getElem? (i := 34) rfl)
theorem wd_32 {Z : State} {a0 : Array Value} (hw : HwT Z a0) : (Jvm.Cond.laysFinal "java/lang/String" "java/lang/String" "coder" "B").before a0 Z = true := hw _ (List.mem_of_getElem? (i := 32) rfl)
theorem wd_73 {Z : State} {a0 : Array Value} (hw : HwT Z a0) : (Jvm.Cond.soleField "java/lang/String" "value").before a0 Z = true := hw _ (List.mem_of_getElem? (i := 73) rfl)
theorem wd_74 {Z : State} {a0 : Array Value} (hw : HwT Z a0) : (Jvm.Cond.soleField "java/lang/String" "coder").before a0 Z = true := hw _ (List.mem_of_getElem? (i := 74) rfl)
theorem d_jdk_43_method_13_9 : decode jdk_43_method_13_code 9 = .ok (.iload_n 2, 1) := by decide +kernel
theorem d_jdk_43_method_13_10 : decode jdk_43_method_13_code 10 = .ok (.aload_n 0, 1) := by decide +kernel
theorem d_jdk_43_method_13_11 : decode jdk_43_method_13_code 11 = .ok (.arraylength, 1) := by decide +kernel
theorem d_jdk_43_method_13_12 : decode jdk_43_method_13_code 12 = .ok (.if_icmp .ge 20, 3) := by decide +kernel
theorem d_jdk_43_method_13_32 : decode jdk_43_method_13_code 32 = .ok (.iconst 1, 1) := by decide +kernel
theorem d_jdk_43_method_13_33 : decode jdk_43_method_13_code 33 = .ok (.ireturn, 1) := by decide +kernel
theorem d_jdk_43_method_13_15 : decode jdk_43_method_13_code 15 = .ok (.aload_n 0, 1) := by decide +kernel
theorem d_jdk_43_method_13_16 : decode jdk_43_method_13_code 16 = .ok (.iload_n 2, 1) := by decide +kernel
theorem d_jdk_43_method_13_17 : decode jdk_43_method_13_code 17 = .ok (.baload, 1) := by decide +kernel
theorem d_jdk_43_method_13_18 : decode jdk_43_method_13_code 18 = .ok (.aload_n 1, 1) := by decide +kernel
theorem d_jdk_43_method_13_19 : decode jdk_43_method_13_code 19 = .ok (.iload_n 2, 1) := by decide +kernel
theorem d_jdk_43_method_13_20 : decode jdk_43_method_13_code 20 = .ok (.baload, 1) := by decide +kernel
theorem d_jdk_43_method_13_21 : decode jdk_43_method_13_code 21 = .ok (.if_icmp .eq 5, 3) := by decide +kernel
theorem d_jdk_43_method_13_26 : decode jdk_43_method_13_code 26 = .ok (.iinc 2 1, 3) := by decide +kernel
theorem d_jdk_43_method_13_29 : decode jdk_43_method_13_code 29 = .ok (.goto (-20), 3) := by decide +kernel
theorem d_jdk_43_method_13_24 : decode jdk_43_method_13_code 24 = .ok (.iconst 0, 1) := by decide +kernel
theorem d_jdk_43_method_13_25 : decode jdk_43_method_13_code 25 = .ok (.ireturn, 1) := by decide +kernel
theorem d_jdk_43_method_13_0 : decode jdk_43_method_13_code 0 = .ok (.aload_n 0, 1) := by decide +kernel
theorem d_jdk_43_method_13_1 : decode jdk_43_method_13_code 1 = .ok (.arraylength, 1) := by decide +kernel
theorem d_jdk_43_method_13_2 : decode jdk_43_method_13_code 2 = .ok (.aload_n 1, 1) := by decide +kernel
theorem d_jdk_43_method_13_3 : decode jdk_43_method_13_code 3 = .ok (.arraylength, 1) := by decide +kernel
theorem d_jdk_43_method_13_4 : decode jdk_43_method_13_code 4 = .ok (.if_icmp .ne 30, 3) := by decide +kernel
theorem d_jdk_43_method_13_34 : decode jdk_43_method_13_code 34 = .ok (.iconst 0, 1) := by decide +kernel
theorem d_jdk_43_method_13_35 : decode jdk_43_method_13_code 35 = .ok (.ireturn, 1) := by decide +kernel
theorem d_jdk_43_method_13_7 : decode jdk_43_method_13_code 7 = .ok (.iconst 0, 1) := by decide +kernel
theorem d_jdk_43_method_13_8 : decode jdk_43_method_13_code 8 = .ok (.istore_n 2, 1) := by decide +kernel
theorem pn_0 : plainName "java/lang/StringLatin1" = true := by first | (simp [plainName, overriddenIn]; done) | decide +kernel
theorem d_jdk_42_method_66_0 : decode jdk_42_method_66_code 0 = .ok (.aload_n 0, 1) := by decide +kernel
theorem d_jdk_42_method_66_1 : decode jdk_42_method_66_code 1 = .ok (.aload_n 1, 1) := by decide +kernel
theorem d_jdk_42_method_66_2 : decode jdk_42_method_66_code 2 = .ok (.if_acmp .ne 5, 3) := by decide +kernel
theorem d_jdk_42_method_66_7 : decode jdk_42_method_66_code 7 = .ok (.aload_n 1, 1) := by decide +kernel
theorem d_jdk_42_method_66_8 : decode jdk_42_method_66_code 8 = .ok (.instanceof 10, 3) := by decide +kernel
theorem wd_64 {Z : State} {a0 : Array Value} (hw : HwT Z a0) : (Jvm.Cond.classLink "java/lang/String" (10 : Nat) "java/lang/String").before a0 Z = true := hw _ (List.mem_of_getElem? (i := 64) rfl)
theorem d_jdk_42_method_66_11 : decode jdk_42_method_66_code 11 = .ok (.ifCond .eq 43, 3) := by decide +kernel
theorem d_jdk_42_method_66_14 : decode jdk_42_method_66_code 14 = .ok (.aload_n 1, 1) := by decide +kernel
theorem d_jdk_42_method_66_15 : decode jdk_42_method_66_code 15 = .ok (.checkcast 10, 3) := by decide +kernel
theorem d_jdk_42_method_66_18 : decode jdk_42_method_66_code 18 = .ok (.astore_n 2, 1) := by decide +kernel
theorem d_jdk_42_method_66_19 : decode jdk_42_method_66_code 19 = .ok (.getstatic 38, 3) := by decide +kernel
theorem wd_19 {Z : State} {a0 : Array Value} (hw : HwT Z a0) : (Jvm.Cond.fieldLink "java/lang/String" (38 : Nat) "java/lang/String" "COMPACT_STRINGS" "Z").before a0 Z = true := hw _ (List.mem_of_getElem? (i := 19) rfl)
theorem d_jdk_42_method_66_22 : decode jdk_42_method_66_code 22 = .ok (.ifCond .eq 14, 3) := by decide +kernel
theorem d_jdk_42_method_66_25 : decode jdk_42_method_66_code 25 = .ok (.aload_n 0, 1) := by decide +kernel
theorem d_jdk_42_method_66_26 : decode jdk_42_method_66_code 26 = .ok (.getfield 15, 3) := by decide +kernel
theorem wd_31 {Z : State} {a0 : Array Value} (hw : HwT Z a0) : (Jvm.Cond.fieldLink "java/lang/String" (15 : Nat) "java/lang/String" "coder" "B").before a0 Z = true := hw _ (List.mem_of_getElem? (i := 31) rfl)
theorem d_jdk_42_method_66_29 : decode jdk_42_method_66_code 29 = .ok (.aload_n 2, 1) := by decide +kernel
theorem d_jdk_42_method_66_30 : decode jdk_42_method_66_code 30 = .ok (.getfield 15, 3) := by decide +kernel
theorem d_jdk_42_method_66_33 : decode jdk_42_method_66_code 33 = .ok (.if_icmp .ne 21, 3) := by decide +kernel
theorem d_jdk_42_method_66_36 : decode jdk_42_method_66_code 36 = .ok (.aload_n 0, 1) := by decide +kernel
theorem d_jdk_42_method_66_37 : decode jdk_42_method_66_code 37 = .ok (.getfield 9, 3) := by decide +kernel
theorem wd_33 {Z : State} {a0 : Array Value} (hw : HwT Z a0) : (Jvm.Cond.fieldLink "java/lang/String" (9 : Nat) "java/lang/String" "value" "[B").before a0 Z = true := hw _ (List.mem_of_getElem? (i := 33) rfl)
theorem d_jdk_42_method_66_40 : decode jdk_42_method_66_code 40 = .ok (.aload_n 2, 1) := by decide +kernel
theorem d_jdk_42_method_66_41 : decode jdk_42_method_66_code 41 = .ok (.getfield 9, 3) := by decide +kernel
theorem d_jdk_42_method_66_44 : decode jdk_42_method_66_code 44 = .ok (.invokestatic 541, 3) := by decide +kernel
theorem wd_65 {Z : State} {a0 : Array Value} (hw : HwT Z a0) : (Jvm.Cond.methodLink "java/lang/String" (541 : Nat) ({ cls := "java/lang/StringLatin1", name := "equals", desc := "([B[B)Z" } : Jvm.MethodName)).before a0 Z = true := hw _ (List.mem_of_getElem? (i := 65) rfl)
theorem wd_68 {Z : State} {a0 : Array Value} (hw : HwT Z a0) : (Jvm.Cond.code ({ cls := "java/lang/StringLatin1", name := "equals", desc := "([B[B)Z" } : Jvm.MethodName) jdk_43_method_13_code (3 : Nat) (Option.some Jvm.ClassFile.FieldType.boolean)).before a0 Z = true := hw _ (List.mem_of_getElem? (i := 68) rfl)
theorem pd_0 : parseMethodDescriptor "([B[B)Z" = some ⟨[(.array .byte), (.array .byte)], some .boolean⟩ := by decide +kernel
theorem wd_66 {Z : State} {a0 : Array Value} (hw : HwT Z a0) : (Jvm.Cond.static ({ cls := "java/lang/StringLatin1", name := "equals", desc := "([B[B)Z" } : Jvm.MethodName)).before a0 Z = true := hw _ (List.mem_of_getElem? (i := 66) rfl)
theorem wd_67 {Z : State} {a0 : Array Value} (hw : HwT Z a0) : (Jvm.Cond.initialized "java/lang/StringLatin1").before a0 Z = true := hw _ (List.mem_of_getElem? (i := 67) rfl)
theorem d_jdk_42_method_66_47 : decode jdk_42_method_66_code 47 = .ok (.ifCond .eq 7, 3) := by decide +kernel
theorem d_jdk_42_method_66_54 : decode jdk_42_method_66_code 54 = .ok (.iconst 0, 1) := by decide +kernel
theorem d_jdk_42_method_66_55 : decode jdk_42_method_66_code 55 = .ok (.ireturn, 1) := by decide +kernel
theorem d_jdk_42_method_66_50 : decode jdk_42_method_66_code 50 = .ok (.iconst 1, 1) := by decide +kernel
theorem d_jdk_42_method_66_51 : decode jdk_42_method_66_code 51 = .ok (.goto 4, 3) := by decide +kernel
theorem d_jdk_42_method_66_5 : decode jdk_42_method_66_code 5 = .ok (.iconst 1, 1) := by decide +kernel
theorem d_jdk_42_method_66_6 : decode jdk_42_method_66_code 6 = .ok (.ireturn, 1) := by decide +kernel
theorem pn_1 : plainName "java/lang/String" = true := by first | (simp [plainName, overriddenIn]; done) | decide +kernel
theorem d_jdk_52_method_21_3 : decode jdk_52_method_21_code 3 = .ok (.iload 5, 2) := by decide +kernel
theorem d_jdk_52_method_21_5 : decode jdk_52_method_21_code 5 = .ok (.iload 4, 2) := by decide +kernel
theorem d_jdk_52_method_21_7 : decode jdk_52_method_21_code 7 = .ok (.if_icmp .ge 37, 3) := by decide +kernel
theorem d_jdk_52_method_21_44 : decode jdk_52_method_21_code 44 = .ok (.iload 4, 2) := by decide +kernel
theorem d_jdk_52_method_21_46 : decode jdk_52_method_21_code 46 = .ok (.ireturn, 1) := by decide +kernel
theorem d_jdk_52_method_21_10 : decode jdk_52_method_21_code 10 = .ok (.aload_n 0, 1) := by decide +kernel
theorem d_jdk_52_method_21_11 : decode jdk_52_method_21_code 11 = .ok (.iload_n 1, 1) := by decide +kernel
theorem d_jdk_52_method_21_12 : decode jdk_52_method_21_code 12 = .ok (.caload, 1) := by decide +kernel
theorem d_jdk_52_method_21_13 : decode jdk_52_method_21_code 13 = .ok (.istore 6, 2) := by decide +kernel
theorem d_jdk_52_method_21_15 : decode jdk_52_method_21_code 15 = .ok (.iload 6, 2) := by decide +kernel
theorem d_jdk_52_method_21_17 : decode jdk_52_method_21_code 17 = .ok (.sipush 255, 3) := by decide +kernel
theorem d_jdk_52_method_21_20 : decode jdk_52_method_21_code 20 = .ok (.if_icmp .le 6, 3) := by decide +kernel
theorem d_jdk_52_method_21_26 : decode jdk_52_method_21_code 26 = .ok (.aload_n 2, 1) := by decide +kernel
theorem d_jdk_52_method_21_27 : decode jdk_52_method_21_code 27 = .ok (.iload_n 3, 1) := by decide +kernel
theorem d_jdk_52_method_21_28 : decode jdk_52_method_21_code 28 = .ok (.iload 6, 2) := by decide +kernel
theorem d_jdk_52_method_21_30 : decode jdk_52_method_21_code 30 = .ok (.i2b, 1) := by decide +kernel
theorem d_jdk_52_method_21_31 : decode jdk_52_method_21_code 31 = .ok (.bastore, 1) := by decide +kernel
theorem d_jdk_52_method_21_32 : decode jdk_52_method_21_code 32 = .ok (.iinc 1 1, 3) := by decide +kernel
theorem d_jdk_52_method_21_35 : decode jdk_52_method_21_code 35 = .ok (.iinc 3 1, 3) := by decide +kernel
theorem d_jdk_52_method_21_38 : decode jdk_52_method_21_code 38 = .ok (.iinc 5 1, 3) := by decide +kernel
theorem d_jdk_52_method_21_41 : decode jdk_52_method_21_code 41 = .ok (.goto (-38), 3) := by decide +kernel
theorem d_jdk_52_method_21_0 : decode jdk_52_method_21_code 0 = .ok (.iconst 0, 1) := by decide +kernel
theorem d_jdk_52_method_21_1 : decode jdk_52_method_21_code 1 = .ok (.istore 5, 2) := by decide +kernel
theorem pn_2 : plainName "java/lang/StringUTF16" = true := by first | (simp [plainName, overriddenIn]; done) | decide +kernel
theorem d_jdk_52_method_16_0 : decode jdk_52_method_16_code 0 = .ok (.iload_n 2, 1) := by decide +kernel
theorem d_jdk_52_method_16_1 : decode jdk_52_method_16_code 1 = .ok (.newarray .byte, 2) := by decide +kernel
theorem d_jdk_52_method_16_3 : decode jdk_52_method_16_code 3 = .ok (.astore_n 3, 1) := by decide +kernel
theorem d_jdk_52_method_16_4 : decode jdk_52_method_16_code 4 = .ok (.aload_n 0, 1) := by decide +kernel
theorem d_jdk_52_method_16_5 : decode jdk_52_method_16_code 5 = .ok (.iload_n 1, 1) := by decide +kernel
theorem d_jdk_52_method_16_6 : decode jdk_52_method_16_code 6 = .ok (.aload_n 3, 1) := by decide +kernel
theorem d_jdk_52_method_16_7 : decode jdk_52_method_16_code 7 = .ok (.iconst 0, 1) := by decide +kernel
theorem d_jdk_52_method_16_8 : decode jdk_52_method_16_code 8 = .ok (.iload_n 2, 1) := by decide +kernel
theorem d_jdk_52_method_16_9 : decode jdk_52_method_16_code 9 = .ok (.invokestatic 115, 3) := by decide +kernel
theorem wd_25 {Z : State} {a0 : Array Value} (hw : HwT Z a0) : (Jvm.Cond.methodLink "java/lang/StringUTF16" (115 : Nat) ({ cls := "java/lang/StringUTF16", name := "compress", desc := "([CI[BII)I" } : Jvm.MethodName)).before a0 Z = true := hw _ (List.mem_of_getElem? (i := 25) rfl)
theorem wd_27 {Z : State} {a0 : Array Value} (hw : HwT Z a0) : (Jvm.Cond.code ({ cls := "java/lang/StringUTF16", name := "compress", desc := "([CI[BII)I" } : Jvm.MethodName) jdk_52_method_21_code (7 : Nat) (Option.some Jvm.ClassFile.FieldType.int)).before a0 Z = true := hw _ (List.mem_of_getElem? (i := 27) rfl)
theorem pd_1 : parseMethodDescriptor "([CI[BII)I" = some ⟨[(.array .char), .int, (.array .byte), .int, .int], some .int⟩ := by decide +kernel
theorem wd_26 {Z : State} {a0 : Array Value} (hw : HwT Z a0) : (Jvm.Cond.static ({ cls := "java/lang/StringUTF16", name := "compress", desc := "([CI[BII)I" } : Jvm.MethodName)).before a0 Z = true := hw _ (List.mem_of_getElem? (i := 26) rfl)
theorem wd_22 {Z : State} {a0 : Array Value} (hw : HwT Z a0) : (Jvm.Cond.initialized "java/lang/StringUTF16").before a0 Z = true := hw _ (List.mem_of_getElem? (i := 22) rfl)
theorem d_jdk_52_method_16_12 : decode jdk_52_method_16_code 12 = .ok (.istore 4, 2) := by decide +kernel
theorem d_jdk_52_method_16_14 : decode jdk_52_method_16_code 14 = .ok (.iload 4, 2) := by decide +kernel
theorem d_jdk_52_method_16_16 : decode jdk_52_method_16_code 16 = .ok (.iload_n 2, 1) := by decide +kernel
theorem d_jdk_52_method_16_17 : decode jdk_52_method_16_code 17 = .ok (.if_icmp .eq 40, 3) := by decide +kernel
theorem d_jdk_52_method_16_57 : decode jdk_52_method_16_code 57 = .ok (.aload_n 3, 1) := by decide +kernel
theorem d_jdk_52_method_16_58 : decode jdk_52_method_16_code 58 = .ok (.areturn, 1) := by decide +kernel
theorem d_jdk_52_method_15_0 : decode jdk_52_method_15_code 0 = .ok (.iload_n 1, 1) := by decide +kernel
theorem d_jdk_52_method_15_1 : decode jdk_52_method_15_code 1 = .ok (.aload_n 0, 1) := by decide +kernel
theorem d_jdk_52_method_15_2 : decode jdk_52_method_15_code 2 = .ok (.arraylength, 1) := by decide +kernel
theorem d_jdk_52_method_15_3 : decode jdk_52_method_15_code 3 = .ok (.isub, 1) := by decide +kernel
theorem d_jdk_52_method_15_4 : decode jdk_52_method_15_code 4 = .ok (.bipush 31, 2) := by decide +kernel
theorem d_jdk_52_method_15_6 : decode jdk_52_method_15_code 6 = .ok (.iushr, 1) := by decide +kernel
theorem d_jdk_52_method_15_7 : decode jdk_52_method_15_code 7 = .ok (.i2b, 1) := by decide +kernel
theorem d_jdk_52_method_15_8 : decode jdk_52_method_15_code 8 = .ok (.ireturn, 1) := by decide +kernel
theorem d_jdk_42_method_149_0 : decode jdk_42_method_149_code 0 = .ok (.aload_n 0, 1) := by decide +kernel
theorem d_jdk_42_method_149_1 : decode jdk_42_method_149_code 1 = .ok (.invokespecial 1, 3) := by decide +kernel
theorem wd_16 {Z : State} {a0 : Array Value} (hw : HwT Z a0) : (Jvm.Cond.methodLink "java/lang/String" (1 : Nat) ({ cls := "java/lang/Object", name := "<init>", desc := "()V" } : Jvm.MethodName)).before a0 Z = true := hw _ (List.mem_of_getElem? (i := 16) rfl)
theorem wd_18 {Z : State} {a0 : Array Value} (hw : HwT Z a0) : (Jvm.Cond.code ({ cls := "java/lang/Object", name := "<init>", desc := "()V" } : Jvm.MethodName) object_method_1_code (1 : Nat) (Option.none : Option Jvm.ClassFile.FieldType)).before a0 Z = true := hw _ (List.mem_of_getElem? (i := 18) rfl)
theorem wd_17 {Z : State} {a0 : Array Value} (hw : HwT Z a0) : (Jvm.Cond.instanceMethod ({ cls := "java/lang/Object", name := "<init>", desc := "()V" } : Jvm.MethodName)).before a0 Z = true := hw _ (List.mem_of_getElem? (i := 17) rfl)
theorem d_jdk_42_method_149_4 : decode jdk_42_method_149_code 4 = .ok (.iload_n 3, 1) := by decide +kernel
theorem d_jdk_42_method_149_5 : decode jdk_42_method_149_code 5 = .ok (.ifCond .ne 22, 3) := by decide +kernel
theorem d_jdk_42_method_149_27 : decode jdk_42_method_149_code 27 = .ok (.getstatic 38, 3) := by decide +kernel
theorem d_jdk_42_method_149_30 : decode jdk_42_method_149_code 30 = .ok (.ifCond .eq 28, 3) := by decide +kernel
theorem d_jdk_42_method_149_33 : decode jdk_42_method_149_code 33 = .ok (.aload_n 1, 1) := by decide +kernel
theorem d_jdk_42_method_149_34 : decode jdk_42_method_149_code 34 = .ok (.iload_n 2, 1) := by decide +kernel
theorem d_jdk_42_method_149_35 : decode jdk_42_method_149_code 35 = .ok (.iload_n 3, 1) := by decide +kernel
theorem d_jdk_42_method_149_36 : decode jdk_42_method_149_code 36 = .ok (.invokestatic 177, 3) := by decide +kernel
theorem wd_20 {Z : State} {a0 : Array Value} (hw : HwT Z a0) : (Jvm.Cond.methodLink "java/lang/String" (177 : Nat) ({ cls := "java/lang/StringUTF16", name := "compress", desc := "([CII)[B" } : Jvm.MethodName)).before a0 Z = true := hw _ (List.mem_of_getElem? (i := 20) rfl)
theorem wd_23 {Z : State} {a0 : Array Value} (hw : HwT Z a0) : (Jvm.Cond.code ({ cls := "java/lang/StringUTF16", name := "compress", desc := "([CII)[B" } : Jvm.MethodName) jdk_52_method_16_code (6 : Nat) (Option.some (Jvm.ClassFile.FieldType.array Jvm.ClassFile.FieldType.byte))).before a0 Z = true := hw _ (List.mem_of_getElem? (i := 23) rfl)
theorem pd_2 : parseMethodDescriptor "([CII)[B" = some ⟨[(.array .char), .int, .int], some (.array .byte)⟩ := by decide +kernel
theorem wd_21 {Z : State} {a0 : Array Value} (hw : HwT Z a0) : (Jvm.Cond.static ({ cls := "java/lang/StringUTF16", name := "compress", desc := "([CII)[B" } : Jvm.MethodName)).before a0 Z = true := hw _ (List.mem_of_getElem? (i := 21) rfl)
theorem d_jdk_42_method_149_39 : decode jdk_42_method_149_code 39 = .ok (.astore 5, 2) := by decide +kernel
theorem d_jdk_42_method_149_41 : decode jdk_42_method_149_code 41 = .ok (.aload_n 0, 1) := by decide +kernel
theorem d_jdk_42_method_149_42 : decode jdk_42_method_149_code 42 = .ok (.aload 5, 2) := by decide +kernel
theorem d_jdk_42_method_149_44 : decode jdk_42_method_149_code 44 = .ok (.iload_n 3, 1) := by decide +kernel
theorem d_jdk_42_method_149_45 : decode jdk_42_method_149_code 45 = .ok (.invokestatic 47, 3) := by decide +kernel
theorem wd_28 {Z : State} {a0 : Array Value} (hw : HwT Z a0) : (Jvm.Cond.methodLink "java/lang/String" (47 : Nat) ({ cls := "java/lang/StringUTF16", name := "coderFromArrayLen", desc := "([BI)B" } : Jvm.MethodName)).before a0 Z = true := hw _ (List.mem_of_getElem? (i := 28) rfl)
theorem wd_30 {Z : State} {a0 : Array Value} (hw : HwT Z a0) : (Jvm.Cond.code ({ cls := "java/lang/StringUTF16", name := "coderFromArrayLen", desc := "([BI)B" } : Jvm.MethodName) jdk_52_method_15_code (2 : Nat) (Option.some Jvm.ClassFile.FieldType.byte)).before a0 Z = true := hw _ (List.mem_of_getElem? (i := 30) rfl)
theorem pd_3 : parseMethodDescriptor "([BI)B" = some ⟨[(.array .byte), .int], some .byte⟩ := by decide +kernel
theorem wd_29 {Z : State} {a0 : Array Value} (hw : HwT Z a0) : (Jvm.Cond.static ({ cls := "java/lang/StringUTF16", name := "coderFromArrayLen", desc := "([BI)B" } : Jvm.MethodName)).before a0 Z = true := hw _ (List.mem_of_getElem? (i := 29) rfl)
theorem d_jdk_42_method_149_48 : decode jdk_42_method_149_code 48 = .ok (.putfield 15, 3) := by decide +kernel
theorem d_jdk_42_method_149_51 : decode jdk_42_method_149_code 51 = .ok (.aload_n 0, 1) := by decide +kernel
theorem d_jdk_42_method_149_52 : decode jdk_42_method_149_code 52 = .ok (.aload 5, 2) := by decide +kernel
theorem d_jdk_42_method_149_54 : decode jdk_42_method_149_code 54 = .ok (.putfield 9, 3) := by decide +kernel
theorem sne_0 {Z : State} {a0 : Array Value} (hw : HwT Z a0) : RoadKit.slotOf Z "java/lang/String" "value" "[B" ≠ RoadKit.slotOf Z "java/lang/String" "coder" "B" := slot_ne (C := "java/lang/String") (Or.inr (wd_34 hw)) (Or.inr (wd_32 hw)) (by decide) (t := (.array .byte)) (t' := .byte) (by decide) (by decide)
theorem d_jdk_42_method_149_57 : decode jdk_42_method_149_code 57 = .ok (.return_, 1) := by decide +kernel
theorem sne_1 {Z : State} {a0 : Array Value} (hw : HwT Z a0) : RoadKit.slotOf Z "java/lang/String" "coder" "B" ≠ RoadKit.slotOf Z "java/lang/String" "value" "[B" := slot_ne (C := "java/lang/String") (Or.inr (wd_32 hw)) (Or.inr (wd_34 hw)) (by decide) (t := .byte) (t' := (.array .byte)) (by decide) (by decide)
theorem d_jdk_42_method_3_0 : decode jdk_42_method_3_code 0 = .ok (.aload_n 0, 1) := by decide +kernel
theorem d_jdk_42_method_3_1 : decode jdk_42_method_3_code 1 = .ok (.aload_n 1, 1) := by decide +kernel
theorem d_jdk_42_method_3_2 : decode jdk_42_method_3_code 2 = .ok (.iconst 0, 1) := by decide +kernel
theorem d_jdk_42_method_3_3 : decode jdk_42_method_3_code 3 = .ok (.aload_n 1, 1) := by decide +kernel
theorem d_jdk_42_method_3_4 : decode jdk_42_method_3_code 4 = .ok (.arraylength, 1) := by decide +kernel
theorem d_jdk_42_method_3_5 : decode jdk_42_method_3_code 5 = .ok (.aconst_null, 1) := by decide +kernel
theorem d_jdk_42_method_3_6 : decode jdk_42_method_3_code 6 = .ok (.invokespecial 27, 3) := by decide +kernel
theorem wd_12 {Z : State} {a0 : Array Value} (hw : HwT Z a0) : (Jvm.Cond.methodLink "java/lang/String" (27 : Nat) ({ cls := "java/lang/String", name := "<init>", desc := "([CIILjava/lang/Void;)V" } : Jvm.MethodName)).before a0 Z = true := hw _ (List.mem_of_getElem? (i := 12) rfl)
theorem wd_15 {Z : State} {a0 : Array Value} (hw : HwT Z a0) : (Jvm.Cond.code ({ cls := "java/lang/String", name := "<init>", desc := "([CIILjava/lang/Void;)V" } : Jvm.MethodName) jdk_42_method_149_code (6 : Nat) (Option.none : Option Jvm.ClassFile.FieldType)).before a0 Z = true := hw _ (List.mem_of_getElem? (i := 15) rfl)
theorem pd_4 : parseMethodDescriptor "([CIILjava/lang/Void;)V" = some ⟨[(.array .char), .int, .int, (.object "java/lang/Void")], none⟩ := by decide +kernel
theorem wd_13 {Z : State} {a0 : Array Value} (hw : HwT Z a0) : (Jvm.Cond.instanceMethod ({ cls := "java/lang/String", name := "<init>", desc := "([CIILjava/lang/Void;)V" } : Jvm.MethodName)).before a0 Z = true := hw _ (List.mem_of_getElem? (i := 13) rfl)
theorem d_jdk_42_method_3_9 : decode jdk_42_method_3_code 9 = .ok (.return_, 1) := by decide +kernel
theorem d_jdk_42_method_149_8 : decode jdk_42_method_149_code 8 = .ok (.aload_n 0, 1) := by decide +kernel
theorem d_jdk_42_method_149_9 : decode jdk_42_method_149_code 9 = .ok (.ldc 7, 2) := by decide +kernel
theorem d_jdk_42_method_149_11 : decode jdk_42_method_149_code 11 = .ok (.getfield 9, 3) := by decide +kernel
theorem d_jdk_42_method_149_14 : decode jdk_42_method_149_code 14 = .ok (.putfield 9, 3) := by decide +kernel
theorem d_jdk_42_method_149_17 : decode jdk_42_method_149_code 17 = .ok (.aload_n 0, 1) := by decide +kernel
theorem d_jdk_42_method_149_18 : decode jdk_42_method_149_code 18 = .ok (.ldc 7, 2) := by decide +kernel
theorem d_jdk_42_method_149_20 : decode jdk_42_method_149_code 20 = .ok (.getfield 15, 3) := by decide +kernel
theorem d_jdk_42_method_149_23 : decode jdk_42_method_149_code 23 = .ok (.putfield 15, 3) := by decide +kernel
theorem d_jdk_42_method_149_26 : decode jdk_42_method_149_code 26 = .ok (.return_, 1) := by decide +kernel
theorem d_method_4_0 : decode method_4_code 0 = .ok (.iload_n 0, 1) := by decide +kernel
theorem d_method_4_1 : decode method_4_code 1 = .ok (.ifCond .ne 50, 3) := by decide +kernel
theorem d_method_4_4 : decode method_4_code 4 = .ok (.bipush 8, 2) := by decide +kernel
theorem d_method_4_6 : decode method_4_code 6 = .ok (.newarray .char, 2) := by decide +kernel
theorem wd_8 {Z : State} {a0 : Array Value} (hw : HwT Z a0) : (Jvm.Cond.arrayClass Jvm.ClassFile.FieldType.char).before a0 Z = true := hw _ (List.mem_of_getElem? (i := 8) rfl)
theorem d_method_4_8 : decode method_4_code 8 = .ok (.dup, 1) := by decide +kernel
theorem d_method_4_9 : decode method_4_code 9 = .ok (.iconst 0, 1) := by decide +kernel
theorem d_method_4_10 : decode method_4_code 10 = .ok (.bipush 101, 2) := by decide +kernel
theorem d_method_4_12 : decode method_4_code 12 = .ok (.castore, 1) := by decide +kernel
theorem d_method_4_13 : decode method_4_code 13 = .ok (.dup, 1) := by decide +kernel
theorem d_method_4_14 : decode method_4_code 14 = .ok (.iconst 1, 1) := by decide +kernel
theorem d_method_4_15 : decode method_4_code 15 = .ok (.bipush 100, 2) := by decide +kernel
theorem d_method_4_17 : decode method_4_code 17 = .ok (.castore, 1) := by decide +kernel
theorem d_method_4_18 : decode method_4_code 18 = .ok (.dup, 1) := by decide +kernel
theorem d_method_4_19 : decode method_4_code 19 = .ok (.iconst 2, 1) := by decide +kernel
theorem d_method_4_20 : decode method_4_code 20 = .ok (.bipush 103, 2) := by decide +kernel
theorem d_method_4_22 : decode method_4_code 22 = .ok (.castore, 1) := by decide +kernel
theorem d_method_4_23 : decode method_4_code 23 = .ok (.dup, 1) := by decide +kernel
theorem d_method_4_24 : decode method_4_code 24 = .ok (.iconst 3, 1) := by decide +kernel
theorem d_method_4_25 : decode method_4_code 25 = .ok (.bipush 101, 2) := by decide +kernel
theorem d_method_4_27 : decode method_4_code 27 = .ok (.castore, 1) := by decide +kernel
theorem d_method_4_28 : decode method_4_code 28 = .ok (.dup, 1) := by decide +kernel
theorem d_method_4_29 : decode method_4_code 29 = .ok (.iconst 4, 1) := by decide +kernel
theorem d_method_4_30 : decode method_4_code 30 = .ok (.bipush 108, 2) := by decide +kernel
theorem d_method_4_32 : decode method_4_code 32 = .ok (.castore, 1) := by decide +kernel
theorem d_method_4_33 : decode method_4_code 33 = .ok (.dup, 1) := by decide +kernel
theorem d_method_4_34 : decode method_4_code 34 = .ok (.iconst 5, 1) := by decide +kernel
theorem d_method_4_35 : decode method_4_code 35 = .ok (.bipush 105, 2) := by decide +kernel
theorem d_method_4_37 : decode method_4_code 37 = .ok (.castore, 1) := by decide +kernel
theorem d_method_4_38 : decode method_4_code 38 = .ok (.dup, 1) := by decide +kernel
theorem d_method_4_39 : decode method_4_code 39 = .ok (.bipush 6, 2) := by decide +kernel
theorem d_method_4_41 : decode method_4_code 41 = .ok (.bipush 115, 2) := by decide +kernel
theorem d_method_4_43 : decode method_4_code 43 = .ok (.castore, 1) := by decide +kernel
theorem d_method_4_44 : decode method_4_code 44 = .ok (.dup, 1) := by decide +kernel
theorem d_method_4_45 : decode method_4_code 45 = .ok (.bipush 7, 2) := by decide +kernel
theorem d_method_4_47 : decode method_4_code 47 = .ok (.bipush 116, 2) := by decide +kernel
theorem d_method_4_49 : decode method_4_code 49 = .ok (.castore, 1) := by decide +kernel
theorem d_method_4_50 : decode method_4_code 50 = .ok (.areturn, 1) := by decide +kernel
theorem pn_3 : plainName "com/example/eccentra/eccentra/GraphFormatNamedPinLaw" = true := by first | (simp [plainName, overriddenIn]; done) | decide +kernel
theorem d_method_4_51 : decode method_4_code 51 = .ok (.iload_n 0, 1) := by decide +kernel
theorem d_method_4_52 : decode method_4_code 52 = .ok (.iconst 1, 1) := by decide +kernel
theorem d_method_4_53 : decode method_4_code 53 = .ok (.if_icmp .ne 44, 3) := by decide +kernel
theorem d_method_4_56 : decode method_4_code 56 = .ok (.bipush 7, 2) := by decide +kernel
theorem d_method_4_58 : decode method_4_code 58 = .ok (.newarray .char, 2) := by decide +kernel
theorem d_method_4_60 : decode method_4_code 60 = .ok (.dup, 1) := by decide +kernel
theorem d_method_4_61 : decode method_4_code 61 = .ok (.iconst 0, 1) := by decide +kernel
theorem d_method_4_62 : decode method_4_code 62 = .ok (.bipush 97, 2) := by decide +kernel
theorem d_method_4_64 : decode method_4_code 64 = .ok (.castore, 1) := by decide +kernel
theorem d_method_4_65 : decode method_4_code 65 = .ok (.dup, 1) := by decide +kernel
theorem d_method_4_66 : decode method_4_code 66 = .ok (.iconst 1, 1) := by decide +kernel
theorem d_method_4_67 : decode method_4_code 67 = .ok (.bipush 100, 2) := by decide +kernel
theorem d_method_4_69 : decode method_4_code 69 = .ok (.castore, 1) := by decide +kernel
theorem d_method_4_70 : decode method_4_code 70 = .ok (.dup, 1) := by decide +kernel
theorem d_method_4_71 : decode method_4_code 71 = .ok (.iconst 2, 1) := by decide +kernel
theorem d_method_4_72 : decode method_4_code 72 = .ok (.bipush 106, 2) := by decide +kernel
theorem d_method_4_74 : decode method_4_code 74 = .ok (.castore, 1) := by decide +kernel
theorem d_method_4_75 : decode method_4_code 75 = .ok (.dup, 1) := by decide +kernel
theorem d_method_4_76 : decode method_4_code 76 = .ok (.iconst 3, 1) := by decide +kernel
theorem d_method_4_77 : decode method_4_code 77 = .ok (.bipush 108, 2) := by decide +kernel
theorem d_method_4_79 : decode method_4_code 79 = .ok (.castore, 1) := by decide +kernel
theorem d_method_4_80 : decode method_4_code 80 = .ok (.dup, 1) := by decide +kernel
theorem d_method_4_81 : decode method_4_code 81 = .ok (.iconst 4, 1) := by decide +kernel
theorem d_method_4_82 : decode method_4_code 82 = .ok (.bipush 105, 2) := by decide +kernel
theorem d_method_4_84 : decode method_4_code 84 = .ok (.castore, 1) := by decide +kernel
theorem d_method_4_85 : decode method_4_code 85 = .ok (.dup, 1) := by decide +kernel
theorem d_method_4_86 : decode method_4_code 86 = .ok (.iconst 5, 1) := by decide +kernel
theorem d_method_4_87 : decode method_4_code 87 = .ok (.bipush 115, 2) := by decide +kernel
theorem d_method_4_89 : decode method_4_code 89 = .ok (.castore, 1) := by decide +kernel
theorem d_method_4_90 : decode method_4_code 90 = .ok (.dup, 1) := by decide +kernel
theorem d_method_4_91 : decode method_4_code 91 = .ok (.bipush 6, 2) := by decide +kernel
theorem d_method_4_93 : decode method_4_code 93 = .ok (.bipush 116, 2) := by decide +kernel
theorem d_method_4_95 : decode method_4_code 95 = .ok (.castore, 1) := by decide +kernel
theorem d_method_4_96 : decode method_4_code 96 = .ok (.areturn, 1) := by decide +kernel
theorem d_method_4_97 : decode method_4_code 97 = .ok (.iconst 3, 1) := by decide +kernel
theorem d_method_4_98 : decode method_4_code 98 = .ok (.newarray .char, 2) := by decide +kernel
theorem d_method_4_100 : decode method_4_code 100 = .ok (.dup, 1) := by decide +kernel
theorem d_method_4_101 : decode method_4_code 101 = .ok (.iconst 0, 1) := by decide +kernel
theorem d_method_4_102 : decode method_4_code 102 = .ok (.bipush 109, 2) := by decide +kernel
theorem d_method_4_104 : decode method_4_code 104 = .ok (.castore, 1) := by decide +kernel
theorem d_method_4_105 : decode method_4_code 105 = .ok (.dup, 1) := by decide +kernel
theorem d_method_4_106 : decode method_4_code 106 = .ok (.iconst 1, 1) := by decide +kernel
theorem d_method_4_107 : decode method_4_code 107 = .ok (.bipush 116, 2) := by decide +kernel
theorem d_method_4_109 : decode method_4_code 109 = .ok (.castore, 1) := by decide +kernel
theorem d_method_4_110 : decode method_4_code 110 = .ok (.dup, 1) := by decide +kernel
theorem d_method_4_111 : decode method_4_code 111 = .ok (.iconst 2, 1) := by decide +kernel
theorem d_method_4_112 : decode method_4_code 112 = .ok (.bipush 120, 2) := by decide +kernel
theorem d_method_4_114 : decode method_4_code 114 = .ok (.castore, 1) := by decide +kernel
theorem d_method_4_115 : decode method_4_code 115 = .ok (.areturn, 1) := by decide +kernel
theorem d_method_5_0 : decode method_5_code 0 = .ok (.iload_n 0, 1) := by decide +kernel
theorem d_method_5_1 : decode method_5_code 1 = .ok (.ifCond .ne 44, 3) := by decide +kernel
theorem d_method_5_4 : decode method_5_code 4 = .ok (.bipush 7, 2) := by decide +kernel
theorem d_method_5_6 : decode method_5_code 6 = .ok (.newarray .char, 2) := by decide +kernel
theorem d_method_5_8 : decode method_5_code 8 = .ok (.dup, 1) := by decide +kernel
theorem d_method_5_9 : decode method_5_code 9 = .ok (.iconst 0, 1) := by decide +kernel
theorem d_method_5_10 : decode method_5_code 10 = .ok (.bipush 101, 2) := by decide +kernel
theorem d_method_5_12 : decode method_5_code 12 = .ok (.castore, 1) := by decide +kernel
theorem d_method_5_13 : decode method_5_code 13 = .ok (.dup, 1) := by decide +kernel
theorem d_method_5_14 : decode method_5_code 14 = .ok (.iconst 1, 1) := by decide +kernel
theorem d_method_5_15 : decode method_5_code 15 = .ok (.bipush 100, 2) := by decide +kernel
theorem d_method_5_17 : decode method_5_code 17 = .ok (.castore, 1) := by decide +kernel
theorem d_method_5_18 : decode method_5_code 18 = .ok (.dup, 1) := by decide +kernel
theorem d_method_5_19 : decode method_5_code 19 = .ok (.iconst 2, 1) := by decide +kernel
theorem d_method_5_20 : decode method_5_code 20 = .ok (.bipush 103, 2) := by decide +kernel
theorem d_method_5_22 : decode method_5_code 22 = .ok (.castore, 1) := by decide +kernel
theorem d_method_5_23 : decode method_5_code 23 = .ok (.dup, 1) := by decide +kernel
theorem d_method_5_24 : decode method_5_code 24 = .ok (.iconst 3, 1) := by decide +kernel
theorem d_method_5_25 : decode method_5_code 25 = .ok (.bipush 101, 2) := by decide +kernel
theorem d_method_5_27 : decode method_5_code 27 = .ok (.castore, 1) := by decide +kernel
theorem d_method_5_28 : decode method_5_code 28 = .ok (.dup, 1) := by decide +kernel
theorem d_method_5_29 : decode method_5_code 29 = .ok (.iconst 4, 1) := by decide +kernel
theorem d_method_5_30 : decode method_5_code 30 = .ok (.bipush 108, 2) := by decide +kernel
theorem d_method_5_32 : decode method_5_code 32 = .ok (.castore, 1) := by decide +kernel
theorem d_method_5_33 : decode method_5_code 33 = .ok (.dup, 1) := by decide +kernel
theorem d_method_5_34 : decode method_5_code 34 = .ok (.iconst 5, 1) := by decide +kernel
theorem d_method_5_35 : decode method_5_code 35 = .ok (.bipush 105, 2) := by decide +kernel
theorem d_method_5_37 : decode method_5_code 37 = .ok (.castore, 1) := by decide +kernel
theorem d_method_5_38 : decode method_5_code 38 = .ok (.dup, 1) := by decide +kernel
theorem d_method_5_39 : decode method_5_code 39 = .ok (.bipush 6, 2) := by decide +kernel
theorem d_method_5_41 : decode method_5_code 41 = .ok (.bipush 115, 2) := by decide +kernel
theorem d_method_5_43 : decode method_5_code 43 = .ok (.castore, 1) := by decide +kernel
theorem d_method_5_44 : decode method_5_code 44 = .ok (.areturn, 1) := by decide +kernel
theorem d_method_5_45 : decode method_5_code 45 = .ok (.iload_n 0, 1) := by decide +kernel
theorem d_method_5_46 : decode method_5_code 46 = .ok (.iconst 1, 1) := by decide +kernel
theorem d_method_5_47 : decode method_5_code 47 = .ok (.if_icmp .ne 38, 3) := by decide +kernel
theorem d_method_5_50 : decode method_5_code 50 = .ok (.bipush 6, 2) := by decide +kernel
theorem d_method_5_52 : decode method_5_code 52 = .ok (.newarray .char, 2) := by decide +kernel
theorem d_method_5_54 : decode method_5_code 54 = .ok (.dup, 1) := by decide +kernel
theorem d_method_5_55 : decode method_5_code 55 = .ok (.iconst 0, 1) := by decide +kernel
theorem d_method_5_56 : decode method_5_code 56 = .ok (.bipush 97, 2) := by decide +kernel
theorem d_method_5_58 : decode method_5_code 58 = .ok (.castore, 1) := by decide +kernel
theorem d_method_5_59 : decode method_5_code 59 = .ok (.dup, 1) := by decide +kernel
theorem d_method_5_60 : decode method_5_code 60 = .ok (.iconst 1, 1) := by decide +kernel
theorem d_method_5_61 : decode method_5_code 61 = .ok (.bipush 100, 2) := by decide +kernel
theorem d_method_5_63 : decode method_5_code 63 = .ok (.castore, 1) := by decide +kernel
theorem d_method_5_64 : decode method_5_code 64 = .ok (.dup, 1) := by decide +kernel
theorem d_method_5_65 : decode method_5_code 65 = .ok (.iconst 2, 1) := by decide +kernel
theorem d_method_5_66 : decode method_5_code 66 = .ok (.bipush 106, 2) := by decide +kernel
theorem d_method_5_68 : decode method_5_code 68 = .ok (.castore, 1) := by decide +kernel
theorem d_method_5_69 : decode method_5_code 69 = .ok (.dup, 1) := by decide +kernel
theorem d_method_5_70 : decode method_5_code 70 = .ok (.iconst 3, 1) := by decide +kernel
theorem d_method_5_71 : decode method_5_code 71 = .ok (.bipush 108, 2) := by decide +kernel
theorem d_method_5_73 : decode method_5_code 73 = .ok (.castore, 1) := by decide +kernel
theorem d_method_5_74 : decode method_5_code 74 = .ok (.dup, 1) := by decide +kernel
theorem d_method_5_75 : decode method_5_code 75 = .ok (.iconst 4, 1) := by decide +kernel
theorem d_method_5_76 : decode method_5_code 76 = .ok (.bipush 105, 2) := by decide +kernel
theorem d_method_5_78 : decode method_5_code 78 = .ok (.castore, 1) := by decide +kernel
theorem d_method_5_79 : decode method_5_code 79 = .ok (.dup, 1) := by decide +kernel
theorem d_method_5_80 : decode method_5_code 80 = .ok (.iconst 5, 1) := by decide +kernel
theorem d_method_5_81 : decode method_5_code 81 = .ok (.bipush 115, 2) := by decide +kernel
theorem d_method_5_83 : decode method_5_code 83 = .ok (.castore, 1) := by decide +kernel
theorem d_method_5_84 : decode method_5_code 84 = .ok (.areturn, 1) := by decide +kernel
theorem d_method_5_85 : decode method_5_code 85 = .ok (.iconst 2, 1) := by decide +kernel
theorem d_method_5_86 : decode method_5_code 86 = .ok (.newarray .char, 2) := by decide +kernel
theorem d_method_5_88 : decode method_5_code 88 = .ok (.dup, 1) := by decide +kernel
theorem d_method_5_89 : decode method_5_code 89 = .ok (.iconst 0, 1) := by decide +kernel
theorem d_method_5_90 : decode method_5_code 90 = .ok (.bipush 109, 2) := by decide +kernel
theorem d_method_5_92 : decode method_5_code 92 = .ok (.castore, 1) := by decide +kernel
theorem d_method_5_93 : decode method_5_code 93 = .ok (.dup, 1) := by decide +kernel
theorem d_method_5_94 : decode method_5_code 94 = .ok (.iconst 1, 1) := by decide +kernel
theorem d_method_5_95 : decode method_5_code 95 = .ok (.bipush 116, 2) := by decide +kernel
theorem d_method_5_97 : decode method_5_code 97 = .ok (.castore, 1) := by decide +kernel
theorem d_method_5_98 : decode method_5_code 98 = .ok (.areturn, 1) := by decide +kernel
theorem d_method_6_0 : decode method_6_code 0 = .ok (.iload_n 0, 1) := by decide +kernel
theorem d_method_6_1 : decode method_6_code 1 = .ok (.ifCond .ne 55, 3) := by decide +kernel
theorem d_method_6_4 : decode method_6_code 4 = .ok (.bipush 9, 2) := by decide +kernel
theorem d_method_6_6 : decode method_6_code 6 = .ok (.newarray .char, 2) := by decide +kernel
theorem d_method_6_8 : decode method_6_code 8 = .ok (.dup, 1) := by decide +kernel
theorem d_method_6_9 : decode method_6_code 9 = .ok (.iconst 0, 1) := by decide +kernel
theorem d_method_6_10 : decode method_6_code 10 = .ok (.bipush 101, 2) := by decide +kernel
theorem d_method_6_12 : decode method_6_code 12 = .ok (.castore, 1) := by decide +kernel
theorem d_method_6_13 : decode method_6_code 13 = .ok (.dup, 1) := by decide +kernel
theorem d_method_6_14 : decode method_6_code 14 = .ok (.iconst 1, 1) := by decide +kernel
theorem d_method_6_15 : decode method_6_code 15 = .ok (.bipush 100, 2) := by decide +kernel
theorem d_method_6_17 : decode method_6_code 17 = .ok (.castore, 1) := by decide +kernel
theorem d_method_6_18 : decode method_6_code 18 = .ok (.dup, 1) := by decide +kernel
theorem d_method_6_19 : decode method_6_code 19 = .ok (.iconst 2, 1) := by decide +kernel
theorem d_method_6_20 : decode method_6_code 20 = .ok (.bipush 103, 2) := by decide +kernel
theorem d_method_6_22 : decode method_6_code 22 = .ok (.castore, 1) := by decide +kernel
theorem d_method_6_23 : decode method_6_code 23 = .ok (.dup, 1) := by decide +kernel
theorem d_method_6_24 : decode method_6_code 24 = .ok (.iconst 3, 1) := by decide +kernel
theorem d_method_6_25 : decode method_6_code 25 = .ok (.bipush 101, 2) := by decide +kernel
theorem d_method_6_27 : decode method_6_code 27 = .ok (.castore, 1) := by decide +kernel
theorem d_method_6_28 : decode method_6_code 28 = .ok (.dup, 1) := by decide +kernel
theorem d_method_6_29 : decode method_6_code 29 = .ok (.iconst 4, 1) := by decide +kernel
theorem d_method_6_30 : decode method_6_code 30 = .ok (.bipush 108, 2) := by decide +kernel
theorem d_method_6_32 : decode method_6_code 32 = .ok (.castore, 1) := by decide +kernel
theorem d_method_6_33 : decode method_6_code 33 = .ok (.dup, 1) := by decide +kernel
theorem d_method_6_34 : decode method_6_code 34 = .ok (.iconst 5, 1) := by decide +kernel
theorem d_method_6_35 : decode method_6_code 35 = .ok (.bipush 105, 2) := by decide +kernel
theorem d_method_6_37 : decode method_6_code 37 = .ok (.castore, 1) := by decide +kernel
theorem d_method_6_38 : decode method_6_code 38 = .ok (.dup, 1) := by decide +kernel
theorem d_method_6_39 : decode method_6_code 39 = .ok (.bipush 6, 2) := by decide +kernel
theorem d_method_6_41 : decode method_6_code 41 = .ok (.bipush 115, 2) := by decide +kernel
theorem d_method_6_43 : decode method_6_code 43 = .ok (.castore, 1) := by decide +kernel
theorem d_method_6_44 : decode method_6_code 44 = .ok (.dup, 1) := by decide +kernel
theorem d_method_6_45 : decode method_6_code 45 = .ok (.bipush 7, 2) := by decide +kernel
theorem d_method_6_47 : decode method_6_code 47 = .ok (.bipush 116, 2) := by decide +kernel
theorem d_method_6_49 : decode method_6_code 49 = .ok (.castore, 1) := by decide +kernel
theorem d_method_6_50 : decode method_6_code 50 = .ok (.dup, 1) := by decide +kernel
theorem d_method_6_51 : decode method_6_code 51 = .ok (.bipush 8, 2) := by decide +kernel
theorem d_method_6_53 : decode method_6_code 53 = .ok (.iload_n 1, 1) := by decide +kernel
theorem d_method_6_54 : decode method_6_code 54 = .ok (.castore, 1) := by decide +kernel
theorem d_method_6_55 : decode method_6_code 55 = .ok (.areturn, 1) := by decide +kernel
theorem d_method_6_56 : decode method_6_code 56 = .ok (.iload_n 0, 1) := by decide +kernel
theorem d_method_6_57 : decode method_6_code 57 = .ok (.iconst 1, 1) := by decide +kernel
theorem d_method_6_58 : decode method_6_code 58 = .ok (.if_icmp .ne 49, 3) := by decide +kernel
theorem d_method_6_61 : decode method_6_code 61 = .ok (.bipush 8, 2) := by decide +kernel
theorem d_method_6_63 : decode method_6_code 63 = .ok (.newarray .char, 2) := by decide +kernel
theorem d_method_6_65 : decode method_6_code 65 = .ok (.dup, 1) := by decide +kernel
theorem d_method_6_66 : decode method_6_code 66 = .ok (.iconst 0, 1) := by decide +kernel
theorem d_method_6_67 : decode method_6_code 67 = .ok (.bipush 97, 2) := by decide +kernel
theorem d_method_6_69 : decode method_6_code 69 = .ok (.castore, 1) := by decide +kernel
theorem d_method_6_70 : decode method_6_code 70 = .ok (.dup, 1) := by decide +kernel
theorem d_method_6_71 : decode method_6_code 71 = .ok (.iconst 1, 1) := by decide +kernel
theorem d_method_6_72 : decode method_6_code 72 = .ok (.bipush 100, 2) := by decide +kernel
theorem d_method_6_74 : decode method_6_code 74 = .ok (.castore, 1) := by decide +kernel
theorem d_method_6_75 : decode method_6_code 75 = .ok (.dup, 1) := by decide +kernel
theorem d_method_6_76 : decode method_6_code 76 = .ok (.iconst 2, 1) := by decide +kernel
theorem d_method_6_77 : decode method_6_code 77 = .ok (.bipush 106, 2) := by decide +kernel
theorem d_method_6_79 : decode method_6_code 79 = .ok (.castore, 1) := by decide +kernel
theorem d_method_6_80 : decode method_6_code 80 = .ok (.dup, 1) := by decide +kernel
theorem d_method_6_81 : decode method_6_code 81 = .ok (.iconst 3, 1) := by decide +kernel
theorem d_method_6_82 : decode method_6_code 82 = .ok (.bipush 108, 2) := by decide +kernel
theorem d_method_6_84 : decode method_6_code 84 = .ok (.castore, 1) := by decide +kernel
theorem d_method_6_85 : decode method_6_code 85 = .ok (.dup, 1) := by decide +kernel
theorem d_method_6_86 : decode method_6_code 86 = .ok (.iconst 4, 1) := by decide +kernel
theorem d_method_6_87 : decode method_6_code 87 = .ok (.bipush 105, 2) := by decide +kernel
theorem d_method_6_89 : decode method_6_code 89 = .ok (.castore, 1) := by decide +kernel
theorem d_method_6_90 : decode method_6_code 90 = .ok (.dup, 1) := by decide +kernel
theorem d_method_6_91 : decode method_6_code 91 = .ok (.iconst 5, 1) := by decide +kernel
theorem d_method_6_92 : decode method_6_code 92 = .ok (.bipush 115, 2) := by decide +kernel
theorem d_method_6_94 : decode method_6_code 94 = .ok (.castore, 1) := by decide +kernel
theorem d_method_6_95 : decode method_6_code 95 = .ok (.dup, 1) := by decide +kernel
theorem d_method_6_96 : decode method_6_code 96 = .ok (.bipush 6, 2) := by decide +kernel
theorem d_method_6_98 : decode method_6_code 98 = .ok (.bipush 116, 2) := by decide +kernel
theorem d_method_6_100 : decode method_6_code 100 = .ok (.castore, 1) := by decide +kernel
theorem d_method_6_101 : decode method_6_code 101 = .ok (.dup, 1) := by decide +kernel
theorem d_method_6_102 : decode method_6_code 102 = .ok (.bipush 7, 2) := by decide +kernel
theorem d_method_6_104 : decode method_6_code 104 = .ok (.iload_n 1, 1) := by decide +kernel
theorem d_method_6_105 : decode method_6_code 105 = .ok (.castore, 1) := by decide +kernel
theorem d_method_6_106 : decode method_6_code 106 = .ok (.areturn, 1) := by decide +kernel
theorem d_method_6_107 : decode method_6_code 107 = .ok (.iconst 4, 1) := by decide +kernel
theorem d_method_6_108 : decode method_6_code 108 = .ok (.newarray .char, 2) := by decide +kernel
theorem d_method_6_110 : decode method_6_code 110 = .ok (.dup, 1) := by decide +kernel
theorem d_method_6_111 : decode method_6_code 111 = .ok (.iconst 0, 1) := by decide +kernel
theorem d_method_6_112 : decode method_6_code 112 = .ok (.bipush 109, 2) := by decide +kernel
theorem d_method_6_114 : decode method_6_code 114 = .ok (.castore, 1) := by decide +kernel
theorem d_method_6_115 : decode method_6_code 115 = .ok (.dup, 1) := by decide +kernel
theorem d_method_6_116 : decode method_6_code 116 = .ok (.iconst 1, 1) := by decide +kernel
theorem d_method_6_117 : decode method_6_code 117 = .ok (.bipush 116, 2) := by decide +kernel
theorem d_method_6_119 : decode method_6_code 119 = .ok (.castore, 1) := by decide +kernel
theorem d_method_6_120 : decode method_6_code 120 = .ok (.dup, 1) := by decide +kernel
theorem d_method_6_121 : decode method_6_code 121 = .ok (.iconst 2, 1) := by decide +kernel
theorem d_method_6_122 : decode method_6_code 122 = .ok (.bipush 120, 2) := by decide +kernel
theorem d_method_6_124 : decode method_6_code 124 = .ok (.castore, 1) := by decide +kernel
theorem d_method_6_125 : decode method_6_code 125 = .ok (.dup, 1) := by decide +kernel
theorem d_method_6_126 : decode method_6_code 126 = .ok (.iconst 3, 1) := by decide +kernel
theorem d_method_6_127 : decode method_6_code 127 = .ok (.iload_n 1, 1) := by decide +kernel
theorem d_method_6_128 : decode method_6_code 128 = .ok (.castore, 1) := by decide +kernel
theorem d_method_6_129 : decode method_6_code 129 = .ok (.areturn, 1) := by decide +kernel
theorem d_jdk_43_method_3_0 : decode jdk_43_method_3_code 0 = .ok (.iload_n 0, 1) := by decide +kernel
theorem d_jdk_43_method_3_1 : decode jdk_43_method_3_code 1 = .ok (.sipush 255, 3) := by decide +kernel
theorem d_jdk_43_method_3_4 : decode jdk_43_method_3_code 4 = .ok (.if_icmp .gt 7, 3) := by decide +kernel
theorem d_jdk_43_method_3_7 : decode jdk_43_method_3_code 7 = .ok (.iconst 1, 1) := by decide +kernel
theorem d_jdk_43_method_3_8 : decode jdk_43_method_3_code 8 = .ok (.goto 4, 3) := by decide +kernel
theorem d_jdk_43_method_3_12 : decode jdk_43_method_3_code 12 = .ok (.ireturn, 1) := by decide +kernel
theorem d_jdk_43_method_46_0 : decode jdk_43_method_46_code 0 = .ok (.iconst 1, 1) := by decide +kernel
theorem d_jdk_43_method_46_1 : decode jdk_43_method_46_code 1 = .ok (.newarray .byte, 2) := by decide +kernel
theorem d_jdk_43_method_46_3 : decode jdk_43_method_46_code 3 = .ok (.dup, 1) := by decide +kernel
theorem d_jdk_43_method_46_4 : decode jdk_43_method_46_code 4 = .ok (.iconst 0, 1) := by decide +kernel
theorem d_jdk_43_method_46_5 : decode jdk_43_method_46_code 5 = .ok (.iload_n 0, 1) := by decide +kernel
theorem d_jdk_43_method_46_6 : decode jdk_43_method_46_code 6 = .ok (.i2b, 1) := by decide +kernel
theorem d_jdk_43_method_46_7 : decode jdk_43_method_46_code 7 = .ok (.bastore, 1) := by decide +kernel
theorem d_jdk_43_method_46_8 : decode jdk_43_method_46_code 8 = .ok (.areturn, 1) := by decide +kernel
theorem d_jdk_42_method_151_0 : decode jdk_42_method_151_code 0 = .ok (.aload_n 0, 1) := by decide +kernel
theorem d_jdk_42_method_151_1 : decode jdk_42_method_151_code 1 = .ok (.invokespecial 1, 3) := by decide +kernel
theorem d_jdk_42_method_151_4 : decode jdk_42_method_151_code 4 = .ok (.aload_n 0, 1) := by decide +kernel
theorem d_jdk_42_method_151_5 : decode jdk_42_method_151_code 5 = .ok (.aload_n 1, 1) := by decide +kernel
theorem d_jdk_42_method_151_6 : decode jdk_42_method_151_code 6 = .ok (.putfield 9, 3) := by decide +kernel
theorem d_jdk_42_method_151_9 : decode jdk_42_method_151_code 9 = .ok (.aload_n 0, 1) := by decide +kernel
theorem d_jdk_42_method_151_10 : decode jdk_42_method_151_code 10 = .ok (.iload_n 2, 1) := by decide +kernel
theorem d_jdk_42_method_151_11 : decode jdk_42_method_151_code 11 = .ok (.putfield 15, 3) := by decide +kernel
theorem d_jdk_42_method_151_14 : decode jdk_42_method_151_code 14 = .ok (.return_, 1) := by decide +kernel
theorem d_jdk_42_method_139_0 : decode jdk_42_method_139_code 0 = .ok (.getstatic 38, 3) := by decide +kernel
theorem d_jdk_42_method_139_3 : decode jdk_42_method_139_code 3 = .ok (.ifCond .eq 23, 3) := by decide +kernel
theorem d_jdk_42_method_139_6 : decode jdk_42_method_139_code 6 = .ok (.iload_n 0, 1) := by decide +kernel
theorem d_jdk_42_method_139_7 : decode jdk_42_method_139_code 7 = .ok (.invokestatic 1015, 3) := by decide +kernel
theorem wd_91 {Z : State} {a0 : Array Value} (hw : HwT Z a0) : (Jvm.Cond.methodLink "java/lang/String" (1015 : Nat) ({ cls := "java/lang/StringLatin1", name := "canEncode", desc := "(C)Z" } : Jvm.MethodName)).before a0 Z = true := hw _ (List.mem_of_getElem? (i := 91) rfl)
theorem wd_93 {Z : State} {a0 : Array Value} (hw : HwT Z a0) : (Jvm.Cond.code ({ cls := "java/lang/StringLatin1", name := "canEncode", desc := "(C)Z" } : Jvm.MethodName) jdk_43_method_3_code (1 : Nat) (Option.some Jvm.ClassFile.FieldType.boolean)).before a0 Z = true := hw _ (List.mem_of_getElem? (i := 93) rfl)
theorem pd_5 : parseMethodDescriptor "(C)Z" = some ⟨[.char], some .boolean⟩ := by decide +kernel
theorem wd_92 {Z : State} {a0 : Array Value} (hw : HwT Z a0) : (Jvm.Cond.static ({ cls := "java/lang/StringLatin1", name := "canEncode", desc := "(C)Z" } : Jvm.MethodName)).before a0 Z = true := hw _ (List.mem_of_getElem? (i := 92) rfl)
theorem d_jdk_42_method_139_10 : decode jdk_42_method_139_code 10 = .ok (.ifCond .eq 16, 3) := by decide +kernel
theorem d_jdk_42_method_139_13 : decode jdk_42_method_139_code 13 = .ok (.new 10, 3) := by decide +kernel
theorem d_jdk_42_method_139_16 : decode jdk_42_method_139_code 16 = .ok (.dup, 1) := by decide +kernel
theorem d_jdk_42_method_139_17 : decode jdk_42_method_139_code 17 = .ok (.iload_n 0, 1) := by decide +kernel
theorem d_jdk_42_method_139_18 : decode jdk_42_method_139_code 18 = .ok (.invokestatic 1018, 3) := by decide +kernel
theorem wd_94 {Z : State} {a0 : Array Value} (hw : HwT Z a0) : (Jvm.Cond.methodLink "java/lang/String" (1018 : Nat) ({ cls := "java/lang/StringLatin1", name := "toBytes", desc := "(C)[B" } : Jvm.MethodName)).before a0 Z = true := hw _ (List.mem_of_getElem? (i := 94) rfl)
theorem wd_96 {Z : State} {a0 : Array Value} (hw : HwT Z a0) : (Jvm.Cond.code ({ cls := "java/lang/StringLatin1", name := "toBytes", desc := "(C)[B" } : Jvm.MethodName) jdk_43_method_46_code (1 : Nat) (Option.some (Jvm.ClassFile.FieldType.array Jvm.ClassFile.FieldType.byte))).before a0 Z = true := hw _ (List.mem_of_getElem? (i := 96) rfl)
theorem pd_6 : parseMethodDescriptor "(C)[B" = some ⟨[.char], some (.array .byte)⟩ := by decide +kernel
theorem wd_95 {Z : State} {a0 : Array Value} (hw : HwT Z a0) : (Jvm.Cond.static ({ cls := "java/lang/StringLatin1", name := "toBytes", desc := "(C)[B" } : Jvm.MethodName)).before a0 Z = true := hw _ (List.mem_of_getElem? (i := 95) rfl)
theorem d_jdk_42_method_139_21 : decode jdk_42_method_139_code 21 = .ok (.iconst 0, 1) := by decide +kernel
theorem d_jdk_42_method_139_22 : decode jdk_42_method_139_code 22 = .ok (.invokespecial 209, 3) := by decide +kernel
theorem wd_97 {Z : State} {a0 : Array Value} (hw : HwT Z a0) : (Jvm.Cond.methodLink "java/lang/String" (209 : Nat) ({ cls := "java/lang/String", name := "<init>", desc := "([BB)V" } : Jvm.MethodName)).before a0 Z = true := hw _ (List.mem_of_getElem? (i := 97) rfl)
theorem wd_99 {Z : State} {a0 : Array Value} (hw : HwT Z a0) : (Jvm.Cond.code ({ cls := "java/lang/String", name := "<init>", desc := "([BB)V" } : Jvm.MethodName) jdk_42_method_151_code (3 : Nat) (Option.none : Option Jvm.ClassFile.FieldType)).before a0 Z = true := hw _ (List.mem_of_getElem? (i := 99) rfl)
theorem pd_7 : parseMethodDescriptor "([BB)V" = some ⟨[(.array .byte), .byte], none⟩ := by decide +kernel
theorem wd_98 {Z : State} {a0 : Array Value} (hw : HwT Z a0) : (Jvm.Cond.instanceMethod ({ cls := "java/lang/String", name := "<init>", desc := "([BB)V" } : Jvm.MethodName)).before a0 Z = true := hw _ (List.mem_of_getElem? (i := 98) rfl)
theorem d_jdk_42_method_139_25 : decode jdk_42_method_139_code 25 = .ok (.areturn, 1) := by decide +kernel
theorem d_prog_10_method_1_0 : decode prog_10_method_1_code 0 = .ok (.getstatic 13, 3) := by decide +kernel
theorem wd_42 {Z : State} {a0 : Array Value} (hw : HwT Z a0) : (Jvm.Cond.fieldLink "com/example/eccentra/eccentra/GraphFormat" (13 : Nat) "com/example/eccentra/eccentra/GraphFormat" "$VALUES" "[Lcom/example/eccentra/eccentra/GraphFormat;").before a0 Z = true := hw _ (List.mem_of_getElem? (i := 42) rfl)
theorem d_prog_10_method_1_3 : decode prog_10_method_1_code 3 = .ok (.invokevirtual 17, 3) := by decide +kernel
theorem wd_44 {Z : State} {a0 : Array Value} (hw : HwT Z a0) : (Jvm.Cond.methodLink "com/example/eccentra/eccentra/GraphFormat" (17 : Nat) ({ cls := "[Lcom/example/eccentra/eccentra/GraphFormat;", name := "clone", desc := "()Ljava/lang/Object;" } : Jvm.MethodName)).before a0 Z = true := hw _ (List.mem_of_getElem? (i := 44) rfl)
theorem wd_45 {Z : State} {a0 : Array Value} (hw : HwT Z a0) : (Jvm.Cond.sameMethod "[Lcom/example/eccentra/eccentra/GraphFormat;" "java/lang/Object" "clone" "()Ljava/lang/Object;").before a0 Z = true := hw _ (List.mem_of_getElem? (i := 45) rfl)
theorem wd_49 {Z : State} {a0 : Array Value} (hw : HwT Z a0) : (Jvm.Cond.native ({ cls := "java/lang/Object", name := "clone", desc := "()Ljava/lang/Object;" } : Jvm.MethodName)).before a0 Z = true := hw _ (List.mem_of_getElem? (i := 49) rfl)
theorem wd_47 {Z : State} {a0 : Array Value} (hw : HwT Z a0) : (Jvm.Cond.instanceMethod ({ cls := "java/lang/Object", name := "clone", desc := "()Ljava/lang/Object;" } : Jvm.MethodName)).before a0 Z = true := hw _ (List.mem_of_getElem? (i := 47) rfl)
theorem wd_48 {Z : State} {a0 : Array Value} (hw : HwT Z a0) : (Jvm.Cond.selects "[Lcom/example/eccentra/eccentra/GraphFormat;" ({ cls := "[Lcom/example/eccentra/eccentra/GraphFormat;", name := "clone", desc := "()Ljava/lang/Object;" } : Jvm.MethodName) ({ cls := "java/lang/Object", name := "clone", desc := "()Ljava/lang/Object;" } : Jvm.MethodName)).before a0 Z = true := hw _ (List.mem_of_getElem? (i := 48) rfl)
theorem wd_50 {Z : State} {a0 : Array Value} (hw : HwT Z a0) : (Jvm.Cond.castable "[Lcom/example/eccentra/eccentra/GraphFormat;" "java/lang/Cloneable").before a0 Z = true := hw _ (List.mem_of_getElem? (i := 50) rfl)
theorem d_prog_10_method_1_6 : decode prog_10_method_1_code 6 = .ok (.checkcast 18, 3) := by decide +kernel
theorem wd_55 {Z : State} {a0 : Array Value} (hw : HwT Z a0) : (Jvm.Cond.classLink "com/example/eccentra/eccentra/GraphFormat" (18 : Nat) "[Lcom/example/eccentra/eccentra/GraphFormat;").before a0 Z = true := hw _ (List.mem_of_getElem? (i := 55) rfl)
theorem d_prog_10_method_1_9 : decode prog_10_method_1_code 9 = .ok (.areturn, 1) := by decide +kernel
theorem pn_4 : plainName "com/example/eccentra/eccentra/GraphFormat" = true := by first | (simp [plainName, overriddenIn]; done) | decide +kernel
theorem d_prog_10_method_4_0 : decode prog_10_method_4_code 0 = .ok (.invokestatic 36, 3) := by decide +kernel
theorem wd_39 {Z : State} {a0 : Array Value} (hw : HwT Z a0) : (Jvm.Cond.methodLink "com/example/eccentra/eccentra/GraphFormat" (36 : Nat) ({ cls := "com/example/eccentra/eccentra/GraphFormat", name := "values", desc := "()[Lcom/example/eccentra/eccentra/GraphFormat;" } : Jvm.MethodName)).before a0 Z = true := hw _ (List.mem_of_getElem? (i := 39) rfl)
theorem wd_41 {Z : State} {a0 : Array Value} (hw : HwT Z a0) : (Jvm.Cond.code ({ cls := "com/example/eccentra/eccentra/GraphFormat", name := "values", desc := "()[Lcom/example/eccentra/eccentra/GraphFormat;" } : Jvm.MethodName) prog_10_method_1_code (0 : Nat) (Option.some (Jvm.ClassFile.FieldType.array (Jvm.ClassFile.FieldType.object "com/example/eccentra/eccentra/GraphFormat")))).before a0 Z = true := hw _ (List.mem_of_getElem? (i := 41) rfl)
theorem pd_8 : parseMethodDescriptor "()[Lcom/example/eccentra/eccentra/GraphFormat;" = some ⟨[], some (.array (.object "com/example/eccentra/eccentra/GraphFormat"))⟩ := by decide +kernel
theorem wd_40 {Z : State} {a0 : Array Value} (hw : HwT Z a0) : (Jvm.Cond.static ({ cls := "com/example/eccentra/eccentra/GraphFormat", name := "values", desc := "()[Lcom/example/eccentra/eccentra/GraphFormat;" } : Jvm.MethodName)).before a0 Z = true := hw _ (List.mem_of_getElem? (i := 40) rfl)
theorem wd_37 {Z : State} {a0 : Array Value} (hw : HwT Z a0) : (Jvm.Cond.initialized "com/example/eccentra/eccentra/GraphFormat").before a0 Z = true := hw _ (List.mem_of_getElem? (i := 37) rfl)
theorem d_prog_10_method_4_3 : decode prog_10_method_4_code 3 = .ok (.astore_n 1, 1) := by decide +kernel
theorem d_prog_10_method_4_4 : decode prog_10_method_4_code 4 = .ok (.aload_n 1, 1) := by decide +kernel
theorem d_prog_10_method_4_5 : decode prog_10_method_4_code 5 = .ok (.arraylength, 1) := by decide +kernel
theorem d_prog_10_method_4_6 : decode prog_10_method_4_code 6 = .ok (.istore_n 2, 1) := by decide +kernel
theorem d_prog_10_method_4_7 : decode prog_10_method_4_code 7 = .ok (.iconst 0, 1) := by decide +kernel
theorem d_prog_10_method_4_8 : decode prog_10_method_4_code 8 = .ok (.istore_n 3, 1) := by decide +kernel
theorem d_prog_10_method_4_9 : decode prog_10_method_4_code 9 = .ok (.iload_n 3, 1) := by decide +kernel
theorem d_prog_10_method_4_10 : decode prog_10_method_4_code 10 = .ok (.iload_n 2, 1) := by decide +kernel
theorem d_prog_10_method_4_11 : decode prog_10_method_4_code 11 = .ok (.if_icmp .ge 29, 3) := by decide +kernel
theorem d_prog_10_method_4_14 : decode prog_10_method_4_code 14 = .ok (.aload_n 1, 1) := by decide +kernel
theorem d_prog_10_method_4_15 : decode prog_10_method_4_code 15 = .ok (.iload_n 3, 1) := by decide +kernel
theorem d_prog_10_method_4_16 : decode prog_10_method_4_code 16 = .ok (.aaload, 1) := by decide +kernel
theorem d_prog_10_method_4_17 : decode prog_10_method_4_code 17 = .ok (.astore 4, 2) := by decide +kernel
theorem d_prog_10_method_4_19 : decode prog_10_method_4_code 19 = .ok (.aload 4, 2) := by decide +kernel
theorem d_prog_10_method_4_21 : decode prog_10_method_4_code 21 = .ok (.getfield 32, 3) := by decide +kernel
theorem wd_57 {Z : State} {a0 : Array Value} (hw : HwT Z a0) : (Jvm.Cond.fieldLink "com/example/eccentra/eccentra/GraphFormat" (32 : Nat) "com/example/eccentra/eccentra/GraphFormat" "optionValue" "Ljava/lang/String;").before a0 Z = true := hw _ (List.mem_of_getElem? (i := 57) rfl)
theorem d_prog_10_method_4_24 : decode prog_10_method_4_code 24 = .ok (.aload_n 0, 1) := by decide +kernel
theorem d_prog_10_method_4_25 : decode prog_10_method_4_code 25 = .ok (.invokevirtual 40, 3) := by decide +kernel
theorem wd_59 {Z : State} {a0 : Array Value} (hw : HwT Z a0) : (Jvm.Cond.methodLink "com/example/eccentra/eccentra/GraphFormat" (40 : Nat) ({ cls := "java/lang/String", name := "equals", desc := "(Ljava/lang/Object;)Z" } : Jvm.MethodName)).before a0 Z = true := hw _ (List.mem_of_getElem? (i := 59) rfl)
theorem wd_62 {Z : State} {a0 : Array Value} (hw : HwT Z a0) : (Jvm.Cond.selects "java/lang/String" ({ cls := "java/lang/String", name := "equals", desc := "(Ljava/lang/Object;)Z" } : Jvm.MethodName) ({ cls := "java/lang/String", name := "equals", desc := "(Ljava/lang/Object;)Z" } : Jvm.MethodName)).before a0 Z = true := hw _ (List.mem_of_getElem? (i := 62) rfl)
theorem wd_63 {Z : State} {a0 : Array Value} (hw : HwT Z a0) : (Jvm.Cond.code ({ cls := "java/lang/String", name := "equals", desc := "(Ljava/lang/Object;)Z" } : Jvm.MethodName) jdk_42_method_66_code (3 : Nat) (Option.some Jvm.ClassFile.FieldType.boolean)).before a0 Z = true := hw _ (List.mem_of_getElem? (i := 63) rfl)
theorem pd_9 : parseMethodDescriptor "(Ljava/lang/Object;)Z" = some ⟨[(.object "java/lang/Object")], some .boolean⟩ := by decide +kernel
theorem wd_60 {Z : State} {a0 : Array Value} (hw : HwT Z a0) : (Jvm.Cond.declares ({ cls := "java/lang/String", name := "equals", desc := "(Ljava/lang/Object;)Z" } : Jvm.MethodName)).before a0 Z = true := hw _ (List.mem_of_getElem? (i := 60) rfl)
theorem wd_61 {Z : State} {a0 : Array Value} (hw : HwT Z a0) : (Jvm.Cond.instanceMethod ({ cls := "java/lang/String", name := "equals", desc := "(Ljava/lang/Object;)Z" } : Jvm.MethodName)).before a0 Z = true := hw _ (List.mem_of_getElem? (i := 61) rfl)
theorem d_prog_10_method_4_28 : decode prog_10_method_4_code 28 = .ok (.ifCond .eq 6, 3) := by decide +kernel
theorem d_prog_10_method_4_34 : decode prog_10_method_4_code 34 = .ok (.iinc 3 1, 3) := by decide +kernel
theorem d_prog_10_method_4_37 : decode prog_10_method_4_code 37 = .ok (.goto (-28), 3) := by decide +kernel
theorem d_prog_10_method_4_40 : decode prog_10_method_4_code 40 = .ok (.aconst_null, 1) := by decide +kernel
theorem d_prog_10_method_4_41 : decode prog_10_method_4_code 41 = .ok (.areturn, 1) := by decide +kernel
theorem d_prog_10_method_4_31 : decode prog_10_method_4_code 31 = .ok (.aload 4, 2) := by decide +kernel
theorem d_prog_10_method_4_33 : decode prog_10_method_4_code 33 = .ok (.areturn, 1) := by decide +kernel
theorem d_method_3_0 : decode method_3_code 0 = .ok (.aload_n 0, 1) := by decide +kernel
theorem d_method_3_1 : decode method_3_code 1 = .ok (.ifnonnull 5, 3) := by decide +kernel
theorem d_method_3_6 : decode method_3_code 6 = .ok (.aload_n 0, 1) := by decide +kernel
theorem d_method_3_7 : decode method_3_code 7 = .ok (.ldc 39, 2) := by decide +kernel
theorem d_method_3_9 : decode method_3_code 9 = .ok (.invokevirtual 41, 3) := by decide +kernel
theorem wd_75 {Z : State} {a0 : Array Value} (hw : HwT Z a0) : (Jvm.Cond.methodLink "com/example/eccentra/eccentra/GraphFormatNamedPinLaw" (41 : Nat) ({ cls := "java/lang/String", name := "equals", desc := "(Ljava/lang/Object;)Z" } : Jvm.MethodName)).before a0 Z = true := hw _ (List.mem_of_getElem? (i := 75) rfl)
theorem d_method_3_12 : decode method_3_code 12 = .ok (.ifCond .eq 7, 3) := by decide +kernel
theorem d_method_3_15 : decode method_3_code 15 = .ok (.getstatic 45, 3) := by decide +kernel
theorem wd_82 {Z : State} {a0 : Array Value} (hw : HwT Z a0) : (Jvm.Cond.fieldLink "com/example/eccentra/eccentra/GraphFormatNamedPinLaw" (45 : Nat) "com/example/eccentra/eccentra/GraphFormat" "EDGELIST" "Lcom/example/eccentra/eccentra/GraphFormat;").before a0 Z = true := hw _ (List.mem_of_getElem? (i := 82) rfl)
theorem d_method_3_18 : decode method_3_code 18 = .ok (.areturn, 1) := by decide +kernel
theorem d_method_3_19 : decode method_3_code 19 = .ok (.aload_n 0, 1) := by decide +kernel
theorem d_method_3_20 : decode method_3_code 20 = .ok (.ldc 49, 2) := by decide +kernel
theorem d_method_3_22 : decode method_3_code 22 = .ok (.invokevirtual 41, 3) := by decide +kernel
theorem d_method_3_25 : decode method_3_code 25 = .ok (.ifCond .eq 7, 3) := by decide +kernel
theorem d_method_3_28 : decode method_3_code 28 = .ok (.getstatic 51, 3) := by decide +kernel
theorem wd_87 {Z : State} {a0 : Array Value} (hw : HwT Z a0) : (Jvm.Cond.fieldLink "com/example/eccentra/eccentra/GraphFormatNamedPinLaw" (51 : Nat) "com/example/eccentra/eccentra/GraphFormat" "ADJLIST" "Lcom/example/eccentra/eccentra/GraphFormat;").before a0 Z = true := hw _ (List.mem_of_getElem? (i := 87) rfl)
theorem d_method_3_31 : decode method_3_code 31 = .ok (.areturn, 1) := by decide +kernel
theorem d_method_3_32 : decode method_3_code 32 = .ok (.aload_n 0, 1) := by decide +kernel
theorem d_method_3_33 : decode method_3_code 33 = .ok (.ldc 54, 2) := by decide +kernel
theorem d_method_3_35 : decode method_3_code 35 = .ok (.invokevirtual 41, 3) := by decide +kernel
theorem d_method_3_38 : decode method_3_code 38 = .ok (.ifCond .eq 7, 3) := by decide +kernel
theorem d_method_3_41 : decode method_3_code 41 = .ok (.getstatic 56, 3) := by decide +kernel
theorem wd_86 {Z : State} {a0 : Array Value} (hw : HwT Z a0) : (Jvm.Cond.fieldLink "com/example/eccentra/eccentra/GraphFormatNamedPinLaw" (56 : Nat) "com/example/eccentra/eccentra/GraphFormat" "MTX" "Lcom/example/eccentra/eccentra/GraphFormat;").before a0 Z = true := hw _ (List.mem_of_getElem? (i := 86) rfl)
theorem d_method_3_44 : decode method_3_code 44 = .ok (.areturn, 1) := by decide +kernel
theorem d_method_3_45 : decode method_3_code 45 = .ok (.aconst_null, 1) := by decide +kernel
theorem d_method_3_46 : decode method_3_code 46 = .ok (.areturn, 1) := by decide +kernel
theorem d_method_3_4 : decode method_3_code 4 = .ok (.aconst_null, 1) := by decide +kernel
theorem d_method_3_5 : decode method_3_code 5 = .ok (.areturn, 1) := by decide +kernel
theorem wd_0 {Z : State} {a0 : Array Value} (hw : HwT Z a0) : (Jvm.Cond.constant "com/example/eccentra/eccentra/GraphFormatNamedPinLaw" (7 : Nat) (2147483647 : Int32)).before a0 Z = true := hw _ (List.mem_of_getElem? (i := 0) rfl)
theorem wd_1 {Z : State} {a0 : Array Value} (hw : HwT Z a0) : (Jvm.Cond.classLink "com/example/eccentra/eccentra/GraphFormatNamedPinLaw" (8 : Nat) "java/lang/String").before a0 Z = true := hw _ (List.mem_of_getElem? (i := 1) rfl)
theorem wd_79 {Z : State} {a0 : Array Value} (hw : HwT Z a0) : (Jvm.Cond.methodLink "com/example/eccentra/eccentra/GraphFormatNamedPinLaw" (10 : Nat) ({ cls := "com/example/eccentra/eccentra/GraphFormatNamedPinLaw", name := "full", desc := "(I)[C" } : Jvm.MethodName)).before a0 Z = true := hw _ (List.mem_of_getElem? (i := 79) rfl)
theorem wd_81 {Z : State} {a0 : Array Value} (hw : HwT Z a0) : (Jvm.Cond.code ({ cls := "com/example/eccentra/eccentra/GraphFormatNamedPinLaw", name := "full", desc := "(I)[C" } : Jvm.MethodName) method_4_code (1 : Nat) (Option.some (Jvm.ClassFile.FieldType.array Jvm.ClassFile.FieldType.char))).before a0 Z = true := hw _ (List.mem_of_getElem? (i := 81) rfl)
theorem pd_10 : parseMethodDescriptor "(I)[C" = some ⟨[.int], some (.array .char)⟩ := by decide +kernel
theorem wd_80 {Z : State} {a0 : Array Value} (hw : HwT Z a0) : (Jvm.Cond.static ({ cls := "com/example/eccentra/eccentra/GraphFormatNamedPinLaw", name := "full", desc := "(I)[C" } : Jvm.MethodName)).before a0 Z = true := hw _ (List.mem_of_getElem? (i := 80) rfl)
theorem wd_6 {Z : State} {a0 : Array Value} (hw : HwT Z a0) : (Jvm.Cond.initialized "com/example/eccentra/eccentra/GraphFormatNamedPinLaw").before a0 Z = true := hw _ (List.mem_of_getElem? (i := 6) rfl)
theorem wd_9 {Z : State} {a0 : Array Value} (hw : HwT Z a0) : (Jvm.Cond.methodLink "com/example/eccentra/eccentra/GraphFormatNamedPinLaw" (16 : Nat) ({ cls := "java/lang/String", name := "<init>", desc := "([C)V" } : Jvm.MethodName)).before a0 Z = true := hw _ (List.mem_of_getElem? (i := 9) rfl)
theorem wd_11 {Z : State} {a0 : Array Value} (hw : HwT Z a0) : (Jvm.Cond.code ({ cls := "java/lang/String", name := "<init>", desc := "([C)V" } : Jvm.MethodName) jdk_42_method_3_code (2 : Nat) (Option.none : Option Jvm.ClassFile.FieldType)).before a0 Z = true := hw _ (List.mem_of_getElem? (i := 11) rfl)
theorem pd_11 : parseMethodDescriptor "([C)V" = some ⟨[(.array .char)], none⟩ := by decide +kernel
theorem wd_10 {Z : State} {a0 : Array Value} (hw : HwT Z a0) : (Jvm.Cond.instanceMethod ({ cls := "java/lang/String", name := "<init>", desc := "([C)V" } : Jvm.MethodName)).before a0 Z = true := hw _ (List.mem_of_getElem? (i := 10) rfl)
theorem wd_35 {Z : State} {a0 : Array Value} (hw : HwT Z a0) : (Jvm.Cond.methodLink "com/example/eccentra/eccentra/GraphFormatNamedPinLaw" (30 : Nat) ({ cls := "com/example/eccentra/eccentra/GraphFormat", name := "named", desc := "(Ljava/lang/String;)Lcom/example/eccentra/eccentra/GraphFormat;" } : Jvm.MethodName)).before a0 Z = true := hw _ (List.mem_of_getElem? (i := 35) rfl)
theorem wd_38 {Z : State} {a0 : Array Value} (hw : HwT Z a0) : (Jvm.Cond.code ({ cls := "com/example/eccentra/eccentra/GraphFormat", name := "named", desc := "(Ljava/lang/String;)Lcom/example/eccentra/eccentra/GraphFormat;" } : Jvm.MethodName) prog_10_method_4_code (5 : Nat) (Option.some (Jvm.ClassFile.FieldType.object "com/example/eccentra/eccentra/GraphFormat"))).before a0 Z = true := hw _ (List.mem_of_getElem? (i := 38) rfl)
theorem pd_12 : parseMethodDescriptor "(Ljava/lang/String;)Lcom/example/eccentra/eccentra/GraphFormat;" = some ⟨[(.object "java/lang/String")], some (.object "com/example/eccentra/eccentra/GraphFormat")⟩ := by decide +kernel
theorem wd_36 {Z : State} {a0 : Array Value} (hw : HwT Z a0) : (Jvm.Cond.static ({ cls := "com/example/eccentra/eccentra/GraphFormat", name := "named", desc := "(Ljava/lang/String;)Lcom/example/eccentra/eccentra/GraphFormat;" } : Jvm.MethodName)).before a0 Z = true := hw _ (List.mem_of_getElem? (i := 36) rfl)
theorem wd_69 {Z : State} {a0 : Array Value} (hw : HwT Z a0) : (Jvm.Cond.methodLink "com/example/eccentra/eccentra/GraphFormatNamedPinLaw" (36 : Nat) ({ cls := "com/example/eccentra/eccentra/GraphFormatNamedPinLaw", name := "expected", desc := "(Ljava/lang/String;)Lcom/example/eccentra/eccentra/GraphFormat;" } : Jvm.MethodName)).before a0 Z = true := hw _ (List.mem_of_getElem? (i := 69) rfl)
theorem wd_71 {Z : State} {a0 : Array Value} (hw : HwT Z a0) : (Jvm.Cond.code ({ cls := "com/example/eccentra/eccentra/GraphFormatNamedPinLaw", name := "expected", desc := "(Ljava/lang/String;)Lcom/example/eccentra/eccentra/GraphFormat;" } : Jvm.MethodName) method_3_code (1 : Nat) (Option.some (Jvm.ClassFile.FieldType.object "com/example/eccentra/eccentra/GraphFormat"))).before a0 Z = true := hw _ (List.mem_of_getElem? (i := 71) rfl)
theorem wd_70 {Z : State} {a0 : Array Value} (hw : HwT Z a0) : (Jvm.Cond.static ({ cls := "com/example/eccentra/eccentra/GraphFormatNamedPinLaw", name := "expected", desc := "(Ljava/lang/String;)Lcom/example/eccentra/eccentra/GraphFormat;" } : Jvm.MethodName)).before a0 Z = true := hw _ (List.mem_of_getElem? (i := 70) rfl)
theorem wd_83 {Z : State} {a0 : Array Value} (hw : HwT Z a0) : (Jvm.Cond.methodLink "com/example/eccentra/eccentra/GraphFormatNamedPinLaw" (19 : Nat) ({ cls := "com/example/eccentra/eccentra/GraphFormatNamedPinLaw", name := "trunc", desc := "(I)[C" } : Jvm.MethodName)).before a0 Z = true := hw _ (List.mem_of_getElem? (i := 83) rfl)
theorem wd_85 {Z : State} {a0 : Array Value} (hw : HwT Z a0) : (Jvm.Cond.code ({ cls := "com/example/eccentra/eccentra/GraphFormatNamedPinLaw", name := "trunc", desc := "(I)[C" } : Jvm.MethodName) method_5_code (1 : Nat) (Option.some (Jvm.ClassFile.FieldType.array Jvm.ClassFile.FieldType.char))).before a0 Z = true := hw _ (List.mem_of_getElem? (i := 85) rfl)
theorem wd_84 {Z : State} {a0 : Array Value} (hw : HwT Z a0) : (Jvm.Cond.static ({ cls := "com/example/eccentra/eccentra/GraphFormatNamedPinLaw", name := "trunc", desc := "(I)[C" } : Jvm.MethodName)).before a0 Z = true := hw _ (List.mem_of_getElem? (i := 84) rfl)
theorem wd_4 {Z : State} {a0 : Array Value} (hw : HwT Z a0) : (Jvm.Cond.methodLink "com/example/eccentra/eccentra/GraphFormatNamedPinLaw" (22 : Nat) ({ cls := "com/example/eccentra/eccentra/GraphFormatNamedPinLaw", name := "ext", desc := "(IC)[C" } : Jvm.MethodName)).before a0 Z = true := hw _ (List.mem_of_getElem? (i := 4) rfl)
theorem wd_7 {Z : State} {a0 : Array Value} (hw : HwT Z a0) : (Jvm.Cond.code ({ cls := "com/example/eccentra/eccentra/GraphFormatNamedPinLaw", name := "ext", desc := "(IC)[C" } : Jvm.MethodName) method_6_code (2 : Nat) (Option.some (Jvm.ClassFile.FieldType.array Jvm.ClassFile.FieldType.char))).before a0 Z = true := hw _ (List.mem_of_getElem? (i := 7) rfl)
theorem pd_13 : parseMethodDescriptor "(IC)[C" = some ⟨[.int, .char], some (.array .char)⟩ := by decide +kernel
theorem wd_5 {Z : State} {a0 : Array Value} (hw : HwT Z a0) : (Jvm.Cond.static ({ cls := "com/example/eccentra/eccentra/GraphFormatNamedPinLaw", name := "ext", desc := "(IC)[C" } : Jvm.MethodName)).before a0 Z = true := hw _ (List.mem_of_getElem? (i := 5) rfl)
theorem wd_88 {Z : State} {a0 : Array Value} (hw : HwT Z a0) : (Jvm.Cond.methodLink "com/example/eccentra/eccentra/GraphFormatNamedPinLaw" (26 : Nat) ({ cls := "java/lang/String", name := "valueOf", desc := "(C)Ljava/lang/String;" } : Jvm.MethodName)).before a0 Z = true := hw _ (List.mem_of_getElem? (i := 88) rfl)
theorem wd_90 {Z : State} {a0 : Array Value} (hw : HwT Z a0) : (Jvm.Cond.code ({ cls := "java/lang/String", name := "valueOf", desc := "(C)Ljava/lang/String;" } : Jvm.MethodName) jdk_42_method_139_code (1 : Nat) (Option.some (Jvm.ClassFile.FieldType.object "java/lang/String"))).before a0 Z = true := hw _ (List.mem_of_getElem? (i := 90) rfl)
theorem pd_14 : parseMethodDescriptor "(C)Ljava/lang/String;" = some ⟨[.char], some (.object "java/lang/String")⟩ := by decide +kernel
theorem wd_89 {Z : State} {a0 : Array Value} (hw : HwT Z a0) : (Jvm.Cond.static ({ cls := "java/lang/String", name := "valueOf", desc := "(C)Ljava/lang/String;" } : Jvm.MethodName)).before a0 Z = true := hw _ (List.mem_of_getElem? (i := 89) rfl)
theorem wd_43 {Z : State} {a0 : Array Value} (hw : HwT Z a0) : (Jvm.Cond.laysStatic "com/example/eccentra/eccentra/GraphFormat" "$VALUES" "[Lcom/example/eccentra/eccentra/GraphFormat;").before a0 Z = true := hw _ (List.mem_of_getElem? (i := 43) rfl)
theorem wd_51 {Z : State} {a0 : Array Value} (hw : HwT Z a0) : (Jvm.Cond.laysStatic "com/example/eccentra/eccentra/GraphFormat" "EDGELIST" "Lcom/example/eccentra/eccentra/GraphFormat;").before a0 Z = true := hw _ (List.mem_of_getElem? (i := 51) rfl)
theorem wd_52 {Z : State} {a0 : Array Value} (hw : HwT Z a0) : (Jvm.Cond.laysStatic "com/example/eccentra/eccentra/GraphFormat" "ADJLIST" "Lcom/example/eccentra/eccentra/GraphFormat;").before a0 Z = true := hw _ (List.mem_of_getElem? (i := 52) rfl)
theorem wd_53 {Z : State} {a0 : Array Value} (hw : HwT Z a0) : (Jvm.Cond.laysStatic "com/example/eccentra/eccentra/GraphFormat" "MTX" "Lcom/example/eccentra/eccentra/GraphFormat;").before a0 Z = true := hw _ (List.mem_of_getElem? (i := 53) rfl)
theorem own_wS {Z : State} {a0 : Array Value} (hw : HwT Z a0) : ∀ a ∈ Bundle.stringAtoms, a.before a0 Z = true := by
  intro a ha
  simp only [Bundle.stringAtoms, List.mem_cons, List.not_mem_nil, or_false] at ha
  rcases ha with rfl | rfl | rfl | rfl | rfl | rfl | rfl
  · exact (wd_3 hw)
  · exact (wd_2 hw)
  · exact (wd_24 hw)
  · exact (wd_34 hw)
  · exact (wd_32 hw)
  · exact (wd_73 hw)
  · exact (wd_74 hw)
theorem own_EL {Z : State} {a0 : Array Value} (hw : HwT Z a0) : EW Z a0 consts_1 := (EW.cons (wd_72 hw) (by decide) (EW.cons (wd_76 hw) (by decide) (EW.cons (wd_77 hw) (by decide) (EW.cons (wd_78 hw) (by decide) EW.nil))))
def ChOk (c : Int32) : Prop := 0 ≤ c.toInt ∧ c.toInt ≤ 255
theorem ch_nar {c : Int32} (H : ChOk c) : nar .char c = c := by
  have h := c_i2c c; unfold ChOk at H
  exact Int32.toInt_inj.mp (show (c.toUInt32.toUInt16.toUInt32.toInt32).toInt = c.toInt by omega)
theorem ch_le {c : Int32} (H : ChOk c) : ¬ (255 : Int32) < c := by
  unfold ChOk at H
  rw [Int32.lt_iff_toInt_lt, show (255 : Int32).toInt = 255 from rfl]; omega
theorem nar_b (c : Int32) : nar .byte (c.toInt8.toInt32) = c.toInt8.toInt32 := by
  have h := c_i2b c; have h2 := c_i2b c.toInt8.toInt32
  exact Int32.toInt_inj.mp (show (c.toInt8.toInt32.toInt8.toInt32).toInt = c.toInt8.toInt32.toInt by omega)
theorem ch_byte {c d : Int32} (H : ChOk c) (H' : ChOk d) (h : c.toInt8.toInt32 = d.toInt8.toInt32) : c = d := by
  have h1 := c_i2b c; have h2 := c_i2b d; unfold ChOk at H H'; rw [h] at h1
  exact Int32.toInt_inj.mp (by omega)
theorem ki_succ (k : Nat) : k.toInt32 + (1 : Int32) = (k + 1).toInt32 := (Int32.ofNat_add k 1).symm
theorem ki_int {k : Nat} (h : k < 2 ^ 31) : (k.toInt32).toInt = k := Int32.toInt_ofNat_of_lt h
theorem ki_idx {k : Nat} (h : k < 2 ^ 31) : k.toInt32.toNatClampNeg = k := by simp only [Int32.toNatClampNeg]; rw [ki_int h]; simp
theorem ki_nn {k : Nat} (h : k < 2 ^ 31) : ¬ k.toInt32 < 0 := by rw [Int32.lt_iff_toInt_lt, ki_int h]; simp
theorem ki_lt {k n : Nat} (h : k < n) (hn : n < 2 ^ 31) : k.toInt32 < n.toInt32 := by rw [Int32.lt_iff_toInt_lt, ki_int (Nat.lt_trans h hn), ki_int hn]; exact Int.ofNat_lt.mpr h
theorem ki_ne {k n : Nat} (h : k ≠ n) (hk : k < 2 ^ 31) (hn : n < 2 ^ 31) : ¬ k.toInt32 = n.toInt32 := fun q => h (by have := congrArg Int32.toInt q; rw [ki_int hk, ki_int hn] at this; exact Int.ofNat_inj.mp this)
abbrev iv (xs : List Int32) : List Value := xs.map Value.int
theorem iv_len (xs : List Int32) : (iv xs).length = xs.length := List.length_map ..
theorem iv_at {xs : List Int32} {k : Nat} (h : k < xs.length) : (iv xs)[k]? = some (.int (xs.getD k 0)) := by simp [iv, List.getElem?_map, List.getElem?_eq_getElem h, List.getD_eq_getElem?_getD]
theorem iv_31 {Z : State} {h : Heap} {a : Addr} {ty : FieldType} {xs : List Int32} (A : Ary Z h a ty (iv xs)) : xs.length < 2 ^ 31 := by obtain ⟨_, _, _, _, q⟩ := A; rw [iv_len] at q; exact q
abbrev sameW (xs ys : List Int32) : Int32 := if xs = ys then 1 else 0
theorem own_take {xs ys : List Int32} {k : Nat} (hl : xs.length = ys.length) (h : k < xs.length) (ht : xs.take k = ys.take k) (e : xs.getD k 0 = ys.getD k 0) : xs.take (k + 1) = ys.take (k + 1) := by
  rw [List.take_succ, List.take_succ, ht]
  have h2 : k < ys.length := hl ▸ h
  simp only [List.getD_eq_getElem?_getD, List.getElem?_eq_getElem h, List.getElem?_eq_getElem h2, Option.getD_some] at e ⊢
  rw [e]
theorem l_leq (l : Launch) (Z : State) (a0 : Array Value) (hw : HwT Z a0) (b c : Addr) (xs ys : List Int32) (h : Heap) (n0 : Nat) (A0 : Ary Z h b .byte (iv xs)) (A1 : Ary Z h c .byte (iv ys)) (hl : xs.length = ys.length) : ∀ (m k : Nat), k + m = xs.length → xs.take k = ys.take k → W l ({ frames := 0, cells := 0, slots := 0, locals := 0 } : Room) Z "java/lang/StringLatin1" "equals" jdk_43_method_13_code 3 (some .boolean) n0 (fun v h' => v = some (.int (sameW xs ys)) ∧ h' = h) h 0 0 9 #[.val (.ref b), .val (.ref c), .val (.int k.toInt32)] [] := by
  have h31 := iv_31 A0
  intro m
  induction m with
  | zero =>
    intro k hkm ht
    have hge : ¬ k.toInt32 < xs.length.toInt32 := by rw [show k = xs.length by omega]; exact Int32.lt_irrefl
    have hall : xs = ys := by rw [List.take_of_length_le (by omega), List.take_of_length_le (by omega)] at ht; exact ht
    refine W.iloadN 10 d_jdk_43_method_13_9 rfl rfl ?_
    refine W.aloadN 11 d_jdk_43_method_13_10 rfl rfl rfl ?_
    refine W.arraylength 12 d_jdk_43_method_13_11 rfl A0 xs.length.toInt32 (by rw [iv_len]) ?_
    refine W.icmp_ge 32 15 d_jdk_43_method_13_12 rfl rfl (fun _ => ?_) (fun hc => absurd hc hge)
    refine W.iconst 33 d_jdk_43_method_13_32 rfl (1 : Int32) rfl ?_
    exact W.ireturnN (t := .boolean) d_jdk_43_method_13_33 rfl (by simp) (1 : Int32) rfl ⟨by rw [sameW, if_pos hall], rfl⟩ (by decide) (by decide)
  | succ m ih =>
    intro k hkm ht
    have hkl : k < xs.length := by omega
    have hkl' : k < ys.length := by omega
    have hk31 : k < 2 ^ 31 := by omega
    refine W.iloadN 10 d_jdk_43_method_13_9 rfl rfl ?_
    refine W.aloadN 11 d_jdk_43_method_13_10 rfl rfl rfl ?_
    refine W.arraylength 12 d_jdk_43_method_13_11 rfl A0 xs.length.toInt32 (by rw [iv_len]) ?_
    refine W.icmp_ge 32 15 d_jdk_43_method_13_12 rfl rfl (fun hc => absurd (ki_lt hkl h31) hc) (fun _ => ?_)
    refine W.aloadN 16 d_jdk_43_method_13_15 rfl rfl rfl ?_
    refine W.iloadN 17 d_jdk_43_method_13_16 rfl rfl ?_
    refine W.baload 18 d_jdk_43_method_13_17 rfl A0 k (ki_idx hk31) (ki_nn hk31) (.int (xs.getD k 0)) (iv_at hkl) ?_
    refine W.aloadN 19 d_jdk_43_method_13_18 rfl rfl rfl ?_
    refine W.iloadN 20 d_jdk_43_method_13_19 rfl rfl ?_
    refine W.baload 21 d_jdk_43_method_13_20 rfl A1 k (ki_idx hk31) (ki_nn hk31) (.int (ys.getD k 0)) (iv_at hkl') ?_
    refine W.icmp_eq 26 24 d_jdk_43_method_13_21 rfl rfl ?_ ?_
    · intro hc1001
      refine W.iinc 29 d_jdk_43_method_13_26 rfl rfl (k + 1).toInt32 (ki_succ k) #[.val (.ref b), .val (.ref c), .val (.int (k + 1).toInt32)] rfl ?_
      refine W.goto 9 d_jdk_43_method_13_29 rfl ?_
      exact ih (k + 1) (by omega) (own_take hl hkl ht hc1001)
    · intro hc1001
      refine W.iconst 25 d_jdk_43_method_13_24 rfl (0 : Int32) rfl ?_
      exact W.ireturnN (t := .boolean) d_jdk_43_method_13_25 rfl (by simp) (0 : Int32) rfl ⟨by rw [sameW, if_neg (fun q => hc1001 (by rw [q]))], rfl⟩ (by decide) (by decide)
theorem c_leqg (l : Launch) (Z : State) (a0 : Array Value) (hw : HwT Z a0) (b c : Addr) (xs ys : List Int32) (h : Heap) (n0 : Nat) (hn : n0 ≤ h.size) (A0 : Ary Z h b .byte (iv xs)) (A1 : Ary Z h c .byte (iv ys)) : Con l Z (⟨"java/lang/StringLatin1", "equals", "([B[B)Z"⟩ : MethodName) jdk_43_method_13_code 3 (some .boolean) ({ frames := 0, cells := 0, slots := 0, locals := 0 } : Room) #[(.ref b), (.ref c)] h n0 (fun v h' => v = some (.int (sameW xs ys)) ∧ h' = h) := by
  refine ConG.of_W (Ls := #[.val (.ref b), .val (.ref c), .unset]) (plainFor_of_name pn_0) hn (fun m => by first | (simp [entryFrame, mkF, argsToLocals, Value.category]; done) | rfl) ?_
  refine W.aloadN 1 d_jdk_43_method_13_0 rfl rfl rfl ?_
  refine W.arraylength 2 d_jdk_43_method_13_1 rfl A0 xs.length.toInt32 (by rw [iv_len]) ?_
  refine W.aloadN 3 d_jdk_43_method_13_2 rfl rfl rfl ?_
  refine W.arraylength 4 d_jdk_43_method_13_3 rfl A1 ys.length.toInt32 (by rw [iv_len]) ?_
  refine W.icmp_ne 34 7 d_jdk_43_method_13_4 rfl rfl ?_ ?_
  · intro hc1002
    refine W.iconst 35 d_jdk_43_method_13_34 rfl (0 : Int32) rfl ?_
    exact W.ireturnN (t := .boolean) d_jdk_43_method_13_35 rfl (by simp) (0 : Int32) rfl ⟨by rw [sameW, if_neg (fun q => hc1002 (by rw [q]))], rfl⟩ (by decide) (by decide)
  · intro hc1002
    refine W.iconst 8 d_jdk_43_method_13_7 rfl (0 : Int32) rfl ?_
    refine W.istoreN 9 d_jdk_43_method_13_8 rfl #[.val (.ref b), .val (.ref c), .val (.int (0 : Int32))] rfl ?_
    exact (l_leq l Z a0 hw b c xs ys _ n0 A0 A1 (Classical.byContradiction fun q => ki_ne q (iv_31 A0) (iv_31 A1) hc1002) xs.length 0 (by omega) rfl)
theorem own_s1 {xs ys : List Int32} (h : ¬ sameW xs ys = (0 : Int32)) : sameW xs ys = 1 := by
  unfold sameW at *; split
  · rfl
  · next q => exact absurd (if_neg q) h
theorem iv_inj {xs ys : List Int32} (h : iv xs = iv ys) : xs = ys := by
  have := congrArg (List.map fun v => match v with | .int z => z | _ => (0 : Int32)) h
  simpa [iv, List.map_map, Function.comp_def] using this
theorem own_same {Z : State} {h : Heap} {s t b c : Addr} {xs ys : List Int32} (e : (Value.ref s) = .ref t) (A0 : Ary Z h b .byte (iv xs)) (A1 : Ary Z h c .byte (iv ys)) (V0 : Fld Z h s "java/lang/String" "value" "[B" (.ref b)) (V1 : Fld Z h t "java/lang/String" "value" "[B" (.ref c)) : xs = ys := by
  cases e
  obtain ⟨cl, cf, k, i, f, h1, h2, -, -, -, -, h7⟩ := V0
  obtain ⟨cl', cf', k', i', f', g1, g2, -, -, -, -, g7⟩ := V1
  cases h1.symm.trans g1; cases h2.symm.trans g2
  cases h7.symm.trans g7
  obtain ⟨c1, ⟨p1, -⟩, e1, -⟩ := A0
  obtain ⟨c2, ⟨p2, -⟩, e2, -⟩ := A1
  cases p1.symm.trans p2
  exact iv_inj (e1.symm.trans e2)
theorem c_eqg (l : Launch) (Z : State) (a0 : Array Value) (hw : HwT Z a0) (s t b c : Addr) (kc : Int32) (hkc : ¬ kc = 0) (xs ys : List Int32) (h : Heap) (n0 : Nat) (hn : n0 ≤ h.size) (FS : Sta Z h "java/lang/String" "COMPACT_STRINGS" "Z" (.int kc)) (E0 : Exa Z h s "java/lang/String") (C0 : Fld Z h s "java/lang/String" "coder" "B" (.int 0)) (V0 : Fld Z h s "java/lang/String" "value" "[B" (.ref b)) (A0 : Ary Z h b .byte (iv xs)) (E1 : Exa Z h t "java/lang/String") (C1 : Fld Z h t "java/lang/String" "coder" "B" (.int 0)) (V1 : Fld Z h t "java/lang/String" "value" "[B" (.ref c)) (A1 : Ary Z h c .byte (iv ys)) : Con l Z (⟨"java/lang/String", "equals", "(Ljava/lang/Object;)Z"⟩ : MethodName) jdk_42_method_66_code 3 (some .boolean) ({ frames := 1, cells := 0, slots := 0, locals := 20 } : Room) #[(.ref s), (.ref t)] h n0 (fun v h' => v = some (.int (sameW xs ys)) ∧ h' = h) := by
  refine ConG.of_W (Ls := #[.val (.ref s), .val (.ref t), .unset]) (plainFor_of_name pn_1) hn (fun m => by first | (simp [entryFrame, mkF, argsToLocals, Value.category]; done) | rfl) ?_
  refine W.aloadN 1 d_jdk_42_method_66_0 rfl rfl rfl ?_
  refine W.aloadN 2 d_jdk_42_method_66_1 rfl rfl rfl ?_
  refine W.acmp_ne 7 5 d_jdk_42_method_66_2 rfl rfl rfl rfl ?_ ?_
  · intro hc1003
    refine W.aloadN 8 d_jdk_42_method_66_7 rfl rfl rfl ?_
    refine W.instYes 11 d_jdk_42_method_66_8 rfl (wd_64 hw) (Ins.self E1) ?_
    refine W.if_eq 54 14 d_jdk_42_method_66_11 rfl rfl (fun hc => absurd hc (by decide)) (fun _ => ?_)
    refine W.aloadN 15 d_jdk_42_method_66_14 rfl rfl rfl ?_
    refine W.checkcast 18 d_jdk_42_method_66_15 rfl (wd_64 hw) (Ins.self E1) ?_
    refine W.astoreN 19 d_jdk_42_method_66_18 rfl rfl #[.val (.ref s), .val (.ref t), .val (.ref t)] rfl ?_
    refine W.getstatic 22 d_jdk_42_method_66_19 rfl (host := "") (Or.inl (wd_19 hw)) Via.refl FS ?_
    refine W.if_eq 36 25 d_jdk_42_method_66_22 rfl rfl (fun hc => absurd hc hkc) (fun _ => ?_)
    refine W.aloadN 26 d_jdk_42_method_66_25 rfl rfl rfl ?_
    refine W.getfield 29 d_jdk_42_method_66_26 rfl (host := "") (Or.inl (wd_31 hw)) Via.refl C0 ?_
    refine W.aloadN 30 d_jdk_42_method_66_29 rfl rfl rfl ?_
    refine W.getfield 33 d_jdk_42_method_66_30 rfl (host := "") (Or.inl (wd_31 hw)) Via.refl C1 ?_
    refine W.icmp_ne 54 36 d_jdk_42_method_66_33 rfl rfl (fun hc => absurd (by decide) hc) (fun _ => ?_)
    refine W.aloadN 37 d_jdk_42_method_66_36 rfl rfl rfl ?_
    refine W.getfield 40 d_jdk_42_method_66_37 rfl (host := "") (Or.inl (wd_33 hw)) Via.refl V0 ?_
    refine W.aloadN 41 d_jdk_42_method_66_40 rfl rfl rfl ?_
    refine W.getfield 44 d_jdk_42_method_66_41 rfl (host := "") (Or.inl (wd_33 hw)) Via.refl V1 ?_
    refine W.callS (rest := []) (argsL := [(.ref b), (.ref c)]) 47 d_jdk_42_method_66_44 rfl (fun hn => c_leqg l Z a0 hw b c xs ys _ n0 hn A0 A1) (wd_65 hw) (wd_66 hw) (wd_67 hw) (wd_68 hw) (by decide) pd_0 rfl rfl rfl (by decide) 0 (Nat.le_of_ble_eq_true rfl) (by decide) (by decide) (by decide) ?_
    rintro v1004 h1004 ⟨rfl, rfl⟩
    show WG _ _ _ _ _ _ _ _ _ _ _ _ 0 0 47 #[.val (.ref s), .val (.ref t), .val (.ref t)] [(.int (sameW xs ys))]
    refine W.if_eq 54 50 d_jdk_42_method_66_47 rfl rfl ?_ ?_
    · intro hc1005
      refine W.iconst 55 d_jdk_42_method_66_54 rfl (0 : Int32) rfl ?_
      exact W.ireturnN (t := .boolean) d_jdk_42_method_66_55 rfl (by simp) (0 : Int32) rfl ⟨by rw [hc1005], rfl⟩ (by decide) (by decide)
    · intro hc1005
      refine W.iconst 51 d_jdk_42_method_66_50 rfl (1 : Int32) rfl ?_
      refine W.goto 55 d_jdk_42_method_66_51 rfl ?_
      exact W.ireturnN (t := .boolean) d_jdk_42_method_66_55 rfl (by simp) (1 : Int32) rfl ⟨by rw [own_s1 hc1005], rfl⟩ (by decide) (by decide)
  · intro hc1003
    refine W.iconst 6 d_jdk_42_method_66_5 rfl (1 : Int32) rfl ?_
    exact W.ireturnN (t := .boolean) d_jdk_42_method_66_6 rfl (by simp) (1 : Int32) rfl ⟨by rw [sameW, if_pos (own_same hc1003 A0 A1 V0 V1)], rfl⟩ (by decide) (by decide)
theorem c_eqn (l : Launch) (Z : State) (a0 : Array Value) (hw : HwT Z a0) (s : Addr) (h : Heap) (n0 : Nat) (hn : n0 ≤ h.size) : Con l Z (⟨"java/lang/String", "equals", "(Ljava/lang/Object;)Z"⟩ : MethodName) jdk_42_method_66_code 3 (some .boolean) ({ frames := 1, cells := 0, slots := 0, locals := 20 } : Room) #[(.ref s), .null] h n0 (fun v h' => v = some (.int 0) ∧ h' = h) := by
  refine ConG.of_W (Ls := #[.val (.ref s), .val .null, .unset]) (plainFor_of_name pn_1) hn (fun m => by first | (simp [entryFrame, mkF, argsToLocals, Value.category]; done) | rfl) ?_
  refine W.aloadN 1 d_jdk_42_method_66_0 rfl rfl rfl ?_
  refine W.aloadN 2 d_jdk_42_method_66_1 rfl rfl rfl ?_
  refine W.acmp_ne 7 5 d_jdk_42_method_66_2 rfl rfl rfl rfl (fun _ => ?_) (fun hc => absurd hc (by simp))
  refine W.aloadN 8 d_jdk_42_method_66_7 rfl rfl rfl ?_
  refine W.instNull 11 d_jdk_42_method_66_8 rfl ?_
  refine W.if_eq 54 14 d_jdk_42_method_66_11 rfl rfl (fun _ => ?_) (fun hc => absurd (by decide) hc)
  refine W.iconst 55 d_jdk_42_method_66_54 rfl (0 : Int32) rfl ?_
  exact W.ireturnN (t := .boolean) d_jdk_42_method_66_55 rfl (by simp) (0 : Int32) rfl ⟨rfl, rfl⟩ (by decide) (by decide)
abbrev byteOf (c : Int32) : Int32 := c.toInt8.toInt32
def bpart (cs : List Int32) (k : Nat) : List Int32 := (cs.take k).map byteOf ++ List.replicate (cs.length - k) 0
theorem bpart_zero (cs : List Int32) : bpart cs 0 = List.replicate cs.length 0 := by simp [bpart]
theorem bpart_all {cs : List Int32} {k : Nat} (h : cs.length ≤ k) : bpart cs k = cs.map byteOf := by simp [bpart, List.take_of_length_le h, Nat.sub_eq_zero_of_le h]
theorem bpart_len (cs : List Int32) {k : Nat} (h : k ≤ cs.length) : (bpart cs k).length = cs.length := by simp [bpart]; omega
theorem bpart_set {cs : List Int32} {k : Nat} (h : k < cs.length) : (iv (bpart cs k)).set k (.int (byteOf (cs.getD k 0))) = iv (bpart cs (k + 1)) := by
  rw [iv, ← List.map_set]
  congr 1
  have e1 : cs.length - k = (cs.length - (k + 1)) + 1 := by omega
  have e2 : ((cs.take k).map byteOf).length = k := by simp; omega
  rw [bpart, bpart, e1, List.replicate_succ, List.set_append_right _ _ (by omega), e2, Nat.sub_self, List.set_cons_zero, List.take_succ, List.map_append, List.append_assoc]
  simp [List.getElem?_eq_getElem h, List.getD_eq_getElem?_getD]
theorem iv_rep (n : Nat) : iv (List.replicate n 0) = List.replicate n (.int 0) := by simp [iv]
theorem ch_at {cs : List Int32} (hch : ∀ c ∈ cs, ChOk c) (k : Nat) : ChOk (cs.getD k 0) := by
  rw [List.getD_eq_getElem?_getD]
  cases q : cs[k]? with
  | none => exact ⟨by decide, by decide⟩
  | some c => exact hch c (List.mem_of_getElem? q)
theorem l_ci (l : Launch) (Z : State) (a0 : Array Value) (hw : HwT Z a0) (src dst : Addr) (cs : List Int32) (h0 : Heap) (n0 : Nat) (ne : src ≠ dst) (gd : n0 ≤ dst) (hch : ∀ c ∈ cs, ChOk c) (h31 : cs.length < 2 ^ 31) : ∀ (m k : Nat) (s6 : Slot) (h : Heap), One s6 → k + m = cs.length → Keep h0 h [dst] → Ary Z h src .char (iv cs) → Ary Z h dst .byte (iv (bpart cs k)) → W l ({ frames := 0, cells := 0, slots := 0, locals := 0 } : Room) Z "java/lang/StringUTF16" "compress" jdk_52_method_21_code 7 (some .int) n0 (fun v h' => v = some (.int cs.length.toInt32) ∧ Keep h0 h' [dst] ∧ Ary Z h' dst .byte (iv (cs.map byteOf))) h 0 0 3 #[.val (.ref src), .val (.int k.toInt32), .val (.ref dst), .val (.int k.toInt32), .val (.int cs.length.toInt32), .val (.int k.toInt32), s6] [] := by
  intro m
  induction m with
  | zero =>
    intro k s6 h hs6 hkm K0 As Ad
    have hge : ¬ k.toInt32 < cs.length.toInt32 := by rw [show k = cs.length by omega]; exact Int32.lt_irrefl
    refine W.iload 5 d_jdk_52_method_21_3 rfl rfl ?_
    refine W.iload 7 d_jdk_52_method_21_5 rfl rfl ?_
    refine W.icmp_ge 44 10 d_jdk_52_method_21_7 rfl rfl (fun _ => ?_) (fun hc => absurd hc hge)
    refine W.iload 46 d_jdk_52_method_21_44 rfl rfl ?_
    exact W.ireturn d_jdk_52_method_21_46 rfl ⟨rfl, K0, by rw [← bpart_all (k := k) (by omega)]; exact Ad⟩ (by decide) (by decide)
  | succ m ih =>
    intro k s6 h hs6 hkm K0 As Ad
    have hkl : k < cs.length := by omega
    have hk31 : k < 2 ^ 31 := by omega
    refine W.iload 5 d_jdk_52_method_21_3 rfl rfl ?_
    refine W.iload 7 d_jdk_52_method_21_5 rfl rfl ?_
    refine W.icmp_ge 44 10 d_jdk_52_method_21_7 rfl rfl (fun hc => absurd (ki_lt hkl h31) hc) (fun _ => ?_)
    refine W.aloadN 11 d_jdk_52_method_21_10 rfl rfl rfl ?_
    refine W.iloadN 12 d_jdk_52_method_21_11 rfl rfl ?_
    refine W.caload 13 d_jdk_52_method_21_12 rfl As k (ki_idx hk31) (ki_nn hk31) (.int (cs.getD k 0)) (iv_at hkl) ?_
    refine W.istore 15 d_jdk_52_method_21_13 rfl #[.val (.ref src), .val (.int k.toInt32), .val (.ref dst), .val (.int k.toInt32), .val (.int cs.length.toInt32), .val (.int k.toInt32), .val (.int (cs.getD k 0))] (XS.store1 (o := s6) rfl hs6 rfl) ?_
    refine W.iload 17 d_jdk_52_method_21_15 rfl rfl ?_
    refine W.sipush 20 d_jdk_52_method_21_17 rfl (255 : Int32) rfl ?_
    refine W.icmp_le 26 23 d_jdk_52_method_21_20 rfl rfl (fun _ => ?_) (fun hc => absurd hc (ch_le (ch_at hch k)))
    refine W.aloadN 27 d_jdk_52_method_21_26 rfl rfl rfl ?_
    refine W.iloadN 28 d_jdk_52_method_21_27 rfl rfl ?_
    refine W.iload 30 d_jdk_52_method_21_28 rfl rfl ?_
    refine W.i2b 31 d_jdk_52_method_21_30 rfl ((cs.getD k 0).toInt8.toInt32) rfl ?_
    refine W.bastore 32 d_jdk_52_method_21_31 rfl Ad k (ki_idx hk31) (ki_nn hk31) (by rw [iv_len, bpart_len cs (Nat.le_of_lt hkl)]; exact hkl) ((cs.getD k 0).toInt8.toInt32) (nar_b (cs.getD k 0)) gd ?_
    intro h1006 W1006 K1006 A1006
    have kc1007 := Keep.trans (ws := [dst]) K0 K1006 (allS (Or.inl (List.mem_of_getElem? (i := 0) rfl)) all0)
    refine W.iinc 35 d_jdk_52_method_21_32 rfl rfl (k + 1).toInt32 (ki_succ k) #[.val (.ref src), .val (.int (k + 1).toInt32), .val (.ref dst), .val (.int k.toInt32), .val (.int cs.length.toInt32), .val (.int k.toInt32), .val (.int (cs.getD k 0))] rfl ?_
    refine W.iinc 38 d_jdk_52_method_21_35 rfl rfl (k + 1).toInt32 (ki_succ k) #[.val (.ref src), .val (.int (k + 1).toInt32), .val (.ref dst), .val (.int (k + 1).toInt32), .val (.int cs.length.toInt32), .val (.int k.toInt32), .val (.int (cs.getD k 0))] rfl ?_
    refine W.iinc 41 d_jdk_52_method_21_38 rfl rfl (k + 1).toInt32 (ki_succ k) #[.val (.ref src), .val (.int (k + 1).toInt32), .val (.ref dst), .val (.int (k + 1).toInt32), .val (.int cs.length.toInt32), .val (.int (k + 1).toInt32), .val (.int (cs.getD k 0))] rfl ?_
    refine W.goto 3 d_jdk_52_method_21_41 rfl ?_
    have q1008 := (As.keep K1006 (ninS ne nin0))
    exact ih (k + 1) _ _ (One.val rfl) (by omega) kc1007 q1008 (bpart_set hkl ▸ A1006)
theorem c_cig (l : Launch) (Z : State) (a0 : Array Value) (hw : HwT Z a0) (src dst : Addr) (cs : List Int32) (h : Heap) (n0 : Nat) (hn : n0 ≤ h.size) (ne : src ≠ dst) (gd : n0 ≤ dst) (hch : ∀ c ∈ cs, ChOk c) (As : Ary Z h src .char (iv cs)) (Ad : Ary Z h dst .byte (iv (List.replicate cs.length 0))) : Con l Z (⟨"java/lang/StringUTF16", "compress", "([CI[BII)I"⟩ : MethodName) jdk_52_method_21_code 7 (some .int) ({ frames := 0, cells := 0, slots := 0, locals := 0 } : Room) #[(.ref src), (.int (0 : Int32)), (.ref dst), (.int (0 : Int32)), (.int cs.length.toInt32)] h n0 (fun v h' => v = some (.int cs.length.toInt32) ∧ Keep h h' [dst] ∧ Ary Z h' dst .byte (iv (cs.map byteOf))) := by
  refine ConG.of_W (Ls := #[.val (.ref src), .val (.int (0 : Int32)), .val (.ref dst), .val (.int (0 : Int32)), .val (.int cs.length.toInt32), .unset, .unset]) (plainFor_of_name pn_2) hn (fun m => by first | (simp [entryFrame, mkF, argsToLocals, Value.category]; done) | rfl) ?_
  refine W.iconst 1 d_jdk_52_method_21_0 rfl (0 : Int32) rfl ?_
  refine W.istore 3 d_jdk_52_method_21_1 rfl #[.val (.ref src), .val (.int (0 : Int32)), .val (.ref dst), .val (.int (0 : Int32)), .val (.int cs.length.toInt32), .val (.int (0 : Int32)), .unset] rfl ?_
  exact (l_ci l Z a0 hw src dst cs h n0 ne gd hch (iv_31 As) cs.length 0 _ _ One.u (by omega) (Keep.refl _ _) As (by rw [bpart_zero]; exact Ad))
theorem c_cbg (l : Launch) (Z : State) (a0 : Array Value) (hw : HwT Z a0) (src : Addr) (cs : List Int32) (h : Heap) (n0 : Nat) (hn : n0 ≤ h.size) (hch : ∀ c ∈ cs, ChOk c) (hcap : cs.length ≤ 16) (As : Ary Z h src .char (iv cs)) : Con l Z (⟨"java/lang/StringUTF16", "compress", "([CII)[B"⟩ : MethodName) jdk_52_method_16_code 6 (some (.array .byte)) ({ frames := 1, cells := 1, slots := 16, locals := 24 } : Room) #[(.ref src), (.int (0 : Int32)), (.int cs.length.toInt32)] h n0 (fun v h' => ∃ d, v = some (.ref d) ∧ h.size ≤ d ∧ n0 ≤ d ∧ Keep h h' [] ∧ Ary Z h' d .byte (iv (cs.map byteOf))) := by
  refine ConG.of_W (Ls := #[.val (.ref src), .val (.int (0 : Int32)), .val (.int cs.length.toInt32), .unset, .unset, .unset]) (plainFor_of_name pn_2) hn (fun m => by first | (simp [entryFrame, mkF, argsToLocals, Value.category]; done) | rfl) ?_
  refine W.iloadN 1 d_jdk_52_method_16_0 rfl rfl ?_
  refine W.newarray 3 d_jdk_52_method_16_1 rfl (wd_24 hw) rfl (ki_nn (iv_31 As)) cs.length 16 (ki_idx (iv_31 As)) hcap (by decide) (by decide) (by decide) rfl ?_
  intro h1009 b1009 g1009 ge1009 X1009 K1009 A1009
  have ne1010 : src ≠ b1009 := Nat.ne_of_lt (Nat.lt_of_lt_of_eq As.lt g1009.symm)
  have sz1011 := Nat.le_trans (Keep.refl _ []).1 (Nat.le_of_eq g1009.symm)
  have kc1012 := Keep.trans (ws := []) (Keep.refl _ []) K1009 all0
  show WG _ _ _ _ _ _ _ _ _ _ _ _ 1 16 3 #[.val (.ref src), .val (.int (0 : Int32)), .val (.int cs.length.toInt32), .unset, .unset, .unset] [(.ref b1009)]
  refine W.astoreN 4 d_jdk_52_method_16_3 rfl rfl #[.val (.ref src), .val (.int (0 : Int32)), .val (.int cs.length.toInt32), .val (.ref b1009), .unset, .unset] rfl ?_
  refine W.aloadN 5 d_jdk_52_method_16_4 rfl rfl rfl ?_
  refine W.iloadN 6 d_jdk_52_method_16_5 rfl rfl ?_
  refine W.aloadN 7 d_jdk_52_method_16_6 rfl rfl rfl ?_
  refine W.iconst 8 d_jdk_52_method_16_7 rfl (0 : Int32) rfl ?_
  refine W.iloadN 9 d_jdk_52_method_16_8 rfl rfl ?_
  have q1013 := (As.keep K1009 nin0)
  refine W.callS (rest := []) (argsL := [(.ref src), (.int (0 : Int32)), (.ref b1009), (.int (0 : Int32)), (.int cs.length.toInt32)]) 12 d_jdk_52_method_16_9 rfl (fun hn => c_cig l Z a0 hw src b1009 cs _ n0 hn ne1010 ge1009 hch q1013 (by rw [iv_rep]; exact A1009)) (wd_25 hw) (wd_26 hw) (wd_22 hw) (wd_27 hw) (by decide) pd_1 rfl rfl rfl (by decide) 0 (Nat.le_of_ble_eq_true rfl) (by decide) (by decide) (by decide) ?_
  rintro v1014 h1014 ⟨rfl, K1014, A1014⟩
  have kc1015 := Keep.trans (ws := []) kc1012 K1014 (allS (Or.inr sz1011) all0)
  show WG _ _ _ _ _ _ _ _ _ _ _ _ 1 16 12 #[.val (.ref src), .val (.int (0 : Int32)), .val (.int cs.length.toInt32), .val (.ref b1009), .unset, .unset] [(.int cs.length.toInt32)]
  refine W.istore 14 d_jdk_52_method_16_12 rfl #[.val (.ref src), .val (.int (0 : Int32)), .val (.int cs.length.toInt32), .val (.ref b1009), .val (.int cs.length.toInt32), .unset] rfl ?_
  refine W.iload 16 d_jdk_52_method_16_14 rfl rfl ?_
  refine W.iloadN 17 d_jdk_52_method_16_16 rfl rfl ?_
  refine W.icmp_eq 57 20 d_jdk_52_method_16_17 rfl rfl (fun _ => ?_) (fun hc => absurd rfl hc)
  refine W.aloadN 58 d_jdk_52_method_16_57 rfl rfl rfl ?_
  exact W.areturn d_jdk_52_method_16_58 rfl rfl rfl rfl ⟨_, rfl, sz1011, ge1009, kc1015, A1014⟩ (by decide) (by decide)
theorem c_clg (l : Launch) (Z : State) (a0 : Array Value) (hw : HwT Z a0) (b : Addr) (xs : List Int32) (h : Heap) (n0 : Nat) (hn : n0 ≤ h.size) (A : Ary Z h b .byte (iv xs)) : Con l Z (⟨"java/lang/StringUTF16", "coderFromArrayLen", "([BI)B"⟩ : MethodName) jdk_52_method_15_code 2 (some .byte) ({ frames := 0, cells := 0, slots := 0, locals := 0 } : Room) #[(.ref b), (.int xs.length.toInt32)] h n0 (fun v h' => v = some (.int 0) ∧ h' = h) := by
  refine ConG.of_W (Ls := #[.val (.ref b), .val (.int xs.length.toInt32)]) (plainFor_of_name pn_2) hn (fun m => by first | (simp [entryFrame, mkF, argsToLocals, Value.category]; done) | rfl) ?_
  refine W.iloadN 1 d_jdk_52_method_15_0 rfl rfl ?_
  refine W.aloadN 2 d_jdk_52_method_15_1 rfl rfl rfl ?_
  refine W.arraylength 3 d_jdk_52_method_15_2 rfl A xs.length.toInt32 (by rw [iv_len]) ?_
  refine W.isub 4 d_jdk_52_method_15_3 rfl (0 : Int32) (Int32.sub_self _) ?_
  refine W.bipush 6 d_jdk_52_method_15_4 rfl (31 : Int32) rfl ?_
  refine W.iushr 7 d_jdk_52_method_15_6 rfl (0 : Int32) (by decide) ?_
  refine W.i2b 8 d_jdk_52_method_15_7 rfl (0 : Int32) (by decide) ?_
  exact W.ireturnN (t := .byte) d_jdk_52_method_15_8 rfl (by simp) (0 : Int32) rfl ⟨rfl, rfl⟩ (by decide) (by decide)
theorem c_i4g (l : Launch) (Z : State) (a0 : Array Value) (hw : HwT Z a0) (a src : Addr) (kc : Int32) (hkc : ¬ kc = 0) (cs : List Int32) (h : Heap) (n0 : Nat) (hn : n0 ≤ h.size) (ne : a ≠ src) (ga : n0 ≤ a) (hch : ∀ c ∈ cs, ChOk c) (hcap : cs.length ≤ 16) (hne : ¬ cs.length.toInt32 = 0) (FS : Sta Z h "java/lang/String" "COMPACT_STRINGS" "Z" (.int kc)) (E : Exa Z h a "java/lang/String") (C : Fld Z h a "java/lang/String" "coder" "B" (.int 0)) (V : Fld Z h a "java/lang/String" "value" "[B" .null) (As : Ary Z h src .char (iv cs)) : Con l Z (⟨"java/lang/String", "<init>", "([CIILjava/lang/Void;)V"⟩ : MethodName) jdk_42_method_149_code 6 none ({ frames := 2, cells := 1, slots := 16, locals := 48 } : Room) #[(.ref a), (.ref src), (.int (0 : Int32)), (.int cs.length.toInt32), .null] h n0 (fun v h' => v = none ∧ Keep h h' [a] ∧ ∃ b, Fld Z h' a "java/lang/String" "coder" "B" (.int 0) ∧ Fld Z h' a "java/lang/String" "value" "[B" (.ref b) ∧ Ary Z h' b .byte (iv (cs.map byteOf))) := by
  refine ConG.of_W (Ls := #[.val (.ref a), .val (.ref src), .val (.int (0 : Int32)), .val (.int cs.length.toInt32), .val .null, .unset]) (plainFor_of_name pn_1) hn (fun m => by first | (simp [entryFrame, mkF, argsToLocals, Value.category]; done) | rfl) ?_
  refine W.aloadN 1 d_jdk_42_method_149_0 rfl rfl rfl ?_
  refine W.initObj 4 d_jdk_42_method_149_1 rfl (wd_16 hw) (wd_17 hw) (wd_18 hw) rfl (by decide) 0 (Nat.le_of_ble_eq_true rfl) (by decide) ?_
  refine W.iloadN 5 d_jdk_42_method_149_4 rfl rfl ?_
  refine W.if_ne 27 8 d_jdk_42_method_149_5 rfl rfl (fun _ => ?_) (fun hc => absurd hc hne)
  refine W.getstatic 30 d_jdk_42_method_149_27 rfl (host := "") (Or.inl (wd_19 hw)) Via.refl FS ?_
  refine W.if_eq 58 33 d_jdk_42_method_149_30 rfl rfl (fun hc => absurd hc hkc) (fun _ => ?_)
  refine W.aloadN 34 d_jdk_42_method_149_33 rfl rfl rfl ?_
  refine W.iloadN 35 d_jdk_42_method_149_34 rfl rfl ?_
  refine W.iloadN 36 d_jdk_42_method_149_35 rfl rfl ?_
  refine W.callS (rest := []) (argsL := [(.ref src), (.int (0 : Int32)), (.int cs.length.toInt32)]) 39 d_jdk_42_method_149_36 rfl (fun hn => c_cbg l Z a0 hw src cs _ n0 hn hch hcap As) (wd_20 hw) (wd_21 hw) (wd_22 hw) (wd_23 hw) (by decide) pd_2 rfl rfl rfl (by decide) 0 (Nat.le_of_ble_eq_true rfl) (by decide) (by decide) (by decide) ?_
  rintro v1016 h1016 ⟨d1016, rfl, sz1016, gd1016, K1016, A1016⟩
  have ne1017 : a ≠ d1016 := Nat.ne_of_lt (Nat.lt_of_lt_of_le E.lt sz1016)
  have ne1018 : src ≠ d1016 := Nat.ne_of_lt (Nat.lt_of_lt_of_le As.lt sz1016)
  have sz1019 := Nat.le_trans (Keep.refl _ [a]).1 sz1016
  have kc1020 := Keep.trans (ws := [a]) (Keep.refl _ [a]) K1016 all0
  show WG _ _ _ _ _ _ _ _ _ _ _ _ 1 16 39 #[.val (.ref a), .val (.ref src), .val (.int (0 : Int32)), .val (.int cs.length.toInt32), .val .null, .unset] [(.ref d1016)]
  refine W.astore 41 d_jdk_42_method_149_39 rfl rfl #[.val (.ref a), .val (.ref src), .val (.int (0 : Int32)), .val (.int cs.length.toInt32), .val .null, .val (.ref d1016)] rfl ?_
  refine W.aloadN 42 d_jdk_42_method_149_41 rfl rfl rfl ?_
  refine W.aload 44 d_jdk_42_method_149_42 rfl rfl rfl ?_
  refine W.iloadN 45 d_jdk_42_method_149_44 rfl rfl ?_
  refine W.callS (rest := [(.ref a)]) (argsL := [(.ref d1016), (.int cs.length.toInt32)]) 48 d_jdk_42_method_149_45 rfl (fun hn => (show cs.length.toInt32 = (cs.map byteOf).length.toInt32 by rw [List.length_map]) ▸ c_clg l Z a0 hw d1016 (cs.map byteOf) _ n0 hn A1016) (wd_28 hw) (wd_29 hw) (wd_22 hw) (wd_30 hw) (by decide) pd_3 rfl rfl rfl (by decide) 1 (Nat.le_of_ble_eq_true rfl) (by decide) (by decide) (by decide) ?_
  rintro v1021 h1021 ⟨rfl, rfl⟩
  show WG _ _ _ _ _ _ _ _ _ _ _ _ 1 16 48 #[.val (.ref a), .val (.ref src), .val (.int (0 : Int32)), .val (.int cs.length.toInt32), .val .null, .val (.ref d1016)] [(.int (0 : Int32)), (.ref a)]
  have q1022 := (C.keep K1016 nin0)
  have q1023 := (E.keep K1016)
  refine W.putfieldN 51 d_jdk_42_method_149_48 rfl (wd_31 hw) Via.refl q1022 q1023 (Or.inr ⟨(wd_32 hw), rfl, rfl⟩) (wd_2 hw) (ty := .byte) (by decide) (.int (0 : Int32)) rfl rfl ga ?_
  intro h1024 W1024 F1024 E1024 K1024
  have kc1025 := Keep.trans (ws := [a]) kc1020 K1024 (allS (Or.inl (List.mem_of_getElem? (i := 0) rfl)) all0)
  refine W.aloadN 52 d_jdk_42_method_149_51 rfl rfl rfl ?_
  refine W.aload 54 d_jdk_42_method_149_52 rfl rfl rfl ?_
  have q1026 := ((V.keep K1016 nin0).other W1024 (Or.inr (sne_0 hw)))
  refine W.putfield 57 d_jdk_42_method_149_54 rfl (host := "") (Or.inl (wd_33 hw)) Via.refl q1026 E1024 (Or.inr ⟨(wd_34 hw), rfl, rfl⟩) (wd_2 hw) (ty := (.array .byte)) (by decide) rfl rfl ga ?_
  intro h1027 W1027 F1027 E1027 K1027
  have kc1028 := Keep.trans (ws := [a]) kc1025 K1027 (allS (Or.inl (List.mem_of_getElem? (i := 0) rfl)) all0)
  have q1029 := (F1024.other W1027 (Or.inr (sne_1 hw)))
  have q1030 := ((A1016.keep K1024 (ninS (Ne.symm ne1017) nin0)).keep K1027 (ninS (Ne.symm ne1017) nin0))
  exact W.return_ d_jdk_42_method_149_57 rfl ⟨rfl, kc1028, d1016, q1029, F1027, q1030⟩ (by decide) (by decide)
theorem c_i1g (l : Launch) (Z : State) (a0 : Array Value) (hw : HwT Z a0) (a src : Addr) (kc : Int32) (hkc : ¬ kc = 0) (cs : List Int32) (h : Heap) (n0 : Nat) (hn : n0 ≤ h.size) (ne : a ≠ src) (ga : n0 ≤ a) (hch : ∀ c ∈ cs, ChOk c) (hcap : cs.length ≤ 16) (hne : ¬ cs.length.toInt32 = 0) (FS : Sta Z h "java/lang/String" "COMPACT_STRINGS" "Z" (.int kc)) (E : Exa Z h a "java/lang/String") (C : Fld Z h a "java/lang/String" "coder" "B" (.int 0)) (V : Fld Z h a "java/lang/String" "value" "[B" .null) (As : Ary Z h src .char (iv cs)) : Con l Z (⟨"java/lang/String", "<init>", "([C)V"⟩ : MethodName) jdk_42_method_3_code 2 none ({ frames := 3, cells := 1, slots := 16, locals := 72 } : Room) #[(.ref a), (.ref src)] h n0 (fun v h' => v = none ∧ Keep h h' [a] ∧ ∃ b, Fld Z h' a "java/lang/String" "coder" "B" (.int 0) ∧ Fld Z h' a "java/lang/String" "value" "[B" (.ref b) ∧ Ary Z h' b .byte (iv (cs.map byteOf))) := by
  refine ConG.of_W (Ls := #[.val (.ref a), .val (.ref src)]) (plainFor_of_name pn_1) hn (fun m => by first | (simp [entryFrame, mkF, argsToLocals, Value.category]; done) | rfl) ?_
  refine W.aloadN 1 d_jdk_42_method_3_0 rfl rfl rfl ?_
  refine W.aloadN 2 d_jdk_42_method_3_1 rfl rfl rfl ?_
  refine W.iconst 3 d_jdk_42_method_3_2 rfl (0 : Int32) rfl ?_
  refine W.aloadN 4 d_jdk_42_method_3_3 rfl rfl rfl ?_
  refine W.arraylength 5 d_jdk_42_method_3_4 rfl As cs.length.toInt32 (by rw [iv_len]) ?_
  refine W.aconst_null 6 d_jdk_42_method_3_5 rfl ?_
  refine W.callInit (rest := []) (argsL := [(.ref src), (.int (0 : Int32)), (.int cs.length.toInt32), .null]) (a := a) 9 d_jdk_42_method_3_6 rfl (fun hn => c_i4g l Z a0 hw a src kc hkc cs _ n0 hn ne ga hch hcap hne FS E C V As) rfl (wd_12 hw) (wd_13 hw) (wd_3 hw) (wd_15 hw) (by decide) pd_4 rfl rfl rfl (by decide) 0 (Nat.le_of_ble_eq_true rfl) (by decide) (by decide) (by decide) ?_
  rintro v1031 h1031 ⟨rfl, K1031, b1031, C1031, V1031, A1031⟩
  have kc1032 := Keep.trans (ws := [a]) (Keep.refl _ [a]) K1031 (allS (Or.inl (List.mem_of_getElem? (i := 0) rfl)) all0)
  show WG _ _ _ _ _ _ _ _ _ _ _ _ 1 16 9 #[.val (.ref a), .val (.ref src)] []
  exact W.return_ d_jdk_42_method_3_9 rfl ⟨rfl, kc1032, b1031, C1031, V1031, A1031⟩ (by decide) (by decide)
theorem chN : ∀ c ∈ ([] : List Int32), ChOk c := fun _ q => nomatch q
theorem chC {c : Int32} {cs : List Int32} (H : ChOk c) (r : ∀ x ∈ cs, ChOk x) : ∀ x ∈ c :: cs, ChOk x := fun x q => (List.mem_cons.mp q).elim (fun e => e ▸ H) (r x)
theorem ch_k {c : Int32} (h : 0 ≤ c.toInt) (h2 : c.toInt ≤ 255) : ChOk c := ⟨h, h2⟩
theorem c_i40 (l : Launch) (Z : State) (a0 : Array Value) (hw : HwT Z a0) (a src : Addr) (kc : Int32) (hkc : ¬ kc = 0) (h : Heap) (n0 : Nat) (hn : n0 ≤ h.size) (ne : a ≠ src) (ga : n0 ≤ a) (FS : Sta Z h "java/lang/String" "COMPACT_STRINGS" "Z" (.int kc)) (E : Exa Z h a "java/lang/String") (C : Fld Z h a "java/lang/String" "coder" "B" (.int 0)) (V : Fld Z h a "java/lang/String" "value" "[B" .null) (As : Ary Z h src .char [])  : ConX Z consts_1 [a] [] l (⟨"java/lang/String", "<init>", "([CIILjava/lang/Void;)V"⟩ : MethodName) jdk_42_method_149_code 6 none ({ frames := 2, cells := 4, slots := 8, locals := 48 } : Room) #[(.ref a), (.ref src), (.int (0 : Int32)), (.int (0 : Int32)), .null] h n0 (fun v h' => v = none ∧ Keep h h' [a] ∧ ∃ b, Fld Z h' a "java/lang/String" "coder" "B" (.int 0) ∧ Fld Z h' a "java/lang/String" "value" "[B" (.ref b) ∧ Ary Z h' b .byte []) := by
  refine ConX.of_W (Ls := #[.val (.ref a), .val (.ref src), .val (.int (0 : Int32)), .val (.int (0 : Int32)), .val .null, .unset]) (plainFor_of_name pn_1) hn (fun m => by first | (simp [entryFrame, mkF, argsToLocals, Value.category]; done) | rfl) ?_
  have hv0 := HV.here (Z := Z) (EL := consts_1) (h := h) (S := [a])
  refine W.aloadN 1 d_jdk_42_method_149_0 rfl rfl rfl ?_
  refine W.initObj 4 d_jdk_42_method_149_1 rfl (wd_16 hw) (wd_17 hw) (wd_18 hw) rfl (by decide) 0 (Nat.le_of_ble_eq_true rfl) (by decide) ?_
  refine W.iloadN 5 d_jdk_42_method_149_4 rfl rfl ?_
  refine W.if_ne 27 8 d_jdk_42_method_149_5 rfl rfl (fun hc => absurd (by decide) hc) (fun _ => ?_)
  refine W.aloadN 9 d_jdk_42_method_149_8 rfl rfl rfl ?_
  refine W.ldcX 11 d_jdk_42_method_149_9 rfl (wd_78 hw) (own_wS hw) (own_EL hw) (List.mem_of_getElem? (i := 3) rfl) hv0 (allS E.lt all0) [] ⟨by decide, rfl⟩ (by decide) 0 (by decide) (by decide) (by decide) (by decide) ?_
  intro h1033 la1033 lb1033 X1033 K1033 E1033 C1033 V1033 A1033 N1033
  have kc1034 := Keep.trans (ws := [a]) (Keep.refl _ [a]) K1033 all0
  have hv1033 := HV.here (Z := Z) (EL := consts_1) (h := h1033) (S := [a])
  show WG _ _ _ _ _ _ _ _ _ _ _ _ 2 4 11 #[.val (.ref a), .val (.ref src), .val (.int (0 : Int32)), .val (.int (0 : Int32)), .val .null, .unset] [(.ref la1033), (.ref a)]
  refine W.getfield 14 d_jdk_42_method_149_11 rfl (host := "") (Or.inl (wd_33 hw)) Via.refl V1033 ?_
  have q1035 := (V.keep K1033 nin0)
  have q1036 := (E.keep K1033)
  refine W.putfield 17 d_jdk_42_method_149_14 rfl (host := "") (Or.inl (wd_33 hw)) Via.refl q1035 q1036 (Or.inr ⟨(wd_34 hw), rfl, rfl⟩) (wd_2 hw) (ty := (.array .byte)) (by decide) rfl rfl ga ?_
  intro h1037 W1037 F1037 E1037 K1037
  have hv1038 := HV.keep hv1033 K1037 (allS (List.mem_of_getElem? (i := 0) rfl) all0)
  have kc1039 := Keep.trans (ws := [a]) kc1034 K1037 (allS (Or.inl (List.mem_of_getElem? (i := 0) rfl)) all0)
  refine W.aloadN 18 d_jdk_42_method_149_17 rfl rfl rfl ?_
  refine W.ldcX 20 d_jdk_42_method_149_18 rfl (wd_78 hw) (own_wS hw) (own_EL hw) (List.mem_of_getElem? (i := 3) rfl) hv1038 (allS E1037.lt all0) [] ⟨by decide, rfl⟩ (by decide) 0 (by decide) (by decide) (by decide) (by decide) ?_
  intro h1040 la1040 lb1040 X1040 K1040 E1040 C1040 V1040 A1040 N1040
  have kc1041 := Keep.trans (ws := [a]) kc1039 K1040 all0
  have hv1040 := HV.here (Z := Z) (EL := consts_1) (h := h1040) (S := [a])
  show WG _ _ _ _ _ _ _ _ _ _ _ _ 4 8 20 #[.val (.ref a), .val (.ref src), .val (.int (0 : Int32)), .val (.int (0 : Int32)), .val .null, .unset] [(.ref la1040), (.ref a)]
  refine W.getfield 23 d_jdk_42_method_149_20 rfl (host := "") (Or.inl (wd_31 hw)) Via.refl C1040 ?_
  have q1042 := (((C.keep K1033 nin0).other W1037 (Or.inr (sne_1 hw))).keep K1040 nin0)
  have q1043 := (E1037.keep K1040)
  refine W.putfieldN 26 d_jdk_42_method_149_23 rfl (wd_31 hw) Via.refl q1042 q1043 (Or.inr ⟨(wd_32 hw), rfl, rfl⟩) (wd_2 hw) (ty := .byte) (by decide) (.int (0 : Int32)) rfl rfl ga ?_
  intro h1044 W1044 F1044 E1044 K1044
  have hv1045 := HV.keep hv1040 K1044 (allS (List.mem_of_getElem? (i := 0) rfl) all0)
  have kc1046 := Keep.trans (ws := [a]) kc1041 K1044 (allS (Or.inl (List.mem_of_getElem? (i := 0) rfl)) all0)
  refine WG.retX (own_EL hw) hv1045 ?_
  have q1047 := ((F1037.keep K1040 nin0).other W1044 (Or.inr (sne_0 hw)))
  have q1048 := (((A1033.keep K1037 (ninS (Ne.symm (N1033 a (List.mem_of_getElem? (i := 0) rfl)).2) nin0)).keep K1040 nin0).keep K1044 (ninS (Ne.symm (N1033 a (List.mem_of_getElem? (i := 0) rfl)).2) nin0))
  exact W.return_ d_jdk_42_method_149_26 rfl ⟨⟨rfl, kc1046, lb1033, F1044, q1047, q1048⟩, rfl⟩ (by decide) (by decide)
theorem c_i10 (l : Launch) (Z : State) (a0 : Array Value) (hw : HwT Z a0) (a src : Addr) (kc : Int32) (hkc : ¬ kc = 0) (h : Heap) (n0 : Nat) (hn : n0 ≤ h.size) (ne : a ≠ src) (ga : n0 ≤ a) (FS : Sta Z h "java/lang/String" "COMPACT_STRINGS" "Z" (.int kc)) (E : Exa Z h a "java/lang/String") (C : Fld Z h a "java/lang/String" "coder" "B" (.int 0)) (V : Fld Z h a "java/lang/String" "value" "[B" .null) (As : Ary Z h src .char [])  : ConX Z consts_1 [a] [] l (⟨"java/lang/String", "<init>", "([C)V"⟩ : MethodName) jdk_42_method_3_code 2 none ({ frames := 3, cells := 4, slots := 8, locals := 72 } : Room) #[(.ref a), (.ref src)] h n0 (fun v h' => v = none ∧ Keep h h' [a] ∧ ∃ b, Fld Z h' a "java/lang/String" "coder" "B" (.int 0) ∧ Fld Z h' a "java/lang/String" "value" "[B" (.ref b) ∧ Ary Z h' b .byte []) := by
  refine ConX.of_W (Ls := #[.val (.ref a), .val (.ref src)]) (plainFor_of_name pn_1) hn (fun m => by first | (simp [entryFrame, mkF, argsToLocals, Value.category]; done) | rfl) ?_
  have hv0 := HV.here (Z := Z) (EL := consts_1) (h := h) (S := [a])
  refine W.aloadN 1 d_jdk_42_method_3_0 rfl rfl rfl ?_
  refine W.aloadN 2 d_jdk_42_method_3_1 rfl rfl rfl ?_
  refine W.iconst 3 d_jdk_42_method_3_2 rfl (0 : Int32) rfl ?_
  refine W.aloadN 4 d_jdk_42_method_3_3 rfl rfl rfl ?_
  refine W.arraylength 5 d_jdk_42_method_3_4 rfl As (0 : Int32) rfl ?_
  refine W.aconst_null 6 d_jdk_42_method_3_5 rfl ?_
  refine W.callInitX (rest := []) (argsL := [(.ref src), (.int (0 : Int32)), (.int (0 : Int32)), .null]) (a := a) 9 d_jdk_42_method_3_6 rfl (fun hn => c_i40 l Z a0 hw a src kc hkc  _ n0 hn ne ga FS E C V As ) rfl (wd_12 hw) (wd_13 hw) (wd_3 hw) (wd_15 hw) (by decide) pd_4 rfl rfl rfl (by decide) 0 (Nat.le_of_ble_eq_true rfl) (by decide) (by decide) (by decide) (own_EL hw) hv0 (allS E.lt all0) (allS (List.mem_of_getElem? (i := 0) rfl) all0) ?_
  rintro v1049 h1049 ⟨rfl, K1049, b1049, C1049, V1049, A1049⟩
  have kc1050 := Keep.trans (ws := [a]) (Keep.refl _ [a]) K1049 (allS (Or.inl (List.mem_of_getElem? (i := 0) rfl)) all0)
  have hv1049 := HV.here (Z := Z) (EL := consts_1) (h := h1049) (S := [a])
  show WG _ _ _ _ _ _ _ _ _ _ _ _ 4 8 9 #[.val (.ref a), .val (.ref src)] []
  refine WG.retX (own_EL hw) hv1049 ?_
  exact W.return_ d_jdk_42_method_3_9 rfl ⟨⟨rfl, kc1050, b1049, C1049, V1049, A1049⟩, rfl⟩ (by decide) (by decide)
theorem own_m (x : Int32) : ChOk (x &&& 255) := by
  have h := c_mask x 255 8 (by decide) (by decide)
  unfold ChOk; omega
theorem own_cm {xs ys : List Int32} (h : sameW xs ys = 0) : sameW ys xs = 0 := by
  unfold sameW at *
  by_cases q : xs = ys
  · rw [if_pos q] at h; exact absurd h (by decide)
  · exact if_neg (Ne.symm q)
theorem own_cn {xs ys : List Int32} (h : ¬ sameW xs ys = 0) : ¬ sameW ys xs = 0 := fun q => h (own_cm q)
theorem iv_set (L : List Int32) (j : Nat) (c : Int32) : (iv L).set j (.int c) = iv (L.set j c) := by rw [iv, iv, List.map_set]
theorem chSet {c : Int32} {cs : List Int32} {j : Nat} (r : ∀ x ∈ cs, ChOk x) (H : ChOk c) : ∀ x ∈ cs.set j c, ChOk x := fun x q => (List.mem_or_eq_of_mem_set q).elim (r x) (fun e => e ▸ H)
theorem own_md (x d : Int32) (D : Int) (hd : d.toInt = D) (h0 : 0 < D) : 0 ≤ ((x &&& 2147483647) % d).toInt ∧ ((x &&& 2147483647) % d).toInt < D := by
  have h1 := c_mask x 2147483647 31 (by decide) (by decide)
  have h2 := (c_irem (x &&& 2147483647) d D hd).1 (by omega)
  rw [h2]
  exact ⟨Int.emod_nonneg _ (by omega), Int.emod_lt_of_pos _ h0⟩
theorem own_ix (x d : Int32) (D : Nat) (hd : d.toInt = (D : Int)) (h0 : 0 < D) : ¬ ((x &&& 2147483647) % d) < 0 ∧ ((x &&& 2147483647) % d).toNatClampNeg < D := by
  obtain ⟨h1, h2⟩ := own_md x d D hd (by omega)
  refine ⟨by rw [Int32.lt_iff_toInt_lt, show (0 : Int32).toInt = 0 from rfl]; omega, ?_⟩
  simp only [Int32.toNatClampNeg]; omega
theorem own_k3 (x : Int32) : (x &&& 2147483647) % 3 = 0 ∨ (x &&& 2147483647) % 3 = 1 ∨ (x &&& 2147483647) % 3 = 2 := by
  have h := own_md x 3 3 rfl (by decide)
  have : ((x &&& 2147483647) % 3).toInt = 0 ∨ ((x &&& 2147483647) % 3).toInt = 1 ∨ ((x &&& 2147483647) % 3).toInt = 2 := by omega
  rcases this with q | q | q
  · exact Or.inl (Int32.toInt_inj.mp (q.trans rfl))
  · exact Or.inr (Or.inl (Int32.toInt_inj.mp (q.trans rfl)))
  · exact Or.inr (Or.inr (Int32.toInt_inj.mp (q.trans rfl)))
theorem own_k5 (x : Int32) : (x &&& 2147483647) % 5 = 0 ∨ (x &&& 2147483647) % 5 = 1 ∨ (x &&& 2147483647) % 5 = 2 ∨ (x &&& 2147483647) % 5 = 3 ∨ (x &&& 2147483647) % 5 = 4 := by
  have h := own_md x 5 5 rfl (by decide)
  have : ((x &&& 2147483647) % 5).toInt = 0 ∨ ((x &&& 2147483647) % 5).toInt = 1 ∨ ((x &&& 2147483647) % 5).toInt = 2 ∨ ((x &&& 2147483647) % 5).toInt = 3 ∨ ((x &&& 2147483647) % 5).toInt = 4 := by omega
  rcases this with q | q | q | q | q
  · exact Or.inl (Int32.toInt_inj.mp (q.trans rfl))
  · exact Or.inr (Or.inl (Int32.toInt_inj.mp (q.trans rfl)))
  · exact Or.inr (Or.inr (Or.inl (Int32.toInt_inj.mp (q.trans rfl))))
  · exact Or.inr (Or.inr (Or.inr (Or.inl (Int32.toInt_inj.mp (q.trans rfl)))))
  · exact Or.inr (Or.inr (Or.inr (Or.inr (Int32.toInt_inj.mp (q.trans rfl)))))
theorem c_full0 (l : Launch) (Z : State) (a0 : Array Value) (hw : HwT Z a0) (h : Heap) (n0 : Nat) (hn : n0 ≤ h.size) : Con l Z (⟨"com/example/eccentra/eccentra/GraphFormatNamedPinLaw", "full", "(I)[C"⟩ : MethodName) method_4_code 1 (some (.array .char)) ({ frames := 0, cells := 1, slots := 9, locals := 0 } : Room) #[(.int (0 : Int32))] h n0 (fun v h' => ∃ d, v = some (.ref d) ∧ h.size ≤ d ∧ n0 ≤ d ∧ Keep h h' [] ∧ Ary Z h' d .char [(.int (101 : Int32)), (.int (100 : Int32)), (.int (103 : Int32)), (.int (101 : Int32)), (.int (108 : Int32)), (.int (105 : Int32)), (.int (115 : Int32)), (.int (116 : Int32))]) := by
  refine ConG.of_W (Ls := #[.val (.int (0 : Int32))]) (plainFor_of_name pn_3) hn (fun m => by first | (simp [entryFrame, mkF, argsToLocals, Value.category]; done) | rfl) ?_
  refine W.iloadN 1 d_method_4_0 rfl rfl ?_
  refine W.if_ne 51 4 d_method_4_1 rfl rfl (fun hc => absurd (by decide) hc) (fun _ => ?_)
  refine W.bipush 6 d_method_4_4 rfl (8 : Int32) rfl ?_
  refine W.newarray 8 d_method_4_6 rfl (wd_8 hw) rfl (by decide) 8 8 (by decide) (by decide) (by decide) (by decide) (by decide) rfl ?_
  intro h1051 b1051 g1051 ge1051 X1051 K1051 A1051
  have sz1052 := Nat.le_trans (Keep.refl _ []).1 (Nat.le_of_eq g1051.symm)
  have kc1053 := Keep.trans (ws := []) (Keep.refl _ []) K1051 all0
  have A1051 : Ary _ _ b1051 .char [(.int (0 : Int32)), (.int (0 : Int32)), (.int (0 : Int32)), (.int (0 : Int32)), (.int (0 : Int32)), (.int (0 : Int32)), (.int (0 : Int32)), (.int (0 : Int32))] := A1051
  show WG _ _ _ _ _ _ _ _ _ _ _ _ 1 8 8 #[.val (.int (0 : Int32))] [(.ref b1051)]
  refine W.dup 9 d_method_4_8 rfl rfl ?_
  refine W.iconst 10 d_method_4_9 rfl (0 : Int32) rfl ?_
  refine W.bipush 12 d_method_4_10 rfl (101 : Int32) rfl ?_
  refine W.castore 13 d_method_4_12 rfl A1051 0 (by decide) (by decide) (Nat.le_of_ble_eq_true rfl) (101 : Int32) rfl ge1051 ?_
  intro h1054 W1054 K1054 A1054
  have kc1055 := Keep.trans (ws := []) kc1053 K1054 (allS (Or.inr sz1052) all0)
  have A1054 : Ary _ _ b1051 .char [(.int (101 : Int32)), (.int (0 : Int32)), (.int (0 : Int32)), (.int (0 : Int32)), (.int (0 : Int32)), (.int (0 : Int32)), (.int (0 : Int32)), (.int (0 : Int32))] := A1054
  refine W.dup 14 d_method_4_13 rfl rfl ?_
  refine W.iconst 15 d_method_4_14 rfl (1 : Int32) rfl ?_
  refine W.bipush 17 d_method_4_15 rfl (100 : Int32) rfl ?_
  refine W.castore 18 d_method_4_17 rfl A1054 1 (by decide) (by decide) (Nat.le_of_ble_eq_true rfl) (100 : Int32) rfl ge1051 ?_
  intro h1056 W1056 K1056 A1056
  have kc1057 := Keep.trans (ws := []) kc1055 K1056 (allS (Or.inr sz1052) all0)
  have A1056 : Ary _ _ b1051 .char [(.int (101 : Int32)), (.int (100 : Int32)), (.int (0 : Int32)), (.int (0 : Int32)), (.int (0 : Int32)), (.int (0 : Int32)), (.int (0 : Int32)), (.int (0 : Int32))] := A1056
  refine W.dup 19 d_method_4_18 rfl rfl ?_
  refine W.iconst 20 d_method_4_19 rfl (2 : Int32) rfl ?_
  refine W.bipush 22 d_method_4_20 rfl (103 : Int32) rfl ?_
  refine W.castore 23 d_method_4_22 rfl A1056 2 (by decide) (by decide) (Nat.le_of_ble_eq_true rfl) (103 : Int32) rfl ge1051 ?_
  intro h1058 W1058 K1058 A1058
  have kc1059 := Keep.trans (ws := []) kc1057 K1058 (allS (Or.inr sz1052) all0)
  have A1058 : Ary _ _ b1051 .char [(.int (101 : Int32)), (.int (100 : Int32)), (.int (103 : Int32)), (.int (0 : Int32)), (.int (0 : Int32)), (.int (0 : Int32)), (.int (0 : Int32)), (.int (0 : Int32))] := A1058
  refine W.dup 24 d_method_4_23 rfl rfl ?_
  refine W.iconst 25 d_method_4_24 rfl (3 : Int32) rfl ?_
  refine W.bipush 27 d_method_4_25 rfl (101 : Int32) rfl ?_
  refine W.castore 28 d_method_4_27 rfl A1058 3 (by decide) (by decide) (Nat.le_of_ble_eq_true rfl) (101 : Int32) rfl ge1051 ?_
  intro h1060 W1060 K1060 A1060
  have kc1061 := Keep.trans (ws := []) kc1059 K1060 (allS (Or.inr sz1052) all0)
  have A1060 : Ary _ _ b1051 .char [(.int (101 : Int32)), (.int (100 : Int32)), (.int (103 : Int32)), (.int (101 : Int32)), (.int (0 : Int32)), (.int (0 : Int32)), (.int (0 : Int32)), (.int (0 : Int32))] := A1060
  refine W.dup 29 d_method_4_28 rfl rfl ?_
  refine W.iconst 30 d_method_4_29 rfl (4 : Int32) rfl ?_
  refine W.bipush 32 d_method_4_30 rfl (108 : Int32) rfl ?_
  refine W.castore 33 d_method_4_32 rfl A1060 4 (by decide) (by decide) (Nat.le_of_ble_eq_true rfl) (108 : Int32) rfl ge1051 ?_
  intro h1062 W1062 K1062 A1062
  have kc1063 := Keep.trans (ws := []) kc1061 K1062 (allS (Or.inr sz1052) all0)
  have A1062 : Ary _ _ b1051 .char [(.int (101 : Int32)), (.int (100 : Int32)), (.int (103 : Int32)), (.int (101 : Int32)), (.int (108 : Int32)), (.int (0 : Int32)), (.int (0 : Int32)), (.int (0 : Int32))] := A1062
  refine W.dup 34 d_method_4_33 rfl rfl ?_
  refine W.iconst 35 d_method_4_34 rfl (5 : Int32) rfl ?_
  refine W.bipush 37 d_method_4_35 rfl (105 : Int32) rfl ?_
  refine W.castore 38 d_method_4_37 rfl A1062 5 (by decide) (by decide) (Nat.le_of_ble_eq_true rfl) (105 : Int32) rfl ge1051 ?_
  intro h1064 W1064 K1064 A1064
  have kc1065 := Keep.trans (ws := []) kc1063 K1064 (allS (Or.inr sz1052) all0)
  have A1064 : Ary _ _ b1051 .char [(.int (101 : Int32)), (.int (100 : Int32)), (.int (103 : Int32)), (.int (101 : Int32)), (.int (108 : Int32)), (.int (105 : Int32)), (.int (0 : Int32)), (.int (0 : Int32))] := A1064
  refine W.dup 39 d_method_4_38 rfl rfl ?_
  refine W.bipush 41 d_method_4_39 rfl (6 : Int32) rfl ?_
  refine W.bipush 43 d_method_4_41 rfl (115 : Int32) rfl ?_
  refine W.castore 44 d_method_4_43 rfl A1064 6 (by decide) (by decide) (Nat.le_of_ble_eq_true rfl) (115 : Int32) rfl ge1051 ?_
  intro h1066 W1066 K1066 A1066
  have kc1067 := Keep.trans (ws := []) kc1065 K1066 (allS (Or.inr sz1052) all0)
  have A1066 : Ary _ _ b1051 .char [(.int (101 : Int32)), (.int (100 : Int32)), (.int (103 : Int32)), (.int (101 : Int32)), (.int (108 : Int32)), (.int (105 : Int32)), (.int (115 : Int32)), (.int (0 : Int32))] := A1066
  refine W.dup 45 d_method_4_44 rfl rfl ?_
  refine W.bipush 47 d_method_4_45 rfl (7 : Int32) rfl ?_
  refine W.bipush 49 d_method_4_47 rfl (116 : Int32) rfl ?_
  refine W.castore 50 d_method_4_49 rfl A1066 7 (by decide) (by decide) (Nat.le_of_ble_eq_true rfl) (116 : Int32) rfl ge1051 ?_
  intro h1068 W1068 K1068 A1068
  have kc1069 := Keep.trans (ws := []) kc1067 K1068 (allS (Or.inr sz1052) all0)
  have A1068 : Ary _ _ b1051 .char [(.int (101 : Int32)), (.int (100 : Int32)), (.int (103 : Int32)), (.int (101 : Int32)), (.int (108 : Int32)), (.int (105 : Int32)), (.int (115 : Int32)), (.int (116 : Int32))] := A1068
  exact W.areturn d_method_4_50 rfl rfl rfl rfl ⟨_, rfl, sz1052, ge1051, kc1069, A1068⟩ (by decide) (by decide)
theorem c_full1 (l : Launch) (Z : State) (a0 : Array Value) (hw : HwT Z a0) (h : Heap) (n0 : Nat) (hn : n0 ≤ h.size) : Con l Z (⟨"com/example/eccentra/eccentra/GraphFormatNamedPinLaw", "full", "(I)[C"⟩ : MethodName) method_4_code 1 (some (.array .char)) ({ frames := 0, cells := 1, slots := 9, locals := 0 } : Room) #[(.int (1 : Int32))] h n0 (fun v h' => ∃ d, v = some (.ref d) ∧ h.size ≤ d ∧ n0 ≤ d ∧ Keep h h' [] ∧ Ary Z h' d .char [(.int (97 : Int32)), (.int (100 : Int32)), (.int (106 : Int32)), (.int (108 : Int32)), (.int (105 : Int32)), (.int (115 : Int32)), (.int (116 : Int32))]) := by
  refine ConG.of_W (Ls := #[.val (.int (1 : Int32))]) (plainFor_of_name pn_3) hn (fun m => by first | (simp [entryFrame, mkF, argsToLocals, Value.category]; done) | rfl) ?_
  refine W.iloadN 1 d_method_4_0 rfl rfl ?_
  refine W.if_ne 51 4 d_method_4_1 rfl rfl (fun _ => ?_) (fun hc => absurd hc (by decide))
  refine W.iloadN 52 d_method_4_51 rfl rfl ?_
  refine W.iconst 53 d_method_4_52 rfl (1 : Int32) rfl ?_
  refine W.icmp_ne 97 56 d_method_4_53 rfl rfl (fun hc => absurd (by decide) hc) (fun _ => ?_)
  refine W.bipush 58 d_method_4_56 rfl (7 : Int32) rfl ?_
  refine W.newarray 60 d_method_4_58 rfl (wd_8 hw) rfl (by decide) 7 7 (by decide) (by decide) (by decide) (by decide) (by decide) rfl ?_
  intro h1070 b1070 g1070 ge1070 X1070 K1070 A1070
  have sz1071 := Nat.le_trans (Keep.refl _ []).1 (Nat.le_of_eq g1070.symm)
  have kc1072 := Keep.trans (ws := []) (Keep.refl _ []) K1070 all0
  have A1070 : Ary _ _ b1070 .char [(.int (0 : Int32)), (.int (0 : Int32)), (.int (0 : Int32)), (.int (0 : Int32)), (.int (0 : Int32)), (.int (0 : Int32)), (.int (0 : Int32))] := A1070
  show WG _ _ _ _ _ _ _ _ _ _ _ _ 1 7 60 #[.val (.int (1 : Int32))] [(.ref b1070)]
  refine W.dup 61 d_method_4_60 rfl rfl ?_
  refine W.iconst 62 d_method_4_61 rfl (0 : Int32) rfl ?_
  refine W.bipush 64 d_method_4_62 rfl (97 : Int32) rfl ?_
  refine W.castore 65 d_method_4_64 rfl A1070 0 (by decide) (by decide) (Nat.le_of_ble_eq_true rfl) (97 : Int32) rfl ge1070 ?_
  intro h1073 W1073 K1073 A1073
  have kc1074 := Keep.trans (ws := []) kc1072 K1073 (allS (Or.inr sz1071) all0)
  have A1073 : Ary _ _ b1070 .char [(.int (97 : Int32)), (.int (0 : Int32)), (.int (0 : Int32)), (.int (0 : Int32)), (.int (0 : Int32)), (.int (0 : Int32)), (.int (0 : Int32))] := A1073
  refine W.dup 66 d_method_4_65 rfl rfl ?_
  refine W.iconst 67 d_method_4_66 rfl (1 : Int32) rfl ?_
  refine W.bipush 69 d_method_4_67 rfl (100 : Int32) rfl ?_
  refine W.castore 70 d_method_4_69 rfl A1073 1 (by decide) (by decide) (Nat.le_of_ble_eq_true rfl) (100 : Int32) rfl ge1070 ?_
  intro h1075 W1075 K1075 A1075
  have kc1076 := Keep.trans (ws := []) kc1074 K1075 (allS (Or.inr sz1071) all0)
  have A1075 : Ary _ _ b1070 .char [(.int (97 : Int32)), (.int (100 : Int32)), (.int (0 : Int32)), (.int (0 : Int32)), (.int (0 : Int32)), (.int (0 : Int32)), (.int (0 : Int32))] := A1075
  refine W.dup 71 d_method_4_70 rfl rfl ?_
  refine W.iconst 72 d_method_4_71 rfl (2 : Int32) rfl ?_
  refine W.bipush 74 d_method_4_72 rfl (106 : Int32) rfl ?_
  refine W.castore 75 d_method_4_74 rfl A1075 2 (by decide) (by decide) (Nat.le_of_ble_eq_true rfl) (106 : Int32) rfl ge1070 ?_
  intro h1077 W1077 K1077 A1077
  have kc1078 := Keep.trans (ws := []) kc1076 K1077 (allS (Or.inr sz1071) all0)
  have A1077 : Ary _ _ b1070 .char [(.int (97 : Int32)), (.int (100 : Int32)), (.int (106 : Int32)), (.int (0 : Int32)), (.int (0 : Int32)), (.int (0 : Int32)), (.int (0 : Int32))] := A1077
  refine W.dup 76 d_method_4_75 rfl rfl ?_
  refine W.iconst 77 d_method_4_76 rfl (3 : Int32) rfl ?_
  refine W.bipush 79 d_method_4_77 rfl (108 : Int32) rfl ?_
  refine W.castore 80 d_method_4_79 rfl A1077 3 (by decide) (by decide) (Nat.le_of_ble_eq_true rfl) (108 : Int32) rfl ge1070 ?_
  intro h1079 W1079 K1079 A1079
  have kc1080 := Keep.trans (ws := []) kc1078 K1079 (allS (Or.inr sz1071) all0)
  have A1079 : Ary _ _ b1070 .char [(.int (97 : Int32)), (.int (100 : Int32)), (.int (106 : Int32)), (.int (108 : Int32)), (.int (0 : Int32)), (.int (0 : Int32)), (.int (0 : Int32))] := A1079
  refine W.dup 81 d_method_4_80 rfl rfl ?_
  refine W.iconst 82 d_method_4_81 rfl (4 : Int32) rfl ?_
  refine W.bipush 84 d_method_4_82 rfl (105 : Int32) rfl ?_
  refine W.castore 85 d_method_4_84 rfl A1079 4 (by decide) (by decide) (Nat.le_of_ble_eq_true rfl) (105 : Int32) rfl ge1070 ?_
  intro h1081 W1081 K1081 A1081
  have kc1082 := Keep.trans (ws := []) kc1080 K1081 (allS (Or.inr sz1071) all0)
  have A1081 : Ary _ _ b1070 .char [(.int (97 : Int32)), (.int (100 : Int32)), (.int (106 : Int32)), (.int (108 : Int32)), (.int (105 : Int32)), (.int (0 : Int32)), (.int (0 : Int32))] := A1081
  refine W.dup 86 d_method_4_85 rfl rfl ?_
  refine W.iconst 87 d_method_4_86 rfl (5 : Int32) rfl ?_
  refine W.bipush 89 d_method_4_87 rfl (115 : Int32) rfl ?_
  refine W.castore 90 d_method_4_89 rfl A1081 5 (by decide) (by decide) (Nat.le_of_ble_eq_true rfl) (115 : Int32) rfl ge1070 ?_
  intro h1083 W1083 K1083 A1083
  have kc1084 := Keep.trans (ws := []) kc1082 K1083 (allS (Or.inr sz1071) all0)
  have A1083 : Ary _ _ b1070 .char [(.int (97 : Int32)), (.int (100 : Int32)), (.int (106 : Int32)), (.int (108 : Int32)), (.int (105 : Int32)), (.int (115 : Int32)), (.int (0 : Int32))] := A1083
  refine W.dup 91 d_method_4_90 rfl rfl ?_
  refine W.bipush 93 d_method_4_91 rfl (6 : Int32) rfl ?_
  refine W.bipush 95 d_method_4_93 rfl (116 : Int32) rfl ?_
  refine W.castore 96 d_method_4_95 rfl A1083 6 (by decide) (by decide) (Nat.le_of_ble_eq_true rfl) (116 : Int32) rfl ge1070 ?_
  intro h1085 W1085 K1085 A1085
  have kc1086 := Keep.trans (ws := []) kc1084 K1085 (allS (Or.inr sz1071) all0)
  have A1085 : Ary _ _ b1070 .char [(.int (97 : Int32)), (.int (100 : Int32)), (.int (106 : Int32)), (.int (108 : Int32)), (.int (105 : Int32)), (.int (115 : Int32)), (.int (116 : Int32))] := A1085
  exact W.areturn d_method_4_96 rfl rfl rfl rfl ⟨_, rfl, sz1071, ge1070, kc1086, A1085⟩ (by decide) (by decide)
theorem c_full2 (l : Launch) (Z : State) (a0 : Array Value) (hw : HwT Z a0) (h : Heap) (n0 : Nat) (hn : n0 ≤ h.size) : Con l Z (⟨"com/example/eccentra/eccentra/GraphFormatNamedPinLaw", "full", "(I)[C"⟩ : MethodName) method_4_code 1 (some (.array .char)) ({ frames := 0, cells := 1, slots := 9, locals := 0 } : Room) #[(.int (2 : Int32))] h n0 (fun v h' => ∃ d, v = some (.ref d) ∧ h.size ≤ d ∧ n0 ≤ d ∧ Keep h h' [] ∧ Ary Z h' d .char [(.int (109 : Int32)), (.int (116 : Int32)), (.int (120 : Int32))]) := by
  refine ConG.of_W (Ls := #[.val (.int (2 : Int32))]) (plainFor_of_name pn_3) hn (fun m => by first | (simp [entryFrame, mkF, argsToLocals, Value.category]; done) | rfl) ?_
  refine W.iloadN 1 d_method_4_0 rfl rfl ?_
  refine W.if_ne 51 4 d_method_4_1 rfl rfl (fun _ => ?_) (fun hc => absurd hc (by decide))
  refine W.iloadN 52 d_method_4_51 rfl rfl ?_
  refine W.iconst 53 d_method_4_52 rfl (1 : Int32) rfl ?_
  refine W.icmp_ne 97 56 d_method_4_53 rfl rfl (fun _ => ?_) (fun hc => absurd hc (by decide))
  refine W.iconst 98 d_method_4_97 rfl (3 : Int32) rfl ?_
  refine W.newarray 100 d_method_4_98 rfl (wd_8 hw) rfl (by decide) 3 3 (by decide) (by decide) (by decide) (by decide) (by decide) rfl ?_
  intro h1087 b1087 g1087 ge1087 X1087 K1087 A1087
  have sz1088 := Nat.le_trans (Keep.refl _ []).1 (Nat.le_of_eq g1087.symm)
  have kc1089 := Keep.trans (ws := []) (Keep.refl _ []) K1087 all0
  have A1087 : Ary _ _ b1087 .char [(.int (0 : Int32)), (.int (0 : Int32)), (.int (0 : Int32))] := A1087
  show WG _ _ _ _ _ _ _ _ _ _ _ _ 1 3 100 #[.val (.int (2 : Int32))] [(.ref b1087)]
  refine W.dup 101 d_method_4_100 rfl rfl ?_
  refine W.iconst 102 d_method_4_101 rfl (0 : Int32) rfl ?_
  refine W.bipush 104 d_method_4_102 rfl (109 : Int32) rfl ?_
  refine W.castore 105 d_method_4_104 rfl A1087 0 (by decide) (by decide) (Nat.le_of_ble_eq_true rfl) (109 : Int32) rfl ge1087 ?_
  intro h1090 W1090 K1090 A1090
  have kc1091 := Keep.trans (ws := []) kc1089 K1090 (allS (Or.inr sz1088) all0)
  have A1090 : Ary _ _ b1087 .char [(.int (109 : Int32)), (.int (0 : Int32)), (.int (0 : Int32))] := A1090
  refine W.dup 106 d_method_4_105 rfl rfl ?_
  refine W.iconst 107 d_method_4_106 rfl (1 : Int32) rfl ?_
  refine W.bipush 109 d_method_4_107 rfl (116 : Int32) rfl ?_
  refine W.castore 110 d_method_4_109 rfl A1090 1 (by decide) (by decide) (Nat.le_of_ble_eq_true rfl) (116 : Int32) rfl ge1087 ?_
  intro h1092 W1092 K1092 A1092
  have kc1093 := Keep.trans (ws := []) kc1091 K1092 (allS (Or.inr sz1088) all0)
  have A1092 : Ary _ _ b1087 .char [(.int (109 : Int32)), (.int (116 : Int32)), (.int (0 : Int32))] := A1092
  refine W.dup 111 d_method_4_110 rfl rfl ?_
  refine W.iconst 112 d_method_4_111 rfl (2 : Int32) rfl ?_
  refine W.bipush 114 d_method_4_112 rfl (120 : Int32) rfl ?_
  refine W.castore 115 d_method_4_114 rfl A1092 2 (by decide) (by decide) (Nat.le_of_ble_eq_true rfl) (120 : Int32) rfl ge1087 ?_
  intro h1094 W1094 K1094 A1094
  have kc1095 := Keep.trans (ws := []) kc1093 K1094 (allS (Or.inr sz1088) all0)
  have A1094 : Ary _ _ b1087 .char [(.int (109 : Int32)), (.int (116 : Int32)), (.int (120 : Int32))] := A1094
  exact W.areturn d_method_4_115 rfl rfl rfl rfl ⟨_, rfl, sz1088, ge1087, kc1095, A1094⟩ (by decide) (by decide)
theorem c_trunc0 (l : Launch) (Z : State) (a0 : Array Value) (hw : HwT Z a0) (h : Heap) (n0 : Nat) (hn : n0 ≤ h.size) : Con l Z (⟨"com/example/eccentra/eccentra/GraphFormatNamedPinLaw", "trunc", "(I)[C"⟩ : MethodName) method_5_code 1 (some (.array .char)) ({ frames := 0, cells := 1, slots := 9, locals := 0 } : Room) #[(.int (0 : Int32))] h n0 (fun v h' => ∃ d, v = some (.ref d) ∧ h.size ≤ d ∧ n0 ≤ d ∧ Keep h h' [] ∧ Ary Z h' d .char [(.int (101 : Int32)), (.int (100 : Int32)), (.int (103 : Int32)), (.int (101 : Int32)), (.int (108 : Int32)), (.int (105 : Int32)), (.int (115 : Int32))]) := by
  refine ConG.of_W (Ls := #[.val (.int (0 : Int32))]) (plainFor_of_name pn_3) hn (fun m => by first | (simp [entryFrame, mkF, argsToLocals, Value.category]; done) | rfl) ?_
  refine W.iloadN 1 d_method_5_0 rfl rfl ?_
  refine W.if_ne 45 4 d_method_5_1 rfl rfl (fun hc => absurd (by decide) hc) (fun _ => ?_)
  refine W.bipush 6 d_method_5_4 rfl (7 : Int32) rfl ?_
  refine W.newarray 8 d_method_5_6 rfl (wd_8 hw) rfl (by decide) 7 7 (by decide) (by decide) (by decide) (by decide) (by decide) rfl ?_
  intro h1096 b1096 g1096 ge1096 X1096 K1096 A1096
  have sz1097 := Nat.le_trans (Keep.refl _ []).1 (Nat.le_of_eq g1096.symm)
  have kc1098 := Keep.trans (ws := []) (Keep.refl _ []) K1096 all0
  have A1096 : Ary _ _ b1096 .char [(.int (0 : Int32)), (.int (0 : Int32)), (.int (0 : Int32)), (.int (0 : Int32)), (.int (0 : Int32)), (.int (0 : Int32)), (.int (0 : Int32))] := A1096
  show WG _ _ _ _ _ _ _ _ _ _ _ _ 1 7 8 #[.val (.int (0 : Int32))] [(.ref b1096)]
  refine W.dup 9 d_method_5_8 rfl rfl ?_
  refine W.iconst 10 d_method_5_9 rfl (0 : Int32) rfl ?_
  refine W.bipush 12 d_method_5_10 rfl (101 : Int32) rfl ?_
  refine W.castore 13 d_method_5_12 rfl A1096 0 (by decide) (by decide) (Nat.le_of_ble_eq_true rfl) (101 : Int32) rfl ge1096 ?_
  intro h1099 W1099 K1099 A1099
  have kc1100 := Keep.trans (ws := []) kc1098 K1099 (allS (Or.inr sz1097) all0)
  have A1099 : Ary _ _ b1096 .char [(.int (101 : Int32)), (.int (0 : Int32)), (.int (0 : Int32)), (.int (0 : Int32)), (.int (0 : Int32)), (.int (0 : Int32)), (.int (0 : Int32))] := A1099
  refine W.dup 14 d_method_5_13 rfl rfl ?_
  refine W.iconst 15 d_method_5_14 rfl (1 : Int32) rfl ?_
  refine W.bipush 17 d_method_5_15 rfl (100 : Int32) rfl ?_
  refine W.castore 18 d_method_5_17 rfl A1099 1 (by decide) (by decide) (Nat.le_of_ble_eq_true rfl) (100 : Int32) rfl ge1096 ?_
  intro h1101 W1101 K1101 A1101
  have kc1102 := Keep.trans (ws := []) kc1100 K1101 (allS (Or.inr sz1097) all0)
  have A1101 : Ary _ _ b1096 .char [(.int (101 : Int32)), (.int (100 : Int32)), (.int (0 : Int32)), (.int (0 : Int32)), (.int (0 : Int32)), (.int (0 : Int32)), (.int (0 : Int32))] := A1101
  refine W.dup 19 d_method_5_18 rfl rfl ?_
  refine W.iconst 20 d_method_5_19 rfl (2 : Int32) rfl ?_
  refine W.bipush 22 d_method_5_20 rfl (103 : Int32) rfl ?_
  refine W.castore 23 d_method_5_22 rfl A1101 2 (by decide) (by decide) (Nat.le_of_ble_eq_true rfl) (103 : Int32) rfl ge1096 ?_
  intro h1103 W1103 K1103 A1103
  have kc1104 := Keep.trans (ws := []) kc1102 K1103 (allS (Or.inr sz1097) all0)
  have A1103 : Ary _ _ b1096 .char [(.int (101 : Int32)), (.int (100 : Int32)), (.int (103 : Int32)), (.int (0 : Int32)), (.int (0 : Int32)), (.int (0 : Int32)), (.int (0 : Int32))] := A1103
  refine W.dup 24 d_method_5_23 rfl rfl ?_
  refine W.iconst 25 d_method_5_24 rfl (3 : Int32) rfl ?_
  refine W.bipush 27 d_method_5_25 rfl (101 : Int32) rfl ?_
  refine W.castore 28 d_method_5_27 rfl A1103 3 (by decide) (by decide) (Nat.le_of_ble_eq_true rfl) (101 : Int32) rfl ge1096 ?_
  intro h1105 W1105 K1105 A1105
  have kc1106 := Keep.trans (ws := []) kc1104 K1105 (allS (Or.inr sz1097) all0)
  have A1105 : Ary _ _ b1096 .char [(.int (101 : Int32)), (.int (100 : Int32)), (.int (103 : Int32)), (.int (101 : Int32)), (.int (0 : Int32)), (.int (0 : Int32)), (.int (0 : Int32))] := A1105
  refine W.dup 29 d_method_5_28 rfl rfl ?_
  refine W.iconst 30 d_method_5_29 rfl (4 : Int32) rfl ?_
  refine W.bipush 32 d_method_5_30 rfl (108 : Int32) rfl ?_
  refine W.castore 33 d_method_5_32 rfl A1105 4 (by decide) (by decide) (Nat.le_of_ble_eq_true rfl) (108 : Int32) rfl ge1096 ?_
  intro h1107 W1107 K1107 A1107
  have kc1108 := Keep.trans (ws := []) kc1106 K1107 (allS (Or.inr sz1097) all0)
  have A1107 : Ary _ _ b1096 .char [(.int (101 : Int32)), (.int (100 : Int32)), (.int (103 : Int32)), (.int (101 : Int32)), (.int (108 : Int32)), (.int (0 : Int32)), (.int (0 : Int32))] := A1107
  refine W.dup 34 d_method_5_33 rfl rfl ?_
  refine W.iconst 35 d_method_5_34 rfl (5 : Int32) rfl ?_
  refine W.bipush 37 d_method_5_35 rfl (105 : Int32) rfl ?_
  refine W.castore 38 d_method_5_37 rfl A1107 5 (by decide) (by decide) (Nat.le_of_ble_eq_true rfl) (105 : Int32) rfl ge1096 ?_
  intro h1109 W1109 K1109 A1109
  have kc1110 := Keep.trans (ws := []) kc1108 K1109 (allS (Or.inr sz1097) all0)
  have A1109 : Ary _ _ b1096 .char [(.int (101 : Int32)), (.int (100 : Int32)), (.int (103 : Int32)), (.int (101 : Int32)), (.int (108 : Int32)), (.int (105 : Int32)), (.int (0 : Int32))] := A1109
  refine W.dup 39 d_method_5_38 rfl rfl ?_
  refine W.bipush 41 d_method_5_39 rfl (6 : Int32) rfl ?_
  refine W.bipush 43 d_method_5_41 rfl (115 : Int32) rfl ?_
  refine W.castore 44 d_method_5_43 rfl A1109 6 (by decide) (by decide) (Nat.le_of_ble_eq_true rfl) (115 : Int32) rfl ge1096 ?_
  intro h1111 W1111 K1111 A1111
  have kc1112 := Keep.trans (ws := []) kc1110 K1111 (allS (Or.inr sz1097) all0)
  have A1111 : Ary _ _ b1096 .char [(.int (101 : Int32)), (.int (100 : Int32)), (.int (103 : Int32)), (.int (101 : Int32)), (.int (108 : Int32)), (.int (105 : Int32)), (.int (115 : Int32))] := A1111
  exact W.areturn d_method_5_44 rfl rfl rfl rfl ⟨_, rfl, sz1097, ge1096, kc1112, A1111⟩ (by decide) (by decide)
theorem c_trunc1 (l : Launch) (Z : State) (a0 : Array Value) (hw : HwT Z a0) (h : Heap) (n0 : Nat) (hn : n0 ≤ h.size) : Con l Z (⟨"com/example/eccentra/eccentra/GraphFormatNamedPinLaw", "trunc", "(I)[C"⟩ : MethodName) method_5_code 1 (some (.array .char)) ({ frames := 0, cells := 1, slots := 9, locals := 0 } : Room) #[(.int (1 : Int32))] h n0 (fun v h' => ∃ d, v = some (.ref d) ∧ h.size ≤ d ∧ n0 ≤ d ∧ Keep h h' [] ∧ Ary Z h' d .char [(.int (97 : Int32)), (.int (100 : Int32)), (.int (106 : Int32)), (.int (108 : Int32)), (.int (105 : Int32)), (.int (115 : Int32))]) := by
  refine ConG.of_W (Ls := #[.val (.int (1 : Int32))]) (plainFor_of_name pn_3) hn (fun m => by first | (simp [entryFrame, mkF, argsToLocals, Value.category]; done) | rfl) ?_
  refine W.iloadN 1 d_method_5_0 rfl rfl ?_
  refine W.if_ne 45 4 d_method_5_1 rfl rfl (fun _ => ?_) (fun hc => absurd hc (by decide))
  refine W.iloadN 46 d_method_5_45 rfl rfl ?_
  refine W.iconst 47 d_method_5_46 rfl (1 : Int32) rfl ?_
  refine W.icmp_ne 85 50 d_method_5_47 rfl rfl (fun hc => absurd (by decide) hc) (fun _ => ?_)
  refine W.bipush 52 d_method_5_50 rfl (6 : Int32) rfl ?_
  refine W.newarray 54 d_method_5_52 rfl (wd_8 hw) rfl (by decide) 6 6 (by decide) (by decide) (by decide) (by decide) (by decide) rfl ?_
  intro h1113 b1113 g1113 ge1113 X1113 K1113 A1113
  have sz1114 := Nat.le_trans (Keep.refl _ []).1 (Nat.le_of_eq g1113.symm)
  have kc1115 := Keep.trans (ws := []) (Keep.refl _ []) K1113 all0
  have A1113 : Ary _ _ b1113 .char [(.int (0 : Int32)), (.int (0 : Int32)), (.int (0 : Int32)), (.int (0 : Int32)), (.int (0 : Int32)), (.int (0 : Int32))] := A1113
  show WG _ _ _ _ _ _ _ _ _ _ _ _ 1 6 54 #[.val (.int (1 : Int32))] [(.ref b1113)]
  refine W.dup 55 d_method_5_54 rfl rfl ?_
  refine W.iconst 56 d_method_5_55 rfl (0 : Int32) rfl ?_
  refine W.bipush 58 d_method_5_56 rfl (97 : Int32) rfl ?_
  refine W.castore 59 d_method_5_58 rfl A1113 0 (by decide) (by decide) (Nat.le_of_ble_eq_true rfl) (97 : Int32) rfl ge1113 ?_
  intro h1116 W1116 K1116 A1116
  have kc1117 := Keep.trans (ws := []) kc1115 K1116 (allS (Or.inr sz1114) all0)
  have A1116 : Ary _ _ b1113 .char [(.int (97 : Int32)), (.int (0 : Int32)), (.int (0 : Int32)), (.int (0 : Int32)), (.int (0 : Int32)), (.int (0 : Int32))] := A1116
  refine W.dup 60 d_method_5_59 rfl rfl ?_
  refine W.iconst 61 d_method_5_60 rfl (1 : Int32) rfl ?_
  refine W.bipush 63 d_method_5_61 rfl (100 : Int32) rfl ?_
  refine W.castore 64 d_method_5_63 rfl A1116 1 (by decide) (by decide) (Nat.le_of_ble_eq_true rfl) (100 : Int32) rfl ge1113 ?_
  intro h1118 W1118 K1118 A1118
  have kc1119 := Keep.trans (ws := []) kc1117 K1118 (allS (Or.inr sz1114) all0)
  have A1118 : Ary _ _ b1113 .char [(.int (97 : Int32)), (.int (100 : Int32)), (.int (0 : Int32)), (.int (0 : Int32)), (.int (0 : Int32)), (.int (0 : Int32))] := A1118
  refine W.dup 65 d_method_5_64 rfl rfl ?_
  refine W.iconst 66 d_method_5_65 rfl (2 : Int32) rfl ?_
  refine W.bipush 68 d_method_5_66 rfl (106 : Int32) rfl ?_
  refine W.castore 69 d_method_5_68 rfl A1118 2 (by decide) (by decide) (Nat.le_of_ble_eq_true rfl) (106 : Int32) rfl ge1113 ?_
  intro h1120 W1120 K1120 A1120
  have kc1121 := Keep.trans (ws := []) kc1119 K1120 (allS (Or.inr sz1114) all0)
  have A1120 : Ary _ _ b1113 .char [(.int (97 : Int32)), (.int (100 : Int32)), (.int (106 : Int32)), (.int (0 : Int32)), (.int (0 : Int32)), (.int (0 : Int32))] := A1120
  refine W.dup 70 d_method_5_69 rfl rfl ?_
  refine W.iconst 71 d_method_5_70 rfl (3 : Int32) rfl ?_
  refine W.bipush 73 d_method_5_71 rfl (108 : Int32) rfl ?_
  refine W.castore 74 d_method_5_73 rfl A1120 3 (by decide) (by decide) (Nat.le_of_ble_eq_true rfl) (108 : Int32) rfl ge1113 ?_
  intro h1122 W1122 K1122 A1122
  have kc1123 := Keep.trans (ws := []) kc1121 K1122 (allS (Or.inr sz1114) all0)
  have A1122 : Ary _ _ b1113 .char [(.int (97 : Int32)), (.int (100 : Int32)), (.int (106 : Int32)), (.int (108 : Int32)), (.int (0 : Int32)), (.int (0 : Int32))] := A1122
  refine W.dup 75 d_method_5_74 rfl rfl ?_
  refine W.iconst 76 d_method_5_75 rfl (4 : Int32) rfl ?_
  refine W.bipush 78 d_method_5_76 rfl (105 : Int32) rfl ?_
  refine W.castore 79 d_method_5_78 rfl A1122 4 (by decide) (by decide) (Nat.le_of_ble_eq_true rfl) (105 : Int32) rfl ge1113 ?_
  intro h1124 W1124 K1124 A1124
  have kc1125 := Keep.trans (ws := []) kc1123 K1124 (allS (Or.inr sz1114) all0)
  have A1124 : Ary _ _ b1113 .char [(.int (97 : Int32)), (.int (100 : Int32)), (.int (106 : Int32)), (.int (108 : Int32)), (.int (105 : Int32)), (.int (0 : Int32))] := A1124
  refine W.dup 80 d_method_5_79 rfl rfl ?_
  refine W.iconst 81 d_method_5_80 rfl (5 : Int32) rfl ?_
  refine W.bipush 83 d_method_5_81 rfl (115 : Int32) rfl ?_
  refine W.castore 84 d_method_5_83 rfl A1124 5 (by decide) (by decide) (Nat.le_of_ble_eq_true rfl) (115 : Int32) rfl ge1113 ?_
  intro h1126 W1126 K1126 A1126
  have kc1127 := Keep.trans (ws := []) kc1125 K1126 (allS (Or.inr sz1114) all0)
  have A1126 : Ary _ _ b1113 .char [(.int (97 : Int32)), (.int (100 : Int32)), (.int (106 : Int32)), (.int (108 : Int32)), (.int (105 : Int32)), (.int (115 : Int32))] := A1126
  exact W.areturn d_method_5_84 rfl rfl rfl rfl ⟨_, rfl, sz1114, ge1113, kc1127, A1126⟩ (by decide) (by decide)
theorem c_trunc2 (l : Launch) (Z : State) (a0 : Array Value) (hw : HwT Z a0) (h : Heap) (n0 : Nat) (hn : n0 ≤ h.size) : Con l Z (⟨"com/example/eccentra/eccentra/GraphFormatNamedPinLaw", "trunc", "(I)[C"⟩ : MethodName) method_5_code 1 (some (.array .char)) ({ frames := 0, cells := 1, slots := 9, locals := 0 } : Room) #[(.int (2 : Int32))] h n0 (fun v h' => ∃ d, v = some (.ref d) ∧ h.size ≤ d ∧ n0 ≤ d ∧ Keep h h' [] ∧ Ary Z h' d .char [(.int (109 : Int32)), (.int (116 : Int32))]) := by
  refine ConG.of_W (Ls := #[.val (.int (2 : Int32))]) (plainFor_of_name pn_3) hn (fun m => by first | (simp [entryFrame, mkF, argsToLocals, Value.category]; done) | rfl) ?_
  refine W.iloadN 1 d_method_5_0 rfl rfl ?_
  refine W.if_ne 45 4 d_method_5_1 rfl rfl (fun _ => ?_) (fun hc => absurd hc (by decide))
  refine W.iloadN 46 d_method_5_45 rfl rfl ?_
  refine W.iconst 47 d_method_5_46 rfl (1 : Int32) rfl ?_
  refine W.icmp_ne 85 50 d_method_5_47 rfl rfl (fun _ => ?_) (fun hc => absurd hc (by decide))
  refine W.iconst 86 d_method_5_85 rfl (2 : Int32) rfl ?_
  refine W.newarray 88 d_method_5_86 rfl (wd_8 hw) rfl (by decide) 2 2 (by decide) (by decide) (by decide) (by decide) (by decide) rfl ?_
  intro h1128 b1128 g1128 ge1128 X1128 K1128 A1128
  have sz1129 := Nat.le_trans (Keep.refl _ []).1 (Nat.le_of_eq g1128.symm)
  have kc1130 := Keep.trans (ws := []) (Keep.refl _ []) K1128 all0
  have A1128 : Ary _ _ b1128 .char [(.int (0 : Int32)), (.int (0 : Int32))] := A1128
  show WG _ _ _ _ _ _ _ _ _ _ _ _ 1 2 88 #[.val (.int (2 : Int32))] [(.ref b1128)]
  refine W.dup 89 d_method_5_88 rfl rfl ?_
  refine W.iconst 90 d_method_5_89 rfl (0 : Int32) rfl ?_
  refine W.bipush 92 d_method_5_90 rfl (109 : Int32) rfl ?_
  refine W.castore 93 d_method_5_92 rfl A1128 0 (by decide) (by decide) (Nat.le_of_ble_eq_true rfl) (109 : Int32) rfl ge1128 ?_
  intro h1131 W1131 K1131 A1131
  have kc1132 := Keep.trans (ws := []) kc1130 K1131 (allS (Or.inr sz1129) all0)
  have A1131 : Ary _ _ b1128 .char [(.int (109 : Int32)), (.int (0 : Int32))] := A1131
  refine W.dup 94 d_method_5_93 rfl rfl ?_
  refine W.iconst 95 d_method_5_94 rfl (1 : Int32) rfl ?_
  refine W.bipush 97 d_method_5_95 rfl (116 : Int32) rfl ?_
  refine W.castore 98 d_method_5_97 rfl A1131 1 (by decide) (by decide) (Nat.le_of_ble_eq_true rfl) (116 : Int32) rfl ge1128 ?_
  intro h1133 W1133 K1133 A1133
  have kc1134 := Keep.trans (ws := []) kc1132 K1133 (allS (Or.inr sz1129) all0)
  have A1133 : Ary _ _ b1128 .char [(.int (109 : Int32)), (.int (116 : Int32))] := A1133
  exact W.areturn d_method_5_98 rfl rfl rfl rfl ⟨_, rfl, sz1129, ge1128, kc1134, A1133⟩ (by decide) (by decide)
theorem c_ext0 (l : Launch) (Z : State) (a0 : Array Value) (hw : HwT Z a0) (ch : Int32) (h : Heap) (n0 : Nat) (hn : n0 ≤ h.size) (Hch : ChOk ch) : Con l Z (⟨"com/example/eccentra/eccentra/GraphFormatNamedPinLaw", "ext", "(IC)[C"⟩ : MethodName) method_6_code 2 (some (.array .char)) ({ frames := 0, cells := 1, slots := 9, locals := 0 } : Room) #[(.int (0 : Int32)), (.int ch)] h n0 (fun v h' => ∃ d, v = some (.ref d) ∧ h.size ≤ d ∧ n0 ≤ d ∧ Keep h h' [] ∧ Ary Z h' d .char [(.int (101 : Int32)), (.int (100 : Int32)), (.int (103 : Int32)), (.int (101 : Int32)), (.int (108 : Int32)), (.int (105 : Int32)), (.int (115 : Int32)), (.int (116 : Int32)), (.int ch)]) := by
  refine ConG.of_W (Ls := #[.val (.int (0 : Int32)), .val (.int ch)]) (plainFor_of_name pn_3) hn (fun m => by first | (simp [entryFrame, mkF, argsToLocals, Value.category]; done) | rfl) ?_
  refine W.iloadN 1 d_method_6_0 rfl rfl ?_
  refine W.if_ne 56 4 d_method_6_1 rfl rfl (fun hc => absurd (by decide) hc) (fun _ => ?_)
  refine W.bipush 6 d_method_6_4 rfl (9 : Int32) rfl ?_
  refine W.newarray 8 d_method_6_6 rfl (wd_8 hw) rfl (by decide) 9 9 (by decide) (by decide) (by decide) (by decide) (by decide) rfl ?_
  intro h1135 b1135 g1135 ge1135 X1135 K1135 A1135
  have sz1136 := Nat.le_trans (Keep.refl _ []).1 (Nat.le_of_eq g1135.symm)
  have kc1137 := Keep.trans (ws := []) (Keep.refl _ []) K1135 all0
  have A1135 : Ary _ _ b1135 .char [(.int (0 : Int32)), (.int (0 : Int32)), (.int (0 : Int32)), (.int (0 : Int32)), (.int (0 : Int32)), (.int (0 : Int32)), (.int (0 : Int32)), (.int (0 : Int32)), (.int (0 : Int32))] := A1135
  show WG _ _ _ _ _ _ _ _ _ _ _ _ 1 9 8 #[.val (.int (0 : Int32)), .val (.int ch)] [(.ref b1135)]
  refine W.dup 9 d_method_6_8 rfl rfl ?_
  refine W.iconst 10 d_method_6_9 rfl (0 : Int32) rfl ?_
  refine W.bipush 12 d_method_6_10 rfl (101 : Int32) rfl ?_
  refine W.castore 13 d_method_6_12 rfl A1135 0 (by decide) (by decide) (Nat.le_of_ble_eq_true rfl) (101 : Int32) rfl ge1135 ?_
  intro h1138 W1138 K1138 A1138
  have kc1139 := Keep.trans (ws := []) kc1137 K1138 (allS (Or.inr sz1136) all0)
  have A1138 : Ary _ _ b1135 .char [(.int (101 : Int32)), (.int (0 : Int32)), (.int (0 : Int32)), (.int (0 : Int32)), (.int (0 : Int32)), (.int (0 : Int32)), (.int (0 : Int32)), (.int (0 : Int32)), (.int (0 : Int32))] := A1138
  refine W.dup 14 d_method_6_13 rfl rfl ?_
  refine W.iconst 15 d_method_6_14 rfl (1 : Int32) rfl ?_
  refine W.bipush 17 d_method_6_15 rfl (100 : Int32) rfl ?_
  refine W.castore 18 d_method_6_17 rfl A1138 1 (by decide) (by decide) (Nat.le_of_ble_eq_true rfl) (100 : Int32) rfl ge1135 ?_
  intro h1140 W1140 K1140 A1140
  have kc1141 := Keep.trans (ws := []) kc1139 K1140 (allS (Or.inr sz1136) all0)
  have A1140 : Ary _ _ b1135 .char [(.int (101 : Int32)), (.int (100 : Int32)), (.int (0 : Int32)), (.int (0 : Int32)), (.int (0 : Int32)), (.int (0 : Int32)), (.int (0 : Int32)), (.int (0 : Int32)), (.int (0 : Int32))] := A1140
  refine W.dup 19 d_method_6_18 rfl rfl ?_
  refine W.iconst 20 d_method_6_19 rfl (2 : Int32) rfl ?_
  refine W.bipush 22 d_method_6_20 rfl (103 : Int32) rfl ?_
  refine W.castore 23 d_method_6_22 rfl A1140 2 (by decide) (by decide) (Nat.le_of_ble_eq_true rfl) (103 : Int32) rfl ge1135 ?_
  intro h1142 W1142 K1142 A1142
  have kc1143 := Keep.trans (ws := []) kc1141 K1142 (allS (Or.inr sz1136) all0)
  have A1142 : Ary _ _ b1135 .char [(.int (101 : Int32)), (.int (100 : Int32)), (.int (103 : Int32)), (.int (0 : Int32)), (.int (0 : Int32)), (.int (0 : Int32)), (.int (0 : Int32)), (.int (0 : Int32)), (.int (0 : Int32))] := A1142
  refine W.dup 24 d_method_6_23 rfl rfl ?_
  refine W.iconst 25 d_method_6_24 rfl (3 : Int32) rfl ?_
  refine W.bipush 27 d_method_6_25 rfl (101 : Int32) rfl ?_
  refine W.castore 28 d_method_6_27 rfl A1142 3 (by decide) (by decide) (Nat.le_of_ble_eq_true rfl) (101 : Int32) rfl ge1135 ?_
  intro h1144 W1144 K1144 A1144
  have kc1145 := Keep.trans (ws := []) kc1143 K1144 (allS (Or.inr sz1136) all0)
  have A1144 : Ary _ _ b1135 .char [(.int (101 : Int32)), (.int (100 : Int32)), (.int (103 : Int32)), (.int (101 : Int32)), (.int (0 : Int32)), (.int (0 : Int32)), (.int (0 : Int32)), (.int (0 : Int32)), (.int (0 : Int32))] := A1144
  refine W.dup 29 d_method_6_28 rfl rfl ?_
  refine W.iconst 30 d_method_6_29 rfl (4 : Int32) rfl ?_
  refine W.bipush 32 d_method_6_30 rfl (108 : Int32) rfl ?_
  refine W.castore 33 d_method_6_32 rfl A1144 4 (by decide) (by decide) (Nat.le_of_ble_eq_true rfl) (108 : Int32) rfl ge1135 ?_
  intro h1146 W1146 K1146 A1146
  have kc1147 := Keep.trans (ws := []) kc1145 K1146 (allS (Or.inr sz1136) all0)
  have A1146 : Ary _ _ b1135 .char [(.int (101 : Int32)), (.int (100 : Int32)), (.int (103 : Int32)), (.int (101 : Int32)), (.int (108 : Int32)), (.int (0 : Int32)), (.int (0 : Int32)), (.int (0 : Int32)), (.int (0 : Int32))] := A1146
  refine W.dup 34 d_method_6_33 rfl rfl ?_
  refine W.iconst 35 d_method_6_34 rfl (5 : Int32) rfl ?_
  refine W.bipush 37 d_method_6_35 rfl (105 : Int32) rfl ?_
  refine W.castore 38 d_method_6_37 rfl A1146 5 (by decide) (by decide) (Nat.le_of_ble_eq_true rfl) (105 : Int32) rfl ge1135 ?_
  intro h1148 W1148 K1148 A1148
  have kc1149 := Keep.trans (ws := []) kc1147 K1148 (allS (Or.inr sz1136) all0)
  have A1148 : Ary _ _ b1135 .char [(.int (101 : Int32)), (.int (100 : Int32)), (.int (103 : Int32)), (.int (101 : Int32)), (.int (108 : Int32)), (.int (105 : Int32)), (.int (0 : Int32)), (.int (0 : Int32)), (.int (0 : Int32))] := A1148
  refine W.dup 39 d_method_6_38 rfl rfl ?_
  refine W.bipush 41 d_method_6_39 rfl (6 : Int32) rfl ?_
  refine W.bipush 43 d_method_6_41 rfl (115 : Int32) rfl ?_
  refine W.castore 44 d_method_6_43 rfl A1148 6 (by decide) (by decide) (Nat.le_of_ble_eq_true rfl) (115 : Int32) rfl ge1135 ?_
  intro h1150 W1150 K1150 A1150
  have kc1151 := Keep.trans (ws := []) kc1149 K1150 (allS (Or.inr sz1136) all0)
  have A1150 : Ary _ _ b1135 .char [(.int (101 : Int32)), (.int (100 : Int32)), (.int (103 : Int32)), (.int (101 : Int32)), (.int (108 : Int32)), (.int (105 : Int32)), (.int (115 : Int32)), (.int (0 : Int32)), (.int (0 : Int32))] := A1150
  refine W.dup 45 d_method_6_44 rfl rfl ?_
  refine W.bipush 47 d_method_6_45 rfl (7 : Int32) rfl ?_
  refine W.bipush 49 d_method_6_47 rfl (116 : Int32) rfl ?_
  refine W.castore 50 d_method_6_49 rfl A1150 7 (by decide) (by decide) (Nat.le_of_ble_eq_true rfl) (116 : Int32) rfl ge1135 ?_
  intro h1152 W1152 K1152 A1152
  have kc1153 := Keep.trans (ws := []) kc1151 K1152 (allS (Or.inr sz1136) all0)
  have A1152 : Ary _ _ b1135 .char [(.int (101 : Int32)), (.int (100 : Int32)), (.int (103 : Int32)), (.int (101 : Int32)), (.int (108 : Int32)), (.int (105 : Int32)), (.int (115 : Int32)), (.int (116 : Int32)), (.int (0 : Int32))] := A1152
  refine W.dup 51 d_method_6_50 rfl rfl ?_
  refine W.bipush 53 d_method_6_51 rfl (8 : Int32) rfl ?_
  refine W.iloadN 54 d_method_6_53 rfl rfl ?_
  refine W.castore 55 d_method_6_54 rfl A1152 8 (by decide) (by decide) (Nat.le_of_ble_eq_true rfl) ch (ch_nar Hch) ge1135 ?_
  intro h1154 W1154 K1154 A1154
  have kc1155 := Keep.trans (ws := []) kc1153 K1154 (allS (Or.inr sz1136) all0)
  have A1154 : Ary _ _ b1135 .char [(.int (101 : Int32)), (.int (100 : Int32)), (.int (103 : Int32)), (.int (101 : Int32)), (.int (108 : Int32)), (.int (105 : Int32)), (.int (115 : Int32)), (.int (116 : Int32)), (.int ch)] := A1154
  exact W.areturn d_method_6_55 rfl rfl rfl rfl ⟨_, rfl, sz1136, ge1135, kc1155, A1154⟩ (by decide) (by decide)
theorem c_ext1 (l : Launch) (Z : State) (a0 : Array Value) (hw : HwT Z a0) (ch : Int32) (h : Heap) (n0 : Nat) (hn : n0 ≤ h.size) (Hch : ChOk ch) : Con l Z (⟨"com/example/eccentra/eccentra/GraphFormatNamedPinLaw", "ext", "(IC)[C"⟩ : MethodName) method_6_code 2 (some (.array .char)) ({ frames := 0, cells := 1, slots := 9, locals := 0 } : Room) #[(.int (1 : Int32)), (.int ch)] h n0 (fun v h' => ∃ d, v = some (.ref d) ∧ h.size ≤ d ∧ n0 ≤ d ∧ Keep h h' [] ∧ Ary Z h' d .char [(.int (97 : Int32)), (.int (100 : Int32)), (.int (106 : Int32)), (.int (108 : Int32)), (.int (105 : Int32)), (.int (115 : Int32)), (.int (116 : Int32)), (.int ch)]) := by
  refine ConG.of_W (Ls := #[.val (.int (1 : Int32)), .val (.int ch)]) (plainFor_of_name pn_3) hn (fun m => by first | (simp [entryFrame, mkF, argsToLocals, Value.category]; done) | rfl) ?_
  refine W.iloadN 1 d_method_6_0 rfl rfl ?_
  refine W.if_ne 56 4 d_method_6_1 rfl rfl (fun _ => ?_) (fun hc => absurd hc (by decide))
  refine W.iloadN 57 d_method_6_56 rfl rfl ?_
  refine W.iconst 58 d_method_6_57 rfl (1 : Int32) rfl ?_
  refine W.icmp_ne 107 61 d_method_6_58 rfl rfl (fun hc => absurd (by decide) hc) (fun _ => ?_)
  refine W.bipush 63 d_method_6_61 rfl (8 : Int32) rfl ?_
  refine W.newarray 65 d_method_6_63 rfl (wd_8 hw) rfl (by decide) 8 8 (by decide) (by decide) (by decide) (by decide) (by decide) rfl ?_
  intro h1156 b1156 g1156 ge1156 X1156 K1156 A1156
  have sz1157 := Nat.le_trans (Keep.refl _ []).1 (Nat.le_of_eq g1156.symm)
  have kc1158 := Keep.trans (ws := []) (Keep.refl _ []) K1156 all0
  have A1156 : Ary _ _ b1156 .char [(.int (0 : Int32)), (.int (0 : Int32)), (.int (0 : Int32)), (.int (0 : Int32)), (.int (0 : Int32)), (.int (0 : Int32)), (.int (0 : Int32)), (.int (0 : Int32))] := A1156
  show WG _ _ _ _ _ _ _ _ _ _ _ _ 1 8 65 #[.val (.int (1 : Int32)), .val (.int ch)] [(.ref b1156)]
  refine W.dup 66 d_method_6_65 rfl rfl ?_
  refine W.iconst 67 d_method_6_66 rfl (0 : Int32) rfl ?_
  refine W.bipush 69 d_method_6_67 rfl (97 : Int32) rfl ?_
  refine W.castore 70 d_method_6_69 rfl A1156 0 (by decide) (by decide) (Nat.le_of_ble_eq_true rfl) (97 : Int32) rfl ge1156 ?_
  intro h1159 W1159 K1159 A1159
  have kc1160 := Keep.trans (ws := []) kc1158 K1159 (allS (Or.inr sz1157) all0)
  have A1159 : Ary _ _ b1156 .char [(.int (97 : Int32)), (.int (0 : Int32)), (.int (0 : Int32)), (.int (0 : Int32)), (.int (0 : Int32)), (.int (0 : Int32)), (.int (0 : Int32)), (.int (0 : Int32))] := A1159
  refine W.dup 71 d_method_6_70 rfl rfl ?_
  refine W.iconst 72 d_method_6_71 rfl (1 : Int32) rfl ?_
  refine W.bipush 74 d_method_6_72 rfl (100 : Int32) rfl ?_
  refine W.castore 75 d_method_6_74 rfl A1159 1 (by decide) (by decide) (Nat.le_of_ble_eq_true rfl) (100 : Int32) rfl ge1156 ?_
  intro h1161 W1161 K1161 A1161
  have kc1162 := Keep.trans (ws := []) kc1160 K1161 (allS (Or.inr sz1157) all0)
  have A1161 : Ary _ _ b1156 .char [(.int (97 : Int32)), (.int (100 : Int32)), (.int (0 : Int32)), (.int (0 : Int32)), (.int (0 : Int32)), (.int (0 : Int32)), (.int (0 : Int32)), (.int (0 : Int32))] := A1161
  refine W.dup 76 d_method_6_75 rfl rfl ?_
  refine W.iconst 77 d_method_6_76 rfl (2 : Int32) rfl ?_
  refine W.bipush 79 d_method_6_77 rfl (106 : Int32) rfl ?_
  refine W.castore 80 d_method_6_79 rfl A1161 2 (by decide) (by decide) (Nat.le_of_ble_eq_true rfl) (106 : Int32) rfl ge1156 ?_
  intro h1163 W1163 K1163 A1163
  have kc1164 := Keep.trans (ws := []) kc1162 K1163 (allS (Or.inr sz1157) all0)
  have A1163 : Ary _ _ b1156 .char [(.int (97 : Int32)), (.int (100 : Int32)), (.int (106 : Int32)), (.int (0 : Int32)), (.int (0 : Int32)), (.int (0 : Int32)), (.int (0 : Int32)), (.int (0 : Int32))] := A1163
  refine W.dup 81 d_method_6_80 rfl rfl ?_
  refine W.iconst 82 d_method_6_81 rfl (3 : Int32) rfl ?_
  refine W.bipush 84 d_method_6_82 rfl (108 : Int32) rfl ?_
  refine W.castore 85 d_method_6_84 rfl A1163 3 (by decide) (by decide) (Nat.le_of_ble_eq_true rfl) (108 : Int32) rfl ge1156 ?_
  intro h1165 W1165 K1165 A1165
  have kc1166 := Keep.trans (ws := []) kc1164 K1165 (allS (Or.inr sz1157) all0)
  have A1165 : Ary _ _ b1156 .char [(.int (97 : Int32)), (.int (100 : Int32)), (.int (106 : Int32)), (.int (108 : Int32)), (.int (0 : Int32)), (.int (0 : Int32)), (.int (0 : Int32)), (.int (0 : Int32))] := A1165
  refine W.dup 86 d_method_6_85 rfl rfl ?_
  refine W.iconst 87 d_method_6_86 rfl (4 : Int32) rfl ?_
  refine W.bipush 89 d_method_6_87 rfl (105 : Int32) rfl ?_
  refine W.castore 90 d_method_6_89 rfl A1165 4 (by decide) (by decide) (Nat.le_of_ble_eq_true rfl) (105 : Int32) rfl ge1156 ?_
  intro h1167 W1167 K1167 A1167
  have kc1168 := Keep.trans (ws := []) kc1166 K1167 (allS (Or.inr sz1157) all0)
  have A1167 : Ary _ _ b1156 .char [(.int (97 : Int32)), (.int (100 : Int32)), (.int (106 : Int32)), (.int (108 : Int32)), (.int (105 : Int32)), (.int (0 : Int32)), (.int (0 : Int32)), (.int (0 : Int32))] := A1167
  refine W.dup 91 d_method_6_90 rfl rfl ?_
  refine W.iconst 92 d_method_6_91 rfl (5 : Int32) rfl ?_
  refine W.bipush 94 d_method_6_92 rfl (115 : Int32) rfl ?_
  refine W.castore 95 d_method_6_94 rfl A1167 5 (by decide) (by decide) (Nat.le_of_ble_eq_true rfl) (115 : Int32) rfl ge1156 ?_
  intro h1169 W1169 K1169 A1169
  have kc1170 := Keep.trans (ws := []) kc1168 K1169 (allS (Or.inr sz1157) all0)
  have A1169 : Ary _ _ b1156 .char [(.int (97 : Int32)), (.int (100 : Int32)), (.int (106 : Int32)), (.int (108 : Int32)), (.int (105 : Int32)), (.int (115 : Int32)), (.int (0 : Int32)), (.int (0 : Int32))] := A1169
  refine W.dup 96 d_method_6_95 rfl rfl ?_
  refine W.bipush 98 d_method_6_96 rfl (6 : Int32) rfl ?_
  refine W.bipush 100 d_method_6_98 rfl (116 : Int32) rfl ?_
  refine W.castore 101 d_method_6_100 rfl A1169 6 (by decide) (by decide) (Nat.le_of_ble_eq_true rfl) (116 : Int32) rfl ge1156 ?_
  intro h1171 W1171 K1171 A1171
  have kc1172 := Keep.trans (ws := []) kc1170 K1171 (allS (Or.inr sz1157) all0)
  have A1171 : Ary _ _ b1156 .char [(.int (97 : Int32)), (.int (100 : Int32)), (.int (106 : Int32)), (.int (108 : Int32)), (.int (105 : Int32)), (.int (115 : Int32)), (.int (116 : Int32)), (.int (0 : Int32))] := A1171
  refine W.dup 102 d_method_6_101 rfl rfl ?_
  refine W.bipush 104 d_method_6_102 rfl (7 : Int32) rfl ?_
  refine W.iloadN 105 d_method_6_104 rfl rfl ?_
  refine W.castore 106 d_method_6_105 rfl A1171 7 (by decide) (by decide) (Nat.le_of_ble_eq_true rfl) ch (ch_nar Hch) ge1156 ?_
  intro h1173 W1173 K1173 A1173
  have kc1174 := Keep.trans (ws := []) kc1172 K1173 (allS (Or.inr sz1157) all0)
  have A1173 : Ary _ _ b1156 .char [(.int (97 : Int32)), (.int (100 : Int32)), (.int (106 : Int32)), (.int (108 : Int32)), (.int (105 : Int32)), (.int (115 : Int32)), (.int (116 : Int32)), (.int ch)] := A1173
  exact W.areturn d_method_6_106 rfl rfl rfl rfl ⟨_, rfl, sz1157, ge1156, kc1174, A1173⟩ (by decide) (by decide)
theorem c_ext2 (l : Launch) (Z : State) (a0 : Array Value) (hw : HwT Z a0) (ch : Int32) (h : Heap) (n0 : Nat) (hn : n0 ≤ h.size) (Hch : ChOk ch) : Con l Z (⟨"com/example/eccentra/eccentra/GraphFormatNamedPinLaw", "ext", "(IC)[C"⟩ : MethodName) method_6_code 2 (some (.array .char)) ({ frames := 0, cells := 1, slots := 9, locals := 0 } : Room) #[(.int (2 : Int32)), (.int ch)] h n0 (fun v h' => ∃ d, v = some (.ref d) ∧ h.size ≤ d ∧ n0 ≤ d ∧ Keep h h' [] ∧ Ary Z h' d .char [(.int (109 : Int32)), (.int (116 : Int32)), (.int (120 : Int32)), (.int ch)]) := by
  refine ConG.of_W (Ls := #[.val (.int (2 : Int32)), .val (.int ch)]) (plainFor_of_name pn_3) hn (fun m => by first | (simp [entryFrame, mkF, argsToLocals, Value.category]; done) | rfl) ?_
  refine W.iloadN 1 d_method_6_0 rfl rfl ?_
  refine W.if_ne 56 4 d_method_6_1 rfl rfl (fun _ => ?_) (fun hc => absurd hc (by decide))
  refine W.iloadN 57 d_method_6_56 rfl rfl ?_
  refine W.iconst 58 d_method_6_57 rfl (1 : Int32) rfl ?_
  refine W.icmp_ne 107 61 d_method_6_58 rfl rfl (fun _ => ?_) (fun hc => absurd hc (by decide))
  refine W.iconst 108 d_method_6_107 rfl (4 : Int32) rfl ?_
  refine W.newarray 110 d_method_6_108 rfl (wd_8 hw) rfl (by decide) 4 4 (by decide) (by decide) (by decide) (by decide) (by decide) rfl ?_
  intro h1175 b1175 g1175 ge1175 X1175 K1175 A1175
  have sz1176 := Nat.le_trans (Keep.refl _ []).1 (Nat.le_of_eq g1175.symm)
  have kc1177 := Keep.trans (ws := []) (Keep.refl _ []) K1175 all0
  have A1175 : Ary _ _ b1175 .char [(.int (0 : Int32)), (.int (0 : Int32)), (.int (0 : Int32)), (.int (0 : Int32))] := A1175
  show WG _ _ _ _ _ _ _ _ _ _ _ _ 1 4 110 #[.val (.int (2 : Int32)), .val (.int ch)] [(.ref b1175)]
  refine W.dup 111 d_method_6_110 rfl rfl ?_
  refine W.iconst 112 d_method_6_111 rfl (0 : Int32) rfl ?_
  refine W.bipush 114 d_method_6_112 rfl (109 : Int32) rfl ?_
  refine W.castore 115 d_method_6_114 rfl A1175 0 (by decide) (by decide) (Nat.le_of_ble_eq_true rfl) (109 : Int32) rfl ge1175 ?_
  intro h1178 W1178 K1178 A1178
  have kc1179 := Keep.trans (ws := []) kc1177 K1178 (allS (Or.inr sz1176) all0)
  have A1178 : Ary _ _ b1175 .char [(.int (109 : Int32)), (.int (0 : Int32)), (.int (0 : Int32)), (.int (0 : Int32))] := A1178
  refine W.dup 116 d_method_6_115 rfl rfl ?_
  refine W.iconst 117 d_method_6_116 rfl (1 : Int32) rfl ?_
  refine W.bipush 119 d_method_6_117 rfl (116 : Int32) rfl ?_
  refine W.castore 120 d_method_6_119 rfl A1178 1 (by decide) (by decide) (Nat.le_of_ble_eq_true rfl) (116 : Int32) rfl ge1175 ?_
  intro h1180 W1180 K1180 A1180
  have kc1181 := Keep.trans (ws := []) kc1179 K1180 (allS (Or.inr sz1176) all0)
  have A1180 : Ary _ _ b1175 .char [(.int (109 : Int32)), (.int (116 : Int32)), (.int (0 : Int32)), (.int (0 : Int32))] := A1180
  refine W.dup 121 d_method_6_120 rfl rfl ?_
  refine W.iconst 122 d_method_6_121 rfl (2 : Int32) rfl ?_
  refine W.bipush 124 d_method_6_122 rfl (120 : Int32) rfl ?_
  refine W.castore 125 d_method_6_124 rfl A1180 2 (by decide) (by decide) (Nat.le_of_ble_eq_true rfl) (120 : Int32) rfl ge1175 ?_
  intro h1182 W1182 K1182 A1182
  have kc1183 := Keep.trans (ws := []) kc1181 K1182 (allS (Or.inr sz1176) all0)
  have A1182 : Ary _ _ b1175 .char [(.int (109 : Int32)), (.int (116 : Int32)), (.int (120 : Int32)), (.int (0 : Int32))] := A1182
  refine W.dup 126 d_method_6_125 rfl rfl ?_
  refine W.iconst 127 d_method_6_126 rfl (3 : Int32) rfl ?_
  refine W.iloadN 128 d_method_6_127 rfl rfl ?_
  refine W.castore 129 d_method_6_128 rfl A1182 3 (by decide) (by decide) (Nat.le_of_ble_eq_true rfl) ch (ch_nar Hch) ge1175 ?_
  intro h1184 W1184 K1184 A1184
  have kc1185 := Keep.trans (ws := []) kc1183 K1184 (allS (Or.inr sz1176) all0)
  have A1184 : Ary _ _ b1175 .char [(.int (109 : Int32)), (.int (116 : Int32)), (.int (120 : Int32)), (.int ch)] := A1184
  exact W.areturn d_method_6_129 rfl rfl rfl rfl ⟨_, rfl, sz1176, ge1175, kc1185, A1184⟩ (by decide) (by decide)
theorem c_ce (l : Launch) (Z : State) (a0 : Array Value) (hw : HwT Z a0) (ch : Int32) (h : Heap) (n0 : Nat) (hn : n0 ≤ h.size) (Hch : ChOk ch) : Con l Z (⟨"java/lang/StringLatin1", "canEncode", "(C)Z"⟩ : MethodName) jdk_43_method_3_code 1 (some .boolean) ({ frames := 0, cells := 0, slots := 0, locals := 0 } : Room) #[(.int ch)] h n0 (fun v h' => v = some (.int 1) ∧ h' = h) := by
  refine ConG.of_W (Ls := #[.val (.int ch)]) (plainFor_of_name pn_0) hn (fun m => by first | (simp [entryFrame, mkF, argsToLocals, Value.category]; done) | rfl) ?_
  refine W.iloadN 1 d_jdk_43_method_3_0 rfl rfl ?_
  refine W.sipush 4 d_jdk_43_method_3_1 rfl (255 : Int32) rfl ?_
  refine W.icmp_gt 11 7 d_jdk_43_method_3_4 rfl rfl (fun hc => absurd hc (ch_le Hch)) (fun _ => ?_)
  refine W.iconst 8 d_jdk_43_method_3_7 rfl (1 : Int32) rfl ?_
  refine W.goto 12 d_jdk_43_method_3_8 rfl ?_
  exact W.ireturnN (t := .boolean) d_jdk_43_method_3_12 rfl (by simp) (1 : Int32) rfl ⟨rfl, rfl⟩ (by decide) (by decide)
theorem c_tb (l : Launch) (Z : State) (a0 : Array Value) (hw : HwT Z a0) (ch : Int32) (h : Heap) (n0 : Nat) (hn : n0 ≤ h.size) : Con l Z (⟨"java/lang/StringLatin1", "toBytes", "(C)[B"⟩ : MethodName) jdk_43_method_46_code 1 (some (.array .byte)) ({ frames := 0, cells := 1, slots := 1, locals := 0 } : Room) #[(.int ch)] h n0 (fun v h' => ∃ d, v = some (.ref d) ∧ h.size ≤ d ∧ n0 ≤ d ∧ Keep h h' [] ∧ Ary Z h' d .byte [(.int (ch.toInt8.toInt32))]) := by
  refine ConG.of_W (Ls := #[.val (.int ch)]) (plainFor_of_name pn_0) hn (fun m => by first | (simp [entryFrame, mkF, argsToLocals, Value.category]; done) | rfl) ?_
  refine W.iconst 1 d_jdk_43_method_46_0 rfl (1 : Int32) rfl ?_
  refine W.newarray 3 d_jdk_43_method_46_1 rfl (wd_24 hw) rfl (by decide) 1 1 (by decide) (by decide) (by decide) (by decide) (by decide) rfl ?_
  intro h1186 b1186 g1186 ge1186 X1186 K1186 A1186
  have sz1187 := Nat.le_trans (Keep.refl _ []).1 (Nat.le_of_eq g1186.symm)
  have kc1188 := Keep.trans (ws := []) (Keep.refl _ []) K1186 all0
  have A1186 : Ary _ _ b1186 .byte [(.int (0 : Int32))] := A1186
  show WG _ _ _ _ _ _ _ _ _ _ _ _ 1 1 3 #[.val (.int ch)] [(.ref b1186)]
  refine W.dup 4 d_jdk_43_method_46_3 rfl rfl ?_
  refine W.iconst 5 d_jdk_43_method_46_4 rfl (0 : Int32) rfl ?_
  refine W.iloadN 6 d_jdk_43_method_46_5 rfl rfl ?_
  refine W.i2b 7 d_jdk_43_method_46_6 rfl (ch.toInt8.toInt32) rfl ?_
  refine W.bastore 8 d_jdk_43_method_46_7 rfl A1186 0 (by decide) (by decide) (Nat.le_of_ble_eq_true rfl) (ch.toInt8.toInt32) (nar_b ch) ge1186 ?_
  intro h1189 W1189 K1189 A1189
  have kc1190 := Keep.trans (ws := []) kc1188 K1189 (allS (Or.inr sz1187) all0)
  have A1189 : Ary _ _ b1186 .byte [(.int (ch.toInt8.toInt32))] := A1189
  exact W.areturn d_jdk_43_method_46_8 rfl rfl rfl rfl ⟨_, rfl, sz1187, ge1186, kc1190, A1189⟩ (by decide) (by decide)
theorem c_ib (l : Launch) (Z : State) (a0 : Array Value) (hw : HwT Z a0) (a b : Addr) (h : Heap) (n0 : Nat) (hn : n0 ≤ h.size) (ga : n0 ≤ a) (E : Exa Z h a "java/lang/String") (C : Fld Z h a "java/lang/String" "coder" "B" (.int 0)) (V : Fld Z h a "java/lang/String" "value" "[B" .null) : Con l Z (⟨"java/lang/String", "<init>", "([BB)V"⟩ : MethodName) jdk_42_method_151_code 3 none ({ frames := 1, cells := 0, slots := 0, locals := 14 } : Room) #[(.ref a), (.ref b), (.int (0 : Int32))] h n0 (fun v h' => v = none ∧ Keep h h' [a] ∧ Fld Z h' a "java/lang/String" "coder" "B" (.int 0) ∧ Fld Z h' a "java/lang/String" "value" "[B" (.ref b)) := by
  refine ConG.of_W (Ls := #[.val (.ref a), .val (.ref b), .val (.int (0 : Int32))]) (plainFor_of_name pn_1) hn (fun m => by first | (simp [entryFrame, mkF, argsToLocals, Value.category]; done) | rfl) ?_
  refine W.aloadN 1 d_jdk_42_method_151_0 rfl rfl rfl ?_
  refine W.initObj 4 d_jdk_42_method_151_1 rfl (wd_16 hw) (wd_17 hw) (wd_18 hw) rfl (by decide) 0 (Nat.le_of_ble_eq_true rfl) (by decide) ?_
  refine W.aloadN 5 d_jdk_42_method_151_4 rfl rfl rfl ?_
  refine W.aloadN 6 d_jdk_42_method_151_5 rfl rfl rfl ?_
  refine W.putfield 9 d_jdk_42_method_151_6 rfl (host := "") (Or.inl (wd_33 hw)) Via.refl V E (Or.inr ⟨(wd_34 hw), rfl, rfl⟩) (wd_2 hw) (ty := (.array .byte)) (by decide) rfl rfl ga ?_
  intro h1191 W1191 F1191 E1191 K1191
  have kc1192 := Keep.trans (ws := [a]) (Keep.refl _ [a]) K1191 (allS (Or.inl (List.mem_of_getElem? (i := 0) rfl)) all0)
  refine W.aloadN 10 d_jdk_42_method_151_9 rfl rfl rfl ?_
  refine W.iloadN 11 d_jdk_42_method_151_10 rfl rfl ?_
  have q1193 := (C.other W1191 (Or.inr (sne_1 hw)))
  refine W.putfieldN 14 d_jdk_42_method_151_11 rfl (wd_31 hw) Via.refl q1193 E1191 (Or.inr ⟨(wd_32 hw), rfl, rfl⟩) (wd_2 hw) (ty := .byte) (by decide) (.int (0 : Int32)) rfl rfl ga ?_
  intro h1194 W1194 F1194 E1194 K1194
  have kc1195 := Keep.trans (ws := [a]) kc1192 K1194 (allS (Or.inl (List.mem_of_getElem? (i := 0) rfl)) all0)
  have q1196 := (F1191.other W1194 (Or.inr (sne_0 hw)))
  exact W.return_ d_jdk_42_method_151_14 rfl ⟨rfl, kc1195, F1194, q1196⟩ (by decide) (by decide)
theorem c_vo (l : Launch) (Z : State) (a0 : Array Value) (hw : HwT Z a0) (ch : Int32) (kc : Int32) (hkc : ¬ kc = 0) (h : Heap) (n0 : Nat) (hn : n0 ≤ h.size) (Hch : ChOk ch) (FS : Sta Z h "java/lang/String" "COMPACT_STRINGS" "Z" (.int kc)) : Con l Z (⟨"java/lang/String", "valueOf", "(C)Ljava/lang/String;"⟩ : MethodName) jdk_42_method_139_code 1 (some (.object "java/lang/String")) ({ frames := 2, cells := 2, slots := 5, locals := 48 } : Room) #[(.int ch)] h n0 (fun v h' => ∃ r b, v = some (.ref r) ∧ Keep h h' [] ∧ Exa Z h' r "java/lang/String" ∧ Fld Z h' r "java/lang/String" "coder" "B" (.int 0) ∧ Fld Z h' r "java/lang/String" "value" "[B" (.ref b) ∧ Ary Z h' b .byte [(.int (ch.toInt8.toInt32))]) := by
  refine ConG.of_W (Ls := #[.val (.int ch)]) (plainFor_of_name pn_1) hn (fun m => by first | (simp [entryFrame, mkF, argsToLocals, Value.category]; done) | rfl) ?_
  refine W.getstatic 3 d_jdk_42_method_139_0 rfl (host := "") (Or.inl (wd_19 hw)) Via.refl (Sta.keep0 (Keep.refl _ []) FS) ?_
  refine W.if_eq 26 6 d_jdk_42_method_139_3 rfl rfl (fun hc => absurd hc hkc) (fun _ => ?_)
  refine W.iloadN 7 d_jdk_42_method_139_6 rfl rfl ?_
  refine W.callS (rest := []) (argsL := [(.int ch)]) 10 d_jdk_42_method_139_7 rfl (fun hn => c_ce l Z a0 hw ch _ n0 hn Hch) (wd_91 hw) (wd_92 hw) (wd_67 hw) (wd_93 hw) (by decide) pd_5 rfl rfl rfl (by decide) 0 (Nat.le_of_ble_eq_true rfl) (by decide) (by decide) (by decide) ?_
  rintro v1197 h1197 ⟨rfl, rfl⟩
  show WG _ _ _ _ _ _ _ _ _ _ _ _ 0 0 10 #[.val (.int ch)] [(.int (1 : Int32))]
  refine W.if_eq 26 13 d_jdk_42_method_139_10 rfl rfl (fun hc => absurd hc (by decide)) (fun _ => ?_)
  refine W.new 16 d_jdk_42_method_139_13 rfl (wd_64 hw) (wd_2 hw) (wd_3 hw) (by decide) (by decide) ?_
  intro h1198 o1198 g1198 ge1198 X1198 K1198 E1198 D1198
  have sz1199 := Nat.le_trans (Keep.refl _ []).1 (Nat.le_of_eq g1198.symm)
  have kc1200 := Keep.trans (ws := []) (Keep.refl _ []) K1198 all0
  have f1201 : Fld _ _ o1198 "java/lang/String" "coder" "B" (.int (0 : Int32)) := D1198 (Or.inr (wd_32 hw)) (ty := .byte) (by decide)
  have f1202 : Fld _ _ o1198 "java/lang/String" "value" "[B" .null := D1198 (Or.inr (wd_34 hw)) (ty := (.array .byte)) (by decide)
  show WG _ _ _ _ _ _ _ _ _ _ _ _ 1 4 16 #[.val (.int ch)] [(.ref o1198)]
  refine W.dup 17 d_jdk_42_method_139_16 rfl rfl ?_
  refine W.iloadN 18 d_jdk_42_method_139_17 rfl rfl ?_
  refine W.callS (rest := [(.ref o1198), (.ref o1198)]) (argsL := [(.int ch)]) 21 d_jdk_42_method_139_18 rfl (fun hn => c_tb l Z a0 hw ch _ n0 hn) (wd_94 hw) (wd_95 hw) (wd_67 hw) (wd_96 hw) (by decide) pd_6 rfl rfl rfl (by decide) 2 (Nat.le_of_ble_eq_true rfl) (by decide) (by decide) (by decide) ?_
  rintro v1203 h1203 ⟨d1203, rfl, sz1203, gd1203, K1203, A1203⟩
  have ne1204 : o1198 ≠ d1203 := Nat.ne_of_lt (Nat.lt_of_lt_of_le E1198.lt sz1203)
  have sz1205 := Nat.le_trans kc1200.1 sz1203
  have kc1206 := Keep.trans (ws := []) kc1200 K1203 all0
  show WG _ _ _ _ _ _ _ _ _ _ _ _ 2 5 21 #[.val (.int ch)] [(.ref d1203), (.ref o1198), (.ref o1198)]
  refine W.iconst 22 d_jdk_42_method_139_21 rfl (0 : Int32) rfl ?_
  have q1207 := (E1198.keep K1203)
  have q1208 := (f1201.keep K1203 nin0)
  have q1209 := (f1202.keep K1203 nin0)
  refine W.callInit (rest := [(.ref o1198)]) (argsL := [(.ref d1203), (.int (0 : Int32))]) (a := o1198) 25 d_jdk_42_method_139_22 rfl (fun hn => c_ib l Z a0 hw o1198 d1203 _ n0 hn ge1198 q1207 q1208 q1209) rfl (wd_97 hw) (wd_98 hw) (wd_3 hw) (wd_99 hw) (by decide) pd_7 rfl rfl rfl (by decide) 1 (Nat.le_of_ble_eq_true rfl) (by decide) (by decide) (by decide) ?_
  rintro v1210 h1210 ⟨rfl, K1210, C1210, V1210⟩
  have kc1211 := Keep.trans (ws := []) kc1206 K1210 (allS (Or.inr sz1199) all0)
  show WG _ _ _ _ _ _ _ _ _ _ _ _ 2 5 25 #[.val (.int ch)] [(.ref o1198)]
  have q1212 := (q1207.keep K1210)
  have q1213 := (A1203.keep K1210 (ninS (Ne.symm ne1204) nin0))
  exact W.areturn d_jdk_42_method_139_25 rfl rfl rfl rfl ⟨_, d1203, rfl, kc1211, q1212, C1210, V1210, q1213⟩ (by decide) (by decide)
theorem c_vals (l : Launch) (Z : State) (a0 : Array Value) (hw : HwT Z a0) (e0 e1 e2 vv : Addr) (h : Heap) (n0 : Nat) (hn : n0 ≤ h.size) (SV : Sta Z h "com/example/eccentra/eccentra/GraphFormat" "$VALUES" "[Lcom/example/eccentra/eccentra/GraphFormat;" (.ref vv)) (AV : Ary Z h vv (.object "com/example/eccentra/eccentra/GraphFormat") [.ref e0, .ref e1, .ref e2]) (EV : Exa Z h vv "[Lcom/example/eccentra/eccentra/GraphFormat;") : Con l Z (⟨"com/example/eccentra/eccentra/GraphFormat", "values", "()[Lcom/example/eccentra/eccentra/GraphFormat;"⟩ : MethodName) prog_10_method_1_code 0 (some (.array (.object "com/example/eccentra/eccentra/GraphFormat"))) ({ frames := 1, cells := 1, slots := 3, locals := 14 } : Room) #[] h n0 (fun v h' => ∃ b, v = some (.ref b) ∧ h.size ≤ b ∧ n0 ≤ b ∧ Keep h h' [] ∧ Ary Z h' b (.object "com/example/eccentra/eccentra/GraphFormat") [.ref e0, .ref e1, .ref e2]) := by
  refine ConG.of_W (Ls := #[]) (plainFor_of_name pn_4) hn (fun m => by first | (simp [entryFrame, mkF, argsToLocals, Value.category]; done) | rfl) ?_
  refine W.getstatic 3 d_prog_10_method_1_0 rfl (host := "") (Or.inl (wd_42 hw)) Via.refl (Sta.keep0 (Keep.refl _ []) SV) ?_
  refine W.cloneArr 6 d_prog_10_method_1_3 rfl (wd_44 hw) (wd_45 hw) (wd_49 hw) (wd_47 hw) (wd_48 hw) (wd_50 hw) AV EV rfl (by decide) 0 3 (Nat.le_of_ble_eq_true rfl) (by decide) (Nat.le_of_ble_eq_true rfl) (by decide) (by decide) ?_
  intro h1214 b1214 g1214 ge1214 X1214 K1214 A1214 E1214
  have ne1215 : vv ≠ b1214 := Nat.ne_of_lt (Nat.lt_of_lt_of_eq AV.lt g1214.symm)
  have sz1216 := Nat.le_trans (Keep.refl _ []).1 (Nat.le_of_eq g1214.symm)
  have kc1217 := Keep.trans (ws := []) (Keep.refl _ []) K1214 all0
  show WG _ _ _ _ _ _ _ _ _ _ _ _ 1 3 6 #[] [(.ref b1214)]
  refine W.checkcast 9 d_prog_10_method_1_6 rfl (wd_55 hw) (Ins.self E1214) ?_
  exact W.areturn d_prog_10_method_1_9 rfl rfl rfl rfl ⟨_, rfl, sz1216, ge1214, kc1217, A1214⟩ (by decide) (by decide)
theorem c_named (l : Launch) (Z : State) (a0 : Array Value) (hw : HwT Z a0) (s b : Addr) (kc : Int32) (hkc : ¬ kc = 0) (xs : List Int32) (e0 e1 e2 t0 t1 t2 u0 u1 u2 vv : Addr) (h : Heap) (n0 : Nat) (hn : n0 ≤ h.size) (FS : Sta Z h "java/lang/String" "COMPACT_STRINGS" "Z" (.int kc)) (SV : Sta Z h "com/example/eccentra/eccentra/GraphFormat" "$VALUES" "[Lcom/example/eccentra/eccentra/GraphFormat;" (.ref vv)) (S0 : Sta Z h "com/example/eccentra/eccentra/GraphFormat" "EDGELIST" "Lcom/example/eccentra/eccentra/GraphFormat;" (.ref e0)) (S1 : Sta Z h "com/example/eccentra/eccentra/GraphFormat" "ADJLIST" "Lcom/example/eccentra/eccentra/GraphFormat;" (.ref e1)) (S2 : Sta Z h "com/example/eccentra/eccentra/GraphFormat" "MTX" "Lcom/example/eccentra/eccentra/GraphFormat;" (.ref e2)) (AV : Ary Z h vv (.object "com/example/eccentra/eccentra/GraphFormat") [.ref e0, .ref e1, .ref e2]) (EV : Exa Z h vv "[Lcom/example/eccentra/eccentra/GraphFormat;") (O0 : Fld Z h e0 "com/example/eccentra/eccentra/GraphFormat" "optionValue" "Ljava/lang/String;" (.ref t0)) (Et0 : Exa Z h t0 "java/lang/String") (Ct0 : Fld Z h t0 "java/lang/String" "coder" "B" (.int 0)) (Vt0 : Fld Z h t0 "java/lang/String" "value" "[B" (.ref u0)) (At0 : Ary Z h u0 .byte [(.int (101 : Int32)), (.int (100 : Int32)), (.int (103 : Int32)), (.int (101 : Int32)), (.int (108 : Int32)), (.int (105 : Int32)), (.int (115 : Int32)), (.int (116 : Int32))]) (O1 : Fld Z h e1 "com/example/eccentra/eccentra/GraphFormat" "optionValue" "Ljava/lang/String;" (.ref t1)) (Et1 : Exa Z h t1 "java/lang/String") (Ct1 : Fld Z h t1 "java/lang/String" "coder" "B" (.int 0)) (Vt1 : Fld Z h t1 "java/lang/String" "value" "[B" (.ref u1)) (At1 : Ary Z h u1 .byte [(.int (97 : Int32)), (.int (100 : Int32)), (.int (106 : Int32)), (.int (108 : Int32)), (.int (105 : Int32)), (.int (115 : Int32)), (.int (116 : Int32))]) (O2 : Fld Z h e2 "com/example/eccentra/eccentra/GraphFormat" "optionValue" "Ljava/lang/String;" (.ref t2)) (Et2 : Exa Z h t2 "java/lang/String") (Ct2 : Fld Z h t2 "java/lang/String" "coder" "B" (.int 0)) (Vt2 : Fld Z h t2 "java/lang/String" "value" "[B" (.ref u2)) (At2 : Ary Z h u2 .byte [(.int (109 : Int32)), (.int (116 : Int32)), (.int (120 : Int32))]) (Ex : Exa Z h s "java/lang/String") (Cx : Fld Z h s "java/lang/String" "coder" "B" (.int 0)) (Vx : Fld Z h s "java/lang/String" "value" "[B" (.ref b)) (Ax : Ary Z h b .byte (iv xs)) : Con l Z (⟨"com/example/eccentra/eccentra/GraphFormat", "named", "(Ljava/lang/String;)Lcom/example/eccentra/eccentra/GraphFormat;"⟩ : MethodName) prog_10_method_4_code 5 (some (.object "com/example/eccentra/eccentra/GraphFormat")) ({ frames := 2, cells := 1, slots := 3, locals := 48 } : Room) #[(.ref s)] h n0 (fun v h' => (¬ sameW [(101 : Int32), (100 : Int32), (103 : Int32), (101 : Int32), (108 : Int32), (105 : Int32), (115 : Int32), (116 : Int32)] xs = 0 ∧ v = some (.ref e0) ∧ Keep h h' []) ∨ (sameW [(101 : Int32), (100 : Int32), (103 : Int32), (101 : Int32), (108 : Int32), (105 : Int32), (115 : Int32), (116 : Int32)] xs = 0 ∧ ¬ sameW [(97 : Int32), (100 : Int32), (106 : Int32), (108 : Int32), (105 : Int32), (115 : Int32), (116 : Int32)] xs = 0 ∧ v = some (.ref e1) ∧ Keep h h' []) ∨ (sameW [(101 : Int32), (100 : Int32), (103 : Int32), (101 : Int32), (108 : Int32), (105 : Int32), (115 : Int32), (116 : Int32)] xs = 0 ∧ sameW [(97 : Int32), (100 : Int32), (106 : Int32), (108 : Int32), (105 : Int32), (115 : Int32), (116 : Int32)] xs = 0 ∧ ¬ sameW [(109 : Int32), (116 : Int32), (120 : Int32)] xs = 0 ∧ v = some (.ref e2) ∧ Keep h h' []) ∨ (sameW [(101 : Int32), (100 : Int32), (103 : Int32), (101 : Int32), (108 : Int32), (105 : Int32), (115 : Int32), (116 : Int32)] xs = 0 ∧ sameW [(97 : Int32), (100 : Int32), (106 : Int32), (108 : Int32), (105 : Int32), (115 : Int32), (116 : Int32)] xs = 0 ∧ sameW [(109 : Int32), (116 : Int32), (120 : Int32)] xs = 0 ∧ v = some .null ∧ Keep h h' [])) := by
  refine ConG.of_W (Ls := #[.val (.ref s), .unset, .unset, .unset, .unset]) (plainFor_of_name pn_4) hn (fun m => by first | (simp [entryFrame, mkF, argsToLocals, Value.category]; done) | rfl) ?_
  refine W.callS (rest := []) (argsL := []) 3 d_prog_10_method_4_0 rfl (fun hn => c_vals l Z a0 hw e0 e1 e2 vv _ n0 hn (Sta.keep0 (Keep.refl _ []) SV) AV EV) (wd_39 hw) (wd_40 hw) (wd_37 hw) (wd_41 hw) (by decide) pd_8 rfl rfl rfl (by decide) 0 (Nat.le_of_ble_eq_true rfl) (by decide) (by decide) (by decide) ?_
  rintro v1218 h1218 ⟨b1218, rfl, sz1218, gb1218, K1218, A1218⟩
  have ne1219 : b ≠ b1218 := Nat.ne_of_lt (Nat.lt_of_lt_of_le Ax.lt sz1218)
  have ne1220 : e0 ≠ b1218 := Nat.ne_of_lt (Nat.lt_of_lt_of_le O0.lt sz1218)
  have ne1221 : e1 ≠ b1218 := Nat.ne_of_lt (Nat.lt_of_lt_of_le O1.lt sz1218)
  have ne1222 : e2 ≠ b1218 := Nat.ne_of_lt (Nat.lt_of_lt_of_le O2.lt sz1218)
  have ne1223 : s ≠ b1218 := Nat.ne_of_lt (Nat.lt_of_lt_of_le Ex.lt sz1218)
  have ne1224 : t0 ≠ b1218 := Nat.ne_of_lt (Nat.lt_of_lt_of_le Et0.lt sz1218)
  have ne1225 : t1 ≠ b1218 := Nat.ne_of_lt (Nat.lt_of_lt_of_le Et1.lt sz1218)
  have ne1226 : t2 ≠ b1218 := Nat.ne_of_lt (Nat.lt_of_lt_of_le Et2.lt sz1218)
  have ne1227 : u0 ≠ b1218 := Nat.ne_of_lt (Nat.lt_of_lt_of_le At0.lt sz1218)
  have ne1228 : u1 ≠ b1218 := Nat.ne_of_lt (Nat.lt_of_lt_of_le At1.lt sz1218)
  have ne1229 : u2 ≠ b1218 := Nat.ne_of_lt (Nat.lt_of_lt_of_le At2.lt sz1218)
  have ne1230 : vv ≠ b1218 := Nat.ne_of_lt (Nat.lt_of_lt_of_le AV.lt sz1218)
  have sz1231 := Nat.le_trans (Keep.refl _ []).1 sz1218
  have kc1232 := Keep.trans (ws := []) (Keep.refl _ []) K1218 all0
  show WG _ _ _ _ _ _ _ _ _ _ _ _ 1 3 3 #[.val (.ref s), .unset, .unset, .unset, .unset] [(.ref b1218)]
  refine W.astoreN 4 d_prog_10_method_4_3 rfl rfl #[.val (.ref s), .val (.ref b1218), .unset, .unset, .unset] rfl ?_
  refine W.aloadN 5 d_prog_10_method_4_4 rfl rfl rfl ?_
  refine W.arraylength 6 d_prog_10_method_4_5 rfl A1218 (3 : Int32) rfl ?_
  refine W.istoreN 7 d_prog_10_method_4_6 rfl #[.val (.ref s), .val (.ref b1218), .val (.int (3 : Int32)), .unset, .unset] rfl ?_
  refine W.iconst 8 d_prog_10_method_4_7 rfl (0 : Int32) rfl ?_
  refine W.istoreN 9 d_prog_10_method_4_8 rfl #[.val (.ref s), .val (.ref b1218), .val (.int (3 : Int32)), .val (.int (0 : Int32)), .unset] rfl ?_
  refine W.iloadN 10 d_prog_10_method_4_9 rfl rfl ?_
  refine W.iloadN 11 d_prog_10_method_4_10 rfl rfl ?_
  refine W.icmp_ge 40 14 d_prog_10_method_4_11 rfl rfl (fun hc => absurd (by decide) hc) (fun _ => ?_)
  refine W.aloadN 15 d_prog_10_method_4_14 rfl rfl rfl ?_
  refine W.iloadN 16 d_prog_10_method_4_15 rfl rfl ?_
  refine W.aaload 17 d_prog_10_method_4_16 rfl A1218 rfl 0 (by decide) (by decide) (.ref e0) rfl ?_
  refine W.astore 19 d_prog_10_method_4_17 rfl rfl #[.val (.ref s), .val (.ref b1218), .val (.int (3 : Int32)), .val (.int (0 : Int32)), .val (.ref e0)] rfl ?_
  refine W.aload 21 d_prog_10_method_4_19 rfl rfl rfl ?_
  have q1233 := (O0.keep K1218 nin0)
  refine W.getfield 24 d_prog_10_method_4_21 rfl (host := "") (Or.inl (wd_57 hw)) Via.refl q1233 ?_
  refine W.aloadN 25 d_prog_10_method_4_24 rfl rfl rfl ?_
  have q1234 := (Et0.keep K1218)
  have q1235 := (Ct0.keep K1218 nin0)
  have q1236 := (Vt0.keep K1218 nin0)
  have q1237 := (At0.keep K1218 nin0)
  have q1238 := (Ex.keep K1218)
  have q1239 := (Cx.keep K1218 nin0)
  have q1240 := (Vx.keep K1218 nin0)
  have q1241 := (Ax.keep K1218 nin0)
  refine W.callV (rest := []) (argsL := [(.ref s)]) (a := t0) 28 d_prog_10_method_4_25 rfl (fun hn => c_eqg l Z a0 hw t0 s u0 b kc hkc [(101 : Int32), (100 : Int32), (103 : Int32), (101 : Int32), (108 : Int32), (105 : Int32), (115 : Int32), (116 : Int32)] xs _ n0 hn (Sta.keep0 kc1232 FS) q1234 q1235 q1236 q1237 q1238 q1239 q1240 q1241) q1234 (wd_59 hw) (wd_60 hw) (wd_62 hw) rfl (wd_61 hw) (wd_3 hw) (wd_63 hw) (by decide) pd_9 rfl rfl rfl (by decide) 0 (Nat.le_of_ble_eq_true rfl) (by decide) (by decide) (by decide) ?_
  rintro v1242 h1242 ⟨rfl, rfl⟩
  show WG _ _ _ _ _ _ _ _ _ _ _ _ 1 3 28 #[.val (.ref s), .val (.ref b1218), .val (.int (3 : Int32)), .val (.int (0 : Int32)), .val (.ref e0)] [(.int (sameW [(101 : Int32), (100 : Int32), (103 : Int32), (101 : Int32), (108 : Int32), (105 : Int32), (115 : Int32), (116 : Int32)] xs))]
  refine W.if_eq 34 31 d_prog_10_method_4_28 rfl rfl ?_ ?_
  · intro hc1243
    refine W.iinc 37 d_prog_10_method_4_34 rfl rfl (1 : Int32) (by decide) #[.val (.ref s), .val (.ref b1218), .val (.int (3 : Int32)), .val (.int (1 : Int32)), .val (.ref e0)] rfl ?_
    refine W.goto 9 d_prog_10_method_4_37 rfl ?_
    refine W.iloadN 10 d_prog_10_method_4_9 rfl rfl ?_
    refine W.iloadN 11 d_prog_10_method_4_10 rfl rfl ?_
    refine W.icmp_ge 40 14 d_prog_10_method_4_11 rfl rfl (fun hc => absurd (by decide) hc) (fun _ => ?_)
    refine W.aloadN 15 d_prog_10_method_4_14 rfl rfl rfl ?_
    refine W.iloadN 16 d_prog_10_method_4_15 rfl rfl ?_
    refine W.aaload 17 d_prog_10_method_4_16 rfl A1218 rfl 1 (by decide) (by decide) (.ref e1) rfl ?_
    refine W.astore 19 d_prog_10_method_4_17 rfl rfl #[.val (.ref s), .val (.ref b1218), .val (.int (3 : Int32)), .val (.int (1 : Int32)), .val (.ref e1)] rfl ?_
    refine W.aload 21 d_prog_10_method_4_19 rfl rfl rfl ?_
    have q1244 := (O1.keep K1218 nin0)
    refine W.getfield 24 d_prog_10_method_4_21 rfl (host := "") (Or.inl (wd_57 hw)) Via.refl q1244 ?_
    refine W.aloadN 25 d_prog_10_method_4_24 rfl rfl rfl ?_
    have q1245 := (Et1.keep K1218)
    have q1246 := (Ct1.keep K1218 nin0)
    have q1247 := (Vt1.keep K1218 nin0)
    have q1248 := (At1.keep K1218 nin0)
    refine W.callV (rest := []) (argsL := [(.ref s)]) (a := t1) 28 d_prog_10_method_4_25 rfl (fun hn => c_eqg l Z a0 hw t1 s u1 b kc hkc [(97 : Int32), (100 : Int32), (106 : Int32), (108 : Int32), (105 : Int32), (115 : Int32), (116 : Int32)] xs _ n0 hn (Sta.keep0 kc1232 FS) q1245 q1246 q1247 q1248 q1238 q1239 q1240 q1241) q1245 (wd_59 hw) (wd_60 hw) (wd_62 hw) rfl (wd_61 hw) (wd_3 hw) (wd_63 hw) (by decide) pd_9 rfl rfl rfl (by decide) 0 (Nat.le_of_ble_eq_true rfl) (by decide) (by decide) (by decide) ?_
    rintro v1249 h1249 ⟨rfl, rfl⟩
    show WG _ _ _ _ _ _ _ _ _ _ _ _ 1 3 28 #[.val (.ref s), .val (.ref b1218), .val (.int (3 : Int32)), .val (.int (1 : Int32)), .val (.ref e1)] [(.int (sameW [(97 : Int32), (100 : Int32), (106 : Int32), (108 : Int32), (105 : Int32), (115 : Int32), (116 : Int32)] xs))]
    refine W.if_eq 34 31 d_prog_10_method_4_28 rfl rfl ?_ ?_
    · intro hc1250
      refine W.iinc 37 d_prog_10_method_4_34 rfl rfl (2 : Int32) (by decide) #[.val (.ref s), .val (.ref b1218), .val (.int (3 : Int32)), .val (.int (2 : Int32)), .val (.ref e1)] rfl ?_
      refine W.goto 9 d_prog_10_method_4_37 rfl ?_
      refine W.iloadN 10 d_prog_10_method_4_9 rfl rfl ?_
      refine W.iloadN 11 d_prog_10_method_4_10 rfl rfl ?_
      refine W.icmp_ge 40 14 d_prog_10_method_4_11 rfl rfl (fun hc => absurd (by decide) hc) (fun _ => ?_)
      refine W.aloadN 15 d_prog_10_method_4_14 rfl rfl rfl ?_
      refine W.iloadN 16 d_prog_10_method_4_15 rfl rfl ?_
      refine W.aaload 17 d_prog_10_method_4_16 rfl A1218 rfl 2 (by decide) (by decide) (.ref e2) rfl ?_
      refine W.astore 19 d_prog_10_method_4_17 rfl rfl #[.val (.ref s), .val (.ref b1218), .val (.int (3 : Int32)), .val (.int (2 : Int32)), .val (.ref e2)] rfl ?_
      refine W.aload 21 d_prog_10_method_4_19 rfl rfl rfl ?_
      have q1251 := (O2.keep K1218 nin0)
      refine W.getfield 24 d_prog_10_method_4_21 rfl (host := "") (Or.inl (wd_57 hw)) Via.refl q1251 ?_
      refine W.aloadN 25 d_prog_10_method_4_24 rfl rfl rfl ?_
      have q1252 := (Et2.keep K1218)
      have q1253 := (Ct2.keep K1218 nin0)
      have q1254 := (Vt2.keep K1218 nin0)
      have q1255 := (At2.keep K1218 nin0)
      refine W.callV (rest := []) (argsL := [(.ref s)]) (a := t2) 28 d_prog_10_method_4_25 rfl (fun hn => c_eqg l Z a0 hw t2 s u2 b kc hkc [(109 : Int32), (116 : Int32), (120 : Int32)] xs _ n0 hn (Sta.keep0 kc1232 FS) q1252 q1253 q1254 q1255 q1238 q1239 q1240 q1241) q1252 (wd_59 hw) (wd_60 hw) (wd_62 hw) rfl (wd_61 hw) (wd_3 hw) (wd_63 hw) (by decide) pd_9 rfl rfl rfl (by decide) 0 (Nat.le_of_ble_eq_true rfl) (by decide) (by decide) (by decide) ?_
      rintro v1256 h1256 ⟨rfl, rfl⟩
      show WG _ _ _ _ _ _ _ _ _ _ _ _ 1 3 28 #[.val (.ref s), .val (.ref b1218), .val (.int (3 : Int32)), .val (.int (2 : Int32)), .val (.ref e2)] [(.int (sameW [(109 : Int32), (116 : Int32), (120 : Int32)] xs))]
      refine W.if_eq 34 31 d_prog_10_method_4_28 rfl rfl ?_ ?_
      · intro hc1257
        refine W.iinc 37 d_prog_10_method_4_34 rfl rfl (3 : Int32) (by decide) #[.val (.ref s), .val (.ref b1218), .val (.int (3 : Int32)), .val (.int (3 : Int32)), .val (.ref e2)] rfl ?_
        refine W.goto 9 d_prog_10_method_4_37 rfl ?_
        refine W.iloadN 10 d_prog_10_method_4_9 rfl rfl ?_
        refine W.iloadN 11 d_prog_10_method_4_10 rfl rfl ?_
        refine W.icmp_ge 40 14 d_prog_10_method_4_11 rfl rfl (fun _ => ?_) (fun hc => absurd hc (by decide))
        refine W.aconst_null 41 d_prog_10_method_4_40 rfl ?_
        exact W.areturn d_prog_10_method_4_41 rfl rfl rfl rfl (Or.inr (Or.inr (Or.inr (⟨hc1243, hc1250, hc1257, rfl, kc1232⟩)))) (by decide) (by decide)
      · intro hc1257
        refine W.aload 33 d_prog_10_method_4_31 rfl rfl rfl ?_
        exact W.areturn d_prog_10_method_4_33 rfl rfl rfl rfl (Or.inr (Or.inr (Or.inl ⟨hc1243, hc1250, hc1257, rfl, kc1232⟩))) (by decide) (by decide)
    · intro hc1250
      refine W.aload 33 d_prog_10_method_4_31 rfl rfl rfl ?_
      exact W.areturn d_prog_10_method_4_33 rfl rfl rfl rfl (Or.inr (Or.inl ⟨hc1243, hc1250, rfl, kc1232⟩)) (by decide) (by decide)
  · intro hc1243
    refine W.aload 33 d_prog_10_method_4_31 rfl rfl rfl ?_
    exact W.areturn d_prog_10_method_4_33 rfl rfl rfl rfl (Or.inl ⟨hc1243, rfl, kc1232⟩) (by decide) (by decide)
theorem c_namedN (l : Launch) (Z : State) (a0 : Array Value) (hw : HwT Z a0) (kc : Int32) (hkc : ¬ kc = 0) (e0 e1 e2 t0 t1 t2 u0 u1 u2 vv : Addr) (h : Heap) (n0 : Nat) (hn : n0 ≤ h.size) (FS : Sta Z h "java/lang/String" "COMPACT_STRINGS" "Z" (.int kc)) (SV : Sta Z h "com/example/eccentra/eccentra/GraphFormat" "$VALUES" "[Lcom/example/eccentra/eccentra/GraphFormat;" (.ref vv)) (S0 : Sta Z h "com/example/eccentra/eccentra/GraphFormat" "EDGELIST" "Lcom/example/eccentra/eccentra/GraphFormat;" (.ref e0)) (S1 : Sta Z h "com/example/eccentra/eccentra/GraphFormat" "ADJLIST" "Lcom/example/eccentra/eccentra/GraphFormat;" (.ref e1)) (S2 : Sta Z h "com/example/eccentra/eccentra/GraphFormat" "MTX" "Lcom/example/eccentra/eccentra/GraphFormat;" (.ref e2)) (AV : Ary Z h vv (.object "com/example/eccentra/eccentra/GraphFormat") [.ref e0, .ref e1, .ref e2]) (EV : Exa Z h vv "[Lcom/example/eccentra/eccentra/GraphFormat;") (O0 : Fld Z h e0 "com/example/eccentra/eccentra/GraphFormat" "optionValue" "Ljava/lang/String;" (.ref t0)) (Et0 : Exa Z h t0 "java/lang/String") (Ct0 : Fld Z h t0 "java/lang/String" "coder" "B" (.int 0)) (Vt0 : Fld Z h t0 "java/lang/String" "value" "[B" (.ref u0)) (At0 : Ary Z h u0 .byte [(.int (101 : Int32)), (.int (100 : Int32)), (.int (103 : Int32)), (.int (101 : Int32)), (.int (108 : Int32)), (.int (105 : Int32)), (.int (115 : Int32)), (.int (116 : Int32))]) (O1 : Fld Z h e1 "com/example/eccentra/eccentra/GraphFormat" "optionValue" "Ljava/lang/String;" (.ref t1)) (Et1 : Exa Z h t1 "java/lang/String") (Ct1 : Fld Z h t1 "java/lang/String" "coder" "B" (.int 0)) (Vt1 : Fld Z h t1 "java/lang/String" "value" "[B" (.ref u1)) (At1 : Ary Z h u1 .byte [(.int (97 : Int32)), (.int (100 : Int32)), (.int (106 : Int32)), (.int (108 : Int32)), (.int (105 : Int32)), (.int (115 : Int32)), (.int (116 : Int32))]) (O2 : Fld Z h e2 "com/example/eccentra/eccentra/GraphFormat" "optionValue" "Ljava/lang/String;" (.ref t2)) (Et2 : Exa Z h t2 "java/lang/String") (Ct2 : Fld Z h t2 "java/lang/String" "coder" "B" (.int 0)) (Vt2 : Fld Z h t2 "java/lang/String" "value" "[B" (.ref u2)) (At2 : Ary Z h u2 .byte [(.int (109 : Int32)), (.int (116 : Int32)), (.int (120 : Int32))]) : Con l Z (⟨"com/example/eccentra/eccentra/GraphFormat", "named", "(Ljava/lang/String;)Lcom/example/eccentra/eccentra/GraphFormat;"⟩ : MethodName) prog_10_method_4_code 5 (some (.object "com/example/eccentra/eccentra/GraphFormat")) ({ frames := 2, cells := 1, slots := 3, locals := 48 } : Room) #[.null] h n0 (fun v h' => v = some .null ∧ Keep h h' []) := by
  refine ConG.of_W (Ls := #[.val .null, .unset, .unset, .unset, .unset]) (plainFor_of_name pn_4) hn (fun m => by first | (simp [entryFrame, mkF, argsToLocals, Value.category]; done) | rfl) ?_
  refine W.callS (rest := []) (argsL := []) 3 d_prog_10_method_4_0 rfl (fun hn => c_vals l Z a0 hw e0 e1 e2 vv _ n0 hn (Sta.keep0 (Keep.refl _ []) SV) AV EV) (wd_39 hw) (wd_40 hw) (wd_37 hw) (wd_41 hw) (by decide) pd_8 rfl rfl rfl (by decide) 0 (Nat.le_of_ble_eq_true rfl) (by decide) (by decide) (by decide) ?_
  rintro v1258 h1258 ⟨b1258, rfl, sz1258, gb1258, K1258, A1258⟩
  have ne1259 : e0 ≠ b1258 := Nat.ne_of_lt (Nat.lt_of_lt_of_le O0.lt sz1258)
  have ne1260 : e1 ≠ b1258 := Nat.ne_of_lt (Nat.lt_of_lt_of_le O1.lt sz1258)
  have ne1261 : e2 ≠ b1258 := Nat.ne_of_lt (Nat.lt_of_lt_of_le O2.lt sz1258)
  have ne1262 : t0 ≠ b1258 := Nat.ne_of_lt (Nat.lt_of_lt_of_le Et0.lt sz1258)
  have ne1263 : t1 ≠ b1258 := Nat.ne_of_lt (Nat.lt_of_lt_of_le Et1.lt sz1258)
  have ne1264 : t2 ≠ b1258 := Nat.ne_of_lt (Nat.lt_of_lt_of_le Et2.lt sz1258)
  have ne1265 : u0 ≠ b1258 := Nat.ne_of_lt (Nat.lt_of_lt_of_le At0.lt sz1258)
  have ne1266 : u1 ≠ b1258 := Nat.ne_of_lt (Nat.lt_of_lt_of_le At1.lt sz1258)
  have ne1267 : u2 ≠ b1258 := Nat.ne_of_lt (Nat.lt_of_lt_of_le At2.lt sz1258)
  have ne1268 : vv ≠ b1258 := Nat.ne_of_lt (Nat.lt_of_lt_of_le AV.lt sz1258)
  have sz1269 := Nat.le_trans (Keep.refl _ []).1 sz1258
  have kc1270 := Keep.trans (ws := []) (Keep.refl _ []) K1258 all0
  show WG _ _ _ _ _ _ _ _ _ _ _ _ 1 3 3 #[.val .null, .unset, .unset, .unset, .unset] [(.ref b1258)]
  refine W.astoreN 4 d_prog_10_method_4_3 rfl rfl #[.val .null, .val (.ref b1258), .unset, .unset, .unset] rfl ?_
  refine W.aloadN 5 d_prog_10_method_4_4 rfl rfl rfl ?_
  refine W.arraylength 6 d_prog_10_method_4_5 rfl A1258 (3 : Int32) rfl ?_
  refine W.istoreN 7 d_prog_10_method_4_6 rfl #[.val .null, .val (.ref b1258), .val (.int (3 : Int32)), .unset, .unset] rfl ?_
  refine W.iconst 8 d_prog_10_method_4_7 rfl (0 : Int32) rfl ?_
  refine W.istoreN 9 d_prog_10_method_4_8 rfl #[.val .null, .val (.ref b1258), .val (.int (3 : Int32)), .val (.int (0 : Int32)), .unset] rfl ?_
  refine W.iloadN 10 d_prog_10_method_4_9 rfl rfl ?_
  refine W.iloadN 11 d_prog_10_method_4_10 rfl rfl ?_
  refine W.icmp_ge 40 14 d_prog_10_method_4_11 rfl rfl (fun hc => absurd (by decide) hc) (fun _ => ?_)
  refine W.aloadN 15 d_prog_10_method_4_14 rfl rfl rfl ?_
  refine W.iloadN 16 d_prog_10_method_4_15 rfl rfl ?_
  refine W.aaload 17 d_prog_10_method_4_16 rfl A1258 rfl 0 (by decide) (by decide) (.ref e0) rfl ?_
  refine W.astore 19 d_prog_10_method_4_17 rfl rfl #[.val .null, .val (.ref b1258), .val (.int (3 : Int32)), .val (.int (0 : Int32)), .val (.ref e0)] rfl ?_
  refine W.aload 21 d_prog_10_method_4_19 rfl rfl rfl ?_
  have q1271 := (O0.keep K1258 nin0)
  refine W.getfield 24 d_prog_10_method_4_21 rfl (host := "") (Or.inl (wd_57 hw)) Via.refl q1271 ?_
  refine W.aloadN 25 d_prog_10_method_4_24 rfl rfl rfl ?_
  have q1273 := (Et0.keep K1258)
  refine W.callV (rest := []) (argsL := [.null]) (a := t0) 28 d_prog_10_method_4_25 rfl (fun hn => c_eqn l Z a0 hw t0 _ n0 hn) q1273 (wd_59 hw) (wd_60 hw) (wd_62 hw) rfl (wd_61 hw) (wd_3 hw) (wd_63 hw) (by decide) pd_9 rfl rfl rfl (by decide) 0 (Nat.le_of_ble_eq_true rfl) (by decide) (by decide) (by decide) ?_
  rintro v1272 h1272 ⟨rfl, rfl⟩
  show WG _ _ _ _ _ _ _ _ _ _ _ _ 1 3 28 #[.val .null, .val (.ref b1258), .val (.int (3 : Int32)), .val (.int (0 : Int32)), .val (.ref e0)] [(.int (0 : Int32))]
  refine W.if_eq 34 31 d_prog_10_method_4_28 rfl rfl (fun _ => ?_) (fun hc => absurd (by decide) hc)
  refine W.iinc 37 d_prog_10_method_4_34 rfl rfl (1 : Int32) (by decide) #[.val .null, .val (.ref b1258), .val (.int (3 : Int32)), .val (.int (1 : Int32)), .val (.ref e0)] rfl ?_
  refine W.goto 9 d_prog_10_method_4_37 rfl ?_
  refine W.iloadN 10 d_prog_10_method_4_9 rfl rfl ?_
  refine W.iloadN 11 d_prog_10_method_4_10 rfl rfl ?_
  refine W.icmp_ge 40 14 d_prog_10_method_4_11 rfl rfl (fun hc => absurd (by decide) hc) (fun _ => ?_)
  refine W.aloadN 15 d_prog_10_method_4_14 rfl rfl rfl ?_
  refine W.iloadN 16 d_prog_10_method_4_15 rfl rfl ?_
  refine W.aaload 17 d_prog_10_method_4_16 rfl A1258 rfl 1 (by decide) (by decide) (.ref e1) rfl ?_
  refine W.astore 19 d_prog_10_method_4_17 rfl rfl #[.val .null, .val (.ref b1258), .val (.int (3 : Int32)), .val (.int (1 : Int32)), .val (.ref e1)] rfl ?_
  refine W.aload 21 d_prog_10_method_4_19 rfl rfl rfl ?_
  have q1274 := (O1.keep K1258 nin0)
  refine W.getfield 24 d_prog_10_method_4_21 rfl (host := "") (Or.inl (wd_57 hw)) Via.refl q1274 ?_
  refine W.aloadN 25 d_prog_10_method_4_24 rfl rfl rfl ?_
  have q1276 := (Et1.keep K1258)
  refine W.callV (rest := []) (argsL := [.null]) (a := t1) 28 d_prog_10_method_4_25 rfl (fun hn => c_eqn l Z a0 hw t1 _ n0 hn) q1276 (wd_59 hw) (wd_60 hw) (wd_62 hw) rfl (wd_61 hw) (wd_3 hw) (wd_63 hw) (by decide) pd_9 rfl rfl rfl (by decide) 0 (Nat.le_of_ble_eq_true rfl) (by decide) (by decide) (by decide) ?_
  rintro v1275 h1275 ⟨rfl, rfl⟩
  show WG _ _ _ _ _ _ _ _ _ _ _ _ 1 3 28 #[.val .null, .val (.ref b1258), .val (.int (3 : Int32)), .val (.int (1 : Int32)), .val (.ref e1)] [(.int (0 : Int32))]
  refine W.if_eq 34 31 d_prog_10_method_4_28 rfl rfl (fun _ => ?_) (fun hc => absurd (by decide) hc)
  refine W.iinc 37 d_prog_10_method_4_34 rfl rfl (2 : Int32) (by decide) #[.val .null, .val (.ref b1258), .val (.int (3 : Int32)), .val (.int (2 : Int32)), .val (.ref e1)] rfl ?_
  refine W.goto 9 d_prog_10_method_4_37 rfl ?_
  refine W.iloadN 10 d_prog_10_method_4_9 rfl rfl ?_
  refine W.iloadN 11 d_prog_10_method_4_10 rfl rfl ?_
  refine W.icmp_ge 40 14 d_prog_10_method_4_11 rfl rfl (fun hc => absurd (by decide) hc) (fun _ => ?_)
  refine W.aloadN 15 d_prog_10_method_4_14 rfl rfl rfl ?_
  refine W.iloadN 16 d_prog_10_method_4_15 rfl rfl ?_
  refine W.aaload 17 d_prog_10_method_4_16 rfl A1258 rfl 2 (by decide) (by decide) (.ref e2) rfl ?_
  refine W.astore 19 d_prog_10_method_4_17 rfl rfl #[.val .null, .val (.ref b1258), .val (.int (3 : Int32)), .val (.int (2 : Int32)), .val (.ref e2)] rfl ?_
  refine W.aload 21 d_prog_10_method_4_19 rfl rfl rfl ?_
  have q1277 := (O2.keep K1258 nin0)
  refine W.getfield 24 d_prog_10_method_4_21 rfl (host := "") (Or.inl (wd_57 hw)) Via.refl q1277 ?_
  refine W.aloadN 25 d_prog_10_method_4_24 rfl rfl rfl ?_
  have q1279 := (Et2.keep K1258)
  refine W.callV (rest := []) (argsL := [.null]) (a := t2) 28 d_prog_10_method_4_25 rfl (fun hn => c_eqn l Z a0 hw t2 _ n0 hn) q1279 (wd_59 hw) (wd_60 hw) (wd_62 hw) rfl (wd_61 hw) (wd_3 hw) (wd_63 hw) (by decide) pd_9 rfl rfl rfl (by decide) 0 (Nat.le_of_ble_eq_true rfl) (by decide) (by decide) (by decide) ?_
  rintro v1278 h1278 ⟨rfl, rfl⟩
  show WG _ _ _ _ _ _ _ _ _ _ _ _ 1 3 28 #[.val .null, .val (.ref b1258), .val (.int (3 : Int32)), .val (.int (2 : Int32)), .val (.ref e2)] [(.int (0 : Int32))]
  refine W.if_eq 34 31 d_prog_10_method_4_28 rfl rfl (fun _ => ?_) (fun hc => absurd (by decide) hc)
  refine W.iinc 37 d_prog_10_method_4_34 rfl rfl (3 : Int32) (by decide) #[.val .null, .val (.ref b1258), .val (.int (3 : Int32)), .val (.int (3 : Int32)), .val (.ref e2)] rfl ?_
  refine W.goto 9 d_prog_10_method_4_37 rfl ?_
  refine W.iloadN 10 d_prog_10_method_4_9 rfl rfl ?_
  refine W.iloadN 11 d_prog_10_method_4_10 rfl rfl ?_
  refine W.icmp_ge 40 14 d_prog_10_method_4_11 rfl rfl (fun _ => ?_) (fun hc => absurd hc (by decide))
  refine W.aconst_null 41 d_prog_10_method_4_40 rfl ?_
  exact W.areturn d_prog_10_method_4_41 rfl rfl rfl rfl ⟨rfl, kc1270⟩ (by decide) (by decide)
theorem c_exp0 (l : Launch) (Z : State) (a0 : Array Value) (hw : HwT Z a0) (s b : Addr) (kc : Int32) (hkc : ¬ kc = 0) (xs : List Int32) (e0 e1 e2 : Addr) (h : Heap) (n0 : Nat) (hn : n0 ≤ h.size) (FS : Sta Z h "java/lang/String" "COMPACT_STRINGS" "Z" (.int kc)) (S0 : Sta Z h "com/example/eccentra/eccentra/GraphFormat" "EDGELIST" "Lcom/example/eccentra/eccentra/GraphFormat;" (.ref e0)) (S1 : Sta Z h "com/example/eccentra/eccentra/GraphFormat" "ADJLIST" "Lcom/example/eccentra/eccentra/GraphFormat;" (.ref e1)) (S2 : Sta Z h "com/example/eccentra/eccentra/GraphFormat" "MTX" "Lcom/example/eccentra/eccentra/GraphFormat;" (.ref e2)) (Ex : Exa Z h s "java/lang/String") (Cx : Fld Z h s "java/lang/String" "coder" "B" (.int 0)) (Vx : Fld Z h s "java/lang/String" "value" "[B" (.ref b)) (Ax : Ary Z h b .byte (iv xs)) (q0 : ¬ sameW [(101 : Int32), (100 : Int32), (103 : Int32), (101 : Int32), (108 : Int32), (105 : Int32), (115 : Int32), (116 : Int32)] xs = 0) : ConX Z consts_1 [] [] l (⟨"com/example/eccentra/eccentra/GraphFormatNamedPinLaw", "expected", "(Ljava/lang/String;)Lcom/example/eccentra/eccentra/GraphFormat;"⟩ : MethodName) method_3_code 1 (some (.object "com/example/eccentra/eccentra/GraphFormat")) ({ frames := 2, cells := 6, slots := 96, locals := 48 } : Room) #[(.ref s)] h n0 (fun v h' => v = some (.ref e0)) := by
  refine ConX.of_W (Ls := #[.val (.ref s)]) (plainFor_of_name pn_3) hn (fun m => by first | (simp [entryFrame, mkF, argsToLocals, Value.category]; done) | rfl) ?_
  have hv0 := HV.here (Z := Z) (EL := consts_1) (h := h) (S := [])
  refine W.aloadN 1 d_method_3_0 rfl rfl rfl ?_
  refine W.ifnonnull_ref 6 d_method_3_1 rfl ?_
  refine W.aloadN 7 d_method_3_6 rfl rfl rfl ?_
  refine W.ldcX 9 d_method_3_7 rfl (wd_72 hw) (own_wS hw) (own_EL hw) (List.mem_of_getElem? (i := 0) rfl) hv0 all0 [(.int (101 : Int32)), (.int (100 : Int32)), (.int (103 : Int32)), (.int (101 : Int32)), (.int (108 : Int32)), (.int (105 : Int32)), (.int (115 : Int32)), (.int (116 : Int32))] ⟨by decide, rfl⟩ (by decide) 32 (by decide) (by decide) (by decide) (by decide) ?_
  intro h1280 la1280 lb1280 X1280 K1280 E1280 C1280 V1280 A1280 N1280
  have hv1280 := HV.here (Z := Z) (EL := consts_1) (h := h1280) (S := [])
  show WG _ _ _ _ _ _ _ _ _ _ _ _ 2 36 9 #[.val (.ref s)] [(.ref la1280), (.ref s)]
  have q1281 := (Sta.ext X1280 FS)
  have q1282 := (Ex.keep K1280)
  have q1283 := (Cx.keep K1280 nin0)
  have q1284 := (Vx.keep K1280 nin0)
  have q1285 := (Ax.keep K1280 nin0)
  refine W.callV (rest := []) (argsL := [(.ref la1280)]) (a := s) 12 d_method_3_9 rfl (fun hn => c_eqg l Z a0 hw s la1280 b lb1280 kc hkc xs [(101 : Int32), (100 : Int32), (103 : Int32), (101 : Int32), (108 : Int32), (105 : Int32), (115 : Int32), (116 : Int32)] _ n0 hn q1281 q1282 q1283 q1284 q1285 E1280 C1280 V1280 A1280) q1282 (wd_75 hw) (wd_60 hw) (wd_62 hw) rfl (wd_61 hw) (wd_3 hw) (wd_63 hw) (by decide) pd_9 rfl rfl rfl (by decide) 0 (Nat.le_of_ble_eq_true rfl) (by decide) (by decide) (by decide) ?_
  rintro v1286 h1286 ⟨rfl, rfl⟩
  show WG _ _ _ _ _ _ _ _ _ _ _ _ 2 36 12 #[.val (.ref s)] [(.int (sameW xs [(101 : Int32), (100 : Int32), (103 : Int32), (101 : Int32), (108 : Int32), (105 : Int32), (115 : Int32), (116 : Int32)]))]
  refine W.if_eq 19 15 d_method_3_12 rfl rfl (fun hc => absurd hc (own_cn q0)) (fun _ => ?_)
  have q1287 := (Sta.ext X1280 S0)
  refine W.getstatic 18 d_method_3_15 rfl (host := "") (Or.inl (wd_82 hw)) Via.refl q1287 ?_
  refine WG.retX (own_EL hw) hv1280 ?_
  exact W.areturn d_method_3_18 rfl rfl rfl rfl ⟨rfl, rfl⟩ (by decide) (by decide)
theorem c_exp1 (l : Launch) (Z : State) (a0 : Array Value) (hw : HwT Z a0) (s b : Addr) (kc : Int32) (hkc : ¬ kc = 0) (xs : List Int32) (e0 e1 e2 : Addr) (h : Heap) (n0 : Nat) (hn : n0 ≤ h.size) (FS : Sta Z h "java/lang/String" "COMPACT_STRINGS" "Z" (.int kc)) (S0 : Sta Z h "com/example/eccentra/eccentra/GraphFormat" "EDGELIST" "Lcom/example/eccentra/eccentra/GraphFormat;" (.ref e0)) (S1 : Sta Z h "com/example/eccentra/eccentra/GraphFormat" "ADJLIST" "Lcom/example/eccentra/eccentra/GraphFormat;" (.ref e1)) (S2 : Sta Z h "com/example/eccentra/eccentra/GraphFormat" "MTX" "Lcom/example/eccentra/eccentra/GraphFormat;" (.ref e2)) (Ex : Exa Z h s "java/lang/String") (Cx : Fld Z h s "java/lang/String" "coder" "B" (.int 0)) (Vx : Fld Z h s "java/lang/String" "value" "[B" (.ref b)) (Ax : Ary Z h b .byte (iv xs)) (q0 : sameW [(101 : Int32), (100 : Int32), (103 : Int32), (101 : Int32), (108 : Int32), (105 : Int32), (115 : Int32), (116 : Int32)] xs = 0) (q1 : ¬ sameW [(97 : Int32), (100 : Int32), (106 : Int32), (108 : Int32), (105 : Int32), (115 : Int32), (116 : Int32)] xs = 0) : ConX Z consts_1 [] [] l (⟨"com/example/eccentra/eccentra/GraphFormatNamedPinLaw", "expected", "(Ljava/lang/String;)Lcom/example/eccentra/eccentra/GraphFormat;"⟩ : MethodName) method_3_code 1 (some (.object "com/example/eccentra/eccentra/GraphFormat")) ({ frames := 2, cells := 6, slots := 96, locals := 48 } : Room) #[(.ref s)] h n0 (fun v h' => v = some (.ref e1)) := by
  refine ConX.of_W (Ls := #[.val (.ref s)]) (plainFor_of_name pn_3) hn (fun m => by first | (simp [entryFrame, mkF, argsToLocals, Value.category]; done) | rfl) ?_
  have hv0 := HV.here (Z := Z) (EL := consts_1) (h := h) (S := [])
  refine W.aloadN 1 d_method_3_0 rfl rfl rfl ?_
  refine W.ifnonnull_ref 6 d_method_3_1 rfl ?_
  refine W.aloadN 7 d_method_3_6 rfl rfl rfl ?_
  refine W.ldcX 9 d_method_3_7 rfl (wd_72 hw) (own_wS hw) (own_EL hw) (List.mem_of_getElem? (i := 0) rfl) hv0 all0 [(.int (101 : Int32)), (.int (100 : Int32)), (.int (103 : Int32)), (.int (101 : Int32)), (.int (108 : Int32)), (.int (105 : Int32)), (.int (115 : Int32)), (.int (116 : Int32))] ⟨by decide, rfl⟩ (by decide) 32 (by decide) (by decide) (by decide) (by decide) ?_
  intro h1288 la1288 lb1288 X1288 K1288 E1288 C1288 V1288 A1288 N1288
  have hv1288 := HV.here (Z := Z) (EL := consts_1) (h := h1288) (S := [])
  show WG _ _ _ _ _ _ _ _ _ _ _ _ 2 36 9 #[.val (.ref s)] [(.ref la1288), (.ref s)]
  have q1289 := (Sta.ext X1288 FS)
  have q1290 := (Ex.keep K1288)
  have q1291 := (Cx.keep K1288 nin0)
  have q1292 := (Vx.keep K1288 nin0)
  have q1293 := (Ax.keep K1288 nin0)
  refine W.callV (rest := []) (argsL := [(.ref la1288)]) (a := s) 12 d_method_3_9 rfl (fun hn => c_eqg l Z a0 hw s la1288 b lb1288 kc hkc xs [(101 : Int32), (100 : Int32), (103 : Int32), (101 : Int32), (108 : Int32), (105 : Int32), (115 : Int32), (116 : Int32)] _ n0 hn q1289 q1290 q1291 q1292 q1293 E1288 C1288 V1288 A1288) q1290 (wd_75 hw) (wd_60 hw) (wd_62 hw) rfl (wd_61 hw) (wd_3 hw) (wd_63 hw) (by decide) pd_9 rfl rfl rfl (by decide) 0 (Nat.le_of_ble_eq_true rfl) (by decide) (by decide) (by decide) ?_
  rintro v1294 h1294 ⟨rfl, rfl⟩
  show WG _ _ _ _ _ _ _ _ _ _ _ _ 2 36 12 #[.val (.ref s)] [(.int (sameW xs [(101 : Int32), (100 : Int32), (103 : Int32), (101 : Int32), (108 : Int32), (105 : Int32), (115 : Int32), (116 : Int32)]))]
  refine W.if_eq 19 15 d_method_3_12 rfl rfl (fun _ => ?_) (fun hc => absurd (own_cm q0) hc)
  refine W.aloadN 20 d_method_3_19 rfl rfl rfl ?_
  refine W.ldcX 22 d_method_3_20 rfl (wd_76 hw) (own_wS hw) (own_EL hw) (List.mem_of_getElem? (i := 1) rfl) hv1288 all0 [(.int (97 : Int32)), (.int (100 : Int32)), (.int (106 : Int32)), (.int (108 : Int32)), (.int (105 : Int32)), (.int (115 : Int32)), (.int (116 : Int32))] ⟨by decide, rfl⟩ (by decide) 28 (by decide) (by decide) (by decide) (by decide) ?_
  intro h1295 la1295 lb1295 X1295 K1295 E1295 C1295 V1295 A1295 N1295
  have hv1295 := HV.here (Z := Z) (EL := consts_1) (h := h1295) (S := [])
  show WG _ _ _ _ _ _ _ _ _ _ _ _ 4 68 22 #[.val (.ref s)] [(.ref la1295), (.ref s)]
  have q1296 := (Sta.ext X1295 q1289)
  have q1297 := (q1290.keep K1295)
  have q1298 := (q1291.keep K1295 nin0)
  have q1299 := (q1292.keep K1295 nin0)
  have q1300 := (q1293.keep K1295 nin0)
  refine W.callV (rest := []) (argsL := [(.ref la1295)]) (a := s) 25 d_method_3_22 rfl (fun hn => c_eqg l Z a0 hw s la1295 b lb1295 kc hkc xs [(97 : Int32), (100 : Int32), (106 : Int32), (108 : Int32), (105 : Int32), (115 : Int32), (116 : Int32)] _ n0 hn q1296 q1297 q1298 q1299 q1300 E1295 C1295 V1295 A1295) q1297 (wd_75 hw) (wd_60 hw) (wd_62 hw) rfl (wd_61 hw) (wd_3 hw) (wd_63 hw) (by decide) pd_9 rfl rfl rfl (by decide) 0 (Nat.le_of_ble_eq_true rfl) (by decide) (by decide) (by decide) ?_
  rintro v1301 h1301 ⟨rfl, rfl⟩
  show WG _ _ _ _ _ _ _ _ _ _ _ _ 4 68 25 #[.val (.ref s)] [(.int (sameW xs [(97 : Int32), (100 : Int32), (106 : Int32), (108 : Int32), (105 : Int32), (115 : Int32), (116 : Int32)]))]
  refine W.if_eq 32 28 d_method_3_25 rfl rfl (fun hc => absurd hc (own_cn q1)) (fun _ => ?_)
  have q1302 := (Sta.ext X1295 (Sta.ext X1288 S1))
  refine W.getstatic 31 d_method_3_28 rfl (host := "") (Or.inl (wd_87 hw)) Via.refl q1302 ?_
  refine WG.retX (own_EL hw) hv1295 ?_
  exact W.areturn d_method_3_31 rfl rfl rfl rfl ⟨rfl, rfl⟩ (by decide) (by decide)
theorem c_exp2 (l : Launch) (Z : State) (a0 : Array Value) (hw : HwT Z a0) (s b : Addr) (kc : Int32) (hkc : ¬ kc = 0) (xs : List Int32) (e0 e1 e2 : Addr) (h : Heap) (n0 : Nat) (hn : n0 ≤ h.size) (FS : Sta Z h "java/lang/String" "COMPACT_STRINGS" "Z" (.int kc)) (S0 : Sta Z h "com/example/eccentra/eccentra/GraphFormat" "EDGELIST" "Lcom/example/eccentra/eccentra/GraphFormat;" (.ref e0)) (S1 : Sta Z h "com/example/eccentra/eccentra/GraphFormat" "ADJLIST" "Lcom/example/eccentra/eccentra/GraphFormat;" (.ref e1)) (S2 : Sta Z h "com/example/eccentra/eccentra/GraphFormat" "MTX" "Lcom/example/eccentra/eccentra/GraphFormat;" (.ref e2)) (Ex : Exa Z h s "java/lang/String") (Cx : Fld Z h s "java/lang/String" "coder" "B" (.int 0)) (Vx : Fld Z h s "java/lang/String" "value" "[B" (.ref b)) (Ax : Ary Z h b .byte (iv xs)) (q0 : sameW [(101 : Int32), (100 : Int32), (103 : Int32), (101 : Int32), (108 : Int32), (105 : Int32), (115 : Int32), (116 : Int32)] xs = 0) (q1 : sameW [(97 : Int32), (100 : Int32), (106 : Int32), (108 : Int32), (105 : Int32), (115 : Int32), (116 : Int32)] xs = 0) (q2 : ¬ sameW [(109 : Int32), (116 : Int32), (120 : Int32)] xs = 0) : ConX Z consts_1 [] [] l (⟨"com/example/eccentra/eccentra/GraphFormatNamedPinLaw", "expected", "(Ljava/lang/String;)Lcom/example/eccentra/eccentra/GraphFormat;"⟩ : MethodName) method_3_code 1 (some (.object "com/example/eccentra/eccentra/GraphFormat")) ({ frames := 2, cells := 6, slots := 96, locals := 48 } : Room) #[(.ref s)] h n0 (fun v h' => v = some (.ref e2)) := by
  refine ConX.of_W (Ls := #[.val (.ref s)]) (plainFor_of_name pn_3) hn (fun m => by first | (simp [entryFrame, mkF, argsToLocals, Value.category]; done) | rfl) ?_
  have hv0 := HV.here (Z := Z) (EL := consts_1) (h := h) (S := [])
  refine W.aloadN 1 d_method_3_0 rfl rfl rfl ?_
  refine W.ifnonnull_ref 6 d_method_3_1 rfl ?_
  refine W.aloadN 7 d_method_3_6 rfl rfl rfl ?_
  refine W.ldcX 9 d_method_3_7 rfl (wd_72 hw) (own_wS hw) (own_EL hw) (List.mem_of_getElem? (i := 0) rfl) hv0 all0 [(.int (101 : Int32)), (.int (100 : Int32)), (.int (103 : Int32)), (.int (101 : Int32)), (.int (108 : Int32)), (.int (105 : Int32)), (.int (115 : Int32)), (.int (116 : Int32))] ⟨by decide, rfl⟩ (by decide) 32 (by decide) (by decide) (by decide) (by decide) ?_
  intro h1303 la1303 lb1303 X1303 K1303 E1303 C1303 V1303 A1303 N1303
  have hv1303 := HV.here (Z := Z) (EL := consts_1) (h := h1303) (S := [])
  show WG _ _ _ _ _ _ _ _ _ _ _ _ 2 36 9 #[.val (.ref s)] [(.ref la1303), (.ref s)]
  have q1304 := (Sta.ext X1303 FS)
  have q1305 := (Ex.keep K1303)
  have q1306 := (Cx.keep K1303 nin0)
  have q1307 := (Vx.keep K1303 nin0)
  have q1308 := (Ax.keep K1303 nin0)
  refine W.callV (rest := []) (argsL := [(.ref la1303)]) (a := s) 12 d_method_3_9 rfl (fun hn => c_eqg l Z a0 hw s la1303 b lb1303 kc hkc xs [(101 : Int32), (100 : Int32), (103 : Int32), (101 : Int32), (108 : Int32), (105 : Int32), (115 : Int32), (116 : Int32)] _ n0 hn q1304 q1305 q1306 q1307 q1308 E1303 C1303 V1303 A1303) q1305 (wd_75 hw) (wd_60 hw) (wd_62 hw) rfl (wd_61 hw) (wd_3 hw) (wd_63 hw) (by decide) pd_9 rfl rfl rfl (by decide) 0 (Nat.le_of_ble_eq_true rfl) (by decide) (by decide) (by decide) ?_
  rintro v1309 h1309 ⟨rfl, rfl⟩
  show WG _ _ _ _ _ _ _ _ _ _ _ _ 2 36 12 #[.val (.ref s)] [(.int (sameW xs [(101 : Int32), (100 : Int32), (103 : Int32), (101 : Int32), (108 : Int32), (105 : Int32), (115 : Int32), (116 : Int32)]))]
  refine W.if_eq 19 15 d_method_3_12 rfl rfl (fun _ => ?_) (fun hc => absurd (own_cm q0) hc)
  refine W.aloadN 20 d_method_3_19 rfl rfl rfl ?_
  refine W.ldcX 22 d_method_3_20 rfl (wd_76 hw) (own_wS hw) (own_EL hw) (List.mem_of_getElem? (i := 1) rfl) hv1303 all0 [(.int (97 : Int32)), (.int (100 : Int32)), (.int (106 : Int32)), (.int (108 : Int32)), (.int (105 : Int32)), (.int (115 : Int32)), (.int (116 : Int32))] ⟨by decide, rfl⟩ (by decide) 28 (by decide) (by decide) (by decide) (by decide) ?_
  intro h1310 la1310 lb1310 X1310 K1310 E1310 C1310 V1310 A1310 N1310
  have hv1310 := HV.here (Z := Z) (EL := consts_1) (h := h1310) (S := [])
  show WG _ _ _ _ _ _ _ _ _ _ _ _ 4 68 22 #[.val (.ref s)] [(.ref la1310), (.ref s)]
  have q1311 := (Sta.ext X1310 q1304)
  have q1312 := (q1305.keep K1310)
  have q1313 := (q1306.keep K1310 nin0)
  have q1314 := (q1307.keep K1310 nin0)
  have q1315 := (q1308.keep K1310 nin0)
  refine W.callV (rest := []) (argsL := [(.ref la1310)]) (a := s) 25 d_method_3_22 rfl (fun hn => c_eqg l Z a0 hw s la1310 b lb1310 kc hkc xs [(97 : Int32), (100 : Int32), (106 : Int32), (108 : Int32), (105 : Int32), (115 : Int32), (116 : Int32)] _ n0 hn q1311 q1312 q1313 q1314 q1315 E1310 C1310 V1310 A1310) q1312 (wd_75 hw) (wd_60 hw) (wd_62 hw) rfl (wd_61 hw) (wd_3 hw) (wd_63 hw) (by decide) pd_9 rfl rfl rfl (by decide) 0 (Nat.le_of_ble_eq_true rfl) (by decide) (by decide) (by decide) ?_
  rintro v1316 h1316 ⟨rfl, rfl⟩
  show WG _ _ _ _ _ _ _ _ _ _ _ _ 4 68 25 #[.val (.ref s)] [(.int (sameW xs [(97 : Int32), (100 : Int32), (106 : Int32), (108 : Int32), (105 : Int32), (115 : Int32), (116 : Int32)]))]
  refine W.if_eq 32 28 d_method_3_25 rfl rfl (fun _ => ?_) (fun hc => absurd (own_cm q1) hc)
  refine W.aloadN 33 d_method_3_32 rfl rfl rfl ?_
  refine W.ldcX 35 d_method_3_33 rfl (wd_77 hw) (own_wS hw) (own_EL hw) (List.mem_of_getElem? (i := 2) rfl) hv1310 all0 [(.int (109 : Int32)), (.int (116 : Int32)), (.int (120 : Int32))] ⟨by decide, rfl⟩ (by decide) 12 (by decide) (by decide) (by decide) (by decide) ?_
  intro h1317 la1317 lb1317 X1317 K1317 E1317 C1317 V1317 A1317 N1317
  have hv1317 := HV.here (Z := Z) (EL := consts_1) (h := h1317) (S := [])
  show WG _ _ _ _ _ _ _ _ _ _ _ _ 6 84 35 #[.val (.ref s)] [(.ref la1317), (.ref s)]
  have q1318 := (Sta.ext X1317 q1311)
  have q1319 := (q1312.keep K1317)
  have q1320 := (q1313.keep K1317 nin0)
  have q1321 := (q1314.keep K1317 nin0)
  have q1322 := (q1315.keep K1317 nin0)
  refine W.callV (rest := []) (argsL := [(.ref la1317)]) (a := s) 38 d_method_3_35 rfl (fun hn => c_eqg l Z a0 hw s la1317 b lb1317 kc hkc xs [(109 : Int32), (116 : Int32), (120 : Int32)] _ n0 hn q1318 q1319 q1320 q1321 q1322 E1317 C1317 V1317 A1317) q1319 (wd_75 hw) (wd_60 hw) (wd_62 hw) rfl (wd_61 hw) (wd_3 hw) (wd_63 hw) (by decide) pd_9 rfl rfl rfl (by decide) 0 (Nat.le_of_ble_eq_true rfl) (by decide) (by decide) (by decide) ?_
  rintro v1323 h1323 ⟨rfl, rfl⟩
  show WG _ _ _ _ _ _ _ _ _ _ _ _ 6 84 38 #[.val (.ref s)] [(.int (sameW xs [(109 : Int32), (116 : Int32), (120 : Int32)]))]
  refine W.if_eq 45 41 d_method_3_38 rfl rfl (fun hc => absurd hc (own_cn q2)) (fun _ => ?_)
  have q1324 := (Sta.ext X1317 (Sta.ext X1310 (Sta.ext X1303 S2)))
  refine W.getstatic 44 d_method_3_41 rfl (host := "") (Or.inl (wd_86 hw)) Via.refl q1324 ?_
  refine WG.retX (own_EL hw) hv1317 ?_
  exact W.areturn d_method_3_44 rfl rfl rfl rfl ⟨rfl, rfl⟩ (by decide) (by decide)
theorem c_exp3 (l : Launch) (Z : State) (a0 : Array Value) (hw : HwT Z a0) (s b : Addr) (kc : Int32) (hkc : ¬ kc = 0) (xs : List Int32) (e0 e1 e2 : Addr) (h : Heap) (n0 : Nat) (hn : n0 ≤ h.size) (FS : Sta Z h "java/lang/String" "COMPACT_STRINGS" "Z" (.int kc)) (S0 : Sta Z h "com/example/eccentra/eccentra/GraphFormat" "EDGELIST" "Lcom/example/eccentra/eccentra/GraphFormat;" (.ref e0)) (S1 : Sta Z h "com/example/eccentra/eccentra/GraphFormat" "ADJLIST" "Lcom/example/eccentra/eccentra/GraphFormat;" (.ref e1)) (S2 : Sta Z h "com/example/eccentra/eccentra/GraphFormat" "MTX" "Lcom/example/eccentra/eccentra/GraphFormat;" (.ref e2)) (Ex : Exa Z h s "java/lang/String") (Cx : Fld Z h s "java/lang/String" "coder" "B" (.int 0)) (Vx : Fld Z h s "java/lang/String" "value" "[B" (.ref b)) (Ax : Ary Z h b .byte (iv xs)) (q0 : sameW [(101 : Int32), (100 : Int32), (103 : Int32), (101 : Int32), (108 : Int32), (105 : Int32), (115 : Int32), (116 : Int32)] xs = 0) (q1 : sameW [(97 : Int32), (100 : Int32), (106 : Int32), (108 : Int32), (105 : Int32), (115 : Int32), (116 : Int32)] xs = 0) (q2 : sameW [(109 : Int32), (116 : Int32), (120 : Int32)] xs = 0) : ConX Z consts_1 [] [] l (⟨"com/example/eccentra/eccentra/GraphFormatNamedPinLaw", "expected", "(Ljava/lang/String;)Lcom/example/eccentra/eccentra/GraphFormat;"⟩ : MethodName) method_3_code 1 (some (.object "com/example/eccentra/eccentra/GraphFormat")) ({ frames := 2, cells := 6, slots := 96, locals := 48 } : Room) #[(.ref s)] h n0 (fun v h' => v = some .null) := by
  refine ConX.of_W (Ls := #[.val (.ref s)]) (plainFor_of_name pn_3) hn (fun m => by first | (simp [entryFrame, mkF, argsToLocals, Value.category]; done) | rfl) ?_
  have hv0 := HV.here (Z := Z) (EL := consts_1) (h := h) (S := [])
  refine W.aloadN 1 d_method_3_0 rfl rfl rfl ?_
  refine W.ifnonnull_ref 6 d_method_3_1 rfl ?_
  refine W.aloadN 7 d_method_3_6 rfl rfl rfl ?_
  refine W.ldcX 9 d_method_3_7 rfl (wd_72 hw) (own_wS hw) (own_EL hw) (List.mem_of_getElem? (i := 0) rfl) hv0 all0 [(.int (101 : Int32)), (.int (100 : Int32)), (.int (103 : Int32)), (.int (101 : Int32)), (.int (108 : Int32)), (.int (105 : Int32)), (.int (115 : Int32)), (.int (116 : Int32))] ⟨by decide, rfl⟩ (by decide) 32 (by decide) (by decide) (by decide) (by decide) ?_
  intro h1325 la1325 lb1325 X1325 K1325 E1325 C1325 V1325 A1325 N1325
  have hv1325 := HV.here (Z := Z) (EL := consts_1) (h := h1325) (S := [])
  show WG _ _ _ _ _ _ _ _ _ _ _ _ 2 36 9 #[.val (.ref s)] [(.ref la1325), (.ref s)]
  have q1326 := (Sta.ext X1325 FS)
  have q1327 := (Ex.keep K1325)
  have q1328 := (Cx.keep K1325 nin0)
  have q1329 := (Vx.keep K1325 nin0)
  have q1330 := (Ax.keep K1325 nin0)
  refine W.callV (rest := []) (argsL := [(.ref la1325)]) (a := s) 12 d_method_3_9 rfl (fun hn => c_eqg l Z a0 hw s la1325 b lb1325 kc hkc xs [(101 : Int32), (100 : Int32), (103 : Int32), (101 : Int32), (108 : Int32), (105 : Int32), (115 : Int32), (116 : Int32)] _ n0 hn q1326 q1327 q1328 q1329 q1330 E1325 C1325 V1325 A1325) q1327 (wd_75 hw) (wd_60 hw) (wd_62 hw) rfl (wd_61 hw) (wd_3 hw) (wd_63 hw) (by decide) pd_9 rfl rfl rfl (by decide) 0 (Nat.le_of_ble_eq_true rfl) (by decide) (by decide) (by decide) ?_
  rintro v1331 h1331 ⟨rfl, rfl⟩
  show WG _ _ _ _ _ _ _ _ _ _ _ _ 2 36 12 #[.val (.ref s)] [(.int (sameW xs [(101 : Int32), (100 : Int32), (103 : Int32), (101 : Int32), (108 : Int32), (105 : Int32), (115 : Int32), (116 : Int32)]))]
  refine W.if_eq 19 15 d_method_3_12 rfl rfl (fun _ => ?_) (fun hc => absurd (own_cm q0) hc)
  refine W.aloadN 20 d_method_3_19 rfl rfl rfl ?_
  refine W.ldcX 22 d_method_3_20 rfl (wd_76 hw) (own_wS hw) (own_EL hw) (List.mem_of_getElem? (i := 1) rfl) hv1325 all0 [(.int (97 : Int32)), (.int (100 : Int32)), (.int (106 : Int32)), (.int (108 : Int32)), (.int (105 : Int32)), (.int (115 : Int32)), (.int (116 : Int32))] ⟨by decide, rfl⟩ (by decide) 28 (by decide) (by decide) (by decide) (by decide) ?_
  intro h1332 la1332 lb1332 X1332 K1332 E1332 C1332 V1332 A1332 N1332
  have hv1332 := HV.here (Z := Z) (EL := consts_1) (h := h1332) (S := [])
  show WG _ _ _ _ _ _ _ _ _ _ _ _ 4 68 22 #[.val (.ref s)] [(.ref la1332), (.ref s)]
  have q1333 := (Sta.ext X1332 q1326)
  have q1334 := (q1327.keep K1332)
  have q1335 := (q1328.keep K1332 nin0)
  have q1336 := (q1329.keep K1332 nin0)
  have q1337 := (q1330.keep K1332 nin0)
  refine W.callV (rest := []) (argsL := [(.ref la1332)]) (a := s) 25 d_method_3_22 rfl (fun hn => c_eqg l Z a0 hw s la1332 b lb1332 kc hkc xs [(97 : Int32), (100 : Int32), (106 : Int32), (108 : Int32), (105 : Int32), (115 : Int32), (116 : Int32)] _ n0 hn q1333 q1334 q1335 q1336 q1337 E1332 C1332 V1332 A1332) q1334 (wd_75 hw) (wd_60 hw) (wd_62 hw) rfl (wd_61 hw) (wd_3 hw) (wd_63 hw) (by decide) pd_9 rfl rfl rfl (by decide) 0 (Nat.le_of_ble_eq_true rfl) (by decide) (by decide) (by decide) ?_
  rintro v1338 h1338 ⟨rfl, rfl⟩
  show WG _ _ _ _ _ _ _ _ _ _ _ _ 4 68 25 #[.val (.ref s)] [(.int (sameW xs [(97 : Int32), (100 : Int32), (106 : Int32), (108 : Int32), (105 : Int32), (115 : Int32), (116 : Int32)]))]
  refine W.if_eq 32 28 d_method_3_25 rfl rfl (fun _ => ?_) (fun hc => absurd (own_cm q1) hc)
  refine W.aloadN 33 d_method_3_32 rfl rfl rfl ?_
  refine W.ldcX 35 d_method_3_33 rfl (wd_77 hw) (own_wS hw) (own_EL hw) (List.mem_of_getElem? (i := 2) rfl) hv1332 all0 [(.int (109 : Int32)), (.int (116 : Int32)), (.int (120 : Int32))] ⟨by decide, rfl⟩ (by decide) 12 (by decide) (by decide) (by decide) (by decide) ?_
  intro h1339 la1339 lb1339 X1339 K1339 E1339 C1339 V1339 A1339 N1339
  have hv1339 := HV.here (Z := Z) (EL := consts_1) (h := h1339) (S := [])
  show WG _ _ _ _ _ _ _ _ _ _ _ _ 6 84 35 #[.val (.ref s)] [(.ref la1339), (.ref s)]
  have q1340 := (Sta.ext X1339 q1333)
  have q1341 := (q1334.keep K1339)
  have q1342 := (q1335.keep K1339 nin0)
  have q1343 := (q1336.keep K1339 nin0)
  have q1344 := (q1337.keep K1339 nin0)
  refine W.callV (rest := []) (argsL := [(.ref la1339)]) (a := s) 38 d_method_3_35 rfl (fun hn => c_eqg l Z a0 hw s la1339 b lb1339 kc hkc xs [(109 : Int32), (116 : Int32), (120 : Int32)] _ n0 hn q1340 q1341 q1342 q1343 q1344 E1339 C1339 V1339 A1339) q1341 (wd_75 hw) (wd_60 hw) (wd_62 hw) rfl (wd_61 hw) (wd_3 hw) (wd_63 hw) (by decide) pd_9 rfl rfl rfl (by decide) 0 (Nat.le_of_ble_eq_true rfl) (by decide) (by decide) (by decide) ?_
  rintro v1345 h1345 ⟨rfl, rfl⟩
  show WG _ _ _ _ _ _ _ _ _ _ _ _ 6 84 38 #[.val (.ref s)] [(.int (sameW xs [(109 : Int32), (116 : Int32), (120 : Int32)]))]
  refine W.if_eq 45 41 d_method_3_38 rfl rfl (fun _ => ?_) (fun hc => absurd (own_cm q2) hc)
  refine W.aconst_null 46 d_method_3_45 rfl ?_
  refine WG.retX (own_EL hw) hv1339 ?_
  exact W.areturn d_method_3_46 rfl rfl rfl rfl ⟨rfl, rfl⟩ (by decide) (by decide)
theorem c_expN (l : Launch) (Z : State) (a0 : Array Value) (hw : HwT Z a0) (h : Heap) (n0 : Nat) (hn : n0 ≤ h.size) : Con l Z (⟨"com/example/eccentra/eccentra/GraphFormatNamedPinLaw", "expected", "(Ljava/lang/String;)Lcom/example/eccentra/eccentra/GraphFormat;"⟩ : MethodName) method_3_code 1 (some (.object "com/example/eccentra/eccentra/GraphFormat")) ({ frames := 2, cells := 6, slots := 96, locals := 48 } : Room) #[.null] h n0 (fun v h' => v = some .null ∧ Keep h h' []) := by
  refine ConG.of_W (Ls := #[.val .null]) (plainFor_of_name pn_3) hn (fun m => by first | (simp [entryFrame, mkF, argsToLocals, Value.category]; done) | rfl) ?_
  refine W.aloadN 1 d_method_3_0 rfl rfl rfl ?_
  refine W.ifnonnull_null 4 d_method_3_1 rfl ?_
  refine W.aconst_null 5 d_method_3_4 rfl ?_
  exact W.areturn d_method_3_5 rfl rfl rfl rfl ⟨rfl, (Keep.refl _ [])⟩ (by decide) (by decide)
theorem law_00 (l : Launch) (Z : State) (a0 : Array Value) (hw : HwT Z a0) (p0 p1 p2 p3 : Int32) (kc : Int32) (hkc : ¬ kc = 0) (e0 e1 e2 t0 t1 t2 u0 u1 u2 vv : Addr) (h : Heap) (n0 : Nat) (hn : n0 ≤ h.size) (FS : Sta Z h "java/lang/String" "COMPACT_STRINGS" "Z" (.int kc)) (SV : Sta Z h "com/example/eccentra/eccentra/GraphFormat" "$VALUES" "[Lcom/example/eccentra/eccentra/GraphFormat;" (.ref vv)) (S0 : Sta Z h "com/example/eccentra/eccentra/GraphFormat" "EDGELIST" "Lcom/example/eccentra/eccentra/GraphFormat;" (.ref e0)) (S1 : Sta Z h "com/example/eccentra/eccentra/GraphFormat" "ADJLIST" "Lcom/example/eccentra/eccentra/GraphFormat;" (.ref e1)) (S2 : Sta Z h "com/example/eccentra/eccentra/GraphFormat" "MTX" "Lcom/example/eccentra/eccentra/GraphFormat;" (.ref e2)) (AV : Ary Z h vv (.object "com/example/eccentra/eccentra/GraphFormat") [.ref e0, .ref e1, .ref e2]) (EV : Exa Z h vv "[Lcom/example/eccentra/eccentra/GraphFormat;") (O0 : Fld Z h e0 "com/example/eccentra/eccentra/GraphFormat" "optionValue" "Ljava/lang/String;" (.ref t0)) (Et0 : Exa Z h t0 "java/lang/String") (Ct0 : Fld Z h t0 "java/lang/String" "coder" "B" (.int 0)) (Vt0 : Fld Z h t0 "java/lang/String" "value" "[B" (.ref u0)) (At0 : Ary Z h u0 .byte [(.int (101 : Int32)), (.int (100 : Int32)), (.int (103 : Int32)), (.int (101 : Int32)), (.int (108 : Int32)), (.int (105 : Int32)), (.int (115 : Int32)), (.int (116 : Int32))]) (O1 : Fld Z h e1 "com/example/eccentra/eccentra/GraphFormat" "optionValue" "Ljava/lang/String;" (.ref t1)) (Et1 : Exa Z h t1 "java/lang/String") (Ct1 : Fld Z h t1 "java/lang/String" "coder" "B" (.int 0)) (Vt1 : Fld Z h t1 "java/lang/String" "value" "[B" (.ref u1)) (At1 : Ary Z h u1 .byte [(.int (97 : Int32)), (.int (100 : Int32)), (.int (106 : Int32)), (.int (108 : Int32)), (.int (105 : Int32)), (.int (115 : Int32)), (.int (116 : Int32))]) (O2 : Fld Z h e2 "com/example/eccentra/eccentra/GraphFormat" "optionValue" "Ljava/lang/String;" (.ref t2)) (Et2 : Exa Z h t2 "java/lang/String") (Ct2 : Fld Z h t2 "java/lang/String" "coder" "B" (.int 0)) (Vt2 : Fld Z h t2 "java/lang/String" "value" "[B" (.ref u2)) (At2 : Ary Z h u2 .byte [(.int (109 : Int32)), (.int (116 : Int32)), (.int (120 : Int32))]) (ek : (p0 &&& 2147483647) % 3 = 0) (em : (p1 &&& 2147483647) % 5 = 0) : ConX Z consts_1 [] tables_1 l x code maxLocals ret room_1 #[(.int p0), (.int p1), (.int p2), (.int p3)] h n0 (fun v _ => v = some (.int 1)) := by
  refine ConX.of_W (Ls := #[.val (.int p0), .val (.int p1), .val (.int p2), .val (.int p3), .unset, .unset, .unset, .unset, .unset]) (plainFor_of_name pn_3) hn (fun m => by first | (simp [entryFrame, mkF, argsToLocals, Value.category, maxLocals]; done) | rfl) ?_
  have hv0 := HV.here (Z := Z) (EL := consts_1) (h := h) (S := [])
  refine W.iloadN 1 at_0 rfl rfl ?_
  refine W.ldcI 3 at_1 rfl (wd_0 hw) ?_
  refine W.iand 4 at_3 rfl (p0 &&& (2147483647 : Int32)) rfl ?_
  refine W.iconst 5 at_4 rfl (3 : Int32) rfl ?_
  refine W.irem 6 at_5 rfl (by decide) (0 : Int32) ek ?_
  refine W.istore 8 at_6 rfl #[.val (.int p0), .val (.int p1), .val (.int p2), .val (.int p3), .val (.int (0 : Int32)), .unset, .unset, .unset, .unset] rfl ?_
  refine W.iloadN 9 at_8 rfl rfl ?_
  refine W.ldcI 11 at_9 rfl (wd_0 hw) ?_
  refine W.iand 12 at_11 rfl (p1 &&& (2147483647 : Int32)) rfl ?_
  refine W.iconst 13 at_12 rfl (5 : Int32) rfl ?_
  refine W.irem 14 at_13 rfl (by decide) (0 : Int32) em ?_
  refine W.istore 16 at_14 rfl #[.val (.int p0), .val (.int p1), .val (.int p2), .val (.int p3), .val (.int (0 : Int32)), .val (.int (0 : Int32)), .unset, .unset, .unset] rfl ?_
  refine W.iloadN 17 at_16 rfl rfl ?_
  refine W.sipush 20 at_17 rfl (255 : Int32) rfl ?_
  refine W.iand 21 at_20 rfl (p2 &&& (255 : Int32)) rfl ?_
  refine W.i2c 22 at_21 rfl (p2 &&& (255 : Int32)) (ch_nar (own_m p2)) ?_
  refine W.istore 24 at_22 rfl #[.val (.int p0), .val (.int p1), .val (.int p2), .val (.int p3), .val (.int (0 : Int32)), .val (.int (0 : Int32)), .val (.int (p2 &&& (255 : Int32))), .unset, .unset] rfl ?_
  refine W.iload 26 at_24 rfl rfl ?_
  refine W.if_ne 46 29 at_26 rfl rfl (fun hc => absurd (by decide) hc) (fun _ => ?_)
  refine W.new 32 at_29 rfl (wd_1 hw) (wd_2 hw) (wd_3 hw) (by decide) (by decide) ?_
  intro h1346 o1346 g1346 ge1346 X1346 K1346 E1346 D1346
  have ne1347 : e0 ≠ o1346 := Nat.ne_of_lt (Nat.lt_of_lt_of_eq O0.lt g1346.symm)
  have ne1348 : e1 ≠ o1346 := Nat.ne_of_lt (Nat.lt_of_lt_of_eq O1.lt g1346.symm)
  have ne1349 : e2 ≠ o1346 := Nat.ne_of_lt (Nat.lt_of_lt_of_eq O2.lt g1346.symm)
  have ne1350 : t0 ≠ o1346 := Nat.ne_of_lt (Nat.lt_of_lt_of_eq Et0.lt g1346.symm)
  have ne1351 : t1 ≠ o1346 := Nat.ne_of_lt (Nat.lt_of_lt_of_eq Et1.lt g1346.symm)
  have ne1352 : t2 ≠ o1346 := Nat.ne_of_lt (Nat.lt_of_lt_of_eq Et2.lt g1346.symm)
  have ne1353 : u0 ≠ o1346 := Nat.ne_of_lt (Nat.lt_of_lt_of_eq At0.lt g1346.symm)
  have ne1354 : u1 ≠ o1346 := Nat.ne_of_lt (Nat.lt_of_lt_of_eq At1.lt g1346.symm)
  have ne1355 : u2 ≠ o1346 := Nat.ne_of_lt (Nat.lt_of_lt_of_eq At2.lt g1346.symm)
  have ne1356 : vv ≠ o1346 := Nat.ne_of_lt (Nat.lt_of_lt_of_eq AV.lt g1346.symm)
  have hv1357 := HV.new hv0 K1346 all0 (Nat.le_of_eq g1346.symm)
  have f1358 : Fld _ _ o1346 "java/lang/String" "coder" "B" (.int (0 : Int32)) := D1346 (Or.inr (wd_32 hw)) (ty := .byte) (by decide)
  have f1359 : Fld _ _ o1346 "java/lang/String" "value" "[B" .null := D1346 (Or.inr (wd_34 hw)) (ty := (.array .byte)) (by decide)
  show WG _ _ _ _ _ _ _ _ _ _ _ _ 1 4 32 #[.val (.int p0), .val (.int p1), .val (.int p2), .val (.int p3), .val (.int (0 : Int32)), .val (.int (0 : Int32)), .val (.int (p2 &&& (255 : Int32))), .unset, .unset] [(.ref o1346)]
  refine W.dup 33 at_32 rfl rfl ?_
  refine W.iload 35 at_33 rfl rfl ?_
  refine W.callS (rest := [(.ref o1346), (.ref o1346)]) (argsL := [(.int (0 : Int32))]) 38 at_35 rfl (fun hn => c_full0 l Z a0 hw  _ n0 hn ) (wd_79 hw) (wd_80 hw) (wd_6 hw) (wd_81 hw) (by decide) pd_10 rfl rfl rfl (by decide) 2 (Nat.le_of_ble_eq_true rfl) (by decide) (by decide) (by decide) ?_
  rintro v1360 h1360 ⟨d1360, rfl, sz1360, gd1360, K1360, A1360⟩
  have q1361 := (O0.keep K1346 nin0)
  have ne1362 : e0 ≠ d1360 := Nat.ne_of_lt (Nat.lt_of_lt_of_le q1361.lt sz1360)
  have q1363 := (O1.keep K1346 nin0)
  have ne1364 : e1 ≠ d1360 := Nat.ne_of_lt (Nat.lt_of_lt_of_le q1363.lt sz1360)
  have q1365 := (O2.keep K1346 nin0)
  have ne1366 : e2 ≠ d1360 := Nat.ne_of_lt (Nat.lt_of_lt_of_le q1365.lt sz1360)
  have ne1367 : o1346 ≠ d1360 := Nat.ne_of_lt (Nat.lt_of_lt_of_le E1346.lt sz1360)
  have q1368 := (Et0.keep K1346)
  have ne1369 : t0 ≠ d1360 := Nat.ne_of_lt (Nat.lt_of_lt_of_le q1368.lt sz1360)
  have q1370 := (Et1.keep K1346)
  have ne1371 : t1 ≠ d1360 := Nat.ne_of_lt (Nat.lt_of_lt_of_le q1370.lt sz1360)
  have q1372 := (Et2.keep K1346)
  have ne1373 : t2 ≠ d1360 := Nat.ne_of_lt (Nat.lt_of_lt_of_le q1372.lt sz1360)
  have q1374 := (At0.keep K1346 nin0)
  have ne1375 : u0 ≠ d1360 := Nat.ne_of_lt (Nat.lt_of_lt_of_le q1374.lt sz1360)
  have q1376 := (At1.keep K1346 nin0)
  have ne1377 : u1 ≠ d1360 := Nat.ne_of_lt (Nat.lt_of_lt_of_le q1376.lt sz1360)
  have q1378 := (At2.keep K1346 nin0)
  have ne1379 : u2 ≠ d1360 := Nat.ne_of_lt (Nat.lt_of_lt_of_le q1378.lt sz1360)
  have q1380 := (AV.keep K1346 nin0)
  have ne1381 : vv ≠ d1360 := Nat.ne_of_lt (Nat.lt_of_lt_of_le q1380.lt sz1360)
  have hv1382 := HV.new hv1357 K1360 all0 sz1360
  show WG _ _ _ _ _ _ _ _ _ _ _ _ 2 13 38 #[.val (.int p0), .val (.int p1), .val (.int p2), .val (.int p3), .val (.int (0 : Int32)), .val (.int (0 : Int32)), .val (.int (p2 &&& (255 : Int32))), .unset, .unset] [(.ref d1360), (.ref o1346), (.ref o1346)]
  have q1383 := (Sta.keepN K1360 all0 (Sta.ext X1346 FS))
  have q1384 := (E1346.keep K1360)
  have q1385 := (f1358.keep K1360 nin0)
  have q1386 := (f1359.keep K1360 nin0)
  refine W.callInit (rest := [(.ref o1346)]) (argsL := [(.ref d1360)]) (a := o1346) 41 at_38 rfl (fun hn => c_i1g l Z a0 hw o1346 d1360 kc hkc [(101 : Int32), (100 : Int32), (103 : Int32), (101 : Int32), (108 : Int32), (105 : Int32), (115 : Int32), (116 : Int32)] _ n0 hn ne1367 ge1346 (chC (ch_k (by decide) (by decide)) (chC (ch_k (by decide) (by decide)) (chC (ch_k (by decide) (by decide)) (chC (ch_k (by decide) (by decide)) (chC (ch_k (by decide) (by decide)) (chC (ch_k (by decide) (by decide)) (chC (ch_k (by decide) (by decide)) (chC (ch_k (by decide) (by decide)) chN)))))))) (Nat.le_of_ble_eq_true rfl) (show ¬ (8 : Nat).toInt32 = 0 by decide) q1383 q1384 q1385 q1386 A1360) rfl (wd_9 hw) (wd_10 hw) (wd_3 hw) (wd_11 hw) (by decide) pd_11 rfl rfl rfl (by decide) 1 (Nat.le_of_ble_eq_true rfl) (by decide) (by decide) (by decide) ?_
  rintro v1387 h1387 ⟨rfl, K1387, b1387, C1387, V1387, A1387⟩
  have hv1388 := HV.keep hv1382 K1387 (allS (List.mem_of_getElem? (i := 1) rfl) all0)
  show WG _ _ _ _ _ _ _ _ _ _ _ _ 3 29 41 #[.val (.int p0), .val (.int p1), .val (.int p2), .val (.int p3), .val (.int (0 : Int32)), .val (.int (0 : Int32)), .val (.int (p2 &&& (255 : Int32))), .unset, .unset] [(.ref o1346)]
  refine W.astore 43 at_41 rfl rfl #[.val (.int p0), .val (.int p1), .val (.int p2), .val (.int p3), .val (.int (0 : Int32)), .val (.int (0 : Int32)), .val (.int (p2 &&& (255 : Int32))), .val (.ref o1346), .unset] rfl ?_
  refine W.goto 173 at_43 rfl ?_
  refine W.aload 175 at_173 rfl rfl rfl ?_
  have q1389 := (Sta.keepN K1387 (allS q1384.nostat all0) q1383)
  have q1390 := (Sta.keepN K1387 (allS q1384.nostat all0) (Sta.keepN K1360 all0 (Sta.ext X1346 SV)))
  have q1391 := (Sta.keepN K1387 (allS q1384.nostat all0) (Sta.keepN K1360 all0 (Sta.ext X1346 S0)))
  have q1392 := (Sta.keepN K1387 (allS q1384.nostat all0) (Sta.keepN K1360 all0 (Sta.ext X1346 S1)))
  have q1393 := (Sta.keepN K1387 (allS q1384.nostat all0) (Sta.keepN K1360 all0 (Sta.ext X1346 S2)))
  have q1394 := ((q1380.keep K1360 nin0).keep K1387 (ninS ne1356 nin0))
  have q1395 := (((EV.keep K1346).keep K1360).keep K1387)
  have q1396 := ((q1361.keep K1360 nin0).keep K1387 (ninS ne1347 nin0))
  have q1397 := ((q1368.keep K1360).keep K1387)
  have q1398 := (((Ct0.keep K1346 nin0).keep K1360 nin0).keep K1387 (ninS ne1350 nin0))
  have q1399 := (((Vt0.keep K1346 nin0).keep K1360 nin0).keep K1387 (ninS ne1350 nin0))
  have q1400 := ((q1374.keep K1360 nin0).keep K1387 (ninS ne1353 nin0))
  have q1401 := ((q1363.keep K1360 nin0).keep K1387 (ninS ne1348 nin0))
  have q1402 := ((q1370.keep K1360).keep K1387)
  have q1403 := (((Ct1.keep K1346 nin0).keep K1360 nin0).keep K1387 (ninS ne1351 nin0))
  have q1404 := (((Vt1.keep K1346 nin0).keep K1360 nin0).keep K1387 (ninS ne1351 nin0))
  have q1405 := ((q1376.keep K1360 nin0).keep K1387 (ninS ne1354 nin0))
  have q1406 := ((q1365.keep K1360 nin0).keep K1387 (ninS ne1349 nin0))
  have q1407 := ((q1372.keep K1360).keep K1387)
  have q1408 := (((Ct2.keep K1346 nin0).keep K1360 nin0).keep K1387 (ninS ne1352 nin0))
  have q1409 := (((Vt2.keep K1346 nin0).keep K1360 nin0).keep K1387 (ninS ne1352 nin0))
  have q1410 := ((q1378.keep K1360 nin0).keep K1387 (ninS ne1355 nin0))
  have q1411 := (q1384.keep K1387)
  refine W.callS (rest := []) (argsL := [(.ref o1346)]) 178 at_175 rfl (fun hn => c_named l Z a0 hw o1346 b1387 kc hkc ([(101 : Int32), (100 : Int32), (103 : Int32), (101 : Int32), (108 : Int32), (105 : Int32), (115 : Int32), (116 : Int32)].map byteOf) e0 e1 e2 t0 t1 t2 u0 u1 u2 vv _ n0 hn q1389 q1390 q1391 q1392 q1393 q1394 q1395 q1396 q1397 q1398 q1399 q1400 q1401 q1402 q1403 q1404 q1405 q1406 q1407 q1408 q1409 q1410 q1411 C1387 V1387 A1387) (wd_35 hw) (wd_36 hw) (wd_37 hw) (wd_38 hw) (by decide) pd_12 rfl rfl rfl (by decide) 0 (Nat.le_of_ble_eq_true rfl) (by decide) (by decide) (by decide) ?_
  rintro v1412 h1412 (⟨q0_1412, rfl, K1412⟩ | ⟨q0_1412, q1_1412, rfl, K1412⟩ | ⟨q0_1412, q1_1412, q2_1412, rfl, K1412⟩ | ⟨q0_1412, q1_1412, q2_1412, rfl, K1412⟩)
  · have hv1413 := HV.keep hv1388 K1412 all0
    show WG _ _ _ _ _ _ _ _ _ _ _ _ 4 32 178 #[.val (.int p0), .val (.int p1), .val (.int p2), .val (.int p3), .val (.int (0 : Int32)), .val (.int (0 : Int32)), .val (.int (p2 &&& (255 : Int32))), .val (.ref o1346), .unset] [(.ref e0)]
    refine W.astore 180 at_178 rfl rfl #[.val (.int p0), .val (.int p1), .val (.int p2), .val (.int p3), .val (.int (0 : Int32)), .val (.int (0 : Int32)), .val (.int (p2 &&& (255 : Int32))), .val (.ref o1346), .val (.ref e0)] rfl ?_
    refine W.aload 182 at_180 rfl rfl rfl ?_
    refine W.aload 184 at_182 rfl rfl rfl ?_
    have q1414 := (Sta.keepN K1412 all0 q1389)
    have q1415 := (Sta.keepN K1412 all0 q1391)
    have q1416 := (Sta.keepN K1412 all0 q1392)
    have q1417 := (Sta.keepN K1412 all0 q1393)
    have q1418 := (q1411.keep K1412)
    have q1419 := (C1387.keep K1412 nin0)
    have q1420 := (V1387.keep K1412 nin0)
    have q1421 := (A1387.keep K1412 nin0)
    have q1423 := ((A1360.keep K1387 (ninS (Ne.symm ne1367) nin0)).keep K1412 nin0)
    refine W.callSX (rest := [(.ref e0)]) (argsL := [(.ref o1346)]) 187 at_184 rfl (fun hn => c_exp0 l Z a0 hw o1346 b1387 kc hkc ([(101 : Int32), (100 : Int32), (103 : Int32), (101 : Int32), (108 : Int32), (105 : Int32), (115 : Int32), (116 : Int32)].map byteOf) e0 e1 e2 _ n0 hn q1414 q1415 q1416 q1417 q1418 q1419 q1420 q1421 q0_1412) (wd_69 hw) (wd_70 hw) (wd_6 hw) (wd_71 hw) (by decide) pd_12 rfl rfl rfl (by decide) 1 (Nat.le_of_ble_eq_true rfl) (by decide) (by decide) (by decide) (own_EL hw) hv1413 (allS q1423.lt (allS q1418.lt all0)) all0 ?_
    rintro v1422 h1422 rfl
    have hv1422 := HV.here (Z := Z) (EL := consts_1) (h := h1422) (S := [d1360, o1346])
    show WG _ _ _ _ _ _ _ _ _ _ _ _ 10 128 187 #[.val (.int p0), .val (.int p1), .val (.int p2), .val (.int p3), .val (.int (0 : Int32)), .val (.int (0 : Int32)), .val (.int (p2 &&& (255 : Int32))), .val (.ref o1346), .val (.ref e0)] [(.ref e0), (.ref e0)]
    refine W.acmp_ne 194 190 at_187 rfl rfl rfl rfl (fun hc => absurd rfl hc) (fun _ => ?_)
    refine W.iconst 191 at_190 rfl (1 : Int32) rfl ?_
    refine W.goto 195 at_191 rfl ?_
    refine WG.retX (own_EL hw) hv1422 ?_
    exact W.ireturnN (t := .boolean) at_195 rfl (by simp) (1 : Int32) rfl ⟨rfl, rfl⟩ (by decide) (by decide)
  · have hv1424 := HV.keep hv1388 K1412 all0
    show WG _ _ _ _ _ _ _ _ _ _ _ _ 4 32 178 #[.val (.int p0), .val (.int p1), .val (.int p2), .val (.int p3), .val (.int (0 : Int32)), .val (.int (0 : Int32)), .val (.int (p2 &&& (255 : Int32))), .val (.ref o1346), .unset] [(.ref e1)]
    refine W.astore 180 at_178 rfl rfl #[.val (.int p0), .val (.int p1), .val (.int p2), .val (.int p3), .val (.int (0 : Int32)), .val (.int (0 : Int32)), .val (.int (p2 &&& (255 : Int32))), .val (.ref o1346), .val (.ref e1)] rfl ?_
    refine W.aload 182 at_180 rfl rfl rfl ?_
    refine W.aload 184 at_182 rfl rfl rfl ?_
    have q1425 := (Sta.keepN K1412 all0 q1389)
    have q1426 := (Sta.keepN K1412 all0 q1391)
    have q1427 := (Sta.keepN K1412 all0 q1392)
    have q1428 := (Sta.keepN K1412 all0 q1393)
    have q1429 := (q1411.keep K1412)
    have q1430 := (C1387.keep K1412 nin0)
    have q1431 := (V1387.keep K1412 nin0)
    have q1432 := (A1387.keep K1412 nin0)
    have q1434 := ((A1360.keep K1387 (ninS (Ne.symm ne1367) nin0)).keep K1412 nin0)
    refine W.callSX (rest := [(.ref e1)]) (argsL := [(.ref o1346)]) 187 at_184 rfl (fun hn => c_exp1 l Z a0 hw o1346 b1387 kc hkc ([(101 : Int32), (100 : Int32), (103 : Int32), (101 : Int32), (108 : Int32), (105 : Int32), (115 : Int32), (116 : Int32)].map byteOf) e0 e1 e2 _ n0 hn q1425 q1426 q1427 q1428 q1429 q1430 q1431 q1432 q0_1412 q1_1412) (wd_69 hw) (wd_70 hw) (wd_6 hw) (wd_71 hw) (by decide) pd_12 rfl rfl rfl (by decide) 1 (Nat.le_of_ble_eq_true rfl) (by decide) (by decide) (by decide) (own_EL hw) hv1424 (allS q1434.lt (allS q1429.lt all0)) all0 ?_
    rintro v1433 h1433 rfl
    have hv1433 := HV.here (Z := Z) (EL := consts_1) (h := h1433) (S := [d1360, o1346])
    show WG _ _ _ _ _ _ _ _ _ _ _ _ 10 128 187 #[.val (.int p0), .val (.int p1), .val (.int p2), .val (.int p3), .val (.int (0 : Int32)), .val (.int (0 : Int32)), .val (.int (p2 &&& (255 : Int32))), .val (.ref o1346), .val (.ref e1)] [(.ref e1), (.ref e1)]
    refine W.acmp_ne 194 190 at_187 rfl rfl rfl rfl (fun hc => absurd rfl hc) (fun _ => ?_)
    refine W.iconst 191 at_190 rfl (1 : Int32) rfl ?_
    refine W.goto 195 at_191 rfl ?_
    refine WG.retX (own_EL hw) hv1433 ?_
    exact W.ireturnN (t := .boolean) at_195 rfl (by simp) (1 : Int32) rfl ⟨rfl, rfl⟩ (by decide) (by decide)
  · have hv1435 := HV.keep hv1388 K1412 all0
    show WG _ _ _ _ _ _ _ _ _ _ _ _ 4 32 178 #[.val (.int p0), .val (.int p1), .val (.int p2), .val (.int p3), .val (.int (0 : Int32)), .val (.int (0 : Int32)), .val (.int (p2 &&& (255 : Int32))), .val (.ref o1346), .unset] [(.ref e2)]
    refine W.astore 180 at_178 rfl rfl #[.val (.int p0), .val (.int p1), .val (.int p2), .val (.int p3), .val (.int (0 : Int32)), .val (.int (0 : Int32)), .val (.int (p2 &&& (255 : Int32))), .val (.ref o1346), .val (.ref e2)] rfl ?_
    refine W.aload 182 at_180 rfl rfl rfl ?_
    refine W.aload 184 at_182 rfl rfl rfl ?_
    have q1436 := (Sta.keepN K1412 all0 q1389)
    have q1437 := (Sta.keepN K1412 all0 q1391)
    have q1438 := (Sta.keepN K1412 all0 q1392)
    have q1439 := (Sta.keepN K1412 all0 q1393)
    have q1440 := (q1411.keep K1412)
    have q1441 := (C1387.keep K1412 nin0)
    have q1442 := (V1387.keep K1412 nin0)
    have q1443 := (A1387.keep K1412 nin0)
    have q1445 := ((A1360.keep K1387 (ninS (Ne.symm ne1367) nin0)).keep K1412 nin0)
    refine W.callSX (rest := [(.ref e2)]) (argsL := [(.ref o1346)]) 187 at_184 rfl (fun hn => c_exp2 l Z a0 hw o1346 b1387 kc hkc ([(101 : Int32), (100 : Int32), (103 : Int32), (101 : Int32), (108 : Int32), (105 : Int32), (115 : Int32), (116 : Int32)].map byteOf) e0 e1 e2 _ n0 hn q1436 q1437 q1438 q1439 q1440 q1441 q1442 q1443 q0_1412 q1_1412 q2_1412) (wd_69 hw) (wd_70 hw) (wd_6 hw) (wd_71 hw) (by decide) pd_12 rfl rfl rfl (by decide) 1 (Nat.le_of_ble_eq_true rfl) (by decide) (by decide) (by decide) (own_EL hw) hv1435 (allS q1445.lt (allS q1440.lt all0)) all0 ?_
    rintro v1444 h1444 rfl
    have hv1444 := HV.here (Z := Z) (EL := consts_1) (h := h1444) (S := [d1360, o1346])
    show WG _ _ _ _ _ _ _ _ _ _ _ _ 10 128 187 #[.val (.int p0), .val (.int p1), .val (.int p2), .val (.int p3), .val (.int (0 : Int32)), .val (.int (0 : Int32)), .val (.int (p2 &&& (255 : Int32))), .val (.ref o1346), .val (.ref e2)] [(.ref e2), (.ref e2)]
    refine W.acmp_ne 194 190 at_187 rfl rfl rfl rfl (fun hc => absurd rfl hc) (fun _ => ?_)
    refine W.iconst 191 at_190 rfl (1 : Int32) rfl ?_
    refine W.goto 195 at_191 rfl ?_
    refine WG.retX (own_EL hw) hv1444 ?_
    exact W.ireturnN (t := .boolean) at_195 rfl (by simp) (1 : Int32) rfl ⟨rfl, rfl⟩ (by decide) (by decide)
  · have hv1446 := HV.keep hv1388 K1412 all0
    show WG _ _ _ _ _ _ _ _ _ _ _ _ 4 32 178 #[.val (.int p0), .val (.int p1), .val (.int p2), .val (.int p3), .val (.int (0 : Int32)), .val (.int (0 : Int32)), .val (.int (p2 &&& (255 : Int32))), .val (.ref o1346), .unset] [.null]
    refine W.astore 180 at_178 rfl rfl #[.val (.int p0), .val (.int p1), .val (.int p2), .val (.int p3), .val (.int (0 : Int32)), .val (.int (0 : Int32)), .val (.int (p2 &&& (255 : Int32))), .val (.ref o1346), .val .null] rfl ?_
    refine W.aload 182 at_180 rfl rfl rfl ?_
    refine W.aload 184 at_182 rfl rfl rfl ?_
    have q1447 := (Sta.keepN K1412 all0 q1389)
    have q1448 := (Sta.keepN K1412 all0 q1391)
    have q1449 := (Sta.keepN K1412 all0 q1392)
    have q1450 := (Sta.keepN K1412 all0 q1393)
    have q1451 := (q1411.keep K1412)
    have q1452 := (C1387.keep K1412 nin0)
    have q1453 := (V1387.keep K1412 nin0)
    have q1454 := (A1387.keep K1412 nin0)
    have q1456 := ((A1360.keep K1387 (ninS (Ne.symm ne1367) nin0)).keep K1412 nin0)
    refine W.callSX (rest := [.null]) (argsL := [(.ref o1346)]) 187 at_184 rfl (fun hn => c_exp3 l Z a0 hw o1346 b1387 kc hkc ([(101 : Int32), (100 : Int32), (103 : Int32), (101 : Int32), (108 : Int32), (105 : Int32), (115 : Int32), (116 : Int32)].map byteOf) e0 e1 e2 _ n0 hn q1447 q1448 q1449 q1450 q1451 q1452 q1453 q1454 q0_1412 q1_1412 q2_1412) (wd_69 hw) (wd_70 hw) (wd_6 hw) (wd_71 hw) (by decide) pd_12 rfl rfl rfl (by decide) 1 (Nat.le_of_ble_eq_true rfl) (by decide) (by decide) (by decide) (own_EL hw) hv1446 (allS q1456.lt (allS q1451.lt all0)) all0 ?_
    rintro v1455 h1455 rfl
    have hv1455 := HV.here (Z := Z) (EL := consts_1) (h := h1455) (S := [d1360, o1346])
    show WG _ _ _ _ _ _ _ _ _ _ _ _ 10 128 187 #[.val (.int p0), .val (.int p1), .val (.int p2), .val (.int p3), .val (.int (0 : Int32)), .val (.int (0 : Int32)), .val (.int (p2 &&& (255 : Int32))), .val (.ref o1346), .val .null] [.null, .null]
    refine W.acmp_ne 194 190 at_187 rfl rfl rfl rfl (fun hc => absurd rfl hc) (fun _ => ?_)
    refine W.iconst 191 at_190 rfl (1 : Int32) rfl ?_
    refine W.goto 195 at_191 rfl ?_
    refine WG.retX (own_EL hw) hv1455 ?_
    exact W.ireturnN (t := .boolean) at_195 rfl (by simp) (1 : Int32) rfl ⟨rfl, rfl⟩ (by decide) (by decide)
theorem law_01 (l : Launch) (Z : State) (a0 : Array Value) (hw : HwT Z a0) (p0 p1 p2 p3 : Int32) (kc : Int32) (hkc : ¬ kc = 0) (e0 e1 e2 t0 t1 t2 u0 u1 u2 vv : Addr) (h : Heap) (n0 : Nat) (hn : n0 ≤ h.size) (FS : Sta Z h "java/lang/String" "COMPACT_STRINGS" "Z" (.int kc)) (SV : Sta Z h "com/example/eccentra/eccentra/GraphFormat" "$VALUES" "[Lcom/example/eccentra/eccentra/GraphFormat;" (.ref vv)) (S0 : Sta Z h "com/example/eccentra/eccentra/GraphFormat" "EDGELIST" "Lcom/example/eccentra/eccentra/GraphFormat;" (.ref e0)) (S1 : Sta Z h "com/example/eccentra/eccentra/GraphFormat" "ADJLIST" "Lcom/example/eccentra/eccentra/GraphFormat;" (.ref e1)) (S2 : Sta Z h "com/example/eccentra/eccentra/GraphFormat" "MTX" "Lcom/example/eccentra/eccentra/GraphFormat;" (.ref e2)) (AV : Ary Z h vv (.object "com/example/eccentra/eccentra/GraphFormat") [.ref e0, .ref e1, .ref e2]) (EV : Exa Z h vv "[Lcom/example/eccentra/eccentra/GraphFormat;") (O0 : Fld Z h e0 "com/example/eccentra/eccentra/GraphFormat" "optionValue" "Ljava/lang/String;" (.ref t0)) (Et0 : Exa Z h t0 "java/lang/String") (Ct0 : Fld Z h t0 "java/lang/String" "coder" "B" (.int 0)) (Vt0 : Fld Z h t0 "java/lang/String" "value" "[B" (.ref u0)) (At0 : Ary Z h u0 .byte [(.int (101 : Int32)), (.int (100 : Int32)), (.int (103 : Int32)), (.int (101 : Int32)), (.int (108 : Int32)), (.int (105 : Int32)), (.int (115 : Int32)), (.int (116 : Int32))]) (O1 : Fld Z h e1 "com/example/eccentra/eccentra/GraphFormat" "optionValue" "Ljava/lang/String;" (.ref t1)) (Et1 : Exa Z h t1 "java/lang/String") (Ct1 : Fld Z h t1 "java/lang/String" "coder" "B" (.int 0)) (Vt1 : Fld Z h t1 "java/lang/String" "value" "[B" (.ref u1)) (At1 : Ary Z h u1 .byte [(.int (97 : Int32)), (.int (100 : Int32)), (.int (106 : Int32)), (.int (108 : Int32)), (.int (105 : Int32)), (.int (115 : Int32)), (.int (116 : Int32))]) (O2 : Fld Z h e2 "com/example/eccentra/eccentra/GraphFormat" "optionValue" "Ljava/lang/String;" (.ref t2)) (Et2 : Exa Z h t2 "java/lang/String") (Ct2 : Fld Z h t2 "java/lang/String" "coder" "B" (.int 0)) (Vt2 : Fld Z h t2 "java/lang/String" "value" "[B" (.ref u2)) (At2 : Ary Z h u2 .byte [(.int (109 : Int32)), (.int (116 : Int32)), (.int (120 : Int32))]) (ek : (p0 &&& 2147483647) % 3 = 0) (em : (p1 &&& 2147483647) % 5 = 1) : ConX Z consts_1 [] tables_1 l x code maxLocals ret room_1 #[(.int p0), (.int p1), (.int p2), (.int p3)] h n0 (fun v _ => v = some (.int 1)) := by
  refine ConX.of_W (Ls := #[.val (.int p0), .val (.int p1), .val (.int p2), .val (.int p3), .unset, .unset, .unset, .unset, .unset]) (plainFor_of_name pn_3) hn (fun m => by first | (simp [entryFrame, mkF, argsToLocals, Value.category, maxLocals]; done) | rfl) ?_
  have hv0 := HV.here (Z := Z) (EL := consts_1) (h := h) (S := [])
  refine W.iloadN 1 at_0 rfl rfl ?_
  refine W.ldcI 3 at_1 rfl (wd_0 hw) ?_
  refine W.iand 4 at_3 rfl (p0 &&& (2147483647 : Int32)) rfl ?_
  refine W.iconst 5 at_4 rfl (3 : Int32) rfl ?_
  refine W.irem 6 at_5 rfl (by decide) (0 : Int32) ek ?_
  refine W.istore 8 at_6 rfl #[.val (.int p0), .val (.int p1), .val (.int p2), .val (.int p3), .val (.int (0 : Int32)), .unset, .unset, .unset, .unset] rfl ?_
  refine W.iloadN 9 at_8 rfl rfl ?_
  refine W.ldcI 11 at_9 rfl (wd_0 hw) ?_
  refine W.iand 12 at_11 rfl (p1 &&& (2147483647 : Int32)) rfl ?_
  refine W.iconst 13 at_12 rfl (5 : Int32) rfl ?_
  refine W.irem 14 at_13 rfl (by decide) (1 : Int32) em ?_
  refine W.istore 16 at_14 rfl #[.val (.int p0), .val (.int p1), .val (.int p2), .val (.int p3), .val (.int (0 : Int32)), .val (.int (1 : Int32)), .unset, .unset, .unset] rfl ?_
  refine W.iloadN 17 at_16 rfl rfl ?_
  refine W.sipush 20 at_17 rfl (255 : Int32) rfl ?_
  refine W.iand 21 at_20 rfl (p2 &&& (255 : Int32)) rfl ?_
  refine W.i2c 22 at_21 rfl (p2 &&& (255 : Int32)) (ch_nar (own_m p2)) ?_
  refine W.istore 24 at_22 rfl #[.val (.int p0), .val (.int p1), .val (.int p2), .val (.int p3), .val (.int (0 : Int32)), .val (.int (1 : Int32)), .val (.int (p2 &&& (255 : Int32))), .unset, .unset] rfl ?_
  refine W.iload 26 at_24 rfl rfl ?_
  refine W.if_ne 46 29 at_26 rfl rfl (fun _ => ?_) (fun hc => absurd hc (by decide))
  refine W.iload 48 at_46 rfl rfl ?_
  refine W.iconst 49 at_48 rfl (1 : Int32) rfl ?_
  refine W.icmp_ne 86 52 at_49 rfl rfl (fun hc => absurd (by decide) hc) (fun _ => ?_)
  refine W.iload 54 at_52 rfl rfl ?_
  refine W.callS (rest := []) (argsL := [(.int (0 : Int32))]) 57 at_54 rfl (fun hn => c_full0 l Z a0 hw  _ n0 hn ) (wd_79 hw) (wd_80 hw) (wd_6 hw) (wd_81 hw) (by decide) pd_10 rfl rfl rfl (by decide) 0 (Nat.le_of_ble_eq_true rfl) (by decide) (by decide) (by decide) ?_
  rintro v1457 h1457 ⟨d1457, rfl, sz1457, gd1457, K1457, A1457⟩
  have ne1458 : e0 ≠ d1457 := Nat.ne_of_lt (Nat.lt_of_lt_of_le O0.lt sz1457)
  have ne1459 : e1 ≠ d1457 := Nat.ne_of_lt (Nat.lt_of_lt_of_le O1.lt sz1457)
  have ne1460 : e2 ≠ d1457 := Nat.ne_of_lt (Nat.lt_of_lt_of_le O2.lt sz1457)
  have ne1461 : t0 ≠ d1457 := Nat.ne_of_lt (Nat.lt_of_lt_of_le Et0.lt sz1457)
  have ne1462 : t1 ≠ d1457 := Nat.ne_of_lt (Nat.lt_of_lt_of_le Et1.lt sz1457)
  have ne1463 : t2 ≠ d1457 := Nat.ne_of_lt (Nat.lt_of_lt_of_le Et2.lt sz1457)
  have ne1464 : u0 ≠ d1457 := Nat.ne_of_lt (Nat.lt_of_lt_of_le At0.lt sz1457)
  have ne1465 : u1 ≠ d1457 := Nat.ne_of_lt (Nat.lt_of_lt_of_le At1.lt sz1457)
  have ne1466 : u2 ≠ d1457 := Nat.ne_of_lt (Nat.lt_of_lt_of_le At2.lt sz1457)
  have ne1467 : vv ≠ d1457 := Nat.ne_of_lt (Nat.lt_of_lt_of_le AV.lt sz1457)
  have hv1468 := HV.new hv0 K1457 all0 sz1457
  show WG _ _ _ _ _ _ _ _ _ _ _ _ 1 9 57 #[.val (.int p0), .val (.int p1), .val (.int p2), .val (.int p3), .val (.int (0 : Int32)), .val (.int (1 : Int32)), .val (.int (p2 &&& (255 : Int32))), .unset, .unset] [(.ref d1457)]
  refine W.astore 59 at_57 rfl rfl #[.val (.int p0), .val (.int p1), .val (.int p2), .val (.int p3), .val (.int (0 : Int32)), .val (.int (1 : Int32)), .val (.int (p2 &&& (255 : Int32))), .unset, .val (.ref d1457)] rfl ?_
  refine W.aload 61 at_59 rfl rfl rfl ?_
  refine W.iloadN 62 at_61 rfl rfl ?_
  refine W.ldcI 64 at_62 rfl (wd_0 hw) ?_
  refine W.iand 65 at_64 rfl (p3 &&& (2147483647 : Int32)) rfl ?_
  refine W.aload 67 at_65 rfl rfl rfl ?_
  refine W.arraylength 68 at_67 rfl A1457 (8 : Int32) rfl ?_
  refine W.irem 69 at_68 rfl (by decide) ((p3 &&& (2147483647 : Int32)) % (8 : Int32)) rfl ?_
  refine W.iload 71 at_69 rfl rfl ?_
  refine W.castore 72 at_71 rfl A1457 ((p3 &&& 2147483647) % 8).toNatClampNeg rfl (own_ix p3 8 8 rfl (by decide)).1 (own_ix p3 8 8 rfl (by decide)).2 (p2 &&& (255 : Int32)) (ch_nar (own_m p2)) gd1457 ?_
  intro h1469 W1469 K1469 A1469
  have hv1470 := HV.keep hv1468 K1469 (allS (List.mem_of_getElem? (i := 0) rfl) all0)
  have A1469 : Ary _ _ d1457 .char (iv ([(101 : Int32), (100 : Int32), (103 : Int32), (101 : Int32), (108 : Int32), (105 : Int32), (115 : Int32), (116 : Int32)].set ((p3 &&& 2147483647) % 8).toNatClampNeg (p2 &&& (255 : Int32)))) := (iv_set [(101 : Int32), (100 : Int32), (103 : Int32), (101 : Int32), (108 : Int32), (105 : Int32), (115 : Int32), (116 : Int32)] _ _) ▸ (show Ary _ _ d1457 .char ((iv [(101 : Int32), (100 : Int32), (103 : Int32), (101 : Int32), (108 : Int32), (105 : Int32), (115 : Int32), (116 : Int32)]).set ((p3 &&& 2147483647) % 8).toNatClampNeg (.int (p2 &&& (255 : Int32)))) from A1469)
  refine W.new 75 at_72 rfl (wd_1 hw) (wd_2 hw) (wd_3 hw) (by decide) (by decide) ?_
  intro h1471 o1471 g1471 ge1471 X1471 K1471 E1471 D1471
  have ne1472 : d1457 ≠ o1471 := Nat.ne_of_lt (Nat.lt_of_lt_of_eq A1469.lt g1471.symm)
  have q1473 := ((O0.keep K1457 nin0).keep K1469 (ninS ne1458 nin0))
  have ne1474 : e0 ≠ o1471 := Nat.ne_of_lt (Nat.lt_of_lt_of_eq q1473.lt g1471.symm)
  have q1475 := ((O1.keep K1457 nin0).keep K1469 (ninS ne1459 nin0))
  have ne1476 : e1 ≠ o1471 := Nat.ne_of_lt (Nat.lt_of_lt_of_eq q1475.lt g1471.symm)
  have q1477 := ((O2.keep K1457 nin0).keep K1469 (ninS ne1460 nin0))
  have ne1478 : e2 ≠ o1471 := Nat.ne_of_lt (Nat.lt_of_lt_of_eq q1477.lt g1471.symm)
  have q1479 := ((Et0.keep K1457).keep K1469)
  have ne1480 : t0 ≠ o1471 := Nat.ne_of_lt (Nat.lt_of_lt_of_eq q1479.lt g1471.symm)
  have q1481 := ((Et1.keep K1457).keep K1469)
  have ne1482 : t1 ≠ o1471 := Nat.ne_of_lt (Nat.lt_of_lt_of_eq q1481.lt g1471.symm)
  have q1483 := ((Et2.keep K1457).keep K1469)
  have ne1484 : t2 ≠ o1471 := Nat.ne_of_lt (Nat.lt_of_lt_of_eq q1483.lt g1471.symm)
  have q1485 := ((At0.keep K1457 nin0).keep K1469 (ninS ne1464 nin0))
  have ne1486 : u0 ≠ o1471 := Nat.ne_of_lt (Nat.lt_of_lt_of_eq q1485.lt g1471.symm)
  have q1487 := ((At1.keep K1457 nin0).keep K1469 (ninS ne1465 nin0))
  have ne1488 : u1 ≠ o1471 := Nat.ne_of_lt (Nat.lt_of_lt_of_eq q1487.lt g1471.symm)
  have q1489 := ((At2.keep K1457 nin0).keep K1469 (ninS ne1466 nin0))
  have ne1490 : u2 ≠ o1471 := Nat.ne_of_lt (Nat.lt_of_lt_of_eq q1489.lt g1471.symm)
  have q1491 := ((AV.keep K1457 nin0).keep K1469 (ninS ne1467 nin0))
  have ne1492 : vv ≠ o1471 := Nat.ne_of_lt (Nat.lt_of_lt_of_eq q1491.lt g1471.symm)
  have hv1493 := HV.new hv1470 K1471 all0 (Nat.le_of_eq g1471.symm)
  have f1494 : Fld _ _ o1471 "java/lang/String" "coder" "B" (.int (0 : Int32)) := D1471 (Or.inr (wd_32 hw)) (ty := .byte) (by decide)
  have f1495 : Fld _ _ o1471 "java/lang/String" "value" "[B" .null := D1471 (Or.inr (wd_34 hw)) (ty := (.array .byte)) (by decide)
  show WG _ _ _ _ _ _ _ _ _ _ _ _ 2 13 75 #[.val (.int p0), .val (.int p1), .val (.int p2), .val (.int p3), .val (.int (0 : Int32)), .val (.int (1 : Int32)), .val (.int (p2 &&& (255 : Int32))), .unset, .val (.ref d1457)] [(.ref o1471)]
  refine W.dup 76 at_75 rfl rfl ?_
  refine W.aload 78 at_76 rfl rfl rfl ?_
  have q1496 := (A1469.keep K1471 nin0)
  have q1497 := (Sta.ext X1471 (Sta.wr W1469 (Sta.keepN K1457 all0 FS)))
  refine W.callInit (rest := [(.ref o1471)]) (argsL := [(.ref d1457)]) (a := o1471) 81 at_78 rfl (fun hn => c_i1g l Z a0 hw o1471 d1457 kc hkc ([(101 : Int32), (100 : Int32), (103 : Int32), (101 : Int32), (108 : Int32), (105 : Int32), (115 : Int32), (116 : Int32)].set ((p3 &&& 2147483647) % 8).toNatClampNeg (p2 &&& (255 : Int32))) _ n0 hn (Ne.symm ne1472) ge1471 (chSet (chC (ch_k (by decide) (by decide)) (chC (ch_k (by decide) (by decide)) (chC (ch_k (by decide) (by decide)) (chC (ch_k (by decide) (by decide)) (chC (ch_k (by decide) (by decide)) (chC (ch_k (by decide) (by decide)) (chC (ch_k (by decide) (by decide)) (chC (ch_k (by decide) (by decide)) chN)))))))) (own_m p2)) (by rw [List.length_set]; exact Nat.le_of_ble_eq_true rfl) (by rw [List.length_set]; decide) q1497 E1471 f1494 f1495 q1496) rfl (wd_9 hw) (wd_10 hw) (wd_3 hw) (wd_11 hw) (by decide) pd_11 rfl rfl rfl (by decide) 1 (Nat.le_of_ble_eq_true rfl) (by decide) (by decide) (by decide) ?_
  rintro v1498 h1498 ⟨rfl, K1498, b1498, C1498, V1498, A1498⟩
  have hv1499 := HV.keep hv1493 K1498 (allS (List.mem_of_getElem? (i := 0) rfl) all0)
  show WG _ _ _ _ _ _ _ _ _ _ _ _ 3 29 81 #[.val (.int p0), .val (.int p1), .val (.int p2), .val (.int p3), .val (.int (0 : Int32)), .val (.int (1 : Int32)), .val (.int (p2 &&& (255 : Int32))), .unset, .val (.ref d1457)] [(.ref o1471)]
  refine W.astore 83 at_81 rfl rfl #[.val (.int p0), .val (.int p1), .val (.int p2), .val (.int p3), .val (.int (0 : Int32)), .val (.int (1 : Int32)), .val (.int (p2 &&& (255 : Int32))), .val (.ref o1471), .val (.ref d1457)] rfl ?_
  refine W.goto 173 at_83 rfl ?_
  refine W.aload 175 at_173 rfl rfl rfl ?_
  have q1500 := (Sta.keepN K1498 (allS E1471.nostat all0) q1497)
  have q1501 := (Sta.keepN K1498 (allS E1471.nostat all0) (Sta.ext X1471 (Sta.wr W1469 (Sta.keepN K1457 all0 SV))))
  have q1502 := (Sta.keepN K1498 (allS E1471.nostat all0) (Sta.ext X1471 (Sta.wr W1469 (Sta.keepN K1457 all0 S0))))
  have q1503 := (Sta.keepN K1498 (allS E1471.nostat all0) (Sta.ext X1471 (Sta.wr W1469 (Sta.keepN K1457 all0 S1))))
  have q1504 := (Sta.keepN K1498 (allS E1471.nostat all0) (Sta.ext X1471 (Sta.wr W1469 (Sta.keepN K1457 all0 S2))))
  have q1505 := ((q1491.keep K1471 nin0).keep K1498 (ninS ne1492 nin0))
  have q1506 := ((((EV.keep K1457).keep K1469).keep K1471).keep K1498)
  have q1507 := ((q1473.keep K1471 nin0).keep K1498 (ninS ne1474 nin0))
  have q1508 := ((q1479.keep K1471).keep K1498)
  have q1509 := ((((Ct0.keep K1457 nin0).keep K1469 (ninS ne1461 nin0)).keep K1471 nin0).keep K1498 (ninS ne1480 nin0))
  have q1510 := ((((Vt0.keep K1457 nin0).keep K1469 (ninS ne1461 nin0)).keep K1471 nin0).keep K1498 (ninS ne1480 nin0))
  have q1511 := ((q1485.keep K1471 nin0).keep K1498 (ninS ne1486 nin0))
  have q1512 := ((q1475.keep K1471 nin0).keep K1498 (ninS ne1476 nin0))
  have q1513 := ((q1481.keep K1471).keep K1498)
  have q1514 := ((((Ct1.keep K1457 nin0).keep K1469 (ninS ne1462 nin0)).keep K1471 nin0).keep K1498 (ninS ne1482 nin0))
  have q1515 := ((((Vt1.keep K1457 nin0).keep K1469 (ninS ne1462 nin0)).keep K1471 nin0).keep K1498 (ninS ne1482 nin0))
  have q1516 := ((q1487.keep K1471 nin0).keep K1498 (ninS ne1488 nin0))
  have q1517 := ((q1477.keep K1471 nin0).keep K1498 (ninS ne1478 nin0))
  have q1518 := ((q1483.keep K1471).keep K1498)
  have q1519 := ((((Ct2.keep K1457 nin0).keep K1469 (ninS ne1463 nin0)).keep K1471 nin0).keep K1498 (ninS ne1484 nin0))
  have q1520 := ((((Vt2.keep K1457 nin0).keep K1469 (ninS ne1463 nin0)).keep K1471 nin0).keep K1498 (ninS ne1484 nin0))
  have q1521 := ((q1489.keep K1471 nin0).keep K1498 (ninS ne1490 nin0))
  have q1522 := (E1471.keep K1498)
  refine W.callS (rest := []) (argsL := [(.ref o1471)]) 178 at_175 rfl (fun hn => c_named l Z a0 hw o1471 b1498 kc hkc (([(101 : Int32), (100 : Int32), (103 : Int32), (101 : Int32), (108 : Int32), (105 : Int32), (115 : Int32), (116 : Int32)].set ((p3 &&& 2147483647) % 8).toNatClampNeg (p2 &&& (255 : Int32))).map byteOf) e0 e1 e2 t0 t1 t2 u0 u1 u2 vv _ n0 hn q1500 q1501 q1502 q1503 q1504 q1505 q1506 q1507 q1508 q1509 q1510 q1511 q1512 q1513 q1514 q1515 q1516 q1517 q1518 q1519 q1520 q1521 q1522 C1498 V1498 A1498) (wd_35 hw) (wd_36 hw) (wd_37 hw) (wd_38 hw) (by decide) pd_12 rfl rfl rfl (by decide) 0 (Nat.le_of_ble_eq_true rfl) (by decide) (by decide) (by decide) ?_
  rintro v1523 h1523 (⟨q0_1523, rfl, K1523⟩ | ⟨q0_1523, q1_1523, rfl, K1523⟩ | ⟨q0_1523, q1_1523, q2_1523, rfl, K1523⟩ | ⟨q0_1523, q1_1523, q2_1523, rfl, K1523⟩)
  · have hv1524 := HV.keep hv1499 K1523 all0
    show WG _ _ _ _ _ _ _ _ _ _ _ _ 4 32 178 #[.val (.int p0), .val (.int p1), .val (.int p2), .val (.int p3), .val (.int (0 : Int32)), .val (.int (1 : Int32)), .val (.int (p2 &&& (255 : Int32))), .val (.ref o1471), .val (.ref d1457)] [(.ref e0)]
    refine W.astore 180 at_178 rfl rfl #[.val (.int p0), .val (.int p1), .val (.int p2), .val (.int p3), .val (.int (0 : Int32)), .val (.int (1 : Int32)), .val (.int (p2 &&& (255 : Int32))), .val (.ref o1471), .val (.ref e0)] rfl ?_
    refine W.aload 182 at_180 rfl rfl rfl ?_
    refine W.aload 184 at_182 rfl rfl rfl ?_
    have q1525 := (Sta.keepN K1523 all0 q1500)
    have q1526 := (Sta.keepN K1523 all0 q1502)
    have q1527 := (Sta.keepN K1523 all0 q1503)
    have q1528 := (Sta.keepN K1523 all0 q1504)
    have q1529 := (q1522.keep K1523)
    have q1530 := (C1498.keep K1523 nin0)
    have q1531 := (V1498.keep K1523 nin0)
    have q1532 := (A1498.keep K1523 nin0)
    have q1534 := ((q1496.keep K1498 (ninS ne1472 nin0)).keep K1523 nin0)
    refine W.callSX (rest := [(.ref e0)]) (argsL := [(.ref o1471)]) 187 at_184 rfl (fun hn => c_exp0 l Z a0 hw o1471 b1498 kc hkc (([(101 : Int32), (100 : Int32), (103 : Int32), (101 : Int32), (108 : Int32), (105 : Int32), (115 : Int32), (116 : Int32)].set ((p3 &&& 2147483647) % 8).toNatClampNeg (p2 &&& (255 : Int32))).map byteOf) e0 e1 e2 _ n0 hn q1525 q1526 q1527 q1528 q1529 q1530 q1531 q1532 q0_1523) (wd_69 hw) (wd_70 hw) (wd_6 hw) (wd_71 hw) (by decide) pd_12 rfl rfl rfl (by decide) 1 (Nat.le_of_ble_eq_true rfl) (by decide) (by decide) (by decide) (own_EL hw) hv1524 (allS q1529.lt (allS q1534.lt all0)) all0 ?_
    rintro v1533 h1533 rfl
    have hv1533 := HV.here (Z := Z) (EL := consts_1) (h := h1533) (S := [o1471, d1457])
    show WG _ _ _ _ _ _ _ _ _ _ _ _ 10 128 187 #[.val (.int p0), .val (.int p1), .val (.int p2), .val (.int p3), .val (.int (0 : Int32)), .val (.int (1 : Int32)), .val (.int (p2 &&& (255 : Int32))), .val (.ref o1471), .val (.ref e0)] [(.ref e0), (.ref e0)]
    refine W.acmp_ne 194 190 at_187 rfl rfl rfl rfl (fun hc => absurd rfl hc) (fun _ => ?_)
    refine W.iconst 191 at_190 rfl (1 : Int32) rfl ?_
    refine W.goto 195 at_191 rfl ?_
    refine WG.retX (own_EL hw) hv1533 ?_
    exact W.ireturnN (t := .boolean) at_195 rfl (by simp) (1 : Int32) rfl ⟨rfl, rfl⟩ (by decide) (by decide)
  · have hv1535 := HV.keep hv1499 K1523 all0
    show WG _ _ _ _ _ _ _ _ _ _ _ _ 4 32 178 #[.val (.int p0), .val (.int p1), .val (.int p2), .val (.int p3), .val (.int (0 : Int32)), .val (.int (1 : Int32)), .val (.int (p2 &&& (255 : Int32))), .val (.ref o1471), .val (.ref d1457)] [(.ref e1)]
    refine W.astore 180 at_178 rfl rfl #[.val (.int p0), .val (.int p1), .val (.int p2), .val (.int p3), .val (.int (0 : Int32)), .val (.int (1 : Int32)), .val (.int (p2 &&& (255 : Int32))), .val (.ref o1471), .val (.ref e1)] rfl ?_
    refine W.aload 182 at_180 rfl rfl rfl ?_
    refine W.aload 184 at_182 rfl rfl rfl ?_
    have q1536 := (Sta.keepN K1523 all0 q1500)
    have q1537 := (Sta.keepN K1523 all0 q1502)
    have q1538 := (Sta.keepN K1523 all0 q1503)
    have q1539 := (Sta.keepN K1523 all0 q1504)
    have q1540 := (q1522.keep K1523)
    have q1541 := (C1498.keep K1523 nin0)
    have q1542 := (V1498.keep K1523 nin0)
    have q1543 := (A1498.keep K1523 nin0)
    have q1545 := ((q1496.keep K1498 (ninS ne1472 nin0)).keep K1523 nin0)
    refine W.callSX (rest := [(.ref e1)]) (argsL := [(.ref o1471)]) 187 at_184 rfl (fun hn => c_exp1 l Z a0 hw o1471 b1498 kc hkc (([(101 : Int32), (100 : Int32), (103 : Int32), (101 : Int32), (108 : Int32), (105 : Int32), (115 : Int32), (116 : Int32)].set ((p3 &&& 2147483647) % 8).toNatClampNeg (p2 &&& (255 : Int32))).map byteOf) e0 e1 e2 _ n0 hn q1536 q1537 q1538 q1539 q1540 q1541 q1542 q1543 q0_1523 q1_1523) (wd_69 hw) (wd_70 hw) (wd_6 hw) (wd_71 hw) (by decide) pd_12 rfl rfl rfl (by decide) 1 (Nat.le_of_ble_eq_true rfl) (by decide) (by decide) (by decide) (own_EL hw) hv1535 (allS q1540.lt (allS q1545.lt all0)) all0 ?_
    rintro v1544 h1544 rfl
    have hv1544 := HV.here (Z := Z) (EL := consts_1) (h := h1544) (S := [o1471, d1457])
    show WG _ _ _ _ _ _ _ _ _ _ _ _ 10 128 187 #[.val (.int p0), .val (.int p1), .val (.int p2), .val (.int p3), .val (.int (0 : Int32)), .val (.int (1 : Int32)), .val (.int (p2 &&& (255 : Int32))), .val (.ref o1471), .val (.ref e1)] [(.ref e1), (.ref e1)]
    refine W.acmp_ne 194 190 at_187 rfl rfl rfl rfl (fun hc => absurd rfl hc) (fun _ => ?_)
    refine W.iconst 191 at_190 rfl (1 : Int32) rfl ?_
    refine W.goto 195 at_191 rfl ?_
    refine WG.retX (own_EL hw) hv1544 ?_
    exact W.ireturnN (t := .boolean) at_195 rfl (by simp) (1 : Int32) rfl ⟨rfl, rfl⟩ (by decide) (by decide)
  · have hv1546 := HV.keep hv1499 K1523 all0
    show WG _ _ _ _ _ _ _ _ _ _ _ _ 4 32 178 #[.val (.int p0), .val (.int p1), .val (.int p2), .val (.int p3), .val (.int (0 : Int32)), .val (.int (1 : Int32)), .val (.int (p2 &&& (255 : Int32))), .val (.ref o1471), .val (.ref d1457)] [(.ref e2)]
    refine W.astore 180 at_178 rfl rfl #[.val (.int p0), .val (.int p1), .val (.int p2), .val (.int p3), .val (.int (0 : Int32)), .val (.int (1 : Int32)), .val (.int (p2 &&& (255 : Int32))), .val (.ref o1471), .val (.ref e2)] rfl ?_
    refine W.aload 182 at_180 rfl rfl rfl ?_
    refine W.aload 184 at_182 rfl rfl rfl ?_
    have q1547 := (Sta.keepN K1523 all0 q1500)
    have q1548 := (Sta.keepN K1523 all0 q1502)
    have q1549 := (Sta.keepN K1523 all0 q1503)
    have q1550 := (Sta.keepN K1523 all0 q1504)
    have q1551 := (q1522.keep K1523)
    have q1552 := (C1498.keep K1523 nin0)
    have q1553 := (V1498.keep K1523 nin0)
    have q1554 := (A1498.keep K1523 nin0)
    have q1556 := ((q1496.keep K1498 (ninS ne1472 nin0)).keep K1523 nin0)
    refine W.callSX (rest := [(.ref e2)]) (argsL := [(.ref o1471)]) 187 at_184 rfl (fun hn => c_exp2 l Z a0 hw o1471 b1498 kc hkc (([(101 : Int32), (100 : Int32), (103 : Int32), (101 : Int32), (108 : Int32), (105 : Int32), (115 : Int32), (116 : Int32)].set ((p3 &&& 2147483647) % 8).toNatClampNeg (p2 &&& (255 : Int32))).map byteOf) e0 e1 e2 _ n0 hn q1547 q1548 q1549 q1550 q1551 q1552 q1553 q1554 q0_1523 q1_1523 q2_1523) (wd_69 hw) (wd_70 hw) (wd_6 hw) (wd_71 hw) (by decide) pd_12 rfl rfl rfl (by decide) 1 (Nat.le_of_ble_eq_true rfl) (by decide) (by decide) (by decide) (own_EL hw) hv1546 (allS q1551.lt (allS q1556.lt all0)) all0 ?_
    rintro v1555 h1555 rfl
    have hv1555 := HV.here (Z := Z) (EL := consts_1) (h := h1555) (S := [o1471, d1457])
    show WG _ _ _ _ _ _ _ _ _ _ _ _ 10 128 187 #[.val (.int p0), .val (.int p1), .val (.int p2), .val (.int p3), .val (.int (0 : Int32)), .val (.int (1 : Int32)), .val (.int (p2 &&& (255 : Int32))), .val (.ref o1471), .val (.ref e2)] [(.ref e2), (.ref e2)]
    refine W.acmp_ne 194 190 at_187 rfl rfl rfl rfl (fun hc => absurd rfl hc) (fun _ => ?_)
    refine W.iconst 191 at_190 rfl (1 : Int32) rfl ?_
    refine W.goto 195 at_191 rfl ?_
    refine WG.retX (own_EL hw) hv1555 ?_
    exact W.ireturnN (t := .boolean) at_195 rfl (by simp) (1 : Int32) rfl ⟨rfl, rfl⟩ (by decide) (by decide)
  · have hv1557 := HV.keep hv1499 K1523 all0
    show WG _ _ _ _ _ _ _ _ _ _ _ _ 4 32 178 #[.val (.int p0), .val (.int p1), .val (.int p2), .val (.int p3), .val (.int (0 : Int32)), .val (.int (1 : Int32)), .val (.int (p2 &&& (255 : Int32))), .val (.ref o1471), .val (.ref d1457)] [.null]
    refine W.astore 180 at_178 rfl rfl #[.val (.int p0), .val (.int p1), .val (.int p2), .val (.int p3), .val (.int (0 : Int32)), .val (.int (1 : Int32)), .val (.int (p2 &&& (255 : Int32))), .val (.ref o1471), .val .null] rfl ?_
    refine W.aload 182 at_180 rfl rfl rfl ?_
    refine W.aload 184 at_182 rfl rfl rfl ?_
    have q1558 := (Sta.keepN K1523 all0 q1500)
    have q1559 := (Sta.keepN K1523 all0 q1502)
    have q1560 := (Sta.keepN K1523 all0 q1503)
    have q1561 := (Sta.keepN K1523 all0 q1504)
    have q1562 := (q1522.keep K1523)
    have q1563 := (C1498.keep K1523 nin0)
    have q1564 := (V1498.keep K1523 nin0)
    have q1565 := (A1498.keep K1523 nin0)
    have q1567 := ((q1496.keep K1498 (ninS ne1472 nin0)).keep K1523 nin0)
    refine W.callSX (rest := [.null]) (argsL := [(.ref o1471)]) 187 at_184 rfl (fun hn => c_exp3 l Z a0 hw o1471 b1498 kc hkc (([(101 : Int32), (100 : Int32), (103 : Int32), (101 : Int32), (108 : Int32), (105 : Int32), (115 : Int32), (116 : Int32)].set ((p3 &&& 2147483647) % 8).toNatClampNeg (p2 &&& (255 : Int32))).map byteOf) e0 e1 e2 _ n0 hn q1558 q1559 q1560 q1561 q1562 q1563 q1564 q1565 q0_1523 q1_1523 q2_1523) (wd_69 hw) (wd_70 hw) (wd_6 hw) (wd_71 hw) (by decide) pd_12 rfl rfl rfl (by decide) 1 (Nat.le_of_ble_eq_true rfl) (by decide) (by decide) (by decide) (own_EL hw) hv1557 (allS q1562.lt (allS q1567.lt all0)) all0 ?_
    rintro v1566 h1566 rfl
    have hv1566 := HV.here (Z := Z) (EL := consts_1) (h := h1566) (S := [o1471, d1457])
    show WG _ _ _ _ _ _ _ _ _ _ _ _ 10 128 187 #[.val (.int p0), .val (.int p1), .val (.int p2), .val (.int p3), .val (.int (0 : Int32)), .val (.int (1 : Int32)), .val (.int (p2 &&& (255 : Int32))), .val (.ref o1471), .val .null] [.null, .null]
    refine W.acmp_ne 194 190 at_187 rfl rfl rfl rfl (fun hc => absurd rfl hc) (fun _ => ?_)
    refine W.iconst 191 at_190 rfl (1 : Int32) rfl ?_
    refine W.goto 195 at_191 rfl ?_
    refine WG.retX (own_EL hw) hv1566 ?_
    exact W.ireturnN (t := .boolean) at_195 rfl (by simp) (1 : Int32) rfl ⟨rfl, rfl⟩ (by decide) (by decide)
theorem law_02 (l : Launch) (Z : State) (a0 : Array Value) (hw : HwT Z a0) (p0 p1 p2 p3 : Int32) (kc : Int32) (hkc : ¬ kc = 0) (e0 e1 e2 t0 t1 t2 u0 u1 u2 vv : Addr) (h : Heap) (n0 : Nat) (hn : n0 ≤ h.size) (FS : Sta Z h "java/lang/String" "COMPACT_STRINGS" "Z" (.int kc)) (SV : Sta Z h "com/example/eccentra/eccentra/GraphFormat" "$VALUES" "[Lcom/example/eccentra/eccentra/GraphFormat;" (.ref vv)) (S0 : Sta Z h "com/example/eccentra/eccentra/GraphFormat" "EDGELIST" "Lcom/example/eccentra/eccentra/GraphFormat;" (.ref e0)) (S1 : Sta Z h "com/example/eccentra/eccentra/GraphFormat" "ADJLIST" "Lcom/example/eccentra/eccentra/GraphFormat;" (.ref e1)) (S2 : Sta Z h "com/example/eccentra/eccentra/GraphFormat" "MTX" "Lcom/example/eccentra/eccentra/GraphFormat;" (.ref e2)) (AV : Ary Z h vv (.object "com/example/eccentra/eccentra/GraphFormat") [.ref e0, .ref e1, .ref e2]) (EV : Exa Z h vv "[Lcom/example/eccentra/eccentra/GraphFormat;") (O0 : Fld Z h e0 "com/example/eccentra/eccentra/GraphFormat" "optionValue" "Ljava/lang/String;" (.ref t0)) (Et0 : Exa Z h t0 "java/lang/String") (Ct0 : Fld Z h t0 "java/lang/String" "coder" "B" (.int 0)) (Vt0 : Fld Z h t0 "java/lang/String" "value" "[B" (.ref u0)) (At0 : Ary Z h u0 .byte [(.int (101 : Int32)), (.int (100 : Int32)), (.int (103 : Int32)), (.int (101 : Int32)), (.int (108 : Int32)), (.int (105 : Int32)), (.int (115 : Int32)), (.int (116 : Int32))]) (O1 : Fld Z h e1 "com/example/eccentra/eccentra/GraphFormat" "optionValue" "Ljava/lang/String;" (.ref t1)) (Et1 : Exa Z h t1 "java/lang/String") (Ct1 : Fld Z h t1 "java/lang/String" "coder" "B" (.int 0)) (Vt1 : Fld Z h t1 "java/lang/String" "value" "[B" (.ref u1)) (At1 : Ary Z h u1 .byte [(.int (97 : Int32)), (.int (100 : Int32)), (.int (106 : Int32)), (.int (108 : Int32)), (.int (105 : Int32)), (.int (115 : Int32)), (.int (116 : Int32))]) (O2 : Fld Z h e2 "com/example/eccentra/eccentra/GraphFormat" "optionValue" "Ljava/lang/String;" (.ref t2)) (Et2 : Exa Z h t2 "java/lang/String") (Ct2 : Fld Z h t2 "java/lang/String" "coder" "B" (.int 0)) (Vt2 : Fld Z h t2 "java/lang/String" "value" "[B" (.ref u2)) (At2 : Ary Z h u2 .byte [(.int (109 : Int32)), (.int (116 : Int32)), (.int (120 : Int32))]) (ek : (p0 &&& 2147483647) % 3 = 0) (em : (p1 &&& 2147483647) % 5 = 2) : ConX Z consts_1 [] tables_1 l x code maxLocals ret room_1 #[(.int p0), (.int p1), (.int p2), (.int p3)] h n0 (fun v _ => v = some (.int 1)) := by
  refine ConX.of_W (Ls := #[.val (.int p0), .val (.int p1), .val (.int p2), .val (.int p3), .unset, .unset, .unset, .unset, .unset]) (plainFor_of_name pn_3) hn (fun m => by first | (simp [entryFrame, mkF, argsToLocals, Value.category, maxLocals]; done) | rfl) ?_
  have hv0 := HV.here (Z := Z) (EL := consts_1) (h := h) (S := [])
  refine W.iloadN 1 at_0 rfl rfl ?_
  refine W.ldcI 3 at_1 rfl (wd_0 hw) ?_
  refine W.iand 4 at_3 rfl (p0 &&& (2147483647 : Int32)) rfl ?_
  refine W.iconst 5 at_4 rfl (3 : Int32) rfl ?_
  refine W.irem 6 at_5 rfl (by decide) (0 : Int32) ek ?_
  refine W.istore 8 at_6 rfl #[.val (.int p0), .val (.int p1), .val (.int p2), .val (.int p3), .val (.int (0 : Int32)), .unset, .unset, .unset, .unset] rfl ?_
  refine W.iloadN 9 at_8 rfl rfl ?_
  refine W.ldcI 11 at_9 rfl (wd_0 hw) ?_
  refine W.iand 12 at_11 rfl (p1 &&& (2147483647 : Int32)) rfl ?_
  refine W.iconst 13 at_12 rfl (5 : Int32) rfl ?_
  refine W.irem 14 at_13 rfl (by decide) (2 : Int32) em ?_
  refine W.istore 16 at_14 rfl #[.val (.int p0), .val (.int p1), .val (.int p2), .val (.int p3), .val (.int (0 : Int32)), .val (.int (2 : Int32)), .unset, .unset, .unset] rfl ?_
  refine W.iloadN 17 at_16 rfl rfl ?_
  refine W.sipush 20 at_17 rfl (255 : Int32) rfl ?_
  refine W.iand 21 at_20 rfl (p2 &&& (255 : Int32)) rfl ?_
  refine W.i2c 22 at_21 rfl (p2 &&& (255 : Int32)) (ch_nar (own_m p2)) ?_
  refine W.istore 24 at_22 rfl #[.val (.int p0), .val (.int p1), .val (.int p2), .val (.int p3), .val (.int (0 : Int32)), .val (.int (2 : Int32)), .val (.int (p2 &&& (255 : Int32))), .unset, .unset] rfl ?_
  refine W.iload 26 at_24 rfl rfl ?_
  refine W.if_ne 46 29 at_26 rfl rfl (fun _ => ?_) (fun hc => absurd hc (by decide))
  refine W.iload 48 at_46 rfl rfl ?_
  refine W.iconst 49 at_48 rfl (1 : Int32) rfl ?_
  refine W.icmp_ne 86 52 at_49 rfl rfl (fun _ => ?_) (fun hc => absurd hc (by decide))
  refine W.iload 88 at_86 rfl rfl ?_
  refine W.iconst 89 at_88 rfl (2 : Int32) rfl ?_
  refine W.icmp_ne 109 92 at_89 rfl rfl (fun hc => absurd (by decide) hc) (fun _ => ?_)
  refine W.new 95 at_92 rfl (wd_1 hw) (wd_2 hw) (wd_3 hw) (by decide) (by decide) ?_
  intro h1568 o1568 g1568 ge1568 X1568 K1568 E1568 D1568
  have ne1569 : e0 ≠ o1568 := Nat.ne_of_lt (Nat.lt_of_lt_of_eq O0.lt g1568.symm)
  have ne1570 : e1 ≠ o1568 := Nat.ne_of_lt (Nat.lt_of_lt_of_eq O1.lt g1568.symm)
  have ne1571 : e2 ≠ o1568 := Nat.ne_of_lt (Nat.lt_of_lt_of_eq O2.lt g1568.symm)
  have ne1572 : t0 ≠ o1568 := Nat.ne_of_lt (Nat.lt_of_lt_of_eq Et0.lt g1568.symm)
  have ne1573 : t1 ≠ o1568 := Nat.ne_of_lt (Nat.lt_of_lt_of_eq Et1.lt g1568.symm)
  have ne1574 : t2 ≠ o1568 := Nat.ne_of_lt (Nat.lt_of_lt_of_eq Et2.lt g1568.symm)
  have ne1575 : u0 ≠ o1568 := Nat.ne_of_lt (Nat.lt_of_lt_of_eq At0.lt g1568.symm)
  have ne1576 : u1 ≠ o1568 := Nat.ne_of_lt (Nat.lt_of_lt_of_eq At1.lt g1568.symm)
  have ne1577 : u2 ≠ o1568 := Nat.ne_of_lt (Nat.lt_of_lt_of_eq At2.lt g1568.symm)
  have ne1578 : vv ≠ o1568 := Nat.ne_of_lt (Nat.lt_of_lt_of_eq AV.lt g1568.symm)
  have hv1579 := HV.new hv0 K1568 all0 (Nat.le_of_eq g1568.symm)
  have f1580 : Fld _ _ o1568 "java/lang/String" "coder" "B" (.int (0 : Int32)) := D1568 (Or.inr (wd_32 hw)) (ty := .byte) (by decide)
  have f1581 : Fld _ _ o1568 "java/lang/String" "value" "[B" .null := D1568 (Or.inr (wd_34 hw)) (ty := (.array .byte)) (by decide)
  show WG _ _ _ _ _ _ _ _ _ _ _ _ 1 4 95 #[.val (.int p0), .val (.int p1), .val (.int p2), .val (.int p3), .val (.int (0 : Int32)), .val (.int (2 : Int32)), .val (.int (p2 &&& (255 : Int32))), .unset, .unset] [(.ref o1568)]
  refine W.dup 96 at_95 rfl rfl ?_
  refine W.iload 98 at_96 rfl rfl ?_
  refine W.callS (rest := [(.ref o1568), (.ref o1568)]) (argsL := [(.int (0 : Int32))]) 101 at_98 rfl (fun hn => c_trunc0 l Z a0 hw  _ n0 hn ) (wd_83 hw) (wd_84 hw) (wd_6 hw) (wd_85 hw) (by decide) pd_10 rfl rfl rfl (by decide) 2 (Nat.le_of_ble_eq_true rfl) (by decide) (by decide) (by decide) ?_
  rintro v1582 h1582 ⟨d1582, rfl, sz1582, gd1582, K1582, A1582⟩
  have q1583 := (O0.keep K1568 nin0)
  have ne1584 : e0 ≠ d1582 := Nat.ne_of_lt (Nat.lt_of_lt_of_le q1583.lt sz1582)
  have q1585 := (O1.keep K1568 nin0)
  have ne1586 : e1 ≠ d1582 := Nat.ne_of_lt (Nat.lt_of_lt_of_le q1585.lt sz1582)
  have q1587 := (O2.keep K1568 nin0)
  have ne1588 : e2 ≠ d1582 := Nat.ne_of_lt (Nat.lt_of_lt_of_le q1587.lt sz1582)
  have ne1589 : o1568 ≠ d1582 := Nat.ne_of_lt (Nat.lt_of_lt_of_le E1568.lt sz1582)
  have q1590 := (Et0.keep K1568)
  have ne1591 : t0 ≠ d1582 := Nat.ne_of_lt (Nat.lt_of_lt_of_le q1590.lt sz1582)
  have q1592 := (Et1.keep K1568)
  have ne1593 : t1 ≠ d1582 := Nat.ne_of_lt (Nat.lt_of_lt_of_le q1592.lt sz1582)
  have q1594 := (Et2.keep K1568)
  have ne1595 : t2 ≠ d1582 := Nat.ne_of_lt (Nat.lt_of_lt_of_le q1594.lt sz1582)
  have q1596 := (At0.keep K1568 nin0)
  have ne1597 : u0 ≠ d1582 := Nat.ne_of_lt (Nat.lt_of_lt_of_le q1596.lt sz1582)
  have q1598 := (At1.keep K1568 nin0)
  have ne1599 : u1 ≠ d1582 := Nat.ne_of_lt (Nat.lt_of_lt_of_le q1598.lt sz1582)
  have q1600 := (At2.keep K1568 nin0)
  have ne1601 : u2 ≠ d1582 := Nat.ne_of_lt (Nat.lt_of_lt_of_le q1600.lt sz1582)
  have q1602 := (AV.keep K1568 nin0)
  have ne1603 : vv ≠ d1582 := Nat.ne_of_lt (Nat.lt_of_lt_of_le q1602.lt sz1582)
  have hv1604 := HV.new hv1579 K1582 all0 sz1582
  show WG _ _ _ _ _ _ _ _ _ _ _ _ 2 13 101 #[.val (.int p0), .val (.int p1), .val (.int p2), .val (.int p3), .val (.int (0 : Int32)), .val (.int (2 : Int32)), .val (.int (p2 &&& (255 : Int32))), .unset, .unset] [(.ref d1582), (.ref o1568), (.ref o1568)]
  have q1605 := (Sta.keepN K1582 all0 (Sta.ext X1568 FS))
  have q1606 := (E1568.keep K1582)
  have q1607 := (f1580.keep K1582 nin0)
  have q1608 := (f1581.keep K1582 nin0)
  refine W.callInit (rest := [(.ref o1568)]) (argsL := [(.ref d1582)]) (a := o1568) 104 at_101 rfl (fun hn => c_i1g l Z a0 hw o1568 d1582 kc hkc [(101 : Int32), (100 : Int32), (103 : Int32), (101 : Int32), (108 : Int32), (105 : Int32), (115 : Int32)] _ n0 hn ne1589 ge1568 (chC (ch_k (by decide) (by decide)) (chC (ch_k (by decide) (by decide)) (chC (ch_k (by decide) (by decide)) (chC (ch_k (by decide) (by decide)) (chC (ch_k (by decide) (by decide)) (chC (ch_k (by decide) (by decide)) (chC (ch_k (by decide) (by decide)) chN))))))) (Nat.le_of_ble_eq_true rfl) (show ¬ (7 : Nat).toInt32 = 0 by decide) q1605 q1606 q1607 q1608 A1582) rfl (wd_9 hw) (wd_10 hw) (wd_3 hw) (wd_11 hw) (by decide) pd_11 rfl rfl rfl (by decide) 1 (Nat.le_of_ble_eq_true rfl) (by decide) (by decide) (by decide) ?_
  rintro v1609 h1609 ⟨rfl, K1609, b1609, C1609, V1609, A1609⟩
  have hv1610 := HV.keep hv1604 K1609 (allS (List.mem_of_getElem? (i := 1) rfl) all0)
  show WG _ _ _ _ _ _ _ _ _ _ _ _ 3 29 104 #[.val (.int p0), .val (.int p1), .val (.int p2), .val (.int p3), .val (.int (0 : Int32)), .val (.int (2 : Int32)), .val (.int (p2 &&& (255 : Int32))), .unset, .unset] [(.ref o1568)]
  refine W.astore 106 at_104 rfl rfl #[.val (.int p0), .val (.int p1), .val (.int p2), .val (.int p3), .val (.int (0 : Int32)), .val (.int (2 : Int32)), .val (.int (p2 &&& (255 : Int32))), .val (.ref o1568), .unset] rfl ?_
  refine W.goto 173 at_106 rfl ?_
  refine W.aload 175 at_173 rfl rfl rfl ?_
  have q1611 := (Sta.keepN K1609 (allS q1606.nostat all0) q1605)
  have q1612 := (Sta.keepN K1609 (allS q1606.nostat all0) (Sta.keepN K1582 all0 (Sta.ext X1568 SV)))
  have q1613 := (Sta.keepN K1609 (allS q1606.nostat all0) (Sta.keepN K1582 all0 (Sta.ext X1568 S0)))
  have q1614 := (Sta.keepN K1609 (allS q1606.nostat all0) (Sta.keepN K1582 all0 (Sta.ext X1568 S1)))
  have q1615 := (Sta.keepN K1609 (allS q1606.nostat all0) (Sta.keepN K1582 all0 (Sta.ext X1568 S2)))
  have q1616 := ((q1602.keep K1582 nin0).keep K1609 (ninS ne1578 nin0))
  have q1617 := (((EV.keep K1568).keep K1582).keep K1609)
  have q1618 := ((q1583.keep K1582 nin0).keep K1609 (ninS ne1569 nin0))
  have q1619 := ((q1590.keep K1582).keep K1609)
  have q1620 := (((Ct0.keep K1568 nin0).keep K1582 nin0).keep K1609 (ninS ne1572 nin0))
  have q1621 := (((Vt0.keep K1568 nin0).keep K1582 nin0).keep K1609 (ninS ne1572 nin0))
  have q1622 := ((q1596.keep K1582 nin0).keep K1609 (ninS ne1575 nin0))
  have q1623 := ((q1585.keep K1582 nin0).keep K1609 (ninS ne1570 nin0))
  have q1624 := ((q1592.keep K1582).keep K1609)
  have q1625 := (((Ct1.keep K1568 nin0).keep K1582 nin0).keep K1609 (ninS ne1573 nin0))
  have q1626 := (((Vt1.keep K1568 nin0).keep K1582 nin0).keep K1609 (ninS ne1573 nin0))
  have q1627 := ((q1598.keep K1582 nin0).keep K1609 (ninS ne1576 nin0))
  have q1628 := ((q1587.keep K1582 nin0).keep K1609 (ninS ne1571 nin0))
  have q1629 := ((q1594.keep K1582).keep K1609)
  have q1630 := (((Ct2.keep K1568 nin0).keep K1582 nin0).keep K1609 (ninS ne1574 nin0))
  have q1631 := (((Vt2.keep K1568 nin0).keep K1582 nin0).keep K1609 (ninS ne1574 nin0))
  have q1632 := ((q1600.keep K1582 nin0).keep K1609 (ninS ne1577 nin0))
  have q1633 := (q1606.keep K1609)
  refine W.callS (rest := []) (argsL := [(.ref o1568)]) 178 at_175 rfl (fun hn => c_named l Z a0 hw o1568 b1609 kc hkc ([(101 : Int32), (100 : Int32), (103 : Int32), (101 : Int32), (108 : Int32), (105 : Int32), (115 : Int32)].map byteOf) e0 e1 e2 t0 t1 t2 u0 u1 u2 vv _ n0 hn q1611 q1612 q1613 q1614 q1615 q1616 q1617 q1618 q1619 q1620 q1621 q1622 q1623 q1624 q1625 q1626 q1627 q1628 q1629 q1630 q1631 q1632 q1633 C1609 V1609 A1609) (wd_35 hw) (wd_36 hw) (wd_37 hw) (wd_38 hw) (by decide) pd_12 rfl rfl rfl (by decide) 0 (Nat.le_of_ble_eq_true rfl) (by decide) (by decide) (by decide) ?_
  rintro v1634 h1634 (⟨q0_1634, rfl, K1634⟩ | ⟨q0_1634, q1_1634, rfl, K1634⟩ | ⟨q0_1634, q1_1634, q2_1634, rfl, K1634⟩ | ⟨q0_1634, q1_1634, q2_1634, rfl, K1634⟩)
  · have hv1635 := HV.keep hv1610 K1634 all0
    show WG _ _ _ _ _ _ _ _ _ _ _ _ 4 32 178 #[.val (.int p0), .val (.int p1), .val (.int p2), .val (.int p3), .val (.int (0 : Int32)), .val (.int (2 : Int32)), .val (.int (p2 &&& (255 : Int32))), .val (.ref o1568), .unset] [(.ref e0)]
    refine W.astore 180 at_178 rfl rfl #[.val (.int p0), .val (.int p1), .val (.int p2), .val (.int p3), .val (.int (0 : Int32)), .val (.int (2 : Int32)), .val (.int (p2 &&& (255 : Int32))), .val (.ref o1568), .val (.ref e0)] rfl ?_
    refine W.aload 182 at_180 rfl rfl rfl ?_
    refine W.aload 184 at_182 rfl rfl rfl ?_
    have q1636 := (Sta.keepN K1634 all0 q1611)
    have q1637 := (Sta.keepN K1634 all0 q1613)
    have q1638 := (Sta.keepN K1634 all0 q1614)
    have q1639 := (Sta.keepN K1634 all0 q1615)
    have q1640 := (q1633.keep K1634)
    have q1641 := (C1609.keep K1634 nin0)
    have q1642 := (V1609.keep K1634 nin0)
    have q1643 := (A1609.keep K1634 nin0)
    have q1645 := ((A1582.keep K1609 (ninS (Ne.symm ne1589) nin0)).keep K1634 nin0)
    refine W.callSX (rest := [(.ref e0)]) (argsL := [(.ref o1568)]) 187 at_184 rfl (fun hn => c_exp0 l Z a0 hw o1568 b1609 kc hkc ([(101 : Int32), (100 : Int32), (103 : Int32), (101 : Int32), (108 : Int32), (105 : Int32), (115 : Int32)].map byteOf) e0 e1 e2 _ n0 hn q1636 q1637 q1638 q1639 q1640 q1641 q1642 q1643 q0_1634) (wd_69 hw) (wd_70 hw) (wd_6 hw) (wd_71 hw) (by decide) pd_12 rfl rfl rfl (by decide) 1 (Nat.le_of_ble_eq_true rfl) (by decide) (by decide) (by decide) (own_EL hw) hv1635 (allS q1645.lt (allS q1640.lt all0)) all0 ?_
    rintro v1644 h1644 rfl
    have hv1644 := HV.here (Z := Z) (EL := consts_1) (h := h1644) (S := [d1582, o1568])
    show WG _ _ _ _ _ _ _ _ _ _ _ _ 10 128 187 #[.val (.int p0), .val (.int p1), .val (.int p2), .val (.int p3), .val (.int (0 : Int32)), .val (.int (2 : Int32)), .val (.int (p2 &&& (255 : Int32))), .val (.ref o1568), .val (.ref e0)] [(.ref e0), (.ref e0)]
    refine W.acmp_ne 194 190 at_187 rfl rfl rfl rfl (fun hc => absurd rfl hc) (fun _ => ?_)
    refine W.iconst 191 at_190 rfl (1 : Int32) rfl ?_
    refine W.goto 195 at_191 rfl ?_
    refine WG.retX (own_EL hw) hv1644 ?_
    exact W.ireturnN (t := .boolean) at_195 rfl (by simp) (1 : Int32) rfl ⟨rfl, rfl⟩ (by decide) (by decide)
  · have hv1646 := HV.keep hv1610 K1634 all0
    show WG _ _ _ _ _ _ _ _ _ _ _ _ 4 32 178 #[.val (.int p0), .val (.int p1), .val (.int p2), .val (.int p3), .val (.int (0 : Int32)), .val (.int (2 : Int32)), .val (.int (p2 &&& (255 : Int32))), .val (.ref o1568), .unset] [(.ref e1)]
    refine W.astore 180 at_178 rfl rfl #[.val (.int p0), .val (.int p1), .val (.int p2), .val (.int p3), .val (.int (0 : Int32)), .val (.int (2 : Int32)), .val (.int (p2 &&& (255 : Int32))), .val (.ref o1568), .val (.ref e1)] rfl ?_
    refine W.aload 182 at_180 rfl rfl rfl ?_
    refine W.aload 184 at_182 rfl rfl rfl ?_
    have q1647 := (Sta.keepN K1634 all0 q1611)
    have q1648 := (Sta.keepN K1634 all0 q1613)
    have q1649 := (Sta.keepN K1634 all0 q1614)
    have q1650 := (Sta.keepN K1634 all0 q1615)
    have q1651 := (q1633.keep K1634)
    have q1652 := (C1609.keep K1634 nin0)
    have q1653 := (V1609.keep K1634 nin0)
    have q1654 := (A1609.keep K1634 nin0)
    have q1656 := ((A1582.keep K1609 (ninS (Ne.symm ne1589) nin0)).keep K1634 nin0)
    refine W.callSX (rest := [(.ref e1)]) (argsL := [(.ref o1568)]) 187 at_184 rfl (fun hn => c_exp1 l Z a0 hw o1568 b1609 kc hkc ([(101 : Int32), (100 : Int32), (103 : Int32), (101 : Int32), (108 : Int32), (105 : Int32), (115 : Int32)].map byteOf) e0 e1 e2 _ n0 hn q1647 q1648 q1649 q1650 q1651 q1652 q1653 q1654 q0_1634 q1_1634) (wd_69 hw) (wd_70 hw) (wd_6 hw) (wd_71 hw) (by decide) pd_12 rfl rfl rfl (by decide) 1 (Nat.le_of_ble_eq_true rfl) (by decide) (by decide) (by decide) (own_EL hw) hv1646 (allS q1656.lt (allS q1651.lt all0)) all0 ?_
    rintro v1655 h1655 rfl
    have hv1655 := HV.here (Z := Z) (EL := consts_1) (h := h1655) (S := [d1582, o1568])
    show WG _ _ _ _ _ _ _ _ _ _ _ _ 10 128 187 #[.val (.int p0), .val (.int p1), .val (.int p2), .val (.int p3), .val (.int (0 : Int32)), .val (.int (2 : Int32)), .val (.int (p2 &&& (255 : Int32))), .val (.ref o1568), .val (.ref e1)] [(.ref e1), (.ref e1)]
    refine W.acmp_ne 194 190 at_187 rfl rfl rfl rfl (fun hc => absurd rfl hc) (fun _ => ?_)
    refine W.iconst 191 at_190 rfl (1 : Int32) rfl ?_
    refine W.goto 195 at_191 rfl ?_
    refine WG.retX (own_EL hw) hv1655 ?_
    exact W.ireturnN (t := .boolean) at_195 rfl (by simp) (1 : Int32) rfl ⟨rfl, rfl⟩ (by decide) (by decide)
  · have hv1657 := HV.keep hv1610 K1634 all0
    show WG _ _ _ _ _ _ _ _ _ _ _ _ 4 32 178 #[.val (.int p0), .val (.int p1), .val (.int p2), .val (.int p3), .val (.int (0 : Int32)), .val (.int (2 : Int32)), .val (.int (p2 &&& (255 : Int32))), .val (.ref o1568), .unset] [(.ref e2)]
    refine W.astore 180 at_178 rfl rfl #[.val (.int p0), .val (.int p1), .val (.int p2), .val (.int p3), .val (.int (0 : Int32)), .val (.int (2 : Int32)), .val (.int (p2 &&& (255 : Int32))), .val (.ref o1568), .val (.ref e2)] rfl ?_
    refine W.aload 182 at_180 rfl rfl rfl ?_
    refine W.aload 184 at_182 rfl rfl rfl ?_
    have q1658 := (Sta.keepN K1634 all0 q1611)
    have q1659 := (Sta.keepN K1634 all0 q1613)
    have q1660 := (Sta.keepN K1634 all0 q1614)
    have q1661 := (Sta.keepN K1634 all0 q1615)
    have q1662 := (q1633.keep K1634)
    have q1663 := (C1609.keep K1634 nin0)
    have q1664 := (V1609.keep K1634 nin0)
    have q1665 := (A1609.keep K1634 nin0)
    have q1667 := ((A1582.keep K1609 (ninS (Ne.symm ne1589) nin0)).keep K1634 nin0)
    refine W.callSX (rest := [(.ref e2)]) (argsL := [(.ref o1568)]) 187 at_184 rfl (fun hn => c_exp2 l Z a0 hw o1568 b1609 kc hkc ([(101 : Int32), (100 : Int32), (103 : Int32), (101 : Int32), (108 : Int32), (105 : Int32), (115 : Int32)].map byteOf) e0 e1 e2 _ n0 hn q1658 q1659 q1660 q1661 q1662 q1663 q1664 q1665 q0_1634 q1_1634 q2_1634) (wd_69 hw) (wd_70 hw) (wd_6 hw) (wd_71 hw) (by decide) pd_12 rfl rfl rfl (by decide) 1 (Nat.le_of_ble_eq_true rfl) (by decide) (by decide) (by decide) (own_EL hw) hv1657 (allS q1667.lt (allS q1662.lt all0)) all0 ?_
    rintro v1666 h1666 rfl
    have hv1666 := HV.here (Z := Z) (EL := consts_1) (h := h1666) (S := [d1582, o1568])
    show WG _ _ _ _ _ _ _ _ _ _ _ _ 10 128 187 #[.val (.int p0), .val (.int p1), .val (.int p2), .val (.int p3), .val (.int (0 : Int32)), .val (.int (2 : Int32)), .val (.int (p2 &&& (255 : Int32))), .val (.ref o1568), .val (.ref e2)] [(.ref e2), (.ref e2)]
    refine W.acmp_ne 194 190 at_187 rfl rfl rfl rfl (fun hc => absurd rfl hc) (fun _ => ?_)
    refine W.iconst 191 at_190 rfl (1 : Int32) rfl ?_
    refine W.goto 195 at_191 rfl ?_
    refine WG.retX (own_EL hw) hv1666 ?_
    exact W.ireturnN (t := .boolean) at_195 rfl (by simp) (1 : Int32) rfl ⟨rfl, rfl⟩ (by decide) (by decide)
  · have hv1668 := HV.keep hv1610 K1634 all0
    show WG _ _ _ _ _ _ _ _ _ _ _ _ 4 32 178 #[.val (.int p0), .val (.int p1), .val (.int p2), .val (.int p3), .val (.int (0 : Int32)), .val (.int (2 : Int32)), .val (.int (p2 &&& (255 : Int32))), .val (.ref o1568), .unset] [.null]
    refine W.astore 180 at_178 rfl rfl #[.val (.int p0), .val (.int p1), .val (.int p2), .val (.int p3), .val (.int (0 : Int32)), .val (.int (2 : Int32)), .val (.int (p2 &&& (255 : Int32))), .val (.ref o1568), .val .null] rfl ?_
    refine W.aload 182 at_180 rfl rfl rfl ?_
    refine W.aload 184 at_182 rfl rfl rfl ?_
    have q1669 := (Sta.keepN K1634 all0 q1611)
    have q1670 := (Sta.keepN K1634 all0 q1613)
    have q1671 := (Sta.keepN K1634 all0 q1614)
    have q1672 := (Sta.keepN K1634 all0 q1615)
    have q1673 := (q1633.keep K1634)
    have q1674 := (C1609.keep K1634 nin0)
    have q1675 := (V1609.keep K1634 nin0)
    have q1676 := (A1609.keep K1634 nin0)
    have q1678 := ((A1582.keep K1609 (ninS (Ne.symm ne1589) nin0)).keep K1634 nin0)
    refine W.callSX (rest := [.null]) (argsL := [(.ref o1568)]) 187 at_184 rfl (fun hn => c_exp3 l Z a0 hw o1568 b1609 kc hkc ([(101 : Int32), (100 : Int32), (103 : Int32), (101 : Int32), (108 : Int32), (105 : Int32), (115 : Int32)].map byteOf) e0 e1 e2 _ n0 hn q1669 q1670 q1671 q1672 q1673 q1674 q1675 q1676 q0_1634 q1_1634 q2_1634) (wd_69 hw) (wd_70 hw) (wd_6 hw) (wd_71 hw) (by decide) pd_12 rfl rfl rfl (by decide) 1 (Nat.le_of_ble_eq_true rfl) (by decide) (by decide) (by decide) (own_EL hw) hv1668 (allS q1678.lt (allS q1673.lt all0)) all0 ?_
    rintro v1677 h1677 rfl
    have hv1677 := HV.here (Z := Z) (EL := consts_1) (h := h1677) (S := [d1582, o1568])
    show WG _ _ _ _ _ _ _ _ _ _ _ _ 10 128 187 #[.val (.int p0), .val (.int p1), .val (.int p2), .val (.int p3), .val (.int (0 : Int32)), .val (.int (2 : Int32)), .val (.int (p2 &&& (255 : Int32))), .val (.ref o1568), .val .null] [.null, .null]
    refine W.acmp_ne 194 190 at_187 rfl rfl rfl rfl (fun hc => absurd rfl hc) (fun _ => ?_)
    refine W.iconst 191 at_190 rfl (1 : Int32) rfl ?_
    refine W.goto 195 at_191 rfl ?_
    refine WG.retX (own_EL hw) hv1677 ?_
    exact W.ireturnN (t := .boolean) at_195 rfl (by simp) (1 : Int32) rfl ⟨rfl, rfl⟩ (by decide) (by decide)
theorem law_03 (l : Launch) (Z : State) (a0 : Array Value) (hw : HwT Z a0) (p0 p1 p2 p3 : Int32) (kc : Int32) (hkc : ¬ kc = 0) (e0 e1 e2 t0 t1 t2 u0 u1 u2 vv : Addr) (h : Heap) (n0 : Nat) (hn : n0 ≤ h.size) (FS : Sta Z h "java/lang/String" "COMPACT_STRINGS" "Z" (.int kc)) (SV : Sta Z h "com/example/eccentra/eccentra/GraphFormat" "$VALUES" "[Lcom/example/eccentra/eccentra/GraphFormat;" (.ref vv)) (S0 : Sta Z h "com/example/eccentra/eccentra/GraphFormat" "EDGELIST" "Lcom/example/eccentra/eccentra/GraphFormat;" (.ref e0)) (S1 : Sta Z h "com/example/eccentra/eccentra/GraphFormat" "ADJLIST" "Lcom/example/eccentra/eccentra/GraphFormat;" (.ref e1)) (S2 : Sta Z h "com/example/eccentra/eccentra/GraphFormat" "MTX" "Lcom/example/eccentra/eccentra/GraphFormat;" (.ref e2)) (AV : Ary Z h vv (.object "com/example/eccentra/eccentra/GraphFormat") [.ref e0, .ref e1, .ref e2]) (EV : Exa Z h vv "[Lcom/example/eccentra/eccentra/GraphFormat;") (O0 : Fld Z h e0 "com/example/eccentra/eccentra/GraphFormat" "optionValue" "Ljava/lang/String;" (.ref t0)) (Et0 : Exa Z h t0 "java/lang/String") (Ct0 : Fld Z h t0 "java/lang/String" "coder" "B" (.int 0)) (Vt0 : Fld Z h t0 "java/lang/String" "value" "[B" (.ref u0)) (At0 : Ary Z h u0 .byte [(.int (101 : Int32)), (.int (100 : Int32)), (.int (103 : Int32)), (.int (101 : Int32)), (.int (108 : Int32)), (.int (105 : Int32)), (.int (115 : Int32)), (.int (116 : Int32))]) (O1 : Fld Z h e1 "com/example/eccentra/eccentra/GraphFormat" "optionValue" "Ljava/lang/String;" (.ref t1)) (Et1 : Exa Z h t1 "java/lang/String") (Ct1 : Fld Z h t1 "java/lang/String" "coder" "B" (.int 0)) (Vt1 : Fld Z h t1 "java/lang/String" "value" "[B" (.ref u1)) (At1 : Ary Z h u1 .byte [(.int (97 : Int32)), (.int (100 : Int32)), (.int (106 : Int32)), (.int (108 : Int32)), (.int (105 : Int32)), (.int (115 : Int32)), (.int (116 : Int32))]) (O2 : Fld Z h e2 "com/example/eccentra/eccentra/GraphFormat" "optionValue" "Ljava/lang/String;" (.ref t2)) (Et2 : Exa Z h t2 "java/lang/String") (Ct2 : Fld Z h t2 "java/lang/String" "coder" "B" (.int 0)) (Vt2 : Fld Z h t2 "java/lang/String" "value" "[B" (.ref u2)) (At2 : Ary Z h u2 .byte [(.int (109 : Int32)), (.int (116 : Int32)), (.int (120 : Int32))]) (ek : (p0 &&& 2147483647) % 3 = 0) (em : (p1 &&& 2147483647) % 5 = 3) : ConX Z consts_1 [] tables_1 l x code maxLocals ret room_1 #[(.int p0), (.int p1), (.int p2), (.int p3)] h n0 (fun v _ => v = some (.int 1)) := by
  refine ConX.of_W (Ls := #[.val (.int p0), .val (.int p1), .val (.int p2), .val (.int p3), .unset, .unset, .unset, .unset, .unset]) (plainFor_of_name pn_3) hn (fun m => by first | (simp [entryFrame, mkF, argsToLocals, Value.category, maxLocals]; done) | rfl) ?_
  have hv0 := HV.here (Z := Z) (EL := consts_1) (h := h) (S := [])
  refine W.iloadN 1 at_0 rfl rfl ?_
  refine W.ldcI 3 at_1 rfl (wd_0 hw) ?_
  refine W.iand 4 at_3 rfl (p0 &&& (2147483647 : Int32)) rfl ?_
  refine W.iconst 5 at_4 rfl (3 : Int32) rfl ?_
  refine W.irem 6 at_5 rfl (by decide) (0 : Int32) ek ?_
  refine W.istore 8 at_6 rfl #[.val (.int p0), .val (.int p1), .val (.int p2), .val (.int p3), .val (.int (0 : Int32)), .unset, .unset, .unset, .unset] rfl ?_
  refine W.iloadN 9 at_8 rfl rfl ?_
  refine W.ldcI 11 at_9 rfl (wd_0 hw) ?_
  refine W.iand 12 at_11 rfl (p1 &&& (2147483647 : Int32)) rfl ?_
  refine W.iconst 13 at_12 rfl (5 : Int32) rfl ?_
  refine W.irem 14 at_13 rfl (by decide) (3 : Int32) em ?_
  refine W.istore 16 at_14 rfl #[.val (.int p0), .val (.int p1), .val (.int p2), .val (.int p3), .val (.int (0 : Int32)), .val (.int (3 : Int32)), .unset, .unset, .unset] rfl ?_
  refine W.iloadN 17 at_16 rfl rfl ?_
  refine W.sipush 20 at_17 rfl (255 : Int32) rfl ?_
  refine W.iand 21 at_20 rfl (p2 &&& (255 : Int32)) rfl ?_
  refine W.i2c 22 at_21 rfl (p2 &&& (255 : Int32)) (ch_nar (own_m p2)) ?_
  refine W.istore 24 at_22 rfl #[.val (.int p0), .val (.int p1), .val (.int p2), .val (.int p3), .val (.int (0 : Int32)), .val (.int (3 : Int32)), .val (.int (p2 &&& (255 : Int32))), .unset, .unset] rfl ?_
  refine W.iload 26 at_24 rfl rfl ?_
  refine W.if_ne 46 29 at_26 rfl rfl (fun _ => ?_) (fun hc => absurd hc (by decide))
  refine W.iload 48 at_46 rfl rfl ?_
  refine W.iconst 49 at_48 rfl (1 : Int32) rfl ?_
  refine W.icmp_ne 86 52 at_49 rfl rfl (fun _ => ?_) (fun hc => absurd hc (by decide))
  refine W.iload 88 at_86 rfl rfl ?_
  refine W.iconst 89 at_88 rfl (2 : Int32) rfl ?_
  refine W.icmp_ne 109 92 at_89 rfl rfl (fun _ => ?_) (fun hc => absurd hc (by decide))
  refine W.iload 111 at_109 rfl rfl ?_
  refine W.iconst 112 at_111 rfl (3 : Int32) rfl ?_
  refine W.icmp_ne 134 115 at_112 rfl rfl (fun hc => absurd (by decide) hc) (fun _ => ?_)
  refine W.new 118 at_115 rfl (wd_1 hw) (wd_2 hw) (wd_3 hw) (by decide) (by decide) ?_
  intro h1679 o1679 g1679 ge1679 X1679 K1679 E1679 D1679
  have ne1680 : e0 ≠ o1679 := Nat.ne_of_lt (Nat.lt_of_lt_of_eq O0.lt g1679.symm)
  have ne1681 : e1 ≠ o1679 := Nat.ne_of_lt (Nat.lt_of_lt_of_eq O1.lt g1679.symm)
  have ne1682 : e2 ≠ o1679 := Nat.ne_of_lt (Nat.lt_of_lt_of_eq O2.lt g1679.symm)
  have ne1683 : t0 ≠ o1679 := Nat.ne_of_lt (Nat.lt_of_lt_of_eq Et0.lt g1679.symm)
  have ne1684 : t1 ≠ o1679 := Nat.ne_of_lt (Nat.lt_of_lt_of_eq Et1.lt g1679.symm)
  have ne1685 : t2 ≠ o1679 := Nat.ne_of_lt (Nat.lt_of_lt_of_eq Et2.lt g1679.symm)
  have ne1686 : u0 ≠ o1679 := Nat.ne_of_lt (Nat.lt_of_lt_of_eq At0.lt g1679.symm)
  have ne1687 : u1 ≠ o1679 := Nat.ne_of_lt (Nat.lt_of_lt_of_eq At1.lt g1679.symm)
  have ne1688 : u2 ≠ o1679 := Nat.ne_of_lt (Nat.lt_of_lt_of_eq At2.lt g1679.symm)
  have ne1689 : vv ≠ o1679 := Nat.ne_of_lt (Nat.lt_of_lt_of_eq AV.lt g1679.symm)
  have hv1690 := HV.new hv0 K1679 all0 (Nat.le_of_eq g1679.symm)
  have f1691 : Fld _ _ o1679 "java/lang/String" "coder" "B" (.int (0 : Int32)) := D1679 (Or.inr (wd_32 hw)) (ty := .byte) (by decide)
  have f1692 : Fld _ _ o1679 "java/lang/String" "value" "[B" .null := D1679 (Or.inr (wd_34 hw)) (ty := (.array .byte)) (by decide)
  show WG _ _ _ _ _ _ _ _ _ _ _ _ 1 4 118 #[.val (.int p0), .val (.int p1), .val (.int p2), .val (.int p3), .val (.int (0 : Int32)), .val (.int (3 : Int32)), .val (.int (p2 &&& (255 : Int32))), .unset, .unset] [(.ref o1679)]
  refine W.dup 119 at_118 rfl rfl ?_
  refine W.iload 121 at_119 rfl rfl ?_
  refine W.iload 123 at_121 rfl rfl ?_
  refine W.callS (rest := [(.ref o1679), (.ref o1679)]) (argsL := [(.int (0 : Int32)), (.int (p2 &&& (255 : Int32)))]) 126 at_123 rfl (fun hn => c_ext0 l Z a0 hw (p2 &&& (255 : Int32)) _ n0 hn (own_m p2)) (wd_4 hw) (wd_5 hw) (wd_6 hw) (wd_7 hw) (by decide) pd_13 rfl rfl rfl (by decide) 2 (Nat.le_of_ble_eq_true rfl) (by decide) (by decide) (by decide) ?_
  rintro v1693 h1693 ⟨d1693, rfl, sz1693, gd1693, K1693, A1693⟩
  have q1694 := (O0.keep K1679 nin0)
  have ne1695 : e0 ≠ d1693 := Nat.ne_of_lt (Nat.lt_of_lt_of_le q1694.lt sz1693)
  have q1696 := (O1.keep K1679 nin0)
  have ne1697 : e1 ≠ d1693 := Nat.ne_of_lt (Nat.lt_of_lt_of_le q1696.lt sz1693)
  have q1698 := (O2.keep K1679 nin0)
  have ne1699 : e2 ≠ d1693 := Nat.ne_of_lt (Nat.lt_of_lt_of_le q1698.lt sz1693)
  have ne1700 : o1679 ≠ d1693 := Nat.ne_of_lt (Nat.lt_of_lt_of_le E1679.lt sz1693)
  have q1701 := (Et0.keep K1679)
  have ne1702 : t0 ≠ d1693 := Nat.ne_of_lt (Nat.lt_of_lt_of_le q1701.lt sz1693)
  have q1703 := (Et1.keep K1679)
  have ne1704 : t1 ≠ d1693 := Nat.ne_of_lt (Nat.lt_of_lt_of_le q1703.lt sz1693)
  have q1705 := (Et2.keep K1679)
  have ne1706 : t2 ≠ d1693 := Nat.ne_of_lt (Nat.lt_of_lt_of_le q1705.lt sz1693)
  have q1707 := (At0.keep K1679 nin0)
  have ne1708 : u0 ≠ d1693 := Nat.ne_of_lt (Nat.lt_of_lt_of_le q1707.lt sz1693)
  have q1709 := (At1.keep K1679 nin0)
  have ne1710 : u1 ≠ d1693 := Nat.ne_of_lt (Nat.lt_of_lt_of_le q1709.lt sz1693)
  have q1711 := (At2.keep K1679 nin0)
  have ne1712 : u2 ≠ d1693 := Nat.ne_of_lt (Nat.lt_of_lt_of_le q1711.lt sz1693)
  have q1713 := (AV.keep K1679 nin0)
  have ne1714 : vv ≠ d1693 := Nat.ne_of_lt (Nat.lt_of_lt_of_le q1713.lt sz1693)
  have hv1715 := HV.new hv1690 K1693 all0 sz1693
  show WG _ _ _ _ _ _ _ _ _ _ _ _ 2 13 126 #[.val (.int p0), .val (.int p1), .val (.int p2), .val (.int p3), .val (.int (0 : Int32)), .val (.int (3 : Int32)), .val (.int (p2 &&& (255 : Int32))), .unset, .unset] [(.ref d1693), (.ref o1679), (.ref o1679)]
  have q1716 := (Sta.keepN K1693 all0 (Sta.ext X1679 FS))
  have q1717 := (E1679.keep K1693)
  have q1718 := (f1691.keep K1693 nin0)
  have q1719 := (f1692.keep K1693 nin0)
  refine W.callInit (rest := [(.ref o1679)]) (argsL := [(.ref d1693)]) (a := o1679) 129 at_126 rfl (fun hn => c_i1g l Z a0 hw o1679 d1693 kc hkc [(101 : Int32), (100 : Int32), (103 : Int32), (101 : Int32), (108 : Int32), (105 : Int32), (115 : Int32), (116 : Int32), (p2 &&& (255 : Int32))] _ n0 hn ne1700 ge1679 (chC (ch_k (by decide) (by decide)) (chC (ch_k (by decide) (by decide)) (chC (ch_k (by decide) (by decide)) (chC (ch_k (by decide) (by decide)) (chC (ch_k (by decide) (by decide)) (chC (ch_k (by decide) (by decide)) (chC (ch_k (by decide) (by decide)) (chC (ch_k (by decide) (by decide)) (chC (own_m p2) chN))))))))) (Nat.le_of_ble_eq_true rfl) (show ¬ (9 : Nat).toInt32 = 0 by decide) q1716 q1717 q1718 q1719 A1693) rfl (wd_9 hw) (wd_10 hw) (wd_3 hw) (wd_11 hw) (by decide) pd_11 rfl rfl rfl (by decide) 1 (Nat.le_of_ble_eq_true rfl) (by decide) (by decide) (by decide) ?_
  rintro v1720 h1720 ⟨rfl, K1720, b1720, C1720, V1720, A1720⟩
  have hv1721 := HV.keep hv1715 K1720 (allS (List.mem_of_getElem? (i := 1) rfl) all0)
  show WG _ _ _ _ _ _ _ _ _ _ _ _ 3 29 129 #[.val (.int p0), .val (.int p1), .val (.int p2), .val (.int p3), .val (.int (0 : Int32)), .val (.int (3 : Int32)), .val (.int (p2 &&& (255 : Int32))), .unset, .unset] [(.ref o1679)]
  refine W.astore 131 at_129 rfl rfl #[.val (.int p0), .val (.int p1), .val (.int p2), .val (.int p3), .val (.int (0 : Int32)), .val (.int (3 : Int32)), .val (.int (p2 &&& (255 : Int32))), .val (.ref o1679), .unset] rfl ?_
  refine W.goto 173 at_131 rfl ?_
  refine W.aload 175 at_173 rfl rfl rfl ?_
  have q1722 := (Sta.keepN K1720 (allS q1717.nostat all0) q1716)
  have q1723 := (Sta.keepN K1720 (allS q1717.nostat all0) (Sta.keepN K1693 all0 (Sta.ext X1679 SV)))
  have q1724 := (Sta.keepN K1720 (allS q1717.nostat all0) (Sta.keepN K1693 all0 (Sta.ext X1679 S0)))
  have q1725 := (Sta.keepN K1720 (allS q1717.nostat all0) (Sta.keepN K1693 all0 (Sta.ext X1679 S1)))
  have q1726 := (Sta.keepN K1720 (allS q1717.nostat all0) (Sta.keepN K1693 all0 (Sta.ext X1679 S2)))
  have q1727 := ((q1713.keep K1693 nin0).keep K1720 (ninS ne1689 nin0))
  have q1728 := (((EV.keep K1679).keep K1693).keep K1720)
  have q1729 := ((q1694.keep K1693 nin0).keep K1720 (ninS ne1680 nin0))
  have q1730 := ((q1701.keep K1693).keep K1720)
  have q1731 := (((Ct0.keep K1679 nin0).keep K1693 nin0).keep K1720 (ninS ne1683 nin0))
  have q1732 := (((Vt0.keep K1679 nin0).keep K1693 nin0).keep K1720 (ninS ne1683 nin0))
  have q1733 := ((q1707.keep K1693 nin0).keep K1720 (ninS ne1686 nin0))
  have q1734 := ((q1696.keep K1693 nin0).keep K1720 (ninS ne1681 nin0))
  have q1735 := ((q1703.keep K1693).keep K1720)
  have q1736 := (((Ct1.keep K1679 nin0).keep K1693 nin0).keep K1720 (ninS ne1684 nin0))
  have q1737 := (((Vt1.keep K1679 nin0).keep K1693 nin0).keep K1720 (ninS ne1684 nin0))
  have q1738 := ((q1709.keep K1693 nin0).keep K1720 (ninS ne1687 nin0))
  have q1739 := ((q1698.keep K1693 nin0).keep K1720 (ninS ne1682 nin0))
  have q1740 := ((q1705.keep K1693).keep K1720)
  have q1741 := (((Ct2.keep K1679 nin0).keep K1693 nin0).keep K1720 (ninS ne1685 nin0))
  have q1742 := (((Vt2.keep K1679 nin0).keep K1693 nin0).keep K1720 (ninS ne1685 nin0))
  have q1743 := ((q1711.keep K1693 nin0).keep K1720 (ninS ne1688 nin0))
  have q1744 := (q1717.keep K1720)
  refine W.callS (rest := []) (argsL := [(.ref o1679)]) 178 at_175 rfl (fun hn => c_named l Z a0 hw o1679 b1720 kc hkc ([(101 : Int32), (100 : Int32), (103 : Int32), (101 : Int32), (108 : Int32), (105 : Int32), (115 : Int32), (116 : Int32), (p2 &&& (255 : Int32))].map byteOf) e0 e1 e2 t0 t1 t2 u0 u1 u2 vv _ n0 hn q1722 q1723 q1724 q1725 q1726 q1727 q1728 q1729 q1730 q1731 q1732 q1733 q1734 q1735 q1736 q1737 q1738 q1739 q1740 q1741 q1742 q1743 q1744 C1720 V1720 A1720) (wd_35 hw) (wd_36 hw) (wd_37 hw) (wd_38 hw) (by decide) pd_12 rfl rfl rfl (by decide) 0 (Nat.le_of_ble_eq_true rfl) (by decide) (by decide) (by decide) ?_
  rintro v1745 h1745 (⟨q0_1745, rfl, K1745⟩ | ⟨q0_1745, q1_1745, rfl, K1745⟩ | ⟨q0_1745, q1_1745, q2_1745, rfl, K1745⟩ | ⟨q0_1745, q1_1745, q2_1745, rfl, K1745⟩)
  · have hv1746 := HV.keep hv1721 K1745 all0
    show WG _ _ _ _ _ _ _ _ _ _ _ _ 4 32 178 #[.val (.int p0), .val (.int p1), .val (.int p2), .val (.int p3), .val (.int (0 : Int32)), .val (.int (3 : Int32)), .val (.int (p2 &&& (255 : Int32))), .val (.ref o1679), .unset] [(.ref e0)]
    refine W.astore 180 at_178 rfl rfl #[.val (.int p0), .val (.int p1), .val (.int p2), .val (.int p3), .val (.int (0 : Int32)), .val (.int (3 : Int32)), .val (.int (p2 &&& (255 : Int32))), .val (.ref o1679), .val (.ref e0)] rfl ?_
    refine W.aload 182 at_180 rfl rfl rfl ?_
    refine W.aload 184 at_182 rfl rfl rfl ?_
    have q1747 := (Sta.keepN K1745 all0 q1722)
    have q1748 := (Sta.keepN K1745 all0 q1724)
    have q1749 := (Sta.keepN K1745 all0 q1725)
    have q1750 := (Sta.keepN K1745 all0 q1726)
    have q1751 := (q1744.keep K1745)
    have q1752 := (C1720.keep K1745 nin0)
    have q1753 := (V1720.keep K1745 nin0)
    have q1754 := (A1720.keep K1745 nin0)
    have q1756 := ((A1693.keep K1720 (ninS (Ne.symm ne1700) nin0)).keep K1745 nin0)
    refine W.callSX (rest := [(.ref e0)]) (argsL := [(.ref o1679)]) 187 at_184 rfl (fun hn => c_exp0 l Z a0 hw o1679 b1720 kc hkc ([(101 : Int32), (100 : Int32), (103 : Int32), (101 : Int32), (108 : Int32), (105 : Int32), (115 : Int32), (116 : Int32), (p2 &&& (255 : Int32))].map byteOf) e0 e1 e2 _ n0 hn q1747 q1748 q1749 q1750 q1751 q1752 q1753 q1754 q0_1745) (wd_69 hw) (wd_70 hw) (wd_6 hw) (wd_71 hw) (by decide) pd_12 rfl rfl rfl (by decide) 1 (Nat.le_of_ble_eq_true rfl) (by decide) (by decide) (by decide) (own_EL hw) hv1746 (allS q1756.lt (allS q1751.lt all0)) all0 ?_
    rintro v1755 h1755 rfl
    have hv1755 := HV.here (Z := Z) (EL := consts_1) (h := h1755) (S := [d1693, o1679])
    show WG _ _ _ _ _ _ _ _ _ _ _ _ 10 128 187 #[.val (.int p0), .val (.int p1), .val (.int p2), .val (.int p3), .val (.int (0 : Int32)), .val (.int (3 : Int32)), .val (.int (p2 &&& (255 : Int32))), .val (.ref o1679), .val (.ref e0)] [(.ref e0), (.ref e0)]
    refine W.acmp_ne 194 190 at_187 rfl rfl rfl rfl (fun hc => absurd rfl hc) (fun _ => ?_)
    refine W.iconst 191 at_190 rfl (1 : Int32) rfl ?_
    refine W.goto 195 at_191 rfl ?_
    refine WG.retX (own_EL hw) hv1755 ?_
    exact W.ireturnN (t := .boolean) at_195 rfl (by simp) (1 : Int32) rfl ⟨rfl, rfl⟩ (by decide) (by decide)
  · have hv1757 := HV.keep hv1721 K1745 all0
    show WG _ _ _ _ _ _ _ _ _ _ _ _ 4 32 178 #[.val (.int p0), .val (.int p1), .val (.int p2), .val (.int p3), .val (.int (0 : Int32)), .val (.int (3 : Int32)), .val (.int (p2 &&& (255 : Int32))), .val (.ref o1679), .unset] [(.ref e1)]
    refine W.astore 180 at_178 rfl rfl #[.val (.int p0), .val (.int p1), .val (.int p2), .val (.int p3), .val (.int (0 : Int32)), .val (.int (3 : Int32)), .val (.int (p2 &&& (255 : Int32))), .val (.ref o1679), .val (.ref e1)] rfl ?_
    refine W.aload 182 at_180 rfl rfl rfl ?_
    refine W.aload 184 at_182 rfl rfl rfl ?_
    have q1758 := (Sta.keepN K1745 all0 q1722)
    have q1759 := (Sta.keepN K1745 all0 q1724)
    have q1760 := (Sta.keepN K1745 all0 q1725)
    have q1761 := (Sta.keepN K1745 all0 q1726)
    have q1762 := (q1744.keep K1745)
    have q1763 := (C1720.keep K1745 nin0)
    have q1764 := (V1720.keep K1745 nin0)
    have q1765 := (A1720.keep K1745 nin0)
    have q1767 := ((A1693.keep K1720 (ninS (Ne.symm ne1700) nin0)).keep K1745 nin0)
    refine W.callSX (rest := [(.ref e1)]) (argsL := [(.ref o1679)]) 187 at_184 rfl (fun hn => c_exp1 l Z a0 hw o1679 b1720 kc hkc ([(101 : Int32), (100 : Int32), (103 : Int32), (101 : Int32), (108 : Int32), (105 : Int32), (115 : Int32), (116 : Int32), (p2 &&& (255 : Int32))].map byteOf) e0 e1 e2 _ n0 hn q1758 q1759 q1760 q1761 q1762 q1763 q1764 q1765 q0_1745 q1_1745) (wd_69 hw) (wd_70 hw) (wd_6 hw) (wd_71 hw) (by decide) pd_12 rfl rfl rfl (by decide) 1 (Nat.le_of_ble_eq_true rfl) (by decide) (by decide) (by decide) (own_EL hw) hv1757 (allS q1767.lt (allS q1762.lt all0)) all0 ?_
    rintro v1766 h1766 rfl
    have hv1766 := HV.here (Z := Z) (EL := consts_1) (h := h1766) (S := [d1693, o1679])
    show WG _ _ _ _ _ _ _ _ _ _ _ _ 10 128 187 #[.val (.int p0), .val (.int p1), .val (.int p2), .val (.int p3), .val (.int (0 : Int32)), .val (.int (3 : Int32)), .val (.int (p2 &&& (255 : Int32))), .val (.ref o1679), .val (.ref e1)] [(.ref e1), (.ref e1)]
    refine W.acmp_ne 194 190 at_187 rfl rfl rfl rfl (fun hc => absurd rfl hc) (fun _ => ?_)
    refine W.iconst 191 at_190 rfl (1 : Int32) rfl ?_
    refine W.goto 195 at_191 rfl ?_
    refine WG.retX (own_EL hw) hv1766 ?_
    exact W.ireturnN (t := .boolean) at_195 rfl (by simp) (1 : Int32) rfl ⟨rfl, rfl⟩ (by decide) (by decide)
  · have hv1768 := HV.keep hv1721 K1745 all0
    show WG _ _ _ _ _ _ _ _ _ _ _ _ 4 32 178 #[.val (.int p0), .val (.int p1), .val (.int p2), .val (.int p3), .val (.int (0 : Int32)), .val (.int (3 : Int32)), .val (.int (p2 &&& (255 : Int32))), .val (.ref o1679), .unset] [(.ref e2)]
    refine W.astore 180 at_178 rfl rfl #[.val (.int p0), .val (.int p1), .val (.int p2), .val (.int p3), .val (.int (0 : Int32)), .val (.int (3 : Int32)), .val (.int (p2 &&& (255 : Int32))), .val (.ref o1679), .val (.ref e2)] rfl ?_
    refine W.aload 182 at_180 rfl rfl rfl ?_
    refine W.aload 184 at_182 rfl rfl rfl ?_
    have q1769 := (Sta.keepN K1745 all0 q1722)
    have q1770 := (Sta.keepN K1745 all0 q1724)
    have q1771 := (Sta.keepN K1745 all0 q1725)
    have q1772 := (Sta.keepN K1745 all0 q1726)
    have q1773 := (q1744.keep K1745)
    have q1774 := (C1720.keep K1745 nin0)
    have q1775 := (V1720.keep K1745 nin0)
    have q1776 := (A1720.keep K1745 nin0)
    have q1778 := ((A1693.keep K1720 (ninS (Ne.symm ne1700) nin0)).keep K1745 nin0)
    refine W.callSX (rest := [(.ref e2)]) (argsL := [(.ref o1679)]) 187 at_184 rfl (fun hn => c_exp2 l Z a0 hw o1679 b1720 kc hkc ([(101 : Int32), (100 : Int32), (103 : Int32), (101 : Int32), (108 : Int32), (105 : Int32), (115 : Int32), (116 : Int32), (p2 &&& (255 : Int32))].map byteOf) e0 e1 e2 _ n0 hn q1769 q1770 q1771 q1772 q1773 q1774 q1775 q1776 q0_1745 q1_1745 q2_1745) (wd_69 hw) (wd_70 hw) (wd_6 hw) (wd_71 hw) (by decide) pd_12 rfl rfl rfl (by decide) 1 (Nat.le_of_ble_eq_true rfl) (by decide) (by decide) (by decide) (own_EL hw) hv1768 (allS q1778.lt (allS q1773.lt all0)) all0 ?_
    rintro v1777 h1777 rfl
    have hv1777 := HV.here (Z := Z) (EL := consts_1) (h := h1777) (S := [d1693, o1679])
    show WG _ _ _ _ _ _ _ _ _ _ _ _ 10 128 187 #[.val (.int p0), .val (.int p1), .val (.int p2), .val (.int p3), .val (.int (0 : Int32)), .val (.int (3 : Int32)), .val (.int (p2 &&& (255 : Int32))), .val (.ref o1679), .val (.ref e2)] [(.ref e2), (.ref e2)]
    refine W.acmp_ne 194 190 at_187 rfl rfl rfl rfl (fun hc => absurd rfl hc) (fun _ => ?_)
    refine W.iconst 191 at_190 rfl (1 : Int32) rfl ?_
    refine W.goto 195 at_191 rfl ?_
    refine WG.retX (own_EL hw) hv1777 ?_
    exact W.ireturnN (t := .boolean) at_195 rfl (by simp) (1 : Int32) rfl ⟨rfl, rfl⟩ (by decide) (by decide)
  · have hv1779 := HV.keep hv1721 K1745 all0
    show WG _ _ _ _ _ _ _ _ _ _ _ _ 4 32 178 #[.val (.int p0), .val (.int p1), .val (.int p2), .val (.int p3), .val (.int (0 : Int32)), .val (.int (3 : Int32)), .val (.int (p2 &&& (255 : Int32))), .val (.ref o1679), .unset] [.null]
    refine W.astore 180 at_178 rfl rfl #[.val (.int p0), .val (.int p1), .val (.int p2), .val (.int p3), .val (.int (0 : Int32)), .val (.int (3 : Int32)), .val (.int (p2 &&& (255 : Int32))), .val (.ref o1679), .val .null] rfl ?_
    refine W.aload 182 at_180 rfl rfl rfl ?_
    refine W.aload 184 at_182 rfl rfl rfl ?_
    have q1780 := (Sta.keepN K1745 all0 q1722)
    have q1781 := (Sta.keepN K1745 all0 q1724)
    have q1782 := (Sta.keepN K1745 all0 q1725)
    have q1783 := (Sta.keepN K1745 all0 q1726)
    have q1784 := (q1744.keep K1745)
    have q1785 := (C1720.keep K1745 nin0)
    have q1786 := (V1720.keep K1745 nin0)
    have q1787 := (A1720.keep K1745 nin0)
    have q1789 := ((A1693.keep K1720 (ninS (Ne.symm ne1700) nin0)).keep K1745 nin0)
    refine W.callSX (rest := [.null]) (argsL := [(.ref o1679)]) 187 at_184 rfl (fun hn => c_exp3 l Z a0 hw o1679 b1720 kc hkc ([(101 : Int32), (100 : Int32), (103 : Int32), (101 : Int32), (108 : Int32), (105 : Int32), (115 : Int32), (116 : Int32), (p2 &&& (255 : Int32))].map byteOf) e0 e1 e2 _ n0 hn q1780 q1781 q1782 q1783 q1784 q1785 q1786 q1787 q0_1745 q1_1745 q2_1745) (wd_69 hw) (wd_70 hw) (wd_6 hw) (wd_71 hw) (by decide) pd_12 rfl rfl rfl (by decide) 1 (Nat.le_of_ble_eq_true rfl) (by decide) (by decide) (by decide) (own_EL hw) hv1779 (allS q1789.lt (allS q1784.lt all0)) all0 ?_
    rintro v1788 h1788 rfl
    have hv1788 := HV.here (Z := Z) (EL := consts_1) (h := h1788) (S := [d1693, o1679])
    show WG _ _ _ _ _ _ _ _ _ _ _ _ 10 128 187 #[.val (.int p0), .val (.int p1), .val (.int p2), .val (.int p3), .val (.int (0 : Int32)), .val (.int (3 : Int32)), .val (.int (p2 &&& (255 : Int32))), .val (.ref o1679), .val .null] [.null, .null]
    refine W.acmp_ne 194 190 at_187 rfl rfl rfl rfl (fun hc => absurd rfl hc) (fun _ => ?_)
    refine W.iconst 191 at_190 rfl (1 : Int32) rfl ?_
    refine W.goto 195 at_191 rfl ?_
    refine WG.retX (own_EL hw) hv1788 ?_
    exact W.ireturnN (t := .boolean) at_195 rfl (by simp) (1 : Int32) rfl ⟨rfl, rfl⟩ (by decide) (by decide)
theorem law_04 (l : Launch) (Z : State) (a0 : Array Value) (hw : HwT Z a0) (p0 p1 p2 p3 : Int32) (kc : Int32) (hkc : ¬ kc = 0) (e0 e1 e2 t0 t1 t2 u0 u1 u2 vv : Addr) (h : Heap) (n0 : Nat) (hn : n0 ≤ h.size) (FS : Sta Z h "java/lang/String" "COMPACT_STRINGS" "Z" (.int kc)) (SV : Sta Z h "com/example/eccentra/eccentra/GraphFormat" "$VALUES" "[Lcom/example/eccentra/eccentra/GraphFormat;" (.ref vv)) (S0 : Sta Z h "com/example/eccentra/eccentra/GraphFormat" "EDGELIST" "Lcom/example/eccentra/eccentra/GraphFormat;" (.ref e0)) (S1 : Sta Z h "com/example/eccentra/eccentra/GraphFormat" "ADJLIST" "Lcom/example/eccentra/eccentra/GraphFormat;" (.ref e1)) (S2 : Sta Z h "com/example/eccentra/eccentra/GraphFormat" "MTX" "Lcom/example/eccentra/eccentra/GraphFormat;" (.ref e2)) (AV : Ary Z h vv (.object "com/example/eccentra/eccentra/GraphFormat") [.ref e0, .ref e1, .ref e2]) (EV : Exa Z h vv "[Lcom/example/eccentra/eccentra/GraphFormat;") (O0 : Fld Z h e0 "com/example/eccentra/eccentra/GraphFormat" "optionValue" "Ljava/lang/String;" (.ref t0)) (Et0 : Exa Z h t0 "java/lang/String") (Ct0 : Fld Z h t0 "java/lang/String" "coder" "B" (.int 0)) (Vt0 : Fld Z h t0 "java/lang/String" "value" "[B" (.ref u0)) (At0 : Ary Z h u0 .byte [(.int (101 : Int32)), (.int (100 : Int32)), (.int (103 : Int32)), (.int (101 : Int32)), (.int (108 : Int32)), (.int (105 : Int32)), (.int (115 : Int32)), (.int (116 : Int32))]) (O1 : Fld Z h e1 "com/example/eccentra/eccentra/GraphFormat" "optionValue" "Ljava/lang/String;" (.ref t1)) (Et1 : Exa Z h t1 "java/lang/String") (Ct1 : Fld Z h t1 "java/lang/String" "coder" "B" (.int 0)) (Vt1 : Fld Z h t1 "java/lang/String" "value" "[B" (.ref u1)) (At1 : Ary Z h u1 .byte [(.int (97 : Int32)), (.int (100 : Int32)), (.int (106 : Int32)), (.int (108 : Int32)), (.int (105 : Int32)), (.int (115 : Int32)), (.int (116 : Int32))]) (O2 : Fld Z h e2 "com/example/eccentra/eccentra/GraphFormat" "optionValue" "Ljava/lang/String;" (.ref t2)) (Et2 : Exa Z h t2 "java/lang/String") (Ct2 : Fld Z h t2 "java/lang/String" "coder" "B" (.int 0)) (Vt2 : Fld Z h t2 "java/lang/String" "value" "[B" (.ref u2)) (At2 : Ary Z h u2 .byte [(.int (109 : Int32)), (.int (116 : Int32)), (.int (120 : Int32))]) (ek : (p0 &&& 2147483647) % 3 = 0) (em : (p1 &&& 2147483647) % 5 = 4) : ConX Z consts_1 [] tables_1 l x code maxLocals ret room_1 #[(.int p0), (.int p1), (.int p2), (.int p3)] h n0 (fun v _ => v = some (.int 1)) := by
  refine ConX.of_W (Ls := #[.val (.int p0), .val (.int p1), .val (.int p2), .val (.int p3), .unset, .unset, .unset, .unset, .unset]) (plainFor_of_name pn_3) hn (fun m => by first | (simp [entryFrame, mkF, argsToLocals, Value.category, maxLocals]; done) | rfl) ?_
  have hv0 := HV.here (Z := Z) (EL := consts_1) (h := h) (S := [])
  refine W.iloadN 1 at_0 rfl rfl ?_
  refine W.ldcI 3 at_1 rfl (wd_0 hw) ?_
  refine W.iand 4 at_3 rfl (p0 &&& (2147483647 : Int32)) rfl ?_
  refine W.iconst 5 at_4 rfl (3 : Int32) rfl ?_
  refine W.irem 6 at_5 rfl (by decide) (0 : Int32) ek ?_
  refine W.istore 8 at_6 rfl #[.val (.int p0), .val (.int p1), .val (.int p2), .val (.int p3), .val (.int (0 : Int32)), .unset, .unset, .unset, .unset] rfl ?_
  refine W.iloadN 9 at_8 rfl rfl ?_
  refine W.ldcI 11 at_9 rfl (wd_0 hw) ?_
  refine W.iand 12 at_11 rfl (p1 &&& (2147483647 : Int32)) rfl ?_
  refine W.iconst 13 at_12 rfl (5 : Int32) rfl ?_
  refine W.irem 14 at_13 rfl (by decide) (4 : Int32) em ?_
  refine W.istore 16 at_14 rfl #[.val (.int p0), .val (.int p1), .val (.int p2), .val (.int p3), .val (.int (0 : Int32)), .val (.int (4 : Int32)), .unset, .unset, .unset] rfl ?_
  refine W.iloadN 17 at_16 rfl rfl ?_
  refine W.sipush 20 at_17 rfl (255 : Int32) rfl ?_
  refine W.iand 21 at_20 rfl (p2 &&& (255 : Int32)) rfl ?_
  refine W.i2c 22 at_21 rfl (p2 &&& (255 : Int32)) (ch_nar (own_m p2)) ?_
  refine W.istore 24 at_22 rfl #[.val (.int p0), .val (.int p1), .val (.int p2), .val (.int p3), .val (.int (0 : Int32)), .val (.int (4 : Int32)), .val (.int (p2 &&& (255 : Int32))), .unset, .unset] rfl ?_
  refine W.iload 26 at_24 rfl rfl ?_
  refine W.if_ne 46 29 at_26 rfl rfl (fun _ => ?_) (fun hc => absurd hc (by decide))
  refine W.iload 48 at_46 rfl rfl ?_
  refine W.iconst 49 at_48 rfl (1 : Int32) rfl ?_
  refine W.icmp_ne 86 52 at_49 rfl rfl (fun _ => ?_) (fun hc => absurd hc (by decide))
  refine W.iload 88 at_86 rfl rfl ?_
  refine W.iconst 89 at_88 rfl (2 : Int32) rfl ?_
  refine W.icmp_ne 109 92 at_89 rfl rfl (fun _ => ?_) (fun hc => absurd hc (by decide))
  refine W.iload 111 at_109 rfl rfl ?_
  refine W.iconst 112 at_111 rfl (3 : Int32) rfl ?_
  refine W.icmp_ne 134 115 at_112 rfl rfl (fun _ => ?_) (fun hc => absurd hc (by decide))
  refine W.iload 136 at_134 rfl rfl ?_
  refine W.if_ne 145 139 at_136 rfl rfl (fun hc => absurd (by decide) hc) (fun _ => ?_)
  refine W.aconst_null 140 at_139 rfl ?_
  refine W.astore 142 at_140 rfl rfl #[.val (.int p0), .val (.int p1), .val (.int p2), .val (.int p3), .val (.int (0 : Int32)), .val (.int (4 : Int32)), .val (.int (p2 &&& (255 : Int32))), .val .null, .unset] rfl ?_
  refine W.goto 173 at_142 rfl ?_
  refine W.aload 175 at_173 rfl rfl rfl ?_
  refine W.callS (rest := []) (argsL := [.null]) 178 at_175 rfl (fun hn => c_namedN l Z a0 hw kc hkc e0 e1 e2 t0 t1 t2 u0 u1 u2 vv _ n0 hn FS SV S0 S1 S2 AV EV O0 Et0 Ct0 Vt0 At0 O1 Et1 Ct1 Vt1 At1 O2 Et2 Ct2 Vt2 At2) (wd_35 hw) (wd_36 hw) (wd_37 hw) (wd_38 hw) (by decide) pd_12 rfl rfl rfl (by decide) 0 (Nat.le_of_ble_eq_true rfl) (by decide) (by decide) (by decide) ?_
  rintro v1790 h1790 ⟨rfl, K1790⟩
  have hv1791 := HV.keep hv0 K1790 all0
  show WG _ _ _ _ _ _ _ _ _ _ _ _ 1 3 178 #[.val (.int p0), .val (.int p1), .val (.int p2), .val (.int p3), .val (.int (0 : Int32)), .val (.int (4 : Int32)), .val (.int (p2 &&& (255 : Int32))), .val .null, .unset] [.null]
  refine W.astore 180 at_178 rfl rfl #[.val (.int p0), .val (.int p1), .val (.int p2), .val (.int p3), .val (.int (0 : Int32)), .val (.int (4 : Int32)), .val (.int (p2 &&& (255 : Int32))), .val .null, .val .null] rfl ?_
  refine W.aload 182 at_180 rfl rfl rfl ?_
  refine W.aload 184 at_182 rfl rfl rfl ?_
  refine W.callS (rest := [.null]) (argsL := [.null]) 187 at_184 rfl (fun hn => c_expN l Z a0 hw _ n0 hn) (wd_69 hw) (wd_70 hw) (wd_6 hw) (wd_71 hw) (by decide) pd_12 rfl rfl rfl (by decide) 1 (Nat.le_of_ble_eq_true rfl) (by decide) (by decide) (by decide) ?_
  rintro v1792 h1792 ⟨rfl, K1792⟩
  have hv1793 := HV.keep hv1791 K1792 all0
  show WG _ _ _ _ _ _ _ _ _ _ _ _ 7 99 187 #[.val (.int p0), .val (.int p1), .val (.int p2), .val (.int p3), .val (.int (0 : Int32)), .val (.int (4 : Int32)), .val (.int (p2 &&& (255 : Int32))), .val .null, .val .null] [.null, .null]
  refine W.acmp_ne 194 190 at_187 rfl rfl rfl rfl (fun hc => absurd rfl hc) (fun _ => ?_)
  refine W.iconst 191 at_190 rfl (1 : Int32) rfl ?_
  refine W.goto 195 at_191 rfl ?_
  refine WG.retX (own_EL hw) hv1793 ?_
  exact W.ireturnN (t := .boolean) at_195 rfl (by simp) (1 : Int32) rfl ⟨rfl, rfl⟩ (by decide) (by decide)
theorem law_10 (l : Launch) (Z : State) (a0 : Array Value) (hw : HwT Z a0) (p0 p1 p2 p3 : Int32) (kc : Int32) (hkc : ¬ kc = 0) (e0 e1 e2 t0 t1 t2 u0 u1 u2 vv : Addr) (h : Heap) (n0 : Nat) (hn : n0 ≤ h.size) (FS : Sta Z h "java/lang/String" "COMPACT_STRINGS" "Z" (.int kc)) (SV : Sta Z h "com/example/eccentra/eccentra/GraphFormat" "$VALUES" "[Lcom/example/eccentra/eccentra/GraphFormat;" (.ref vv)) (S0 : Sta Z h "com/example/eccentra/eccentra/GraphFormat" "EDGELIST" "Lcom/example/eccentra/eccentra/GraphFormat;" (.ref e0)) (S1 : Sta Z h "com/example/eccentra/eccentra/GraphFormat" "ADJLIST" "Lcom/example/eccentra/eccentra/GraphFormat;" (.ref e1)) (S2 : Sta Z h "com/example/eccentra/eccentra/GraphFormat" "MTX" "Lcom/example/eccentra/eccentra/GraphFormat;" (.ref e2)) (AV : Ary Z h vv (.object "com/example/eccentra/eccentra/GraphFormat") [.ref e0, .ref e1, .ref e2]) (EV : Exa Z h vv "[Lcom/example/eccentra/eccentra/GraphFormat;") (O0 : Fld Z h e0 "com/example/eccentra/eccentra/GraphFormat" "optionValue" "Ljava/lang/String;" (.ref t0)) (Et0 : Exa Z h t0 "java/lang/String") (Ct0 : Fld Z h t0 "java/lang/String" "coder" "B" (.int 0)) (Vt0 : Fld Z h t0 "java/lang/String" "value" "[B" (.ref u0)) (At0 : Ary Z h u0 .byte [(.int (101 : Int32)), (.int (100 : Int32)), (.int (103 : Int32)), (.int (101 : Int32)), (.int (108 : Int32)), (.int (105 : Int32)), (.int (115 : Int32)), (.int (116 : Int32))]) (O1 : Fld Z h e1 "com/example/eccentra/eccentra/GraphFormat" "optionValue" "Ljava/lang/String;" (.ref t1)) (Et1 : Exa Z h t1 "java/lang/String") (Ct1 : Fld Z h t1 "java/lang/String" "coder" "B" (.int 0)) (Vt1 : Fld Z h t1 "java/lang/String" "value" "[B" (.ref u1)) (At1 : Ary Z h u1 .byte [(.int (97 : Int32)), (.int (100 : Int32)), (.int (106 : Int32)), (.int (108 : Int32)), (.int (105 : Int32)), (.int (115 : Int32)), (.int (116 : Int32))]) (O2 : Fld Z h e2 "com/example/eccentra/eccentra/GraphFormat" "optionValue" "Ljava/lang/String;" (.ref t2)) (Et2 : Exa Z h t2 "java/lang/String") (Ct2 : Fld Z h t2 "java/lang/String" "coder" "B" (.int 0)) (Vt2 : Fld Z h t2 "java/lang/String" "value" "[B" (.ref u2)) (At2 : Ary Z h u2 .byte [(.int (109 : Int32)), (.int (116 : Int32)), (.int (120 : Int32))]) (ek : (p0 &&& 2147483647) % 3 = 1) (em : (p1 &&& 2147483647) % 5 = 0) : ConX Z consts_1 [] tables_1 l x code maxLocals ret room_1 #[(.int p0), (.int p1), (.int p2), (.int p3)] h n0 (fun v _ => v = some (.int 1)) := by
  refine ConX.of_W (Ls := #[.val (.int p0), .val (.int p1), .val (.int p2), .val (.int p3), .unset, .unset, .unset, .unset, .unset]) (plainFor_of_name pn_3) hn (fun m => by first | (simp [entryFrame, mkF, argsToLocals, Value.category, maxLocals]; done) | rfl) ?_
  have hv0 := HV.here (Z := Z) (EL := consts_1) (h := h) (S := [])
  refine W.iloadN 1 at_0 rfl rfl ?_
  refine W.ldcI 3 at_1 rfl (wd_0 hw) ?_
  refine W.iand 4 at_3 rfl (p0 &&& (2147483647 : Int32)) rfl ?_
  refine W.iconst 5 at_4 rfl (3 : Int32) rfl ?_
  refine W.irem 6 at_5 rfl (by decide) (1 : Int32) ek ?_
  refine W.istore 8 at_6 rfl #[.val (.int p0), .val (.int p1), .val (.int p2), .val (.int p3), .val (.int (1 : Int32)), .unset, .unset, .unset, .unset] rfl ?_
  refine W.iloadN 9 at_8 rfl rfl ?_
  refine W.ldcI 11 at_9 rfl (wd_0 hw) ?_
  refine W.iand 12 at_11 rfl (p1 &&& (2147483647 : Int32)) rfl ?_
  refine W.iconst 13 at_12 rfl (5 : Int32) rfl ?_
  refine W.irem 14 at_13 rfl (by decide) (0 : Int32) em ?_
  refine W.istore 16 at_14 rfl #[.val (.int p0), .val (.int p1), .val (.int p2), .val (.int p3), .val (.int (1 : Int32)), .val (.int (0 : Int32)), .unset, .unset, .unset] rfl ?_
  refine W.iloadN 17 at_16 rfl rfl ?_
  refine W.sipush 20 at_17 rfl (255 : Int32) rfl ?_
  refine W.iand 21 at_20 rfl (p2 &&& (255 : Int32)) rfl ?_
  refine W.i2c 22 at_21 rfl (p2 &&& (255 : Int32)) (ch_nar (own_m p2)) ?_
  refine W.istore 24 at_22 rfl #[.val (.int p0), .val (.int p1), .val (.int p2), .val (.int p3), .val (.int (1 : Int32)), .val (.int (0 : Int32)), .val (.int (p2 &&& (255 : Int32))), .unset, .unset] rfl ?_
  refine W.iload 26 at_24 rfl rfl ?_
  refine W.if_ne 46 29 at_26 rfl rfl (fun hc => absurd (by decide) hc) (fun _ => ?_)
  refine W.new 32 at_29 rfl (wd_1 hw) (wd_2 hw) (wd_3 hw) (by decide) (by decide) ?_
  intro h1794 o1794 g1794 ge1794 X1794 K1794 E1794 D1794
  have ne1795 : e0 ≠ o1794 := Nat.ne_of_lt (Nat.lt_of_lt_of_eq O0.lt g1794.symm)
  have ne1796 : e1 ≠ o1794 := Nat.ne_of_lt (Nat.lt_of_lt_of_eq O1.lt g1794.symm)
  have ne1797 : e2 ≠ o1794 := Nat.ne_of_lt (Nat.lt_of_lt_of_eq O2.lt g1794.symm)
  have ne1798 : t0 ≠ o1794 := Nat.ne_of_lt (Nat.lt_of_lt_of_eq Et0.lt g1794.symm)
  have ne1799 : t1 ≠ o1794 := Nat.ne_of_lt (Nat.lt_of_lt_of_eq Et1.lt g1794.symm)
  have ne1800 : t2 ≠ o1794 := Nat.ne_of_lt (Nat.lt_of_lt_of_eq Et2.lt g1794.symm)
  have ne1801 : u0 ≠ o1794 := Nat.ne_of_lt (Nat.lt_of_lt_of_eq At0.lt g1794.symm)
  have ne1802 : u1 ≠ o1794 := Nat.ne_of_lt (Nat.lt_of_lt_of_eq At1.lt g1794.symm)
  have ne1803 : u2 ≠ o1794 := Nat.ne_of_lt (Nat.lt_of_lt_of_eq At2.lt g1794.symm)
  have ne1804 : vv ≠ o1794 := Nat.ne_of_lt (Nat.lt_of_lt_of_eq AV.lt g1794.symm)
  have hv1805 := HV.new hv0 K1794 all0 (Nat.le_of_eq g1794.symm)
  have f1806 : Fld _ _ o1794 "java/lang/String" "coder" "B" (.int (0 : Int32)) := D1794 (Or.inr (wd_32 hw)) (ty := .byte) (by decide)
  have f1807 : Fld _ _ o1794 "java/lang/String" "value" "[B" .null := D1794 (Or.inr (wd_34 hw)) (ty := (.array .byte)) (by decide)
  show WG _ _ _ _ _ _ _ _ _ _ _ _ 1 4 32 #[.val (.int p0), .val (.int p1), .val (.int p2), .val (.int p3), .val (.int (1 : Int32)), .val (.int (0 : Int32)), .val (.int (p2 &&& (255 : Int32))), .unset, .unset] [(.ref o1794)]
  refine W.dup 33 at_32 rfl rfl ?_
  refine W.iload 35 at_33 rfl rfl ?_
  refine W.callS (rest := [(.ref o1794), (.ref o1794)]) (argsL := [(.int (1 : Int32))]) 38 at_35 rfl (fun hn => c_full1 l Z a0 hw  _ n0 hn ) (wd_79 hw) (wd_80 hw) (wd_6 hw) (wd_81 hw) (by decide) pd_10 rfl rfl rfl (by decide) 2 (Nat.le_of_ble_eq_true rfl) (by decide) (by decide) (by decide) ?_
  rintro v1808 h1808 ⟨d1808, rfl, sz1808, gd1808, K1808, A1808⟩
  have q1809 := (O0.keep K1794 nin0)
  have ne1810 : e0 ≠ d1808 := Nat.ne_of_lt (Nat.lt_of_lt_of_le q1809.lt sz1808)
  have q1811 := (O1.keep K1794 nin0)
  have ne1812 : e1 ≠ d1808 := Nat.ne_of_lt (Nat.lt_of_lt_of_le q1811.lt sz1808)
  have q1813 := (O2.keep K1794 nin0)
  have ne1814 : e2 ≠ d1808 := Nat.ne_of_lt (Nat.lt_of_lt_of_le q1813.lt sz1808)
  have ne1815 : o1794 ≠ d1808 := Nat.ne_of_lt (Nat.lt_of_lt_of_le E1794.lt sz1808)
  have q1816 := (Et0.keep K1794)
  have ne1817 : t0 ≠ d1808 := Nat.ne_of_lt (Nat.lt_of_lt_of_le q1816.lt sz1808)
  have q1818 := (Et1.keep K1794)
  have ne1819 : t1 ≠ d1808 := Nat.ne_of_lt (Nat.lt_of_lt_of_le q1818.lt sz1808)
  have q1820 := (Et2.keep K1794)
  have ne1821 : t2 ≠ d1808 := Nat.ne_of_lt (Nat.lt_of_lt_of_le q1820.lt sz1808)
  have q1822 := (At0.keep K1794 nin0)
  have ne1823 : u0 ≠ d1808 := Nat.ne_of_lt (Nat.lt_of_lt_of_le q1822.lt sz1808)
  have q1824 := (At1.keep K1794 nin0)
  have ne1825 : u1 ≠ d1808 := Nat.ne_of_lt (Nat.lt_of_lt_of_le q1824.lt sz1808)
  have q1826 := (At2.keep K1794 nin0)
  have ne1827 : u2 ≠ d1808 := Nat.ne_of_lt (Nat.lt_of_lt_of_le q1826.lt sz1808)
  have q1828 := (AV.keep K1794 nin0)
  have ne1829 : vv ≠ d1808 := Nat.ne_of_lt (Nat.lt_of_lt_of_le q1828.lt sz1808)
  have hv1830 := HV.new hv1805 K1808 all0 sz1808
  show WG _ _ _ _ _ _ _ _ _ _ _ _ 2 13 38 #[.val (.int p0), .val (.int p1), .val (.int p2), .val (.int p3), .val (.int (1 : Int32)), .val (.int (0 : Int32)), .val (.int (p2 &&& (255 : Int32))), .unset, .unset] [(.ref d1808), (.ref o1794), (.ref o1794)]
  have q1831 := (Sta.keepN K1808 all0 (Sta.ext X1794 FS))
  have q1832 := (E1794.keep K1808)
  have q1833 := (f1806.keep K1808 nin0)
  have q1834 := (f1807.keep K1808 nin0)
  refine W.callInit (rest := [(.ref o1794)]) (argsL := [(.ref d1808)]) (a := o1794) 41 at_38 rfl (fun hn => c_i1g l Z a0 hw o1794 d1808 kc hkc [(97 : Int32), (100 : Int32), (106 : Int32), (108 : Int32), (105 : Int32), (115 : Int32), (116 : Int32)] _ n0 hn ne1815 ge1794 (chC (ch_k (by decide) (by decide)) (chC (ch_k (by decide) (by decide)) (chC (ch_k (by decide) (by decide)) (chC (ch_k (by decide) (by decide)) (chC (ch_k (by decide) (by decide)) (chC (ch_k (by decide) (by decide)) (chC (ch_k (by decide) (by decide)) chN))))))) (Nat.le_of_ble_eq_true rfl) (show ¬ (7 : Nat).toInt32 = 0 by decide) q1831 q1832 q1833 q1834 A1808) rfl (wd_9 hw) (wd_10 hw) (wd_3 hw) (wd_11 hw) (by decide) pd_11 rfl rfl rfl (by decide) 1 (Nat.le_of_ble_eq_true rfl) (by decide) (by decide) (by decide) ?_
  rintro v1835 h1835 ⟨rfl, K1835, b1835, C1835, V1835, A1835⟩
  have hv1836 := HV.keep hv1830 K1835 (allS (List.mem_of_getElem? (i := 1) rfl) all0)
  show WG _ _ _ _ _ _ _ _ _ _ _ _ 3 29 41 #[.val (.int p0), .val (.int p1), .val (.int p2), .val (.int p3), .val (.int (1 : Int32)), .val (.int (0 : Int32)), .val (.int (p2 &&& (255 : Int32))), .unset, .unset] [(.ref o1794)]
  refine W.astore 43 at_41 rfl rfl #[.val (.int p0), .val (.int p1), .val (.int p2), .val (.int p3), .val (.int (1 : Int32)), .val (.int (0 : Int32)), .val (.int (p2 &&& (255 : Int32))), .val (.ref o1794), .unset] rfl ?_
  refine W.goto 173 at_43 rfl ?_
  refine W.aload 175 at_173 rfl rfl rfl ?_
  have q1837 := (Sta.keepN K1835 (allS q1832.nostat all0) q1831)
  have q1838 := (Sta.keepN K1835 (allS q1832.nostat all0) (Sta.keepN K1808 all0 (Sta.ext X1794 SV)))
  have q1839 := (Sta.keepN K1835 (allS q1832.nostat all0) (Sta.keepN K1808 all0 (Sta.ext X1794 S0)))
  have q1840 := (Sta.keepN K1835 (allS q1832.nostat all0) (Sta.keepN K1808 all0 (Sta.ext X1794 S1)))
  have q1841 := (Sta.keepN K1835 (allS q1832.nostat all0) (Sta.keepN K1808 all0 (Sta.ext X1794 S2)))
  have q1842 := ((q1828.keep K1808 nin0).keep K1835 (ninS ne1804 nin0))
  have q1843 := (((EV.keep K1794).keep K1808).keep K1835)
  have q1844 := ((q1809.keep K1808 nin0).keep K1835 (ninS ne1795 nin0))
  have q1845 := ((q1816.keep K1808).keep K1835)
  have q1846 := (((Ct0.keep K1794 nin0).keep K1808 nin0).keep K1835 (ninS ne1798 nin0))
  have q1847 := (((Vt0.keep K1794 nin0).keep K1808 nin0).keep K1835 (ninS ne1798 nin0))
  have q1848 := ((q1822.keep K1808 nin0).keep K1835 (ninS ne1801 nin0))
  have q1849 := ((q1811.keep K1808 nin0).keep K1835 (ninS ne1796 nin0))
  have q1850 := ((q1818.keep K1808).keep K1835)
  have q1851 := (((Ct1.keep K1794 nin0).keep K1808 nin0).keep K1835 (ninS ne1799 nin0))
  have q1852 := (((Vt1.keep K1794 nin0).keep K1808 nin0).keep K1835 (ninS ne1799 nin0))
  have q1853 := ((q1824.keep K1808 nin0).keep K1835 (ninS ne1802 nin0))
  have q1854 := ((q1813.keep K1808 nin0).keep K1835 (ninS ne1797 nin0))
  have q1855 := ((q1820.keep K1808).keep K1835)
  have q1856 := (((Ct2.keep K1794 nin0).keep K1808 nin0).keep K1835 (ninS ne1800 nin0))
  have q1857 := (((Vt2.keep K1794 nin0).keep K1808 nin0).keep K1835 (ninS ne1800 nin0))
  have q1858 := ((q1826.keep K1808 nin0).keep K1835 (ninS ne1803 nin0))
  have q1859 := (q1832.keep K1835)
  refine W.callS (rest := []) (argsL := [(.ref o1794)]) 178 at_175 rfl (fun hn => c_named l Z a0 hw o1794 b1835 kc hkc ([(97 : Int32), (100 : Int32), (106 : Int32), (108 : Int32), (105 : Int32), (115 : Int32), (116 : Int32)].map byteOf) e0 e1 e2 t0 t1 t2 u0 u1 u2 vv _ n0 hn q1837 q1838 q1839 q1840 q1841 q1842 q1843 q1844 q1845 q1846 q1847 q1848 q1849 q1850 q1851 q1852 q1853 q1854 q1855 q1856 q1857 q1858 q1859 C1835 V1835 A1835) (wd_35 hw) (wd_36 hw) (wd_37 hw) (wd_38 hw) (by decide) pd_12 rfl rfl rfl (by decide) 0 (Nat.le_of_ble_eq_true rfl) (by decide) (by decide) (by decide) ?_
  rintro v1860 h1860 (⟨q0_1860, rfl, K1860⟩ | ⟨q0_1860, q1_1860, rfl, K1860⟩ | ⟨q0_1860, q1_1860, q2_1860, rfl, K1860⟩ | ⟨q0_1860, q1_1860, q2_1860, rfl, K1860⟩)
  · have hv1861 := HV.keep hv1836 K1860 all0
    show WG _ _ _ _ _ _ _ _ _ _ _ _ 4 32 178 #[.val (.int p0), .val (.int p1), .val (.int p2), .val (.int p3), .val (.int (1 : Int32)), .val (.int (0 : Int32)), .val (.int (p2 &&& (255 : Int32))), .val (.ref o1794), .unset] [(.ref e0)]
    refine W.astore 180 at_178 rfl rfl #[.val (.int p0), .val (.int p1), .val (.int p2), .val (.int p3), .val (.int (1 : Int32)), .val (.int (0 : Int32)), .val (.int (p2 &&& (255 : Int32))), .val (.ref o1794), .val (.ref e0)] rfl ?_
    refine W.aload 182 at_180 rfl rfl rfl ?_
    refine W.aload 184 at_182 rfl rfl rfl ?_
    have q1862 := (Sta.keepN K1860 all0 q1837)
    have q1863 := (Sta.keepN K1860 all0 q1839)
    have q1864 := (Sta.keepN K1860 all0 q1840)
    have q1865 := (Sta.keepN K1860 all0 q1841)
    have q1866 := (q1859.keep K1860)
    have q1867 := (C1835.keep K1860 nin0)
    have q1868 := (V1835.keep K1860 nin0)
    have q1869 := (A1835.keep K1860 nin0)
    have q1871 := ((A1808.keep K1835 (ninS (Ne.symm ne1815) nin0)).keep K1860 nin0)
    refine W.callSX (rest := [(.ref e0)]) (argsL := [(.ref o1794)]) 187 at_184 rfl (fun hn => c_exp0 l Z a0 hw o1794 b1835 kc hkc ([(97 : Int32), (100 : Int32), (106 : Int32), (108 : Int32), (105 : Int32), (115 : Int32), (116 : Int32)].map byteOf) e0 e1 e2 _ n0 hn q1862 q1863 q1864 q1865 q1866 q1867 q1868 q1869 q0_1860) (wd_69 hw) (wd_70 hw) (wd_6 hw) (wd_71 hw) (by decide) pd_12 rfl rfl rfl (by decide) 1 (Nat.le_of_ble_eq_true rfl) (by decide) (by decide) (by decide) (own_EL hw) hv1861 (allS q1871.lt (allS q1866.lt all0)) all0 ?_
    rintro v1870 h1870 rfl
    have hv1870 := HV.here (Z := Z) (EL := consts_1) (h := h1870) (S := [d1808, o1794])
    show WG _ _ _ _ _ _ _ _ _ _ _ _ 10 128 187 #[.val (.int p0), .val (.int p1), .val (.int p2), .val (.int p3), .val (.int (1 : Int32)), .val (.int (0 : Int32)), .val (.int (p2 &&& (255 : Int32))), .val (.ref o1794), .val (.ref e0)] [(.ref e0), (.ref e0)]
    refine W.acmp_ne 194 190 at_187 rfl rfl rfl rfl (fun hc => absurd rfl hc) (fun _ => ?_)
    refine W.iconst 191 at_190 rfl (1 : Int32) rfl ?_
    refine W.goto 195 at_191 rfl ?_
    refine WG.retX (own_EL hw) hv1870 ?_
    exact W.ireturnN (t := .boolean) at_195 rfl (by simp) (1 : Int32) rfl ⟨rfl, rfl⟩ (by decide) (by decide)
  · have hv1872 := HV.keep hv1836 K1860 all0
    show WG _ _ _ _ _ _ _ _ _ _ _ _ 4 32 178 #[.val (.int p0), .val (.int p1), .val (.int p2), .val (.int p3), .val (.int (1 : Int32)), .val (.int (0 : Int32)), .val (.int (p2 &&& (255 : Int32))), .val (.ref o1794), .unset] [(.ref e1)]
    refine W.astore 180 at_178 rfl rfl #[.val (.int p0), .val (.int p1), .val (.int p2), .val (.int p3), .val (.int (1 : Int32)), .val (.int (0 : Int32)), .val (.int (p2 &&& (255 : Int32))), .val (.ref o1794), .val (.ref e1)] rfl ?_
    refine W.aload 182 at_180 rfl rfl rfl ?_
    refine W.aload 184 at_182 rfl rfl rfl ?_
    have q1873 := (Sta.keepN K1860 all0 q1837)
    have q1874 := (Sta.keepN K1860 all0 q1839)
    have q1875 := (Sta.keepN K1860 all0 q1840)
    have q1876 := (Sta.keepN K1860 all0 q1841)
    have q1877 := (q1859.keep K1860)
    have q1878 := (C1835.keep K1860 nin0)
    have q1879 := (V1835.keep K1860 nin0)
    have q1880 := (A1835.keep K1860 nin0)
    have q1882 := ((A1808.keep K1835 (ninS (Ne.symm ne1815) nin0)).keep K1860 nin0)
    refine W.callSX (rest := [(.ref e1)]) (argsL := [(.ref o1794)]) 187 at_184 rfl (fun hn => c_exp1 l Z a0 hw o1794 b1835 kc hkc ([(97 : Int32), (100 : Int32), (106 : Int32), (108 : Int32), (105 : Int32), (115 : Int32), (116 : Int32)].map byteOf) e0 e1 e2 _ n0 hn q1873 q1874 q1875 q1876 q1877 q1878 q1879 q1880 q0_1860 q1_1860) (wd_69 hw) (wd_70 hw) (wd_6 hw) (wd_71 hw) (by decide) pd_12 rfl rfl rfl (by decide) 1 (Nat.le_of_ble_eq_true rfl) (by decide) (by decide) (by decide) (own_EL hw) hv1872 (allS q1882.lt (allS q1877.lt all0)) all0 ?_
    rintro v1881 h1881 rfl
    have hv1881 := HV.here (Z := Z) (EL := consts_1) (h := h1881) (S := [d1808, o1794])
    show WG _ _ _ _ _ _ _ _ _ _ _ _ 10 128 187 #[.val (.int p0), .val (.int p1), .val (.int p2), .val (.int p3), .val (.int (1 : Int32)), .val (.int (0 : Int32)), .val (.int (p2 &&& (255 : Int32))), .val (.ref o1794), .val (.ref e1)] [(.ref e1), (.ref e1)]
    refine W.acmp_ne 194 190 at_187 rfl rfl rfl rfl (fun hc => absurd rfl hc) (fun _ => ?_)
    refine W.iconst 191 at_190 rfl (1 : Int32) rfl ?_
    refine W.goto 195 at_191 rfl ?_
    refine WG.retX (own_EL hw) hv1881 ?_
    exact W.ireturnN (t := .boolean) at_195 rfl (by simp) (1 : Int32) rfl ⟨rfl, rfl⟩ (by decide) (by decide)
  · have hv1883 := HV.keep hv1836 K1860 all0
    show WG _ _ _ _ _ _ _ _ _ _ _ _ 4 32 178 #[.val (.int p0), .val (.int p1), .val (.int p2), .val (.int p3), .val (.int (1 : Int32)), .val (.int (0 : Int32)), .val (.int (p2 &&& (255 : Int32))), .val (.ref o1794), .unset] [(.ref e2)]
    refine W.astore 180 at_178 rfl rfl #[.val (.int p0), .val (.int p1), .val (.int p2), .val (.int p3), .val (.int (1 : Int32)), .val (.int (0 : Int32)), .val (.int (p2 &&& (255 : Int32))), .val (.ref o1794), .val (.ref e2)] rfl ?_
    refine W.aload 182 at_180 rfl rfl rfl ?_
    refine W.aload 184 at_182 rfl rfl rfl ?_
    have q1884 := (Sta.keepN K1860 all0 q1837)
    have q1885 := (Sta.keepN K1860 all0 q1839)
    have q1886 := (Sta.keepN K1860 all0 q1840)
    have q1887 := (Sta.keepN K1860 all0 q1841)
    have q1888 := (q1859.keep K1860)
    have q1889 := (C1835.keep K1860 nin0)
    have q1890 := (V1835.keep K1860 nin0)
    have q1891 := (A1835.keep K1860 nin0)
    have q1893 := ((A1808.keep K1835 (ninS (Ne.symm ne1815) nin0)).keep K1860 nin0)
    refine W.callSX (rest := [(.ref e2)]) (argsL := [(.ref o1794)]) 187 at_184 rfl (fun hn => c_exp2 l Z a0 hw o1794 b1835 kc hkc ([(97 : Int32), (100 : Int32), (106 : Int32), (108 : Int32), (105 : Int32), (115 : Int32), (116 : Int32)].map byteOf) e0 e1 e2 _ n0 hn q1884 q1885 q1886 q1887 q1888 q1889 q1890 q1891 q0_1860 q1_1860 q2_1860) (wd_69 hw) (wd_70 hw) (wd_6 hw) (wd_71 hw) (by decide) pd_12 rfl rfl rfl (by decide) 1 (Nat.le_of_ble_eq_true rfl) (by decide) (by decide) (by decide) (own_EL hw) hv1883 (allS q1893.lt (allS q1888.lt all0)) all0 ?_
    rintro v1892 h1892 rfl
    have hv1892 := HV.here (Z := Z) (EL := consts_1) (h := h1892) (S := [d1808, o1794])
    show WG _ _ _ _ _ _ _ _ _ _ _ _ 10 128 187 #[.val (.int p0), .val (.int p1), .val (.int p2), .val (.int p3), .val (.int (1 : Int32)), .val (.int (0 : Int32)), .val (.int (p2 &&& (255 : Int32))), .val (.ref o1794), .val (.ref e2)] [(.ref e2), (.ref e2)]
    refine W.acmp_ne 194 190 at_187 rfl rfl rfl rfl (fun hc => absurd rfl hc) (fun _ => ?_)
    refine W.iconst 191 at_190 rfl (1 : Int32) rfl ?_
    refine W.goto 195 at_191 rfl ?_
    refine WG.retX (own_EL hw) hv1892 ?_
    exact W.ireturnN (t := .boolean) at_195 rfl (by simp) (1 : Int32) rfl ⟨rfl, rfl⟩ (by decide) (by decide)
  · have hv1894 := HV.keep hv1836 K1860 all0
    show WG _ _ _ _ _ _ _ _ _ _ _ _ 4 32 178 #[.val (.int p0), .val (.int p1), .val (.int p2), .val (.int p3), .val (.int (1 : Int32)), .val (.int (0 : Int32)), .val (.int (p2 &&& (255 : Int32))), .val (.ref o1794), .unset] [.null]
    refine W.astore 180 at_178 rfl rfl #[.val (.int p0), .val (.int p1), .val (.int p2), .val (.int p3), .val (.int (1 : Int32)), .val (.int (0 : Int32)), .val (.int (p2 &&& (255 : Int32))), .val (.ref o1794), .val .null] rfl ?_
    refine W.aload 182 at_180 rfl rfl rfl ?_
    refine W.aload 184 at_182 rfl rfl rfl ?_
    have q1895 := (Sta.keepN K1860 all0 q1837)
    have q1896 := (Sta.keepN K1860 all0 q1839)
    have q1897 := (Sta.keepN K1860 all0 q1840)
    have q1898 := (Sta.keepN K1860 all0 q1841)
    have q1899 := (q1859.keep K1860)
    have q1900 := (C1835.keep K1860 nin0)
    have q1901 := (V1835.keep K1860 nin0)
    have q1902 := (A1835.keep K1860 nin0)
    have q1904 := ((A1808.keep K1835 (ninS (Ne.symm ne1815) nin0)).keep K1860 nin0)
    refine W.callSX (rest := [.null]) (argsL := [(.ref o1794)]) 187 at_184 rfl (fun hn => c_exp3 l Z a0 hw o1794 b1835 kc hkc ([(97 : Int32), (100 : Int32), (106 : Int32), (108 : Int32), (105 : Int32), (115 : Int32), (116 : Int32)].map byteOf) e0 e1 e2 _ n0 hn q1895 q1896 q1897 q1898 q1899 q1900 q1901 q1902 q0_1860 q1_1860 q2_1860) (wd_69 hw) (wd_70 hw) (wd_6 hw) (wd_71 hw) (by decide) pd_12 rfl rfl rfl (by decide) 1 (Nat.le_of_ble_eq_true rfl) (by decide) (by decide) (by decide) (own_EL hw) hv1894 (allS q1904.lt (allS q1899.lt all0)) all0 ?_
    rintro v1903 h1903 rfl
    have hv1903 := HV.here (Z := Z) (EL := consts_1) (h := h1903) (S := [d1808, o1794])
    show WG _ _ _ _ _ _ _ _ _ _ _ _ 10 128 187 #[.val (.int p0), .val (.int p1), .val (.int p2), .val (.int p3), .val (.int (1 : Int32)), .val (.int (0 : Int32)), .val (.int (p2 &&& (255 : Int32))), .val (.ref o1794), .val .null] [.null, .null]
    refine W.acmp_ne 194 190 at_187 rfl rfl rfl rfl (fun hc => absurd rfl hc) (fun _ => ?_)
    refine W.iconst 191 at_190 rfl (1 : Int32) rfl ?_
    refine W.goto 195 at_191 rfl ?_
    refine WG.retX (own_EL hw) hv1903 ?_
    exact W.ireturnN (t := .boolean) at_195 rfl (by simp) (1 : Int32) rfl ⟨rfl, rfl⟩ (by decide) (by decide)
theorem law_11 (l : Launch) (Z : State) (a0 : Array Value) (hw : HwT Z a0) (p0 p1 p2 p3 : Int32) (kc : Int32) (hkc : ¬ kc = 0) (e0 e1 e2 t0 t1 t2 u0 u1 u2 vv : Addr) (h : Heap) (n0 : Nat) (hn : n0 ≤ h.size) (FS : Sta Z h "java/lang/String" "COMPACT_STRINGS" "Z" (.int kc)) (SV : Sta Z h "com/example/eccentra/eccentra/GraphFormat" "$VALUES" "[Lcom/example/eccentra/eccentra/GraphFormat;" (.ref vv)) (S0 : Sta Z h "com/example/eccentra/eccentra/GraphFormat" "EDGELIST" "Lcom/example/eccentra/eccentra/GraphFormat;" (.ref e0)) (S1 : Sta Z h "com/example/eccentra/eccentra/GraphFormat" "ADJLIST" "Lcom/example/eccentra/eccentra/GraphFormat;" (.ref e1)) (S2 : Sta Z h "com/example/eccentra/eccentra/GraphFormat" "MTX" "Lcom/example/eccentra/eccentra/GraphFormat;" (.ref e2)) (AV : Ary Z h vv (.object "com/example/eccentra/eccentra/GraphFormat") [.ref e0, .ref e1, .ref e2]) (EV : Exa Z h vv "[Lcom/example/eccentra/eccentra/GraphFormat;") (O0 : Fld Z h e0 "com/example/eccentra/eccentra/GraphFormat" "optionValue" "Ljava/lang/String;" (.ref t0)) (Et0 : Exa Z h t0 "java/lang/String") (Ct0 : Fld Z h t0 "java/lang/String" "coder" "B" (.int 0)) (Vt0 : Fld Z h t0 "java/lang/String" "value" "[B" (.ref u0)) (At0 : Ary Z h u0 .byte [(.int (101 : Int32)), (.int (100 : Int32)), (.int (103 : Int32)), (.int (101 : Int32)), (.int (108 : Int32)), (.int (105 : Int32)), (.int (115 : Int32)), (.int (116 : Int32))]) (O1 : Fld Z h e1 "com/example/eccentra/eccentra/GraphFormat" "optionValue" "Ljava/lang/String;" (.ref t1)) (Et1 : Exa Z h t1 "java/lang/String") (Ct1 : Fld Z h t1 "java/lang/String" "coder" "B" (.int 0)) (Vt1 : Fld Z h t1 "java/lang/String" "value" "[B" (.ref u1)) (At1 : Ary Z h u1 .byte [(.int (97 : Int32)), (.int (100 : Int32)), (.int (106 : Int32)), (.int (108 : Int32)), (.int (105 : Int32)), (.int (115 : Int32)), (.int (116 : Int32))]) (O2 : Fld Z h e2 "com/example/eccentra/eccentra/GraphFormat" "optionValue" "Ljava/lang/String;" (.ref t2)) (Et2 : Exa Z h t2 "java/lang/String") (Ct2 : Fld Z h t2 "java/lang/String" "coder" "B" (.int 0)) (Vt2 : Fld Z h t2 "java/lang/String" "value" "[B" (.ref u2)) (At2 : Ary Z h u2 .byte [(.int (109 : Int32)), (.int (116 : Int32)), (.int (120 : Int32))]) (ek : (p0 &&& 2147483647) % 3 = 1) (em : (p1 &&& 2147483647) % 5 = 1) : ConX Z consts_1 [] tables_1 l x code maxLocals ret room_1 #[(.int p0), (.int p1), (.int p2), (.int p3)] h n0 (fun v _ => v = some (.int 1)) := by
  refine ConX.of_W (Ls := #[.val (.int p0), .val (.int p1), .val (.int p2), .val (.int p3), .unset, .unset, .unset, .unset, .unset]) (plainFor_of_name pn_3) hn (fun m => by first | (simp [entryFrame, mkF, argsToLocals, Value.category, maxLocals]; done) | rfl) ?_
  have hv0 := HV.here (Z := Z) (EL := consts_1) (h := h) (S := [])
  refine W.iloadN 1 at_0 rfl rfl ?_
  refine W.ldcI 3 at_1 rfl (wd_0 hw) ?_
  refine W.iand 4 at_3 rfl (p0 &&& (2147483647 : Int32)) rfl ?_
  refine W.iconst 5 at_4 rfl (3 : Int32) rfl ?_
  refine W.irem 6 at_5 rfl (by decide) (1 : Int32) ek ?_
  refine W.istore 8 at_6 rfl #[.val (.int p0), .val (.int p1), .val (.int p2), .val (.int p3), .val (.int (1 : Int32)), .unset, .unset, .unset, .unset] rfl ?_
  refine W.iloadN 9 at_8 rfl rfl ?_
  refine W.ldcI 11 at_9 rfl (wd_0 hw) ?_
  refine W.iand 12 at_11 rfl (p1 &&& (2147483647 : Int32)) rfl ?_
  refine W.iconst 13 at_12 rfl (5 : Int32) rfl ?_
  refine W.irem 14 at_13 rfl (by decide) (1 : Int32) em ?_
  refine W.istore 16 at_14 rfl #[.val (.int p0), .val (.int p1), .val (.int p2), .val (.int p3), .val (.int (1 : Int32)), .val (.int (1 : Int32)), .unset, .unset, .unset] rfl ?_
  refine W.iloadN 17 at_16 rfl rfl ?_
  refine W.sipush 20 at_17 rfl (255 : Int32) rfl ?_
  refine W.iand 21 at_20 rfl (p2 &&& (255 : Int32)) rfl ?_
  refine W.i2c 22 at_21 rfl (p2 &&& (255 : Int32)) (ch_nar (own_m p2)) ?_
  refine W.istore 24 at_22 rfl #[.val (.int p0), .val (.int p1), .val (.int p2), .val (.int p3), .val (.int (1 : Int32)), .val (.int (1 : Int32)), .val (.int (p2 &&& (255 : Int32))), .unset, .unset] rfl ?_
  refine W.iload 26 at_24 rfl rfl ?_
  refine W.if_ne 46 29 at_26 rfl rfl (fun _ => ?_) (fun hc => absurd hc (by decide))
  refine W.iload 48 at_46 rfl rfl ?_
  refine W.iconst 49 at_48 rfl (1 : Int32) rfl ?_
  refine W.icmp_ne 86 52 at_49 rfl rfl (fun hc => absurd (by decide) hc) (fun _ => ?_)
  refine W.iload 54 at_52 rfl rfl ?_
  refine W.callS (rest := []) (argsL := [(.int (1 : Int32))]) 57 at_54 rfl (fun hn => c_full1 l Z a0 hw  _ n0 hn ) (wd_79 hw) (wd_80 hw) (wd_6 hw) (wd_81 hw) (by decide) pd_10 rfl rfl rfl (by decide) 0 (Nat.le_of_ble_eq_true rfl) (by decide) (by decide) (by decide) ?_
  rintro v1905 h1905 ⟨d1905, rfl, sz1905, gd1905, K1905, A1905⟩
  have ne1906 : e0 ≠ d1905 := Nat.ne_of_lt (Nat.lt_of_lt_of_le O0.lt sz1905)
  have ne1907 : e1 ≠ d1905 := Nat.ne_of_lt (Nat.lt_of_lt_of_le O1.lt sz1905)
  have ne1908 : e2 ≠ d1905 := Nat.ne_of_lt (Nat.lt_of_lt_of_le O2.lt sz1905)
  have ne1909 : t0 ≠ d1905 := Nat.ne_of_lt (Nat.lt_of_lt_of_le Et0.lt sz1905)
  have ne1910 : t1 ≠ d1905 := Nat.ne_of_lt (Nat.lt_of_lt_of_le Et1.lt sz1905)
  have ne1911 : t2 ≠ d1905 := Nat.ne_of_lt (Nat.lt_of_lt_of_le Et2.lt sz1905)
  have ne1912 : u0 ≠ d1905 := Nat.ne_of_lt (Nat.lt_of_lt_of_le At0.lt sz1905)
  have ne1913 : u1 ≠ d1905 := Nat.ne_of_lt (Nat.lt_of_lt_of_le At1.lt sz1905)
  have ne1914 : u2 ≠ d1905 := Nat.ne_of_lt (Nat.lt_of_lt_of_le At2.lt sz1905)
  have ne1915 : vv ≠ d1905 := Nat.ne_of_lt (Nat.lt_of_lt_of_le AV.lt sz1905)
  have hv1916 := HV.new hv0 K1905 all0 sz1905
  show WG _ _ _ _ _ _ _ _ _ _ _ _ 1 9 57 #[.val (.int p0), .val (.int p1), .val (.int p2), .val (.int p3), .val (.int (1 : Int32)), .val (.int (1 : Int32)), .val (.int (p2 &&& (255 : Int32))), .unset, .unset] [(.ref d1905)]
  refine W.astore 59 at_57 rfl rfl #[.val (.int p0), .val (.int p1), .val (.int p2), .val (.int p3), .val (.int (1 : Int32)), .val (.int (1 : Int32)), .val (.int (p2 &&& (255 : Int32))), .unset, .val (.ref d1905)] rfl ?_
  refine W.aload 61 at_59 rfl rfl rfl ?_
  refine W.iloadN 62 at_61 rfl rfl ?_
  refine W.ldcI 64 at_62 rfl (wd_0 hw) ?_
  refine W.iand 65 at_64 rfl (p3 &&& (2147483647 : Int32)) rfl ?_
  refine W.aload 67 at_65 rfl rfl rfl ?_
  refine W.arraylength 68 at_67 rfl A1905 (7 : Int32) rfl ?_
  refine W.irem 69 at_68 rfl (by decide) ((p3 &&& (2147483647 : Int32)) % (7 : Int32)) rfl ?_
  refine W.iload 71 at_69 rfl rfl ?_
  refine W.castore 72 at_71 rfl A1905 ((p3 &&& 2147483647) % 7).toNatClampNeg rfl (own_ix p3 7 7 rfl (by decide)).1 (own_ix p3 7 7 rfl (by decide)).2 (p2 &&& (255 : Int32)) (ch_nar (own_m p2)) gd1905 ?_
  intro h1917 W1917 K1917 A1917
  have hv1918 := HV.keep hv1916 K1917 (allS (List.mem_of_getElem? (i := 0) rfl) all0)
  have A1917 : Ary _ _ d1905 .char (iv ([(97 : Int32), (100 : Int32), (106 : Int32), (108 : Int32), (105 : Int32), (115 : Int32), (116 : Int32)].set ((p3 &&& 2147483647) % 7).toNatClampNeg (p2 &&& (255 : Int32)))) := (iv_set [(97 : Int32), (100 : Int32), (106 : Int32), (108 : Int32), (105 : Int32), (115 : Int32), (116 : Int32)] _ _) ▸ (show Ary _ _ d1905 .char ((iv [(97 : Int32), (100 : Int32), (106 : Int32), (108 : Int32), (105 : Int32), (115 : Int32), (116 : Int32)]).set ((p3 &&& 2147483647) % 7).toNatClampNeg (.int (p2 &&& (255 : Int32)))) from A1917)
  refine W.new 75 at_72 rfl (wd_1 hw) (wd_2 hw) (wd_3 hw) (by decide) (by decide) ?_
  intro h1919 o1919 g1919 ge1919 X1919 K1919 E1919 D1919
  have ne1920 : d1905 ≠ o1919 := Nat.ne_of_lt (Nat.lt_of_lt_of_eq A1917.lt g1919.symm)
  have q1921 := ((O0.keep K1905 nin0).keep K1917 (ninS ne1906 nin0))
  have ne1922 : e0 ≠ o1919 := Nat.ne_of_lt (Nat.lt_of_lt_of_eq q1921.lt g1919.symm)
  have q1923 := ((O1.keep K1905 nin0).keep K1917 (ninS ne1907 nin0))
  have ne1924 : e1 ≠ o1919 := Nat.ne_of_lt (Nat.lt_of_lt_of_eq q1923.lt g1919.symm)
  have q1925 := ((O2.keep K1905 nin0).keep K1917 (ninS ne1908 nin0))
  have ne1926 : e2 ≠ o1919 := Nat.ne_of_lt (Nat.lt_of_lt_of_eq q1925.lt g1919.symm)
  have q1927 := ((Et0.keep K1905).keep K1917)
  have ne1928 : t0 ≠ o1919 := Nat.ne_of_lt (Nat.lt_of_lt_of_eq q1927.lt g1919.symm)
  have q1929 := ((Et1.keep K1905).keep K1917)
  have ne1930 : t1 ≠ o1919 := Nat.ne_of_lt (Nat.lt_of_lt_of_eq q1929.lt g1919.symm)
  have q1931 := ((Et2.keep K1905).keep K1917)
  have ne1932 : t2 ≠ o1919 := Nat.ne_of_lt (Nat.lt_of_lt_of_eq q1931.lt g1919.symm)
  have q1933 := ((At0.keep K1905 nin0).keep K1917 (ninS ne1912 nin0))
  have ne1934 : u0 ≠ o1919 := Nat.ne_of_lt (Nat.lt_of_lt_of_eq q1933.lt g1919.symm)
  have q1935 := ((At1.keep K1905 nin0).keep K1917 (ninS ne1913 nin0))
  have ne1936 : u1 ≠ o1919 := Nat.ne_of_lt (Nat.lt_of_lt_of_eq q1935.lt g1919.symm)
  have q1937 := ((At2.keep K1905 nin0).keep K1917 (ninS ne1914 nin0))
  have ne1938 : u2 ≠ o1919 := Nat.ne_of_lt (Nat.lt_of_lt_of_eq q1937.lt g1919.symm)
  have q1939 := ((AV.keep K1905 nin0).keep K1917 (ninS ne1915 nin0))
  have ne1940 : vv ≠ o1919 := Nat.ne_of_lt (Nat.lt_of_lt_of_eq q1939.lt g1919.symm)
  have hv1941 := HV.new hv1918 K1919 all0 (Nat.le_of_eq g1919.symm)
  have f1942 : Fld _ _ o1919 "java/lang/String" "coder" "B" (.int (0 : Int32)) := D1919 (Or.inr (wd_32 hw)) (ty := .byte) (by decide)
  have f1943 : Fld _ _ o1919 "java/lang/String" "value" "[B" .null := D1919 (Or.inr (wd_34 hw)) (ty := (.array .byte)) (by decide)
  show WG _ _ _ _ _ _ _ _ _ _ _ _ 2 13 75 #[.val (.int p0), .val (.int p1), .val (.int p2), .val (.int p3), .val (.int (1 : Int32)), .val (.int (1 : Int32)), .val (.int (p2 &&& (255 : Int32))), .unset, .val (.ref d1905)] [(.ref o1919)]
  refine W.dup 76 at_75 rfl rfl ?_
  refine W.aload 78 at_76 rfl rfl rfl ?_
  have q1944 := (A1917.keep K1919 nin0)
  have q1945 := (Sta.ext X1919 (Sta.wr W1917 (Sta.keepN K1905 all0 FS)))
  refine W.callInit (rest := [(.ref o1919)]) (argsL := [(.ref d1905)]) (a := o1919) 81 at_78 rfl (fun hn => c_i1g l Z a0 hw o1919 d1905 kc hkc ([(97 : Int32), (100 : Int32), (106 : Int32), (108 : Int32), (105 : Int32), (115 : Int32), (116 : Int32)].set ((p3 &&& 2147483647) % 7).toNatClampNeg (p2 &&& (255 : Int32))) _ n0 hn (Ne.symm ne1920) ge1919 (chSet (chC (ch_k (by decide) (by decide)) (chC (ch_k (by decide) (by decide)) (chC (ch_k (by decide) (by decide)) (chC (ch_k (by decide) (by decide)) (chC (ch_k (by decide) (by decide)) (chC (ch_k (by decide) (by decide)) (chC (ch_k (by decide) (by decide)) chN))))))) (own_m p2)) (by rw [List.length_set]; exact Nat.le_of_ble_eq_true rfl) (by rw [List.length_set]; decide) q1945 E1919 f1942 f1943 q1944) rfl (wd_9 hw) (wd_10 hw) (wd_3 hw) (wd_11 hw) (by decide) pd_11 rfl rfl rfl (by decide) 1 (Nat.le_of_ble_eq_true rfl) (by decide) (by decide) (by decide) ?_
  rintro v1946 h1946 ⟨rfl, K1946, b1946, C1946, V1946, A1946⟩
  have hv1947 := HV.keep hv1941 K1946 (allS (List.mem_of_getElem? (i := 0) rfl) all0)
  show WG _ _ _ _ _ _ _ _ _ _ _ _ 3 29 81 #[.val (.int p0), .val (.int p1), .val (.int p2), .val (.int p3), .val (.int (1 : Int32)), .val (.int (1 : Int32)), .val (.int (p2 &&& (255 : Int32))), .unset, .val (.ref d1905)] [(.ref o1919)]
  refine W.astore 83 at_81 rfl rfl #[.val (.int p0), .val (.int p1), .val (.int p2), .val (.int p3), .val (.int (1 : Int32)), .val (.int (1 : Int32)), .val (.int (p2 &&& (255 : Int32))), .val (.ref o1919), .val (.ref d1905)] rfl ?_
  refine W.goto 173 at_83 rfl ?_
  refine W.aload 175 at_173 rfl rfl rfl ?_
  have q1948 := (Sta.keepN K1946 (allS E1919.nostat all0) q1945)
  have q1949 := (Sta.keepN K1946 (allS E1919.nostat all0) (Sta.ext X1919 (Sta.wr W1917 (Sta.keepN K1905 all0 SV))))
  have q1950 := (Sta.keepN K1946 (allS E1919.nostat all0) (Sta.ext X1919 (Sta.wr W1917 (Sta.keepN K1905 all0 S0))))
  have q1951 := (Sta.keepN K1946 (allS E1919.nostat all0) (Sta.ext X1919 (Sta.wr W1917 (Sta.keepN K1905 all0 S1))))
  have q1952 := (Sta.keepN K1946 (allS E1919.nostat all0) (Sta.ext X1919 (Sta.wr W1917 (Sta.keepN K1905 all0 S2))))
  have q1953 := ((q1939.keep K1919 nin0).keep K1946 (ninS ne1940 nin0))
  have q1954 := ((((EV.keep K1905).keep K1917).keep K1919).keep K1946)
  have q1955 := ((q1921.keep K1919 nin0).keep K1946 (ninS ne1922 nin0))
  have q1956 := ((q1927.keep K1919).keep K1946)
  have q1957 := ((((Ct0.keep K1905 nin0).keep K1917 (ninS ne1909 nin0)).keep K1919 nin0).keep K1946 (ninS ne1928 nin0))
  have q1958 := ((((Vt0.keep K1905 nin0).keep K1917 (ninS ne1909 nin0)).keep K1919 nin0).keep K1946 (ninS ne1928 nin0))
  have q1959 := ((q1933.keep K1919 nin0).keep K1946 (ninS ne1934 nin0))
  have q1960 := ((q1923.keep K1919 nin0).keep K1946 (ninS ne1924 nin0))
  have q1961 := ((q1929.keep K1919).keep K1946)
  have q1962 := ((((Ct1.keep K1905 nin0).keep K1917 (ninS ne1910 nin0)).keep K1919 nin0).keep K1946 (ninS ne1930 nin0))
  have q1963 := ((((Vt1.keep K1905 nin0).keep K1917 (ninS ne1910 nin0)).keep K1919 nin0).keep K1946 (ninS ne1930 nin0))
  have q1964 := ((q1935.keep K1919 nin0).keep K1946 (ninS ne1936 nin0))
  have q1965 := ((q1925.keep K1919 nin0).keep K1946 (ninS ne1926 nin0))
  have q1966 := ((q1931.keep K1919).keep K1946)
  have q1967 := ((((Ct2.keep K1905 nin0).keep K1917 (ninS ne1911 nin0)).keep K1919 nin0).keep K1946 (ninS ne1932 nin0))
  have q1968 := ((((Vt2.keep K1905 nin0).keep K1917 (ninS ne1911 nin0)).keep K1919 nin0).keep K1946 (ninS ne1932 nin0))
  have q1969 := ((q1937.keep K1919 nin0).keep K1946 (ninS ne1938 nin0))
  have q1970 := (E1919.keep K1946)
  refine W.callS (rest := []) (argsL := [(.ref o1919)]) 178 at_175 rfl (fun hn => c_named l Z a0 hw o1919 b1946 kc hkc (([(97 : Int32), (100 : Int32), (106 : Int32), (108 : Int32), (105 : Int32), (115 : Int32), (116 : Int32)].set ((p3 &&& 2147483647) % 7).toNatClampNeg (p2 &&& (255 : Int32))).map byteOf) e0 e1 e2 t0 t1 t2 u0 u1 u2 vv _ n0 hn q1948 q1949 q1950 q1951 q1952 q1953 q1954 q1955 q1956 q1957 q1958 q1959 q1960 q1961 q1962 q1963 q1964 q1965 q1966 q1967 q1968 q1969 q1970 C1946 V1946 A1946) (wd_35 hw) (wd_36 hw) (wd_37 hw) (wd_38 hw) (by decide) pd_12 rfl rfl rfl (by decide) 0 (Nat.le_of_ble_eq_true rfl) (by decide) (by decide) (by decide) ?_
  rintro v1971 h1971 (⟨q0_1971, rfl, K1971⟩ | ⟨q0_1971, q1_1971, rfl, K1971⟩ | ⟨q0_1971, q1_1971, q2_1971, rfl, K1971⟩ | ⟨q0_1971, q1_1971, q2_1971, rfl, K1971⟩)
  · have hv1972 := HV.keep hv1947 K1971 all0
    show WG _ _ _ _ _ _ _ _ _ _ _ _ 4 32 178 #[.val (.int p0), .val (.int p1), .val (.int p2), .val (.int p3), .val (.int (1 : Int32)), .val (.int (1 : Int32)), .val (.int (p2 &&& (255 : Int32))), .val (.ref o1919), .val (.ref d1905)] [(.ref e0)]
    refine W.astore 180 at_178 rfl rfl #[.val (.int p0), .val (.int p1), .val (.int p2), .val (.int p3), .val (.int (1 : Int32)), .val (.int (1 : Int32)), .val (.int (p2 &&& (255 : Int32))), .val (.ref o1919), .val (.ref e0)] rfl ?_
    refine W.aload 182 at_180 rfl rfl rfl ?_
    refine W.aload 184 at_182 rfl rfl rfl ?_
    have q1973 := (Sta.keepN K1971 all0 q1948)
    have q1974 := (Sta.keepN K1971 all0 q1950)
    have q1975 := (Sta.keepN K1971 all0 q1951)
    have q1976 := (Sta.keepN K1971 all0 q1952)
    have q1977 := (q1970.keep K1971)
    have q1978 := (C1946.keep K1971 nin0)
    have q1979 := (V1946.keep K1971 nin0)
    have q1980 := (A1946.keep K1971 nin0)
    have q1982 := ((q1944.keep K1946 (ninS ne1920 nin0)).keep K1971 nin0)
    refine W.callSX (rest := [(.ref e0)]) (argsL := [(.ref o1919)]) 187 at_184 rfl (fun hn => c_exp0 l Z a0 hw o1919 b1946 kc hkc (([(97 : Int32), (100 : Int32), (106 : Int32), (108 : Int32), (105 : Int32), (115 : Int32), (116 : Int32)].set ((p3 &&& 2147483647) % 7).toNatClampNeg (p2 &&& (255 : Int32))).map byteOf) e0 e1 e2 _ n0 hn q1973 q1974 q1975 q1976 q1977 q1978 q1979 q1980 q0_1971) (wd_69 hw) (wd_70 hw) (wd_6 hw) (wd_71 hw) (by decide) pd_12 rfl rfl rfl (by decide) 1 (Nat.le_of_ble_eq_true rfl) (by decide) (by decide) (by decide) (own_EL hw) hv1972 (allS q1977.lt (allS q1982.lt all0)) all0 ?_
    rintro v1981 h1981 rfl
    have hv1981 := HV.here (Z := Z) (EL := consts_1) (h := h1981) (S := [o1919, d1905])
    show WG _ _ _ _ _ _ _ _ _ _ _ _ 10 128 187 #[.val (.int p0), .val (.int p1), .val (.int p2), .val (.int p3), .val (.int (1 : Int32)), .val (.int (1 : Int32)), .val (.int (p2 &&& (255 : Int32))), .val (.ref o1919), .val (.ref e0)] [(.ref e0), (.ref e0)]
    refine W.acmp_ne 194 190 at_187 rfl rfl rfl rfl (fun hc => absurd rfl hc) (fun _ => ?_)
    refine W.iconst 191 at_190 rfl (1 : Int32) rfl ?_
    refine W.goto 195 at_191 rfl ?_
    refine WG.retX (own_EL hw) hv1981 ?_
    exact W.ireturnN (t := .boolean) at_195 rfl (by simp) (1 : Int32) rfl ⟨rfl, rfl⟩ (by decide) (by decide)
  · have hv1983 := HV.keep hv1947 K1971 all0
    show WG _ _ _ _ _ _ _ _ _ _ _ _ 4 32 178 #[.val (.int p0), .val (.int p1), .val (.int p2), .val (.int p3), .val (.int (1 : Int32)), .val (.int (1 : Int32)), .val (.int (p2 &&& (255 : Int32))), .val (.ref o1919), .val (.ref d1905)] [(.ref e1)]
    refine W.astore 180 at_178 rfl rfl #[.val (.int p0), .val (.int p1), .val (.int p2), .val (.int p3), .val (.int (1 : Int32)), .val (.int (1 : Int32)), .val (.int (p2 &&& (255 : Int32))), .val (.ref o1919), .val (.ref e1)] rfl ?_
    refine W.aload 182 at_180 rfl rfl rfl ?_
    refine W.aload 184 at_182 rfl rfl rfl ?_
    have q1984 := (Sta.keepN K1971 all0 q1948)
    have q1985 := (Sta.keepN K1971 all0 q1950)
    have q1986 := (Sta.keepN K1971 all0 q1951)
    have q1987 := (Sta.keepN K1971 all0 q1952)
    have q1988 := (q1970.keep K1971)
    have q1989 := (C1946.keep K1971 nin0)
    have q1990 := (V1946.keep K1971 nin0)
    have q1991 := (A1946.keep K1971 nin0)
    have q1993 := ((q1944.keep K1946 (ninS ne1920 nin0)).keep K1971 nin0)
    refine W.callSX (rest := [(.ref e1)]) (argsL := [(.ref o1919)]) 187 at_184 rfl (fun hn => c_exp1 l Z a0 hw o1919 b1946 kc hkc (([(97 : Int32), (100 : Int32), (106 : Int32), (108 : Int32), (105 : Int32), (115 : Int32), (116 : Int32)].set ((p3 &&& 2147483647) % 7).toNatClampNeg (p2 &&& (255 : Int32))).map byteOf) e0 e1 e2 _ n0 hn q1984 q1985 q1986 q1987 q1988 q1989 q1990 q1991 q0_1971 q1_1971) (wd_69 hw) (wd_70 hw) (wd_6 hw) (wd_71 hw) (by decide) pd_12 rfl rfl rfl (by decide) 1 (Nat.le_of_ble_eq_true rfl) (by decide) (by decide) (by decide) (own_EL hw) hv1983 (allS q1988.lt (allS q1993.lt all0)) all0 ?_
    rintro v1992 h1992 rfl
    have hv1992 := HV.here (Z := Z) (EL := consts_1) (h := h1992) (S := [o1919, d1905])
    show WG _ _ _ _ _ _ _ _ _ _ _ _ 10 128 187 #[.val (.int p0), .val (.int p1), .val (.int p2), .val (.int p3), .val (.int (1 : Int32)), .val (.int (1 : Int32)), .val (.int (p2 &&& (255 : Int32))), .val (.ref o1919), .val (.ref e1)] [(.ref e1), (.ref e1)]
    refine W.acmp_ne 194 190 at_187 rfl rfl rfl rfl (fun hc => absurd rfl hc) (fun _ => ?_)
    refine W.iconst 191 at_190 rfl (1 : Int32) rfl ?_
    refine W.goto 195 at_191 rfl ?_
    refine WG.retX (own_EL hw) hv1992 ?_
    exact W.ireturnN (t := .boolean) at_195 rfl (by simp) (1 : Int32) rfl ⟨rfl, rfl⟩ (by decide) (by decide)
  · have hv1994 := HV.keep hv1947 K1971 all0
    show WG _ _ _ _ _ _ _ _ _ _ _ _ 4 32 178 #[.val (.int p0), .val (.int p1), .val (.int p2), .val (.int p3), .val (.int (1 : Int32)), .val (.int (1 : Int32)), .val (.int (p2 &&& (255 : Int32))), .val (.ref o1919), .val (.ref d1905)] [(.ref e2)]
    refine W.astore 180 at_178 rfl rfl #[.val (.int p0), .val (.int p1), .val (.int p2), .val (.int p3), .val (.int (1 : Int32)), .val (.int (1 : Int32)), .val (.int (p2 &&& (255 : Int32))), .val (.ref o1919), .val (.ref e2)] rfl ?_
    refine W.aload 182 at_180 rfl rfl rfl ?_
    refine W.aload 184 at_182 rfl rfl rfl ?_
    have q1995 := (Sta.keepN K1971 all0 q1948)
    have q1996 := (Sta.keepN K1971 all0 q1950)
    have q1997 := (Sta.keepN K1971 all0 q1951)
    have q1998 := (Sta.keepN K1971 all0 q1952)
    have q1999 := (q1970.keep K1971)
    have q2000 := (C1946.keep K1971 nin0)
    have q2001 := (V1946.keep K1971 nin0)
    have q2002 := (A1946.keep K1971 nin0)
    have q2004 := ((q1944.keep K1946 (ninS ne1920 nin0)).keep K1971 nin0)
    refine W.callSX (rest := [(.ref e2)]) (argsL := [(.ref o1919)]) 187 at_184 rfl (fun hn => c_exp2 l Z a0 hw o1919 b1946 kc hkc (([(97 : Int32), (100 : Int32), (106 : Int32), (108 : Int32), (105 : Int32), (115 : Int32), (116 : Int32)].set ((p3 &&& 2147483647) % 7).toNatClampNeg (p2 &&& (255 : Int32))).map byteOf) e0 e1 e2 _ n0 hn q1995 q1996 q1997 q1998 q1999 q2000 q2001 q2002 q0_1971 q1_1971 q2_1971) (wd_69 hw) (wd_70 hw) (wd_6 hw) (wd_71 hw) (by decide) pd_12 rfl rfl rfl (by decide) 1 (Nat.le_of_ble_eq_true rfl) (by decide) (by decide) (by decide) (own_EL hw) hv1994 (allS q1999.lt (allS q2004.lt all0)) all0 ?_
    rintro v2003 h2003 rfl
    have hv2003 := HV.here (Z := Z) (EL := consts_1) (h := h2003) (S := [o1919, d1905])
    show WG _ _ _ _ _ _ _ _ _ _ _ _ 10 128 187 #[.val (.int p0), .val (.int p1), .val (.int p2), .val (.int p3), .val (.int (1 : Int32)), .val (.int (1 : Int32)), .val (.int (p2 &&& (255 : Int32))), .val (.ref o1919), .val (.ref e2)] [(.ref e2), (.ref e2)]
    refine W.acmp_ne 194 190 at_187 rfl rfl rfl rfl (fun hc => absurd rfl hc) (fun _ => ?_)
    refine W.iconst 191 at_190 rfl (1 : Int32) rfl ?_
    refine W.goto 195 at_191 rfl ?_
    refine WG.retX (own_EL hw) hv2003 ?_
    exact W.ireturnN (t := .boolean) at_195 rfl (by simp) (1 : Int32) rfl ⟨rfl, rfl⟩ (by decide) (by decide)
  · have hv2005 := HV.keep hv1947 K1971 all0
    show WG _ _ _ _ _ _ _ _ _ _ _ _ 4 32 178 #[.val (.int p0), .val (.int p1), .val (.int p2), .val (.int p3), .val (.int (1 : Int32)), .val (.int (1 : Int32)), .val (.int (p2 &&& (255 : Int32))), .val (.ref o1919), .val (.ref d1905)] [.null]
    refine W.astore 180 at_178 rfl rfl #[.val (.int p0), .val (.int p1), .val (.int p2), .val (.int p3), .val (.int (1 : Int32)), .val (.int (1 : Int32)), .val (.int (p2 &&& (255 : Int32))), .val (.ref o1919), .val .null] rfl ?_
    refine W.aload 182 at_180 rfl rfl rfl ?_
    refine W.aload 184 at_182 rfl rfl rfl ?_
    have q2006 := (Sta.keepN K1971 all0 q1948)
    have q2007 := (Sta.keepN K1971 all0 q1950)
    have q2008 := (Sta.keepN K1971 all0 q1951)
    have q2009 := (Sta.keepN K1971 all0 q1952)
    have q2010 := (q1970.keep K1971)
    have q2011 := (C1946.keep K1971 nin0)
    have q2012 := (V1946.keep K1971 nin0)
    have q2013 := (A1946.keep K1971 nin0)
    have q2015 := ((q1944.keep K1946 (ninS ne1920 nin0)).keep K1971 nin0)
    refine W.callSX (rest := [.null]) (argsL := [(.ref o1919)]) 187 at_184 rfl (fun hn => c_exp3 l Z a0 hw o1919 b1946 kc hkc (([(97 : Int32), (100 : Int32), (106 : Int32), (108 : Int32), (105 : Int32), (115 : Int32), (116 : Int32)].set ((p3 &&& 2147483647) % 7).toNatClampNeg (p2 &&& (255 : Int32))).map byteOf) e0 e1 e2 _ n0 hn q2006 q2007 q2008 q2009 q2010 q2011 q2012 q2013 q0_1971 q1_1971 q2_1971) (wd_69 hw) (wd_70 hw) (wd_6 hw) (wd_71 hw) (by decide) pd_12 rfl rfl rfl (by decide) 1 (Nat.le_of_ble_eq_true rfl) (by decide) (by decide) (by decide) (own_EL hw) hv2005 (allS q2010.lt (allS q2015.lt all0)) all0 ?_
    rintro v2014 h2014 rfl
    have hv2014 := HV.here (Z := Z) (EL := consts_1) (h := h2014) (S := [o1919, d1905])
    show WG _ _ _ _ _ _ _ _ _ _ _ _ 10 128 187 #[.val (.int p0), .val (.int p1), .val (.int p2), .val (.int p3), .val (.int (1 : Int32)), .val (.int (1 : Int32)), .val (.int (p2 &&& (255 : Int32))), .val (.ref o1919), .val .null] [.null, .null]
    refine W.acmp_ne 194 190 at_187 rfl rfl rfl rfl (fun hc => absurd rfl hc) (fun _ => ?_)
    refine W.iconst 191 at_190 rfl (1 : Int32) rfl ?_
    refine W.goto 195 at_191 rfl ?_
    refine WG.retX (own_EL hw) hv2014 ?_
    exact W.ireturnN (t := .boolean) at_195 rfl (by simp) (1 : Int32) rfl ⟨rfl, rfl⟩ (by decide) (by decide)
theorem law_12 (l : Launch) (Z : State) (a0 : Array Value) (hw : HwT Z a0) (p0 p1 p2 p3 : Int32) (kc : Int32) (hkc : ¬ kc = 0) (e0 e1 e2 t0 t1 t2 u0 u1 u2 vv : Addr) (h : Heap) (n0 : Nat) (hn : n0 ≤ h.size) (FS : Sta Z h "java/lang/String" "COMPACT_STRINGS" "Z" (.int kc)) (SV : Sta Z h "com/example/eccentra/eccentra/GraphFormat" "$VALUES" "[Lcom/example/eccentra/eccentra/GraphFormat;" (.ref vv)) (S0 : Sta Z h "com/example/eccentra/eccentra/GraphFormat" "EDGELIST" "Lcom/example/eccentra/eccentra/GraphFormat;" (.ref e0)) (S1 : Sta Z h "com/example/eccentra/eccentra/GraphFormat" "ADJLIST" "Lcom/example/eccentra/eccentra/GraphFormat;" (.ref e1)) (S2 : Sta Z h "com/example/eccentra/eccentra/GraphFormat" "MTX" "Lcom/example/eccentra/eccentra/GraphFormat;" (.ref e2)) (AV : Ary Z h vv (.object "com/example/eccentra/eccentra/GraphFormat") [.ref e0, .ref e1, .ref e2]) (EV : Exa Z h vv "[Lcom/example/eccentra/eccentra/GraphFormat;") (O0 : Fld Z h e0 "com/example/eccentra/eccentra/GraphFormat" "optionValue" "Ljava/lang/String;" (.ref t0)) (Et0 : Exa Z h t0 "java/lang/String") (Ct0 : Fld Z h t0 "java/lang/String" "coder" "B" (.int 0)) (Vt0 : Fld Z h t0 "java/lang/String" "value" "[B" (.ref u0)) (At0 : Ary Z h u0 .byte [(.int (101 : Int32)), (.int (100 : Int32)), (.int (103 : Int32)), (.int (101 : Int32)), (.int (108 : Int32)), (.int (105 : Int32)), (.int (115 : Int32)), (.int (116 : Int32))]) (O1 : Fld Z h e1 "com/example/eccentra/eccentra/GraphFormat" "optionValue" "Ljava/lang/String;" (.ref t1)) (Et1 : Exa Z h t1 "java/lang/String") (Ct1 : Fld Z h t1 "java/lang/String" "coder" "B" (.int 0)) (Vt1 : Fld Z h t1 "java/lang/String" "value" "[B" (.ref u1)) (At1 : Ary Z h u1 .byte [(.int (97 : Int32)), (.int (100 : Int32)), (.int (106 : Int32)), (.int (108 : Int32)), (.int (105 : Int32)), (.int (115 : Int32)), (.int (116 : Int32))]) (O2 : Fld Z h e2 "com/example/eccentra/eccentra/GraphFormat" "optionValue" "Ljava/lang/String;" (.ref t2)) (Et2 : Exa Z h t2 "java/lang/String") (Ct2 : Fld Z h t2 "java/lang/String" "coder" "B" (.int 0)) (Vt2 : Fld Z h t2 "java/lang/String" "value" "[B" (.ref u2)) (At2 : Ary Z h u2 .byte [(.int (109 : Int32)), (.int (116 : Int32)), (.int (120 : Int32))]) (ek : (p0 &&& 2147483647) % 3 = 1) (em : (p1 &&& 2147483647) % 5 = 2) : ConX Z consts_1 [] tables_1 l x code maxLocals ret room_1 #[(.int p0), (.int p1), (.int p2), (.int p3)] h n0 (fun v _ => v = some (.int 1)) := by
  refine ConX.of_W (Ls := #[.val (.int p0), .val (.int p1), .val (.int p2), .val (.int p3), .unset, .unset, .unset, .unset, .unset]) (plainFor_of_name pn_3) hn (fun m => by first | (simp [entryFrame, mkF, argsToLocals, Value.category, maxLocals]; done) | rfl) ?_
  have hv0 := HV.here (Z := Z) (EL := consts_1) (h := h) (S := [])
  refine W.iloadN 1 at_0 rfl rfl ?_
  refine W.ldcI 3 at_1 rfl (wd_0 hw) ?_
  refine W.iand 4 at_3 rfl (p0 &&& (2147483647 : Int32)) rfl ?_
  refine W.iconst 5 at_4 rfl (3 : Int32) rfl ?_
  refine W.irem 6 at_5 rfl (by decide) (1 : Int32) ek ?_
  refine W.istore 8 at_6 rfl #[.val (.int p0), .val (.int p1), .val (.int p2), .val (.int p3), .val (.int (1 : Int32)), .unset, .unset, .unset, .unset] rfl ?_
  refine W.iloadN 9 at_8 rfl rfl ?_
  refine W.ldcI 11 at_9 rfl (wd_0 hw) ?_
  refine W.iand 12 at_11 rfl (p1 &&& (2147483647 : Int32)) rfl ?_
  refine W.iconst 13 at_12 rfl (5 : Int32) rfl ?_
  refine W.irem 14 at_13 rfl (by decide) (2 : Int32) em ?_
  refine W.istore 16 at_14 rfl #[.val (.int p0), .val (.int p1), .val (.int p2), .val (.int p3), .val (.int (1 : Int32)), .val (.int (2 : Int32)), .unset, .unset, .unset] rfl ?_
  refine W.iloadN 17 at_16 rfl rfl ?_
  refine W.sipush 20 at_17 rfl (255 : Int32) rfl ?_
  refine W.iand 21 at_20 rfl (p2 &&& (255 : Int32)) rfl ?_
  refine W.i2c 22 at_21 rfl (p2 &&& (255 : Int32)) (ch_nar (own_m p2)) ?_
  refine W.istore 24 at_22 rfl #[.val (.int p0), .val (.int p1), .val (.int p2), .val (.int p3), .val (.int (1 : Int32)), .val (.int (2 : Int32)), .val (.int (p2 &&& (255 : Int32))), .unset, .unset] rfl ?_
  refine W.iload 26 at_24 rfl rfl ?_
  refine W.if_ne 46 29 at_26 rfl rfl (fun _ => ?_) (fun hc => absurd hc (by decide))
  refine W.iload 48 at_46 rfl rfl ?_
  refine W.iconst 49 at_48 rfl (1 : Int32) rfl ?_
  refine W.icmp_ne 86 52 at_49 rfl rfl (fun _ => ?_) (fun hc => absurd hc (by decide))
  refine W.iload 88 at_86 rfl rfl ?_
  refine W.iconst 89 at_88 rfl (2 : Int32) rfl ?_
  refine W.icmp_ne 109 92 at_89 rfl rfl (fun hc => absurd (by decide) hc) (fun _ => ?_)
  refine W.new 95 at_92 rfl (wd_1 hw) (wd_2 hw) (wd_3 hw) (by decide) (by decide) ?_
  intro h2016 o2016 g2016 ge2016 X2016 K2016 E2016 D2016
  have ne2017 : e0 ≠ o2016 := Nat.ne_of_lt (Nat.lt_of_lt_of_eq O0.lt g2016.symm)
  have ne2018 : e1 ≠ o2016 := Nat.ne_of_lt (Nat.lt_of_lt_of_eq O1.lt g2016.symm)
  have ne2019 : e2 ≠ o2016 := Nat.ne_of_lt (Nat.lt_of_lt_of_eq O2.lt g2016.symm)
  have ne2020 : t0 ≠ o2016 := Nat.ne_of_lt (Nat.lt_of_lt_of_eq Et0.lt g2016.symm)
  have ne2021 : t1 ≠ o2016 := Nat.ne_of_lt (Nat.lt_of_lt_of_eq Et1.lt g2016.symm)
  have ne2022 : t2 ≠ o2016 := Nat.ne_of_lt (Nat.lt_of_lt_of_eq Et2.lt g2016.symm)
  have ne2023 : u0 ≠ o2016 := Nat.ne_of_lt (Nat.lt_of_lt_of_eq At0.lt g2016.symm)
  have ne2024 : u1 ≠ o2016 := Nat.ne_of_lt (Nat.lt_of_lt_of_eq At1.lt g2016.symm)
  have ne2025 : u2 ≠ o2016 := Nat.ne_of_lt (Nat.lt_of_lt_of_eq At2.lt g2016.symm)
  have ne2026 : vv ≠ o2016 := Nat.ne_of_lt (Nat.lt_of_lt_of_eq AV.lt g2016.symm)
  have hv2027 := HV.new hv0 K2016 all0 (Nat.le_of_eq g2016.symm)
  have f2028 : Fld _ _ o2016 "java/lang/String" "coder" "B" (.int (0 : Int32)) := D2016 (Or.inr (wd_32 hw)) (ty := .byte) (by decide)
  have f2029 : Fld _ _ o2016 "java/lang/String" "value" "[B" .null := D2016 (Or.inr (wd_34 hw)) (ty := (.array .byte)) (by decide)
  show WG _ _ _ _ _ _ _ _ _ _ _ _ 1 4 95 #[.val (.int p0), .val (.int p1), .val (.int p2), .val (.int p3), .val (.int (1 : Int32)), .val (.int (2 : Int32)), .val (.int (p2 &&& (255 : Int32))), .unset, .unset] [(.ref o2016)]
  refine W.dup 96 at_95 rfl rfl ?_
  refine W.iload 98 at_96 rfl rfl ?_
  refine W.callS (rest := [(.ref o2016), (.ref o2016)]) (argsL := [(.int (1 : Int32))]) 101 at_98 rfl (fun hn => c_trunc1 l Z a0 hw  _ n0 hn ) (wd_83 hw) (wd_84 hw) (wd_6 hw) (wd_85 hw) (by decide) pd_10 rfl rfl rfl (by decide) 2 (Nat.le_of_ble_eq_true rfl) (by decide) (by decide) (by decide) ?_
  rintro v2030 h2030 ⟨d2030, rfl, sz2030, gd2030, K2030, A2030⟩
  have q2031 := (O0.keep K2016 nin0)
  have ne2032 : e0 ≠ d2030 := Nat.ne_of_lt (Nat.lt_of_lt_of_le q2031.lt sz2030)
  have q2033 := (O1.keep K2016 nin0)
  have ne2034 : e1 ≠ d2030 := Nat.ne_of_lt (Nat.lt_of_lt_of_le q2033.lt sz2030)
  have q2035 := (O2.keep K2016 nin0)
  have ne2036 : e2 ≠ d2030 := Nat.ne_of_lt (Nat.lt_of_lt_of_le q2035.lt sz2030)
  have ne2037 : o2016 ≠ d2030 := Nat.ne_of_lt (Nat.lt_of_lt_of_le E2016.lt sz2030)
  have q2038 := (Et0.keep K2016)
  have ne2039 : t0 ≠ d2030 := Nat.ne_of_lt (Nat.lt_of_lt_of_le q2038.lt sz2030)
  have q2040 := (Et1.keep K2016)
  have ne2041 : t1 ≠ d2030 := Nat.ne_of_lt (Nat.lt_of_lt_of_le q2040.lt sz2030)
  have q2042 := (Et2.keep K2016)
  have ne2043 : t2 ≠ d2030 := Nat.ne_of_lt (Nat.lt_of_lt_of_le q2042.lt sz2030)
  have q2044 := (At0.keep K2016 nin0)
  have ne2045 : u0 ≠ d2030 := Nat.ne_of_lt (Nat.lt_of_lt_of_le q2044.lt sz2030)
  have q2046 := (At1.keep K2016 nin0)
  have ne2047 : u1 ≠ d2030 := Nat.ne_of_lt (Nat.lt_of_lt_of_le q2046.lt sz2030)
  have q2048 := (At2.keep K2016 nin0)
  have ne2049 : u2 ≠ d2030 := Nat.ne_of_lt (Nat.lt_of_lt_of_le q2048.lt sz2030)
  have q2050 := (AV.keep K2016 nin0)
  have ne2051 : vv ≠ d2030 := Nat.ne_of_lt (Nat.lt_of_lt_of_le q2050.lt sz2030)
  have hv2052 := HV.new hv2027 K2030 all0 sz2030
  show WG _ _ _ _ _ _ _ _ _ _ _ _ 2 13 101 #[.val (.int p0), .val (.int p1), .val (.int p2), .val (.int p3), .val (.int (1 : Int32)), .val (.int (2 : Int32)), .val (.int (p2 &&& (255 : Int32))), .unset, .unset] [(.ref d2030), (.ref o2016), (.ref o2016)]
  have q2053 := (Sta.keepN K2030 all0 (Sta.ext X2016 FS))
  have q2054 := (E2016.keep K2030)
  have q2055 := (f2028.keep K2030 nin0)
  have q2056 := (f2029.keep K2030 nin0)
  refine W.callInit (rest := [(.ref o2016)]) (argsL := [(.ref d2030)]) (a := o2016) 104 at_101 rfl (fun hn => c_i1g l Z a0 hw o2016 d2030 kc hkc [(97 : Int32), (100 : Int32), (106 : Int32), (108 : Int32), (105 : Int32), (115 : Int32)] _ n0 hn ne2037 ge2016 (chC (ch_k (by decide) (by decide)) (chC (ch_k (by decide) (by decide)) (chC (ch_k (by decide) (by decide)) (chC (ch_k (by decide) (by decide)) (chC (ch_k (by decide) (by decide)) (chC (ch_k (by decide) (by decide)) chN)))))) (Nat.le_of_ble_eq_true rfl) (show ¬ (6 : Nat).toInt32 = 0 by decide) q2053 q2054 q2055 q2056 A2030) rfl (wd_9 hw) (wd_10 hw) (wd_3 hw) (wd_11 hw) (by decide) pd_11 rfl rfl rfl (by decide) 1 (Nat.le_of_ble_eq_true rfl) (by decide) (by decide) (by decide) ?_
  rintro v2057 h2057 ⟨rfl, K2057, b2057, C2057, V2057, A2057⟩
  have hv2058 := HV.keep hv2052 K2057 (allS (List.mem_of_getElem? (i := 1) rfl) all0)
  show WG _ _ _ _ _ _ _ _ _ _ _ _ 3 29 104 #[.val (.int p0), .val (.int p1), .val (.int p2), .val (.int p3), .val (.int (1 : Int32)), .val (.int (2 : Int32)), .val (.int (p2 &&& (255 : Int32))), .unset, .unset] [(.ref o2016)]
  refine W.astore 106 at_104 rfl rfl #[.val (.int p0), .val (.int p1), .val (.int p2), .val (.int p3), .val (.int (1 : Int32)), .val (.int (2 : Int32)), .val (.int (p2 &&& (255 : Int32))), .val (.ref o2016), .unset] rfl ?_
  refine W.goto 173 at_106 rfl ?_
  refine W.aload 175 at_173 rfl rfl rfl ?_
  have q2059 := (Sta.keepN K2057 (allS q2054.nostat all0) q2053)
  have q2060 := (Sta.keepN K2057 (allS q2054.nostat all0) (Sta.keepN K2030 all0 (Sta.ext X2016 SV)))
  have q2061 := (Sta.keepN K2057 (allS q2054.nostat all0) (Sta.keepN K2030 all0 (Sta.ext X2016 S0)))
  have q2062 := (Sta.keepN K2057 (allS q2054.nostat all0) (Sta.keepN K2030 all0 (Sta.ext X2016 S1)))
  have q2063 := (Sta.keepN K2057 (allS q2054.nostat all0) (Sta.keepN K2030 all0 (Sta.ext X2016 S2)))
  have q2064 := ((q2050.keep K2030 nin0).keep K2057 (ninS ne2026 nin0))
  have q2065 := (((EV.keep K2016).keep K2030).keep K2057)
  have q2066 := ((q2031.keep K2030 nin0).keep K2057 (ninS ne2017 nin0))
  have q2067 := ((q2038.keep K2030).keep K2057)
  have q2068 := (((Ct0.keep K2016 nin0).keep K2030 nin0).keep K2057 (ninS ne2020 nin0))
  have q2069 := (((Vt0.keep K2016 nin0).keep K2030 nin0).keep K2057 (ninS ne2020 nin0))
  have q2070 := ((q2044.keep K2030 nin0).keep K2057 (ninS ne2023 nin0))
  have q2071 := ((q2033.keep K2030 nin0).keep K2057 (ninS ne2018 nin0))
  have q2072 := ((q2040.keep K2030).keep K2057)
  have q2073 := (((Ct1.keep K2016 nin0).keep K2030 nin0).keep K2057 (ninS ne2021 nin0))
  have q2074 := (((Vt1.keep K2016 nin0).keep K2030 nin0).keep K2057 (ninS ne2021 nin0))
  have q2075 := ((q2046.keep K2030 nin0).keep K2057 (ninS ne2024 nin0))
  have q2076 := ((q2035.keep K2030 nin0).keep K2057 (ninS ne2019 nin0))
  have q2077 := ((q2042.keep K2030).keep K2057)
  have q2078 := (((Ct2.keep K2016 nin0).keep K2030 nin0).keep K2057 (ninS ne2022 nin0))
  have q2079 := (((Vt2.keep K2016 nin0).keep K2030 nin0).keep K2057 (ninS ne2022 nin0))
  have q2080 := ((q2048.keep K2030 nin0).keep K2057 (ninS ne2025 nin0))
  have q2081 := (q2054.keep K2057)
  refine W.callS (rest := []) (argsL := [(.ref o2016)]) 178 at_175 rfl (fun hn => c_named l Z a0 hw o2016 b2057 kc hkc ([(97 : Int32), (100 : Int32), (106 : Int32), (108 : Int32), (105 : Int32), (115 : Int32)].map byteOf) e0 e1 e2 t0 t1 t2 u0 u1 u2 vv _ n0 hn q2059 q2060 q2061 q2062 q2063 q2064 q2065 q2066 q2067 q2068 q2069 q2070 q2071 q2072 q2073 q2074 q2075 q2076 q2077 q2078 q2079 q2080 q2081 C2057 V2057 A2057) (wd_35 hw) (wd_36 hw) (wd_37 hw) (wd_38 hw) (by decide) pd_12 rfl rfl rfl (by decide) 0 (Nat.le_of_ble_eq_true rfl) (by decide) (by decide) (by decide) ?_
  rintro v2082 h2082 (⟨q0_2082, rfl, K2082⟩ | ⟨q0_2082, q1_2082, rfl, K2082⟩ | ⟨q0_2082, q1_2082, q2_2082, rfl, K2082⟩ | ⟨q0_2082, q1_2082, q2_2082, rfl, K2082⟩)
  · have hv2083 := HV.keep hv2058 K2082 all0
    show WG _ _ _ _ _ _ _ _ _ _ _ _ 4 32 178 #[.val (.int p0), .val (.int p1), .val (.int p2), .val (.int p3), .val (.int (1 : Int32)), .val (.int (2 : Int32)), .val (.int (p2 &&& (255 : Int32))), .val (.ref o2016), .unset] [(.ref e0)]
    refine W.astore 180 at_178 rfl rfl #[.val (.int p0), .val (.int p1), .val (.int p2), .val (.int p3), .val (.int (1 : Int32)), .val (.int (2 : Int32)), .val (.int (p2 &&& (255 : Int32))), .val (.ref o2016), .val (.ref e0)] rfl ?_
    refine W.aload 182 at_180 rfl rfl rfl ?_
    refine W.aload 184 at_182 rfl rfl rfl ?_
    have q2084 := (Sta.keepN K2082 all0 q2059)
    have q2085 := (Sta.keepN K2082 all0 q2061)
    have q2086 := (Sta.keepN K2082 all0 q2062)
    have q2087 := (Sta.keepN K2082 all0 q2063)
    have q2088 := (q2081.keep K2082)
    have q2089 := (C2057.keep K2082 nin0)
    have q2090 := (V2057.keep K2082 nin0)
    have q2091 := (A2057.keep K2082 nin0)
    have q2093 := ((A2030.keep K2057 (ninS (Ne.symm ne2037) nin0)).keep K2082 nin0)
    refine W.callSX (rest := [(.ref e0)]) (argsL := [(.ref o2016)]) 187 at_184 rfl (fun hn => c_exp0 l Z a0 hw o2016 b2057 kc hkc ([(97 : Int32), (100 : Int32), (106 : Int32), (108 : Int32), (105 : Int32), (115 : Int32)].map byteOf) e0 e1 e2 _ n0 hn q2084 q2085 q2086 q2087 q2088 q2089 q2090 q2091 q0_2082) (wd_69 hw) (wd_70 hw) (wd_6 hw) (wd_71 hw) (by decide) pd_12 rfl rfl rfl (by decide) 1 (Nat.le_of_ble_eq_true rfl) (by decide) (by decide) (by decide) (own_EL hw) hv2083 (allS q2093.lt (allS q2088.lt all0)) all0 ?_
    rintro v2092 h2092 rfl
    have hv2092 := HV.here (Z := Z) (EL := consts_1) (h := h2092) (S := [d2030, o2016])
    show WG _ _ _ _ _ _ _ _ _ _ _ _ 10 128 187 #[.val (.int p0), .val (.int p1), .val (.int p2), .val (.int p3), .val (.int (1 : Int32)), .val (.int (2 : Int32)), .val (.int (p2 &&& (255 : Int32))), .val (.ref o2016), .val (.ref e0)] [(.ref e0), (.ref e0)]
    refine W.acmp_ne 194 190 at_187 rfl rfl rfl rfl (fun hc => absurd rfl hc) (fun _ => ?_)
    refine W.iconst 191 at_190 rfl (1 : Int32) rfl ?_
    refine W.goto 195 at_191 rfl ?_
    refine WG.retX (own_EL hw) hv2092 ?_
    exact W.ireturnN (t := .boolean) at_195 rfl (by simp) (1 : Int32) rfl ⟨rfl, rfl⟩ (by decide) (by decide)
  · have hv2094 := HV.keep hv2058 K2082 all0
    show WG _ _ _ _ _ _ _ _ _ _ _ _ 4 32 178 #[.val (.int p0), .val (.int p1), .val (.int p2), .val (.int p3), .val (.int (1 : Int32)), .val (.int (2 : Int32)), .val (.int (p2 &&& (255 : Int32))), .val (.ref o2016), .unset] [(.ref e1)]
    refine W.astore 180 at_178 rfl rfl #[.val (.int p0), .val (.int p1), .val (.int p2), .val (.int p3), .val (.int (1 : Int32)), .val (.int (2 : Int32)), .val (.int (p2 &&& (255 : Int32))), .val (.ref o2016), .val (.ref e1)] rfl ?_
    refine W.aload 182 at_180 rfl rfl rfl ?_
    refine W.aload 184 at_182 rfl rfl rfl ?_
    have q2095 := (Sta.keepN K2082 all0 q2059)
    have q2096 := (Sta.keepN K2082 all0 q2061)
    have q2097 := (Sta.keepN K2082 all0 q2062)
    have q2098 := (Sta.keepN K2082 all0 q2063)
    have q2099 := (q2081.keep K2082)
    have q2100 := (C2057.keep K2082 nin0)
    have q2101 := (V2057.keep K2082 nin0)
    have q2102 := (A2057.keep K2082 nin0)
    have q2104 := ((A2030.keep K2057 (ninS (Ne.symm ne2037) nin0)).keep K2082 nin0)
    refine W.callSX (rest := [(.ref e1)]) (argsL := [(.ref o2016)]) 187 at_184 rfl (fun hn => c_exp1 l Z a0 hw o2016 b2057 kc hkc ([(97 : Int32), (100 : Int32), (106 : Int32), (108 : Int32), (105 : Int32), (115 : Int32)].map byteOf) e0 e1 e2 _ n0 hn q2095 q2096 q2097 q2098 q2099 q2100 q2101 q2102 q0_2082 q1_2082) (wd_69 hw) (wd_70 hw) (wd_6 hw) (wd_71 hw) (by decide) pd_12 rfl rfl rfl (by decide) 1 (Nat.le_of_ble_eq_true rfl) (by decide) (by decide) (by decide) (own_EL hw) hv2094 (allS q2104.lt (allS q2099.lt all0)) all0 ?_
    rintro v2103 h2103 rfl
    have hv2103 := HV.here (Z := Z) (EL := consts_1) (h := h2103) (S := [d2030, o2016])
    show WG _ _ _ _ _ _ _ _ _ _ _ _ 10 128 187 #[.val (.int p0), .val (.int p1), .val (.int p2), .val (.int p3), .val (.int (1 : Int32)), .val (.int (2 : Int32)), .val (.int (p2 &&& (255 : Int32))), .val (.ref o2016), .val (.ref e1)] [(.ref e1), (.ref e1)]
    refine W.acmp_ne 194 190 at_187 rfl rfl rfl rfl (fun hc => absurd rfl hc) (fun _ => ?_)
    refine W.iconst 191 at_190 rfl (1 : Int32) rfl ?_
    refine W.goto 195 at_191 rfl ?_
    refine WG.retX (own_EL hw) hv2103 ?_
    exact W.ireturnN (t := .boolean) at_195 rfl (by simp) (1 : Int32) rfl ⟨rfl, rfl⟩ (by decide) (by decide)
  · have hv2105 := HV.keep hv2058 K2082 all0
    show WG _ _ _ _ _ _ _ _ _ _ _ _ 4 32 178 #[.val (.int p0), .val (.int p1), .val (.int p2), .val (.int p3), .val (.int (1 : Int32)), .val (.int (2 : Int32)), .val (.int (p2 &&& (255 : Int32))), .val (.ref o2016), .unset] [(.ref e2)]
    refine W.astore 180 at_178 rfl rfl #[.val (.int p0), .val (.int p1), .val (.int p2), .val (.int p3), .val (.int (1 : Int32)), .val (.int (2 : Int32)), .val (.int (p2 &&& (255 : Int32))), .val (.ref o2016), .val (.ref e2)] rfl ?_
    refine W.aload 182 at_180 rfl rfl rfl ?_
    refine W.aload 184 at_182 rfl rfl rfl ?_
    have q2106 := (Sta.keepN K2082 all0 q2059)
    have q2107 := (Sta.keepN K2082 all0 q2061)
    have q2108 := (Sta.keepN K2082 all0 q2062)
    have q2109 := (Sta.keepN K2082 all0 q2063)
    have q2110 := (q2081.keep K2082)
    have q2111 := (C2057.keep K2082 nin0)
    have q2112 := (V2057.keep K2082 nin0)
    have q2113 := (A2057.keep K2082 nin0)
    have q2115 := ((A2030.keep K2057 (ninS (Ne.symm ne2037) nin0)).keep K2082 nin0)
    refine W.callSX (rest := [(.ref e2)]) (argsL := [(.ref o2016)]) 187 at_184 rfl (fun hn => c_exp2 l Z a0 hw o2016 b2057 kc hkc ([(97 : Int32), (100 : Int32), (106 : Int32), (108 : Int32), (105 : Int32), (115 : Int32)].map byteOf) e0 e1 e2 _ n0 hn q2106 q2107 q2108 q2109 q2110 q2111 q2112 q2113 q0_2082 q1_2082 q2_2082) (wd_69 hw) (wd_70 hw) (wd_6 hw) (wd_71 hw) (by decide) pd_12 rfl rfl rfl (by decide) 1 (Nat.le_of_ble_eq_true rfl) (by decide) (by decide) (by decide) (own_EL hw) hv2105 (allS q2115.lt (allS q2110.lt all0)) all0 ?_
    rintro v2114 h2114 rfl
    have hv2114 := HV.here (Z := Z) (EL := consts_1) (h := h2114) (S := [d2030, o2016])
    show WG _ _ _ _ _ _ _ _ _ _ _ _ 10 128 187 #[.val (.int p0), .val (.int p1), .val (.int p2), .val (.int p3), .val (.int (1 : Int32)), .val (.int (2 : Int32)), .val (.int (p2 &&& (255 : Int32))), .val (.ref o2016), .val (.ref e2)] [(.ref e2), (.ref e2)]
    refine W.acmp_ne 194 190 at_187 rfl rfl rfl rfl (fun hc => absurd rfl hc) (fun _ => ?_)
    refine W.iconst 191 at_190 rfl (1 : Int32) rfl ?_
    refine W.goto 195 at_191 rfl ?_
    refine WG.retX (own_EL hw) hv2114 ?_
    exact W.ireturnN (t := .boolean) at_195 rfl (by simp) (1 : Int32) rfl ⟨rfl, rfl⟩ (by decide) (by decide)
  · have hv2116 := HV.keep hv2058 K2082 all0
    show WG _ _ _ _ _ _ _ _ _ _ _ _ 4 32 178 #[.val (.int p0), .val (.int p1), .val (.int p2), .val (.int p3), .val (.int (1 : Int32)), .val (.int (2 : Int32)), .val (.int (p2 &&& (255 : Int32))), .val (.ref o2016), .unset] [.null]
    refine W.astore 180 at_178 rfl rfl #[.val (.int p0), .val (.int p1), .val (.int p2), .val (.int p3), .val (.int (1 : Int32)), .val (.int (2 : Int32)), .val (.int (p2 &&& (255 : Int32))), .val (.ref o2016), .val .null] rfl ?_
    refine W.aload 182 at_180 rfl rfl rfl ?_
    refine W.aload 184 at_182 rfl rfl rfl ?_
    have q2117 := (Sta.keepN K2082 all0 q2059)
    have q2118 := (Sta.keepN K2082 all0 q2061)
    have q2119 := (Sta.keepN K2082 all0 q2062)
    have q2120 := (Sta.keepN K2082 all0 q2063)
    have q2121 := (q2081.keep K2082)
    have q2122 := (C2057.keep K2082 nin0)
    have q2123 := (V2057.keep K2082 nin0)
    have q2124 := (A2057.keep K2082 nin0)
    have q2126 := ((A2030.keep K2057 (ninS (Ne.symm ne2037) nin0)).keep K2082 nin0)
    refine W.callSX (rest := [.null]) (argsL := [(.ref o2016)]) 187 at_184 rfl (fun hn => c_exp3 l Z a0 hw o2016 b2057 kc hkc ([(97 : Int32), (100 : Int32), (106 : Int32), (108 : Int32), (105 : Int32), (115 : Int32)].map byteOf) e0 e1 e2 _ n0 hn q2117 q2118 q2119 q2120 q2121 q2122 q2123 q2124 q0_2082 q1_2082 q2_2082) (wd_69 hw) (wd_70 hw) (wd_6 hw) (wd_71 hw) (by decide) pd_12 rfl rfl rfl (by decide) 1 (Nat.le_of_ble_eq_true rfl) (by decide) (by decide) (by decide) (own_EL hw) hv2116 (allS q2126.lt (allS q2121.lt all0)) all0 ?_
    rintro v2125 h2125 rfl
    have hv2125 := HV.here (Z := Z) (EL := consts_1) (h := h2125) (S := [d2030, o2016])
    show WG _ _ _ _ _ _ _ _ _ _ _ _ 10 128 187 #[.val (.int p0), .val (.int p1), .val (.int p2), .val (.int p3), .val (.int (1 : Int32)), .val (.int (2 : Int32)), .val (.int (p2 &&& (255 : Int32))), .val (.ref o2016), .val .null] [.null, .null]
    refine W.acmp_ne 194 190 at_187 rfl rfl rfl rfl (fun hc => absurd rfl hc) (fun _ => ?_)
    refine W.iconst 191 at_190 rfl (1 : Int32) rfl ?_
    refine W.goto 195 at_191 rfl ?_
    refine WG.retX (own_EL hw) hv2125 ?_
    exact W.ireturnN (t := .boolean) at_195 rfl (by simp) (1 : Int32) rfl ⟨rfl, rfl⟩ (by decide) (by decide)
theorem law_13 (l : Launch) (Z : State) (a0 : Array Value) (hw : HwT Z a0) (p0 p1 p2 p3 : Int32) (kc : Int32) (hkc : ¬ kc = 0) (e0 e1 e2 t0 t1 t2 u0 u1 u2 vv : Addr) (h : Heap) (n0 : Nat) (hn : n0 ≤ h.size) (FS : Sta Z h "java/lang/String" "COMPACT_STRINGS" "Z" (.int kc)) (SV : Sta Z h "com/example/eccentra/eccentra/GraphFormat" "$VALUES" "[Lcom/example/eccentra/eccentra/GraphFormat;" (.ref vv)) (S0 : Sta Z h "com/example/eccentra/eccentra/GraphFormat" "EDGELIST" "Lcom/example/eccentra/eccentra/GraphFormat;" (.ref e0)) (S1 : Sta Z h "com/example/eccentra/eccentra/GraphFormat" "ADJLIST" "Lcom/example/eccentra/eccentra/GraphFormat;" (.ref e1)) (S2 : Sta Z h "com/example/eccentra/eccentra/GraphFormat" "MTX" "Lcom/example/eccentra/eccentra/GraphFormat;" (.ref e2)) (AV : Ary Z h vv (.object "com/example/eccentra/eccentra/GraphFormat") [.ref e0, .ref e1, .ref e2]) (EV : Exa Z h vv "[Lcom/example/eccentra/eccentra/GraphFormat;") (O0 : Fld Z h e0 "com/example/eccentra/eccentra/GraphFormat" "optionValue" "Ljava/lang/String;" (.ref t0)) (Et0 : Exa Z h t0 "java/lang/String") (Ct0 : Fld Z h t0 "java/lang/String" "coder" "B" (.int 0)) (Vt0 : Fld Z h t0 "java/lang/String" "value" "[B" (.ref u0)) (At0 : Ary Z h u0 .byte [(.int (101 : Int32)), (.int (100 : Int32)), (.int (103 : Int32)), (.int (101 : Int32)), (.int (108 : Int32)), (.int (105 : Int32)), (.int (115 : Int32)), (.int (116 : Int32))]) (O1 : Fld Z h e1 "com/example/eccentra/eccentra/GraphFormat" "optionValue" "Ljava/lang/String;" (.ref t1)) (Et1 : Exa Z h t1 "java/lang/String") (Ct1 : Fld Z h t1 "java/lang/String" "coder" "B" (.int 0)) (Vt1 : Fld Z h t1 "java/lang/String" "value" "[B" (.ref u1)) (At1 : Ary Z h u1 .byte [(.int (97 : Int32)), (.int (100 : Int32)), (.int (106 : Int32)), (.int (108 : Int32)), (.int (105 : Int32)), (.int (115 : Int32)), (.int (116 : Int32))]) (O2 : Fld Z h e2 "com/example/eccentra/eccentra/GraphFormat" "optionValue" "Ljava/lang/String;" (.ref t2)) (Et2 : Exa Z h t2 "java/lang/String") (Ct2 : Fld Z h t2 "java/lang/String" "coder" "B" (.int 0)) (Vt2 : Fld Z h t2 "java/lang/String" "value" "[B" (.ref u2)) (At2 : Ary Z h u2 .byte [(.int (109 : Int32)), (.int (116 : Int32)), (.int (120 : Int32))]) (ek : (p0 &&& 2147483647) % 3 = 1) (em : (p1 &&& 2147483647) % 5 = 3) : ConX Z consts_1 [] tables_1 l x code maxLocals ret room_1 #[(.int p0), (.int p1), (.int p2), (.int p3)] h n0 (fun v _ => v = some (.int 1)) := by
  refine ConX.of_W (Ls := #[.val (.int p0), .val (.int p1), .val (.int p2), .val (.int p3), .unset, .unset, .unset, .unset, .unset]) (plainFor_of_name pn_3) hn (fun m => by first | (simp [entryFrame, mkF, argsToLocals, Value.category, maxLocals]; done) | rfl) ?_
  have hv0 := HV.here (Z := Z) (EL := consts_1) (h := h) (S := [])
  refine W.iloadN 1 at_0 rfl rfl ?_
  refine W.ldcI 3 at_1 rfl (wd_0 hw) ?_
  refine W.iand 4 at_3 rfl (p0 &&& (2147483647 : Int32)) rfl ?_
  refine W.iconst 5 at_4 rfl (3 : Int32) rfl ?_
  refine W.irem 6 at_5 rfl (by decide) (1 : Int32) ek ?_
  refine W.istore 8 at_6 rfl #[.val (.int p0), .val (.int p1), .val (.int p2), .val (.int p3), .val (.int (1 : Int32)), .unset, .unset, .unset, .unset] rfl ?_
  refine W.iloadN 9 at_8 rfl rfl ?_
  refine W.ldcI 11 at_9 rfl (wd_0 hw) ?_
  refine W.iand 12 at_11 rfl (p1 &&& (2147483647 : Int32)) rfl ?_
  refine W.iconst 13 at_12 rfl (5 : Int32) rfl ?_
  refine W.irem 14 at_13 rfl (by decide) (3 : Int32) em ?_
  refine W.istore 16 at_14 rfl #[.val (.int p0), .val (.int p1), .val (.int p2), .val (.int p3), .val (.int (1 : Int32)), .val (.int (3 : Int32)), .unset, .unset, .unset] rfl ?_
  refine W.iloadN 17 at_16 rfl rfl ?_
  refine W.sipush 20 at_17 rfl (255 : Int32) rfl ?_
  refine W.iand 21 at_20 rfl (p2 &&& (255 : Int32)) rfl ?_
  refine W.i2c 22 at_21 rfl (p2 &&& (255 : Int32)) (ch_nar (own_m p2)) ?_
  refine W.istore 24 at_22 rfl #[.val (.int p0), .val (.int p1), .val (.int p2), .val (.int p3), .val (.int (1 : Int32)), .val (.int (3 : Int32)), .val (.int (p2 &&& (255 : Int32))), .unset, .unset] rfl ?_
  refine W.iload 26 at_24 rfl rfl ?_
  refine W.if_ne 46 29 at_26 rfl rfl (fun _ => ?_) (fun hc => absurd hc (by decide))
  refine W.iload 48 at_46 rfl rfl ?_
  refine W.iconst 49 at_48 rfl (1 : Int32) rfl ?_
  refine W.icmp_ne 86 52 at_49 rfl rfl (fun _ => ?_) (fun hc => absurd hc (by decide))
  refine W.iload 88 at_86 rfl rfl ?_
  refine W.iconst 89 at_88 rfl (2 : Int32) rfl ?_
  refine W.icmp_ne 109 92 at_89 rfl rfl (fun _ => ?_) (fun hc => absurd hc (by decide))
  refine W.iload 111 at_109 rfl rfl ?_
  refine W.iconst 112 at_111 rfl (3 : Int32) rfl ?_
  refine W.icmp_ne 134 115 at_112 rfl rfl (fun hc => absurd (by decide) hc) (fun _ => ?_)
  refine W.new 118 at_115 rfl (wd_1 hw) (wd_2 hw) (wd_3 hw) (by decide) (by decide) ?_
  intro h2127 o2127 g2127 ge2127 X2127 K2127 E2127 D2127
  have ne2128 : e0 ≠ o2127 := Nat.ne_of_lt (Nat.lt_of_lt_of_eq O0.lt g2127.symm)
  have ne2129 : e1 ≠ o2127 := Nat.ne_of_lt (Nat.lt_of_lt_of_eq O1.lt g2127.symm)
  have ne2130 : e2 ≠ o2127 := Nat.ne_of_lt (Nat.lt_of_lt_of_eq O2.lt g2127.symm)
  have ne2131 : t0 ≠ o2127 := Nat.ne_of_lt (Nat.lt_of_lt_of_eq Et0.lt g2127.symm)
  have ne2132 : t1 ≠ o2127 := Nat.ne_of_lt (Nat.lt_of_lt_of_eq Et1.lt g2127.symm)
  have ne2133 : t2 ≠ o2127 := Nat.ne_of_lt (Nat.lt_of_lt_of_eq Et2.lt g2127.symm)
  have ne2134 : u0 ≠ o2127 := Nat.ne_of_lt (Nat.lt_of_lt_of_eq At0.lt g2127.symm)
  have ne2135 : u1 ≠ o2127 := Nat.ne_of_lt (Nat.lt_of_lt_of_eq At1.lt g2127.symm)
  have ne2136 : u2 ≠ o2127 := Nat.ne_of_lt (Nat.lt_of_lt_of_eq At2.lt g2127.symm)
  have ne2137 : vv ≠ o2127 := Nat.ne_of_lt (Nat.lt_of_lt_of_eq AV.lt g2127.symm)
  have hv2138 := HV.new hv0 K2127 all0 (Nat.le_of_eq g2127.symm)
  have f2139 : Fld _ _ o2127 "java/lang/String" "coder" "B" (.int (0 : Int32)) := D2127 (Or.inr (wd_32 hw)) (ty := .byte) (by decide)
  have f2140 : Fld _ _ o2127 "java/lang/String" "value" "[B" .null := D2127 (Or.inr (wd_34 hw)) (ty := (.array .byte)) (by decide)
  show WG _ _ _ _ _ _ _ _ _ _ _ _ 1 4 118 #[.val (.int p0), .val (.int p1), .val (.int p2), .val (.int p3), .val (.int (1 : Int32)), .val (.int (3 : Int32)), .val (.int (p2 &&& (255 : Int32))), .unset, .unset] [(.ref o2127)]
  refine W.dup 119 at_118 rfl rfl ?_
  refine W.iload 121 at_119 rfl rfl ?_
  refine W.iload 123 at_121 rfl rfl ?_
  refine W.callS (rest := [(.ref o2127), (.ref o2127)]) (argsL := [(.int (1 : Int32)), (.int (p2 &&& (255 : Int32)))]) 126 at_123 rfl (fun hn => c_ext1 l Z a0 hw (p2 &&& (255 : Int32)) _ n0 hn (own_m p2)) (wd_4 hw) (wd_5 hw) (wd_6 hw) (wd_7 hw) (by decide) pd_13 rfl rfl rfl (by decide) 2 (Nat.le_of_ble_eq_true rfl) (by decide) (by decide) (by decide) ?_
  rintro v2141 h2141 ⟨d2141, rfl, sz2141, gd2141, K2141, A2141⟩
  have q2142 := (O0.keep K2127 nin0)
  have ne2143 : e0 ≠ d2141 := Nat.ne_of_lt (Nat.lt_of_lt_of_le q2142.lt sz2141)
  have q2144 := (O1.keep K2127 nin0)
  have ne2145 : e1 ≠ d2141 := Nat.ne_of_lt (Nat.lt_of_lt_of_le q2144.lt sz2141)
  have q2146 := (O2.keep K2127 nin0)
  have ne2147 : e2 ≠ d2141 := Nat.ne_of_lt (Nat.lt_of_lt_of_le q2146.lt sz2141)
  have ne2148 : o2127 ≠ d2141 := Nat.ne_of_lt (Nat.lt_of_lt_of_le E2127.lt sz2141)
  have q2149 := (Et0.keep K2127)
  have ne2150 : t0 ≠ d2141 := Nat.ne_of_lt (Nat.lt_of_lt_of_le q2149.lt sz2141)
  have q2151 := (Et1.keep K2127)
  have ne2152 : t1 ≠ d2141 := Nat.ne_of_lt (Nat.lt_of_lt_of_le q2151.lt sz2141)
  have q2153 := (Et2.keep K2127)
  have ne2154 : t2 ≠ d2141 := Nat.ne_of_lt (Nat.lt_of_lt_of_le q2153.lt sz2141)
  have q2155 := (At0.keep K2127 nin0)
  have ne2156 : u0 ≠ d2141 := Nat.ne_of_lt (Nat.lt_of_lt_of_le q2155.lt sz2141)
  have q2157 := (At1.keep K2127 nin0)
  have ne2158 : u1 ≠ d2141 := Nat.ne_of_lt (Nat.lt_of_lt_of_le q2157.lt sz2141)
  have q2159 := (At2.keep K2127 nin0)
  have ne2160 : u2 ≠ d2141 := Nat.ne_of_lt (Nat.lt_of_lt_of_le q2159.lt sz2141)
  have q2161 := (AV.keep K2127 nin0)
  have ne2162 : vv ≠ d2141 := Nat.ne_of_lt (Nat.lt_of_lt_of_le q2161.lt sz2141)
  have hv2163 := HV.new hv2138 K2141 all0 sz2141
  show WG _ _ _ _ _ _ _ _ _ _ _ _ 2 13 126 #[.val (.int p0), .val (.int p1), .val (.int p2), .val (.int p3), .val (.int (1 : Int32)), .val (.int (3 : Int32)), .val (.int (p2 &&& (255 : Int32))), .unset, .unset] [(.ref d2141), (.ref o2127), (.ref o2127)]
  have q2164 := (Sta.keepN K2141 all0 (Sta.ext X2127 FS))
  have q2165 := (E2127.keep K2141)
  have q2166 := (f2139.keep K2141 nin0)
  have q2167 := (f2140.keep K2141 nin0)
  refine W.callInit (rest := [(.ref o2127)]) (argsL := [(.ref d2141)]) (a := o2127) 129 at_126 rfl (fun hn => c_i1g l Z a0 hw o2127 d2141 kc hkc [(97 : Int32), (100 : Int32), (106 : Int32), (108 : Int32), (105 : Int32), (115 : Int32), (116 : Int32), (p2 &&& (255 : Int32))] _ n0 hn ne2148 ge2127 (chC (ch_k (by decide) (by decide)) (chC (ch_k (by decide) (by decide)) (chC (ch_k (by decide) (by decide)) (chC (ch_k (by decide) (by decide)) (chC (ch_k (by decide) (by decide)) (chC (ch_k (by decide) (by decide)) (chC (ch_k (by decide) (by decide)) (chC (own_m p2) chN)))))))) (Nat.le_of_ble_eq_true rfl) (show ¬ (8 : Nat).toInt32 = 0 by decide) q2164 q2165 q2166 q2167 A2141) rfl (wd_9 hw) (wd_10 hw) (wd_3 hw) (wd_11 hw) (by decide) pd_11 rfl rfl rfl (by decide) 1 (Nat.le_of_ble_eq_true rfl) (by decide) (by decide) (by decide) ?_
  rintro v2168 h2168 ⟨rfl, K2168, b2168, C2168, V2168, A2168⟩
  have hv2169 := HV.keep hv2163 K2168 (allS (List.mem_of_getElem? (i := 1) rfl) all0)
  show WG _ _ _ _ _ _ _ _ _ _ _ _ 3 29 129 #[.val (.int p0), .val (.int p1), .val (.int p2), .val (.int p3), .val (.int (1 : Int32)), .val (.int (3 : Int32)), .val (.int (p2 &&& (255 : Int32))), .unset, .unset] [(.ref o2127)]
  refine W.astore 131 at_129 rfl rfl #[.val (.int p0), .val (.int p1), .val (.int p2), .val (.int p3), .val (.int (1 : Int32)), .val (.int (3 : Int32)), .val (.int (p2 &&& (255 : Int32))), .val (.ref o2127), .unset] rfl ?_
  refine W.goto 173 at_131 rfl ?_
  refine W.aload 175 at_173 rfl rfl rfl ?_
  have q2170 := (Sta.keepN K2168 (allS q2165.nostat all0) q2164)
  have q2171 := (Sta.keepN K2168 (allS q2165.nostat all0) (Sta.keepN K2141 all0 (Sta.ext X2127 SV)))
  have q2172 := (Sta.keepN K2168 (allS q2165.nostat all0) (Sta.keepN K2141 all0 (Sta.ext X2127 S0)))
  have q2173 := (Sta.keepN K2168 (allS q2165.nostat all0) (Sta.keepN K2141 all0 (Sta.ext X2127 S1)))
  have q2174 := (Sta.keepN K2168 (allS q2165.nostat all0) (Sta.keepN K2141 all0 (Sta.ext X2127 S2)))
  have q2175 := ((q2161.keep K2141 nin0).keep K2168 (ninS ne2137 nin0))
  have q2176 := (((EV.keep K2127).keep K2141).keep K2168)
  have q2177 := ((q2142.keep K2141 nin0).keep K2168 (ninS ne2128 nin0))
  have q2178 := ((q2149.keep K2141).keep K2168)
  have q2179 := (((Ct0.keep K2127 nin0).keep K2141 nin0).keep K2168 (ninS ne2131 nin0))
  have q2180 := (((Vt0.keep K2127 nin0).keep K2141 nin0).keep K2168 (ninS ne2131 nin0))
  have q2181 := ((q2155.keep K2141 nin0).keep K2168 (ninS ne2134 nin0))
  have q2182 := ((q2144.keep K2141 nin0).keep K2168 (ninS ne2129 nin0))
  have q2183 := ((q2151.keep K2141).keep K2168)
  have q2184 := (((Ct1.keep K2127 nin0).keep K2141 nin0).keep K2168 (ninS ne2132 nin0))
  have q2185 := (((Vt1.keep K2127 nin0).keep K2141 nin0).keep K2168 (ninS ne2132 nin0))
  have q2186 := ((q2157.keep K2141 nin0).keep K2168 (ninS ne2135 nin0))
  have q2187 := ((q2146.keep K2141 nin0).keep K2168 (ninS ne2130 nin0))
  have q2188 := ((q2153.keep K2141).keep K2168)
  have q2189 := (((Ct2.keep K2127 nin0).keep K2141 nin0).keep K2168 (ninS ne2133 nin0))
  have q2190 := (((Vt2.keep K2127 nin0).keep K2141 nin0).keep K2168 (ninS ne2133 nin0))
  have q2191 := ((q2159.keep K2141 nin0).keep K2168 (ninS ne2136 nin0))
  have q2192 := (q2165.keep K2168)
  refine W.callS (rest := []) (argsL := [(.ref o2127)]) 178 at_175 rfl (fun hn => c_named l Z a0 hw o2127 b2168 kc hkc ([(97 : Int32), (100 : Int32), (106 : Int32), (108 : Int32), (105 : Int32), (115 : Int32), (116 : Int32), (p2 &&& (255 : Int32))].map byteOf) e0 e1 e2 t0 t1 t2 u0 u1 u2 vv _ n0 hn q2170 q2171 q2172 q2173 q2174 q2175 q2176 q2177 q2178 q2179 q2180 q2181 q2182 q2183 q2184 q2185 q2186 q2187 q2188 q2189 q2190 q2191 q2192 C2168 V2168 A2168) (wd_35 hw) (wd_36 hw) (wd_37 hw) (wd_38 hw) (by decide) pd_12 rfl rfl rfl (by decide) 0 (Nat.le_of_ble_eq_true rfl) (by decide) (by decide) (by decide) ?_
  rintro v2193 h2193 (⟨q0_2193, rfl, K2193⟩ | ⟨q0_2193, q1_2193, rfl, K2193⟩ | ⟨q0_2193, q1_2193, q2_2193, rfl, K2193⟩ | ⟨q0_2193, q1_2193, q2_2193, rfl, K2193⟩)
  · have hv2194 := HV.keep hv2169 K2193 all0
    show WG _ _ _ _ _ _ _ _ _ _ _ _ 4 32 178 #[.val (.int p0), .val (.int p1), .val (.int p2), .val (.int p3), .val (.int (1 : Int32)), .val (.int (3 : Int32)), .val (.int (p2 &&& (255 : Int32))), .val (.ref o2127), .unset] [(.ref e0)]
    refine W.astore 180 at_178 rfl rfl #[.val (.int p0), .val (.int p1), .val (.int p2), .val (.int p3), .val (.int (1 : Int32)), .val (.int (3 : Int32)), .val (.int (p2 &&& (255 : Int32))), .val (.ref o2127), .val (.ref e0)] rfl ?_
    refine W.aload 182 at_180 rfl rfl rfl ?_
    refine W.aload 184 at_182 rfl rfl rfl ?_
    have q2195 := (Sta.keepN K2193 all0 q2170)
    have q2196 := (Sta.keepN K2193 all0 q2172)
    have q2197 := (Sta.keepN K2193 all0 q2173)
    have q2198 := (Sta.keepN K2193 all0 q2174)
    have q2199 := (q2192.keep K2193)
    have q2200 := (C2168.keep K2193 nin0)
    have q2201 := (V2168.keep K2193 nin0)
    have q2202 := (A2168.keep K2193 nin0)
    have q2204 := ((A2141.keep K2168 (ninS (Ne.symm ne2148) nin0)).keep K2193 nin0)
    refine W.callSX (rest := [(.ref e0)]) (argsL := [(.ref o2127)]) 187 at_184 rfl (fun hn => c_exp0 l Z a0 hw o2127 b2168 kc hkc ([(97 : Int32), (100 : Int32), (106 : Int32), (108 : Int32), (105 : Int32), (115 : Int32), (116 : Int32), (p2 &&& (255 : Int32))].map byteOf) e0 e1 e2 _ n0 hn q2195 q2196 q2197 q2198 q2199 q2200 q2201 q2202 q0_2193) (wd_69 hw) (wd_70 hw) (wd_6 hw) (wd_71 hw) (by decide) pd_12 rfl rfl rfl (by decide) 1 (Nat.le_of_ble_eq_true rfl) (by decide) (by decide) (by decide) (own_EL hw) hv2194 (allS q2204.lt (allS q2199.lt all0)) all0 ?_
    rintro v2203 h2203 rfl
    have hv2203 := HV.here (Z := Z) (EL := consts_1) (h := h2203) (S := [d2141, o2127])
    show WG _ _ _ _ _ _ _ _ _ _ _ _ 10 128 187 #[.val (.int p0), .val (.int p1), .val (.int p2), .val (.int p3), .val (.int (1 : Int32)), .val (.int (3 : Int32)), .val (.int (p2 &&& (255 : Int32))), .val (.ref o2127), .val (.ref e0)] [(.ref e0), (.ref e0)]
    refine W.acmp_ne 194 190 at_187 rfl rfl rfl rfl (fun hc => absurd rfl hc) (fun _ => ?_)
    refine W.iconst 191 at_190 rfl (1 : Int32) rfl ?_
    refine W.goto 195 at_191 rfl ?_
    refine WG.retX (own_EL hw) hv2203 ?_
    exact W.ireturnN (t := .boolean) at_195 rfl (by simp) (1 : Int32) rfl ⟨rfl, rfl⟩ (by decide) (by decide)
  · have hv2205 := HV.keep hv2169 K2193 all0
    show WG _ _ _ _ _ _ _ _ _ _ _ _ 4 32 178 #[.val (.int p0), .val (.int p1), .val (.int p2), .val (.int p3), .val (.int (1 : Int32)), .val (.int (3 : Int32)), .val (.int (p2 &&& (255 : Int32))), .val (.ref o2127), .unset] [(.ref e1)]
    refine W.astore 180 at_178 rfl rfl #[.val (.int p0), .val (.int p1), .val (.int p2), .val (.int p3), .val (.int (1 : Int32)), .val (.int (3 : Int32)), .val (.int (p2 &&& (255 : Int32))), .val (.ref o2127), .val (.ref e1)] rfl ?_
    refine W.aload 182 at_180 rfl rfl rfl ?_
    refine W.aload 184 at_182 rfl rfl rfl ?_
    have q2206 := (Sta.keepN K2193 all0 q2170)
    have q2207 := (Sta.keepN K2193 all0 q2172)
    have q2208 := (Sta.keepN K2193 all0 q2173)
    have q2209 := (Sta.keepN K2193 all0 q2174)
    have q2210 := (q2192.keep K2193)
    have q2211 := (C2168.keep K2193 nin0)
    have q2212 := (V2168.keep K2193 nin0)
    have q2213 := (A2168.keep K2193 nin0)
    have q2215 := ((A2141.keep K2168 (ninS (Ne.symm ne2148) nin0)).keep K2193 nin0)
    refine W.callSX (rest := [(.ref e1)]) (argsL := [(.ref o2127)]) 187 at_184 rfl (fun hn => c_exp1 l Z a0 hw o2127 b2168 kc hkc ([(97 : Int32), (100 : Int32), (106 : Int32), (108 : Int32), (105 : Int32), (115 : Int32), (116 : Int32), (p2 &&& (255 : Int32))].map byteOf) e0 e1 e2 _ n0 hn q2206 q2207 q2208 q2209 q2210 q2211 q2212 q2213 q0_2193 q1_2193) (wd_69 hw) (wd_70 hw) (wd_6 hw) (wd_71 hw) (by decide) pd_12 rfl rfl rfl (by decide) 1 (Nat.le_of_ble_eq_true rfl) (by decide) (by decide) (by decide) (own_EL hw) hv2205 (allS q2215.lt (allS q2210.lt all0)) all0 ?_
    rintro v2214 h2214 rfl
    have hv2214 := HV.here (Z := Z) (EL := consts_1) (h := h2214) (S := [d2141, o2127])
    show WG _ _ _ _ _ _ _ _ _ _ _ _ 10 128 187 #[.val (.int p0), .val (.int p1), .val (.int p2), .val (.int p3), .val (.int (1 : Int32)), .val (.int (3 : Int32)), .val (.int (p2 &&& (255 : Int32))), .val (.ref o2127), .val (.ref e1)] [(.ref e1), (.ref e1)]
    refine W.acmp_ne 194 190 at_187 rfl rfl rfl rfl (fun hc => absurd rfl hc) (fun _ => ?_)
    refine W.iconst 191 at_190 rfl (1 : Int32) rfl ?_
    refine W.goto 195 at_191 rfl ?_
    refine WG.retX (own_EL hw) hv2214 ?_
    exact W.ireturnN (t := .boolean) at_195 rfl (by simp) (1 : Int32) rfl ⟨rfl, rfl⟩ (by decide) (by decide)
  · have hv2216 := HV.keep hv2169 K2193 all0
    show WG _ _ _ _ _ _ _ _ _ _ _ _ 4 32 178 #[.val (.int p0), .val (.int p1), .val (.int p2), .val (.int p3), .val (.int (1 : Int32)), .val (.int (3 : Int32)), .val (.int (p2 &&& (255 : Int32))), .val (.ref o2127), .unset] [(.ref e2)]
    refine W.astore 180 at_178 rfl rfl #[.val (.int p0), .val (.int p1), .val (.int p2), .val (.int p3), .val (.int (1 : Int32)), .val (.int (3 : Int32)), .val (.int (p2 &&& (255 : Int32))), .val (.ref o2127), .val (.ref e2)] rfl ?_
    refine W.aload 182 at_180 rfl rfl rfl ?_
    refine W.aload 184 at_182 rfl rfl rfl ?_
    have q2217 := (Sta.keepN K2193 all0 q2170)
    have q2218 := (Sta.keepN K2193 all0 q2172)
    have q2219 := (Sta.keepN K2193 all0 q2173)
    have q2220 := (Sta.keepN K2193 all0 q2174)
    have q2221 := (q2192.keep K2193)
    have q2222 := (C2168.keep K2193 nin0)
    have q2223 := (V2168.keep K2193 nin0)
    have q2224 := (A2168.keep K2193 nin0)
    have q2226 := ((A2141.keep K2168 (ninS (Ne.symm ne2148) nin0)).keep K2193 nin0)
    refine W.callSX (rest := [(.ref e2)]) (argsL := [(.ref o2127)]) 187 at_184 rfl (fun hn => c_exp2 l Z a0 hw o2127 b2168 kc hkc ([(97 : Int32), (100 : Int32), (106 : Int32), (108 : Int32), (105 : Int32), (115 : Int32), (116 : Int32), (p2 &&& (255 : Int32))].map byteOf) e0 e1 e2 _ n0 hn q2217 q2218 q2219 q2220 q2221 q2222 q2223 q2224 q0_2193 q1_2193 q2_2193) (wd_69 hw) (wd_70 hw) (wd_6 hw) (wd_71 hw) (by decide) pd_12 rfl rfl rfl (by decide) 1 (Nat.le_of_ble_eq_true rfl) (by decide) (by decide) (by decide) (own_EL hw) hv2216 (allS q2226.lt (allS q2221.lt all0)) all0 ?_
    rintro v2225 h2225 rfl
    have hv2225 := HV.here (Z := Z) (EL := consts_1) (h := h2225) (S := [d2141, o2127])
    show WG _ _ _ _ _ _ _ _ _ _ _ _ 10 128 187 #[.val (.int p0), .val (.int p1), .val (.int p2), .val (.int p3), .val (.int (1 : Int32)), .val (.int (3 : Int32)), .val (.int (p2 &&& (255 : Int32))), .val (.ref o2127), .val (.ref e2)] [(.ref e2), (.ref e2)]
    refine W.acmp_ne 194 190 at_187 rfl rfl rfl rfl (fun hc => absurd rfl hc) (fun _ => ?_)
    refine W.iconst 191 at_190 rfl (1 : Int32) rfl ?_
    refine W.goto 195 at_191 rfl ?_
    refine WG.retX (own_EL hw) hv2225 ?_
    exact W.ireturnN (t := .boolean) at_195 rfl (by simp) (1 : Int32) rfl ⟨rfl, rfl⟩ (by decide) (by decide)
  · have hv2227 := HV.keep hv2169 K2193 all0
    show WG _ _ _ _ _ _ _ _ _ _ _ _ 4 32 178 #[.val (.int p0), .val (.int p1), .val (.int p2), .val (.int p3), .val (.int (1 : Int32)), .val (.int (3 : Int32)), .val (.int (p2 &&& (255 : Int32))), .val (.ref o2127), .unset] [.null]
    refine W.astore 180 at_178 rfl rfl #[.val (.int p0), .val (.int p1), .val (.int p2), .val (.int p3), .val (.int (1 : Int32)), .val (.int (3 : Int32)), .val (.int (p2 &&& (255 : Int32))), .val (.ref o2127), .val .null] rfl ?_
    refine W.aload 182 at_180 rfl rfl rfl ?_
    refine W.aload 184 at_182 rfl rfl rfl ?_
    have q2228 := (Sta.keepN K2193 all0 q2170)
    have q2229 := (Sta.keepN K2193 all0 q2172)
    have q2230 := (Sta.keepN K2193 all0 q2173)
    have q2231 := (Sta.keepN K2193 all0 q2174)
    have q2232 := (q2192.keep K2193)
    have q2233 := (C2168.keep K2193 nin0)
    have q2234 := (V2168.keep K2193 nin0)
    have q2235 := (A2168.keep K2193 nin0)
    have q2237 := ((A2141.keep K2168 (ninS (Ne.symm ne2148) nin0)).keep K2193 nin0)
    refine W.callSX (rest := [.null]) (argsL := [(.ref o2127)]) 187 at_184 rfl (fun hn => c_exp3 l Z a0 hw o2127 b2168 kc hkc ([(97 : Int32), (100 : Int32), (106 : Int32), (108 : Int32), (105 : Int32), (115 : Int32), (116 : Int32), (p2 &&& (255 : Int32))].map byteOf) e0 e1 e2 _ n0 hn q2228 q2229 q2230 q2231 q2232 q2233 q2234 q2235 q0_2193 q1_2193 q2_2193) (wd_69 hw) (wd_70 hw) (wd_6 hw) (wd_71 hw) (by decide) pd_12 rfl rfl rfl (by decide) 1 (Nat.le_of_ble_eq_true rfl) (by decide) (by decide) (by decide) (own_EL hw) hv2227 (allS q2237.lt (allS q2232.lt all0)) all0 ?_
    rintro v2236 h2236 rfl
    have hv2236 := HV.here (Z := Z) (EL := consts_1) (h := h2236) (S := [d2141, o2127])
    show WG _ _ _ _ _ _ _ _ _ _ _ _ 10 128 187 #[.val (.int p0), .val (.int p1), .val (.int p2), .val (.int p3), .val (.int (1 : Int32)), .val (.int (3 : Int32)), .val (.int (p2 &&& (255 : Int32))), .val (.ref o2127), .val .null] [.null, .null]
    refine W.acmp_ne 194 190 at_187 rfl rfl rfl rfl (fun hc => absurd rfl hc) (fun _ => ?_)
    refine W.iconst 191 at_190 rfl (1 : Int32) rfl ?_
    refine W.goto 195 at_191 rfl ?_
    refine WG.retX (own_EL hw) hv2236 ?_
    exact W.ireturnN (t := .boolean) at_195 rfl (by simp) (1 : Int32) rfl ⟨rfl, rfl⟩ (by decide) (by decide)
theorem law_14 (l : Launch) (Z : State) (a0 : Array Value) (hw : HwT Z a0) (p0 p1 p2 p3 : Int32) (kc : Int32) (hkc : ¬ kc = 0) (e0 e1 e2 t0 t1 t2 u0 u1 u2 vv : Addr) (h : Heap) (n0 : Nat) (hn : n0 ≤ h.size) (FS : Sta Z h "java/lang/String" "COMPACT_STRINGS" "Z" (.int kc)) (SV : Sta Z h "com/example/eccentra/eccentra/GraphFormat" "$VALUES" "[Lcom/example/eccentra/eccentra/GraphFormat;" (.ref vv)) (S0 : Sta Z h "com/example/eccentra/eccentra/GraphFormat" "EDGELIST" "Lcom/example/eccentra/eccentra/GraphFormat;" (.ref e0)) (S1 : Sta Z h "com/example/eccentra/eccentra/GraphFormat" "ADJLIST" "Lcom/example/eccentra/eccentra/GraphFormat;" (.ref e1)) (S2 : Sta Z h "com/example/eccentra/eccentra/GraphFormat" "MTX" "Lcom/example/eccentra/eccentra/GraphFormat;" (.ref e2)) (AV : Ary Z h vv (.object "com/example/eccentra/eccentra/GraphFormat") [.ref e0, .ref e1, .ref e2]) (EV : Exa Z h vv "[Lcom/example/eccentra/eccentra/GraphFormat;") (O0 : Fld Z h e0 "com/example/eccentra/eccentra/GraphFormat" "optionValue" "Ljava/lang/String;" (.ref t0)) (Et0 : Exa Z h t0 "java/lang/String") (Ct0 : Fld Z h t0 "java/lang/String" "coder" "B" (.int 0)) (Vt0 : Fld Z h t0 "java/lang/String" "value" "[B" (.ref u0)) (At0 : Ary Z h u0 .byte [(.int (101 : Int32)), (.int (100 : Int32)), (.int (103 : Int32)), (.int (101 : Int32)), (.int (108 : Int32)), (.int (105 : Int32)), (.int (115 : Int32)), (.int (116 : Int32))]) (O1 : Fld Z h e1 "com/example/eccentra/eccentra/GraphFormat" "optionValue" "Ljava/lang/String;" (.ref t1)) (Et1 : Exa Z h t1 "java/lang/String") (Ct1 : Fld Z h t1 "java/lang/String" "coder" "B" (.int 0)) (Vt1 : Fld Z h t1 "java/lang/String" "value" "[B" (.ref u1)) (At1 : Ary Z h u1 .byte [(.int (97 : Int32)), (.int (100 : Int32)), (.int (106 : Int32)), (.int (108 : Int32)), (.int (105 : Int32)), (.int (115 : Int32)), (.int (116 : Int32))]) (O2 : Fld Z h e2 "com/example/eccentra/eccentra/GraphFormat" "optionValue" "Ljava/lang/String;" (.ref t2)) (Et2 : Exa Z h t2 "java/lang/String") (Ct2 : Fld Z h t2 "java/lang/String" "coder" "B" (.int 0)) (Vt2 : Fld Z h t2 "java/lang/String" "value" "[B" (.ref u2)) (At2 : Ary Z h u2 .byte [(.int (109 : Int32)), (.int (116 : Int32)), (.int (120 : Int32))]) (ek : (p0 &&& 2147483647) % 3 = 1) (em : (p1 &&& 2147483647) % 5 = 4) : ConX Z consts_1 [] tables_1 l x code maxLocals ret room_1 #[(.int p0), (.int p1), (.int p2), (.int p3)] h n0 (fun v _ => v = some (.int 1)) := by
  refine ConX.of_W (Ls := #[.val (.int p0), .val (.int p1), .val (.int p2), .val (.int p3), .unset, .unset, .unset, .unset, .unset]) (plainFor_of_name pn_3) hn (fun m => by first | (simp [entryFrame, mkF, argsToLocals, Value.category, maxLocals]; done) | rfl) ?_
  have hv0 := HV.here (Z := Z) (EL := consts_1) (h := h) (S := [])
  refine W.iloadN 1 at_0 rfl rfl ?_
  refine W.ldcI 3 at_1 rfl (wd_0 hw) ?_
  refine W.iand 4 at_3 rfl (p0 &&& (2147483647 : Int32)) rfl ?_
  refine W.iconst 5 at_4 rfl (3 : Int32) rfl ?_
  refine W.irem 6 at_5 rfl (by decide) (1 : Int32) ek ?_
  refine W.istore 8 at_6 rfl #[.val (.int p0), .val (.int p1), .val (.int p2), .val (.int p3), .val (.int (1 : Int32)), .unset, .unset, .unset, .unset] rfl ?_
  refine W.iloadN 9 at_8 rfl rfl ?_
  refine W.ldcI 11 at_9 rfl (wd_0 hw) ?_
  refine W.iand 12 at_11 rfl (p1 &&& (2147483647 : Int32)) rfl ?_
  refine W.iconst 13 at_12 rfl (5 : Int32) rfl ?_
  refine W.irem 14 at_13 rfl (by decide) (4 : Int32) em ?_
  refine W.istore 16 at_14 rfl #[.val (.int p0), .val (.int p1), .val (.int p2), .val (.int p3), .val (.int (1 : Int32)), .val (.int (4 : Int32)), .unset, .unset, .unset] rfl ?_
  refine W.iloadN 17 at_16 rfl rfl ?_
  refine W.sipush 20 at_17 rfl (255 : Int32) rfl ?_
  refine W.iand 21 at_20 rfl (p2 &&& (255 : Int32)) rfl ?_
  refine W.i2c 22 at_21 rfl (p2 &&& (255 : Int32)) (ch_nar (own_m p2)) ?_
  refine W.istore 24 at_22 rfl #[.val (.int p0), .val (.int p1), .val (.int p2), .val (.int p3), .val (.int (1 : Int32)), .val (.int (4 : Int32)), .val (.int (p2 &&& (255 : Int32))), .unset, .unset] rfl ?_
  refine W.iload 26 at_24 rfl rfl ?_
  refine W.if_ne 46 29 at_26 rfl rfl (fun _ => ?_) (fun hc => absurd hc (by decide))
  refine W.iload 48 at_46 rfl rfl ?_
  refine W.iconst 49 at_48 rfl (1 : Int32) rfl ?_
  refine W.icmp_ne 86 52 at_49 rfl rfl (fun _ => ?_) (fun hc => absurd hc (by decide))
  refine W.iload 88 at_86 rfl rfl ?_
  refine W.iconst 89 at_88 rfl (2 : Int32) rfl ?_
  refine W.icmp_ne 109 92 at_89 rfl rfl (fun _ => ?_) (fun hc => absurd hc (by decide))
  refine W.iload 111 at_109 rfl rfl ?_
  refine W.iconst 112 at_111 rfl (3 : Int32) rfl ?_
  refine W.icmp_ne 134 115 at_112 rfl rfl (fun _ => ?_) (fun hc => absurd hc (by decide))
  refine W.iload 136 at_134 rfl rfl ?_
  refine W.if_ne 145 139 at_136 rfl rfl (fun _ => ?_) (fun hc => absurd hc (by decide))
  refine W.iload 147 at_145 rfl rfl ?_
  refine W.iconst 148 at_147 rfl (1 : Int32) rfl ?_
  refine W.icmp_ne 166 151 at_148 rfl rfl (fun hc => absurd (by decide) hc) (fun _ => ?_)
  refine W.new 154 at_151 rfl (wd_1 hw) (wd_2 hw) (wd_3 hw) (by decide) (by decide) ?_
  intro h2238 o2238 g2238 ge2238 X2238 K2238 E2238 D2238
  have ne2239 : e0 ≠ o2238 := Nat.ne_of_lt (Nat.lt_of_lt_of_eq O0.lt g2238.symm)
  have ne2240 : e1 ≠ o2238 := Nat.ne_of_lt (Nat.lt_of_lt_of_eq O1.lt g2238.symm)
  have ne2241 : e2 ≠ o2238 := Nat.ne_of_lt (Nat.lt_of_lt_of_eq O2.lt g2238.symm)
  have ne2242 : t0 ≠ o2238 := Nat.ne_of_lt (Nat.lt_of_lt_of_eq Et0.lt g2238.symm)
  have ne2243 : t1 ≠ o2238 := Nat.ne_of_lt (Nat.lt_of_lt_of_eq Et1.lt g2238.symm)
  have ne2244 : t2 ≠ o2238 := Nat.ne_of_lt (Nat.lt_of_lt_of_eq Et2.lt g2238.symm)
  have ne2245 : u0 ≠ o2238 := Nat.ne_of_lt (Nat.lt_of_lt_of_eq At0.lt g2238.symm)
  have ne2246 : u1 ≠ o2238 := Nat.ne_of_lt (Nat.lt_of_lt_of_eq At1.lt g2238.symm)
  have ne2247 : u2 ≠ o2238 := Nat.ne_of_lt (Nat.lt_of_lt_of_eq At2.lt g2238.symm)
  have ne2248 : vv ≠ o2238 := Nat.ne_of_lt (Nat.lt_of_lt_of_eq AV.lt g2238.symm)
  have hv2249 := HV.new hv0 K2238 all0 (Nat.le_of_eq g2238.symm)
  have f2250 : Fld _ _ o2238 "java/lang/String" "coder" "B" (.int (0 : Int32)) := D2238 (Or.inr (wd_32 hw)) (ty := .byte) (by decide)
  have f2251 : Fld _ _ o2238 "java/lang/String" "value" "[B" .null := D2238 (Or.inr (wd_34 hw)) (ty := (.array .byte)) (by decide)
  show WG _ _ _ _ _ _ _ _ _ _ _ _ 1 4 154 #[.val (.int p0), .val (.int p1), .val (.int p2), .val (.int p3), .val (.int (1 : Int32)), .val (.int (4 : Int32)), .val (.int (p2 &&& (255 : Int32))), .unset, .unset] [(.ref o2238)]
  refine W.dup 155 at_154 rfl rfl ?_
  refine W.iconst 156 at_155 rfl (0 : Int32) rfl ?_
  refine W.newarray 158 at_156 rfl (wd_8 hw) rfl (by decide) 0 0 (by decide) (by decide) (by decide) (by decide) (by decide) rfl ?_
  intro h2252 b2252 g2252 ge2252 X2252 K2252 A2252
  have q2253 := (O0.keep K2238 nin0)
  have ne2254 : e0 ≠ b2252 := Nat.ne_of_lt (Nat.lt_of_lt_of_eq q2253.lt g2252.symm)
  have q2255 := (O1.keep K2238 nin0)
  have ne2256 : e1 ≠ b2252 := Nat.ne_of_lt (Nat.lt_of_lt_of_eq q2255.lt g2252.symm)
  have q2257 := (O2.keep K2238 nin0)
  have ne2258 : e2 ≠ b2252 := Nat.ne_of_lt (Nat.lt_of_lt_of_eq q2257.lt g2252.symm)
  have ne2259 : o2238 ≠ b2252 := Nat.ne_of_lt (Nat.lt_of_lt_of_eq E2238.lt g2252.symm)
  have q2260 := (Et0.keep K2238)
  have ne2261 : t0 ≠ b2252 := Nat.ne_of_lt (Nat.lt_of_lt_of_eq q2260.lt g2252.symm)
  have q2262 := (Et1.keep K2238)
  have ne2263 : t1 ≠ b2252 := Nat.ne_of_lt (Nat.lt_of_lt_of_eq q2262.lt g2252.symm)
  have q2264 := (Et2.keep K2238)
  have ne2265 : t2 ≠ b2252 := Nat.ne_of_lt (Nat.lt_of_lt_of_eq q2264.lt g2252.symm)
  have q2266 := (At0.keep K2238 nin0)
  have ne2267 : u0 ≠ b2252 := Nat.ne_of_lt (Nat.lt_of_lt_of_eq q2266.lt g2252.symm)
  have q2268 := (At1.keep K2238 nin0)
  have ne2269 : u1 ≠ b2252 := Nat.ne_of_lt (Nat.lt_of_lt_of_eq q2268.lt g2252.symm)
  have q2270 := (At2.keep K2238 nin0)
  have ne2271 : u2 ≠ b2252 := Nat.ne_of_lt (Nat.lt_of_lt_of_eq q2270.lt g2252.symm)
  have q2272 := (AV.keep K2238 nin0)
  have ne2273 : vv ≠ b2252 := Nat.ne_of_lt (Nat.lt_of_lt_of_eq q2272.lt g2252.symm)
  have hv2274 := HV.new hv2249 K2252 all0 (Nat.le_of_eq g2252.symm)
  have A2252 : Ary _ _ b2252 .char [] := A2252
  show WG _ _ _ _ _ _ _ _ _ _ _ _ 2 4 158 #[.val (.int p0), .val (.int p1), .val (.int p2), .val (.int p3), .val (.int (1 : Int32)), .val (.int (4 : Int32)), .val (.int (p2 &&& (255 : Int32))), .unset, .unset] [(.ref b2252), (.ref o2238), (.ref o2238)]
  have q2275 := (Sta.ext X2252 (Sta.ext X2238 FS))
  have q2276 := (E2238.keep K2252)
  have q2277 := (f2250.keep K2252 nin0)
  have q2278 := (f2251.keep K2252 nin0)
  refine W.callInitX (rest := [(.ref o2238)]) (argsL := [(.ref b2252)]) (a := o2238) 161 at_158 rfl (fun hn => c_i10 l Z a0 hw o2238 b2252 kc hkc  _ n0 hn ne2259 ge2238 q2275 q2276 q2277 q2278 A2252 ) rfl (wd_9 hw) (wd_10 hw) (wd_3 hw) (wd_11 hw) (by decide) pd_11 rfl rfl rfl (by decide) 1 (Nat.le_of_ble_eq_true rfl) (by decide) (by decide) (by decide) (own_EL hw) hv2274 (allS A2252.lt (allS q2276.lt all0)) (allS (List.mem_of_getElem? (i := 1) rfl) all0) ?_
  rintro v2279 h2279 ⟨rfl, K2279, b2279, C2279, V2279, A2279⟩
  have hv2279 := HV.here (Z := Z) (EL := consts_1) (h := h2279) (S := [b2252, o2238])
  show WG _ _ _ _ _ _ _ _ _ _ _ _ 6 12 161 #[.val (.int p0), .val (.int p1), .val (.int p2), .val (.int p3), .val (.int (1 : Int32)), .val (.int (4 : Int32)), .val (.int (p2 &&& (255 : Int32))), .unset, .unset] [(.ref o2238)]
  refine W.astore 163 at_161 rfl rfl #[.val (.int p0), .val (.int p1), .val (.int p2), .val (.int p3), .val (.int (1 : Int32)), .val (.int (4 : Int32)), .val (.int (p2 &&& (255 : Int32))), .val (.ref o2238), .unset] rfl ?_
  refine W.goto 173 at_163 rfl ?_
  refine W.aload 175 at_173 rfl rfl rfl ?_
  have q2280 := (Sta.keepN K2279 (allS q2276.nostat all0) q2275)
  have q2281 := (Sta.keepN K2279 (allS q2276.nostat all0) (Sta.ext X2252 (Sta.ext X2238 SV)))
  have q2282 := (Sta.keepN K2279 (allS q2276.nostat all0) (Sta.ext X2252 (Sta.ext X2238 S0)))
  have q2283 := (Sta.keepN K2279 (allS q2276.nostat all0) (Sta.ext X2252 (Sta.ext X2238 S1)))
  have q2284 := (Sta.keepN K2279 (allS q2276.nostat all0) (Sta.ext X2252 (Sta.ext X2238 S2)))
  have q2285 := ((q2272.keep K2252 nin0).keep K2279 (ninS ne2248 nin0))
  have q2286 := (((EV.keep K2238).keep K2252).keep K2279)
  have q2287 := ((q2253.keep K2252 nin0).keep K2279 (ninS ne2239 nin0))
  have q2288 := ((q2260.keep K2252).keep K2279)
  have q2289 := (((Ct0.keep K2238 nin0).keep K2252 nin0).keep K2279 (ninS ne2242 nin0))
  have q2290 := (((Vt0.keep K2238 nin0).keep K2252 nin0).keep K2279 (ninS ne2242 nin0))
  have q2291 := ((q2266.keep K2252 nin0).keep K2279 (ninS ne2245 nin0))
  have q2292 := ((q2255.keep K2252 nin0).keep K2279 (ninS ne2240 nin0))
  have q2293 := ((q2262.keep K2252).keep K2279)
  have q2294 := (((Ct1.keep K2238 nin0).keep K2252 nin0).keep K2279 (ninS ne2243 nin0))
  have q2295 := (((Vt1.keep K2238 nin0).keep K2252 nin0).keep K2279 (ninS ne2243 nin0))
  have q2296 := ((q2268.keep K2252 nin0).keep K2279 (ninS ne2246 nin0))
  have q2297 := ((q2257.keep K2252 nin0).keep K2279 (ninS ne2241 nin0))
  have q2298 := ((q2264.keep K2252).keep K2279)
  have q2299 := (((Ct2.keep K2238 nin0).keep K2252 nin0).keep K2279 (ninS ne2244 nin0))
  have q2300 := (((Vt2.keep K2238 nin0).keep K2252 nin0).keep K2279 (ninS ne2244 nin0))
  have q2301 := ((q2270.keep K2252 nin0).keep K2279 (ninS ne2247 nin0))
  have q2302 := (q2276.keep K2279)
  refine W.callS (rest := []) (argsL := [(.ref o2238)]) 178 at_175 rfl (fun hn => c_named l Z a0 hw o2238 b2279 kc hkc [] e0 e1 e2 t0 t1 t2 u0 u1 u2 vv _ n0 hn q2280 q2281 q2282 q2283 q2284 q2285 q2286 q2287 q2288 q2289 q2290 q2291 q2292 q2293 q2294 q2295 q2296 q2297 q2298 q2299 q2300 q2301 q2302 C2279 V2279 A2279) (wd_35 hw) (wd_36 hw) (wd_37 hw) (wd_38 hw) (by decide) pd_12 rfl rfl rfl (by decide) 0 (Nat.le_of_ble_eq_true rfl) (by decide) (by decide) (by decide) ?_
  rintro v2303 h2303 (⟨q0_2303, rfl, K2303⟩ | ⟨q0_2303, q1_2303, rfl, K2303⟩ | ⟨q0_2303, q1_2303, q2_2303, rfl, K2303⟩ | ⟨q0_2303, q1_2303, q2_2303, rfl, K2303⟩)
  · have hv2304 := HV.keep hv2279 K2303 all0
    show WG _ _ _ _ _ _ _ _ _ _ _ _ 7 15 178 #[.val (.int p0), .val (.int p1), .val (.int p2), .val (.int p3), .val (.int (1 : Int32)), .val (.int (4 : Int32)), .val (.int (p2 &&& (255 : Int32))), .val (.ref o2238), .unset] [(.ref e0)]
    refine W.astore 180 at_178 rfl rfl #[.val (.int p0), .val (.int p1), .val (.int p2), .val (.int p3), .val (.int (1 : Int32)), .val (.int (4 : Int32)), .val (.int (p2 &&& (255 : Int32))), .val (.ref o2238), .val (.ref e0)] rfl ?_
    refine W.aload 182 at_180 rfl rfl rfl ?_
    refine W.aload 184 at_182 rfl rfl rfl ?_
    have q2305 := (Sta.keepN K2303 all0 q2280)
    have q2306 := (Sta.keepN K2303 all0 q2282)
    have q2307 := (Sta.keepN K2303 all0 q2283)
    have q2308 := (Sta.keepN K2303 all0 q2284)
    have q2309 := (q2302.keep K2303)
    have q2310 := (C2279.keep K2303 nin0)
    have q2311 := (V2279.keep K2303 nin0)
    have q2312 := (A2279.keep K2303 nin0)
    have q2314 := ((A2252.keep K2279 (ninS (Ne.symm ne2259) nin0)).keep K2303 nin0)
    refine W.callSX (rest := [(.ref e0)]) (argsL := [(.ref o2238)]) 187 at_184 rfl (fun hn => c_exp0 l Z a0 hw o2238 b2279 kc hkc [] e0 e1 e2 _ n0 hn q2305 q2306 q2307 q2308 q2309 q2310 q2311 q2312 q0_2303) (wd_69 hw) (wd_70 hw) (wd_6 hw) (wd_71 hw) (by decide) pd_12 rfl rfl rfl (by decide) 1 (Nat.le_of_ble_eq_true rfl) (by decide) (by decide) (by decide) (own_EL hw) hv2304 (allS q2314.lt (allS q2309.lt all0)) all0 ?_
    rintro v2313 h2313 rfl
    have hv2313 := HV.here (Z := Z) (EL := consts_1) (h := h2313) (S := [b2252, o2238])
    show WG _ _ _ _ _ _ _ _ _ _ _ _ 13 111 187 #[.val (.int p0), .val (.int p1), .val (.int p2), .val (.int p3), .val (.int (1 : Int32)), .val (.int (4 : Int32)), .val (.int (p2 &&& (255 : Int32))), .val (.ref o2238), .val (.ref e0)] [(.ref e0), (.ref e0)]
    refine W.acmp_ne 194 190 at_187 rfl rfl rfl rfl (fun hc => absurd rfl hc) (fun _ => ?_)
    refine W.iconst 191 at_190 rfl (1 : Int32) rfl ?_
    refine W.goto 195 at_191 rfl ?_
    refine WG.retX (own_EL hw) hv2313 ?_
    exact W.ireturnN (t := .boolean) at_195 rfl (by simp) (1 : Int32) rfl ⟨rfl, rfl⟩ (by decide) (by decide)
  · have hv2315 := HV.keep hv2279 K2303 all0
    show WG _ _ _ _ _ _ _ _ _ _ _ _ 7 15 178 #[.val (.int p0), .val (.int p1), .val (.int p2), .val (.int p3), .val (.int (1 : Int32)), .val (.int (4 : Int32)), .val (.int (p2 &&& (255 : Int32))), .val (.ref o2238), .unset] [(.ref e1)]
    refine W.astore 180 at_178 rfl rfl #[.val (.int p0), .val (.int p1), .val (.int p2), .val (.int p3), .val (.int (1 : Int32)), .val (.int (4 : Int32)), .val (.int (p2 &&& (255 : Int32))), .val (.ref o2238), .val (.ref e1)] rfl ?_
    refine W.aload 182 at_180 rfl rfl rfl ?_
    refine W.aload 184 at_182 rfl rfl rfl ?_
    have q2316 := (Sta.keepN K2303 all0 q2280)
    have q2317 := (Sta.keepN K2303 all0 q2282)
    have q2318 := (Sta.keepN K2303 all0 q2283)
    have q2319 := (Sta.keepN K2303 all0 q2284)
    have q2320 := (q2302.keep K2303)
    have q2321 := (C2279.keep K2303 nin0)
    have q2322 := (V2279.keep K2303 nin0)
    have q2323 := (A2279.keep K2303 nin0)
    have q2325 := ((A2252.keep K2279 (ninS (Ne.symm ne2259) nin0)).keep K2303 nin0)
    refine W.callSX (rest := [(.ref e1)]) (argsL := [(.ref o2238)]) 187 at_184 rfl (fun hn => c_exp1 l Z a0 hw o2238 b2279 kc hkc [] e0 e1 e2 _ n0 hn q2316 q2317 q2318 q2319 q2320 q2321 q2322 q2323 q0_2303 q1_2303) (wd_69 hw) (wd_70 hw) (wd_6 hw) (wd_71 hw) (by decide) pd_12 rfl rfl rfl (by decide) 1 (Nat.le_of_ble_eq_true rfl) (by decide) (by decide) (by decide) (own_EL hw) hv2315 (allS q2325.lt (allS q2320.lt all0)) all0 ?_
    rintro v2324 h2324 rfl
    have hv2324 := HV.here (Z := Z) (EL := consts_1) (h := h2324) (S := [b2252, o2238])
    show WG _ _ _ _ _ _ _ _ _ _ _ _ 13 111 187 #[.val (.int p0), .val (.int p1), .val (.int p2), .val (.int p3), .val (.int (1 : Int32)), .val (.int (4 : Int32)), .val (.int (p2 &&& (255 : Int32))), .val (.ref o2238), .val (.ref e1)] [(.ref e1), (.ref e1)]
    refine W.acmp_ne 194 190 at_187 rfl rfl rfl rfl (fun hc => absurd rfl hc) (fun _ => ?_)
    refine W.iconst 191 at_190 rfl (1 : Int32) rfl ?_
    refine W.goto 195 at_191 rfl ?_
    refine WG.retX (own_EL hw) hv2324 ?_
    exact W.ireturnN (t := .boolean) at_195 rfl (by simp) (1 : Int32) rfl ⟨rfl, rfl⟩ (by decide) (by decide)
  · have hv2326 := HV.keep hv2279 K2303 all0
    show WG _ _ _ _ _ _ _ _ _ _ _ _ 7 15 178 #[.val (.int p0), .val (.int p1), .val (.int p2), .val (.int p3), .val (.int (1 : Int32)), .val (.int (4 : Int32)), .val (.int (p2 &&& (255 : Int32))), .val (.ref o2238), .unset] [(.ref e2)]
    refine W.astore 180 at_178 rfl rfl #[.val (.int p0), .val (.int p1), .val (.int p2), .val (.int p3), .val (.int (1 : Int32)), .val (.int (4 : Int32)), .val (.int (p2 &&& (255 : Int32))), .val (.ref o2238), .val (.ref e2)] rfl ?_
    refine W.aload 182 at_180 rfl rfl rfl ?_
    refine W.aload 184 at_182 rfl rfl rfl ?_
    have q2327 := (Sta.keepN K2303 all0 q2280)
    have q2328 := (Sta.keepN K2303 all0 q2282)
    have q2329 := (Sta.keepN K2303 all0 q2283)
    have q2330 := (Sta.keepN K2303 all0 q2284)
    have q2331 := (q2302.keep K2303)
    have q2332 := (C2279.keep K2303 nin0)
    have q2333 := (V2279.keep K2303 nin0)
    have q2334 := (A2279.keep K2303 nin0)
    have q2336 := ((A2252.keep K2279 (ninS (Ne.symm ne2259) nin0)).keep K2303 nin0)
    refine W.callSX (rest := [(.ref e2)]) (argsL := [(.ref o2238)]) 187 at_184 rfl (fun hn => c_exp2 l Z a0 hw o2238 b2279 kc hkc [] e0 e1 e2 _ n0 hn q2327 q2328 q2329 q2330 q2331 q2332 q2333 q2334 q0_2303 q1_2303 q2_2303) (wd_69 hw) (wd_70 hw) (wd_6 hw) (wd_71 hw) (by decide) pd_12 rfl rfl rfl (by decide) 1 (Nat.le_of_ble_eq_true rfl) (by decide) (by decide) (by decide) (own_EL hw) hv2326 (allS q2336.lt (allS q2331.lt all0)) all0 ?_
    rintro v2335 h2335 rfl
    have hv2335 := HV.here (Z := Z) (EL := consts_1) (h := h2335) (S := [b2252, o2238])
    show WG _ _ _ _ _ _ _ _ _ _ _ _ 13 111 187 #[.val (.int p0), .val (.int p1), .val (.int p2), .val (.int p3), .val (.int (1 : Int32)), .val (.int (4 : Int32)), .val (.int (p2 &&& (255 : Int32))), .val (.ref o2238), .val (.ref e2)] [(.ref e2), (.ref e2)]
    refine W.acmp_ne 194 190 at_187 rfl rfl rfl rfl (fun hc => absurd rfl hc) (fun _ => ?_)
    refine W.iconst 191 at_190 rfl (1 : Int32) rfl ?_
    refine W.goto 195 at_191 rfl ?_
    refine WG.retX (own_EL hw) hv2335 ?_
    exact W.ireturnN (t := .boolean) at_195 rfl (by simp) (1 : Int32) rfl ⟨rfl, rfl⟩ (by decide) (by decide)
  · have hv2337 := HV.keep hv2279 K2303 all0
    show WG _ _ _ _ _ _ _ _ _ _ _ _ 7 15 178 #[.val (.int p0), .val (.int p1), .val (.int p2), .val (.int p3), .val (.int (1 : Int32)), .val (.int (4 : Int32)), .val (.int (p2 &&& (255 : Int32))), .val (.ref o2238), .unset] [.null]
    refine W.astore 180 at_178 rfl rfl #[.val (.int p0), .val (.int p1), .val (.int p2), .val (.int p3), .val (.int (1 : Int32)), .val (.int (4 : Int32)), .val (.int (p2 &&& (255 : Int32))), .val (.ref o2238), .val .null] rfl ?_
    refine W.aload 182 at_180 rfl rfl rfl ?_
    refine W.aload 184 at_182 rfl rfl rfl ?_
    have q2338 := (Sta.keepN K2303 all0 q2280)
    have q2339 := (Sta.keepN K2303 all0 q2282)
    have q2340 := (Sta.keepN K2303 all0 q2283)
    have q2341 := (Sta.keepN K2303 all0 q2284)
    have q2342 := (q2302.keep K2303)
    have q2343 := (C2279.keep K2303 nin0)
    have q2344 := (V2279.keep K2303 nin0)
    have q2345 := (A2279.keep K2303 nin0)
    have q2347 := ((A2252.keep K2279 (ninS (Ne.symm ne2259) nin0)).keep K2303 nin0)
    refine W.callSX (rest := [.null]) (argsL := [(.ref o2238)]) 187 at_184 rfl (fun hn => c_exp3 l Z a0 hw o2238 b2279 kc hkc [] e0 e1 e2 _ n0 hn q2338 q2339 q2340 q2341 q2342 q2343 q2344 q2345 q0_2303 q1_2303 q2_2303) (wd_69 hw) (wd_70 hw) (wd_6 hw) (wd_71 hw) (by decide) pd_12 rfl rfl rfl (by decide) 1 (Nat.le_of_ble_eq_true rfl) (by decide) (by decide) (by decide) (own_EL hw) hv2337 (allS q2347.lt (allS q2342.lt all0)) all0 ?_
    rintro v2346 h2346 rfl
    have hv2346 := HV.here (Z := Z) (EL := consts_1) (h := h2346) (S := [b2252, o2238])
    show WG _ _ _ _ _ _ _ _ _ _ _ _ 13 111 187 #[.val (.int p0), .val (.int p1), .val (.int p2), .val (.int p3), .val (.int (1 : Int32)), .val (.int (4 : Int32)), .val (.int (p2 &&& (255 : Int32))), .val (.ref o2238), .val .null] [.null, .null]
    refine W.acmp_ne 194 190 at_187 rfl rfl rfl rfl (fun hc => absurd rfl hc) (fun _ => ?_)
    refine W.iconst 191 at_190 rfl (1 : Int32) rfl ?_
    refine W.goto 195 at_191 rfl ?_
    refine WG.retX (own_EL hw) hv2346 ?_
    exact W.ireturnN (t := .boolean) at_195 rfl (by simp) (1 : Int32) rfl ⟨rfl, rfl⟩ (by decide) (by decide)
theorem law_20 (l : Launch) (Z : State) (a0 : Array Value) (hw : HwT Z a0) (p0 p1 p2 p3 : Int32) (kc : Int32) (hkc : ¬ kc = 0) (e0 e1 e2 t0 t1 t2 u0 u1 u2 vv : Addr) (h : Heap) (n0 : Nat) (hn : n0 ≤ h.size) (FS : Sta Z h "java/lang/String" "COMPACT_STRINGS" "Z" (.int kc)) (SV : Sta Z h "com/example/eccentra/eccentra/GraphFormat" "$VALUES" "[Lcom/example/eccentra/eccentra/GraphFormat;" (.ref vv)) (S0 : Sta Z h "com/example/eccentra/eccentra/GraphFormat" "EDGELIST" "Lcom/example/eccentra/eccentra/GraphFormat;" (.ref e0)) (S1 : Sta Z h "com/example/eccentra/eccentra/GraphFormat" "ADJLIST" "Lcom/example/eccentra/eccentra/GraphFormat;" (.ref e1)) (S2 : Sta Z h "com/example/eccentra/eccentra/GraphFormat" "MTX" "Lcom/example/eccentra/eccentra/GraphFormat;" (.ref e2)) (AV : Ary Z h vv (.object "com/example/eccentra/eccentra/GraphFormat") [.ref e0, .ref e1, .ref e2]) (EV : Exa Z h vv "[Lcom/example/eccentra/eccentra/GraphFormat;") (O0 : Fld Z h e0 "com/example/eccentra/eccentra/GraphFormat" "optionValue" "Ljava/lang/String;" (.ref t0)) (Et0 : Exa Z h t0 "java/lang/String") (Ct0 : Fld Z h t0 "java/lang/String" "coder" "B" (.int 0)) (Vt0 : Fld Z h t0 "java/lang/String" "value" "[B" (.ref u0)) (At0 : Ary Z h u0 .byte [(.int (101 : Int32)), (.int (100 : Int32)), (.int (103 : Int32)), (.int (101 : Int32)), (.int (108 : Int32)), (.int (105 : Int32)), (.int (115 : Int32)), (.int (116 : Int32))]) (O1 : Fld Z h e1 "com/example/eccentra/eccentra/GraphFormat" "optionValue" "Ljava/lang/String;" (.ref t1)) (Et1 : Exa Z h t1 "java/lang/String") (Ct1 : Fld Z h t1 "java/lang/String" "coder" "B" (.int 0)) (Vt1 : Fld Z h t1 "java/lang/String" "value" "[B" (.ref u1)) (At1 : Ary Z h u1 .byte [(.int (97 : Int32)), (.int (100 : Int32)), (.int (106 : Int32)), (.int (108 : Int32)), (.int (105 : Int32)), (.int (115 : Int32)), (.int (116 : Int32))]) (O2 : Fld Z h e2 "com/example/eccentra/eccentra/GraphFormat" "optionValue" "Ljava/lang/String;" (.ref t2)) (Et2 : Exa Z h t2 "java/lang/String") (Ct2 : Fld Z h t2 "java/lang/String" "coder" "B" (.int 0)) (Vt2 : Fld Z h t2 "java/lang/String" "value" "[B" (.ref u2)) (At2 : Ary Z h u2 .byte [(.int (109 : Int32)), (.int (116 : Int32)), (.int (120 : Int32))]) (ek : (p0 &&& 2147483647) % 3 = 2) (em : (p1 &&& 2147483647) % 5 = 0) : ConX Z consts_1 [] tables_1 l x code maxLocals ret room_1 #[(.int p0), (.int p1), (.int p2), (.int p3)] h n0 (fun v _ => v = some (.int 1)) := by
  refine ConX.of_W (Ls := #[.val (.int p0), .val (.int p1), .val (.int p2), .val (.int p3), .unset, .unset, .unset, .unset, .unset]) (plainFor_of_name pn_3) hn (fun m => by first | (simp [entryFrame, mkF, argsToLocals, Value.category, maxLocals]; done) | rfl) ?_
  have hv0 := HV.here (Z := Z) (EL := consts_1) (h := h) (S := [])
  refine W.iloadN 1 at_0 rfl rfl ?_
  refine W.ldcI 3 at_1 rfl (wd_0 hw) ?_
  refine W.iand 4 at_3 rfl (p0 &&& (2147483647 : Int32)) rfl ?_
  refine W.iconst 5 at_4 rfl (3 : Int32) rfl ?_
  refine W.irem 6 at_5 rfl (by decide) (2 : Int32) ek ?_
  refine W.istore 8 at_6 rfl #[.val (.int p0), .val (.int p1), .val (.int p2), .val (.int p3), .val (.int (2 : Int32)), .unset, .unset, .unset, .unset] rfl ?_
  refine W.iloadN 9 at_8 rfl rfl ?_
  refine W.ldcI 11 at_9 rfl (wd_0 hw) ?_
  refine W.iand 12 at_11 rfl (p1 &&& (2147483647 : Int32)) rfl ?_
  refine W.iconst 13 at_12 rfl (5 : Int32) rfl ?_
  refine W.irem 14 at_13 rfl (by decide) (0 : Int32) em ?_
  refine W.istore 16 at_14 rfl #[.val (.int p0), .val (.int p1), .val (.int p2), .val (.int p3), .val (.int (2 : Int32)), .val (.int (0 : Int32)), .unset, .unset, .unset] rfl ?_
  refine W.iloadN 17 at_16 rfl rfl ?_
  refine W.sipush 20 at_17 rfl (255 : Int32) rfl ?_
  refine W.iand 21 at_20 rfl (p2 &&& (255 : Int32)) rfl ?_
  refine W.i2c 22 at_21 rfl (p2 &&& (255 : Int32)) (ch_nar (own_m p2)) ?_
  refine W.istore 24 at_22 rfl #[.val (.int p0), .val (.int p1), .val (.int p2), .val (.int p3), .val (.int (2 : Int32)), .val (.int (0 : Int32)), .val (.int (p2 &&& (255 : Int32))), .unset, .unset] rfl ?_
  refine W.iload 26 at_24 rfl rfl ?_
  refine W.if_ne 46 29 at_26 rfl rfl (fun hc => absurd (by decide) hc) (fun _ => ?_)
  refine W.new 32 at_29 rfl (wd_1 hw) (wd_2 hw) (wd_3 hw) (by decide) (by decide) ?_
  intro h2348 o2348 g2348 ge2348 X2348 K2348 E2348 D2348
  have ne2349 : e0 ≠ o2348 := Nat.ne_of_lt (Nat.lt_of_lt_of_eq O0.lt g2348.symm)
  have ne2350 : e1 ≠ o2348 := Nat.ne_of_lt (Nat.lt_of_lt_of_eq O1.lt g2348.symm)
  have ne2351 : e2 ≠ o2348 := Nat.ne_of_lt (Nat.lt_of_lt_of_eq O2.lt g2348.symm)
  have ne2352 : t0 ≠ o2348 := Nat.ne_of_lt (Nat.lt_of_lt_of_eq Et0.lt g2348.symm)
  have ne2353 : t1 ≠ o2348 := Nat.ne_of_lt (Nat.lt_of_lt_of_eq Et1.lt g2348.symm)
  have ne2354 : t2 ≠ o2348 := Nat.ne_of_lt (Nat.lt_of_lt_of_eq Et2.lt g2348.symm)
  have ne2355 : u0 ≠ o2348 := Nat.ne_of_lt (Nat.lt_of_lt_of_eq At0.lt g2348.symm)
  have ne2356 : u1 ≠ o2348 := Nat.ne_of_lt (Nat.lt_of_lt_of_eq At1.lt g2348.symm)
  have ne2357 : u2 ≠ o2348 := Nat.ne_of_lt (Nat.lt_of_lt_of_eq At2.lt g2348.symm)
  have ne2358 : vv ≠ o2348 := Nat.ne_of_lt (Nat.lt_of_lt_of_eq AV.lt g2348.symm)
  have hv2359 := HV.new hv0 K2348 all0 (Nat.le_of_eq g2348.symm)
  have f2360 : Fld _ _ o2348 "java/lang/String" "coder" "B" (.int (0 : Int32)) := D2348 (Or.inr (wd_32 hw)) (ty := .byte) (by decide)
  have f2361 : Fld _ _ o2348 "java/lang/String" "value" "[B" .null := D2348 (Or.inr (wd_34 hw)) (ty := (.array .byte)) (by decide)
  show WG _ _ _ _ _ _ _ _ _ _ _ _ 1 4 32 #[.val (.int p0), .val (.int p1), .val (.int p2), .val (.int p3), .val (.int (2 : Int32)), .val (.int (0 : Int32)), .val (.int (p2 &&& (255 : Int32))), .unset, .unset] [(.ref o2348)]
  refine W.dup 33 at_32 rfl rfl ?_
  refine W.iload 35 at_33 rfl rfl ?_
  refine W.callS (rest := [(.ref o2348), (.ref o2348)]) (argsL := [(.int (2 : Int32))]) 38 at_35 rfl (fun hn => c_full2 l Z a0 hw  _ n0 hn ) (wd_79 hw) (wd_80 hw) (wd_6 hw) (wd_81 hw) (by decide) pd_10 rfl rfl rfl (by decide) 2 (Nat.le_of_ble_eq_true rfl) (by decide) (by decide) (by decide) ?_
  rintro v2362 h2362 ⟨d2362, rfl, sz2362, gd2362, K2362, A2362⟩
  have q2363 := (O0.keep K2348 nin0)
  have ne2364 : e0 ≠ d2362 := Nat.ne_of_lt (Nat.lt_of_lt_of_le q2363.lt sz2362)
  have q2365 := (O1.keep K2348 nin0)
  have ne2366 : e1 ≠ d2362 := Nat.ne_of_lt (Nat.lt_of_lt_of_le q2365.lt sz2362)
  have q2367 := (O2.keep K2348 nin0)
  have ne2368 : e2 ≠ d2362 := Nat.ne_of_lt (Nat.lt_of_lt_of_le q2367.lt sz2362)
  have ne2369 : o2348 ≠ d2362 := Nat.ne_of_lt (Nat.lt_of_lt_of_le E2348.lt sz2362)
  have q2370 := (Et0.keep K2348)
  have ne2371 : t0 ≠ d2362 := Nat.ne_of_lt (Nat.lt_of_lt_of_le q2370.lt sz2362)
  have q2372 := (Et1.keep K2348)
  have ne2373 : t1 ≠ d2362 := Nat.ne_of_lt (Nat.lt_of_lt_of_le q2372.lt sz2362)
  have q2374 := (Et2.keep K2348)
  have ne2375 : t2 ≠ d2362 := Nat.ne_of_lt (Nat.lt_of_lt_of_le q2374.lt sz2362)
  have q2376 := (At0.keep K2348 nin0)
  have ne2377 : u0 ≠ d2362 := Nat.ne_of_lt (Nat.lt_of_lt_of_le q2376.lt sz2362)
  have q2378 := (At1.keep K2348 nin0)
  have ne2379 : u1 ≠ d2362 := Nat.ne_of_lt (Nat.lt_of_lt_of_le q2378.lt sz2362)
  have q2380 := (At2.keep K2348 nin0)
  have ne2381 : u2 ≠ d2362 := Nat.ne_of_lt (Nat.lt_of_lt_of_le q2380.lt sz2362)
  have q2382 := (AV.keep K2348 nin0)
  have ne2383 : vv ≠ d2362 := Nat.ne_of_lt (Nat.lt_of_lt_of_le q2382.lt sz2362)
  have hv2384 := HV.new hv2359 K2362 all0 sz2362
  show WG _ _ _ _ _ _ _ _ _ _ _ _ 2 13 38 #[.val (.int p0), .val (.int p1), .val (.int p2), .val (.int p3), .val (.int (2 : Int32)), .val (.int (0 : Int32)), .val (.int (p2 &&& (255 : Int32))), .unset, .unset] [(.ref d2362), (.ref o2348), (.ref o2348)]
  have q2385 := (Sta.keepN K2362 all0 (Sta.ext X2348 FS))
  have q2386 := (E2348.keep K2362)
  have q2387 := (f2360.keep K2362 nin0)
  have q2388 := (f2361.keep K2362 nin0)
  refine W.callInit (rest := [(.ref o2348)]) (argsL := [(.ref d2362)]) (a := o2348) 41 at_38 rfl (fun hn => c_i1g l Z a0 hw o2348 d2362 kc hkc [(109 : Int32), (116 : Int32), (120 : Int32)] _ n0 hn ne2369 ge2348 (chC (ch_k (by decide) (by decide)) (chC (ch_k (by decide) (by decide)) (chC (ch_k (by decide) (by decide)) chN))) (Nat.le_of_ble_eq_true rfl) (show ¬ (3 : Nat).toInt32 = 0 by decide) q2385 q2386 q2387 q2388 A2362) rfl (wd_9 hw) (wd_10 hw) (wd_3 hw) (wd_11 hw) (by decide) pd_11 rfl rfl rfl (by decide) 1 (Nat.le_of_ble_eq_true rfl) (by decide) (by decide) (by decide) ?_
  rintro v2389 h2389 ⟨rfl, K2389, b2389, C2389, V2389, A2389⟩
  have hv2390 := HV.keep hv2384 K2389 (allS (List.mem_of_getElem? (i := 1) rfl) all0)
  show WG _ _ _ _ _ _ _ _ _ _ _ _ 3 29 41 #[.val (.int p0), .val (.int p1), .val (.int p2), .val (.int p3), .val (.int (2 : Int32)), .val (.int (0 : Int32)), .val (.int (p2 &&& (255 : Int32))), .unset, .unset] [(.ref o2348)]
  refine W.astore 43 at_41 rfl rfl #[.val (.int p0), .val (.int p1), .val (.int p2), .val (.int p3), .val (.int (2 : Int32)), .val (.int (0 : Int32)), .val (.int (p2 &&& (255 : Int32))), .val (.ref o2348), .unset] rfl ?_
  refine W.goto 173 at_43 rfl ?_
  refine W.aload 175 at_173 rfl rfl rfl ?_
  have q2391 := (Sta.keepN K2389 (allS q2386.nostat all0) q2385)
  have q2392 := (Sta.keepN K2389 (allS q2386.nostat all0) (Sta.keepN K2362 all0 (Sta.ext X2348 SV)))
  have q2393 := (Sta.keepN K2389 (allS q2386.nostat all0) (Sta.keepN K2362 all0 (Sta.ext X2348 S0)))
  have q2394 := (Sta.keepN K2389 (allS q2386.nostat all0) (Sta.keepN K2362 all0 (Sta.ext X2348 S1)))
  have q2395 := (Sta.keepN K2389 (allS q2386.nostat all0) (Sta.keepN K2362 all0 (Sta.ext X2348 S2)))
  have q2396 := ((q2382.keep K2362 nin0).keep K2389 (ninS ne2358 nin0))
  have q2397 := (((EV.keep K2348).keep K2362).keep K2389)
  have q2398 := ((q2363.keep K2362 nin0).keep K2389 (ninS ne2349 nin0))
  have q2399 := ((q2370.keep K2362).keep K2389)
  have q2400 := (((Ct0.keep K2348 nin0).keep K2362 nin0).keep K2389 (ninS ne2352 nin0))
  have q2401 := (((Vt0.keep K2348 nin0).keep K2362 nin0).keep K2389 (ninS ne2352 nin0))
  have q2402 := ((q2376.keep K2362 nin0).keep K2389 (ninS ne2355 nin0))
  have q2403 := ((q2365.keep K2362 nin0).keep K2389 (ninS ne2350 nin0))
  have q2404 := ((q2372.keep K2362).keep K2389)
  have q2405 := (((Ct1.keep K2348 nin0).keep K2362 nin0).keep K2389 (ninS ne2353 nin0))
  have q2406 := (((Vt1.keep K2348 nin0).keep K2362 nin0).keep K2389 (ninS ne2353 nin0))
  have q2407 := ((q2378.keep K2362 nin0).keep K2389 (ninS ne2356 nin0))
  have q2408 := ((q2367.keep K2362 nin0).keep K2389 (ninS ne2351 nin0))
  have q2409 := ((q2374.keep K2362).keep K2389)
  have q2410 := (((Ct2.keep K2348 nin0).keep K2362 nin0).keep K2389 (ninS ne2354 nin0))
  have q2411 := (((Vt2.keep K2348 nin0).keep K2362 nin0).keep K2389 (ninS ne2354 nin0))
  have q2412 := ((q2380.keep K2362 nin0).keep K2389 (ninS ne2357 nin0))
  have q2413 := (q2386.keep K2389)
  refine W.callS (rest := []) (argsL := [(.ref o2348)]) 178 at_175 rfl (fun hn => c_named l Z a0 hw o2348 b2389 kc hkc ([(109 : Int32), (116 : Int32), (120 : Int32)].map byteOf) e0 e1 e2 t0 t1 t2 u0 u1 u2 vv _ n0 hn q2391 q2392 q2393 q2394 q2395 q2396 q2397 q2398 q2399 q2400 q2401 q2402 q2403 q2404 q2405 q2406 q2407 q2408 q2409 q2410 q2411 q2412 q2413 C2389 V2389 A2389) (wd_35 hw) (wd_36 hw) (wd_37 hw) (wd_38 hw) (by decide) pd_12 rfl rfl rfl (by decide) 0 (Nat.le_of_ble_eq_true rfl) (by decide) (by decide) (by decide) ?_
  rintro v2414 h2414 (⟨q0_2414, rfl, K2414⟩ | ⟨q0_2414, q1_2414, rfl, K2414⟩ | ⟨q0_2414, q1_2414, q2_2414, rfl, K2414⟩ | ⟨q0_2414, q1_2414, q2_2414, rfl, K2414⟩)
  · have hv2415 := HV.keep hv2390 K2414 all0
    show WG _ _ _ _ _ _ _ _ _ _ _ _ 4 32 178 #[.val (.int p0), .val (.int p1), .val (.int p2), .val (.int p3), .val (.int (2 : Int32)), .val (.int (0 : Int32)), .val (.int (p2 &&& (255 : Int32))), .val (.ref o2348), .unset] [(.ref e0)]
    refine W.astore 180 at_178 rfl rfl #[.val (.int p0), .val (.int p1), .val (.int p2), .val (.int p3), .val (.int (2 : Int32)), .val (.int (0 : Int32)), .val (.int (p2 &&& (255 : Int32))), .val (.ref o2348), .val (.ref e0)] rfl ?_
    refine W.aload 182 at_180 rfl rfl rfl ?_
    refine W.aload 184 at_182 rfl rfl rfl ?_
    have q2416 := (Sta.keepN K2414 all0 q2391)
    have q2417 := (Sta.keepN K2414 all0 q2393)
    have q2418 := (Sta.keepN K2414 all0 q2394)
    have q2419 := (Sta.keepN K2414 all0 q2395)
    have q2420 := (q2413.keep K2414)
    have q2421 := (C2389.keep K2414 nin0)
    have q2422 := (V2389.keep K2414 nin0)
    have q2423 := (A2389.keep K2414 nin0)
    have q2425 := ((A2362.keep K2389 (ninS (Ne.symm ne2369) nin0)).keep K2414 nin0)
    refine W.callSX (rest := [(.ref e0)]) (argsL := [(.ref o2348)]) 187 at_184 rfl (fun hn => c_exp0 l Z a0 hw o2348 b2389 kc hkc ([(109 : Int32), (116 : Int32), (120 : Int32)].map byteOf) e0 e1 e2 _ n0 hn q2416 q2417 q2418 q2419 q2420 q2421 q2422 q2423 q0_2414) (wd_69 hw) (wd_70 hw) (wd_6 hw) (wd_71 hw) (by decide) pd_12 rfl rfl rfl (by decide) 1 (Nat.le_of_ble_eq_true rfl) (by decide) (by decide) (by decide) (own_EL hw) hv2415 (allS q2425.lt (allS q2420.lt all0)) all0 ?_
    rintro v2424 h2424 rfl
    have hv2424 := HV.here (Z := Z) (EL := consts_1) (h := h2424) (S := [d2362, o2348])
    show WG _ _ _ _ _ _ _ _ _ _ _ _ 10 128 187 #[.val (.int p0), .val (.int p1), .val (.int p2), .val (.int p3), .val (.int (2 : Int32)), .val (.int (0 : Int32)), .val (.int (p2 &&& (255 : Int32))), .val (.ref o2348), .val (.ref e0)] [(.ref e0), (.ref e0)]
    refine W.acmp_ne 194 190 at_187 rfl rfl rfl rfl (fun hc => absurd rfl hc) (fun _ => ?_)
    refine W.iconst 191 at_190 rfl (1 : Int32) rfl ?_
    refine W.goto 195 at_191 rfl ?_
    refine WG.retX (own_EL hw) hv2424 ?_
    exact W.ireturnN (t := .boolean) at_195 rfl (by simp) (1 : Int32) rfl ⟨rfl, rfl⟩ (by decide) (by decide)
  · have hv2426 := HV.keep hv2390 K2414 all0
    show WG _ _ _ _ _ _ _ _ _ _ _ _ 4 32 178 #[.val (.int p0), .val (.int p1), .val (.int p2), .val (.int p3), .val (.int (2 : Int32)), .val (.int (0 : Int32)), .val (.int (p2 &&& (255 : Int32))), .val (.ref o2348), .unset] [(.ref e1)]
    refine W.astore 180 at_178 rfl rfl #[.val (.int p0), .val (.int p1), .val (.int p2), .val (.int p3), .val (.int (2 : Int32)), .val (.int (0 : Int32)), .val (.int (p2 &&& (255 : Int32))), .val (.ref o2348), .val (.ref e1)] rfl ?_
    refine W.aload 182 at_180 rfl rfl rfl ?_
    refine W.aload 184 at_182 rfl rfl rfl ?_
    have q2427 := (Sta.keepN K2414 all0 q2391)
    have q2428 := (Sta.keepN K2414 all0 q2393)
    have q2429 := (Sta.keepN K2414 all0 q2394)
    have q2430 := (Sta.keepN K2414 all0 q2395)
    have q2431 := (q2413.keep K2414)
    have q2432 := (C2389.keep K2414 nin0)
    have q2433 := (V2389.keep K2414 nin0)
    have q2434 := (A2389.keep K2414 nin0)
    have q2436 := ((A2362.keep K2389 (ninS (Ne.symm ne2369) nin0)).keep K2414 nin0)
    refine W.callSX (rest := [(.ref e1)]) (argsL := [(.ref o2348)]) 187 at_184 rfl (fun hn => c_exp1 l Z a0 hw o2348 b2389 kc hkc ([(109 : Int32), (116 : Int32), (120 : Int32)].map byteOf) e0 e1 e2 _ n0 hn q2427 q2428 q2429 q2430 q2431 q2432 q2433 q2434 q0_2414 q1_2414) (wd_69 hw) (wd_70 hw) (wd_6 hw) (wd_71 hw) (by decide) pd_12 rfl rfl rfl (by decide) 1 (Nat.le_of_ble_eq_true rfl) (by decide) (by decide) (by decide) (own_EL hw) hv2426 (allS q2436.lt (allS q2431.lt all0)) all0 ?_
    rintro v2435 h2435 rfl
    have hv2435 := HV.here (Z := Z) (EL := consts_1) (h := h2435) (S := [d2362, o2348])
    show WG _ _ _ _ _ _ _ _ _ _ _ _ 10 128 187 #[.val (.int p0), .val (.int p1), .val (.int p2), .val (.int p3), .val (.int (2 : Int32)), .val (.int (0 : Int32)), .val (.int (p2 &&& (255 : Int32))), .val (.ref o2348), .val (.ref e1)] [(.ref e1), (.ref e1)]
    refine W.acmp_ne 194 190 at_187 rfl rfl rfl rfl (fun hc => absurd rfl hc) (fun _ => ?_)
    refine W.iconst 191 at_190 rfl (1 : Int32) rfl ?_
    refine W.goto 195 at_191 rfl ?_
    refine WG.retX (own_EL hw) hv2435 ?_
    exact W.ireturnN (t := .boolean) at_195 rfl (by simp) (1 : Int32) rfl ⟨rfl, rfl⟩ (by decide) (by decide)
  · have hv2437 := HV.keep hv2390 K2414 all0
    show WG _ _ _ _ _ _ _ _ _ _ _ _ 4 32 178 #[.val (.int p0), .val (.int p1), .val (.int p2), .val (.int p3), .val (.int (2 : Int32)), .val (.int (0 : Int32)), .val (.int (p2 &&& (255 : Int32))), .val (.ref o2348), .unset] [(.ref e2)]
    refine W.astore 180 at_178 rfl rfl #[.val (.int p0), .val (.int p1), .val (.int p2), .val (.int p3), .val (.int (2 : Int32)), .val (.int (0 : Int32)), .val (.int (p2 &&& (255 : Int32))), .val (.ref o2348), .val (.ref e2)] rfl ?_
    refine W.aload 182 at_180 rfl rfl rfl ?_
    refine W.aload 184 at_182 rfl rfl rfl ?_
    have q2438 := (Sta.keepN K2414 all0 q2391)
    have q2439 := (Sta.keepN K2414 all0 q2393)
    have q2440 := (Sta.keepN K2414 all0 q2394)
    have q2441 := (Sta.keepN K2414 all0 q2395)
    have q2442 := (q2413.keep K2414)
    have q2443 := (C2389.keep K2414 nin0)
    have q2444 := (V2389.keep K2414 nin0)
    have q2445 := (A2389.keep K2414 nin0)
    have q2447 := ((A2362.keep K2389 (ninS (Ne.symm ne2369) nin0)).keep K2414 nin0)
    refine W.callSX (rest := [(.ref e2)]) (argsL := [(.ref o2348)]) 187 at_184 rfl (fun hn => c_exp2 l Z a0 hw o2348 b2389 kc hkc ([(109 : Int32), (116 : Int32), (120 : Int32)].map byteOf) e0 e1 e2 _ n0 hn q2438 q2439 q2440 q2441 q2442 q2443 q2444 q2445 q0_2414 q1_2414 q2_2414) (wd_69 hw) (wd_70 hw) (wd_6 hw) (wd_71 hw) (by decide) pd_12 rfl rfl rfl (by decide) 1 (Nat.le_of_ble_eq_true rfl) (by decide) (by decide) (by decide) (own_EL hw) hv2437 (allS q2447.lt (allS q2442.lt all0)) all0 ?_
    rintro v2446 h2446 rfl
    have hv2446 := HV.here (Z := Z) (EL := consts_1) (h := h2446) (S := [d2362, o2348])
    show WG _ _ _ _ _ _ _ _ _ _ _ _ 10 128 187 #[.val (.int p0), .val (.int p1), .val (.int p2), .val (.int p3), .val (.int (2 : Int32)), .val (.int (0 : Int32)), .val (.int (p2 &&& (255 : Int32))), .val (.ref o2348), .val (.ref e2)] [(.ref e2), (.ref e2)]
    refine W.acmp_ne 194 190 at_187 rfl rfl rfl rfl (fun hc => absurd rfl hc) (fun _ => ?_)
    refine W.iconst 191 at_190 rfl (1 : Int32) rfl ?_
    refine W.goto 195 at_191 rfl ?_
    refine WG.retX (own_EL hw) hv2446 ?_
    exact W.ireturnN (t := .boolean) at_195 rfl (by simp) (1 : Int32) rfl ⟨rfl, rfl⟩ (by decide) (by decide)
  · have hv2448 := HV.keep hv2390 K2414 all0
    show WG _ _ _ _ _ _ _ _ _ _ _ _ 4 32 178 #[.val (.int p0), .val (.int p1), .val (.int p2), .val (.int p3), .val (.int (2 : Int32)), .val (.int (0 : Int32)), .val (.int (p2 &&& (255 : Int32))), .val (.ref o2348), .unset] [.null]
    refine W.astore 180 at_178 rfl rfl #[.val (.int p0), .val (.int p1), .val (.int p2), .val (.int p3), .val (.int (2 : Int32)), .val (.int (0 : Int32)), .val (.int (p2 &&& (255 : Int32))), .val (.ref o2348), .val .null] rfl ?_
    refine W.aload 182 at_180 rfl rfl rfl ?_
    refine W.aload 184 at_182 rfl rfl rfl ?_
    have q2449 := (Sta.keepN K2414 all0 q2391)
    have q2450 := (Sta.keepN K2414 all0 q2393)
    have q2451 := (Sta.keepN K2414 all0 q2394)
    have q2452 := (Sta.keepN K2414 all0 q2395)
    have q2453 := (q2413.keep K2414)
    have q2454 := (C2389.keep K2414 nin0)
    have q2455 := (V2389.keep K2414 nin0)
    have q2456 := (A2389.keep K2414 nin0)
    have q2458 := ((A2362.keep K2389 (ninS (Ne.symm ne2369) nin0)).keep K2414 nin0)
    refine W.callSX (rest := [.null]) (argsL := [(.ref o2348)]) 187 at_184 rfl (fun hn => c_exp3 l Z a0 hw o2348 b2389 kc hkc ([(109 : Int32), (116 : Int32), (120 : Int32)].map byteOf) e0 e1 e2 _ n0 hn q2449 q2450 q2451 q2452 q2453 q2454 q2455 q2456 q0_2414 q1_2414 q2_2414) (wd_69 hw) (wd_70 hw) (wd_6 hw) (wd_71 hw) (by decide) pd_12 rfl rfl rfl (by decide) 1 (Nat.le_of_ble_eq_true rfl) (by decide) (by decide) (by decide) (own_EL hw) hv2448 (allS q2458.lt (allS q2453.lt all0)) all0 ?_
    rintro v2457 h2457 rfl
    have hv2457 := HV.here (Z := Z) (EL := consts_1) (h := h2457) (S := [d2362, o2348])
    show WG _ _ _ _ _ _ _ _ _ _ _ _ 10 128 187 #[.val (.int p0), .val (.int p1), .val (.int p2), .val (.int p3), .val (.int (2 : Int32)), .val (.int (0 : Int32)), .val (.int (p2 &&& (255 : Int32))), .val (.ref o2348), .val .null] [.null, .null]
    refine W.acmp_ne 194 190 at_187 rfl rfl rfl rfl (fun hc => absurd rfl hc) (fun _ => ?_)
    refine W.iconst 191 at_190 rfl (1 : Int32) rfl ?_
    refine W.goto 195 at_191 rfl ?_
    refine WG.retX (own_EL hw) hv2457 ?_
    exact W.ireturnN (t := .boolean) at_195 rfl (by simp) (1 : Int32) rfl ⟨rfl, rfl⟩ (by decide) (by decide)
theorem law_21 (l : Launch) (Z : State) (a0 : Array Value) (hw : HwT Z a0) (p0 p1 p2 p3 : Int32) (kc : Int32) (hkc : ¬ kc = 0) (e0 e1 e2 t0 t1 t2 u0 u1 u2 vv : Addr) (h : Heap) (n0 : Nat) (hn : n0 ≤ h.size) (FS : Sta Z h "java/lang/String" "COMPACT_STRINGS" "Z" (.int kc)) (SV : Sta Z h "com/example/eccentra/eccentra/GraphFormat" "$VALUES" "[Lcom/example/eccentra/eccentra/GraphFormat;" (.ref vv)) (S0 : Sta Z h "com/example/eccentra/eccentra/GraphFormat" "EDGELIST" "Lcom/example/eccentra/eccentra/GraphFormat;" (.ref e0)) (S1 : Sta Z h "com/example/eccentra/eccentra/GraphFormat" "ADJLIST" "Lcom/example/eccentra/eccentra/GraphFormat;" (.ref e1)) (S2 : Sta Z h "com/example/eccentra/eccentra/GraphFormat" "MTX" "Lcom/example/eccentra/eccentra/GraphFormat;" (.ref e2)) (AV : Ary Z h vv (.object "com/example/eccentra/eccentra/GraphFormat") [.ref e0, .ref e1, .ref e2]) (EV : Exa Z h vv "[Lcom/example/eccentra/eccentra/GraphFormat;") (O0 : Fld Z h e0 "com/example/eccentra/eccentra/GraphFormat" "optionValue" "Ljava/lang/String;" (.ref t0)) (Et0 : Exa Z h t0 "java/lang/String") (Ct0 : Fld Z h t0 "java/lang/String" "coder" "B" (.int 0)) (Vt0 : Fld Z h t0 "java/lang/String" "value" "[B" (.ref u0)) (At0 : Ary Z h u0 .byte [(.int (101 : Int32)), (.int (100 : Int32)), (.int (103 : Int32)), (.int (101 : Int32)), (.int (108 : Int32)), (.int (105 : Int32)), (.int (115 : Int32)), (.int (116 : Int32))]) (O1 : Fld Z h e1 "com/example/eccentra/eccentra/GraphFormat" "optionValue" "Ljava/lang/String;" (.ref t1)) (Et1 : Exa Z h t1 "java/lang/String") (Ct1 : Fld Z h t1 "java/lang/String" "coder" "B" (.int 0)) (Vt1 : Fld Z h t1 "java/lang/String" "value" "[B" (.ref u1)) (At1 : Ary Z h u1 .byte [(.int (97 : Int32)), (.int (100 : Int32)), (.int (106 : Int32)), (.int (108 : Int32)), (.int (105 : Int32)), (.int (115 : Int32)), (.int (116 : Int32))]) (O2 : Fld Z h e2 "com/example/eccentra/eccentra/GraphFormat" "optionValue" "Ljava/lang/String;" (.ref t2)) (Et2 : Exa Z h t2 "java/lang/String") (Ct2 : Fld Z h t2 "java/lang/String" "coder" "B" (.int 0)) (Vt2 : Fld Z h t2 "java/lang/String" "value" "[B" (.ref u2)) (At2 : Ary Z h u2 .byte [(.int (109 : Int32)), (.int (116 : Int32)), (.int (120 : Int32))]) (ek : (p0 &&& 2147483647) % 3 = 2) (em : (p1 &&& 2147483647) % 5 = 1) : ConX Z consts_1 [] tables_1 l x code maxLocals ret room_1 #[(.int p0), (.int p1), (.int p2), (.int p3)] h n0 (fun v _ => v = some (.int 1)) := by
  refine ConX.of_W (Ls := #[.val (.int p0), .val (.int p1), .val (.int p2), .val (.int p3), .unset, .unset, .unset, .unset, .unset]) (plainFor_of_name pn_3) hn (fun m => by first | (simp [entryFrame, mkF, argsToLocals, Value.category, maxLocals]; done) | rfl) ?_
  have hv0 := HV.here (Z := Z) (EL := consts_1) (h := h) (S := [])
  refine W.iloadN 1 at_0 rfl rfl ?_
  refine W.ldcI 3 at_1 rfl (wd_0 hw) ?_
  refine W.iand 4 at_3 rfl (p0 &&& (2147483647 : Int32)) rfl ?_
  refine W.iconst 5 at_4 rfl (3 : Int32) rfl ?_
  refine W.irem 6 at_5 rfl (by decide) (2 : Int32) ek ?_
  refine W.istore 8 at_6 rfl #[.val (.int p0), .val (.int p1), .val (.int p2), .val (.int p3), .val (.int (2 : Int32)), .unset, .unset, .unset, .unset] rfl ?_
  refine W.iloadN 9 at_8 rfl rfl ?_
  refine W.ldcI 11 at_9 rfl (wd_0 hw) ?_
  refine W.iand 12 at_11 rfl (p1 &&& (2147483647 : Int32)) rfl ?_
  refine W.iconst 13 at_12 rfl (5 : Int32) rfl ?_
  refine W.irem 14 at_13 rfl (by decide) (1 : Int32) em ?_
  refine W.istore 16 at_14 rfl #[.val (.int p0), .val (.int p1), .val (.int p2), .val (.int p3), .val (.int (2 : Int32)), .val (.int (1 : Int32)), .unset, .unset, .unset] rfl ?_
  refine W.iloadN 17 at_16 rfl rfl ?_
  refine W.sipush 20 at_17 rfl (255 : Int32) rfl ?_
  refine W.iand 21 at_20 rfl (p2 &&& (255 : Int32)) rfl ?_
  refine W.i2c 22 at_21 rfl (p2 &&& (255 : Int32)) (ch_nar (own_m p2)) ?_
  refine W.istore 24 at_22 rfl #[.val (.int p0), .val (.int p1), .val (.int p2), .val (.int p3), .val (.int (2 : Int32)), .val (.int (1 : Int32)), .val (.int (p2 &&& (255 : Int32))), .unset, .unset] rfl ?_
  refine W.iload 26 at_24 rfl rfl ?_
  refine W.if_ne 46 29 at_26 rfl rfl (fun _ => ?_) (fun hc => absurd hc (by decide))
  refine W.iload 48 at_46 rfl rfl ?_
  refine W.iconst 49 at_48 rfl (1 : Int32) rfl ?_
  refine W.icmp_ne 86 52 at_49 rfl rfl (fun hc => absurd (by decide) hc) (fun _ => ?_)
  refine W.iload 54 at_52 rfl rfl ?_
  refine W.callS (rest := []) (argsL := [(.int (2 : Int32))]) 57 at_54 rfl (fun hn => c_full2 l Z a0 hw  _ n0 hn ) (wd_79 hw) (wd_80 hw) (wd_6 hw) (wd_81 hw) (by decide) pd_10 rfl rfl rfl (by decide) 0 (Nat.le_of_ble_eq_true rfl) (by decide) (by decide) (by decide) ?_
  rintro v2459 h2459 ⟨d2459, rfl, sz2459, gd2459, K2459, A2459⟩
  have ne2460 : e0 ≠ d2459 := Nat.ne_of_lt (Nat.lt_of_lt_of_le O0.lt sz2459)
  have ne2461 : e1 ≠ d2459 := Nat.ne_of_lt (Nat.lt_of_lt_of_le O1.lt sz2459)
  have ne2462 : e2 ≠ d2459 := Nat.ne_of_lt (Nat.lt_of_lt_of_le O2.lt sz2459)
  have ne2463 : t0 ≠ d2459 := Nat.ne_of_lt (Nat.lt_of_lt_of_le Et0.lt sz2459)
  have ne2464 : t1 ≠ d2459 := Nat.ne_of_lt (Nat.lt_of_lt_of_le Et1.lt sz2459)
  have ne2465 : t2 ≠ d2459 := Nat.ne_of_lt (Nat.lt_of_lt_of_le Et2.lt sz2459)
  have ne2466 : u0 ≠ d2459 := Nat.ne_of_lt (Nat.lt_of_lt_of_le At0.lt sz2459)
  have ne2467 : u1 ≠ d2459 := Nat.ne_of_lt (Nat.lt_of_lt_of_le At1.lt sz2459)
  have ne2468 : u2 ≠ d2459 := Nat.ne_of_lt (Nat.lt_of_lt_of_le At2.lt sz2459)
  have ne2469 : vv ≠ d2459 := Nat.ne_of_lt (Nat.lt_of_lt_of_le AV.lt sz2459)
  have hv2470 := HV.new hv0 K2459 all0 sz2459
  show WG _ _ _ _ _ _ _ _ _ _ _ _ 1 9 57 #[.val (.int p0), .val (.int p1), .val (.int p2), .val (.int p3), .val (.int (2 : Int32)), .val (.int (1 : Int32)), .val (.int (p2 &&& (255 : Int32))), .unset, .unset] [(.ref d2459)]
  refine W.astore 59 at_57 rfl rfl #[.val (.int p0), .val (.int p1), .val (.int p2), .val (.int p3), .val (.int (2 : Int32)), .val (.int (1 : Int32)), .val (.int (p2 &&& (255 : Int32))), .unset, .val (.ref d2459)] rfl ?_
  refine W.aload 61 at_59 rfl rfl rfl ?_
  refine W.iloadN 62 at_61 rfl rfl ?_
  refine W.ldcI 64 at_62 rfl (wd_0 hw) ?_
  refine W.iand 65 at_64 rfl (p3 &&& (2147483647 : Int32)) rfl ?_
  refine W.aload 67 at_65 rfl rfl rfl ?_
  refine W.arraylength 68 at_67 rfl A2459 (3 : Int32) rfl ?_
  refine W.irem 69 at_68 rfl (by decide) ((p3 &&& (2147483647 : Int32)) % (3 : Int32)) rfl ?_
  refine W.iload 71 at_69 rfl rfl ?_
  refine W.castore 72 at_71 rfl A2459 ((p3 &&& 2147483647) % 3).toNatClampNeg rfl (own_ix p3 3 3 rfl (by decide)).1 (own_ix p3 3 3 rfl (by decide)).2 (p2 &&& (255 : Int32)) (ch_nar (own_m p2)) gd2459 ?_
  intro h2471 W2471 K2471 A2471
  have hv2472 := HV.keep hv2470 K2471 (allS (List.mem_of_getElem? (i := 0) rfl) all0)
  have A2471 : Ary _ _ d2459 .char (iv ([(109 : Int32), (116 : Int32), (120 : Int32)].set ((p3 &&& 2147483647) % 3).toNatClampNeg (p2 &&& (255 : Int32)))) := (iv_set [(109 : Int32), (116 : Int32), (120 : Int32)] _ _) ▸ (show Ary _ _ d2459 .char ((iv [(109 : Int32), (116 : Int32), (120 : Int32)]).set ((p3 &&& 2147483647) % 3).toNatClampNeg (.int (p2 &&& (255 : Int32)))) from A2471)
  refine W.new 75 at_72 rfl (wd_1 hw) (wd_2 hw) (wd_3 hw) (by decide) (by decide) ?_
  intro h2473 o2473 g2473 ge2473 X2473 K2473 E2473 D2473
  have ne2474 : d2459 ≠ o2473 := Nat.ne_of_lt (Nat.lt_of_lt_of_eq A2471.lt g2473.symm)
  have q2475 := ((O0.keep K2459 nin0).keep K2471 (ninS ne2460 nin0))
  have ne2476 : e0 ≠ o2473 := Nat.ne_of_lt (Nat.lt_of_lt_of_eq q2475.lt g2473.symm)
  have q2477 := ((O1.keep K2459 nin0).keep K2471 (ninS ne2461 nin0))
  have ne2478 : e1 ≠ o2473 := Nat.ne_of_lt (Nat.lt_of_lt_of_eq q2477.lt g2473.symm)
  have q2479 := ((O2.keep K2459 nin0).keep K2471 (ninS ne2462 nin0))
  have ne2480 : e2 ≠ o2473 := Nat.ne_of_lt (Nat.lt_of_lt_of_eq q2479.lt g2473.symm)
  have q2481 := ((Et0.keep K2459).keep K2471)
  have ne2482 : t0 ≠ o2473 := Nat.ne_of_lt (Nat.lt_of_lt_of_eq q2481.lt g2473.symm)
  have q2483 := ((Et1.keep K2459).keep K2471)
  have ne2484 : t1 ≠ o2473 := Nat.ne_of_lt (Nat.lt_of_lt_of_eq q2483.lt g2473.symm)
  have q2485 := ((Et2.keep K2459).keep K2471)
  have ne2486 : t2 ≠ o2473 := Nat.ne_of_lt (Nat.lt_of_lt_of_eq q2485.lt g2473.symm)
  have q2487 := ((At0.keep K2459 nin0).keep K2471 (ninS ne2466 nin0))
  have ne2488 : u0 ≠ o2473 := Nat.ne_of_lt (Nat.lt_of_lt_of_eq q2487.lt g2473.symm)
  have q2489 := ((At1.keep K2459 nin0).keep K2471 (ninS ne2467 nin0))
  have ne2490 : u1 ≠ o2473 := Nat.ne_of_lt (Nat.lt_of_lt_of_eq q2489.lt g2473.symm)
  have q2491 := ((At2.keep K2459 nin0).keep K2471 (ninS ne2468 nin0))
  have ne2492 : u2 ≠ o2473 := Nat.ne_of_lt (Nat.lt_of_lt_of_eq q2491.lt g2473.symm)
  have q2493 := ((AV.keep K2459 nin0).keep K2471 (ninS ne2469 nin0))
  have ne2494 : vv ≠ o2473 := Nat.ne_of_lt (Nat.lt_of_lt_of_eq q2493.lt g2473.symm)
  have hv2495 := HV.new hv2472 K2473 all0 (Nat.le_of_eq g2473.symm)
  have f2496 : Fld _ _ o2473 "java/lang/String" "coder" "B" (.int (0 : Int32)) := D2473 (Or.inr (wd_32 hw)) (ty := .byte) (by decide)
  have f2497 : Fld _ _ o2473 "java/lang/String" "value" "[B" .null := D2473 (Or.inr (wd_34 hw)) (ty := (.array .byte)) (by decide)
  show WG _ _ _ _ _ _ _ _ _ _ _ _ 2 13 75 #[.val (.int p0), .val (.int p1), .val (.int p2), .val (.int p3), .val (.int (2 : Int32)), .val (.int (1 : Int32)), .val (.int (p2 &&& (255 : Int32))), .unset, .val (.ref d2459)] [(.ref o2473)]
  refine W.dup 76 at_75 rfl rfl ?_
  refine W.aload 78 at_76 rfl rfl rfl ?_
  have q2498 := (A2471.keep K2473 nin0)
  have q2499 := (Sta.ext X2473 (Sta.wr W2471 (Sta.keepN K2459 all0 FS)))
  refine W.callInit (rest := [(.ref o2473)]) (argsL := [(.ref d2459)]) (a := o2473) 81 at_78 rfl (fun hn => c_i1g l Z a0 hw o2473 d2459 kc hkc ([(109 : Int32), (116 : Int32), (120 : Int32)].set ((p3 &&& 2147483647) % 3).toNatClampNeg (p2 &&& (255 : Int32))) _ n0 hn (Ne.symm ne2474) ge2473 (chSet (chC (ch_k (by decide) (by decide)) (chC (ch_k (by decide) (by decide)) (chC (ch_k (by decide) (by decide)) chN))) (own_m p2)) (by rw [List.length_set]; exact Nat.le_of_ble_eq_true rfl) (by rw [List.length_set]; decide) q2499 E2473 f2496 f2497 q2498) rfl (wd_9 hw) (wd_10 hw) (wd_3 hw) (wd_11 hw) (by decide) pd_11 rfl rfl rfl (by decide) 1 (Nat.le_of_ble_eq_true rfl) (by decide) (by decide) (by decide) ?_
  rintro v2500 h2500 ⟨rfl, K2500, b2500, C2500, V2500, A2500⟩
  have hv2501 := HV.keep hv2495 K2500 (allS (List.mem_of_getElem? (i := 0) rfl) all0)
  show WG _ _ _ _ _ _ _ _ _ _ _ _ 3 29 81 #[.val (.int p0), .val (.int p1), .val (.int p2), .val (.int p3), .val (.int (2 : Int32)), .val (.int (1 : Int32)), .val (.int (p2 &&& (255 : Int32))), .unset, .val (.ref d2459)] [(.ref o2473)]
  refine W.astore 83 at_81 rfl rfl #[.val (.int p0), .val (.int p1), .val (.int p2), .val (.int p3), .val (.int (2 : Int32)), .val (.int (1 : Int32)), .val (.int (p2 &&& (255 : Int32))), .val (.ref o2473), .val (.ref d2459)] rfl ?_
  refine W.goto 173 at_83 rfl ?_
  refine W.aload 175 at_173 rfl rfl rfl ?_
  have q2502 := (Sta.keepN K2500 (allS E2473.nostat all0) q2499)
  have q2503 := (Sta.keepN K2500 (allS E2473.nostat all0) (Sta.ext X2473 (Sta.wr W2471 (Sta.keepN K2459 all0 SV))))
  have q2504 := (Sta.keepN K2500 (allS E2473.nostat all0) (Sta.ext X2473 (Sta.wr W2471 (Sta.keepN K2459 all0 S0))))
  have q2505 := (Sta.keepN K2500 (allS E2473.nostat all0) (Sta.ext X2473 (Sta.wr W2471 (Sta.keepN K2459 all0 S1))))
  have q2506 := (Sta.keepN K2500 (allS E2473.nostat all0) (Sta.ext X2473 (Sta.wr W2471 (Sta.keepN K2459 all0 S2))))
  have q2507 := ((q2493.keep K2473 nin0).keep K2500 (ninS ne2494 nin0))
  have q2508 := ((((EV.keep K2459).keep K2471).keep K2473).keep K2500)
  have q2509 := ((q2475.keep K2473 nin0).keep K2500 (ninS ne2476 nin0))
  have q2510 := ((q2481.keep K2473).keep K2500)
  have q2511 := ((((Ct0.keep K2459 nin0).keep K2471 (ninS ne2463 nin0)).keep K2473 nin0).keep K2500 (ninS ne2482 nin0))
  have q2512 := ((((Vt0.keep K2459 nin0).keep K2471 (ninS ne2463 nin0)).keep K2473 nin0).keep K2500 (ninS ne2482 nin0))
  have q2513 := ((q2487.keep K2473 nin0).keep K2500 (ninS ne2488 nin0))
  have q2514 := ((q2477.keep K2473 nin0).keep K2500 (ninS ne2478 nin0))
  have q2515 := ((q2483.keep K2473).keep K2500)
  have q2516 := ((((Ct1.keep K2459 nin0).keep K2471 (ninS ne2464 nin0)).keep K2473 nin0).keep K2500 (ninS ne2484 nin0))
  have q2517 := ((((Vt1.keep K2459 nin0).keep K2471 (ninS ne2464 nin0)).keep K2473 nin0).keep K2500 (ninS ne2484 nin0))
  have q2518 := ((q2489.keep K2473 nin0).keep K2500 (ninS ne2490 nin0))
  have q2519 := ((q2479.keep K2473 nin0).keep K2500 (ninS ne2480 nin0))
  have q2520 := ((q2485.keep K2473).keep K2500)
  have q2521 := ((((Ct2.keep K2459 nin0).keep K2471 (ninS ne2465 nin0)).keep K2473 nin0).keep K2500 (ninS ne2486 nin0))
  have q2522 := ((((Vt2.keep K2459 nin0).keep K2471 (ninS ne2465 nin0)).keep K2473 nin0).keep K2500 (ninS ne2486 nin0))
  have q2523 := ((q2491.keep K2473 nin0).keep K2500 (ninS ne2492 nin0))
  have q2524 := (E2473.keep K2500)
  refine W.callS (rest := []) (argsL := [(.ref o2473)]) 178 at_175 rfl (fun hn => c_named l Z a0 hw o2473 b2500 kc hkc (([(109 : Int32), (116 : Int32), (120 : Int32)].set ((p3 &&& 2147483647) % 3).toNatClampNeg (p2 &&& (255 : Int32))).map byteOf) e0 e1 e2 t0 t1 t2 u0 u1 u2 vv _ n0 hn q2502 q2503 q2504 q2505 q2506 q2507 q2508 q2509 q2510 q2511 q2512 q2513 q2514 q2515 q2516 q2517 q2518 q2519 q2520 q2521 q2522 q2523 q2524 C2500 V2500 A2500) (wd_35 hw) (wd_36 hw) (wd_37 hw) (wd_38 hw) (by decide) pd_12 rfl rfl rfl (by decide) 0 (Nat.le_of_ble_eq_true rfl) (by decide) (by decide) (by decide) ?_
  rintro v2525 h2525 (⟨q0_2525, rfl, K2525⟩ | ⟨q0_2525, q1_2525, rfl, K2525⟩ | ⟨q0_2525, q1_2525, q2_2525, rfl, K2525⟩ | ⟨q0_2525, q1_2525, q2_2525, rfl, K2525⟩)
  · have hv2526 := HV.keep hv2501 K2525 all0
    show WG _ _ _ _ _ _ _ _ _ _ _ _ 4 32 178 #[.val (.int p0), .val (.int p1), .val (.int p2), .val (.int p3), .val (.int (2 : Int32)), .val (.int (1 : Int32)), .val (.int (p2 &&& (255 : Int32))), .val (.ref o2473), .val (.ref d2459)] [(.ref e0)]
    refine W.astore 180 at_178 rfl rfl #[.val (.int p0), .val (.int p1), .val (.int p2), .val (.int p3), .val (.int (2 : Int32)), .val (.int (1 : Int32)), .val (.int (p2 &&& (255 : Int32))), .val (.ref o2473), .val (.ref e0)] rfl ?_
    refine W.aload 182 at_180 rfl rfl rfl ?_
    refine W.aload 184 at_182 rfl rfl rfl ?_
    have q2527 := (Sta.keepN K2525 all0 q2502)
    have q2528 := (Sta.keepN K2525 all0 q2504)
    have q2529 := (Sta.keepN K2525 all0 q2505)
    have q2530 := (Sta.keepN K2525 all0 q2506)
    have q2531 := (q2524.keep K2525)
    have q2532 := (C2500.keep K2525 nin0)
    have q2533 := (V2500.keep K2525 nin0)
    have q2534 := (A2500.keep K2525 nin0)
    have q2536 := ((q2498.keep K2500 (ninS ne2474 nin0)).keep K2525 nin0)
    refine W.callSX (rest := [(.ref e0)]) (argsL := [(.ref o2473)]) 187 at_184 rfl (fun hn => c_exp0 l Z a0 hw o2473 b2500 kc hkc (([(109 : Int32), (116 : Int32), (120 : Int32)].set ((p3 &&& 2147483647) % 3).toNatClampNeg (p2 &&& (255 : Int32))).map byteOf) e0 e1 e2 _ n0 hn q2527 q2528 q2529 q2530 q2531 q2532 q2533 q2534 q0_2525) (wd_69 hw) (wd_70 hw) (wd_6 hw) (wd_71 hw) (by decide) pd_12 rfl rfl rfl (by decide) 1 (Nat.le_of_ble_eq_true rfl) (by decide) (by decide) (by decide) (own_EL hw) hv2526 (allS q2531.lt (allS q2536.lt all0)) all0 ?_
    rintro v2535 h2535 rfl
    have hv2535 := HV.here (Z := Z) (EL := consts_1) (h := h2535) (S := [o2473, d2459])
    show WG _ _ _ _ _ _ _ _ _ _ _ _ 10 128 187 #[.val (.int p0), .val (.int p1), .val (.int p2), .val (.int p3), .val (.int (2 : Int32)), .val (.int (1 : Int32)), .val (.int (p2 &&& (255 : Int32))), .val (.ref o2473), .val (.ref e0)] [(.ref e0), (.ref e0)]
    refine W.acmp_ne 194 190 at_187 rfl rfl rfl rfl (fun hc => absurd rfl hc) (fun _ => ?_)
    refine W.iconst 191 at_190 rfl (1 : Int32) rfl ?_
    refine W.goto 195 at_191 rfl ?_
    refine WG.retX (own_EL hw) hv2535 ?_
    exact W.ireturnN (t := .boolean) at_195 rfl (by simp) (1 : Int32) rfl ⟨rfl, rfl⟩ (by decide) (by decide)
  · have hv2537 := HV.keep hv2501 K2525 all0
    show WG _ _ _ _ _ _ _ _ _ _ _ _ 4 32 178 #[.val (.int p0), .val (.int p1), .val (.int p2), .val (.int p3), .val (.int (2 : Int32)), .val (.int (1 : Int32)), .val (.int (p2 &&& (255 : Int32))), .val (.ref o2473), .val (.ref d2459)] [(.ref e1)]
    refine W.astore 180 at_178 rfl rfl #[.val (.int p0), .val (.int p1), .val (.int p2), .val (.int p3), .val (.int (2 : Int32)), .val (.int (1 : Int32)), .val (.int (p2 &&& (255 : Int32))), .val (.ref o2473), .val (.ref e1)] rfl ?_
    refine W.aload 182 at_180 rfl rfl rfl ?_
    refine W.aload 184 at_182 rfl rfl rfl ?_
    have q2538 := (Sta.keepN K2525 all0 q2502)
    have q2539 := (Sta.keepN K2525 all0 q2504)
    have q2540 := (Sta.keepN K2525 all0 q2505)
    have q2541 := (Sta.keepN K2525 all0 q2506)
    have q2542 := (q2524.keep K2525)
    have q2543 := (C2500.keep K2525 nin0)
    have q2544 := (V2500.keep K2525 nin0)
    have q2545 := (A2500.keep K2525 nin0)
    have q2547 := ((q2498.keep K2500 (ninS ne2474 nin0)).keep K2525 nin0)
    refine W.callSX (rest := [(.ref e1)]) (argsL := [(.ref o2473)]) 187 at_184 rfl (fun hn => c_exp1 l Z a0 hw o2473 b2500 kc hkc (([(109 : Int32), (116 : Int32), (120 : Int32)].set ((p3 &&& 2147483647) % 3).toNatClampNeg (p2 &&& (255 : Int32))).map byteOf) e0 e1 e2 _ n0 hn q2538 q2539 q2540 q2541 q2542 q2543 q2544 q2545 q0_2525 q1_2525) (wd_69 hw) (wd_70 hw) (wd_6 hw) (wd_71 hw) (by decide) pd_12 rfl rfl rfl (by decide) 1 (Nat.le_of_ble_eq_true rfl) (by decide) (by decide) (by decide) (own_EL hw) hv2537 (allS q2542.lt (allS q2547.lt all0)) all0 ?_
    rintro v2546 h2546 rfl
    have hv2546 := HV.here (Z := Z) (EL := consts_1) (h := h2546) (S := [o2473, d2459])
    show WG _ _ _ _ _ _ _ _ _ _ _ _ 10 128 187 #[.val (.int p0), .val (.int p1), .val (.int p2), .val (.int p3), .val (.int (2 : Int32)), .val (.int (1 : Int32)), .val (.int (p2 &&& (255 : Int32))), .val (.ref o2473), .val (.ref e1)] [(.ref e1), (.ref e1)]
    refine W.acmp_ne 194 190 at_187 rfl rfl rfl rfl (fun hc => absurd rfl hc) (fun _ => ?_)
    refine W.iconst 191 at_190 rfl (1 : Int32) rfl ?_
    refine W.goto 195 at_191 rfl ?_
    refine WG.retX (own_EL hw) hv2546 ?_
    exact W.ireturnN (t := .boolean) at_195 rfl (by simp) (1 : Int32) rfl ⟨rfl, rfl⟩ (by decide) (by decide)
  · have hv2548 := HV.keep hv2501 K2525 all0
    show WG _ _ _ _ _ _ _ _ _ _ _ _ 4 32 178 #[.val (.int p0), .val (.int p1), .val (.int p2), .val (.int p3), .val (.int (2 : Int32)), .val (.int (1 : Int32)), .val (.int (p2 &&& (255 : Int32))), .val (.ref o2473), .val (.ref d2459)] [(.ref e2)]
    refine W.astore 180 at_178 rfl rfl #[.val (.int p0), .val (.int p1), .val (.int p2), .val (.int p3), .val (.int (2 : Int32)), .val (.int (1 : Int32)), .val (.int (p2 &&& (255 : Int32))), .val (.ref o2473), .val (.ref e2)] rfl ?_
    refine W.aload 182 at_180 rfl rfl rfl ?_
    refine W.aload 184 at_182 rfl rfl rfl ?_
    have q2549 := (Sta.keepN K2525 all0 q2502)
    have q2550 := (Sta.keepN K2525 all0 q2504)
    have q2551 := (Sta.keepN K2525 all0 q2505)
    have q2552 := (Sta.keepN K2525 all0 q2506)
    have q2553 := (q2524.keep K2525)
    have q2554 := (C2500.keep K2525 nin0)
    have q2555 := (V2500.keep K2525 nin0)
    have q2556 := (A2500.keep K2525 nin0)
    have q2558 := ((q2498.keep K2500 (ninS ne2474 nin0)).keep K2525 nin0)
    refine W.callSX (rest := [(.ref e2)]) (argsL := [(.ref o2473)]) 187 at_184 rfl (fun hn => c_exp2 l Z a0 hw o2473 b2500 kc hkc (([(109 : Int32), (116 : Int32), (120 : Int32)].set ((p3 &&& 2147483647) % 3).toNatClampNeg (p2 &&& (255 : Int32))).map byteOf) e0 e1 e2 _ n0 hn q2549 q2550 q2551 q2552 q2553 q2554 q2555 q2556 q0_2525 q1_2525 q2_2525) (wd_69 hw) (wd_70 hw) (wd_6 hw) (wd_71 hw) (by decide) pd_12 rfl rfl rfl (by decide) 1 (Nat.le_of_ble_eq_true rfl) (by decide) (by decide) (by decide) (own_EL hw) hv2548 (allS q2553.lt (allS q2558.lt all0)) all0 ?_
    rintro v2557 h2557 rfl
    have hv2557 := HV.here (Z := Z) (EL := consts_1) (h := h2557) (S := [o2473, d2459])
    show WG _ _ _ _ _ _ _ _ _ _ _ _ 10 128 187 #[.val (.int p0), .val (.int p1), .val (.int p2), .val (.int p3), .val (.int (2 : Int32)), .val (.int (1 : Int32)), .val (.int (p2 &&& (255 : Int32))), .val (.ref o2473), .val (.ref e2)] [(.ref e2), (.ref e2)]
    refine W.acmp_ne 194 190 at_187 rfl rfl rfl rfl (fun hc => absurd rfl hc) (fun _ => ?_)
    refine W.iconst 191 at_190 rfl (1 : Int32) rfl ?_
    refine W.goto 195 at_191 rfl ?_
    refine WG.retX (own_EL hw) hv2557 ?_
    exact W.ireturnN (t := .boolean) at_195 rfl (by simp) (1 : Int32) rfl ⟨rfl, rfl⟩ (by decide) (by decide)
  · have hv2559 := HV.keep hv2501 K2525 all0
    show WG _ _ _ _ _ _ _ _ _ _ _ _ 4 32 178 #[.val (.int p0), .val (.int p1), .val (.int p2), .val (.int p3), .val (.int (2 : Int32)), .val (.int (1 : Int32)), .val (.int (p2 &&& (255 : Int32))), .val (.ref o2473), .val (.ref d2459)] [.null]
    refine W.astore 180 at_178 rfl rfl #[.val (.int p0), .val (.int p1), .val (.int p2), .val (.int p3), .val (.int (2 : Int32)), .val (.int (1 : Int32)), .val (.int (p2 &&& (255 : Int32))), .val (.ref o2473), .val .null] rfl ?_
    refine W.aload 182 at_180 rfl rfl rfl ?_
    refine W.aload 184 at_182 rfl rfl rfl ?_
    have q2560 := (Sta.keepN K2525 all0 q2502)
    have q2561 := (Sta.keepN K2525 all0 q2504)
    have q2562 := (Sta.keepN K2525 all0 q2505)
    have q2563 := (Sta.keepN K2525 all0 q2506)
    have q2564 := (q2524.keep K2525)
    have q2565 := (C2500.keep K2525 nin0)
    have q2566 := (V2500.keep K2525 nin0)
    have q2567 := (A2500.keep K2525 nin0)
    have q2569 := ((q2498.keep K2500 (ninS ne2474 nin0)).keep K2525 nin0)
    refine W.callSX (rest := [.null]) (argsL := [(.ref o2473)]) 187 at_184 rfl (fun hn => c_exp3 l Z a0 hw o2473 b2500 kc hkc (([(109 : Int32), (116 : Int32), (120 : Int32)].set ((p3 &&& 2147483647) % 3).toNatClampNeg (p2 &&& (255 : Int32))).map byteOf) e0 e1 e2 _ n0 hn q2560 q2561 q2562 q2563 q2564 q2565 q2566 q2567 q0_2525 q1_2525 q2_2525) (wd_69 hw) (wd_70 hw) (wd_6 hw) (wd_71 hw) (by decide) pd_12 rfl rfl rfl (by decide) 1 (Nat.le_of_ble_eq_true rfl) (by decide) (by decide) (by decide) (own_EL hw) hv2559 (allS q2564.lt (allS q2569.lt all0)) all0 ?_
    rintro v2568 h2568 rfl
    have hv2568 := HV.here (Z := Z) (EL := consts_1) (h := h2568) (S := [o2473, d2459])
    show WG _ _ _ _ _ _ _ _ _ _ _ _ 10 128 187 #[.val (.int p0), .val (.int p1), .val (.int p2), .val (.int p3), .val (.int (2 : Int32)), .val (.int (1 : Int32)), .val (.int (p2 &&& (255 : Int32))), .val (.ref o2473), .val .null] [.null, .null]
    refine W.acmp_ne 194 190 at_187 rfl rfl rfl rfl (fun hc => absurd rfl hc) (fun _ => ?_)
    refine W.iconst 191 at_190 rfl (1 : Int32) rfl ?_
    refine W.goto 195 at_191 rfl ?_
    refine WG.retX (own_EL hw) hv2568 ?_
    exact W.ireturnN (t := .boolean) at_195 rfl (by simp) (1 : Int32) rfl ⟨rfl, rfl⟩ (by decide) (by decide)
theorem law_22 (l : Launch) (Z : State) (a0 : Array Value) (hw : HwT Z a0) (p0 p1 p2 p3 : Int32) (kc : Int32) (hkc : ¬ kc = 0) (e0 e1 e2 t0 t1 t2 u0 u1 u2 vv : Addr) (h : Heap) (n0 : Nat) (hn : n0 ≤ h.size) (FS : Sta Z h "java/lang/String" "COMPACT_STRINGS" "Z" (.int kc)) (SV : Sta Z h "com/example/eccentra/eccentra/GraphFormat" "$VALUES" "[Lcom/example/eccentra/eccentra/GraphFormat;" (.ref vv)) (S0 : Sta Z h "com/example/eccentra/eccentra/GraphFormat" "EDGELIST" "Lcom/example/eccentra/eccentra/GraphFormat;" (.ref e0)) (S1 : Sta Z h "com/example/eccentra/eccentra/GraphFormat" "ADJLIST" "Lcom/example/eccentra/eccentra/GraphFormat;" (.ref e1)) (S2 : Sta Z h "com/example/eccentra/eccentra/GraphFormat" "MTX" "Lcom/example/eccentra/eccentra/GraphFormat;" (.ref e2)) (AV : Ary Z h vv (.object "com/example/eccentra/eccentra/GraphFormat") [.ref e0, .ref e1, .ref e2]) (EV : Exa Z h vv "[Lcom/example/eccentra/eccentra/GraphFormat;") (O0 : Fld Z h e0 "com/example/eccentra/eccentra/GraphFormat" "optionValue" "Ljava/lang/String;" (.ref t0)) (Et0 : Exa Z h t0 "java/lang/String") (Ct0 : Fld Z h t0 "java/lang/String" "coder" "B" (.int 0)) (Vt0 : Fld Z h t0 "java/lang/String" "value" "[B" (.ref u0)) (At0 : Ary Z h u0 .byte [(.int (101 : Int32)), (.int (100 : Int32)), (.int (103 : Int32)), (.int (101 : Int32)), (.int (108 : Int32)), (.int (105 : Int32)), (.int (115 : Int32)), (.int (116 : Int32))]) (O1 : Fld Z h e1 "com/example/eccentra/eccentra/GraphFormat" "optionValue" "Ljava/lang/String;" (.ref t1)) (Et1 : Exa Z h t1 "java/lang/String") (Ct1 : Fld Z h t1 "java/lang/String" "coder" "B" (.int 0)) (Vt1 : Fld Z h t1 "java/lang/String" "value" "[B" (.ref u1)) (At1 : Ary Z h u1 .byte [(.int (97 : Int32)), (.int (100 : Int32)), (.int (106 : Int32)), (.int (108 : Int32)), (.int (105 : Int32)), (.int (115 : Int32)), (.int (116 : Int32))]) (O2 : Fld Z h e2 "com/example/eccentra/eccentra/GraphFormat" "optionValue" "Ljava/lang/String;" (.ref t2)) (Et2 : Exa Z h t2 "java/lang/String") (Ct2 : Fld Z h t2 "java/lang/String" "coder" "B" (.int 0)) (Vt2 : Fld Z h t2 "java/lang/String" "value" "[B" (.ref u2)) (At2 : Ary Z h u2 .byte [(.int (109 : Int32)), (.int (116 : Int32)), (.int (120 : Int32))]) (ek : (p0 &&& 2147483647) % 3 = 2) (em : (p1 &&& 2147483647) % 5 = 2) : ConX Z consts_1 [] tables_1 l x code maxLocals ret room_1 #[(.int p0), (.int p1), (.int p2), (.int p3)] h n0 (fun v _ => v = some (.int 1)) := by
  refine ConX.of_W (Ls := #[.val (.int p0), .val (.int p1), .val (.int p2), .val (.int p3), .unset, .unset, .unset, .unset, .unset]) (plainFor_of_name pn_3) hn (fun m => by first | (simp [entryFrame, mkF, argsToLocals, Value.category, maxLocals]; done) | rfl) ?_
  have hv0 := HV.here (Z := Z) (EL := consts_1) (h := h) (S := [])
  refine W.iloadN 1 at_0 rfl rfl ?_
  refine W.ldcI 3 at_1 rfl (wd_0 hw) ?_
  refine W.iand 4 at_3 rfl (p0 &&& (2147483647 : Int32)) rfl ?_
  refine W.iconst 5 at_4 rfl (3 : Int32) rfl ?_
  refine W.irem 6 at_5 rfl (by decide) (2 : Int32) ek ?_
  refine W.istore 8 at_6 rfl #[.val (.int p0), .val (.int p1), .val (.int p2), .val (.int p3), .val (.int (2 : Int32)), .unset, .unset, .unset, .unset] rfl ?_
  refine W.iloadN 9 at_8 rfl rfl ?_
  refine W.ldcI 11 at_9 rfl (wd_0 hw) ?_
  refine W.iand 12 at_11 rfl (p1 &&& (2147483647 : Int32)) rfl ?_
  refine W.iconst 13 at_12 rfl (5 : Int32) rfl ?_
  refine W.irem 14 at_13 rfl (by decide) (2 : Int32) em ?_
  refine W.istore 16 at_14 rfl #[.val (.int p0), .val (.int p1), .val (.int p2), .val (.int p3), .val (.int (2 : Int32)), .val (.int (2 : Int32)), .unset, .unset, .unset] rfl ?_
  refine W.iloadN 17 at_16 rfl rfl ?_
  refine W.sipush 20 at_17 rfl (255 : Int32) rfl ?_
  refine W.iand 21 at_20 rfl (p2 &&& (255 : Int32)) rfl ?_
  refine W.i2c 22 at_21 rfl (p2 &&& (255 : Int32)) (ch_nar (own_m p2)) ?_
  refine W.istore 24 at_22 rfl #[.val (.int p0), .val (.int p1), .val (.int p2), .val (.int p3), .val (.int (2 : Int32)), .val (.int (2 : Int32)), .val (.int (p2 &&& (255 : Int32))), .unset, .unset] rfl ?_
  refine W.iload 26 at_24 rfl rfl ?_
  refine W.if_ne 46 29 at_26 rfl rfl (fun _ => ?_) (fun hc => absurd hc (by decide))
  refine W.iload 48 at_46 rfl rfl ?_
  refine W.iconst 49 at_48 rfl (1 : Int32) rfl ?_
  refine W.icmp_ne 86 52 at_49 rfl rfl (fun _ => ?_) (fun hc => absurd hc (by decide))
  refine W.iload 88 at_86 rfl rfl ?_
  refine W.iconst 89 at_88 rfl (2 : Int32) rfl ?_
  refine W.icmp_ne 109 92 at_89 rfl rfl (fun hc => absurd (by decide) hc) (fun _ => ?_)
  refine W.new 95 at_92 rfl (wd_1 hw) (wd_2 hw) (wd_3 hw) (by decide) (by decide) ?_
  intro h2570 o2570 g2570 ge2570 X2570 K2570 E2570 D2570
  have ne2571 : e0 ≠ o2570 := Nat.ne_of_lt (Nat.lt_of_lt_of_eq O0.lt g2570.symm)
  have ne2572 : e1 ≠ o2570 := Nat.ne_of_lt (Nat.lt_of_lt_of_eq O1.lt g2570.symm)
  have ne2573 : e2 ≠ o2570 := Nat.ne_of_lt (Nat.lt_of_lt_of_eq O2.lt g2570.symm)
  have ne2574 : t0 ≠ o2570 := Nat.ne_of_lt (Nat.lt_of_lt_of_eq Et0.lt g2570.symm)
  have ne2575 : t1 ≠ o2570 := Nat.ne_of_lt (Nat.lt_of_lt_of_eq Et1.lt g2570.symm)
  have ne2576 : t2 ≠ o2570 := Nat.ne_of_lt (Nat.lt_of_lt_of_eq Et2.lt g2570.symm)
  have ne2577 : u0 ≠ o2570 := Nat.ne_of_lt (Nat.lt_of_lt_of_eq At0.lt g2570.symm)
  have ne2578 : u1 ≠ o2570 := Nat.ne_of_lt (Nat.lt_of_lt_of_eq At1.lt g2570.symm)
  have ne2579 : u2 ≠ o2570 := Nat.ne_of_lt (Nat.lt_of_lt_of_eq At2.lt g2570.symm)
  have ne2580 : vv ≠ o2570 := Nat.ne_of_lt (Nat.lt_of_lt_of_eq AV.lt g2570.symm)
  have hv2581 := HV.new hv0 K2570 all0 (Nat.le_of_eq g2570.symm)
  have f2582 : Fld _ _ o2570 "java/lang/String" "coder" "B" (.int (0 : Int32)) := D2570 (Or.inr (wd_32 hw)) (ty := .byte) (by decide)
  have f2583 : Fld _ _ o2570 "java/lang/String" "value" "[B" .null := D2570 (Or.inr (wd_34 hw)) (ty := (.array .byte)) (by decide)
  show WG _ _ _ _ _ _ _ _ _ _ _ _ 1 4 95 #[.val (.int p0), .val (.int p1), .val (.int p2), .val (.int p3), .val (.int (2 : Int32)), .val (.int (2 : Int32)), .val (.int (p2 &&& (255 : Int32))), .unset, .unset] [(.ref o2570)]
  refine W.dup 96 at_95 rfl rfl ?_
  refine W.iload 98 at_96 rfl rfl ?_
  refine W.callS (rest := [(.ref o2570), (.ref o2570)]) (argsL := [(.int (2 : Int32))]) 101 at_98 rfl (fun hn => c_trunc2 l Z a0 hw  _ n0 hn ) (wd_83 hw) (wd_84 hw) (wd_6 hw) (wd_85 hw) (by decide) pd_10 rfl rfl rfl (by decide) 2 (Nat.le_of_ble_eq_true rfl) (by decide) (by decide) (by decide) ?_
  rintro v2584 h2584 ⟨d2584, rfl, sz2584, gd2584, K2584, A2584⟩
  have q2585 := (O0.keep K2570 nin0)
  have ne2586 : e0 ≠ d2584 := Nat.ne_of_lt (Nat.lt_of_lt_of_le q2585.lt sz2584)
  have q2587 := (O1.keep K2570 nin0)
  have ne2588 : e1 ≠ d2584 := Nat.ne_of_lt (Nat.lt_of_lt_of_le q2587.lt sz2584)
  have q2589 := (O2.keep K2570 nin0)
  have ne2590 : e2 ≠ d2584 := Nat.ne_of_lt (Nat.lt_of_lt_of_le q2589.lt sz2584)
  have ne2591 : o2570 ≠ d2584 := Nat.ne_of_lt (Nat.lt_of_lt_of_le E2570.lt sz2584)
  have q2592 := (Et0.keep K2570)
  have ne2593 : t0 ≠ d2584 := Nat.ne_of_lt (Nat.lt_of_lt_of_le q2592.lt sz2584)
  have q2594 := (Et1.keep K2570)
  have ne2595 : t1 ≠ d2584 := Nat.ne_of_lt (Nat.lt_of_lt_of_le q2594.lt sz2584)
  have q2596 := (Et2.keep K2570)
  have ne2597 : t2 ≠ d2584 := Nat.ne_of_lt (Nat.lt_of_lt_of_le q2596.lt sz2584)
  have q2598 := (At0.keep K2570 nin0)
  have ne2599 : u0 ≠ d2584 := Nat.ne_of_lt (Nat.lt_of_lt_of_le q2598.lt sz2584)
  have q2600 := (At1.keep K2570 nin0)
  have ne2601 : u1 ≠ d2584 := Nat.ne_of_lt (Nat.lt_of_lt_of_le q2600.lt sz2584)
  have q2602 := (At2.keep K2570 nin0)
  have ne2603 : u2 ≠ d2584 := Nat.ne_of_lt (Nat.lt_of_lt_of_le q2602.lt sz2584)
  have q2604 := (AV.keep K2570 nin0)
  have ne2605 : vv ≠ d2584 := Nat.ne_of_lt (Nat.lt_of_lt_of_le q2604.lt sz2584)
  have hv2606 := HV.new hv2581 K2584 all0 sz2584
  show WG _ _ _ _ _ _ _ _ _ _ _ _ 2 13 101 #[.val (.int p0), .val (.int p1), .val (.int p2), .val (.int p3), .val (.int (2 : Int32)), .val (.int (2 : Int32)), .val (.int (p2 &&& (255 : Int32))), .unset, .unset] [(.ref d2584), (.ref o2570), (.ref o2570)]
  have q2607 := (Sta.keepN K2584 all0 (Sta.ext X2570 FS))
  have q2608 := (E2570.keep K2584)
  have q2609 := (f2582.keep K2584 nin0)
  have q2610 := (f2583.keep K2584 nin0)
  refine W.callInit (rest := [(.ref o2570)]) (argsL := [(.ref d2584)]) (a := o2570) 104 at_101 rfl (fun hn => c_i1g l Z a0 hw o2570 d2584 kc hkc [(109 : Int32), (116 : Int32)] _ n0 hn ne2591 ge2570 (chC (ch_k (by decide) (by decide)) (chC (ch_k (by decide) (by decide)) chN)) (Nat.le_of_ble_eq_true rfl) (show ¬ (2 : Nat).toInt32 = 0 by decide) q2607 q2608 q2609 q2610 A2584) rfl (wd_9 hw) (wd_10 hw) (wd_3 hw) (wd_11 hw) (by decide) pd_11 rfl rfl rfl (by decide) 1 (Nat.le_of_ble_eq_true rfl) (by decide) (by decide) (by decide) ?_
  rintro v2611 h2611 ⟨rfl, K2611, b2611, C2611, V2611, A2611⟩
  have hv2612 := HV.keep hv2606 K2611 (allS (List.mem_of_getElem? (i := 1) rfl) all0)
  show WG _ _ _ _ _ _ _ _ _ _ _ _ 3 29 104 #[.val (.int p0), .val (.int p1), .val (.int p2), .val (.int p3), .val (.int (2 : Int32)), .val (.int (2 : Int32)), .val (.int (p2 &&& (255 : Int32))), .unset, .unset] [(.ref o2570)]
  refine W.astore 106 at_104 rfl rfl #[.val (.int p0), .val (.int p1), .val (.int p2), .val (.int p3), .val (.int (2 : Int32)), .val (.int (2 : Int32)), .val (.int (p2 &&& (255 : Int32))), .val (.ref o2570), .unset] rfl ?_
  refine W.goto 173 at_106 rfl ?_
  refine W.aload 175 at_173 rfl rfl rfl ?_
  have q2613 := (Sta.keepN K2611 (allS q2608.nostat all0) q2607)
  have q2614 := (Sta.keepN K2611 (allS q2608.nostat all0) (Sta.keepN K2584 all0 (Sta.ext X2570 SV)))
  have q2615 := (Sta.keepN K2611 (allS q2608.nostat all0) (Sta.keepN K2584 all0 (Sta.ext X2570 S0)))
  have q2616 := (Sta.keepN K2611 (allS q2608.nostat all0) (Sta.keepN K2584 all0 (Sta.ext X2570 S1)))
  have q2617 := (Sta.keepN K2611 (allS q2608.nostat all0) (Sta.keepN K2584 all0 (Sta.ext X2570 S2)))
  have q2618 := ((q2604.keep K2584 nin0).keep K2611 (ninS ne2580 nin0))
  have q2619 := (((EV.keep K2570).keep K2584).keep K2611)
  have q2620 := ((q2585.keep K2584 nin0).keep K2611 (ninS ne2571 nin0))
  have q2621 := ((q2592.keep K2584).keep K2611)
  have q2622 := (((Ct0.keep K2570 nin0).keep K2584 nin0).keep K2611 (ninS ne2574 nin0))
  have q2623 := (((Vt0.keep K2570 nin0).keep K2584 nin0).keep K2611 (ninS ne2574 nin0))
  have q2624 := ((q2598.keep K2584 nin0).keep K2611 (ninS ne2577 nin0))
  have q2625 := ((q2587.keep K2584 nin0).keep K2611 (ninS ne2572 nin0))
  have q2626 := ((q2594.keep K2584).keep K2611)
  have q2627 := (((Ct1.keep K2570 nin0).keep K2584 nin0).keep K2611 (ninS ne2575 nin0))
  have q2628 := (((Vt1.keep K2570 nin0).keep K2584 nin0).keep K2611 (ninS ne2575 nin0))
  have q2629 := ((q2600.keep K2584 nin0).keep K2611 (ninS ne2578 nin0))
  have q2630 := ((q2589.keep K2584 nin0).keep K2611 (ninS ne2573 nin0))
  have q2631 := ((q2596.keep K2584).keep K2611)
  have q2632 := (((Ct2.keep K2570 nin0).keep K2584 nin0).keep K2611 (ninS ne2576 nin0))
  have q2633 := (((Vt2.keep K2570 nin0).keep K2584 nin0).keep K2611 (ninS ne2576 nin0))
  have q2634 := ((q2602.keep K2584 nin0).keep K2611 (ninS ne2579 nin0))
  have q2635 := (q2608.keep K2611)
  refine W.callS (rest := []) (argsL := [(.ref o2570)]) 178 at_175 rfl (fun hn => c_named l Z a0 hw o2570 b2611 kc hkc ([(109 : Int32), (116 : Int32)].map byteOf) e0 e1 e2 t0 t1 t2 u0 u1 u2 vv _ n0 hn q2613 q2614 q2615 q2616 q2617 q2618 q2619 q2620 q2621 q2622 q2623 q2624 q2625 q2626 q2627 q2628 q2629 q2630 q2631 q2632 q2633 q2634 q2635 C2611 V2611 A2611) (wd_35 hw) (wd_36 hw) (wd_37 hw) (wd_38 hw) (by decide) pd_12 rfl rfl rfl (by decide) 0 (Nat.le_of_ble_eq_true rfl) (by decide) (by decide) (by decide) ?_
  rintro v2636 h2636 (⟨q0_2636, rfl, K2636⟩ | ⟨q0_2636, q1_2636, rfl, K2636⟩ | ⟨q0_2636, q1_2636, q2_2636, rfl, K2636⟩ | ⟨q0_2636, q1_2636, q2_2636, rfl, K2636⟩)
  · have hv2637 := HV.keep hv2612 K2636 all0
    show WG _ _ _ _ _ _ _ _ _ _ _ _ 4 32 178 #[.val (.int p0), .val (.int p1), .val (.int p2), .val (.int p3), .val (.int (2 : Int32)), .val (.int (2 : Int32)), .val (.int (p2 &&& (255 : Int32))), .val (.ref o2570), .unset] [(.ref e0)]
    refine W.astore 180 at_178 rfl rfl #[.val (.int p0), .val (.int p1), .val (.int p2), .val (.int p3), .val (.int (2 : Int32)), .val (.int (2 : Int32)), .val (.int (p2 &&& (255 : Int32))), .val (.ref o2570), .val (.ref e0)] rfl ?_
    refine W.aload 182 at_180 rfl rfl rfl ?_
    refine W.aload 184 at_182 rfl rfl rfl ?_
    have q2638 := (Sta.keepN K2636 all0 q2613)
    have q2639 := (Sta.keepN K2636 all0 q2615)
    have q2640 := (Sta.keepN K2636 all0 q2616)
    have q2641 := (Sta.keepN K2636 all0 q2617)
    have q2642 := (q2635.keep K2636)
    have q2643 := (C2611.keep K2636 nin0)
    have q2644 := (V2611.keep K2636 nin0)
    have q2645 := (A2611.keep K2636 nin0)
    have q2647 := ((A2584.keep K2611 (ninS (Ne.symm ne2591) nin0)).keep K2636 nin0)
    refine W.callSX (rest := [(.ref e0)]) (argsL := [(.ref o2570)]) 187 at_184 rfl (fun hn => c_exp0 l Z a0 hw o2570 b2611 kc hkc ([(109 : Int32), (116 : Int32)].map byteOf) e0 e1 e2 _ n0 hn q2638 q2639 q2640 q2641 q2642 q2643 q2644 q2645 q0_2636) (wd_69 hw) (wd_70 hw) (wd_6 hw) (wd_71 hw) (by decide) pd_12 rfl rfl rfl (by decide) 1 (Nat.le_of_ble_eq_true rfl) (by decide) (by decide) (by decide) (own_EL hw) hv2637 (allS q2647.lt (allS q2642.lt all0)) all0 ?_
    rintro v2646 h2646 rfl
    have hv2646 := HV.here (Z := Z) (EL := consts_1) (h := h2646) (S := [d2584, o2570])
    show WG _ _ _ _ _ _ _ _ _ _ _ _ 10 128 187 #[.val (.int p0), .val (.int p1), .val (.int p2), .val (.int p3), .val (.int (2 : Int32)), .val (.int (2 : Int32)), .val (.int (p2 &&& (255 : Int32))), .val (.ref o2570), .val (.ref e0)] [(.ref e0), (.ref e0)]
    refine W.acmp_ne 194 190 at_187 rfl rfl rfl rfl (fun hc => absurd rfl hc) (fun _ => ?_)
    refine W.iconst 191 at_190 rfl (1 : Int32) rfl ?_
    refine W.goto 195 at_191 rfl ?_
    refine WG.retX (own_EL hw) hv2646 ?_
    exact W.ireturnN (t := .boolean) at_195 rfl (by simp) (1 : Int32) rfl ⟨rfl, rfl⟩ (by decide) (by decide)
  · have hv2648 := HV.keep hv2612 K2636 all0
    show WG _ _ _ _ _ _ _ _ _ _ _ _ 4 32 178 #[.val (.int p0), .val (.int p1), .val (.int p2), .val (.int p3), .val (.int (2 : Int32)), .val (.int (2 : Int32)), .val (.int (p2 &&& (255 : Int32))), .val (.ref o2570), .unset] [(.ref e1)]
    refine W.astore 180 at_178 rfl rfl #[.val (.int p0), .val (.int p1), .val (.int p2), .val (.int p3), .val (.int (2 : Int32)), .val (.int (2 : Int32)), .val (.int (p2 &&& (255 : Int32))), .val (.ref o2570), .val (.ref e1)] rfl ?_
    refine W.aload 182 at_180 rfl rfl rfl ?_
    refine W.aload 184 at_182 rfl rfl rfl ?_
    have q2649 := (Sta.keepN K2636 all0 q2613)
    have q2650 := (Sta.keepN K2636 all0 q2615)
    have q2651 := (Sta.keepN K2636 all0 q2616)
    have q2652 := (Sta.keepN K2636 all0 q2617)
    have q2653 := (q2635.keep K2636)
    have q2654 := (C2611.keep K2636 nin0)
    have q2655 := (V2611.keep K2636 nin0)
    have q2656 := (A2611.keep K2636 nin0)
    have q2658 := ((A2584.keep K2611 (ninS (Ne.symm ne2591) nin0)).keep K2636 nin0)
    refine W.callSX (rest := [(.ref e1)]) (argsL := [(.ref o2570)]) 187 at_184 rfl (fun hn => c_exp1 l Z a0 hw o2570 b2611 kc hkc ([(109 : Int32), (116 : Int32)].map byteOf) e0 e1 e2 _ n0 hn q2649 q2650 q2651 q2652 q2653 q2654 q2655 q2656 q0_2636 q1_2636) (wd_69 hw) (wd_70 hw) (wd_6 hw) (wd_71 hw) (by decide) pd_12 rfl rfl rfl (by decide) 1 (Nat.le_of_ble_eq_true rfl) (by decide) (by decide) (by decide) (own_EL hw) hv2648 (allS q2658.lt (allS q2653.lt all0)) all0 ?_
    rintro v2657 h2657 rfl
    have hv2657 := HV.here (Z := Z) (EL := consts_1) (h := h2657) (S := [d2584, o2570])
    show WG _ _ _ _ _ _ _ _ _ _ _ _ 10 128 187 #[.val (.int p0), .val (.int p1), .val (.int p2), .val (.int p3), .val (.int (2 : Int32)), .val (.int (2 : Int32)), .val (.int (p2 &&& (255 : Int32))), .val (.ref o2570), .val (.ref e1)] [(.ref e1), (.ref e1)]
    refine W.acmp_ne 194 190 at_187 rfl rfl rfl rfl (fun hc => absurd rfl hc) (fun _ => ?_)
    refine W.iconst 191 at_190 rfl (1 : Int32) rfl ?_
    refine W.goto 195 at_191 rfl ?_
    refine WG.retX (own_EL hw) hv2657 ?_
    exact W.ireturnN (t := .boolean) at_195 rfl (by simp) (1 : Int32) rfl ⟨rfl, rfl⟩ (by decide) (by decide)
  · have hv2659 := HV.keep hv2612 K2636 all0
    show WG _ _ _ _ _ _ _ _ _ _ _ _ 4 32 178 #[.val (.int p0), .val (.int p1), .val (.int p2), .val (.int p3), .val (.int (2 : Int32)), .val (.int (2 : Int32)), .val (.int (p2 &&& (255 : Int32))), .val (.ref o2570), .unset] [(.ref e2)]
    refine W.astore 180 at_178 rfl rfl #[.val (.int p0), .val (.int p1), .val (.int p2), .val (.int p3), .val (.int (2 : Int32)), .val (.int (2 : Int32)), .val (.int (p2 &&& (255 : Int32))), .val (.ref o2570), .val (.ref e2)] rfl ?_
    refine W.aload 182 at_180 rfl rfl rfl ?_
    refine W.aload 184 at_182 rfl rfl rfl ?_
    have q2660 := (Sta.keepN K2636 all0 q2613)
    have q2661 := (Sta.keepN K2636 all0 q2615)
    have q2662 := (Sta.keepN K2636 all0 q2616)
    have q2663 := (Sta.keepN K2636 all0 q2617)
    have q2664 := (q2635.keep K2636)
    have q2665 := (C2611.keep K2636 nin0)
    have q2666 := (V2611.keep K2636 nin0)
    have q2667 := (A2611.keep K2636 nin0)
    have q2669 := ((A2584.keep K2611 (ninS (Ne.symm ne2591) nin0)).keep K2636 nin0)
    refine W.callSX (rest := [(.ref e2)]) (argsL := [(.ref o2570)]) 187 at_184 rfl (fun hn => c_exp2 l Z a0 hw o2570 b2611 kc hkc ([(109 : Int32), (116 : Int32)].map byteOf) e0 e1 e2 _ n0 hn q2660 q2661 q2662 q2663 q2664 q2665 q2666 q2667 q0_2636 q1_2636 q2_2636) (wd_69 hw) (wd_70 hw) (wd_6 hw) (wd_71 hw) (by decide) pd_12 rfl rfl rfl (by decide) 1 (Nat.le_of_ble_eq_true rfl) (by decide) (by decide) (by decide) (own_EL hw) hv2659 (allS q2669.lt (allS q2664.lt all0)) all0 ?_
    rintro v2668 h2668 rfl
    have hv2668 := HV.here (Z := Z) (EL := consts_1) (h := h2668) (S := [d2584, o2570])
    show WG _ _ _ _ _ _ _ _ _ _ _ _ 10 128 187 #[.val (.int p0), .val (.int p1), .val (.int p2), .val (.int p3), .val (.int (2 : Int32)), .val (.int (2 : Int32)), .val (.int (p2 &&& (255 : Int32))), .val (.ref o2570), .val (.ref e2)] [(.ref e2), (.ref e2)]
    refine W.acmp_ne 194 190 at_187 rfl rfl rfl rfl (fun hc => absurd rfl hc) (fun _ => ?_)
    refine W.iconst 191 at_190 rfl (1 : Int32) rfl ?_
    refine W.goto 195 at_191 rfl ?_
    refine WG.retX (own_EL hw) hv2668 ?_
    exact W.ireturnN (t := .boolean) at_195 rfl (by simp) (1 : Int32) rfl ⟨rfl, rfl⟩ (by decide) (by decide)
  · have hv2670 := HV.keep hv2612 K2636 all0
    show WG _ _ _ _ _ _ _ _ _ _ _ _ 4 32 178 #[.val (.int p0), .val (.int p1), .val (.int p2), .val (.int p3), .val (.int (2 : Int32)), .val (.int (2 : Int32)), .val (.int (p2 &&& (255 : Int32))), .val (.ref o2570), .unset] [.null]
    refine W.astore 180 at_178 rfl rfl #[.val (.int p0), .val (.int p1), .val (.int p2), .val (.int p3), .val (.int (2 : Int32)), .val (.int (2 : Int32)), .val (.int (p2 &&& (255 : Int32))), .val (.ref o2570), .val .null] rfl ?_
    refine W.aload 182 at_180 rfl rfl rfl ?_
    refine W.aload 184 at_182 rfl rfl rfl ?_
    have q2671 := (Sta.keepN K2636 all0 q2613)
    have q2672 := (Sta.keepN K2636 all0 q2615)
    have q2673 := (Sta.keepN K2636 all0 q2616)
    have q2674 := (Sta.keepN K2636 all0 q2617)
    have q2675 := (q2635.keep K2636)
    have q2676 := (C2611.keep K2636 nin0)
    have q2677 := (V2611.keep K2636 nin0)
    have q2678 := (A2611.keep K2636 nin0)
    have q2680 := ((A2584.keep K2611 (ninS (Ne.symm ne2591) nin0)).keep K2636 nin0)
    refine W.callSX (rest := [.null]) (argsL := [(.ref o2570)]) 187 at_184 rfl (fun hn => c_exp3 l Z a0 hw o2570 b2611 kc hkc ([(109 : Int32), (116 : Int32)].map byteOf) e0 e1 e2 _ n0 hn q2671 q2672 q2673 q2674 q2675 q2676 q2677 q2678 q0_2636 q1_2636 q2_2636) (wd_69 hw) (wd_70 hw) (wd_6 hw) (wd_71 hw) (by decide) pd_12 rfl rfl rfl (by decide) 1 (Nat.le_of_ble_eq_true rfl) (by decide) (by decide) (by decide) (own_EL hw) hv2670 (allS q2680.lt (allS q2675.lt all0)) all0 ?_
    rintro v2679 h2679 rfl
    have hv2679 := HV.here (Z := Z) (EL := consts_1) (h := h2679) (S := [d2584, o2570])
    show WG _ _ _ _ _ _ _ _ _ _ _ _ 10 128 187 #[.val (.int p0), .val (.int p1), .val (.int p2), .val (.int p3), .val (.int (2 : Int32)), .val (.int (2 : Int32)), .val (.int (p2 &&& (255 : Int32))), .val (.ref o2570), .val .null] [.null, .null]
    refine W.acmp_ne 194 190 at_187 rfl rfl rfl rfl (fun hc => absurd rfl hc) (fun _ => ?_)
    refine W.iconst 191 at_190 rfl (1 : Int32) rfl ?_
    refine W.goto 195 at_191 rfl ?_
    refine WG.retX (own_EL hw) hv2679 ?_
    exact W.ireturnN (t := .boolean) at_195 rfl (by simp) (1 : Int32) rfl ⟨rfl, rfl⟩ (by decide) (by decide)
theorem law_23 (l : Launch) (Z : State) (a0 : Array Value) (hw : HwT Z a0) (p0 p1 p2 p3 : Int32) (kc : Int32) (hkc : ¬ kc = 0) (e0 e1 e2 t0 t1 t2 u0 u1 u2 vv : Addr) (h : Heap) (n0 : Nat) (hn : n0 ≤ h.size) (FS : Sta Z h "java/lang/String" "COMPACT_STRINGS" "Z" (.int kc)) (SV : Sta Z h "com/example/eccentra/eccentra/GraphFormat" "$VALUES" "[Lcom/example/eccentra/eccentra/GraphFormat;" (.ref vv)) (S0 : Sta Z h "com/example/eccentra/eccentra/GraphFormat" "EDGELIST" "Lcom/example/eccentra/eccentra/GraphFormat;" (.ref e0)) (S1 : Sta Z h "com/example/eccentra/eccentra/GraphFormat" "ADJLIST" "Lcom/example/eccentra/eccentra/GraphFormat;" (.ref e1)) (S2 : Sta Z h "com/example/eccentra/eccentra/GraphFormat" "MTX" "Lcom/example/eccentra/eccentra/GraphFormat;" (.ref e2)) (AV : Ary Z h vv (.object "com/example/eccentra/eccentra/GraphFormat") [.ref e0, .ref e1, .ref e2]) (EV : Exa Z h vv "[Lcom/example/eccentra/eccentra/GraphFormat;") (O0 : Fld Z h e0 "com/example/eccentra/eccentra/GraphFormat" "optionValue" "Ljava/lang/String;" (.ref t0)) (Et0 : Exa Z h t0 "java/lang/String") (Ct0 : Fld Z h t0 "java/lang/String" "coder" "B" (.int 0)) (Vt0 : Fld Z h t0 "java/lang/String" "value" "[B" (.ref u0)) (At0 : Ary Z h u0 .byte [(.int (101 : Int32)), (.int (100 : Int32)), (.int (103 : Int32)), (.int (101 : Int32)), (.int (108 : Int32)), (.int (105 : Int32)), (.int (115 : Int32)), (.int (116 : Int32))]) (O1 : Fld Z h e1 "com/example/eccentra/eccentra/GraphFormat" "optionValue" "Ljava/lang/String;" (.ref t1)) (Et1 : Exa Z h t1 "java/lang/String") (Ct1 : Fld Z h t1 "java/lang/String" "coder" "B" (.int 0)) (Vt1 : Fld Z h t1 "java/lang/String" "value" "[B" (.ref u1)) (At1 : Ary Z h u1 .byte [(.int (97 : Int32)), (.int (100 : Int32)), (.int (106 : Int32)), (.int (108 : Int32)), (.int (105 : Int32)), (.int (115 : Int32)), (.int (116 : Int32))]) (O2 : Fld Z h e2 "com/example/eccentra/eccentra/GraphFormat" "optionValue" "Ljava/lang/String;" (.ref t2)) (Et2 : Exa Z h t2 "java/lang/String") (Ct2 : Fld Z h t2 "java/lang/String" "coder" "B" (.int 0)) (Vt2 : Fld Z h t2 "java/lang/String" "value" "[B" (.ref u2)) (At2 : Ary Z h u2 .byte [(.int (109 : Int32)), (.int (116 : Int32)), (.int (120 : Int32))]) (ek : (p0 &&& 2147483647) % 3 = 2) (em : (p1 &&& 2147483647) % 5 = 3) : ConX Z consts_1 [] tables_1 l x code maxLocals ret room_1 #[(.int p0), (.int p1), (.int p2), (.int p3)] h n0 (fun v _ => v = some (.int 1)) := by
  refine ConX.of_W (Ls := #[.val (.int p0), .val (.int p1), .val (.int p2), .val (.int p3), .unset, .unset, .unset, .unset, .unset]) (plainFor_of_name pn_3) hn (fun m => by first | (simp [entryFrame, mkF, argsToLocals, Value.category, maxLocals]; done) | rfl) ?_
  have hv0 := HV.here (Z := Z) (EL := consts_1) (h := h) (S := [])
  refine W.iloadN 1 at_0 rfl rfl ?_
  refine W.ldcI 3 at_1 rfl (wd_0 hw) ?_
  refine W.iand 4 at_3 rfl (p0 &&& (2147483647 : Int32)) rfl ?_
  refine W.iconst 5 at_4 rfl (3 : Int32) rfl ?_
  refine W.irem 6 at_5 rfl (by decide) (2 : Int32) ek ?_
  refine W.istore 8 at_6 rfl #[.val (.int p0), .val (.int p1), .val (.int p2), .val (.int p3), .val (.int (2 : Int32)), .unset, .unset, .unset, .unset] rfl ?_
  refine W.iloadN 9 at_8 rfl rfl ?_
  refine W.ldcI 11 at_9 rfl (wd_0 hw) ?_
  refine W.iand 12 at_11 rfl (p1 &&& (2147483647 : Int32)) rfl ?_
  refine W.iconst 13 at_12 rfl (5 : Int32) rfl ?_
  refine W.irem 14 at_13 rfl (by decide) (3 : Int32) em ?_
  refine W.istore 16 at_14 rfl #[.val (.int p0), .val (.int p1), .val (.int p2), .val (.int p3), .val (.int (2 : Int32)), .val (.int (3 : Int32)), .unset, .unset, .unset] rfl ?_
  refine W.iloadN 17 at_16 rfl rfl ?_
  refine W.sipush 20 at_17 rfl (255 : Int32) rfl ?_
  refine W.iand 21 at_20 rfl (p2 &&& (255 : Int32)) rfl ?_
  refine W.i2c 22 at_21 rfl (p2 &&& (255 : Int32)) (ch_nar (own_m p2)) ?_
  refine W.istore 24 at_22 rfl #[.val (.int p0), .val (.int p1), .val (.int p2), .val (.int p3), .val (.int (2 : Int32)), .val (.int (3 : Int32)), .val (.int (p2 &&& (255 : Int32))), .unset, .unset] rfl ?_
  refine W.iload 26 at_24 rfl rfl ?_
  refine W.if_ne 46 29 at_26 rfl rfl (fun _ => ?_) (fun hc => absurd hc (by decide))
  refine W.iload 48 at_46 rfl rfl ?_
  refine W.iconst 49 at_48 rfl (1 : Int32) rfl ?_
  refine W.icmp_ne 86 52 at_49 rfl rfl (fun _ => ?_) (fun hc => absurd hc (by decide))
  refine W.iload 88 at_86 rfl rfl ?_
  refine W.iconst 89 at_88 rfl (2 : Int32) rfl ?_
  refine W.icmp_ne 109 92 at_89 rfl rfl (fun _ => ?_) (fun hc => absurd hc (by decide))
  refine W.iload 111 at_109 rfl rfl ?_
  refine W.iconst 112 at_111 rfl (3 : Int32) rfl ?_
  refine W.icmp_ne 134 115 at_112 rfl rfl (fun hc => absurd (by decide) hc) (fun _ => ?_)
  refine W.new 118 at_115 rfl (wd_1 hw) (wd_2 hw) (wd_3 hw) (by decide) (by decide) ?_
  intro h2681 o2681 g2681 ge2681 X2681 K2681 E2681 D2681
  have ne2682 : e0 ≠ o2681 := Nat.ne_of_lt (Nat.lt_of_lt_of_eq O0.lt g2681.symm)
  have ne2683 : e1 ≠ o2681 := Nat.ne_of_lt (Nat.lt_of_lt_of_eq O1.lt g2681.symm)
  have ne2684 : e2 ≠ o2681 := Nat.ne_of_lt (Nat.lt_of_lt_of_eq O2.lt g2681.symm)
  have ne2685 : t0 ≠ o2681 := Nat.ne_of_lt (Nat.lt_of_lt_of_eq Et0.lt g2681.symm)
  have ne2686 : t1 ≠ o2681 := Nat.ne_of_lt (Nat.lt_of_lt_of_eq Et1.lt g2681.symm)
  have ne2687 : t2 ≠ o2681 := Nat.ne_of_lt (Nat.lt_of_lt_of_eq Et2.lt g2681.symm)
  have ne2688 : u0 ≠ o2681 := Nat.ne_of_lt (Nat.lt_of_lt_of_eq At0.lt g2681.symm)
  have ne2689 : u1 ≠ o2681 := Nat.ne_of_lt (Nat.lt_of_lt_of_eq At1.lt g2681.symm)
  have ne2690 : u2 ≠ o2681 := Nat.ne_of_lt (Nat.lt_of_lt_of_eq At2.lt g2681.symm)
  have ne2691 : vv ≠ o2681 := Nat.ne_of_lt (Nat.lt_of_lt_of_eq AV.lt g2681.symm)
  have hv2692 := HV.new hv0 K2681 all0 (Nat.le_of_eq g2681.symm)
  have f2693 : Fld _ _ o2681 "java/lang/String" "coder" "B" (.int (0 : Int32)) := D2681 (Or.inr (wd_32 hw)) (ty := .byte) (by decide)
  have f2694 : Fld _ _ o2681 "java/lang/String" "value" "[B" .null := D2681 (Or.inr (wd_34 hw)) (ty := (.array .byte)) (by decide)
  show WG _ _ _ _ _ _ _ _ _ _ _ _ 1 4 118 #[.val (.int p0), .val (.int p1), .val (.int p2), .val (.int p3), .val (.int (2 : Int32)), .val (.int (3 : Int32)), .val (.int (p2 &&& (255 : Int32))), .unset, .unset] [(.ref o2681)]
  refine W.dup 119 at_118 rfl rfl ?_
  refine W.iload 121 at_119 rfl rfl ?_
  refine W.iload 123 at_121 rfl rfl ?_
  refine W.callS (rest := [(.ref o2681), (.ref o2681)]) (argsL := [(.int (2 : Int32)), (.int (p2 &&& (255 : Int32)))]) 126 at_123 rfl (fun hn => c_ext2 l Z a0 hw (p2 &&& (255 : Int32)) _ n0 hn (own_m p2)) (wd_4 hw) (wd_5 hw) (wd_6 hw) (wd_7 hw) (by decide) pd_13 rfl rfl rfl (by decide) 2 (Nat.le_of_ble_eq_true rfl) (by decide) (by decide) (by decide) ?_
  rintro v2695 h2695 ⟨d2695, rfl, sz2695, gd2695, K2695, A2695⟩
  have q2696 := (O0.keep K2681 nin0)
  have ne2697 : e0 ≠ d2695 := Nat.ne_of_lt (Nat.lt_of_lt_of_le q2696.lt sz2695)
  have q2698 := (O1.keep K2681 nin0)
  have ne2699 : e1 ≠ d2695 := Nat.ne_of_lt (Nat.lt_of_lt_of_le q2698.lt sz2695)
  have q2700 := (O2.keep K2681 nin0)
  have ne2701 : e2 ≠ d2695 := Nat.ne_of_lt (Nat.lt_of_lt_of_le q2700.lt sz2695)
  have ne2702 : o2681 ≠ d2695 := Nat.ne_of_lt (Nat.lt_of_lt_of_le E2681.lt sz2695)
  have q2703 := (Et0.keep K2681)
  have ne2704 : t0 ≠ d2695 := Nat.ne_of_lt (Nat.lt_of_lt_of_le q2703.lt sz2695)
  have q2705 := (Et1.keep K2681)
  have ne2706 : t1 ≠ d2695 := Nat.ne_of_lt (Nat.lt_of_lt_of_le q2705.lt sz2695)
  have q2707 := (Et2.keep K2681)
  have ne2708 : t2 ≠ d2695 := Nat.ne_of_lt (Nat.lt_of_lt_of_le q2707.lt sz2695)
  have q2709 := (At0.keep K2681 nin0)
  have ne2710 : u0 ≠ d2695 := Nat.ne_of_lt (Nat.lt_of_lt_of_le q2709.lt sz2695)
  have q2711 := (At1.keep K2681 nin0)
  have ne2712 : u1 ≠ d2695 := Nat.ne_of_lt (Nat.lt_of_lt_of_le q2711.lt sz2695)
  have q2713 := (At2.keep K2681 nin0)
  have ne2714 : u2 ≠ d2695 := Nat.ne_of_lt (Nat.lt_of_lt_of_le q2713.lt sz2695)
  have q2715 := (AV.keep K2681 nin0)
  have ne2716 : vv ≠ d2695 := Nat.ne_of_lt (Nat.lt_of_lt_of_le q2715.lt sz2695)
  have hv2717 := HV.new hv2692 K2695 all0 sz2695
  show WG _ _ _ _ _ _ _ _ _ _ _ _ 2 13 126 #[.val (.int p0), .val (.int p1), .val (.int p2), .val (.int p3), .val (.int (2 : Int32)), .val (.int (3 : Int32)), .val (.int (p2 &&& (255 : Int32))), .unset, .unset] [(.ref d2695), (.ref o2681), (.ref o2681)]
  have q2718 := (Sta.keepN K2695 all0 (Sta.ext X2681 FS))
  have q2719 := (E2681.keep K2695)
  have q2720 := (f2693.keep K2695 nin0)
  have q2721 := (f2694.keep K2695 nin0)
  refine W.callInit (rest := [(.ref o2681)]) (argsL := [(.ref d2695)]) (a := o2681) 129 at_126 rfl (fun hn => c_i1g l Z a0 hw o2681 d2695 kc hkc [(109 : Int32), (116 : Int32), (120 : Int32), (p2 &&& (255 : Int32))] _ n0 hn ne2702 ge2681 (chC (ch_k (by decide) (by decide)) (chC (ch_k (by decide) (by decide)) (chC (ch_k (by decide) (by decide)) (chC (own_m p2) chN)))) (Nat.le_of_ble_eq_true rfl) (show ¬ (4 : Nat).toInt32 = 0 by decide) q2718 q2719 q2720 q2721 A2695) rfl (wd_9 hw) (wd_10 hw) (wd_3 hw) (wd_11 hw) (by decide) pd_11 rfl rfl rfl (by decide) 1 (Nat.le_of_ble_eq_true rfl) (by decide) (by decide) (by decide) ?_
  rintro v2722 h2722 ⟨rfl, K2722, b2722, C2722, V2722, A2722⟩
  have hv2723 := HV.keep hv2717 K2722 (allS (List.mem_of_getElem? (i := 1) rfl) all0)
  show WG _ _ _ _ _ _ _ _ _ _ _ _ 3 29 129 #[.val (.int p0), .val (.int p1), .val (.int p2), .val (.int p3), .val (.int (2 : Int32)), .val (.int (3 : Int32)), .val (.int (p2 &&& (255 : Int32))), .unset, .unset] [(.ref o2681)]
  refine W.astore 131 at_129 rfl rfl #[.val (.int p0), .val (.int p1), .val (.int p2), .val (.int p3), .val (.int (2 : Int32)), .val (.int (3 : Int32)), .val (.int (p2 &&& (255 : Int32))), .val (.ref o2681), .unset] rfl ?_
  refine W.goto 173 at_131 rfl ?_
  refine W.aload 175 at_173 rfl rfl rfl ?_
  have q2724 := (Sta.keepN K2722 (allS q2719.nostat all0) q2718)
  have q2725 := (Sta.keepN K2722 (allS q2719.nostat all0) (Sta.keepN K2695 all0 (Sta.ext X2681 SV)))
  have q2726 := (Sta.keepN K2722 (allS q2719.nostat all0) (Sta.keepN K2695 all0 (Sta.ext X2681 S0)))
  have q2727 := (Sta.keepN K2722 (allS q2719.nostat all0) (Sta.keepN K2695 all0 (Sta.ext X2681 S1)))
  have q2728 := (Sta.keepN K2722 (allS q2719.nostat all0) (Sta.keepN K2695 all0 (Sta.ext X2681 S2)))
  have q2729 := ((q2715.keep K2695 nin0).keep K2722 (ninS ne2691 nin0))
  have q2730 := (((EV.keep K2681).keep K2695).keep K2722)
  have q2731 := ((q2696.keep K2695 nin0).keep K2722 (ninS ne2682 nin0))
  have q2732 := ((q2703.keep K2695).keep K2722)
  have q2733 := (((Ct0.keep K2681 nin0).keep K2695 nin0).keep K2722 (ninS ne2685 nin0))
  have q2734 := (((Vt0.keep K2681 nin0).keep K2695 nin0).keep K2722 (ninS ne2685 nin0))
  have q2735 := ((q2709.keep K2695 nin0).keep K2722 (ninS ne2688 nin0))
  have q2736 := ((q2698.keep K2695 nin0).keep K2722 (ninS ne2683 nin0))
  have q2737 := ((q2705.keep K2695).keep K2722)
  have q2738 := (((Ct1.keep K2681 nin0).keep K2695 nin0).keep K2722 (ninS ne2686 nin0))
  have q2739 := (((Vt1.keep K2681 nin0).keep K2695 nin0).keep K2722 (ninS ne2686 nin0))
  have q2740 := ((q2711.keep K2695 nin0).keep K2722 (ninS ne2689 nin0))
  have q2741 := ((q2700.keep K2695 nin0).keep K2722 (ninS ne2684 nin0))
  have q2742 := ((q2707.keep K2695).keep K2722)
  have q2743 := (((Ct2.keep K2681 nin0).keep K2695 nin0).keep K2722 (ninS ne2687 nin0))
  have q2744 := (((Vt2.keep K2681 nin0).keep K2695 nin0).keep K2722 (ninS ne2687 nin0))
  have q2745 := ((q2713.keep K2695 nin0).keep K2722 (ninS ne2690 nin0))
  have q2746 := (q2719.keep K2722)
  refine W.callS (rest := []) (argsL := [(.ref o2681)]) 178 at_175 rfl (fun hn => c_named l Z a0 hw o2681 b2722 kc hkc ([(109 : Int32), (116 : Int32), (120 : Int32), (p2 &&& (255 : Int32))].map byteOf) e0 e1 e2 t0 t1 t2 u0 u1 u2 vv _ n0 hn q2724 q2725 q2726 q2727 q2728 q2729 q2730 q2731 q2732 q2733 q2734 q2735 q2736 q2737 q2738 q2739 q2740 q2741 q2742 q2743 q2744 q2745 q2746 C2722 V2722 A2722) (wd_35 hw) (wd_36 hw) (wd_37 hw) (wd_38 hw) (by decide) pd_12 rfl rfl rfl (by decide) 0 (Nat.le_of_ble_eq_true rfl) (by decide) (by decide) (by decide) ?_
  rintro v2747 h2747 (⟨q0_2747, rfl, K2747⟩ | ⟨q0_2747, q1_2747, rfl, K2747⟩ | ⟨q0_2747, q1_2747, q2_2747, rfl, K2747⟩ | ⟨q0_2747, q1_2747, q2_2747, rfl, K2747⟩)
  · have hv2748 := HV.keep hv2723 K2747 all0
    show WG _ _ _ _ _ _ _ _ _ _ _ _ 4 32 178 #[.val (.int p0), .val (.int p1), .val (.int p2), .val (.int p3), .val (.int (2 : Int32)), .val (.int (3 : Int32)), .val (.int (p2 &&& (255 : Int32))), .val (.ref o2681), .unset] [(.ref e0)]
    refine W.astore 180 at_178 rfl rfl #[.val (.int p0), .val (.int p1), .val (.int p2), .val (.int p3), .val (.int (2 : Int32)), .val (.int (3 : Int32)), .val (.int (p2 &&& (255 : Int32))), .val (.ref o2681), .val (.ref e0)] rfl ?_
    refine W.aload 182 at_180 rfl rfl rfl ?_
    refine W.aload 184 at_182 rfl rfl rfl ?_
    have q2749 := (Sta.keepN K2747 all0 q2724)
    have q2750 := (Sta.keepN K2747 all0 q2726)
    have q2751 := (Sta.keepN K2747 all0 q2727)
    have q2752 := (Sta.keepN K2747 all0 q2728)
    have q2753 := (q2746.keep K2747)
    have q2754 := (C2722.keep K2747 nin0)
    have q2755 := (V2722.keep K2747 nin0)
    have q2756 := (A2722.keep K2747 nin0)
    have q2758 := ((A2695.keep K2722 (ninS (Ne.symm ne2702) nin0)).keep K2747 nin0)
    refine W.callSX (rest := [(.ref e0)]) (argsL := [(.ref o2681)]) 187 at_184 rfl (fun hn => c_exp0 l Z a0 hw o2681 b2722 kc hkc ([(109 : Int32), (116 : Int32), (120 : Int32), (p2 &&& (255 : Int32))].map byteOf) e0 e1 e2 _ n0 hn q2749 q2750 q2751 q2752 q2753 q2754 q2755 q2756 q0_2747) (wd_69 hw) (wd_70 hw) (wd_6 hw) (wd_71 hw) (by decide) pd_12 rfl rfl rfl (by decide) 1 (Nat.le_of_ble_eq_true rfl) (by decide) (by decide) (by decide) (own_EL hw) hv2748 (allS q2758.lt (allS q2753.lt all0)) all0 ?_
    rintro v2757 h2757 rfl
    have hv2757 := HV.here (Z := Z) (EL := consts_1) (h := h2757) (S := [d2695, o2681])
    show WG _ _ _ _ _ _ _ _ _ _ _ _ 10 128 187 #[.val (.int p0), .val (.int p1), .val (.int p2), .val (.int p3), .val (.int (2 : Int32)), .val (.int (3 : Int32)), .val (.int (p2 &&& (255 : Int32))), .val (.ref o2681), .val (.ref e0)] [(.ref e0), (.ref e0)]
    refine W.acmp_ne 194 190 at_187 rfl rfl rfl rfl (fun hc => absurd rfl hc) (fun _ => ?_)
    refine W.iconst 191 at_190 rfl (1 : Int32) rfl ?_
    refine W.goto 195 at_191 rfl ?_
    refine WG.retX (own_EL hw) hv2757 ?_
    exact W.ireturnN (t := .boolean) at_195 rfl (by simp) (1 : Int32) rfl ⟨rfl, rfl⟩ (by decide) (by decide)
  · have hv2759 := HV.keep hv2723 K2747 all0
    show WG _ _ _ _ _ _ _ _ _ _ _ _ 4 32 178 #[.val (.int p0), .val (.int p1), .val (.int p2), .val (.int p3), .val (.int (2 : Int32)), .val (.int (3 : Int32)), .val (.int (p2 &&& (255 : Int32))), .val (.ref o2681), .unset] [(.ref e1)]
    refine W.astore 180 at_178 rfl rfl #[.val (.int p0), .val (.int p1), .val (.int p2), .val (.int p3), .val (.int (2 : Int32)), .val (.int (3 : Int32)), .val (.int (p2 &&& (255 : Int32))), .val (.ref o2681), .val (.ref e1)] rfl ?_
    refine W.aload 182 at_180 rfl rfl rfl ?_
    refine W.aload 184 at_182 rfl rfl rfl ?_
    have q2760 := (Sta.keepN K2747 all0 q2724)
    have q2761 := (Sta.keepN K2747 all0 q2726)
    have q2762 := (Sta.keepN K2747 all0 q2727)
    have q2763 := (Sta.keepN K2747 all0 q2728)
    have q2764 := (q2746.keep K2747)
    have q2765 := (C2722.keep K2747 nin0)
    have q2766 := (V2722.keep K2747 nin0)
    have q2767 := (A2722.keep K2747 nin0)
    have q2769 := ((A2695.keep K2722 (ninS (Ne.symm ne2702) nin0)).keep K2747 nin0)
    refine W.callSX (rest := [(.ref e1)]) (argsL := [(.ref o2681)]) 187 at_184 rfl (fun hn => c_exp1 l Z a0 hw o2681 b2722 kc hkc ([(109 : Int32), (116 : Int32), (120 : Int32), (p2 &&& (255 : Int32))].map byteOf) e0 e1 e2 _ n0 hn q2760 q2761 q2762 q2763 q2764 q2765 q2766 q2767 q0_2747 q1_2747) (wd_69 hw) (wd_70 hw) (wd_6 hw) (wd_71 hw) (by decide) pd_12 rfl rfl rfl (by decide) 1 (Nat.le_of_ble_eq_true rfl) (by decide) (by decide) (by decide) (own_EL hw) hv2759 (allS q2769.lt (allS q2764.lt all0)) all0 ?_
    rintro v2768 h2768 rfl
    have hv2768 := HV.here (Z := Z) (EL := consts_1) (h := h2768) (S := [d2695, o2681])
    show WG _ _ _ _ _ _ _ _ _ _ _ _ 10 128 187 #[.val (.int p0), .val (.int p1), .val (.int p2), .val (.int p3), .val (.int (2 : Int32)), .val (.int (3 : Int32)), .val (.int (p2 &&& (255 : Int32))), .val (.ref o2681), .val (.ref e1)] [(.ref e1), (.ref e1)]
    refine W.acmp_ne 194 190 at_187 rfl rfl rfl rfl (fun hc => absurd rfl hc) (fun _ => ?_)
    refine W.iconst 191 at_190 rfl (1 : Int32) rfl ?_
    refine W.goto 195 at_191 rfl ?_
    refine WG.retX (own_EL hw) hv2768 ?_
    exact W.ireturnN (t := .boolean) at_195 rfl (by simp) (1 : Int32) rfl ⟨rfl, rfl⟩ (by decide) (by decide)
  · have hv2770 := HV.keep hv2723 K2747 all0
    show WG _ _ _ _ _ _ _ _ _ _ _ _ 4 32 178 #[.val (.int p0), .val (.int p1), .val (.int p2), .val (.int p3), .val (.int (2 : Int32)), .val (.int (3 : Int32)), .val (.int (p2 &&& (255 : Int32))), .val (.ref o2681), .unset] [(.ref e2)]
    refine W.astore 180 at_178 rfl rfl #[.val (.int p0), .val (.int p1), .val (.int p2), .val (.int p3), .val (.int (2 : Int32)), .val (.int (3 : Int32)), .val (.int (p2 &&& (255 : Int32))), .val (.ref o2681), .val (.ref e2)] rfl ?_
    refine W.aload 182 at_180 rfl rfl rfl ?_
    refine W.aload 184 at_182 rfl rfl rfl ?_
    have q2771 := (Sta.keepN K2747 all0 q2724)
    have q2772 := (Sta.keepN K2747 all0 q2726)
    have q2773 := (Sta.keepN K2747 all0 q2727)
    have q2774 := (Sta.keepN K2747 all0 q2728)
    have q2775 := (q2746.keep K2747)
    have q2776 := (C2722.keep K2747 nin0)
    have q2777 := (V2722.keep K2747 nin0)
    have q2778 := (A2722.keep K2747 nin0)
    have q2780 := ((A2695.keep K2722 (ninS (Ne.symm ne2702) nin0)).keep K2747 nin0)
    refine W.callSX (rest := [(.ref e2)]) (argsL := [(.ref o2681)]) 187 at_184 rfl (fun hn => c_exp2 l Z a0 hw o2681 b2722 kc hkc ([(109 : Int32), (116 : Int32), (120 : Int32), (p2 &&& (255 : Int32))].map byteOf) e0 e1 e2 _ n0 hn q2771 q2772 q2773 q2774 q2775 q2776 q2777 q2778 q0_2747 q1_2747 q2_2747) (wd_69 hw) (wd_70 hw) (wd_6 hw) (wd_71 hw) (by decide) pd_12 rfl rfl rfl (by decide) 1 (Nat.le_of_ble_eq_true rfl) (by decide) (by decide) (by decide) (own_EL hw) hv2770 (allS q2780.lt (allS q2775.lt all0)) all0 ?_
    rintro v2779 h2779 rfl
    have hv2779 := HV.here (Z := Z) (EL := consts_1) (h := h2779) (S := [d2695, o2681])
    show WG _ _ _ _ _ _ _ _ _ _ _ _ 10 128 187 #[.val (.int p0), .val (.int p1), .val (.int p2), .val (.int p3), .val (.int (2 : Int32)), .val (.int (3 : Int32)), .val (.int (p2 &&& (255 : Int32))), .val (.ref o2681), .val (.ref e2)] [(.ref e2), (.ref e2)]
    refine W.acmp_ne 194 190 at_187 rfl rfl rfl rfl (fun hc => absurd rfl hc) (fun _ => ?_)
    refine W.iconst 191 at_190 rfl (1 : Int32) rfl ?_
    refine W.goto 195 at_191 rfl ?_
    refine WG.retX (own_EL hw) hv2779 ?_
    exact W.ireturnN (t := .boolean) at_195 rfl (by simp) (1 : Int32) rfl ⟨rfl, rfl⟩ (by decide) (by decide)
  · have hv2781 := HV.keep hv2723 K2747 all0
    show WG _ _ _ _ _ _ _ _ _ _ _ _ 4 32 178 #[.val (.int p0), .val (.int p1), .val (.int p2), .val (.int p3), .val (.int (2 : Int32)), .val (.int (3 : Int32)), .val (.int (p2 &&& (255 : Int32))), .val (.ref o2681), .unset] [.null]
    refine W.astore 180 at_178 rfl rfl #[.val (.int p0), .val (.int p1), .val (.int p2), .val (.int p3), .val (.int (2 : Int32)), .val (.int (3 : Int32)), .val (.int (p2 &&& (255 : Int32))), .val (.ref o2681), .val .null] rfl ?_
    refine W.aload 182 at_180 rfl rfl rfl ?_
    refine W.aload 184 at_182 rfl rfl rfl ?_
    have q2782 := (Sta.keepN K2747 all0 q2724)
    have q2783 := (Sta.keepN K2747 all0 q2726)
    have q2784 := (Sta.keepN K2747 all0 q2727)
    have q2785 := (Sta.keepN K2747 all0 q2728)
    have q2786 := (q2746.keep K2747)
    have q2787 := (C2722.keep K2747 nin0)
    have q2788 := (V2722.keep K2747 nin0)
    have q2789 := (A2722.keep K2747 nin0)
    have q2791 := ((A2695.keep K2722 (ninS (Ne.symm ne2702) nin0)).keep K2747 nin0)
    refine W.callSX (rest := [.null]) (argsL := [(.ref o2681)]) 187 at_184 rfl (fun hn => c_exp3 l Z a0 hw o2681 b2722 kc hkc ([(109 : Int32), (116 : Int32), (120 : Int32), (p2 &&& (255 : Int32))].map byteOf) e0 e1 e2 _ n0 hn q2782 q2783 q2784 q2785 q2786 q2787 q2788 q2789 q0_2747 q1_2747 q2_2747) (wd_69 hw) (wd_70 hw) (wd_6 hw) (wd_71 hw) (by decide) pd_12 rfl rfl rfl (by decide) 1 (Nat.le_of_ble_eq_true rfl) (by decide) (by decide) (by decide) (own_EL hw) hv2781 (allS q2791.lt (allS q2786.lt all0)) all0 ?_
    rintro v2790 h2790 rfl
    have hv2790 := HV.here (Z := Z) (EL := consts_1) (h := h2790) (S := [d2695, o2681])
    show WG _ _ _ _ _ _ _ _ _ _ _ _ 10 128 187 #[.val (.int p0), .val (.int p1), .val (.int p2), .val (.int p3), .val (.int (2 : Int32)), .val (.int (3 : Int32)), .val (.int (p2 &&& (255 : Int32))), .val (.ref o2681), .val .null] [.null, .null]
    refine W.acmp_ne 194 190 at_187 rfl rfl rfl rfl (fun hc => absurd rfl hc) (fun _ => ?_)
    refine W.iconst 191 at_190 rfl (1 : Int32) rfl ?_
    refine W.goto 195 at_191 rfl ?_
    refine WG.retX (own_EL hw) hv2790 ?_
    exact W.ireturnN (t := .boolean) at_195 rfl (by simp) (1 : Int32) rfl ⟨rfl, rfl⟩ (by decide) (by decide)
theorem law_24 (l : Launch) (Z : State) (a0 : Array Value) (hw : HwT Z a0) (p0 p1 p2 p3 : Int32) (kc : Int32) (hkc : ¬ kc = 0) (e0 e1 e2 t0 t1 t2 u0 u1 u2 vv : Addr) (h : Heap) (n0 : Nat) (hn : n0 ≤ h.size) (FS : Sta Z h "java/lang/String" "COMPACT_STRINGS" "Z" (.int kc)) (SV : Sta Z h "com/example/eccentra/eccentra/GraphFormat" "$VALUES" "[Lcom/example/eccentra/eccentra/GraphFormat;" (.ref vv)) (S0 : Sta Z h "com/example/eccentra/eccentra/GraphFormat" "EDGELIST" "Lcom/example/eccentra/eccentra/GraphFormat;" (.ref e0)) (S1 : Sta Z h "com/example/eccentra/eccentra/GraphFormat" "ADJLIST" "Lcom/example/eccentra/eccentra/GraphFormat;" (.ref e1)) (S2 : Sta Z h "com/example/eccentra/eccentra/GraphFormat" "MTX" "Lcom/example/eccentra/eccentra/GraphFormat;" (.ref e2)) (AV : Ary Z h vv (.object "com/example/eccentra/eccentra/GraphFormat") [.ref e0, .ref e1, .ref e2]) (EV : Exa Z h vv "[Lcom/example/eccentra/eccentra/GraphFormat;") (O0 : Fld Z h e0 "com/example/eccentra/eccentra/GraphFormat" "optionValue" "Ljava/lang/String;" (.ref t0)) (Et0 : Exa Z h t0 "java/lang/String") (Ct0 : Fld Z h t0 "java/lang/String" "coder" "B" (.int 0)) (Vt0 : Fld Z h t0 "java/lang/String" "value" "[B" (.ref u0)) (At0 : Ary Z h u0 .byte [(.int (101 : Int32)), (.int (100 : Int32)), (.int (103 : Int32)), (.int (101 : Int32)), (.int (108 : Int32)), (.int (105 : Int32)), (.int (115 : Int32)), (.int (116 : Int32))]) (O1 : Fld Z h e1 "com/example/eccentra/eccentra/GraphFormat" "optionValue" "Ljava/lang/String;" (.ref t1)) (Et1 : Exa Z h t1 "java/lang/String") (Ct1 : Fld Z h t1 "java/lang/String" "coder" "B" (.int 0)) (Vt1 : Fld Z h t1 "java/lang/String" "value" "[B" (.ref u1)) (At1 : Ary Z h u1 .byte [(.int (97 : Int32)), (.int (100 : Int32)), (.int (106 : Int32)), (.int (108 : Int32)), (.int (105 : Int32)), (.int (115 : Int32)), (.int (116 : Int32))]) (O2 : Fld Z h e2 "com/example/eccentra/eccentra/GraphFormat" "optionValue" "Ljava/lang/String;" (.ref t2)) (Et2 : Exa Z h t2 "java/lang/String") (Ct2 : Fld Z h t2 "java/lang/String" "coder" "B" (.int 0)) (Vt2 : Fld Z h t2 "java/lang/String" "value" "[B" (.ref u2)) (At2 : Ary Z h u2 .byte [(.int (109 : Int32)), (.int (116 : Int32)), (.int (120 : Int32))]) (ek : (p0 &&& 2147483647) % 3 = 2) (em : (p1 &&& 2147483647) % 5 = 4) : ConX Z consts_1 [] tables_1 l x code maxLocals ret room_1 #[(.int p0), (.int p1), (.int p2), (.int p3)] h n0 (fun v _ => v = some (.int 1)) := by
  refine ConX.of_W (Ls := #[.val (.int p0), .val (.int p1), .val (.int p2), .val (.int p3), .unset, .unset, .unset, .unset, .unset]) (plainFor_of_name pn_3) hn (fun m => by first | (simp [entryFrame, mkF, argsToLocals, Value.category, maxLocals]; done) | rfl) ?_
  have hv0 := HV.here (Z := Z) (EL := consts_1) (h := h) (S := [])
  refine W.iloadN 1 at_0 rfl rfl ?_
  refine W.ldcI 3 at_1 rfl (wd_0 hw) ?_
  refine W.iand 4 at_3 rfl (p0 &&& (2147483647 : Int32)) rfl ?_
  refine W.iconst 5 at_4 rfl (3 : Int32) rfl ?_
  refine W.irem 6 at_5 rfl (by decide) (2 : Int32) ek ?_
  refine W.istore 8 at_6 rfl #[.val (.int p0), .val (.int p1), .val (.int p2), .val (.int p3), .val (.int (2 : Int32)), .unset, .unset, .unset, .unset] rfl ?_
  refine W.iloadN 9 at_8 rfl rfl ?_
  refine W.ldcI 11 at_9 rfl (wd_0 hw) ?_
  refine W.iand 12 at_11 rfl (p1 &&& (2147483647 : Int32)) rfl ?_
  refine W.iconst 13 at_12 rfl (5 : Int32) rfl ?_
  refine W.irem 14 at_13 rfl (by decide) (4 : Int32) em ?_
  refine W.istore 16 at_14 rfl #[.val (.int p0), .val (.int p1), .val (.int p2), .val (.int p3), .val (.int (2 : Int32)), .val (.int (4 : Int32)), .unset, .unset, .unset] rfl ?_
  refine W.iloadN 17 at_16 rfl rfl ?_
  refine W.sipush 20 at_17 rfl (255 : Int32) rfl ?_
  refine W.iand 21 at_20 rfl (p2 &&& (255 : Int32)) rfl ?_
  refine W.i2c 22 at_21 rfl (p2 &&& (255 : Int32)) (ch_nar (own_m p2)) ?_
  refine W.istore 24 at_22 rfl #[.val (.int p0), .val (.int p1), .val (.int p2), .val (.int p3), .val (.int (2 : Int32)), .val (.int (4 : Int32)), .val (.int (p2 &&& (255 : Int32))), .unset, .unset] rfl ?_
  refine W.iload 26 at_24 rfl rfl ?_
  refine W.if_ne 46 29 at_26 rfl rfl (fun _ => ?_) (fun hc => absurd hc (by decide))
  refine W.iload 48 at_46 rfl rfl ?_
  refine W.iconst 49 at_48 rfl (1 : Int32) rfl ?_
  refine W.icmp_ne 86 52 at_49 rfl rfl (fun _ => ?_) (fun hc => absurd hc (by decide))
  refine W.iload 88 at_86 rfl rfl ?_
  refine W.iconst 89 at_88 rfl (2 : Int32) rfl ?_
  refine W.icmp_ne 109 92 at_89 rfl rfl (fun _ => ?_) (fun hc => absurd hc (by decide))
  refine W.iload 111 at_109 rfl rfl ?_
  refine W.iconst 112 at_111 rfl (3 : Int32) rfl ?_
  refine W.icmp_ne 134 115 at_112 rfl rfl (fun _ => ?_) (fun hc => absurd hc (by decide))
  refine W.iload 136 at_134 rfl rfl ?_
  refine W.if_ne 145 139 at_136 rfl rfl (fun _ => ?_) (fun hc => absurd hc (by decide))
  refine W.iload 147 at_145 rfl rfl ?_
  refine W.iconst 148 at_147 rfl (1 : Int32) rfl ?_
  refine W.icmp_ne 166 151 at_148 rfl rfl (fun _ => ?_) (fun hc => absurd hc (by decide))
  refine W.iload 168 at_166 rfl rfl ?_
  refine W.callS (rest := []) (argsL := [(.int (p2 &&& (255 : Int32)))]) 171 at_168 rfl (fun hn => c_vo l Z a0 hw (p2 &&& (255 : Int32)) kc hkc _ n0 hn (own_m p2) FS) (wd_88 hw) (wd_89 hw) (wd_3 hw) (wd_90 hw) (by decide) pd_14 rfl rfl rfl (by decide) 0 (Nat.le_of_ble_eq_true rfl) (by decide) (by decide) (by decide) ?_
  rintro v2792 h2792 ⟨r2792, b2792, rfl, K2792, E2792, C2792, V2792, A2792⟩
  have hv2793 := HV.keep hv0 K2792 all0
  show WG _ _ _ _ _ _ _ _ _ _ _ _ 2 5 171 #[.val (.int p0), .val (.int p1), .val (.int p2), .val (.int p3), .val (.int (2 : Int32)), .val (.int (4 : Int32)), .val (.int (p2 &&& (255 : Int32))), .unset, .unset] [(.ref r2792)]
  refine W.astore 173 at_171 rfl rfl #[.val (.int p0), .val (.int p1), .val (.int p2), .val (.int p3), .val (.int (2 : Int32)), .val (.int (4 : Int32)), .val (.int (p2 &&& (255 : Int32))), .val (.ref r2792), .unset] rfl ?_
  refine W.aload 175 at_173 rfl rfl rfl ?_
  have q2794 := (Sta.keepN K2792 all0 FS)
  have q2795 := (Sta.keepN K2792 all0 SV)
  have q2796 := (Sta.keepN K2792 all0 S0)
  have q2797 := (Sta.keepN K2792 all0 S1)
  have q2798 := (Sta.keepN K2792 all0 S2)
  have q2799 := (AV.keep K2792 nin0)
  have q2800 := (EV.keep K2792)
  have q2801 := (O0.keep K2792 nin0)
  have q2802 := (Et0.keep K2792)
  have q2803 := (Ct0.keep K2792 nin0)
  have q2804 := (Vt0.keep K2792 nin0)
  have q2805 := (At0.keep K2792 nin0)
  have q2806 := (O1.keep K2792 nin0)
  have q2807 := (Et1.keep K2792)
  have q2808 := (Ct1.keep K2792 nin0)
  have q2809 := (Vt1.keep K2792 nin0)
  have q2810 := (At1.keep K2792 nin0)
  have q2811 := (O2.keep K2792 nin0)
  have q2812 := (Et2.keep K2792)
  have q2813 := (Ct2.keep K2792 nin0)
  have q2814 := (Vt2.keep K2792 nin0)
  have q2815 := (At2.keep K2792 nin0)
  refine W.callS (rest := []) (argsL := [(.ref r2792)]) 178 at_175 rfl (fun hn => c_named l Z a0 hw r2792 b2792 kc hkc [((p2 &&& (255 : Int32)).toInt8.toInt32)] e0 e1 e2 t0 t1 t2 u0 u1 u2 vv _ n0 hn q2794 q2795 q2796 q2797 q2798 q2799 q2800 q2801 q2802 q2803 q2804 q2805 q2806 q2807 q2808 q2809 q2810 q2811 q2812 q2813 q2814 q2815 E2792 C2792 V2792 A2792) (wd_35 hw) (wd_36 hw) (wd_37 hw) (wd_38 hw) (by decide) pd_12 rfl rfl rfl (by decide) 0 (Nat.le_of_ble_eq_true rfl) (by decide) (by decide) (by decide) ?_
  rintro v2816 h2816 (⟨q0_2816, rfl, K2816⟩ | ⟨q0_2816, q1_2816, rfl, K2816⟩ | ⟨q0_2816, q1_2816, q2_2816, rfl, K2816⟩ | ⟨q0_2816, q1_2816, q2_2816, rfl, K2816⟩)
  · have hv2817 := HV.keep hv2793 K2816 all0
    show WG _ _ _ _ _ _ _ _ _ _ _ _ 3 8 178 #[.val (.int p0), .val (.int p1), .val (.int p2), .val (.int p3), .val (.int (2 : Int32)), .val (.int (4 : Int32)), .val (.int (p2 &&& (255 : Int32))), .val (.ref r2792), .unset] [(.ref e0)]
    refine W.astore 180 at_178 rfl rfl #[.val (.int p0), .val (.int p1), .val (.int p2), .val (.int p3), .val (.int (2 : Int32)), .val (.int (4 : Int32)), .val (.int (p2 &&& (255 : Int32))), .val (.ref r2792), .val (.ref e0)] rfl ?_
    refine W.aload 182 at_180 rfl rfl rfl ?_
    refine W.aload 184 at_182 rfl rfl rfl ?_
    have q2818 := (Sta.keepN K2816 all0 q2794)
    have q2819 := (Sta.keepN K2816 all0 q2796)
    have q2820 := (Sta.keepN K2816 all0 q2797)
    have q2821 := (Sta.keepN K2816 all0 q2798)
    have q2822 := (E2792.keep K2816)
    have q2823 := (C2792.keep K2816 nin0)
    have q2824 := (V2792.keep K2816 nin0)
    have q2825 := (A2792.keep K2816 nin0)
    refine W.callSX (rest := [(.ref e0)]) (argsL := [(.ref r2792)]) 187 at_184 rfl (fun hn => c_exp0 l Z a0 hw r2792 b2792 kc hkc [((p2 &&& (255 : Int32)).toInt8.toInt32)] e0 e1 e2 _ n0 hn q2818 q2819 q2820 q2821 q2822 q2823 q2824 q2825 q0_2816) (wd_69 hw) (wd_70 hw) (wd_6 hw) (wd_71 hw) (by decide) pd_12 rfl rfl rfl (by decide) 1 (Nat.le_of_ble_eq_true rfl) (by decide) (by decide) (by decide) (own_EL hw) hv2817 all0 all0 ?_
    rintro v2826 h2826 rfl
    have hv2826 := HV.here (Z := Z) (EL := consts_1) (h := h2826) (S := [])
    show WG _ _ _ _ _ _ _ _ _ _ _ _ 9 104 187 #[.val (.int p0), .val (.int p1), .val (.int p2), .val (.int p3), .val (.int (2 : Int32)), .val (.int (4 : Int32)), .val (.int (p2 &&& (255 : Int32))), .val (.ref r2792), .val (.ref e0)] [(.ref e0), (.ref e0)]
    refine W.acmp_ne 194 190 at_187 rfl rfl rfl rfl (fun hc => absurd rfl hc) (fun _ => ?_)
    refine W.iconst 191 at_190 rfl (1 : Int32) rfl ?_
    refine W.goto 195 at_191 rfl ?_
    refine WG.retX (own_EL hw) hv2826 ?_
    exact W.ireturnN (t := .boolean) at_195 rfl (by simp) (1 : Int32) rfl ⟨rfl, rfl⟩ (by decide) (by decide)
  · have hv2827 := HV.keep hv2793 K2816 all0
    show WG _ _ _ _ _ _ _ _ _ _ _ _ 3 8 178 #[.val (.int p0), .val (.int p1), .val (.int p2), .val (.int p3), .val (.int (2 : Int32)), .val (.int (4 : Int32)), .val (.int (p2 &&& (255 : Int32))), .val (.ref r2792), .unset] [(.ref e1)]
    refine W.astore 180 at_178 rfl rfl #[.val (.int p0), .val (.int p1), .val (.int p2), .val (.int p3), .val (.int (2 : Int32)), .val (.int (4 : Int32)), .val (.int (p2 &&& (255 : Int32))), .val (.ref r2792), .val (.ref e1)] rfl ?_
    refine W.aload 182 at_180 rfl rfl rfl ?_
    refine W.aload 184 at_182 rfl rfl rfl ?_
    have q2828 := (Sta.keepN K2816 all0 q2794)
    have q2829 := (Sta.keepN K2816 all0 q2796)
    have q2830 := (Sta.keepN K2816 all0 q2797)
    have q2831 := (Sta.keepN K2816 all0 q2798)
    have q2832 := (E2792.keep K2816)
    have q2833 := (C2792.keep K2816 nin0)
    have q2834 := (V2792.keep K2816 nin0)
    have q2835 := (A2792.keep K2816 nin0)
    refine W.callSX (rest := [(.ref e1)]) (argsL := [(.ref r2792)]) 187 at_184 rfl (fun hn => c_exp1 l Z a0 hw r2792 b2792 kc hkc [((p2 &&& (255 : Int32)).toInt8.toInt32)] e0 e1 e2 _ n0 hn q2828 q2829 q2830 q2831 q2832 q2833 q2834 q2835 q0_2816 q1_2816) (wd_69 hw) (wd_70 hw) (wd_6 hw) (wd_71 hw) (by decide) pd_12 rfl rfl rfl (by decide) 1 (Nat.le_of_ble_eq_true rfl) (by decide) (by decide) (by decide) (own_EL hw) hv2827 all0 all0 ?_
    rintro v2836 h2836 rfl
    have hv2836 := HV.here (Z := Z) (EL := consts_1) (h := h2836) (S := [])
    show WG _ _ _ _ _ _ _ _ _ _ _ _ 9 104 187 #[.val (.int p0), .val (.int p1), .val (.int p2), .val (.int p3), .val (.int (2 : Int32)), .val (.int (4 : Int32)), .val (.int (p2 &&& (255 : Int32))), .val (.ref r2792), .val (.ref e1)] [(.ref e1), (.ref e1)]
    refine W.acmp_ne 194 190 at_187 rfl rfl rfl rfl (fun hc => absurd rfl hc) (fun _ => ?_)
    refine W.iconst 191 at_190 rfl (1 : Int32) rfl ?_
    refine W.goto 195 at_191 rfl ?_
    refine WG.retX (own_EL hw) hv2836 ?_
    exact W.ireturnN (t := .boolean) at_195 rfl (by simp) (1 : Int32) rfl ⟨rfl, rfl⟩ (by decide) (by decide)
  · have hv2837 := HV.keep hv2793 K2816 all0
    show WG _ _ _ _ _ _ _ _ _ _ _ _ 3 8 178 #[.val (.int p0), .val (.int p1), .val (.int p2), .val (.int p3), .val (.int (2 : Int32)), .val (.int (4 : Int32)), .val (.int (p2 &&& (255 : Int32))), .val (.ref r2792), .unset] [(.ref e2)]
    refine W.astore 180 at_178 rfl rfl #[.val (.int p0), .val (.int p1), .val (.int p2), .val (.int p3), .val (.int (2 : Int32)), .val (.int (4 : Int32)), .val (.int (p2 &&& (255 : Int32))), .val (.ref r2792), .val (.ref e2)] rfl ?_
    refine W.aload 182 at_180 rfl rfl rfl ?_
    refine W.aload 184 at_182 rfl rfl rfl ?_
    have q2838 := (Sta.keepN K2816 all0 q2794)
    have q2839 := (Sta.keepN K2816 all0 q2796)
    have q2840 := (Sta.keepN K2816 all0 q2797)
    have q2841 := (Sta.keepN K2816 all0 q2798)
    have q2842 := (E2792.keep K2816)
    have q2843 := (C2792.keep K2816 nin0)
    have q2844 := (V2792.keep K2816 nin0)
    have q2845 := (A2792.keep K2816 nin0)
    refine W.callSX (rest := [(.ref e2)]) (argsL := [(.ref r2792)]) 187 at_184 rfl (fun hn => c_exp2 l Z a0 hw r2792 b2792 kc hkc [((p2 &&& (255 : Int32)).toInt8.toInt32)] e0 e1 e2 _ n0 hn q2838 q2839 q2840 q2841 q2842 q2843 q2844 q2845 q0_2816 q1_2816 q2_2816) (wd_69 hw) (wd_70 hw) (wd_6 hw) (wd_71 hw) (by decide) pd_12 rfl rfl rfl (by decide) 1 (Nat.le_of_ble_eq_true rfl) (by decide) (by decide) (by decide) (own_EL hw) hv2837 all0 all0 ?_
    rintro v2846 h2846 rfl
    have hv2846 := HV.here (Z := Z) (EL := consts_1) (h := h2846) (S := [])
    show WG _ _ _ _ _ _ _ _ _ _ _ _ 9 104 187 #[.val (.int p0), .val (.int p1), .val (.int p2), .val (.int p3), .val (.int (2 : Int32)), .val (.int (4 : Int32)), .val (.int (p2 &&& (255 : Int32))), .val (.ref r2792), .val (.ref e2)] [(.ref e2), (.ref e2)]
    refine W.acmp_ne 194 190 at_187 rfl rfl rfl rfl (fun hc => absurd rfl hc) (fun _ => ?_)
    refine W.iconst 191 at_190 rfl (1 : Int32) rfl ?_
    refine W.goto 195 at_191 rfl ?_
    refine WG.retX (own_EL hw) hv2846 ?_
    exact W.ireturnN (t := .boolean) at_195 rfl (by simp) (1 : Int32) rfl ⟨rfl, rfl⟩ (by decide) (by decide)
  · have hv2847 := HV.keep hv2793 K2816 all0
    show WG _ _ _ _ _ _ _ _ _ _ _ _ 3 8 178 #[.val (.int p0), .val (.int p1), .val (.int p2), .val (.int p3), .val (.int (2 : Int32)), .val (.int (4 : Int32)), .val (.int (p2 &&& (255 : Int32))), .val (.ref r2792), .unset] [.null]
    refine W.astore 180 at_178 rfl rfl #[.val (.int p0), .val (.int p1), .val (.int p2), .val (.int p3), .val (.int (2 : Int32)), .val (.int (4 : Int32)), .val (.int (p2 &&& (255 : Int32))), .val (.ref r2792), .val .null] rfl ?_
    refine W.aload 182 at_180 rfl rfl rfl ?_
    refine W.aload 184 at_182 rfl rfl rfl ?_
    have q2848 := (Sta.keepN K2816 all0 q2794)
    have q2849 := (Sta.keepN K2816 all0 q2796)
    have q2850 := (Sta.keepN K2816 all0 q2797)
    have q2851 := (Sta.keepN K2816 all0 q2798)
    have q2852 := (E2792.keep K2816)
    have q2853 := (C2792.keep K2816 nin0)
    have q2854 := (V2792.keep K2816 nin0)
    have q2855 := (A2792.keep K2816 nin0)
    refine W.callSX (rest := [.null]) (argsL := [(.ref r2792)]) 187 at_184 rfl (fun hn => c_exp3 l Z a0 hw r2792 b2792 kc hkc [((p2 &&& (255 : Int32)).toInt8.toInt32)] e0 e1 e2 _ n0 hn q2848 q2849 q2850 q2851 q2852 q2853 q2854 q2855 q0_2816 q1_2816 q2_2816) (wd_69 hw) (wd_70 hw) (wd_6 hw) (wd_71 hw) (by decide) pd_12 rfl rfl rfl (by decide) 1 (Nat.le_of_ble_eq_true rfl) (by decide) (by decide) (by decide) (own_EL hw) hv2847 all0 all0 ?_
    rintro v2856 h2856 rfl
    have hv2856 := HV.here (Z := Z) (EL := consts_1) (h := h2856) (S := [])
    show WG _ _ _ _ _ _ _ _ _ _ _ _ 9 104 187 #[.val (.int p0), .val (.int p1), .val (.int p2), .val (.int p3), .val (.int (2 : Int32)), .val (.int (4 : Int32)), .val (.int (p2 &&& (255 : Int32))), .val (.ref r2792), .val .null] [.null, .null]
    refine W.acmp_ne 194 190 at_187 rfl rfl rfl rfl (fun hc => absurd rfl hc) (fun _ => ?_)
    refine W.iconst 191 at_190 rfl (1 : Int32) rfl ?_
    refine W.goto 195 at_191 rfl ?_
    refine WG.retX (own_EL hw) hv2856 ?_
    exact W.ireturnN (t := .boolean) at_195 rfl (by simp) (1 : Int32) rfl ⟨rfl, rfl⟩ (by decide) (by decide)
theorem law_ok (l : Launch) (Z : State) (a0 : Array Value) (hw : HwT Z a0) (p0 p1 p2 p3 : Int32) (kc : Int32) (hkc : ¬ kc = 0) (e0 e1 e2 t0 t1 t2 u0 u1 u2 vv : Addr) (h : Heap) (n0 : Nat) (hn : n0 ≤ h.size) (FS : Sta Z h "java/lang/String" "COMPACT_STRINGS" "Z" (.int kc)) (SV : Sta Z h "com/example/eccentra/eccentra/GraphFormat" "$VALUES" "[Lcom/example/eccentra/eccentra/GraphFormat;" (.ref vv)) (S0 : Sta Z h "com/example/eccentra/eccentra/GraphFormat" "EDGELIST" "Lcom/example/eccentra/eccentra/GraphFormat;" (.ref e0)) (S1 : Sta Z h "com/example/eccentra/eccentra/GraphFormat" "ADJLIST" "Lcom/example/eccentra/eccentra/GraphFormat;" (.ref e1)) (S2 : Sta Z h "com/example/eccentra/eccentra/GraphFormat" "MTX" "Lcom/example/eccentra/eccentra/GraphFormat;" (.ref e2)) (AV : Ary Z h vv (.object "com/example/eccentra/eccentra/GraphFormat") [.ref e0, .ref e1, .ref e2]) (EV : Exa Z h vv "[Lcom/example/eccentra/eccentra/GraphFormat;") (O0 : Fld Z h e0 "com/example/eccentra/eccentra/GraphFormat" "optionValue" "Ljava/lang/String;" (.ref t0)) (Et0 : Exa Z h t0 "java/lang/String") (Ct0 : Fld Z h t0 "java/lang/String" "coder" "B" (.int 0)) (Vt0 : Fld Z h t0 "java/lang/String" "value" "[B" (.ref u0)) (At0 : Ary Z h u0 .byte [(.int (101 : Int32)), (.int (100 : Int32)), (.int (103 : Int32)), (.int (101 : Int32)), (.int (108 : Int32)), (.int (105 : Int32)), (.int (115 : Int32)), (.int (116 : Int32))]) (O1 : Fld Z h e1 "com/example/eccentra/eccentra/GraphFormat" "optionValue" "Ljava/lang/String;" (.ref t1)) (Et1 : Exa Z h t1 "java/lang/String") (Ct1 : Fld Z h t1 "java/lang/String" "coder" "B" (.int 0)) (Vt1 : Fld Z h t1 "java/lang/String" "value" "[B" (.ref u1)) (At1 : Ary Z h u1 .byte [(.int (97 : Int32)), (.int (100 : Int32)), (.int (106 : Int32)), (.int (108 : Int32)), (.int (105 : Int32)), (.int (115 : Int32)), (.int (116 : Int32))]) (O2 : Fld Z h e2 "com/example/eccentra/eccentra/GraphFormat" "optionValue" "Ljava/lang/String;" (.ref t2)) (Et2 : Exa Z h t2 "java/lang/String") (Ct2 : Fld Z h t2 "java/lang/String" "coder" "B" (.int 0)) (Vt2 : Fld Z h t2 "java/lang/String" "value" "[B" (.ref u2)) (At2 : Ary Z h u2 .byte [(.int (109 : Int32)), (.int (116 : Int32)), (.int (120 : Int32))]) : ConX Z consts_1 [] tables_1 l x code maxLocals ret room_1 #[(.int p0), (.int p1), (.int p2), (.int p3)] h n0 (fun v _ => v = some (.int 1)) := by
  rcases own_k3 p0 with ek | ek | ek <;> rcases own_k5 p1 with em | em | em | em | em
  · exact law_00 l Z a0 hw p0 p1 p2 p3 kc hkc e0 e1 e2 t0 t1 t2 u0 u1 u2 vv h n0 hn FS SV S0 S1 S2 AV EV O0 Et0 Ct0 Vt0 At0 O1 Et1 Ct1 Vt1 At1 O2 Et2 Ct2 Vt2 At2 ek em
  · exact law_01 l Z a0 hw p0 p1 p2 p3 kc hkc e0 e1 e2 t0 t1 t2 u0 u1 u2 vv h n0 hn FS SV S0 S1 S2 AV EV O0 Et0 Ct0 Vt0 At0 O1 Et1 Ct1 Vt1 At1 O2 Et2 Ct2 Vt2 At2 ek em
  · exact law_02 l Z a0 hw p0 p1 p2 p3 kc hkc e0 e1 e2 t0 t1 t2 u0 u1 u2 vv h n0 hn FS SV S0 S1 S2 AV EV O0 Et0 Ct0 Vt0 At0 O1 Et1 Ct1 Vt1 At1 O2 Et2 Ct2 Vt2 At2 ek em
  · exact law_03 l Z a0 hw p0 p1 p2 p3 kc hkc e0 e1 e2 t0 t1 t2 u0 u1 u2 vv h n0 hn FS SV S0 S1 S2 AV EV O0 Et0 Ct0 Vt0 At0 O1 Et1 Ct1 Vt1 At1 O2 Et2 Ct2 Vt2 At2 ek em
  · exact law_04 l Z a0 hw p0 p1 p2 p3 kc hkc e0 e1 e2 t0 t1 t2 u0 u1 u2 vv h n0 hn FS SV S0 S1 S2 AV EV O0 Et0 Ct0 Vt0 At0 O1 Et1 Ct1 Vt1 At1 O2 Et2 Ct2 Vt2 At2 ek em
  · exact law_10 l Z a0 hw p0 p1 p2 p3 kc hkc e0 e1 e2 t0 t1 t2 u0 u1 u2 vv h n0 hn FS SV S0 S1 S2 AV EV O0 Et0 Ct0 Vt0 At0 O1 Et1 Ct1 Vt1 At1 O2 Et2 Ct2 Vt2 At2 ek em
  · exact law_11 l Z a0 hw p0 p1 p2 p3 kc hkc e0 e1 e2 t0 t1 t2 u0 u1 u2 vv h n0 hn FS SV S0 S1 S2 AV EV O0 Et0 Ct0 Vt0 At0 O1 Et1 Ct1 Vt1 At1 O2 Et2 Ct2 Vt2 At2 ek em
  · exact law_12 l Z a0 hw p0 p1 p2 p3 kc hkc e0 e1 e2 t0 t1 t2 u0 u1 u2 vv h n0 hn FS SV S0 S1 S2 AV EV O0 Et0 Ct0 Vt0 At0 O1 Et1 Ct1 Vt1 At1 O2 Et2 Ct2 Vt2 At2 ek em
  · exact law_13 l Z a0 hw p0 p1 p2 p3 kc hkc e0 e1 e2 t0 t1 t2 u0 u1 u2 vv h n0 hn FS SV S0 S1 S2 AV EV O0 Et0 Ct0 Vt0 At0 O1 Et1 Ct1 Vt1 At1 O2 Et2 Ct2 Vt2 At2 ek em
  · exact law_14 l Z a0 hw p0 p1 p2 p3 kc hkc e0 e1 e2 t0 t1 t2 u0 u1 u2 vv h n0 hn FS SV S0 S1 S2 AV EV O0 Et0 Ct0 Vt0 At0 O1 Et1 Ct1 Vt1 At1 O2 Et2 Ct2 Vt2 At2 ek em
  · exact law_20 l Z a0 hw p0 p1 p2 p3 kc hkc e0 e1 e2 t0 t1 t2 u0 u1 u2 vv h n0 hn FS SV S0 S1 S2 AV EV O0 Et0 Ct0 Vt0 At0 O1 Et1 Ct1 Vt1 At1 O2 Et2 Ct2 Vt2 At2 ek em
  · exact law_21 l Z a0 hw p0 p1 p2 p3 kc hkc e0 e1 e2 t0 t1 t2 u0 u1 u2 vv h n0 hn FS SV S0 S1 S2 AV EV O0 Et0 Ct0 Vt0 At0 O1 Et1 Ct1 Vt1 At1 O2 Et2 Ct2 Vt2 At2 ek em
  · exact law_22 l Z a0 hw p0 p1 p2 p3 kc hkc e0 e1 e2 t0 t1 t2 u0 u1 u2 vv h n0 hn FS SV S0 S1 S2 AV EV O0 Et0 Ct0 Vt0 At0 O1 Et1 Ct1 Vt1 At1 O2 Et2 Ct2 Vt2 At2 ek em
  · exact law_23 l Z a0 hw p0 p1 p2 p3 kc hkc e0 e1 e2 t0 t1 t2 u0 u1 u2 vv h n0 hn FS SV S0 S1 S2 AV EV O0 Et0 Ct0 Vt0 At0 O1 Et1 Ct1 Vt1 At1 O2 Et2 Ct2 Vt2 At2 ek em
  · exact law_24 l Z a0 hw p0 p1 p2 p3 kc hkc e0 e1 e2 t0 t1 t2 u0 u1 u2 vv h n0 hn FS SV S0 S1 S2 AV EV O0 Et0 Ct0 Vt0 At0 O1 Et1 Ct1 Vt1 At1 O2 Et2 Ct2 Vt2 At2 ek em
theorem own_eqR {Z : State} {args : Array Value} {X F : Term} {idx : List Nat} {y : Addr} (hF : F.eval args Z none idx Z = some (.ref y)) (h : (Jvm.Cond.eq X F).value args Z none Z idx = some true) : X.eval args Z none idx Z = some (.ref y) := by
  obtain ⟨x, y', e1, e2, k1, k2⟩ := cmp_v (Or.inl h)
  cases hF.symm.trans e2
  have hr : x.isRef = true := k2.2
  rw [e1, gotT (eq_R e1 hF hr rfl) h]
theorem own_len {args : Array Value} {s : State} {t : Term} {a : Addr} {cell : Cell} {z : Int32} (ht : t.eval args s none [] s = some (.ref a)) (ha : s.arrayAt? a = some cell) (L : (Term.length t).eval args s none [] s = some (.int z)) : cell.slots.size < 2 ^ 31 ∧ cell.slots.size.toInt32 = z := by
  by_cases hq : cell.slots.size < 2 ^ 31
  · rw [len_f ht ha hq] at L; exact ⟨hq, by simpa using L⟩
  · simp [Term.eval, ht, ha, hq] at L
theorem own_ary {args : Array Value} {s : State} {t : Term} {a : Addr} {ty : FieldType} {vs : List Value} {n : Int32} (ev : t.eval args s none [] s = some (.ref a)) (hx : (Jvm.Cond.arrayOf t ty).value args s none s [] = some true) (hl : (Term.length t).eval args s none [] s = some (.int n)) (hn : n.toNatClampNeg = vs.length)
    (he : ∀ i v, vs[i]? = some v → (Term.elem t (.int (Int32.ofNat i))).eval args s none [] s = some v) (hf : ∀ v ∈ vs, fits ty v = true) : Ary s s.heap a ty vs := by
  obtain ⟨cell, AR⟩ := Arr.start ev hx
  obtain ⟨hsz, hz⟩ := own_len ev (AR.fin (Vm.Alike.refl _)) hl
  have hlen : cell.slots.size = vs.length := by rw [← hn, ← hz, ki_idx hsz]
  refine ⟨cell, AR, ?_, hf, by omega⟩
  apply List.ext_getElem?
  intro i
  by_cases hi : i < vs.length
  · have e := he i _ (List.getElem?_eq_getElem hi)
    obtain ⟨a', j', c2, ha', hj', hat, -, h3⟩ := Term.elem_spec e
    cases ev.symm.trans ha'
    cases (Term.int_eval _).symm.trans hj'
    cases hat.symm.trans (AR.fin (Vm.Alike.refl _))
    rw [show (Int32.ofNat i).toNatClampNeg = i from ki_idx (by omega)] at h3
    rw [Array.getElem?_toList, h3, List.getElem?_eq_getElem hi]
  · rw [List.getElem?_eq_none (Nat.le_of_not_lt hi), List.getElem?_eq_none (by rw [Array.length_toList]; omega)]
theorem comes_1 {Post : Tables → Env → Array Value → State → Outcome → State → Prop} (hpost : ∀ tb e args s v u, (limb_1_1.after args s (.returned v) u = true ∧ limb_1_2.after args s (.returned v) u = true ∧ True) → ReturnedEndW s (.returned v) u (Jvm.fieldLocs frame_1_writes args s ++ Jvm.arrayLocs frame_1_arrays args s ++ Jvm.staticLocs frame_1_statics s) 24 4288 → Post tb e args s (.returned v) u) :
    ArmFor flags0 classFile x code maxLocals ret World_1 tables_1 room_1 Calls_1 rest_1 Pre_1 Post := by
  intro l hfl _ _ p e ha hc hk s m args below hf hA hF happ hP
  obtain ⟨hcalls, hrest, hpre⟩ := hP
  obtain ⟨-, -, -, hnamed, -, -, -, hat⟩ := (Spec.applies_iff hf).mp happ
  obtain ⟨hg, hn⟩ := and_e (Cond.before_iff.mp (show (Jvm.Cond.and given_1 narrow_1).before args s = true from hpre))
  obtain ⟨hcnt, hg1⟩ := and_e hg
  obtain ⟨k0, hh0⟩ := and_e hg1
  obtain ⟨k1, hh1⟩ := and_e hh0
  obtain ⟨k2, hh2⟩ := and_e hh1
  have k3 := hh2
  obtain ⟨w0, w1, w2, w3, rfl⟩ : ∃ w0 w1 w2 w3 : Value, args = #[w0, w1, w2, w3] := by
    have hs : args.size = 4 := by simpa [Cond.value, given_1] using hcnt
    obtain ⟨L⟩ := args
    match L, hs with
    | [w0, w1, w2, w3], _ => exact ⟨w0, w1, w2, w3, rfl⟩
  have hw := fun d (hd : d ∈ tables_1) => atoms_spec (ws := Jvm.Cond.code x code maxLocals ret :: tables_1) hat d (List.mem_cons_of_mem _ hd)
  have hfit : Fit s := fun {y c} hc i hi => by
    obtain ⟨ha, rfl⟩ := Array.getElem?_eq_some_iff.mp hc
    have q := List.all_eq_true.mp ((Array.all_eq_true_iff_forall_mem.mp hF) _ (Array.getElem_mem ha)) i (List.mem_range.mpr hi)
    simpa [Array.getElem?_eq_getElem hi] using q
  obtain ⟨i0, ei0⟩ := is_v k0
  obtain rfl : w0 = (.int i0) := Option.some.inj ei0
  obtain ⟨i1, ei1⟩ := is_v k1
  obtain rfl : w1 = (.int i1) := Option.some.inj ei1
  obtain ⟨i2, ei2⟩ := is_v k2
  obtain rfl : w2 = (.int i2) := Option.some.inj ei2
  obtain ⟨i3, ei3⟩ := is_v k3
  obtain rfl : w3 = (.int i3) := Option.some.inj ei3
  have hn0 := hn
  obtain ⟨cc0, hx0⟩ := and_e hn0
  obtain ⟨cc1, hx1⟩ := and_e hx0
  obtain ⟨cc2, hx2⟩ := and_e hx1
  obtain ⟨cc3, hx3⟩ := and_e hx2
  obtain ⟨cc4, hx4⟩ := and_e hx3
  obtain ⟨cc5, hx5⟩ := and_e hx4
  obtain ⟨cc6, hx6⟩ := and_e hx5
  obtain ⟨cc7, hx7⟩ := and_e hx6
  obtain ⟨cc8, hx8⟩ := and_e hx7
  obtain ⟨cc9, hx9⟩ := and_e hx8
  obtain ⟨cc10, hx10⟩ := and_e hx9
  obtain ⟨cc11, hx11⟩ := and_e hx10
  obtain ⟨cc12, hx12⟩ := and_e hx11
  obtain ⟨cc13, hx13⟩ := and_e hx12
  obtain ⟨cc14, hx14⟩ := and_e hx13
  obtain ⟨cc15, hx15⟩ := and_e hx14
  obtain ⟨cc16, hx16⟩ := and_e hx15
  obtain ⟨cc17, hx17⟩ := and_e hx16
  obtain ⟨cc18, hx18⟩ := and_e hx17
  obtain ⟨cc19, hx19⟩ := and_e hx18
  obtain ⟨cc20, hx20⟩ := and_e hx19
  obtain ⟨cc21, hx21⟩ := and_e hx20
  obtain ⟨cc22, hx22⟩ := and_e hx21
  obtain ⟨cc23, hx23⟩ := and_e hx22
  obtain ⟨cc24, hx24⟩ := and_e hx23
  obtain ⟨cc25, hx25⟩ := and_e hx24
  obtain ⟨cc26, hx26⟩ := and_e hx25
  obtain ⟨cc27, hx27⟩ := and_e hx26
  obtain ⟨cc28, hx28⟩ := and_e hx27
  obtain ⟨cc29, hx29⟩ := and_e hx28
  obtain ⟨cc30, hx30⟩ := and_e hx29
  obtain ⟨cc31, hx31⟩ := and_e hx30
  obtain ⟨cc32, hx32⟩ := and_e hx31
  obtain ⟨cc33, hx33⟩ := and_e hx32
  obtain ⟨cc34, hx34⟩ := and_e hx33
  obtain ⟨cc35, hx35⟩ := and_e hx34
  obtain ⟨cc36, hx36⟩ := and_e hx35
  obtain ⟨cc37, hx37⟩ := and_e hx36
  have cc38 := hx37
  obtain ⟨vv, hvv⟩ := arr_v cc0
  have SV := Sta.start hvv (Or.inr ⟨(wd_37 hw), (wd_43 hw)⟩)
  have EV := Exa.start hvv cc1
  obtain ⟨e0, he0⟩ := exa_v cc3
  have S0 := Sta.start he0 (Or.inr ⟨(wd_37 hw), (wd_51 hw)⟩)
  obtain ⟨t0, ht0⟩ := exa_v cc9
  have O0 : Fld s s.heap e0 "com/example/eccentra/eccentra/GraphFormat" "optionValue" "Ljava/lang/String;" (.ref t0) := Fld.start ((fld_at he0).symm.trans ht0)
  have Et0 := Exa.start ht0 cc9
  have Ct0 : Fld s s.heap t0 "java/lang/String" "coder" "B" (.int 0) := Fld.start ((fld_at ht0).symm.trans (eqv_i (F := .int 0) (Term.int_eval _) cc10))
  obtain ⟨u0, hu0⟩ := arr_v cc11
  have Vt0 : Fld s s.heap t0 "java/lang/String" "value" "[B" (.ref u0) := Fld.start ((fld_at ht0).symm.trans hu0)
  have Hb0_0 := eqv_i (F := .int 101) (Term.int_eval _) cc24
  have Hb0_1 := eqv_i (F := .int 100) (Term.int_eval _) cc25
  have Hb0_2 := eqv_i (F := .int 103) (Term.int_eval _) cc26
  have Hb0_3 := eqv_i (F := .int 101) (Term.int_eval _) cc27
  have Hb0_4 := eqv_i (F := .int 108) (Term.int_eval _) cc28
  have Hb0_5 := eqv_i (F := .int 105) (Term.int_eval _) cc29
  have Hb0_6 := eqv_i (F := .int 115) (Term.int_eval _) cc30
  have Hb0_7 := eqv_i (F := .int 116) (Term.int_eval _) cc31
  have At0 : Ary s s.heap u0 .byte [(.int (101 : Int32)), (.int (100 : Int32)), (.int (103 : Int32)), (.int (101 : Int32)), (.int (108 : Int32)), (.int (105 : Int32)), (.int (115 : Int32)), (.int (116 : Int32))] := own_ary hu0 cc11 (eqv_i (F := .int 8) (Term.int_eval _) cc12) (by decide) (by
      intro i v hv
      match i, hv with
      | 0, hv => cases hv; exact Hb0_0
      | 1, hv => cases hv; exact Hb0_1
      | 2, hv => cases hv; exact Hb0_2
      | 3, hv => cases hv; exact Hb0_3
      | 4, hv => cases hv; exact Hb0_4
      | 5, hv => cases hv; exact Hb0_5
      | 6, hv => cases hv; exact Hb0_6
      | 7, hv => cases hv; exact Hb0_7
      | n + 8, hv => simp at hv
      ) (by decide)
  obtain ⟨e1, he1⟩ := exa_v cc5
  have S1 := Sta.start he1 (Or.inr ⟨(wd_37 hw), (wd_52 hw)⟩)
  obtain ⟨t1, ht1⟩ := exa_v cc13
  have O1 : Fld s s.heap e1 "com/example/eccentra/eccentra/GraphFormat" "optionValue" "Ljava/lang/String;" (.ref t1) := Fld.start ((fld_at he1).symm.trans ht1)
  have Et1 := Exa.start ht1 cc13
  have Ct1 : Fld s s.heap t1 "java/lang/String" "coder" "B" (.int 0) := Fld.start ((fld_at ht1).symm.trans (eqv_i (F := .int 0) (Term.int_eval _) cc14))
  obtain ⟨u1, hu1⟩ := arr_v cc15
  have Vt1 : Fld s s.heap t1 "java/lang/String" "value" "[B" (.ref u1) := Fld.start ((fld_at ht1).symm.trans hu1)
  have Hb1_0 := eqv_i (F := .int 97) (Term.int_eval _) cc32
  have Hb1_1 := eqv_i (F := .int 100) (Term.int_eval _) cc33
  have Hb1_2 := eqv_i (F := .int 106) (Term.int_eval _) cc34
  have Hb1_3 := eqv_i (F := .int 108) (Term.int_eval _) cc35
  have Hb1_4 := eqv_i (F := .int 105) (Term.int_eval _) cc36
  have Hb1_5 := eqv_i (F := .int 115) (Term.int_eval _) cc37
  have Hb1_6 := eqv_i (F := .int 116) (Term.int_eval _) cc38
  have At1 : Ary s s.heap u1 .byte [(.int (97 : Int32)), (.int (100 : Int32)), (.int (106 : Int32)), (.int (108 : Int32)), (.int (105 : Int32)), (.int (115 : Int32)), (.int (116 : Int32))] := own_ary hu1 cc15 (eqv_i (F := .int 7) (Term.int_eval _) cc16) (by decide) (by
      intro i v hv
      match i, hv with
      | 0, hv => cases hv; exact Hb1_0
      | 1, hv => cases hv; exact Hb1_1
      | 2, hv => cases hv; exact Hb1_2
      | 3, hv => cases hv; exact Hb1_3
      | 4, hv => cases hv; exact Hb1_4
      | 5, hv => cases hv; exact Hb1_5
      | 6, hv => cases hv; exact Hb1_6
      | n + 7, hv => simp at hv
      ) (by decide)
  obtain ⟨e2, he2⟩ := exa_v cc7
  have S2 := Sta.start he2 (Or.inr ⟨(wd_37 hw), (wd_53 hw)⟩)
  obtain ⟨t2, ht2⟩ := exa_v cc17
  have O2 : Fld s s.heap e2 "com/example/eccentra/eccentra/GraphFormat" "optionValue" "Ljava/lang/String;" (.ref t2) := Fld.start ((fld_at he2).symm.trans ht2)
  have Et2 := Exa.start ht2 cc17
  have Ct2 : Fld s s.heap t2 "java/lang/String" "coder" "B" (.int 0) := Fld.start ((fld_at ht2).symm.trans (eqv_i (F := .int 0) (Term.int_eval _) cc18))
  obtain ⟨u2, hu2⟩ := arr_v cc19
  have Vt2 : Fld s s.heap t2 "java/lang/String" "value" "[B" (.ref u2) := Fld.start ((fld_at ht2).symm.trans hu2)
  have Hb2_0 := eqv_i (F := .int 109) (Term.int_eval _) cc21
  have Hb2_1 := eqv_i (F := .int 116) (Term.int_eval _) cc22
  have Hb2_2 := eqv_i (F := .int 120) (Term.int_eval _) cc23
  have At2 : Ary s s.heap u2 .byte [(.int (109 : Int32)), (.int (116 : Int32)), (.int (120 : Int32))] := own_ary hu2 cc19 (eqv_i (F := .int 3) (Term.int_eval _) cc20) (by decide) (by
      intro i v hv
      match i, hv with
      | 0, hv => cases hv; exact Hb2_0
      | 1, hv => cases hv; exact Hb2_1
      | 2, hv => cases hv; exact Hb2_2
      | n + 3, hv => simp at hv
      ) (by decide)
  have HV0 := own_eqR he0 cc4
  have HV1 := own_eqR he1 cc6
  have HV2 := own_eqR he2 cc8
  have AV : Ary s s.heap vv (.object "com/example/eccentra/eccentra/GraphFormat") [.ref e0, .ref e1, .ref e2] := own_ary hvv cc0 (eqv_i (F := .int 3) (Term.int_eval _) cc2) rfl (by
      intro i v hv
      match i, hv with
      | 0, hv => cases hv; exact HV0
      | 1, hv => cases hv; exact HV1
      | 2, hv => cases hv; exact HV2
      | n + 3, hv => simp at hv
      ) (by intro v hv; simp only [List.mem_cons, List.not_mem_nil, or_false] at hv; rcases hv with rfl | rfl | rfl <;> rfl)
  obtain ⟨hsets, hown0⟩ := atoms_of _ (rest_1_c_eq ▸ (show rest_1_c.before _ s = true from hrest))
  have c0 := hsets _ (List.mem_of_getElem? (i := 0) rfl)
  have c1 := hsets _ (List.mem_of_getElem? (i := 1) rfl)
  have c2 := hsets _ (List.mem_of_getElem? (i := 2) rfl)
  obtain ⟨kc, ekc⟩ := is_v (Cond.before_iff.mp c1)
  have FS := Sta.start ekc (Or.inl c0)
  have hkc : ¬ kc = 0 := fun q => by
    have q2 := Cond.before_iff.mp c2
    have q3 := Cond.eq_ints ekc (Term.int_eval (0 : Int32))
    rw [show decide (kc = 0) = true from decide_eq_true q] at q3
    simp only [Cond.value] at q2 q3
    rw [q3] at q2
    cases q2
  have hCH : CHv s consts_1 s.vm s.heap := CHv.start (own_EL hw) (fun p hp => hcalls.1 p hp) c2 (own_wS hw _ (by simp [Bundle.stringAtoms])) (own_wS hw _ (by simp [Bundle.stringAtoms, Bundle.sN]))
  obtain ⟨n, o, h1, h2, h3, _, L, rfl, ⟨rfl, N⟩, hq⟩ := law_ok l s _ hw i0 i1 i2 i3 kc hkc e0 e1 e2 t0 t1 t2 u0 u1 u2 vv s.heap s.heap.size (Nat.le_refl _) FS SV S0 S1 S2 AV EV O0 Et0 Ct0 Vt0 At0 O1 Et1 Ct1 Vt1 At1 O2 Et2 Ct2 Vt2 At2 p e ha hc hk s m _ below hf ((Spec.applies_iff_loose hf).mp happ).1 ⟨rfl, State.Warmed39.refl s, rfl, hCH, all0⟩ trivial
  refine ⟨n, _, h1, h2, h3, hpost _ _ _ _ _ _ ⟨Cond.after_iff.mpr rfl, Cond.after_iff.mpr (eq_i res_at (Term.int_eval (1)) rfl), trivial⟩ ⟨hq.1.1, hq.1.2.1, hq.1.2.2.1, (hq.1.2.2.2.sift fun y hy => Or.inr (N y hy)).mono (by decide) (by decide)⟩⟩
theorem main_1_1 : Claimed_1_1 := comes_1 fun _ _ _ _ _ _ h hF => ⟨h.1, hF⟩
theorem main_1_2 : Claimed_1_2 := comes_1 fun _ _ _ _ _ _ h hF => ⟨h.2.1, hF⟩
end Jvm.Pilot.@@N@@
namespace Jvm.Pilot.@@N@@
open Jvm Jvm.ClassFile Sem Op Lib Jvm.Free Jvm.Stand Jvm.Pilot.@@N@@.Jvm.D
/-! MADE BY PROGRAM (witnessworld.py) out of the Statement's table words and the real class files: 22 classes; the members and pool entries that the words name. The judged class is class 1, her method 1. -/
namespace start1
open Jvm.ClassFile
def u (s : String) : CpInfo := .utf8 (stringToUtf16 s)
/-- a pool by its gaps: so many unusable entries, then the entry; so many at the end -/
def gap : Nat → List CpInfo → List CpInfo
  | 0, r => r
  | n + 1, r => .unusable :: gap n r
def poolList (es : List (Nat × CpInfo)) (last : Nat) : List CpInfo := es.foldr (fun e r => gap e.1 (e.2 :: r)) (gap last [])
def pool (es : List (Nat × CpInfo)) (last : Nat) : Array CpInfo := ⟨poolList es last⟩
def fileOf (pool : Array CpInfo) (this : Nat) (attrs : Array Attribute := #[]) (ms : Array MethodInfo := #[]) (fl : Nat := 33) (sup : Nat := 0) (ifs : Array Nat := #[]) (fds : Array FieldInfo := #[]) : ClassFile where
  minorVersion := 0
  majorVersion := 65
  constantPool := pool
  accessFlags := fl
  thisClass := this
  superClass := sup
  interfaces := ifs
  fields := fds
  methods := ms
  attributes := attrs
def plain (name : String) (sup : Option ClassId) : Class where
  name := name
  kind := .ordinary
  loader := none
  accessFlags := 33
  super := sup
  interfaces := #[]
  cf := none
  fields := #[]
  methods := #[]
  instanceTypes := #[]
  staticTypes := #[]
  resolved := #[]
  callSites := []
  init := .initialized
  statics := none
  mirror := none

def pool0 : Array CpInfo := pool [(5, u "<init>"), (0, u "()V"), (1, .class_ 10), (1, u "java/lang/Object"), (85, u "clone"), (0, u "()Ljava/lang/Object;")] 26

def k0c0 : Code := { maxStack := 0, maxLocals := 1, code := object_method_1_code, exceptionTable := #[], attributes := #[] }
def k0m0 : Method := { name := "<init>", desc := "()V", sig := { parameters := [], returnType := none }, accessFlags := 1, code := some k0c0 }
def k0m1 : Method := { name := "clone", desc := "()Ljava/lang/Object;", sig := { parameters := [], returnType := some (.object "java/lang/Object") }, accessFlags := 260, code := none }
/-- java/lang/Object -/
def k0 : Class := { plain "java/lang/Object" none with
  accessFlags := 33
  interfaces := #[]
  cf := some (fileOf pool0 8 #[] #[{ accessFlags := 1, nameIndex := 5, descriptorIndex := 6, attributes := #[] }, { accessFlags := 260, nameIndex := 96, descriptorIndex := 97, attributes := #[] }] 33 0 #[] #[])
  fields := #[]
  methods := #[k0m0, k0m1]
  instanceTypes := #[]
  staticTypes := #[]
  resolved := Array.replicate 124 none
  statics := none }

def pool1 : Array CpInfo := pool [(2, .class_ 4), (1, u "java/lang/Object"), (0, u "<init>"), (0, u "()V"), (0, .integer 2147483647), (0, .class_ 9), (0, u "java/lang/String"), (0, .methodref 11 12), (0, .class_ 13), (0, .nameAndType 14 15), (0, u "com/example/eccentra/eccentra/GraphFormatNamedPinLaw"), (0, u "full"), (0, u "(I)[C"), (0, .methodref 8 17), (0, .nameAndType 5 18), (0, u "([C)V"), (0, .methodref 11 20), (0, .nameAndType 21 15), (0, u "trunc"), (0, .methodref 11 23), (0, .nameAndType 24 25), (0, u "ext"), (0, u "(IC)[C"), (0, .methodref 8 27), (0, .nameAndType 28 29), (0, u "valueOf"), (0, u "(C)Ljava/lang/String;"), (0, .methodref 31 32), (0, .class_ 33), (0, .nameAndType 34 35), (0, u "com/example/eccentra/eccentra/GraphFormat"), (0, u "named"), (0, u "(Ljava/lang/String;)Lcom/example/eccentra/eccentra/GraphFormat;"), (0, .methodref 11 37), (0, .nameAndType 38 35), (0, u "expected"), (0, .string 40), (0, u "edgelist"), (0, .methodref 8 42), (0, .nameAndType 43 44), (0, u "equals"), (0, u "(Ljava/lang/Object;)Z"), (0, .fieldref 31 46), (0, .nameAndType 47 48), (0, u "EDGELIST"), (0, u "Lcom/example/eccentra/eccentra/GraphFormat;"), (0, .string 50), (0, u "adjlist"), (0, .fieldref 31 52), (0, .nameAndType 53 48), (0, u "ADJLIST"), (0, .string 55), (0, u "mtx"), (0, .fieldref 31 57), (0, .nameAndType 58 48), (0, u "MTX"), (2, u "law"), (0, u "(IIII)Z")] 3

def k1m0 : Method := { name := "<init>", desc := "()V", sig := { parameters := [], returnType := none }, accessFlags := 1, code := none }
def k1c1 : Code := { maxStack := 4, maxLocals := 9, code := code, exceptionTable := #[], attributes := #[] }
def k1m1 : Method := { name := "law", desc := "(IIII)Z", sig := { parameters := [.int, .int, .int, .int], returnType := some .boolean }, accessFlags := 9, code := some k1c1 }
def k1c2 : Code := { maxStack := 2, maxLocals := 1, code := method_3_code, exceptionTable := #[], attributes := #[] }
def k1m2 : Method := { name := "expected", desc := "(Ljava/lang/String;)Lcom/example/eccentra/eccentra/GraphFormat;", sig := { parameters := [(.object "java/lang/String")], returnType := some (.object "com/example/eccentra/eccentra/GraphFormat") }, accessFlags := 10, code := some k1c2 }
def k1c3 : Code := { maxStack := 4, maxLocals := 1, code := method_4_code, exceptionTable := #[], attributes := #[] }
def k1m3 : Method := { name := "full", desc := "(I)[C", sig := { parameters := [.int], returnType := some (.array .char) }, accessFlags := 10, code := some k1c3 }
def k1c4 : Code := { maxStack := 4, maxLocals := 1, code := method_5_code, exceptionTable := #[], attributes := #[] }
def k1m4 : Method := { name := "trunc", desc := "(I)[C", sig := { parameters := [.int], returnType := some (.array .char) }, accessFlags := 10, code := some k1c4 }
def k1c5 : Code := { maxStack := 4, maxLocals := 2, code := method_6_code, exceptionTable := #[], attributes := #[] }
def k1m5 : Method := { name := "ext", desc := "(IC)[C", sig := { parameters := [.int, .char], returnType := some (.array .char) }, accessFlags := 10, code := some k1c5 }
/-- com/example/eccentra/eccentra/GraphFormatNamedPinLaw -/
def k1 : Class := { plain "com/example/eccentra/eccentra/GraphFormatNamedPinLaw" (some 0) with
  accessFlags := 49
  interfaces := #[]
  cf := some (fileOf pool1 11 #[] #[{ accessFlags := 1, nameIndex := 5, descriptorIndex := 6, attributes := #[] }, { accessFlags := 9, nameIndex := 61, descriptorIndex := 62, attributes := #[] }, { accessFlags := 10, nameIndex := 38, descriptorIndex := 35, attributes := #[] }, { accessFlags := 10, nameIndex := 14, descriptorIndex := 15, attributes := #[] }, { accessFlags := 10, nameIndex := 21, descriptorIndex := 15, attributes := #[] }, { accessFlags := 10, nameIndex := 24, descriptorIndex := 25, attributes := #[] }] 49 2 #[] #[])
  fields := #[]
  methods := #[k1m0, k1m1, k1m2, k1m3, k1m4, k1m5]
  instanceTypes := #[]
  staticTypes := #[]
  resolved := Array.replicate 66 none
  statics := none }

def pool2 : Array CpInfo := pool [(1, .class_ 2), (0, u "java/io/Serializable"), (0, .class_ 4), (0, u "java/lang/Object")] 2

/-- java/io/Serializable -/
def k2 : Class := { plain "java/io/Serializable" (some 0) with
  accessFlags := 1537
  interfaces := #[]
  cf := some (fileOf pool2 1 #[] #[] 1537 3 #[] #[])
  fields := #[]
  methods := #[]
  instanceTypes := #[]
  staticTypes := #[]
  resolved := Array.replicate 7 none
  statics := none }

def pool3 : Array CpInfo := pool [(1, .class_ 2), (0, u "java/lang/Comparable"), (0, .class_ 4), (0, u "java/lang/Object")] 7

/-- java/lang/Comparable -/
def k3 : Class := { plain "java/lang/Comparable" (some 0) with
  accessFlags := 1537
  interfaces := #[]
  cf := some (fileOf pool3 1 #[] #[] 1537 3 #[] #[])
  fields := #[]
  methods := #[]
  instanceTypes := #[]
  staticTypes := #[]
  resolved := Array.replicate 12 none
  statics := none }

def pool4 : Array CpInfo := pool [(2, .class_ 4), (1, u "java/lang/CharSequence"), (42, .class_ 48), (0, u "java/lang/CharSequence$1CodePointIterator"), (10, .class_ 60), (0, u "java/lang/CharSequence$1CharIterator"), (5, .class_ 67), (0, u "java/lang/Object")] 63

/-- java/lang/CharSequence -/
def k4 : Class := { plain "java/lang/CharSequence" (some 0) with
  accessFlags := 1537
  interfaces := #[]
  cf := some (fileOf pool4 2 #[.nestMembers #[47, 59]] #[] 1537 66 #[] #[])
  fields := #[]
  methods := #[]
  instanceTypes := #[]
  staticTypes := #[]
  resolved := Array.replicate 131 none
  statics := none }

def pool5 : Array CpInfo := pool [(1, .class_ 2), (0, u "java/lang/constant/Constable"), (0, .class_ 4), (0, u "java/lang/Object")] 6

/-- java/lang/constant/Constable -/
def k5 : Class := { plain "java/lang/constant/Constable" (some 0) with
  accessFlags := 1537
  interfaces := #[]
  cf := some (fileOf pool5 1 #[] #[] 1537 3 #[] #[])
  fields := #[]
  methods := #[]
  instanceTypes := #[]
  staticTypes := #[]
  resolved := Array.replicate 11 none
  statics := none }

def pool6 : Array CpInfo := pool [(1, .class_ 2), (0, u "java/lang/constant/ConstantDesc"), (0, .class_ 4), (0, u "java/lang/Object")] 32

/-- java/lang/constant/ConstantDesc -/
def k6 : Class := { plain "java/lang/constant/ConstantDesc" (some 0) with
  accessFlags := 1537
  interfaces := #[]
  cf := some (fileOf pool6 1 #[] #[] 1537 3 #[] #[])
  fields := #[]
  methods := #[]
  instanceTypes := #[]
  staticTypes := #[]
  resolved := Array.replicate 37 none
  statics := none }

def pool7 : Array CpInfo := pool [(1, .methodref 2 3), (0, .class_ 4), (0, .nameAndType 5 6), (0, u "java/lang/Object"), (0, u "<init>"), (0, u "()V"), (0, .string 8), (0, u ""), (0, .fieldref 10 11), (0, .class_ 12), (0, .nameAndType 13 14), (0, u "java/lang/String"), (0, u "value"), (0, u "[B"), (0, .fieldref 10 16), (0, .nameAndType 17 18), (0, u "coder"), (0, u "B"), (2, u "hash"), (0, u "I"), (2, u "hashIsZero"), (0, u "Z"), (0, .methodref 10 28), (0, .nameAndType 5 29), (0, u "([CIILjava/lang/Void;)V"), (8, .fieldref 10 39), (0, .nameAndType 40 26), (0, u "COMPACT_STRINGS"), (1, .class_ 44), (1, u "java/lang/StringUTF16"), (0, u "compress"), (1, .methodref 42 48), (0, .nameAndType 49 50), (0, u "coderFromArrayLen"), (0, u "([BI)B"), (2, u "toBytes"), (53, .class_ 109), (1, u "java/lang/StringLatin1"), (67, .methodref 42 178), (0, .nameAndType 45 179), (0, u "([CII)[B"), (29, .methodref 10 210), (0, .nameAndType 5 211), (0, u "([BB)V"), (157, u "(C)Z"), (171, .methodref 107 542), (0, .nameAndType 543 544), (0, u "equals"), (0, u "([B[B)Z"), (28, u "(Ljava/lang/Object;)Z"), (1, .class_ 576), (0, u "java/lang/CharSequence"), (22, u "CASE_INSENSITIVE_ORDER"), (0, u "Ljava/util/Comparator;"), (181, u "valueOf"), (0, u "(C)Ljava/lang/String;"), (226, u "([C)V"), (4, .methodref 107 1016), (0, .nameAndType 1017 369), (0, u "canEncode"), (0, .methodref 107 1019), (0, .nameAndType 53 1020), (0, u "(C)[B"), (80, u "serialPersistentFields"), (0, u "[Ljava/io/ObjectStreamField;"), (0, .class_ 1104), (0, u "java/lang/String$CaseInsensitiveComparator"), (1, .class_ 1107), (0, u "java/io/Serializable"), (0, .class_ 1109), (0, u "java/lang/Comparable"), (0, .class_ 1111), (0, u "java/lang/constant/Constable"), (0, .class_ 1113), (0, u "java/lang/constant/ConstantDesc"), (2, u "serialVersionUID"), (0, u "J"), (3, u "REPL"), (0, u "C"), (2, u "LATIN1"), (1, u "UTF16")] 323

def k7m0 : Method := { name := "<init>", desc := "()V", sig := { parameters := [], returnType := none }, accessFlags := 1, code := none }
def k7c1 : Code := { maxStack := 5, maxLocals := 2, code := jdk_42_method_3_code, exceptionTable := #[], attributes := #[] }
def k7m1 : Method := { name := "<init>", desc := "([C)V", sig := { parameters := [(.array .char)], returnType := none }, accessFlags := 1, code := some k7c1 }
def k7c2 : Code := { maxStack := 2, maxLocals := 3, code := jdk_42_method_66_code, exceptionTable := #[], attributes := #[] }
def k7m2 : Method := { name := "equals", desc := "(Ljava/lang/Object;)Z", sig := { parameters := [(.object "java/lang/Object")], returnType := some .boolean }, accessFlags := 1, code := some k7c2 }
def k7c3 : Code := { maxStack := 4, maxLocals := 1, code := jdk_42_method_139_code, exceptionTable := #[], attributes := #[] }
def k7m3 : Method := { name := "valueOf", desc := "(C)Ljava/lang/String;", sig := { parameters := [.char], returnType := some (.object "java/lang/String") }, accessFlags := 9, code := some k7c3 }
def k7c4 : Code := { maxStack := 4, maxLocals := 6, code := jdk_42_method_149_code, exceptionTable := #[], attributes := #[] }
def k7m4 : Method := { name := "<init>", desc := "([CIILjava/lang/Void;)V", sig := { parameters := [(.array .char), .int, .int, (.object "java/lang/Void")], returnType := none }, accessFlags := 2, code := some k7c4 }
def k7c5 : Code := { maxStack := 2, maxLocals := 3, code := jdk_42_method_151_code, exceptionTable := #[], attributes := #[] }
def k7m5 : Method := { name := "<init>", desc := "([BB)V", sig := { parameters := [(.array .byte), .byte], returnType := none }, accessFlags := 0, code := some k7c5 }
/-- java/lang/String -/
def k7 : Class := { plain "java/lang/String" (some 0) with
  accessFlags := 49
  interfaces := #[2, 3, 4, 5, 6]
  cf := some (fileOf pool7 10 #[.nestMembers #[1103]] #[{ accessFlags := 1, nameIndex := 5, descriptorIndex := 6, attributes := #[] }, { accessFlags := 1, nameIndex := 5, descriptorIndex := 1010, attributes := #[] }, { accessFlags := 1, nameIndex := 543, descriptorIndex := 573, attributes := #[] }, { accessFlags := 9, nameIndex := 782, descriptorIndex := 783, attributes := #[] }, { accessFlags := 2, nameIndex := 5, descriptorIndex := 29, attributes := #[] }, { accessFlags := 0, nameIndex := 5, descriptorIndex := 211, attributes := #[] }] 49 2 #[1106, 1108, 575, 1110, 1112] #[{ accessFlags := 18, nameIndex := 13, descriptorIndex := 14, attributes := #[] }, { accessFlags := 18, nameIndex := 17, descriptorIndex := 18, attributes := #[] }, { accessFlags := 2, nameIndex := 21, descriptorIndex := 22, attributes := #[] }, { accessFlags := 2, nameIndex := 25, descriptorIndex := 26, attributes := #[] }, { accessFlags := 26, nameIndex := 1116, descriptorIndex := 1117, attributes := #[] }, { accessFlags := 24, nameIndex := 40, descriptorIndex := 26, attributes := #[] }, { accessFlags := 26, nameIndex := 1101, descriptorIndex := 1102, attributes := #[] }, { accessFlags := 26, nameIndex := 1121, descriptorIndex := 1122, attributes := #[] }, { accessFlags := 25, nameIndex := 599, descriptorIndex := 600, attributes := #[] }, { accessFlags := 24, nameIndex := 1125, descriptorIndex := 18, attributes := #[] }, { accessFlags := 24, nameIndex := 1127, descriptorIndex := 18, attributes := #[] }])
  fields := #[{ name := "value", type := (.array .byte), accessFlags := 18, slot := 0, constantValue := 0 }, { name := "coder", type := .byte, accessFlags := 18, slot := 1, constantValue := 0 }, { name := "hash", type := .int, accessFlags := 2, slot := 2, constantValue := 0 }, { name := "hashIsZero", type := .boolean, accessFlags := 2, slot := 3, constantValue := 0 }, { name := "serialVersionUID", type := .long, accessFlags := 26, slot := 0, constantValue := 0 }, { name := "COMPACT_STRINGS", type := .boolean, accessFlags := 24, slot := 1, constantValue := 0 }, { name := "serialPersistentFields", type := (.array (.object "java/io/ObjectStreamField")), accessFlags := 26, slot := 2, constantValue := 0 }, { name := "REPL", type := .char, accessFlags := 26, slot := 3, constantValue := 0 }, { name := "CASE_INSENSITIVE_ORDER", type := (.object "java/util/Comparator"), accessFlags := 25, slot := 4, constantValue := 0 }, { name := "LATIN1", type := .byte, accessFlags := 24, slot := 5, constantValue := 0 }, { name := "UTF16", type := .byte, accessFlags := 24, slot := 6, constantValue := 0 }]
  methods := #[k7m0, k7m1, k7m2, k7m3, k7m4, k7m5]
  instanceTypes := #[(.array .byte), .byte, .int, .boolean]
  staticTypes := #[.long, .boolean, (.array (.object "java/io/ObjectStreamField")), .char, (.object "java/util/Comparator"), .byte, .byte]
  resolved := Array.replicate 1451 none
  statics := some 0 }

def pool8 : Array CpInfo := pool [(6, .class_ 8), (1, u "java/lang/Object"), (0, u "<init>"), (0, u "()V"), (1, .class_ 14), (1, u "java/lang/StringUTF16"), (31, u "$assertionsDisabled"), (0, u "Z"), (13, u "HI_BYTE_SHIFT"), (0, u "I"), (2, u "LO_BYTE_SHIFT"), (49, .methodref 12 116), (0, .nameAndType 117 118), (0, u "compress"), (0, u "([CI[BII)I"), (3, u "([CII)[B"), (138, u "coderFromArrayLen"), (0, u "([BI)B"), (106, .class_ 371), (1, u "java/lang/StringUTF16$LinesSpliterator"), (58, u "MAX_LENGTH"), (196, .class_ 628), (0, u "java/lang/StringUTF16$CodePointsSpliterator"), (0, .class_ 630), (0, u "java/lang/StringUTF16$CharsSpliterator")] 4

def k8m0 : Method := { name := "<init>", desc := "()V", sig := { parameters := [], returnType := none }, accessFlags := 0, code := none }
def k8c1 : Code := { maxStack := 2, maxLocals := 2, code := jdk_52_method_15_code, exceptionTable := #[], attributes := #[] }
def k8m1 : Method := { name := "coderFromArrayLen", desc := "([BI)B", sig := { parameters := [(.array .byte), .int], returnType := some .byte }, accessFlags := 8, code := some k8c1 }
def k8c2 : Code := { maxStack := 5, maxLocals := 6, code := jdk_52_method_16_code, exceptionTable := #[], attributes := #[] }
def k8m2 : Method := { name := "compress", desc := "([CII)[B", sig := { parameters := [(.array .char), .int, .int], returnType := some (.array .byte) }, accessFlags := 9, code := some k8c2 }
def k8c3 : Code := { maxStack := 3, maxLocals := 7, code := jdk_52_method_21_code, exceptionTable := #[], attributes := #[] }
def k8m3 : Method := { name := "compress", desc := "([CI[BII)I", sig := { parameters := [(.array .char), .int, (.array .byte), .int, .int], returnType := some .int }, accessFlags := 9, code := some k8c3 }
/-- java/lang/StringUTF16 -/
def k8 : Class := { plain "java/lang/StringUTF16" (some 0) with
  accessFlags := 48
  interfaces := #[]
  cf := some (fileOf pool8 12 #[.nestMembers #[627, 629, 369]] #[{ accessFlags := 0, nameIndex := 9, descriptorIndex := 10, attributes := #[] }, { accessFlags := 8, nameIndex := 261, descriptorIndex := 262, attributes := #[] }, { accessFlags := 9, nameIndex := 117, descriptorIndex := 122, attributes := #[] }, { accessFlags := 9, nameIndex := 117, descriptorIndex := 118, attributes := #[] }] 48 6 #[] #[{ accessFlags := 26, nameIndex := 61, descriptorIndex := 62, attributes := #[] }, { accessFlags := 26, nameIndex := 65, descriptorIndex := 62, attributes := #[] }, { accessFlags := 24, nameIndex := 430, descriptorIndex := 62, attributes := #[] }, { accessFlags := 4120, nameIndex := 46, descriptorIndex := 47, attributes := #[] }])
  fields := #[{ name := "HI_BYTE_SHIFT", type := .int, accessFlags := 26, slot := 0, constantValue := 0 }, { name := "LO_BYTE_SHIFT", type := .int, accessFlags := 26, slot := 1, constantValue := 0 }, { name := "MAX_LENGTH", type := .int, accessFlags := 24, slot := 2, constantValue := 0 }, { name := "$assertionsDisabled", type := .boolean, accessFlags := 4120, slot := 3, constantValue := 0 }]
  methods := #[k8m0, k8m1, k8m2, k8m3]
  instanceTypes := #[]
  staticTypes := #[.int, .int, .int, .boolean]
  resolved := Array.replicate 635 none
  statics := none }

def pool9 : Array CpInfo := pool [(2, .class_ 4), (1, u "java/lang/Enum"), (0, u "name"), (0, u "Ljava/lang/String;"), (2, u "ordinal"), (0, u "I"), (1, .class_ 14), (1, u "java/lang/Object"), (4, u "hash"), (86, .class_ 108), (1, u "java/lang/Enum$EnumDesc"), (2, .class_ 112), (0, u "java/lang/constant/Constable"), (0, .class_ 114), (0, u "java/lang/Comparable"), (0, .class_ 116), (0, u "java/io/Serializable")] 87

/-- java/lang/Enum -/
def k9 : Class := { plain "java/lang/Enum" (some 0) with
  accessFlags := 1057
  interfaces := #[5, 3, 2]
  cf := some (fileOf pool9 2 #[.nestMembers #[106]] #[] 1057 12 #[111, 113, 115] #[{ accessFlags := 18, nameIndex := 5, descriptorIndex := 6, attributes := #[] }, { accessFlags := 18, nameIndex := 9, descriptorIndex := 10, attributes := #[] }, { accessFlags := 2, nameIndex := 19, descriptorIndex := 10, attributes := #[] }])
  fields := #[{ name := "name", type := (.object "java/lang/String"), accessFlags := 18, slot := 0, constantValue := 0 }, { name := "ordinal", type := .int, accessFlags := 18, slot := 1, constantValue := 0 }, { name := "hash", type := .int, accessFlags := 2, slot := 2, constantValue := 0 }]
  methods := #[]
  instanceTypes := #[(.object "java/lang/String"), .int, .int]
  staticTypes := #[]
  resolved := Array.replicate 204 none
  statics := none }

def pool10 : Array CpInfo := pool [(1, .class_ 2), (0, u "com/example/eccentra/eccentra/GraphFormat"), (2, u "EDGELIST"), (0, u "Lcom/example/eccentra/eccentra/GraphFormat;"), (2, u "ADJLIST"), (2, u "MTX"), (0, .fieldref 1 14), (0, .nameAndType 15 16), (0, u "$VALUES"), (0, u "[Lcom/example/eccentra/eccentra/GraphFormat;"), (0, .methodref 18 19), (0, .class_ 16), (0, .nameAndType 20 21), (0, u "clone"), (0, u "()Ljava/lang/Object;"), (1, .class_ 25), (1, u "java/lang/Enum"), (6, .fieldref 1 33), (0, .nameAndType 34 35), (0, u "optionValue"), (0, u "Ljava/lang/String;"), (0, .methodref 1 37), (0, .nameAndType 38 39), (0, u "values"), (0, u "()[Lcom/example/eccentra/eccentra/GraphFormat;"), (0, .methodref 41 42), (0, .class_ 43), (0, .nameAndType 44 45), (0, u "java/lang/String"), (0, u "equals"), (0, u "(Ljava/lang/Object;)Z"), (34, u "(Ljava/lang/String;)Lcom/example/eccentra/eccentra/GraphFormat;"), (3, u "named")] 6

def k10c0 : Code := { maxStack := 1, maxLocals := 0, code := prog_10_method_1_code, exceptionTable := #[], attributes := #[] }
def k10m0 : Method := { name := "values", desc := "()[Lcom/example/eccentra/eccentra/GraphFormat;", sig := { parameters := [], returnType := some (.array (.object "com/example/eccentra/eccentra/GraphFormat")) }, accessFlags := 9, code := some k10c0 }
def k10c1 : Code := { maxStack := 2, maxLocals := 5, code := prog_10_method_4_code, exceptionTable := #[], attributes := #[] }
def k10m1 : Method := { name := "named", desc := "(Ljava/lang/String;)Lcom/example/eccentra/eccentra/GraphFormat;", sig := { parameters := [(.object "java/lang/String")], returnType := some (.object "com/example/eccentra/eccentra/GraphFormat") }, accessFlags := 8, code := some k10c1 }
/-- com/example/eccentra/eccentra/GraphFormat -/
def k10 : Class := { plain "com/example/eccentra/eccentra/GraphFormat" (some 9) with
  accessFlags := 16433
  interfaces := #[]
  cf := some (fileOf pool10 1 #[] #[{ accessFlags := 9, nameIndex := 38, descriptorIndex := 39, attributes := #[] }, { accessFlags := 8, nameIndex := 84, descriptorIndex := 80, attributes := #[] }] 16433 23 #[] #[{ accessFlags := 16409, nameIndex := 5, descriptorIndex := 6, attributes := #[] }, { accessFlags := 16409, nameIndex := 9, descriptorIndex := 6, attributes := #[] }, { accessFlags := 16409, nameIndex := 12, descriptorIndex := 6, attributes := #[] }, { accessFlags := 18, nameIndex := 34, descriptorIndex := 35, attributes := #[] }, { accessFlags := 4122, nameIndex := 15, descriptorIndex := 16, attributes := #[] }])
  fields := #[{ name := "EDGELIST", type := (.object "com/example/eccentra/eccentra/GraphFormat"), accessFlags := 16409, slot := 0, constantValue := 0 }, { name := "ADJLIST", type := (.object "com/example/eccentra/eccentra/GraphFormat"), accessFlags := 16409, slot := 1, constantValue := 0 }, { name := "MTX", type := (.object "com/example/eccentra/eccentra/GraphFormat"), accessFlags := 16409, slot := 2, constantValue := 0 }, { name := "optionValue", type := (.object "java/lang/String"), accessFlags := 18, slot := 3, constantValue := 0 }, { name := "$VALUES", type := (.array (.object "com/example/eccentra/eccentra/GraphFormat")), accessFlags := 4122, slot := 3, constantValue := 0 }]
  methods := #[k10m0, k10m1]
  instanceTypes := #[(.object "java/lang/String"), .int, .int, (.object "java/lang/String")]
  staticTypes := #[(.object "com/example/eccentra/eccentra/GraphFormat"), (.object "com/example/eccentra/eccentra/GraphFormat"), (.object "com/example/eccentra/eccentra/GraphFormat"), (.array (.object "com/example/eccentra/eccentra/GraphFormat"))]
  resolved := Array.replicate 91 none
  statics := some 1 }

def pool11 : Array CpInfo := pool [(1, .class_ 2), (0, u "java/lang/Cloneable"), (0, .class_ 4), (0, u "java/lang/Object")] 2

/-- java/lang/Cloneable -/
def k11 : Class := { plain "java/lang/Cloneable" (some 0) with
  accessFlags := 1537
  interfaces := #[]
  cf := some (fileOf pool11 1 #[] #[] 1537 3 #[] #[])
  fields := #[]
  methods := #[]
  instanceTypes := #[]
  staticTypes := #[]
  resolved := Array.replicate 7 none
  statics := none }

def pool12 : Array CpInfo := pool [(4, .class_ 6), (1, u "java/lang/Object"), (0, u "<init>"), (0, u "()V"), (5, .class_ 16), (1, u "java/lang/StringLatin1"), (73, u "canEncode"), (14, u "(C)Z"), (15, u "$assertionsDisabled"), (0, u "Z"), (98, .class_ 223), (1, u "java/lang/StringLatin1$LinesSpliterator"), (57, u "equals"), (0, u "([B[B)Z"), (97, u "toBytes"), (1, u "(C)[B"), (7, .class_ 391), (0, u "java/lang/StringLatin1$CharsSpliterator")] 3

def k12m0 : Method := { name := "<init>", desc := "()V", sig := { parameters := [], returnType := none }, accessFlags := 0, code := none }
def k12c1 : Code := { maxStack := 2, maxLocals := 1, code := jdk_43_method_3_code, exceptionTable := #[], attributes := #[] }
def k12m1 : Method := { name := "canEncode", desc := "(C)Z", sig := { parameters := [.char], returnType := some .boolean }, accessFlags := 9, code := some k12c1 }
def k12c2 : Code := { maxStack := 3, maxLocals := 3, code := jdk_43_method_13_code, exceptionTable := #[], attributes := #[] }
def k12m2 : Method := { name := "equals", desc := "([B[B)Z", sig := { parameters := [(.array .byte), (.array .byte)], returnType := some .boolean }, accessFlags := 9, code := some k12c2 }
def k12c3 : Code := { maxStack := 4, maxLocals := 1, code := jdk_43_method_46_code, exceptionTable := #[], attributes := #[] }
def k12m3 : Method := { name := "toBytes", desc := "(C)[B", sig := { parameters := [.char], returnType := some (.array .byte) }, accessFlags := 9, code := some k12c3 }
/-- java/lang/StringLatin1 -/
def k12 : Class := { plain "java/lang/StringLatin1" (some 0) with
  accessFlags := 48
  interfaces := #[]
  cf := some (fileOf pool12 14 #[.nestMembers #[390, 221]] #[{ accessFlags := 0, nameIndex := 7, descriptorIndex := 8, attributes := #[] }, { accessFlags := 9, nameIndex := 90, descriptorIndex := 105, attributes := #[] }, { accessFlags := 9, nameIndex := 281, descriptorIndex := 282, attributes := #[] }, { accessFlags := 9, nameIndex := 380, descriptorIndex := 382, attributes := #[] }] 48 4 #[] #[{ accessFlags := 4120, nameIndex := 121, descriptorIndex := 122, attributes := #[] }])
  fields := #[{ name := "$assertionsDisabled", type := .boolean, accessFlags := 4120, slot := 0, constantValue := 0 }]
  methods := #[k12m0, k12m1, k12m2, k12m3]
  instanceTypes := #[]
  staticTypes := #[.boolean]
  resolved := Array.replicate 395 none
  statics := none }

def pool13 : Array CpInfo := pool [(2, .class_ 4), (1, u "java/lang/Object"), (0, u "<init>"), (0, u "()V"), (17, .class_ 26), (1, u "jdk/internal/util/Preconditions"), (28, .class_ 56), (0, u "jdk/internal/util/Preconditions$4"), (57, .class_ 115), (0, u "jdk/internal/util/Preconditions$1"), (7, u "SIOOBE_FORMATTER"), (0, u "Ljava/util/function/BiFunction;"), (0, .class_ 126), (0, u "jdk/internal/util/Preconditions$2"), (3, u "AIOOBE_FORMATTER"), (0, .class_ 132), (0, u "jdk/internal/util/Preconditions$3"), (3, u "IOOBE_FORMATTER")] 57

def k13m0 : Method := { name := "<init>", desc := "()V", sig := { parameters := [], returnType := none }, accessFlags := 1, code := none }
/-- jdk/internal/util/Preconditions -/
def k13 : Class := { plain "jdk/internal/util/Preconditions" (some 0) with
  accessFlags := 33
  interfaces := #[]
  cf := some (fileOf pool13 24 #[.nestMembers #[55, 131, 125, 114]] #[{ accessFlags := 1, nameIndex := 5, descriptorIndex := 6, attributes := #[] }] 33 2 #[] #[{ accessFlags := 25, nameIndex := 123, descriptorIndex := 124, attributes := #[] }, { accessFlags := 25, nameIndex := 130, descriptorIndex := 124, attributes := #[] }, { accessFlags := 25, nameIndex := 136, descriptorIndex := 124, attributes := #[] }])
  fields := #[{ name := "SIOOBE_FORMATTER", type := (.object "java/util/function/BiFunction"), accessFlags := 25, slot := 0, constantValue := 0 }, { name := "AIOOBE_FORMATTER", type := (.object "java/util/function/BiFunction"), accessFlags := 25, slot := 1, constantValue := 0 }, { name := "IOOBE_FORMATTER", type := (.object "java/util/function/BiFunction"), accessFlags := 25, slot := 2, constantValue := 0 }]
  methods := #[k13m0]
  instanceTypes := #[]
  staticTypes := #[(.object "java/util/function/BiFunction"), (.object "java/util/function/BiFunction"), (.object "java/util/function/BiFunction")]
  resolved := Array.replicate 194 none
  statics := some 2 }

def pool14 : Array CpInfo := pool [(9, u "<init>"), (6, .class_ 18), (1, u "java/lang/Object"), (0, u "()V"), (1, .class_ 23), (1, u "jdk/internal/util/ArraysSupport"), (0, u "LOG2_ARRAY_LONG_INDEX_SCALE"), (0, u "I"), (2, u "U"), (0, u "Ljdk/internal/misc/Unsafe;"), (8, u "BIG_ENDIAN"), (0, u "Z"), (8, u "LOG2_BYTE_BIT_SIZE"), (4, u "LOG2_ARRAY_INT_INDEX_SCALE"), (54, u "JLA"), (0, u "Ljdk/internal/access/JavaLangAccess;"), (11, u "LOG2_ARRAY_BOOLEAN_INDEX_SCALE"), (9, u "LOG2_ARRAY_BYTE_INDEX_SCALE"), (5, u "LOG2_ARRAY_CHAR_INDEX_SCALE"), (5, u "LOG2_ARRAY_SHORT_INDEX_SCALE"), (18, u "LOG2_ARRAY_FLOAT_INDEX_SCALE"), (24, u "LOG2_ARRAY_DOUBLE_INDEX_SCALE"), (89, u "T_BOOLEAN"), (2, u "T_CHAR"), (1, u "T_FLOAT"), (1, u "T_DOUBLE"), (1, u "T_BYTE"), (1, u "T_SHORT"), (1, u "T_INT"), (1, u "T_LONG"), (1, u "SOFT_MAX_ARRAY_LENGTH")] 83

def k14m0 : Method := { name := "<init>", desc := "()V", sig := { parameters := [], returnType := none }, accessFlags := 2, code := none }
/-- jdk/internal/util/ArraysSupport -/
def k14 : Class := { plain "jdk/internal/util/ArraysSupport" (some 0) with
  accessFlags := 33
  interfaces := #[]
  cf := some (fileOf pool14 21 #[] #[{ accessFlags := 2, nameIndex := 9, descriptorIndex := 19, attributes := #[] }] 33 16 #[] #[{ accessFlags := 24, nameIndex := 28, descriptorIndex := 29, attributes := #[] }, { accessFlags := 26, nameIndex := 38, descriptorIndex := 39, attributes := #[] }, { accessFlags := 25, nameIndex := 121, descriptorIndex := 25, attributes := #[] }, { accessFlags := 25, nameIndex := 131, descriptorIndex := 25, attributes := #[] }, { accessFlags := 25, nameIndex := 137, descriptorIndex := 25, attributes := #[] }, { accessFlags := 25, nameIndex := 143, descriptorIndex := 25, attributes := #[] }, { accessFlags := 25, nameIndex := 53, descriptorIndex := 25, attributes := #[] }, { accessFlags := 25, nameIndex := 24, descriptorIndex := 25, attributes := #[] }, { accessFlags := 25, nameIndex := 162, descriptorIndex := 25, attributes := #[] }, { accessFlags := 25, nameIndex := 187, descriptorIndex := 25, attributes := #[] }, { accessFlags := 26, nameIndex := 48, descriptorIndex := 25, attributes := #[] }, { accessFlags := 25, nameIndex := 277, descriptorIndex := 25, attributes := #[] }, { accessFlags := 25, nameIndex := 280, descriptorIndex := 25, attributes := #[] }, { accessFlags := 25, nameIndex := 282, descriptorIndex := 25, attributes := #[] }, { accessFlags := 25, nameIndex := 284, descriptorIndex := 25, attributes := #[] }, { accessFlags := 25, nameIndex := 286, descriptorIndex := 25, attributes := #[] }, { accessFlags := 25, nameIndex := 288, descriptorIndex := 25, attributes := #[] }, { accessFlags := 25, nameIndex := 290, descriptorIndex := 25, attributes := #[] }, { accessFlags := 25, nameIndex := 292, descriptorIndex := 25, attributes := #[] }, { accessFlags := 26, nameIndex := 108, descriptorIndex := 109, attributes := #[] }, { accessFlags := 25, nameIndex := 294, descriptorIndex := 25, attributes := #[] }])
  fields := #[{ name := "U", type := (.object "jdk/internal/misc/Unsafe"), accessFlags := 24, slot := 0, constantValue := 0 }, { name := "BIG_ENDIAN", type := .boolean, accessFlags := 26, slot := 1, constantValue := 0 }, { name := "LOG2_ARRAY_BOOLEAN_INDEX_SCALE", type := .int, accessFlags := 25, slot := 2, constantValue := 0 }, { name := "LOG2_ARRAY_BYTE_INDEX_SCALE", type := .int, accessFlags := 25, slot := 3, constantValue := 0 }, { name := "LOG2_ARRAY_CHAR_INDEX_SCALE", type := .int, accessFlags := 25, slot := 4, constantValue := 0 }, { name := "LOG2_ARRAY_SHORT_INDEX_SCALE", type := .int, accessFlags := 25, slot := 5, constantValue := 0 }, { name := "LOG2_ARRAY_INT_INDEX_SCALE", type := .int, accessFlags := 25, slot := 6, constantValue := 0 }, { name := "LOG2_ARRAY_LONG_INDEX_SCALE", type := .int, accessFlags := 25, slot := 7, constantValue := 0 }, { name := "LOG2_ARRAY_FLOAT_INDEX_SCALE", type := .int, accessFlags := 25, slot := 8, constantValue := 0 }, { name := "LOG2_ARRAY_DOUBLE_INDEX_SCALE", type := .int, accessFlags := 25, slot := 9, constantValue := 0 }, { name := "LOG2_BYTE_BIT_SIZE", type := .int, accessFlags := 26, slot := 10, constantValue := 0 }, { name := "T_BOOLEAN", type := .int, accessFlags := 25, slot := 11, constantValue := 0 }, { name := "T_CHAR", type := .int, accessFlags := 25, slot := 12, constantValue := 0 }, { name := "T_FLOAT", type := .int, accessFlags := 25, slot := 13, constantValue := 0 }, { name := "T_DOUBLE", type := .int, accessFlags := 25, slot := 14, constantValue := 0 }, { name := "T_BYTE", type := .int, accessFlags := 25, slot := 15, constantValue := 0 }, { name := "T_SHORT", type := .int, accessFlags := 25, slot := 16, constantValue := 0 }, { name := "T_INT", type := .int, accessFlags := 25, slot := 17, constantValue := 0 }, { name := "T_LONG", type := .int, accessFlags := 25, slot := 18, constantValue := 0 }, { name := "JLA", type := (.object "jdk/internal/access/JavaLangAccess"), accessFlags := 26, slot := 19, constantValue := 0 }, { name := "SOFT_MAX_ARRAY_LENGTH", type := .int, accessFlags := 25, slot := 20, constantValue := 0 }]
  methods := #[k14m0]
  instanceTypes := #[]
  staticTypes := #[(.object "jdk/internal/misc/Unsafe"), .boolean, .int, .int, .int, .int, .int, .int, .int, .int, .int, .int, .int, .int, .int, .int, .int, .int, .int, (.object "jdk/internal/access/JavaLangAccess"), .int]
  resolved := Array.replicate 378 none
  statics := none }

/-- the primitive byte -/
def k15 : Class := { plain "byte" none with kind := .primitive 'B', accessFlags := 0x411 }
/-- [B -/
def k16 : Class := { plain "[B" (some 0) with kind := .array 15 .byte, interfaces := #[11, 2], accessFlags := 1041 }

/-- the primitive char -/
def k17 : Class := { plain "char" none with kind := .primitive 'C', accessFlags := 0x411 }
/-- [C -/
def k18 : Class := { plain "[C" (some 0) with kind := .array 17 .char, interfaces := #[11, 2], accessFlags := 1041 }

/-- the primitive int -/
def k19 : Class := { plain "int" none with kind := .primitive 'I', accessFlags := 0x411 }
/-- [I -/
def k20 : Class := { plain "[I" (some 0) with kind := .array 19 .int, interfaces := #[11, 2], accessFlags := 1041 }

/-- [Lcom/example/eccentra/eccentra/GraphFormat; -/
def k21 : Class := { plain "[Lcom/example/eccentra/eccentra/GraphFormat;" (some 0) with kind := .array 10 (.object "com/example/eccentra/eccentra/GraphFormat"), interfaces := #[11, 2], accessFlags := 1041 }

def heap : Heap := #[{ cls := 7, slots := #[.long 0, .int 1, .null, .int 0, .null, .int 0, .int 0], vm := .statics 7 },
  { cls := 10, slots := #[.ref 10, .ref 11, .ref 12, .ref 3], vm := .statics 10 },
  { cls := 13, slots := #[.null, .null, .null], vm := .statics 13 },
  { cls := 21, slots := #[.ref 10, .ref 11, .ref 12], vm := .none },
  { cls := 16, slots := #[.int 101, .int 100, .int 103, .int 101, .int 108, .int 105, .int 115, .int 116], vm := .none },
  { cls := 16, slots := #[.int 97, .int 100, .int 106, .int 108, .int 105, .int 115, .int 116], vm := .none },
  { cls := 16, slots := #[.int 109, .int 116, .int 120], vm := .none },
  { cls := 7, slots := #[.ref 4, .int 0, .int 0, .int 0], vm := .none },
  { cls := 7, slots := #[.ref 5, .int 0, .int 0, .int 0], vm := .none },
  { cls := 7, slots := #[.ref 6, .int 0, .int 0, .int 0], vm := .none },
  { cls := 10, slots := #[.null, .int 0, .int 0, .ref 7], vm := .none },
  { cls := 10, slots := #[.null, .int 1, .int 0, .ref 8], vm := .none },
  { cls := 10, slots := #[.null, .int 2, .int 0, .ref 9], vm := .none }]
def classes : Array Class := #[k0, k1, k2, k3, k4, k5, k6, k7, k8, k9, k10, k11, k12, k13, k14, k15, k16, k17, k18, k19, k20, k21]
def interned : List (Array UInt16 × Addr) := []
def slotsUsed : Nat := 59
def theMethod : MethodId := ⟨1, 1⟩
def args0 : Array Value := #[.int 1, .int 1, .int 100, .int 7]
def aboutOver (below : List Frame) : State where
  vm := { classes := classes, interned := interned.toArray }
  heap := heap
  slotsUsed := slotsUsed
  threads := #[{ frames := .invoking theMethod args0 :: below }]
def below0 : List Frame := [.native { method := ⟨0, 0⟩, args := #[] }]
def about1 : State := aboutOver below0
def p0 : Program := .bare "" "" ""
def e0 : Env := launch0.env 0 0 0
theorem w_frames : about1.frames = Frame.invoking theMethod args0 :: below0 := rfl
set_option maxRecDepth 65536 in
theorem w_args : argsFit about1.vm theMethod args0 = true := by decide +kernel
set_option maxRecDepth 65536 in
theorem w_heap : heapFits about1 = true := by decide +kernel
set_option maxRecDepth 65536 in
theorem w_runnable : about1.curStatus? = some .runnable := by decide +kernel
set_option maxRecDepth 65536 in
theorem w_alone : about1.alone = true := by decide +kernel
set_option maxRecDepth 65536 in
theorem w_named : about1.methodNamed? x = some theMethod := by decide +kernel
set_option maxRecDepth 65536 in
theorem w_hears : about1.hears theMethod below0 = true := by decide +kernel
set_option maxRecDepth 65536 in
theorem w_ripe : about1.ripe theMethod args0 below0 = true := by decide +kernel
theorem w_running : about1.status = .running := rfl
set_option maxRecDepth 65536 in
theorem w_room : about1.hasRoom e0.platform room_1 = true :=
  launch0.hasRoom_least _ room_1 (by decide +kernel) (by decide +kernel) (by decide +kernel) (by decide +kernel) (by decide +kernel) (by decide +kernel)
theorem allAtoms_all (ts : List Jvm.Cond) (a : Array Jvm.Value) (st : Jvm.State) : (allAtoms ts).before a st = ts.all (fun c => c.before a st) := by
  induction ts with
  | nil => rfl
  | cons c t ih =>
    show (Jvm.Cond.and c (allAtoms t)).before a st = _
    rw [Jvm.Cond.before_and, ih, List.all_cons]
def words1 : List Jvm.Cond := Jvm.Cond.code x code maxLocals ret :: tables_1
/-- a 'code' word, met by the world's own term for the bytes: nothing is compared byte by byte -/
theorem code_word {y : MethodName} {bytes : ByteArray} {mx : Nat} {rt : Option FieldType} {a : Array Value} {s : State} {m : MethodId} {meth : Method} {c : Code} (h1 : s.methodNamed? y = some m) (h2 : s.vm.method? m = some meth) (h3 : meth.code = some c) (h4 : c.code = bytes)
    (h5 : (c.maxLocals == mx && c.exceptionTable.isEmpty && decide (c.maxStack ≤ mostOperands) && decide (meth.sig.returnType = rt) && !meth.locks && decide (parseMethodDescriptor y.desc = some meth.sig)) = true) : (Jvm.Cond.code y bytes mx rt).before a s = true := by
  simp only [Bool.and_eq_true, beq_iff_eq, Bool.not_eq_true', decide_eq_true_eq] at h5
  obtain ⟨⟨⟨⟨⟨g1, g2⟩, g3⟩, g4⟩, g5⟩, g6⟩ := h5
  simp [Cond.before, Cond.holds, Cond.value, h1, h2, h3, h4, g1, g2, g3, g4, g5, g6]
def isCode : Jvm.Cond → Bool
  | .code _ _ _ _ => true
  | _ => false
theorem all_split {L : List Jvm.Cond} {P : Jvm.Cond → Bool} (h1 : L.all (fun c => isCode c || P c) = true) (h2 : ∀ c ∈ L.filter isCode, P c = true) : L.all P = true := by
  refine List.all_eq_true.mpr fun c hc => ?_
  have h := List.all_eq_true.mp h1 c hc
  rcases Bool.eq_false_or_eq_true (isCode c) with hi | hi
  · exact h2 c (List.mem_filter.mpr ⟨hc, hi⟩)
  · simpa [hi] using h
set_option maxRecDepth 65536 in
theorem w_c0 : (Jvm.Cond.code x code maxLocals ret).before args0 about1 = true := code_word (m := ⟨1, 1⟩) (meth := k1m1) (c := k1c1) (by decide +kernel) rfl rfl rfl (by decide +kernel)
set_option maxRecDepth 65536 in
theorem w_c1 : (Jvm.Cond.code ({ cls := "com/example/eccentra/eccentra/GraphFormatNamedPinLaw", name := "ext", desc := "(IC)[C" } : Jvm.MethodName) method_6_code (2 : Nat) (Option.some (Jvm.ClassFile.FieldType.array Jvm.ClassFile.FieldType.char))).before args0 about1 = true := code_word (m := ⟨1, 5⟩) (meth := k1m5) (c := k1c5) (by decide +kernel) rfl rfl rfl (by decide +kernel)
set_option maxRecDepth 65536 in
theorem w_c2 : (Jvm.Cond.code ({ cls := "java/lang/String", name := "<init>", desc := "([C)V" } : Jvm.MethodName) jdk_42_method_3_code (2 : Nat) (Option.none : Option Jvm.ClassFile.FieldType)).before args0 about1 = true := code_word (m := ⟨7, 1⟩) (meth := k7m1) (c := k7c1) (by decide +kernel) rfl rfl rfl (by decide +kernel)
set_option maxRecDepth 65536 in
theorem w_c3 : (Jvm.Cond.code ({ cls := "java/lang/String", name := "<init>", desc := "([CIILjava/lang/Void;)V" } : Jvm.MethodName) jdk_42_method_149_code (6 : Nat) (Option.none : Option Jvm.ClassFile.FieldType)).before args0 about1 = true := code_word (m := ⟨7, 4⟩) (meth := k7m4) (c := k7c4) (by decide +kernel) rfl rfl rfl (by decide +kernel)
set_option maxRecDepth 65536 in
theorem w_c4 : (Jvm.Cond.code ({ cls := "java/lang/Object", name := "<init>", desc := "()V" } : Jvm.MethodName) object_method_1_code (1 : Nat) (Option.none : Option Jvm.ClassFile.FieldType)).before args0 about1 = true := code_word (m := ⟨0, 0⟩) (meth := k0m0) (c := k0c0) (by decide +kernel) rfl rfl rfl (by decide +kernel)
set_option maxRecDepth 65536 in
theorem w_c5 : (Jvm.Cond.code ({ cls := "java/lang/StringUTF16", name := "compress", desc := "([CII)[B" } : Jvm.MethodName) jdk_52_method_16_code (6 : Nat) (Option.some (Jvm.ClassFile.FieldType.array Jvm.ClassFile.FieldType.byte))).before args0 about1 = true := code_word (m := ⟨8, 2⟩) (meth := k8m2) (c := k8c2) (by decide +kernel) rfl rfl rfl (by decide +kernel)
set_option maxRecDepth 65536 in
theorem w_c6 : (Jvm.Cond.code ({ cls := "java/lang/StringUTF16", name := "compress", desc := "([CI[BII)I" } : Jvm.MethodName) jdk_52_method_21_code (7 : Nat) (Option.some Jvm.ClassFile.FieldType.int)).before args0 about1 = true := code_word (m := ⟨8, 3⟩) (meth := k8m3) (c := k8c3) (by decide +kernel) rfl rfl rfl (by decide +kernel)
set_option maxRecDepth 65536 in
theorem w_c7 : (Jvm.Cond.code ({ cls := "java/lang/StringUTF16", name := "coderFromArrayLen", desc := "([BI)B" } : Jvm.MethodName) jdk_52_method_15_code (2 : Nat) (Option.some Jvm.ClassFile.FieldType.byte)).before args0 about1 = true := code_word (m := ⟨8, 1⟩) (meth := k8m1) (c := k8c1) (by decide +kernel) rfl rfl rfl (by decide +kernel)
set_option maxRecDepth 65536 in
theorem w_c8 : (Jvm.Cond.code ({ cls := "com/example/eccentra/eccentra/GraphFormat", name := "named", desc := "(Ljava/lang/String;)Lcom/example/eccentra/eccentra/GraphFormat;" } : Jvm.MethodName) prog_10_method_4_code (5 : Nat) (Option.some (Jvm.ClassFile.FieldType.object "com/example/eccentra/eccentra/GraphFormat"))).before args0 about1 = true := code_word (m := ⟨10, 1⟩) (meth := k10m1) (c := k10c1) (by decide +kernel) rfl rfl rfl (by decide +kernel)
set_option maxRecDepth 65536 in
theorem w_c9 : (Jvm.Cond.code ({ cls := "com/example/eccentra/eccentra/GraphFormat", name := "values", desc := "()[Lcom/example/eccentra/eccentra/GraphFormat;" } : Jvm.MethodName) prog_10_method_1_code (0 : Nat) (Option.some (Jvm.ClassFile.FieldType.array (Jvm.ClassFile.FieldType.object "com/example/eccentra/eccentra/GraphFormat")))).before args0 about1 = true := code_word (m := ⟨10, 0⟩) (meth := k10m0) (c := k10c0) (by decide +kernel) rfl rfl rfl (by decide +kernel)
set_option maxRecDepth 65536 in
theorem w_c10 : (Jvm.Cond.code ({ cls := "java/lang/String", name := "equals", desc := "(Ljava/lang/Object;)Z" } : Jvm.MethodName) jdk_42_method_66_code (3 : Nat) (Option.some Jvm.ClassFile.FieldType.boolean)).before args0 about1 = true := code_word (m := ⟨7, 2⟩) (meth := k7m2) (c := k7c2) (by decide +kernel) rfl rfl rfl (by decide +kernel)
set_option maxRecDepth 65536 in
theorem w_c11 : (Jvm.Cond.code ({ cls := "java/lang/StringLatin1", name := "equals", desc := "([B[B)Z" } : Jvm.MethodName) jdk_43_method_13_code (3 : Nat) (Option.some Jvm.ClassFile.FieldType.boolean)).before args0 about1 = true := code_word (m := ⟨12, 2⟩) (meth := k12m2) (c := k12c2) (by decide +kernel) rfl rfl rfl (by decide +kernel)
set_option maxRecDepth 65536 in
theorem w_c12 : (Jvm.Cond.code ({ cls := "com/example/eccentra/eccentra/GraphFormatNamedPinLaw", name := "expected", desc := "(Ljava/lang/String;)Lcom/example/eccentra/eccentra/GraphFormat;" } : Jvm.MethodName) method_3_code (1 : Nat) (Option.some (Jvm.ClassFile.FieldType.object "com/example/eccentra/eccentra/GraphFormat"))).before args0 about1 = true := code_word (m := ⟨1, 2⟩) (meth := k1m2) (c := k1c2) (by decide +kernel) rfl rfl rfl (by decide +kernel)
set_option maxRecDepth 65536 in
theorem w_c13 : (Jvm.Cond.code ({ cls := "com/example/eccentra/eccentra/GraphFormatNamedPinLaw", name := "full", desc := "(I)[C" } : Jvm.MethodName) method_4_code (1 : Nat) (Option.some (Jvm.ClassFile.FieldType.array Jvm.ClassFile.FieldType.char))).before args0 about1 = true := code_word (m := ⟨1, 3⟩) (meth := k1m3) (c := k1c3) (by decide +kernel) rfl rfl rfl (by decide +kernel)
set_option maxRecDepth 65536 in
theorem w_c14 : (Jvm.Cond.code ({ cls := "com/example/eccentra/eccentra/GraphFormatNamedPinLaw", name := "trunc", desc := "(I)[C" } : Jvm.MethodName) method_5_code (1 : Nat) (Option.some (Jvm.ClassFile.FieldType.array Jvm.ClassFile.FieldType.char))).before args0 about1 = true := code_word (m := ⟨1, 4⟩) (meth := k1m4) (c := k1c4) (by decide +kernel) rfl rfl rfl (by decide +kernel)
set_option maxRecDepth 65536 in
theorem w_c15 : (Jvm.Cond.code ({ cls := "java/lang/String", name := "valueOf", desc := "(C)Ljava/lang/String;" } : Jvm.MethodName) jdk_42_method_139_code (1 : Nat) (Option.some (Jvm.ClassFile.FieldType.object "java/lang/String"))).before args0 about1 = true := code_word (m := ⟨7, 3⟩) (meth := k7m3) (c := k7c3) (by decide +kernel) rfl rfl rfl (by decide +kernel)
set_option maxRecDepth 65536 in
theorem w_c16 : (Jvm.Cond.code ({ cls := "java/lang/StringLatin1", name := "canEncode", desc := "(C)Z" } : Jvm.MethodName) jdk_43_method_3_code (1 : Nat) (Option.some Jvm.ClassFile.FieldType.boolean)).before args0 about1 = true := code_word (m := ⟨12, 1⟩) (meth := k12m1) (c := k12c1) (by decide +kernel) rfl rfl rfl (by decide +kernel)
set_option maxRecDepth 65536 in
theorem w_c17 : (Jvm.Cond.code ({ cls := "java/lang/StringLatin1", name := "toBytes", desc := "(C)[B" } : Jvm.MethodName) jdk_43_method_46_code (1 : Nat) (Option.some (Jvm.ClassFile.FieldType.array Jvm.ClassFile.FieldType.byte))).before args0 about1 = true := code_word (m := ⟨12, 3⟩) (meth := k12m3) (c := k12c3) (by decide +kernel) rfl rfl rfl (by decide +kernel)
set_option maxRecDepth 65536 in
theorem w_c18 : (Jvm.Cond.code ({ cls := "java/lang/String", name := "<init>", desc := "([BB)V" } : Jvm.MethodName) jdk_42_method_151_code (3 : Nat) (Option.none : Option Jvm.ClassFile.FieldType)).before args0 about1 = true := code_word (m := ⟨7, 5⟩) (meth := k7m5) (c := k7c5) (by decide +kernel) rfl rfl rfl (by decide +kernel)
def codes1 : List Jvm.Cond := [Jvm.Cond.code x code maxLocals ret, Jvm.Cond.code ({ cls := "com/example/eccentra/eccentra/GraphFormatNamedPinLaw", name := "ext", desc := "(IC)[C" } : Jvm.MethodName) method_6_code (2 : Nat) (Option.some (Jvm.ClassFile.FieldType.array Jvm.ClassFile.FieldType.char)), Jvm.Cond.code ({ cls := "java/lang/String", name := "<init>", desc := "([C)V" } : Jvm.MethodName) jdk_42_method_3_code (2 : Nat) (Option.none : Option Jvm.ClassFile.FieldType), Jvm.Cond.code ({ cls := "java/lang/String", name := "<init>", desc := "([CIILjava/lang/Void;)V" } : Jvm.MethodName) jdk_42_method_149_code (6 : Nat) (Option.none : Option Jvm.ClassFile.FieldType), Jvm.Cond.code ({ cls := "java/lang/Object", name := "<init>", desc := "()V" } : Jvm.MethodName) object_method_1_code (1 : Nat) (Option.none : Option Jvm.ClassFile.FieldType), Jvm.Cond.code ({ cls := "java/lang/StringUTF16", name := "compress", desc := "([CII)[B" } : Jvm.MethodName) jdk_52_method_16_code (6 : Nat) (Option.some (Jvm.ClassFile.FieldType.array Jvm.ClassFile.FieldType.byte)), Jvm.Cond.code ({ cls := "java/lang/StringUTF16", name := "compress", desc := "([CI[BII)I" } : Jvm.MethodName) jdk_52_method_21_code (7 : Nat) (Option.some Jvm.ClassFile.FieldType.int), Jvm.Cond.code ({ cls := "java/lang/StringUTF16", name := "coderFromArrayLen", desc := "([BI)B" } : Jvm.MethodName) jdk_52_method_15_code (2 : Nat) (Option.some Jvm.ClassFile.FieldType.byte), Jvm.Cond.code ({ cls := "com/example/eccentra/eccentra/GraphFormat", name := "named", desc := "(Ljava/lang/String;)Lcom/example/eccentra/eccentra/GraphFormat;" } : Jvm.MethodName) prog_10_method_4_code (5 : Nat) (Option.some (Jvm.ClassFile.FieldType.object "com/example/eccentra/eccentra/GraphFormat")), Jvm.Cond.code ({ cls := "com/example/eccentra/eccentra/GraphFormat", name := "values", desc := "()[Lcom/example/eccentra/eccentra/GraphFormat;" } : Jvm.MethodName) prog_10_method_1_code (0 : Nat) (Option.some (Jvm.ClassFile.FieldType.array (Jvm.ClassFile.FieldType.object "com/example/eccentra/eccentra/GraphFormat"))), Jvm.Cond.code ({ cls := "java/lang/String", name := "equals", desc := "(Ljava/lang/Object;)Z" } : Jvm.MethodName) jdk_42_method_66_code (3 : Nat) (Option.some Jvm.ClassFile.FieldType.boolean), Jvm.Cond.code ({ cls := "java/lang/StringLatin1", name := "equals", desc := "([B[B)Z" } : Jvm.MethodName) jdk_43_method_13_code (3 : Nat) (Option.some Jvm.ClassFile.FieldType.boolean), Jvm.Cond.code ({ cls := "com/example/eccentra/eccentra/GraphFormatNamedPinLaw", name := "expected", desc := "(Ljava/lang/String;)Lcom/example/eccentra/eccentra/GraphFormat;" } : Jvm.MethodName) method_3_code (1 : Nat) (Option.some (Jvm.ClassFile.FieldType.object "com/example/eccentra/eccentra/GraphFormat")), Jvm.Cond.code ({ cls := "com/example/eccentra/eccentra/GraphFormatNamedPinLaw", name := "full", desc := "(I)[C" } : Jvm.MethodName) method_4_code (1 : Nat) (Option.some (Jvm.ClassFile.FieldType.array Jvm.ClassFile.FieldType.char)), Jvm.Cond.code ({ cls := "com/example/eccentra/eccentra/GraphFormatNamedPinLaw", name := "trunc", desc := "(I)[C" } : Jvm.MethodName) method_5_code (1 : Nat) (Option.some (Jvm.ClassFile.FieldType.array Jvm.ClassFile.FieldType.char)), Jvm.Cond.code ({ cls := "java/lang/String", name := "valueOf", desc := "(C)Ljava/lang/String;" } : Jvm.MethodName) jdk_42_method_139_code (1 : Nat) (Option.some (Jvm.ClassFile.FieldType.object "java/lang/String")), Jvm.Cond.code ({ cls := "java/lang/StringLatin1", name := "canEncode", desc := "(C)Z" } : Jvm.MethodName) jdk_43_method_3_code (1 : Nat) (Option.some Jvm.ClassFile.FieldType.boolean), Jvm.Cond.code ({ cls := "java/lang/StringLatin1", name := "toBytes", desc := "(C)[B" } : Jvm.MethodName) jdk_43_method_46_code (1 : Nat) (Option.some (Jvm.ClassFile.FieldType.array Jvm.ClassFile.FieldType.byte)), Jvm.Cond.code ({ cls := "java/lang/String", name := "<init>", desc := "([BB)V" } : Jvm.MethodName) jdk_42_method_151_code (3 : Nat) (Option.none : Option Jvm.ClassFile.FieldType)]
set_option maxRecDepth 65536 in
theorem codes_eq : words1.filter isCode = codes1 := rfl
theorem w_codes : ∀ c ∈ words1.filter isCode, c.before args0 about1 = true := by
  rw [codes_eq]
  intro c hc
  simp only [codes1, List.mem_cons, List.not_mem_nil, or_false] at hc
  rcases hc with rfl | rfl | rfl | rfl | rfl | rfl | rfl | rfl | rfl | rfl | rfl | rfl | rfl | rfl | rfl | rfl | rfl | rfl | rfl
  · exact w_c0
  · exact w_c1
  · exact w_c2
  · exact w_c3
  · exact w_c4
  · exact w_c5
  · exact w_c6
  · exact w_c7
  · exact w_c8
  · exact w_c9
  · exact w_c10
  · exact w_c11
  · exact w_c12
  · exact w_c13
  · exact w_c14
  · exact w_c15
  · exact w_c16
  · exact w_c17
  · exact w_c18
set_option maxRecDepth 65536 in
theorem w_t1 : (words1.take 24).all (fun c => isCode c || c.before args0 about1) = true := by decide +kernel
set_option maxRecDepth 65536 in
theorem w_t2 : ((words1.drop 24).take 24).all (fun c => isCode c || c.before args0 about1) = true := by decide +kernel
set_option maxRecDepth 65536 in
theorem w_t3 : (((words1.drop 24).drop 24).take 24).all (fun c => isCode c || c.before args0 about1) = true := by decide +kernel
set_option maxRecDepth 65536 in
theorem w_t4 : ((((words1.drop 24).drop 24).drop 24).take 24).all (fun c => isCode c || c.before args0 about1) = true := by decide +kernel
set_option maxRecDepth 65536 in
theorem w_t5 : ((((words1.drop 24).drop 24).drop 24).drop 24).all (fun c => isCode c || c.before args0 about1) = true := by decide +kernel
theorem w_tables : (allAtoms (Jvm.Cond.code x code maxLocals ret :: tables_1)).before args0 about1 = true := by
  rw [allAtoms_all]
  show words1.all (fun c => c.before args0 about1) = true
  refine all_split ?_ w_codes
  rw [← List.take_append_drop 24 words1, List.all_append, w_t1, ← List.take_append_drop 24 (words1.drop 24), List.all_append, w_t2, ← List.take_append_drop 24 ((words1.drop 24).drop 24), List.all_append, w_t3, ← List.take_append_drop 24 (((words1.drop 24).drop 24).drop 24), List.all_append, w_t4, w_t5]
  rfl
set_option maxRecDepth 65536 in
theorem w_rest : rest_1_c.before args0 about1 = true := by decide +kernel
set_option maxRecDepth 65536 in
theorem w_case : (Jvm.Cond.and given_1 narrow_1).before args0 about1 = true := by decide +kernel
set_option maxRecDepth 65536 in
theorem w_consts : constsHeld consts_1 about1 := Jvm.Lit.constsHeldB_iff.mp (by decide +kernel)
theorem w_applies : (headSpec (Jvm.Cond.code x code maxLocals ret :: tables_1) room_1).applies x e0.platform about1 = true :=
  (Spec.applies_iff w_frames).mpr ⟨w_running, w_runnable, w_alone, w_named, w_hears, w_ripe, w_room, w_tables⟩
theorem atStart : AtStart classFile x code maxLocals ret World_1 tables_1 room_1 Calls_1 rest_1 Pre_1 launch0 p0 e0 about1 theMethod args0 below0 :=
  ⟨lists_1, trivial, launch0.admits_env _ _ _, launch0.least_env, fairChoices_fair.cas, fairChoices_fair.clock, w_frames, w_args, w_heap, w_applies, ⟨w_consts, trivial⟩, w_rest, w_case⟩
end start1
theorem witness_1 : WitnessClaimed_1 := ⟨start1.p0, start1.e0, start1.about1, start1.theMethod, start1.args0, start1.below0, start1.atStart⟩
end Jvm.Pilot.@@N@@
