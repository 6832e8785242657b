import JvmDerived
import JvmDerived.Pilot.@@N@@Statement
import JvmDerived.Pilot.@@N@@Code
set_option linter.unusedVariables false
set_option linter.unusedSimpArgs false
set_option maxRecDepth 65536
set_option maxHeartbeats 40000000
namespace Jvm.Wk
abbrev F4 := Fin 4
abbrev F2 := Fin 2
open Sem ClassFile Op Lib Jvm.Stand Jvm.Free Jvm.LawKit Jvm.RoadKit
/-- the array at a holds just these values -/
def Ary (Z : State) (h : Heap) (a : Addr) (ty : FieldType) (vs : List Value) : Prop :=
  ∃ c : Cell, Arr Z h a c ty ∧ c.slots.toList = vs ∧ (∀ v ∈ vs, fits ty v = true) ∧ vs.length < 2 ^ 31
/-- how a body ends (of the start and the end), and what is known of the tables where its walk stands -/
abbrev FEnd := (State → Outcome → State → List Loc → Nat → Nat → Prop) × (Vm → Prop)
abbrev FN : FEnd := ⟨FrameEnd, fun _ => True⟩
/-- the wide frame: String constants may have been resolved, the table of interned texts may have grown -/
abbrev FEW : FEnd := ⟨fun s o t L k n => (∃ v : Option Value, o = Outcome.returned v) ∧ s.Warmed39 t.vm ∧ (∀ (j : Nat) (p : Array UInt16 × Addr), s.vm.interned.size ≤ j → t.vm.interned[j]? = some p → s.heap.size ≤ p.2 ∧ p.2 < t.heap.size) ∧ s.sameButNew { t with vm := s.vm } L k n, fun _ => True⟩
def Endz (FE : FEnd) (p : Program) (e : Env) (below : List Frame) (s : State) (R : Room) (n0 : Nat) (P : Option Value → Heap → Prop) (T : State) (g : JFrame) : Prop :=
  ∃ s₂ o, Steps p.tables e below (T.setTop g) s₂ ∧ s₂.status = .running ∧ Ended s₂ below o ∧ ∃ v L, o = .returned v ∧ (P v s₂.heap ∧ Fr n0 L) ∧ FE.1 s o s₂ L R.cells R.slots
/-- from pc, with these locals, this stack and this heap, the body comes to its end, and P holds there -/
def WG (FE : FEnd) (l : Launch) (R : Room) (Z : State) (own nm : String) (bytes : ByteArray) (maxL : Nat) (ret : Option FieldType) (n0 : Nat) (P : Option Value → Heap → Prop) (h : Heap) (cells slots pc : Nat) (Ls : Array Slot) (st : List Value) : Prop :=
  ∀ (p : Program) (e : Env) (s : State) (m : MethodId) (args : Array Value) (below : List Frame) (meth : Method) (c : Code) (T : State) (locs : List Loc),
    p.tables.exec = Jvm.exec → Z.Warmed39 s.vm → c.code = bytes → c.maxLocals = maxL → s.vm.findClass own = some m.cls → meth.sig.returnType = ret → meth.locks = false → meth.name = nm → (n0 ≤ s.heap.size ∧ FE.2 s.vm) →
    Stand p l e R s m args below meth c T locs cells slots → T.heap = h → Fr n0 locs → Endz FE p e below s R n0 P T (mkF m pc Ls st)
abbrev W := WG FN
/-- a method's contract where it is called with these arguments over this heap -/
def ConG (FE : FEnd) (ws : List Jvm.Cond) (l : Launch) (Z : State) (y : MethodName) (bytes : ByteArray) (maxL : Nat) (ret : Option FieldType) (rm : Room) (as : Array Value) (h : Heap) (n0 : Nat) (P : Option Value → Heap → Prop) : Prop :=
  MetFree l y (head1 (Jvm.Cond.code y bytes maxL ret :: ws) rm) (fun a U => a = as ∧ Z.Warmed39 U.vm ∧ U.heap = h) (fun _ _ _ _ _ => True) (fun _ U o U' => ∃ v L, o = .returned v ∧ (P v U'.heap ∧ Fr n0 L) ∧ FE.1 U o U' L rm.cells rm.slots)
abbrev ConW := ConG FN
abbrev Con := ConW []
section Rules
variable {FE : FEnd} {l : Launch} {R : Room} {Z : State} {own nm : String} {bytes : ByteArray} {maxL : Nat} {ret : Option FieldType} {n0 : Nat} {P : Option Value → Heap → Prop} {h : Heap} {cells slots pc : Nat} {Ls : Array Slot} {st : List Value} {a0 : Array Value}
theorem Endz.step {p : Program} {e : Env} {below : List Frame} {s : State} {T T' : State} {g g' : JFrame} (k : Endz FE p e below s R n0 P T' g') (f : ∀ t, Steps p.tables e below (T'.setTop g') t → Steps p.tables e below (T.setTop g) t) : Endz FE p e below s R n0 P T g := by
  obtain ⟨s₂, o, h1, h2⟩ := k
  exact ⟨s₂, o, f _ h1, h2⟩
theorem WG.step {pc' : Nat} {Ls' : Array Slot} {st' : List Value} (k : WG FE l R Z own nm bytes maxL ret n0 P h cells slots pc' Ls' st')
    (f : ∀ (p : Program) (e : Env) (s : State) (m : MethodId) (args : Array Value) (below : List Frame) (meth : Method) (c : Code) (T : State) (locs : List Loc), p.tables.exec = Jvm.exec → Z.Warmed39 s.vm → c.code = bytes → s.vm.findClass own = some m.cls → Stand p l e R s m args below meth c T locs cells slots → T.heap = h →
      ∀ t, Steps p.tables e below (T.setTop (mkF m pc' Ls' st')) t → Steps p.tables e below (T.setTop (mkF m pc Ls st)) t) : WG FE l R Z own nm bytes maxL ret n0 P h cells slots pc Ls st := by
  intro p e s m args below meth c T locs hx hZ hby hml hown hret hlk hnm hn0 X eT N
  exact (k p e s m args below meth c T locs hx hZ hby hml hown hret hlk hnm hn0 X eT N).step (f p e s m args below meth c T locs hx hZ hby hown X eT)
theorem WG.post {P' : Option Value → Heap → Prop} (k : WG FE l R Z own nm bytes maxL ret n0 P' h cells slots pc Ls st) (f : ∀ v h', P' v h' → P v h') : WG FE l R Z own nm bytes maxL ret n0 P h cells slots pc Ls st := by
  intro p e s m args below meth c T locs hx hZ hby hml hown hret hlk hnm hn0 X eT N
  obtain ⟨s₂, o, h1, h2, h3, v, L, h4, h5, h6⟩ := k p e s m args below meth c T locs hx hZ hby hml hown hret hlk hnm hn0 X eT N
  exact ⟨s₂, o, h1, h2, h3, v, L, h4, ⟨f _ _ h5.1, h5.2⟩, h6⟩
theorem WG.mono {cells' slots' : Nat} (k : WG FE l R Z own nm bytes maxL ret n0 P h cells' slots' pc Ls st) (hc : cells ≤ cells') (hs : slots ≤ slots') : WG FE l R Z own nm bytes maxL ret n0 P h cells slots pc Ls st := by
  intro p e s m args below meth c T locs hx hZ hby hml hown hret hlk hnm hn0 X eT N
  exact k p e s m args below meth c T locs hx hZ hby hml hown hret hlk hnm hn0 { X with same := X.same.mono hc hs } eT N
theorem ConG.post {ws : List Jvm.Cond} {y : MethodName} {rm : Room} {as : Array Value} {P' : Option Value → Heap → Prop} (k : ConG FE ws l Z y bytes maxL ret rm as h n0 P') (f : ∀ v h', P' v h' → P v h') : ConG FE ws l Z y bytes maxL ret rm as h n0 P := by
  intro p e ha hc hk s m args below hf happ hP hK
  obtain ⟨n, o, h1, h2, h3, v, L, h4, h5, h6⟩ := k p e ha hc hk s m args below hf happ hP hK
  exact ⟨n, o, h1, h2, h3, v, L, h4, ⟨f _ _ h5.1, h5.2⟩, h6⟩
theorem ConG.of_W {ws : List Jvm.Cond} {y : MethodName} {rm : Room} {as : Array Value} (hy : plainFor y = true) (hn : n0 ≤ h.size) (hef : ∀ m, entryFrame m as maxL = mkF m 0 Ls []) (k : WG FE l rm Z y.cls y.name bytes maxL ret n0 P h 0 0 0 Ls []) (hI : ∀ vm, FE.2 vm := by intro _; trivial) : ConG FE ws l Z y bytes maxL ret rm as h n0 P := by
  refine MetFree.of_bodySF hy hisR ?_
  intro p e s m args below meth c s₁ Bd hml0 hP hK
  obtain ⟨rfl, hZ, hh⟩ := hP
  have hown : s.vm.findClass y.cls = some m.cls := findClass_of_methodNamed Bd.named
  have hnm := (name_of_methodNamed Bd.named Bd.method).1
  have X0 : Stand p l e rm s m _ below meth c s₁ [] 0 0 := Stand.of_body Bd
  have e0 : s₁.heap = h := by rw [← hh, Bd.state]; rfl
  obtain ⟨s₂, o, h1, h2⟩ := k p e s m _ below meth c s₁ [] Bd.exec hZ Bd.bytes hml0 hown Bd.returns (BodyLoose.notSynchronized Bd) hnm ⟨by rw [hh]; exact hn, hI _⟩ X0 e0 (Fr.nil n0)
  exact ⟨s₂, o, castTop (hef m) h1, h2⟩
/-! pure steps -/
theorem W.isub {x y : Int32} (n : Nat) (hd : decode bytes pc = .ok (.isub, 1)) (hn : pc + 1 = n) (v : Int32) (hv : x - y = v) (k : WG FE l R Z own nm bytes maxL ret n0 P h cells slots n Ls (.int v :: st)) : WG FE l R Z own nm bytes maxL ret n0 P h cells slots pc Ls (.int y :: .int x :: st) := by
  subst hn
  exact k.step fun p e s m args below meth c T locs hx hZ hby hown X eT t q => XS.isub X.here hx rfl (hb hby hd) rfl (hv ▸ q)
theorem W.iand {x y : Int32} (n : Nat) (hd : decode bytes pc = .ok (.iand, 1)) (hn : pc + 1 = n) (v : Int32) (hv : x &&& y = v) (k : WG FE l R Z own nm bytes maxL ret n0 P h cells slots n Ls (.int v :: st)) : WG FE l R Z own nm bytes maxL ret n0 P h cells slots pc Ls (.int y :: .int x :: st) := by
  subst hn
  exact k.step fun p e s m args below meth c T locs hx hZ hby hown X eT t q => XS.iand X.here hx rfl (hb hby hd) rfl (hv ▸ q)
theorem W.iushr {x y : Int32} (n : Nat) (hd : decode bytes pc = .ok (.iushr, 1)) (hn : pc + 1 = n) (v : Int32) (hv : (x.toUInt32 >>> (y &&& 31).toUInt32).toInt32 = v) (k : WG FE l R Z own nm bytes maxL ret n0 P h cells slots n Ls (.int v :: st)) : WG FE l R Z own nm bytes maxL ret n0 P h cells slots pc Ls (.int y :: .int x :: st) := by
  subst hn
  exact k.step fun p e s m args below meth c T locs hx hZ hby hown X eT t q => XS.iushr X.here hx rfl (hb hby hd) rfl (hv ▸ q)
theorem W.i2b {x : Int32} (n : Nat) (hd : decode bytes pc = .ok (.i2b, 1)) (hn : pc + 1 = n) (v : Int32) (hv : x.toInt8.toInt32 = v) (k : WG FE l R Z own nm bytes maxL ret n0 P h cells slots n Ls (.int v :: st)) : WG FE l R Z own nm bytes maxL ret n0 P h cells slots pc Ls (.int x :: st) := by
  subst hn
  exact k.step fun p e s m args below meth c T locs hx hZ hby hown X eT t q => XS.i2b X.here hx rfl (hb hby hd) rfl (hv ▸ q)
theorem W.i2c {x : Int32} (n : Nat) (hd : decode bytes pc = .ok (.i2c, 1)) (hn : pc + 1 = n) (v : Int32) (hv : x.toUInt32.toUInt16.toUInt32.toInt32 = v) (k : WG FE l R Z own nm bytes maxL ret n0 P h cells slots n Ls (.int v :: st)) : WG FE l R Z own nm bytes maxL ret n0 P h cells slots pc Ls (.int x :: st) := by
  subst hn
  exact k.step fun p e s m args below meth c T locs hx hZ hby hown X eT t q => XS.i2c X.here hx rfl (hb hby hd) rfl (hv ▸ q)
theorem W.iconst {i : Int} (n : Nat) (hd : decode bytes pc = .ok (.iconst i, 1)) (hn : pc + 1 = n) (v : Int32) (hv : Int32.ofInt i = v) (k : WG FE l R Z own nm bytes maxL ret n0 P h cells slots n Ls (.int v :: st)) : WG FE l R Z own nm bytes maxL ret n0 P h cells slots pc Ls st := by
  subst hn
  exact k.step fun p e s m args below meth c T locs hx hZ hby hown X eT t q => XS.iconst X.here hx rfl (hb hby hd) (hv ▸ q)
theorem W.bipush {i : Int} (n : Nat) (hd : decode bytes pc = .ok (.bipush i, 2)) (hn : pc + 2 = n) (v : Int32) (hv : (Int8.ofInt i).toInt32 = v) (k : WG FE l R Z own nm bytes maxL ret n0 P h cells slots n Ls (.int v :: st)) : WG FE l R Z own nm bytes maxL ret n0 P h cells slots pc Ls st := by
  subst hn
  exact k.step fun p e s m args below meth c T locs hx hZ hby hown X eT t q => XS.bipush X.here hx rfl (hb hby hd) (hv ▸ q)
theorem W.sipush {i : Int} (n : Nat) (hd : decode bytes pc = .ok (.sipush i, 3)) (hn : pc + 3 = n) (v : Int32) (hv : (Int16.ofInt i).toInt32 = v) (k : WG FE l R Z own nm bytes maxL ret n0 P h cells slots n Ls (.int v :: st)) : WG FE l R Z own nm bytes maxL ret n0 P h cells slots pc Ls st := by
  subst hn
  exact k.step fun p e s m args below meth c T locs hx hZ hby hown X eT t q => XS.sipush X.here hx rfl (hb hby hd) (hv ▸ q)
theorem W.aconst_null (n : Nat) (hd : decode bytes pc = .ok (.aconst_null, 1)) (hn : pc + 1 = n) (k : WG FE l R Z own nm bytes maxL ret n0 P h cells slots n Ls (.null :: st)) : WG FE l R Z own nm bytes maxL ret n0 P h cells slots pc Ls st := by
  subst hn
  exact k.step fun p e s m args below meth c T locs hx hZ hby hown X eT t q => XS.aconstNull X.here hx rfl (hb hby hd) q
theorem W.iload {i : Nat} {v : Int32} (n : Nat) (hd : decode bytes pc = .ok (.iload i, 2)) (hn : pc + 2 = n) (hl : Ls[i]? = some (.val (.int v))) (k : WG FE l R Z own nm bytes maxL ret n0 P h cells slots n Ls (.int v :: st)) : WG FE l R Z own nm bytes maxL ret n0 P h cells slots pc Ls st := by
  subst hn
  exact k.step fun p e s m args below meth c T locs hx hZ hby hown X eT t q => XS.iload X.here hx rfl (hb hby hd) hl q
theorem W.iloadN {i : F4} {v : Int32} (n : Nat) (hd : decode bytes pc = .ok (.iload_n i, 1)) (hn : pc + 1 = n) (hl : Ls[i.val]? = some (.val (.int v))) (k : WG FE l R Z own nm bytes maxL ret n0 P h cells slots n Ls (.int v :: st)) : WG FE l R Z own nm bytes maxL ret n0 P h cells slots pc Ls st := by
  subst hn
  exact k.step fun p e s m args below meth c T locs hx hZ hby hown X eT t q => XS.iloadN X.here hx rfl (hb hby hd) hl q
theorem W.aload {i : Nat} {v : Value} (n : Nat) (hd : decode bytes pc = .ok (.aload i, 2)) (hn : pc + 2 = n) (hl : Ls[i]? = some (.val v)) (hv : v.isRef = true) (k : WG FE l R Z own nm bytes maxL ret n0 P h cells slots n Ls (v :: st)) : WG FE l R Z own nm bytes maxL ret n0 P h cells slots pc Ls st := by
  subst hn
  exact k.step fun p e s m args below meth c T locs hx hZ hby hown X eT t q => XS.aload X.here hx rfl (hb hby hd) hl hv q
theorem W.aloadN {i : F4} {v : Value} (n : Nat) (hd : decode bytes pc = .ok (.aload_n i, 1)) (hn : pc + 1 = n) (hl : Ls[i.val]? = some (.val v)) (hv : v.isRef = true) (k : WG FE l R Z own nm bytes maxL ret n0 P h cells slots n Ls (v :: st)) : WG FE l R Z own nm bytes maxL ret n0 P h cells slots pc Ls st := by
  subst hn
  exact k.step fun p e s m args below meth c T locs hx hZ hby hown X eT t q => XS.aloadN X.here hx rfl (hb hby hd) hl hv q
theorem W.istore {i : Nat} {v : Int32} (n : Nat) (hd : decode bytes pc = .ok (.istore i, 2)) (hn : pc + 2 = n) (Ls' : Array Slot) (hl : storeLocals Ls i (.int v) = some Ls') (k : WG FE l R Z own nm bytes maxL ret n0 P h cells slots n Ls' st) : WG FE l R Z own nm bytes maxL ret n0 P h cells slots pc Ls (.int v :: st) := by
  subst hn
  exact k.step fun p e s m args below meth c T locs hx hZ hby hown X eT t q => XS.istore X.here hx rfl (hb hby hd) rfl hl q
theorem W.istoreN {i : F4} {v : Int32} (n : Nat) (hd : decode bytes pc = .ok (.istore_n i, 1)) (hn : pc + 1 = n) (Ls' : Array Slot) (hl : storeLocals Ls i.val (.int v) = some Ls') (k : WG FE l R Z own nm bytes maxL ret n0 P h cells slots n Ls' st) : WG FE l R Z own nm bytes maxL ret n0 P h cells slots pc Ls (.int v :: st) := by
  subst hn
  exact k.step fun p e s m args below meth c T locs hx hZ hby hown X eT t q => XS.istoreN X.here hx rfl (hb hby hd) rfl hl q
theorem W.astore {i : Nat} {v : Value} (n : Nat) (hd : decode bytes pc = .ok (.astore i, 2)) (hn : pc + 2 = n) (hv : v.isRef = true) (Ls' : Array Slot) (hl : storeLocals Ls i v = some Ls') (k : WG FE l R Z own nm bytes maxL ret n0 P h cells slots n Ls' st) : WG FE l R Z own nm bytes maxL ret n0 P h cells slots pc Ls (v :: st) := by
  subst hn
  exact k.step fun p e s m args below meth c T locs hx hZ hby hown X eT t q => XS.astore X.here hx rfl (hb hby hd) rfl hv hl q
theorem W.astoreN {i : F4} {v : Value} (n : Nat) (hd : decode bytes pc = .ok (.astore_n i, 1)) (hn : pc + 1 = n) (hv : v.isRef = true) (Ls' : Array Slot) (hl : storeLocals Ls i.val v = some Ls') (k : WG FE l R Z own nm bytes maxL ret n0 P h cells slots n Ls' st) : WG FE l R Z own nm bytes maxL ret n0 P h cells slots pc Ls (v :: st) := by
  subst hn
  exact k.step fun p e s m args below meth c T locs hx hZ hby hown X eT t q => XS.astoreN X.here hx rfl (hb hby hd) rfl hv hl q
theorem W.iinc {i : Nat} {cst : Int} {x : Int32} (n : Nat) (hd : decode bytes pc = .ok (.iinc i cst, 3)) (hn : pc + 3 = n) (hx0 : Ls[i]? = some (.val (.int x))) (v : Int32) (hv : x + Int32.ofInt cst = v) (Ls' : Array Slot) (hl : storeLocals Ls i (.int v) = some Ls') (k : WG FE l R Z own nm bytes maxL ret n0 P h cells slots n Ls' st) : WG FE l R Z own nm bytes maxL ret n0 P h cells slots pc Ls st := by
  subst hn
  exact k.step fun p e s m args below meth c T locs hx hZ hby hown X eT t q => XS.iinc X.here hx rfl (hb hby hd) hx0 (hv ▸ hl) q
theorem W.dup {v : Value} (n : Nat) (hd : decode bytes pc = .ok (.dup, 1)) (hn : pc + 1 = n) (hc : v.category = 1) (k : WG FE l R Z own nm bytes maxL ret n0 P h cells slots n Ls (v :: v :: st)) : WG FE l R Z own nm bytes maxL ret n0 P h cells slots pc Ls (v :: st) := by
  subst hn
  exact k.step fun p e s m args below meth c T locs hx hZ hby hown X eT t q => XS.dup X.here hx rfl (hb hby hd) rfl hc q
theorem W.goto {o : Int} (n : Nat) (hd : decode bytes pc = .ok (.goto o, 3)) (hn : (pc : Int) + o = (n : Int)) (k : WG FE l R Z own nm bytes maxL ret n0 P h cells slots n Ls st) : WG FE l R Z own nm bytes maxL ret n0 P h cells slots pc Ls st :=
  k.step fun p e s m args below meth c T locs hx hZ hby hown X eT t q => XS.goto X.here hx rfl (pc0 := pc) (pc' := n) rfl (hb hby hd) (by omega) (by omega) q
theorem W.icmp_ge {x y : Int32} {o : Int} (n n' : Nat) (hd : decode bytes pc = .ok (.if_icmp .ge o, 3)) (hn : (pc : Int) + o = (n : Int)) (hn' : pc + 3 = n') (k : ¬ x < y → WG FE l R Z own nm bytes maxL ret n0 P h cells slots n Ls st) (k' : x < y → WG FE l R Z own nm bytes maxL ret n0 P h cells slots n' Ls st) : WG FE l R Z own nm bytes maxL ret n0 P h cells slots pc Ls (.int y :: .int x :: st) := by
  subst hn'
  by_cases hc : x < y
  · exact (k' hc).step fun p e s m args below meth c T locs hx hZ hby hown X eT t q => XS.icmpNo X.here hx rfl (hb hby hd) rfl (tlt hc).2.1 q
  · exact (k hc).step fun p e s m args below meth c T locs hx hZ hby hown X eT t q => XS.icmpYes X.here hx rfl (pc0 := pc) (pc' := n) rfl (hb hby hd) rfl (flt hc).2.1 (by omega) (by omega) q
theorem W.icmp_le {x y : Int32} {o : Int} (n n' : Nat) (hd : decode bytes pc = .ok (.if_icmp .le o, 3)) (hn : (pc : Int) + o = (n : Int)) (hn' : pc + 3 = n') (k : ¬ y < x → WG FE l R Z own nm bytes maxL ret n0 P h cells slots n Ls st) (k' : y < x → WG FE l R Z own nm bytes maxL ret n0 P h cells slots n' Ls st) : WG FE l R Z own nm bytes maxL ret n0 P h cells slots pc Ls (.int y :: .int x :: st) := by
  subst hn'
  by_cases hc : y < x
  · exact (k' hc).step fun p e s m args below meth c T locs hx hZ hby hown X eT t q => XS.icmpNo X.here hx rfl (hb hby hd) rfl (tlt hc).2.2.2 q
  · exact (k hc).step fun p e s m args below meth c T locs hx hZ hby hown X eT t q => XS.icmpYes X.here hx rfl (pc0 := pc) (pc' := n) rfl (hb hby hd) rfl (flt hc).2.2.2 (by omega) (by omega) q
theorem W.if_le {x : Int32} {o : Int} (n n' : Nat) (hd : decode bytes pc = .ok (.ifCond .le o, 3)) (hn : (pc : Int) + o = (n : Int)) (hn' : pc + 3 = n') (k : ¬ (0 : Int32) < x → WG FE l R Z own nm bytes maxL ret n0 P h cells slots n Ls st) (k' : (0 : Int32) < x → WG FE l R Z own nm bytes maxL ret n0 P h cells slots n' Ls st) : WG FE l R Z own nm bytes maxL ret n0 P h cells slots pc Ls (.int x :: st) := by
  subst hn'
  by_cases hc : (0 : Int32) < x
  · exact (k' hc).step fun p e s m args below meth c T locs hx hZ hby hown X eT t q => XS.ifNo X.here hx rfl (hb hby hd) rfl ((if0 _ _).trans (tlt hc).2.2.2) q
  · exact (k hc).step fun p e s m args below meth c T locs hx hZ hby hown X eT t q => XS.ifYes X.here hx rfl (pc0 := pc) (pc' := n) rfl (hb hby hd) rfl ((if0 _ _).trans (flt hc).2.2.2) (by omega) (by omega) q
theorem W.icmp_eq {x y : Int32} {o : Int} (n n' : Nat) (hd : decode bytes pc = .ok (.if_icmp .eq o, 3)) (hn : (pc : Int) + o = (n : Int)) (hn' : pc + 3 = n') (k : x = y → WG FE l R Z own nm bytes maxL ret n0 P h cells slots n Ls st) (k' : ¬ x = y → WG FE l R Z own nm bytes maxL ret n0 P h cells slots n' Ls st) : WG FE l R Z own nm bytes maxL ret n0 P h cells slots pc Ls (.int y :: .int x :: st) := by
  subst hn'
  by_cases hc : x = y
  · exact (k hc).step fun p e s m args below meth c T locs hx hZ hby hown X eT t q => XS.icmpYes X.here hx rfl (pc0 := pc) (pc' := n) rfl (hb hby hd) rfl (teq hc).1 (by omega) (by omega) q
  · exact (k' hc).step fun p e s m args below meth c T locs hx hZ hby hown X eT t q => XS.icmpNo X.here hx rfl (hb hby hd) rfl (feq hc).1 q
theorem W.if_eq {x : Int32} {o : Int} (n n' : Nat) (hd : decode bytes pc = .ok (.ifCond .eq o, 3)) (hn : (pc : Int) + o = (n : Int)) (hn' : pc + 3 = n') (k : x = (0 : Int32) → WG FE l R Z own nm bytes maxL ret n0 P h cells slots n Ls st) (k' : ¬ x = (0 : Int32) → WG FE l R Z own nm bytes maxL ret n0 P h cells slots n' Ls st) : WG FE l R Z own nm bytes maxL ret n0 P h cells slots pc Ls (.int x :: st) := by
  subst hn'
  by_cases hc : x = (0 : Int32)
  · exact (k hc).step fun p e s m args below meth c T locs hx hZ hby hown X eT t q => XS.ifYes X.here hx rfl (pc0 := pc) (pc' := n) rfl (hb hby hd) rfl ((if0 _ _).trans (teq hc).1) (by omega) (by omega) q
  · exact (k' hc).step fun p e s m args below meth c T locs hx hZ hby hown X eT t q => XS.ifNo X.here hx rfl (hb hby hd) rfl ((if0 _ _).trans (feq hc).1) q
theorem W.icmp_ne {x y : Int32} {o : Int} (n n' : Nat) (hd : decode bytes pc = .ok (.if_icmp .ne o, 3)) (hn : (pc : Int) + o = (n : Int)) (hn' : pc + 3 = n') (k : ¬ x = y → WG FE l R Z own nm bytes maxL ret n0 P h cells slots n Ls st) (k' : x = y → WG FE l R Z own nm bytes maxL ret n0 P h cells slots n' Ls st) : WG FE l R Z own nm bytes maxL ret n0 P h cells slots pc Ls (.int y :: .int x :: st) := by
  subst hn'
  by_cases hc : x = y
  · exact (k' hc).step fun p e s m args below meth c T locs hx hZ hby hown X eT t q => XS.icmpNo X.here hx rfl (hb hby hd) rfl (teq hc).2 q
  · exact (k hc).step fun p e s m args below meth c T locs hx hZ hby hown X eT t q => XS.icmpYes X.here hx rfl (pc0 := pc) (pc' := n) rfl (hb hby hd) rfl (feq hc).2 (by omega) (by omega) q
theorem W.if_ne {x : Int32} {o : Int} (n n' : Nat) (hd : decode bytes pc = .ok (.ifCond .ne o, 3)) (hn : (pc : Int) + o = (n : Int)) (hn' : pc + 3 = n') (k : ¬ x = (0 : Int32) → WG FE l R Z own nm bytes maxL ret n0 P h cells slots n Ls st) (k' : x = (0 : Int32) → WG FE l R Z own nm bytes maxL ret n0 P h cells slots n' Ls st) : WG FE l R Z own nm bytes maxL ret n0 P h cells slots pc Ls (.int x :: st) := by
  subst hn'
  by_cases hc : x = (0 : Int32)
  · exact (k' hc).step fun p e s m args below meth c T locs hx hZ hby hown X eT t q => XS.ifNo X.here hx rfl (hb hby hd) rfl ((if0 _ _).trans (teq hc).2) q
  · exact (k hc).step fun p e s m args below meth c T locs hx hZ hby hown X eT t q => XS.ifYes X.here hx rfl (pc0 := pc) (pc' := n) rfl (hb hby hd) rfl ((if0 _ _).trans (feq hc).2) (by omega) (by omega) q
theorem W.acmp_ne {x y : Value} {o : Int} (n n' : Nat) (hd : decode bytes pc = .ok (.if_acmp .ne o, 3)) (hn : (pc : Int) + o = (n : Int)) (hn' : pc + 3 = n') (h1 : x.isRef = true) (h2 : y.isRef = true) (k : ¬ x = y → WG FE l R Z own nm bytes maxL ret n0 P h cells slots n Ls st) (k' : x = y → WG FE l R Z own nm bytes maxL ret n0 P h cells slots n' Ls st) : WG FE l R Z own nm bytes maxL ret n0 P h cells slots pc Ls (y :: x :: st) := by
  subst hn'
  by_cases hc : x = y
  · exact (k' hc).step fun p e s m args below meth c T locs hx hZ hby hown X eT t q => RoadKit.acmp X hx rfl h1 h2 (pc0 := pc) (pc' := pc + 3) (same := true) rfl (hb hby hd) rfl (decide_eq_true hc) (by omega) (by simp [acV]; try omega) q
  · exact (k hc).step fun p e s m args below meth c T locs hx hZ hby hown X eT t q => RoadKit.acmp X hx rfl h1 h2 (pc0 := pc) (pc' := n) (same := false) rfl (hb hby hd) rfl (decide_eq_false hc) (by omega) (by simp [acV]; try omega) q
/-! the heap -/
theorem Fr.one {k : Nat} {L : List Loc} {a : Addr} {sl : Nat} (N : Fr k L) (q : k ≤ a) : Fr k (L ++ [⟨a, sl⟩]) := N.app fun y hy => by cases List.mem_singleton.mp hy; exact q
theorem Keep.of_ext {h h' : Heap} (E : Ext h h') : Keep h h' [] := (Keep.refl h []).ext E
theorem size_le {p : Program} {e : Env} {s : State} {m : MethodId} {args : Array Value} {below : List Frame} {meth : Method} {c : Code} {T : State} {locs : List Loc} (X : Stand p l e R s m args below meth c T locs cells slots) : s.heap.size ≤ T.heap.size := X.same.2.1
theorem W.getfield {i : Nat} {R0 O f d host : String} {a : Addr} {v : Value} (n : Nat) (hd : decode bytes pc = .ok (.getfield i, 3)) (hn : pc + 3 = n) (w : (Jvm.Cond.fieldLink own i R0 f d).before a0 Z = true ∨ (Jvm.Cond.fieldLinkNest own i R0 f d host).before a0 Z = true) (via : Via Z R0 O f d) (F : Fld Z h a O f d v) (k : WG FE l R Z own nm bytes maxL ret n0 P h cells slots n Ls (v :: st)) : WG FE l R Z own nm bytes maxL ret n0 P h cells slots pc Ls (.ref a :: st) := by
  subst hn
  intro p e s m args below meth c T locs hx hZ hby hml hown hret hlk hnm hn0 X eT N
  obtain ⟨T', X', e', st'⟩ := getF X hx hZ hown w via eT F (g := mkF m pc Ls (.ref a :: st)) rfl rfl (hb hby hd)
  exact (k p e s m args below meth c T' locs hx hZ hby hml hown hret hlk hnm hn0 X' e' N).step st'
theorem W.getstatic {i : Nat} {R0 O f d host : String} {v : Value} (n : Nat) (hd : decode bytes pc = .ok (.getstatic i, 3)) (hn : pc + 3 = n) (w : (Jvm.Cond.fieldLink own i R0 f d).before a0 Z = true ∨ (Jvm.Cond.fieldLinkNest own i R0 f d host).before a0 Z = true) (via : Via Z R0 O f d) (F : Sta Z h O f d v) (k : WG FE l R Z own nm bytes maxL ret n0 P h cells slots n Ls (v :: st)) : WG FE l R Z own nm bytes maxL ret n0 P h cells slots pc Ls st := by
  subst hn
  intro p e s m args below meth c T locs hx hZ hby hml hown hret hlk hnm hn0 X eT N
  obtain ⟨T', X', e', st'⟩ := getS2 X hx hZ hown w via eT F (g := mkF m pc Ls st) rfl (hb hby hd)
  exact (k p e s m args below meth c T' locs hx hZ hby hml hown hret hlk hnm hn0 X' e' N).step st'
theorem W.putfield {i kk : Nat} {R0 O f d host C : String} {ty : FieldType} {a : Addr} {v old : Value} (n : Nat) (hd : decode bytes pc = .ok (.putfield i, 3)) (hn : pc + 3 = n) (w : (Jvm.Cond.fieldLink own i R0 f d).before a0 Z = true ∨ (Jvm.Cond.fieldLinkNest own i R0 f d host).before a0 Z = true) (via : Via Z R0 O f d) (F : Fld Z h a O f d old) (E : Exa Z h a C)
    (L : (Jvm.Cond.lays C O f d).before a0 Z = true ∨ ((Jvm.Cond.laysFinal C O f d).before a0 Z = true ∧ own = O ∧ nm = "<init>")) (wi : (Jvm.Cond.instantiable C kk).before a0 Z = true) (hty : parseFieldDescriptor d = some ty) (hv : narrow ty v = v) (hf : fits ty v = true) (ge : n0 ≤ a)
    (k : ∀ h', Wr h h' a (RoadKit.slotOf Z O f d) v → Fld Z h' a O f d v → Exa Z h' a C → Keep h h' [a] → WG FE l R Z own nm bytes maxL ret n0 P h' cells slots n Ls st) : WG FE l R Z own nm bytes maxL ret n0 P h cells slots pc Ls (v :: .ref a :: st) := by
  subst hn
  intro p e s m args below meth c T locs hx hZ hby hml hown hret hlk hnm hn0 X eT N
  obtain ⟨T', h', X', e', W', st'⟩ := putF X hx hZ hown w via eT F E (L.imp id fun q => ⟨q.1, q.2.1, hnm.trans q.2.2⟩) wi hty hv hf (g := mkF m pc Ls (v :: .ref a :: st)) rfl rfl (hb hby hd)
  exact (k h' W' (F.same W') (E.wr W') (Keep.of_wr W') p e s m args below meth c T' _ hx hZ hby hml hown hret hlk hnm hn0 X' e' (Fr.one N ge)).step st'
theorem W.putfieldN {i kk : Nat} {R0 O f d C : String} {ty : FieldType} {a : Addr} {v old : Value} (n : Nat) (hd : decode bytes pc = .ok (.putfield i, 3)) (hn : pc + 3 = n) (w : (Jvm.Cond.fieldLink own i R0 f d).before a0 Z = true) (via : Via Z R0 O f d) (F : Fld Z h a O f d old) (E : Exa Z h a C)
    (L : (Jvm.Cond.lays C O f d).before a0 Z = true ∨ ((Jvm.Cond.laysFinal C O f d).before a0 Z = true ∧ own = O ∧ nm = "<init>")) (wi : (Jvm.Cond.instantiable C kk).before a0 Z = true) (hty : parseFieldDescriptor d = some ty) (v' : Value) (hv : narrow ty v = v') (hf : fits ty v' = true) (ge : n0 ≤ a)
    (k : ∀ h', Wr h h' a (RoadKit.slotOf Z O f d) v' → Fld Z h' a O f d v' → Exa Z h' a C → Keep h h' [a] → WG FE l R Z own nm bytes maxL ret n0 P h' cells slots n Ls st) : WG FE l R Z own nm bytes maxL ret n0 P h cells slots pc Ls (v :: .ref a :: st) := by
  subst hn
  intro p e s m args below meth c T locs hx hZ hby hml hown hret hlk hnm hn0 X eT N
  obtain ⟨T', h', X', e', W', st'⟩ := putFN X hx hZ hown w via eT F E (L.imp id fun q => ⟨q.1, q.2.1, hnm.trans q.2.2⟩) wi hty hv hf (g := mkF m pc Ls (v :: .ref a :: st)) rfl rfl (hb hby hd)
  exact (k h' W' (F.same W') (E.wr W') (Keep.of_wr W') p e s m args below meth c T' _ hx hZ hby hml hown hret hlk hnm hn0 X' e' (Fr.one N ge)).step st'
theorem W.new {i ns : Nat} {C : String} (n : Nat) (hd : decode bytes pc = .ok (.new i, 3)) (hn : pc + 3 = n) (w : (Jvm.Cond.classLink own i C).before a0 Z = true) (wi : (Jvm.Cond.instantiable C ns).before a0 Z = true) (wz : (Jvm.Cond.initialized C).before a0 Z = true) (hc : cells + 1 ≤ R.cells) (hs : slots + ns ≤ R.slots)
    (k : ∀ h' b, b = h.size → n0 ≤ b → Ext h h' → Keep h h' [] → Exa Z h' b C → (∀ {O f d : String} {ty : FieldType}, Laid Z a0 C O f d → parseFieldDescriptor d = some ty → Fld Z h' b O f d (defaultValue ty)) → WG FE l R Z own nm bytes maxL ret n0 P h' (cells + 1) (slots + ns) n Ls (.ref b :: st)) : WG FE l R Z own nm bytes maxL ret n0 P h cells slots pc Ls st := by
  subst hn
  intro p e s m args below meth c T locs hx hZ hby hml hown hret hlk hnm hn0 X eT N
  obtain ⟨T', h', X', e', E', A', D', -, st'⟩ := newO X hx hZ hown w wi wz eT (g := mkF m pc Ls st) rfl (hb hby hd) hc hs
  have hb0 : n0 ≤ h.size := Nat.le_trans hn0.1 (eT ▸ size_le X)
  exact (k h' h.size rfl hb0 E' (Keep.of_ext E') A' D' p e s m args below meth c T' _ hx hZ hby hml hown hret hlk hnm hn0 X' e' N).step st'
theorem Ary.lt {a : Addr} {ty : FieldType} {vs : List Value} (A : Ary Z h a ty vs) : a < h.size := by obtain ⟨c, A, -⟩ := A; exact A.lt
theorem Ary.keep {h' : Heap} {ws : List Addr} {a : Addr} {ty : FieldType} {vs : List Value} (A : Ary Z h a ty vs) (K : Keep h h' ws) (q : a ∉ ws) : Ary Z h' a ty vs := by obtain ⟨c, A, r⟩ := A; exact ⟨c, ⟨K.2.1 a c A.1 q, A.2⟩, r⟩
theorem Ary.new {k : ClassId} {a : Addr} {ty : FieldType} {z : Int32} (A : Arr Z h a (newA k ty z) ty) (hf : fits ty (defaultValue ty) = true) : Ary Z h a ty (List.replicate z.toNatClampNeg (defaultValue ty)) :=
  ⟨_, A, by simp [newA], fun v hv => by rw [(List.mem_replicate.mp hv).2]; exact hf, by rw [List.length_replicate]; have := Int32.toInt_lt z; simp only [Int32.toNatClampNeg]; omega⟩
theorem Ary.set {h' : Heap} {a : Addr} {ty : FieldType} {vs : List Value} {i : Nat} {v : Value} (A : Ary Z h a ty vs) (W' : Wr h h' a i v) (hf : fits ty v = true) : Ary Z h' a ty (vs.set i v) := by
  obtain ⟨c, A, rfl, F, S⟩ := A
  exact ⟨_, A.same W', by simp [Cell.setSlot], fun w hw => (List.mem_or_eq_of_mem_set hw).elim (fun q => F w q) (fun q => q ▸ hf), by simpa using S⟩
theorem Ary.arv {a : Addr} {ty : FieldType} {vs : List Value} (A : Ary Z h a ty vs) (d : Value) : ∃ k, Arv Z h a k ty vs.length.toInt32 vs d := by
  obtain ⟨c, A, rfl, F, S⟩ := A
  have hz : (c.slots.toList.length.toInt32).toInt = c.slots.toList.length := Int32.toInt_ofNat_small S
  have hn : (c.slots.toList.length.toInt32).toNatClampNeg = c.slots.size := by simp only [Int32.toNatClampNeg]; rw [hz]; simp
  refine ⟨c.cls, c, A, rfl, hn.symm, fun q => ?_, fun i hi => ?_, fun i hi => ?_⟩
  · have := Int32.lt_iff_toInt_lt.mp q; rw [hz] at this; have e0 : (0 : Int32).toInt = 0 := rfl; omega
  · rw [List.getD_eq_getElem?_getD]; simp [hi]
  · rw [List.getD_eq_getElem?_getD]; exact F _ (by simp [hi])
theorem Ary.of_arv {a : Addr} {k : ClassId} {ty : FieldType} {vs : List Value} {z : Int32} {d : Value} (A : Arv Z h a k ty z vs d) (hz : z.toNatClampNeg = vs.length) : Ary Z h a ty vs := by
  obtain ⟨c, A, q1, q2, q3, H, G⟩ := A
  have hl : c.slots.toList = vs := by
    apply List.ext_getElem?
    intro i
    by_cases hi : i < c.slots.size
    · have := H i hi
      rw [List.getD_eq_getElem?_getD, List.getElem?_eq_getElem (by omega)] at this
      rw [List.getElem?_eq_getElem (l := vs) (by omega)]
      simpa using this
    · rw [List.getElem?_eq_none (by simpa using hi), List.getElem?_eq_none (by omega)]
  refine ⟨c, A, hl, fun v hv => ?_, ?_⟩
  · obtain ⟨i, hi, rfl⟩ := List.getElem_of_mem hv
    have := G i (by omega)
    rwa [List.getD_eq_getElem?_getD, List.getElem?_eq_getElem hi] at this
  · have := Int32.toInt_lt z; simp only [Int32.toNatClampNeg] at hz; omega
theorem W.newarray {aty : ArrayType} {ty : FieldType} {x : Int32} (n : Nat) (hd : decode bytes pc = .ok (.newarray aty, 2)) (hn : pc + 2 = n) (w : (Jvm.Cond.arrayClass ty).before a0 Z = true) (hty : newarray.typeOf aty = ty) (hx0 : ¬ x < 0) (len cap : Nat) (hlen : x.toNatClampNeg = len) (hcap : len ≤ cap) (hb8 : cap * 8 ≤ 536870912) (hc : cells + 1 ≤ R.cells) (hs : slots + cap ≤ R.slots) (hfd : fits ty (defaultValue ty) = true)
    (k : ∀ h' b, b = h.size → n0 ≤ b → Ext h h' → Keep h h' [] → Ary Z h' b ty (List.replicate len (defaultValue ty)) → WG FE l R Z own nm bytes maxL ret n0 P h' (cells + 1) (slots + cap) n Ls (.ref b :: st)) : WG FE l R Z own nm bytes maxL ret n0 P h cells slots pc Ls (.int x :: st) := by
  subst hn hty hlen
  intro p e s m args below meth c T locs hx hZ hby hml hown hret hlk hnm hn0 X eT N
  obtain ⟨T', h', cA, X', e', E', A', st'⟩ := newP X hx hZ w eT (g := mkF m pc Ls (.int x :: st)) rfl (hb hby hd) rfl hx0 hcap hb8 hc hs
  have hb0 : n0 ≤ h.size := Nat.le_trans hn0.1 (eT ▸ size_le X)
  exact (k h' h.size rfl hb0 E' (Keep.of_ext E') (Ary.new A' hfd) p e s m args below meth c T' _ hx hZ hby hml hown hret hlk hnm hn0 X' e' N).step st'
theorem ary_in {c : Cell} {vs : List Value} {j : Int32} {i : Nat} (hc : c.slots.toList = vs) (hj : j.toNatClampNeg = i) (h0 : ¬ j < 0) (hi : i < vs.length) : ¬ (j < 0 ∨ c.slots.size ≤ j.toNatClampNeg) := by
  subst hc hj; rintro (q | q)
  · exact h0 q
  · exact absurd hi (by simpa using q)
theorem W.arraylength {a : Addr} {ty : FieldType} {vs : List Value} (n : Nat) (hd : decode bytes pc = .ok (.arraylength, 1)) (hn : pc + 1 = n) (A : Ary Z h a ty vs) (v : Int32) (hv : vs.length.toInt32 = v) (k : WG FE l R Z own nm bytes maxL ret n0 P h cells slots n Ls (.int v :: st)) : WG FE l R Z own nm bytes maxL ret n0 P h cells slots pc Ls (.ref a :: st) := by
  subst hn
  obtain ⟨c, A, rfl, F, S⟩ := A
  have e : c.slots.size.toInt32 = v := by rw [← hv]; simp
  exact k.step fun p e' s m args below meth c' T locs hx hZ hby hown X eT t q => X.arraylength hx (by rw [eT]; exact A.1) (State.isArrayOf_alike hZ.alike A.2.1) (g := mkF m pc Ls (.ref a :: st)) rfl rfl (hb hby hd) t (e ▸ q)

theorem W.caload {a : Addr} {vs : List Value} {j : Int32} (n : Nat) (hd : decode bytes pc = .ok (.caload, 1)) (hn : pc + 1 = n) (A : Ary Z h a .char vs) (i : Nat) (hj : j.toNatClampNeg = i) (h0 : ¬ j < 0) (v : Value) (hv : vs[i]? = some v) (k : WG FE l R Z own nm bytes maxL ret n0 P h cells slots n Ls (v :: st)) : WG FE l R Z own nm bytes maxL ret n0 P h cells slots pc Ls (.int j :: .ref a :: st) := by
  subst hn
  obtain ⟨c, A, hc, F, S⟩ := A
  have hi : i < vs.length := (List.getElem?_eq_some_iff.mp hv).1
  have hin := ary_in hc hj h0 hi
  have hat : c.slots[j.toNatClampNeg]? = some v := by rw [hj, ← hv, ← hc]; simp
  exact k.step fun p e' s m args below meth c' T locs hx hZ hby hown X eT t q => X.caload hx (j := j) (v := v) (by rw [eT]; exact A.1) (State.isArrayOf_alike hZ.alike A.2.1) A.2.2 hin hat (g := mkF m pc Ls (.int j :: .ref a :: st)) rfl rfl (hb hby hd) t q
theorem W.baload {a : Addr} {vs : List Value} {j : Int32} (n : Nat) (hd : decode bytes pc = .ok (.baload, 1)) (hn : pc + 1 = n) (A : Ary Z h a .byte vs) (i : Nat) (hj : j.toNatClampNeg = i) (h0 : ¬ j < 0) (v : Value) (hv : vs[i]? = some v) (k : WG FE l R Z own nm bytes maxL ret n0 P h cells slots n Ls (v :: st)) : WG FE l R Z own nm bytes maxL ret n0 P h cells slots pc Ls (.int j :: .ref a :: st) := by
  subst hn
  obtain ⟨c, A, hc, F, S⟩ := A
  have hi : i < vs.length := (List.getElem?_eq_some_iff.mp hv).1
  have hin := ary_in hc hj h0 hi
  have hat : c.slots[j.toNatClampNeg]? = some v := by rw [hj, ← hv, ← hc]; simp
  exact k.step fun p e' s m args below meth c' T locs hx hZ hby hown X eT t q => X.baloadBytes hx (j := j) (v := v) (by rw [eT]; exact A.1) (State.isArrayOf_alike hZ.alike A.2.1) A.2.2 hin hat (g := mkF m pc Ls (.int j :: .ref a :: st)) rfl rfl (hb hby hd) t q
theorem W.castore {a : Addr} {vs : List Value} {j : Int32} {x : Int32} (n : Nat) (hd : decode bytes pc = .ok (.castore, 1)) (hn : pc + 1 = n) (A : Ary Z h a .char vs) (i : Nat) (hj : j.toNatClampNeg = i) (h0 : ¬ j < 0) (hi : i < vs.length) (x' : Int32) (hx' : nar .char x = x') (ge : n0 ≤ a)
    (k : ∀ h', Wr h h' a i (.int x') → Keep h h' [a] → Ary Z h' a .char (vs.set i (.int x')) → WG FE l R Z own nm bytes maxL ret n0 P h' cells slots n Ls st) : WG FE l R Z own nm bytes maxL ret n0 P h cells slots pc Ls (.int x :: .int j :: .ref a :: st) := by
  subst hn hx'
  intro p e s m args below meth c T locs hx hZ hby hml hown hret hlk hnm hn0 X eT N
  have A0 := A
  obtain ⟨cl, A, hc, F, S⟩ := A
  obtain ⟨T', h', X', e', W', st'⟩ := stC X hx hZ eT A (ary_in hc hj h0 hi) (g := mkF m pc Ls (.int x :: .int j :: .ref a :: st)) rfl rfl (hb hby hd)
  subst hj
  exact (k h' W' (Keep.of_wr W') (A0.set W' (fits_nar_char _)) p e s m args below meth c T' _ hx hZ hby hml hown hret hlk hnm hn0 X' e' (Fr.one N ge)).step st'

theorem W.bastore {a : Addr} {vs : List Value} {j : Int32} {x : Int32} (n : Nat) (hd : decode bytes pc = .ok (.bastore, 1)) (hn : pc + 1 = n) (A : Ary Z h a .byte vs) (i : Nat) (hj : j.toNatClampNeg = i) (h0 : ¬ j < 0) (hi : i < vs.length) (x' : Int32) (hx' : nar .byte x = x') (ge : n0 ≤ a)
    (k : ∀ h', Wr h h' a i (.int x') → Keep h h' [a] → Ary Z h' a .byte (vs.set i (.int x')) → WG FE l R Z own nm bytes maxL ret n0 P h' cells slots n Ls st) : WG FE l R Z own nm bytes maxL ret n0 P h cells slots pc Ls (.int x :: .int j :: .ref a :: st) := by
  subst hn hx'
  intro p e s m args below meth c T locs hx hZ hby hml hown hret hlk hnm hn0 X eT N
  have A0 := A
  obtain ⟨cl, A, hc, F, S⟩ := A
  obtain ⟨T', h', X', e', W', st'⟩ := stB X hx hZ eT A (ary_in hc hj h0 hi) (g := mkF m pc Ls (.int x :: .int j :: .ref a :: st)) rfl rfl (hb hby hd)
  subst hj
  exact (k h' W' (Keep.of_wr W') (A0.set W' (fits_nar_byte _)) p e s m args below meth c T' _ hx hZ hby hml hown hret hlk hnm hn0 X' e' (Fr.one N ge)).step st'

theorem Sta.keep0 {h' : Heap} {C f d : String} {v : Value} (K : Keep h h' []) (F : Sta Z h C f d v) : Sta Z h' C f d v := by
  obtain ⟨cf, i, k, fd, st, cell, h1, h2, h3, h4, h5, r⟩ := F; exact ⟨cf, i, k, fd, st, cell, h1, h2, h3, h4, K.2.1 _ _ h5 nin0, r⟩
/-- an array of references, and what may lie in it -/
def AryO (Z : State) (h : Heap) (a : Addr) (C : String) (vs : List Value) : Prop :=
  ∃ c : Cell, Arr Z h a c (.object C) ∧ Ovr Z c.cls C ∧ c.slots.toList = vs ∧ (∀ v ∈ vs, fits (.object C) v = true) ∧ vs.length < 2 ^ 31
theorem AryO.ary {a : Addr} {C : String} {vs : List Value} (A : AryO Z h a C vs) : Ary Z h a (.object C) vs := by obtain ⟨c, A, -, r⟩ := A; exact ⟨c, A, r⟩
theorem AryO.lt {a : Addr} {C : String} {vs : List Value} (A : AryO Z h a C vs) : a < h.size := A.ary.lt
theorem AryO.keep {h' : Heap} {ws : List Addr} {a : Addr} {C : String} {vs : List Value} (A : AryO Z h a C vs) (K : Keep h h' ws) (q : a ∉ ws) : AryO Z h' a C vs := by obtain ⟨c, A, r⟩ := A; exact ⟨c, ⟨K.2.1 a c A.1 q, A.2⟩, r⟩
/-! calls and returns -/
theorem W.initObj {i : Nat} {a : Addr} (n : Nat) (hd : decode bytes pc = .ok (.invokespecial i, 3)) (hn : pc + 3 = n) (w1 : (Jvm.Cond.methodLink own i Lib.objectInit).before a0 Z = true) (w2 : (Jvm.Cond.instanceMethod Lib.objectInit).before a0 Z = true) (w3 : (Jvm.Cond.code Lib.objectInit ⟨#[0xb1]⟩ 1 none).before a0 Z = true) (hsz : Ls.size = maxL) (hf : 1 ≤ R.frames) (W0 : Nat) (hW : (st.map fun v => v.category).sum ≤ W0) (hl : W0 + 12 ≤ R.locals)
    (k : WG FE l R Z own nm bytes maxL ret n0 P h cells slots n Ls st) : WG FE l R Z own nm bytes maxL ret n0 P h cells slots pc Ls (.ref a :: st) := by
  subst hn
  intro p e s m args below meth c T locs hx hZ hby hml hown hret hlk hnm hn0 X eT N
  obtain ⟨T', X', e', st'⟩ := initO X hx hZ hown w1 w2 w3 eT (g := mkF m pc Ls (.ref a :: st)) rfl (by rw [hml]; exact hsz) rfl (hb hby hd) hf (W := W0) (by show 2 * 0 + _ ≤ _; omega) hl
  exact (k p e s m args below meth c T' locs hx hZ hby hml hown hret hlk hnm hn0 X' e' N).step st'
section Calls
variable {y : MethodName} {bytes' : ByteArray} {maxL' : Nat} {ret' : Option FieldType} {rm : Room} {P' : Option Value → Heap → Prop} {rest argsL : List Value} {i : Nat}
theorem W.callS (n : Nat) (hd : decode bytes pc = .ok (.invokestatic i, 3)) (hn : pc + 3 = n) (C : n0 ≤ h.size → Con l Z y bytes' maxL' ret' rm argsL.toArray h n0 P') (w1 : (Jvm.Cond.methodLink own i y).before a0 Z = true) (w2 : (Jvm.Cond.static y).before a0 Z = true) (w3 : (Jvm.Cond.initialized y.cls).before a0 Z = true) (w4 : (Jvm.Cond.code y bytes' maxL' ret').before a0 Z = true)
    (hy : y.cls ≠ "java/lang/invoke/MethodHandle" ∧ y.cls ≠ "java/lang/invoke/VarHandle") {ps : List FieldType} {r : Option FieldType} (hpd : parseMethodDescriptor y.desc = some ⟨ps, r⟩) (hlen : argsL.length = ps.length) (hst : st = argsL.reverse ++ rest) (hsz : Ls.size = maxL) (hf : rm.frames + 1 ≤ R.frames) (W0 : Nat) (hW : (rest.map fun v => v.category).sum ≤ W0) (hl : W0 + (maxL' + 11) + rm.locals ≤ R.locals) (hc : cells + rm.cells ≤ R.cells) (hs : slots + rm.slots ≤ R.slots)
    (k : ∀ v h', P' v h' → WG FE l R Z own nm bytes maxL ret n0 P h' (cells + rm.cells) (slots + rm.slots) n Ls (v.toList ++ rest)) : WG FE l R Z own nm bytes maxL ret n0 P h cells slots pc Ls st := by
  subst hn hst
  intro p e s m args below meth c T locs hx hZ hby hml hown hret hlk hnm hn0 X eT N
  obtain ⟨v, _, ⟨T', L', c', n'⟩, -, X', ⟨Lc, hQ, l', y', z'⟩, st'⟩ := Jvm.LawKit.callS X hx (y := y) hown (mvT hZ w1) (mvT hZ w2) (mvT hZ w3) (mvT hZ w4) hy (backOf (W := W0) (Z := Z) (h := h) (bytes := bytes') (maxL := maxL') (rm := rm) (Q := fun v h' L => P' v h' ∧ Fr n0 L) (C (Nat.le_trans hn0.1 (eT ▸ size_le X))) hZ w4 w3 hf hl) (g := mkF m pc Ls (argsL.reverse ++ rest)) rfl (by rw [hml]; exact hsz) (argsL := argsL) (rest := rest) (lenOf hpd hlen) rfl (by show 2 * 0 + _ ≤ _; omega) (hb hby hd) (fun _ _ => ⟨rfl, eT, hc, hs⟩)
  dsimp only [Pt.U, Pt.locs, Pt.cells, Pt.slots] at X' l' y' z' st' hQ
  subst l' y' z'
  exact (k v T'.heap hQ.1 p e s m args below meth c T' _ hx hZ hby hml hown hret hlk hnm hn0 X' rfl (Fr.app N hQ.2)).step st'
theorem W.callInit {a : Addr} (n : Nat) (hd : decode bytes pc = .ok (.invokespecial i, 3)) (hn : pc + 3 = n) (C : n0 ≤ h.size → Con l Z y bytes' maxL' none rm (.ref a :: argsL).toArray h n0 P') (hi : y.name = "<init>") (w1 : (Jvm.Cond.methodLink own i y).before a0 Z = true) (w2 : (Jvm.Cond.instanceMethod y).before a0 Z = true) (w3 : (Jvm.Cond.initialized y.cls).before a0 Z = true) (w4 : (Jvm.Cond.code y bytes' maxL' none).before a0 Z = true)
    (hy : y.cls ≠ "java/lang/invoke/MethodHandle" ∧ y.cls ≠ "java/lang/invoke/VarHandle") {ps : List FieldType} {r : Option FieldType} (hpd : parseMethodDescriptor y.desc = some ⟨ps, r⟩) (hlen : argsL.length = ps.length) (hst : st = argsL.reverse ++ .ref a :: rest) (hsz : Ls.size = maxL) (hf : rm.frames + 1 ≤ R.frames) (W0 : Nat) (hW : (rest.map fun v => v.category).sum ≤ W0) (hl : W0 + (maxL' + 11) + rm.locals ≤ R.locals) (hc : cells + rm.cells ≤ R.cells) (hs : slots + rm.slots ≤ R.slots)
    (k : ∀ v h', P' v h' → WG FE l R Z own nm bytes maxL ret n0 P h' (cells + rm.cells) (slots + rm.slots) n Ls (v.toList ++ rest)) : WG FE l R Z own nm bytes maxL ret n0 P h cells slots pc Ls st := by
  subst hn hst
  intro p e s m args below meth c T locs hx hZ hby hml hown hret hlk hnm hn0 X eT N
  obtain ⟨v, _, ⟨T', L', c', n'⟩, -, X', ⟨Lc, hQ, l', y', z'⟩, st'⟩ := X.specialBack hx (y := y) hi hown (mvT hZ w1) (mvT hZ w2) (mvT hZ w4) hy (backOf (W := W0) (Z := Z) (h := h) (bytes := bytes') (maxL := maxL') (rm := rm) (Q := fun v h' L => P' v h' ∧ Fr n0 L) (C (Nat.le_trans hn0.1 (eT ▸ size_le X))) hZ w4 w3 hf hl) (g := mkF m pc Ls (argsL.reverse ++ .ref a :: rest)) rfl (by rw [hml]; exact hsz) (Steps.refl _) (a := a) (argsL := argsL) (rest := rest) (lenOf hpd hlen) rfl (by show 2 * 0 + _ ≤ _; omega) (hb hby hd) (fun _ _ => ⟨rfl, eT, hc, hs⟩)
  dsimp only [Pt.U, Pt.locs, Pt.cells, Pt.slots] at X' l' y' z' st' hQ
  subst l' y' z'
  exact (k v T'.heap hQ.1 p e s m args below meth c T' _ hx hZ hby hml hown hret hlk hnm hn0 X' rfl (Fr.app N hQ.2)).step fun t q => st'.trans q
theorem W.callV {C0 : String} {a : Addr} (n : Nat) (hd : decode bytes pc = .ok (.invokevirtual i, 3)) (hn : pc + 3 = n) (C : n0 ≤ h.size → Con l Z y bytes' maxL' ret' rm (.ref a :: argsL).toArray h n0 P') (E : Exa Z h a C0) (w1 : (Jvm.Cond.methodLink own i y).before a0 Z = true) (w2 : (Jvm.Cond.declares y).before a0 Z = true) (w5 : (Jvm.Cond.selects C0 y y).before a0 Z = true) (hcy : C0 = y.cls) (w6 : (Jvm.Cond.instanceMethod y).before a0 Z = true) (w3 : (Jvm.Cond.initialized y.cls).before a0 Z = true) (w4 : (Jvm.Cond.code y bytes' maxL' ret').before a0 Z = true)
    (hy : y.cls ≠ "java/lang/invoke/MethodHandle" ∧ y.cls ≠ "java/lang/invoke/VarHandle") {ps : List FieldType} {r : Option FieldType} (hpd : parseMethodDescriptor y.desc = some ⟨ps, r⟩) (hlen : argsL.length = ps.length) (hst : st = argsL.reverse ++ .ref a :: rest) (hsz : Ls.size = maxL) (hf : rm.frames + 1 ≤ R.frames) (W0 : Nat) (hW : (rest.map fun v => v.category).sum ≤ W0) (hl : W0 + (maxL' + 11) + rm.locals ≤ R.locals) (hc : cells + rm.cells ≤ R.cells) (hs : slots + rm.slots ≤ R.slots)
    (k : ∀ v h', P' v h' → WG FE l R Z own nm bytes maxL ret n0 P h' (cells + rm.cells) (slots + rm.slots) n Ls (v.toList ++ rest)) : WG FE l R Z own nm bytes maxL ret n0 P h cells slots pc Ls st := by
  subst hn hst hcy
  intro p e s m args below meth c T locs hx hZ hby hml hown hret hlk hnm hn0 X eT N
  obtain ⟨cq, kq, qa, qb, qc⟩ := isOf hZ eT E
  obtain ⟨v, _, ⟨T', L', c', n'⟩, -, X', ⟨Lc, hQ, l', y', z'⟩, st'⟩ := X.virtualBack hx (y := y) (z := y) hown (mvT hZ w1) (mvT hZ w2) (notFace_of_selects (args := #[]) (mvT hZ w5)) (mvT hZ w5) (mvT hZ w6) hy (backOf (W := W0) (Z := Z) (h := h) (bytes := bytes') (maxL := maxL') (rm := rm) (Q := fun v h' L => P' v h' ∧ Fr n0 L) (C (Nat.le_trans hn0.1 (eT ▸ size_le X))) hZ w4 w3 hf hl) qa qc (g := mkF m pc Ls (argsL.reverse ++ .ref a :: rest)) rfl (by rw [hml]; exact hsz) (Steps.refl _) (argsL := argsL) (rest := rest) (lenOf hpd hlen) rfl (by show 2 * 0 + _ ≤ _; omega) (hb hby hd) (fun _ _ => ⟨rfl, eT, hc, hs⟩)
  dsimp only [Pt.U, Pt.locs, Pt.cells, Pt.slots] at X' l' y' z' st' hQ
  subst l' y' z'
  exact (k v T'.heap hQ.1 p e s m args below meth c T' _ hx hZ hby hml hown hret hlk hnm hn0 X' rfl (Fr.app N hQ.2)).step fun t q => st'.trans q
end Calls
theorem W.checkcast {i : Nat} {K : String} {a : Addr} (n : Nat) (hd : decode bytes pc = .ok (.checkcast i, 3)) (hn : pc + 3 = n) (w : (Jvm.Cond.classLink own i K).before a0 Z = true) (F : Ins Z h a K true) (k : WG FE l R Z own nm bytes maxL ret n0 P h cells slots n Ls (.ref a :: st)) : WG FE l R Z own nm bytes maxL ret n0 P h cells slots pc Ls (.ref a :: st) := by
  subst hn
  intro p e s m args below meth c T locs hx hZ hby hml hown hret hlk hnm hn0 X eT N
  obtain ⟨T', X', e', st'⟩ := castY X hx hZ hown w eT F (g := mkF m pc Ls (.ref a :: st)) rfl rfl (hb hby hd)
  exact (k p e s m args below meth c T' locs hx hZ hby hml hown hret hlk hnm hn0 X' e' N).step st'
theorem W.instYes {i : Nat} {K : String} {a : Addr} (n : Nat) (hd : decode bytes pc = .ok (.instanceof i, 3)) (hn : pc + 3 = n) (w : (Jvm.Cond.classLink own i K).before a0 Z = true) (F : Ins Z h a K true) (k : WG FE l R Z own nm bytes maxL ret n0 P h cells slots n Ls (.int 1 :: st)) : WG FE l R Z own nm bytes maxL ret n0 P h cells slots pc Ls (.ref a :: st) := by
  subst hn
  intro p e s m args below meth c T locs hx hZ hby hml hown hret hlk hnm hn0 X eT N
  obtain ⟨T', X', e', st'⟩ := instY X hx hZ hown w eT F (g := mkF m pc Ls (.ref a :: st)) rfl rfl (hb hby hd)
  exact (k p e s m args below meth c T' locs hx hZ hby hml hown hret hlk hnm hn0 X' e' N).step st'
theorem ary_us {vs : List Value} {d : Value} (i k : Nat) (hs : i + k ≤ vs.length) : (List.range k).map (fun j => vs.getD (i + j) d) = (vs.drop i).take k := by
  apply List.ext_getElem?
  intro j
  by_cases hj : j < k
  · simp [hj, List.getD_eq_getElem?_getD, List.getElem?_eq_getElem (show i + j < vs.length by omega)]
  · simp [hj]; omega
theorem W.ireturn {x : Int32} (hd : decode bytes pc = .ok (.ireturn, 1)) (hr : ret = some .int) (hp : P (some (.int x)) h) (hc : cells ≤ R.cells) (hs : slots ≤ R.slots) (hFE : ∀ {s : State} {o : Outcome} {t : State} {L : List Loc} {k n : Nat}, FrameEnd s o t L k n → FE.1 s o t L k n := by first | exact fun q => q | exact fun q => RoadKit.wide q) : WG FE l R Z own nm bytes maxL ret n0 P h cells slots pc Ls (.int x :: st) := by
  intro p e s m args below meth c T locs hx hZ hby hml hown hret hlk hnm hn0 X eT N
  obtain ⟨fs, hr', hrun, hended, hW, hsame⟩ := X.leave (v := some (.int x)) (fun q => by rw [hret, hr] at q; cases q) hlk
  exact ⟨_, _, retOut X hx (t := .int) (i := .ireturn) (hret.trans hr) rfl (Or.inl ⟨rfl, Or.inl rfl, _, rfl⟩) (hb hby hd) hr', hrun, hended, _, _, rfl, ⟨by show P _ T.heap; rw [eT]; exact hp, N⟩, hFE ⟨⟨_, rfl⟩, hW, hsame.mono hc hs⟩⟩
theorem W.ireturnN {x : Int32} {t : FieldType} (hd : decode bytes pc = .ok (.ireturn, 1)) (hr : ret = some t) (ht : t = .boolean ∨ t = .byte ∨ t = .char ∨ t = .short) (x' : Int32) (hx' : nar t x = x') (hp : P (some (.int x')) h) (hc : cells ≤ R.cells) (hs : slots ≤ R.slots) (hFE : ∀ {s : State} {o : Outcome} {t : State} {L : List Loc} {k n : Nat}, FrameEnd s o t L k n → FE.1 s o t L k n := by first | exact fun q => q | exact fun q => RoadKit.wide q) : WG FE l R Z own nm bytes maxL ret n0 P h cells slots pc Ls (.int x :: st) := by
  subst hx'
  intro p e s m args below meth c T locs hx hZ hby hml hown hret hlk hnm hn0 X eT N
  obtain ⟨fs, hr', hrun, hended, hW, hsame⟩ := X.leave (v := some (.int (nar t x))) (fun q => by rw [hret, hr] at q; cases q) hlk
  exact ⟨_, _, retN X hx (hret.trans hr) ht (hb hby hd) hr', hrun, hended, _, _, rfl, ⟨by show P _ T.heap; rw [eT]; exact hp, N⟩, hFE ⟨⟨_, rfl⟩, hW, hsame.mono hc hs⟩⟩
theorem W.areturn {v : Value} {t : FieldType} (hd : decode bytes pc = .ok (.areturn, 1)) (hr : ret = some t) (ht : t.isReference = true) (hv : v.isRef = true) (hn : narrow t v = v) (hp : P (some v) h) (hc : cells ≤ R.cells) (hs : slots ≤ R.slots) (hFE : ∀ {s : State} {o : Outcome} {t : State} {L : List Loc} {k n : Nat}, FrameEnd s o t L k n → FE.1 s o t L k n := by first | exact fun q => q | exact fun q => RoadKit.wide q) : WG FE l R Z own nm bytes maxL ret n0 P h cells slots pc Ls (v :: st) := by
  intro p e s m args below meth c T locs hx hZ hby hml hown hret hlk hnm hn0 X eT N
  obtain ⟨fs, hr', hrun, hended, hW, hsame⟩ := X.leave (v := some v) (fun q => by rw [hret, hr] at q; cases q) hlk
  exact ⟨_, _, retOut X hx (t := t) (i := .areturn) (hret.trans hr) hn (Or.inr (Or.inr (Or.inr (Or.inr ⟨rfl, ht, hv⟩)))) (hb hby hd) hr', hrun, hended, _, _, rfl, ⟨by show P _ T.heap; rw [eT]; exact hp, N⟩, hFE ⟨⟨_, rfl⟩, hW, hsame.mono hc hs⟩⟩
theorem W.return_ (hd : decode bytes pc = .ok (.return_, 1)) (hr : ret = none) (hp : P none h) (hc : cells ≤ R.cells) (hs : slots ≤ R.slots) (hFE : ∀ {s : State} {o : Outcome} {t : State} {L : List Loc} {k n : Nat}, FrameEnd s o t L k n → FE.1 s o t L k n := by first | exact fun q => q | exact fun q => RoadKit.wide q) : WG FE l R Z own nm bytes maxL ret n0 P h cells slots pc Ls [] := by
  intro p e s m args below meth c T locs hx hZ hby hml hown hret hlk hnm hn0 X eT N
  obtain ⟨fs, hr', hrun, hended, hW, hsame⟩ := X.leave (v := none) (fun q => rfl) hlk
  exact ⟨_, _, X.returnOut hx (hret.trans hr) (hb hby hd) hr', hrun, hended, _, _, rfl, ⟨by show P _ T.heap; rw [eT]; exact hp, N⟩, hFE ⟨⟨_, rfl⟩, hW, hsame.mono hc hs⟩⟩
theorem WG.widen (k : W l R Z own nm bytes maxL ret n0 P h cells slots pc Ls st) : WG FEW l R Z own nm bytes maxL ret n0 P h cells slots pc Ls st := by
  intro p e s m args below meth c T locs hx hZ hby hml hown hret hlk hnm hn0 X eT N
  obtain ⟨s₂, o, h1, h2, h3, v, L, h4, h5, h6⟩ := k p e s m args below meth c T locs hx hZ hby hml hown hret hlk hnm hn0 X eT N
  exact ⟨s₂, o, h1, h2, h3, v, L, h4, h5, RoadKit.wide h6⟩
theorem Ary.nostat {a : Addr} {ty : FieldType} {vs : List Value} (A : Ary Z h a ty vs) : ∀ cell : Cell, h[a]? = some cell → cell.vm.isStatics = false := by
  obtain ⟨c, A1, -⟩ := A
  exact Arr.nostat A1
theorem Sta.keepN {h' : Heap} {ws : List Addr} {C n d : String} {w : Value} (K : Keep h h' ws) (hw : ∀ x ∈ ws, ∀ cell : Cell, h[x]? = some cell → cell.vm.isStatics = false) (F : Sta Z h C n d w) : Sta Z h' C n d w := by
  obtain ⟨cf, i, k, f, st, cell, h1, h2, h3, h4, h5, h6, h7⟩ := F
  refine ⟨cf, i, k, f, st, cell, h1, h2, h3, h4, K.2.1 _ _ h5 (fun hm => ?_), h6, h7⟩
  rw [hw _ hm _ h5] at h6; cases h6
/-! literals: the invariant CHv carried along -/
section Held
variable {EL : List (String × Nat)} {I : Vm → Prop} {hs h' : Heap} {S : List Addr}
/-- the wide end, and the invariant from the heap hs on -/
def FX (Z : State) (EL : List (String × Nat)) (I : Vm → Prop) (hs : Heap) : FEnd := ⟨fun s o t L k n => ReturnedEndW s o t L k n ∧ CHr Z EL s.vm hs t.vm t.heap, I⟩
def NI (Z : State) (EL : List (String × Nat)) (h : Heap) (S : List Addr) (vm : Vm) : Prop := CHv Z EL vm h ∧ ∀ x ∈ S, Safe Z EL vm h x
/-- at heap h the invariant stands, and S may be written -/
def HV (Z : State) (EL : List (String × Nat)) (I : Vm → Prop) (hs h : Heap) (S : List Addr) : Prop := ∀ vm, I vm → CHr Z EL vm hs vm h ∧ ∀ x ∈ S, Safe Z EL vm h x
theorem HV.here : HV Z EL (NI Z EL h S) h h S := fun vm q => ⟨CHr.refl q.1, q.2⟩
theorem HV.keep {ws : List Addr} (H : HV Z EL I hs h S) (K : Keep h h' ws) (hw : ∀ x ∈ ws, x ∈ S) : HV Z EL I hs h' S := fun vm q => by
  obtain ⟨c, s⟩ := H vm q
  have hz : ∀ x ∈ ws, Safe Z EL vm h x := fun x hx => s x (hw x hx)
  exact ⟨c.trans (CHr.keep K hz c.1), fun x hx => (s x hx).keep K hz c.1⟩
theorem HV.new {ws : List Addr} {b : Addr} (H : HV Z EL I hs h S) (K : Keep h h' ws) (hw : ∀ x ∈ ws, x ∈ S) (hb : h.size ≤ b) : HV Z EL I hs h' (b :: S) := fun vm q => by
  obtain ⟨c, s⟩ := H vm q
  have hz : ∀ x ∈ ws, Safe Z EL vm h x := fun x hx => s x (hw x hx)
  refine ⟨c.trans (CHr.keep K hz c.1), fun x hx => ?_⟩
  rcases List.mem_cons.mp hx with rfl | hx
  · exact (Safe.new hb).keep K hz c.1
  · exact (s x hx).keep K hz c.1
theorem HV.sub {S' : List Addr} (H : HV Z EL I hs h S) (hw : ∀ x ∈ S', x ∈ S) : HV Z EL I hs h S' := fun vm q => ⟨(H vm q).1, fun x hx => (H vm q).2 x (hw x hx)⟩
theorem sinceW {s t : State} {vm1 : Vm} {k1 : Nat} {o : Outcome} {L : List Loc} {k n : Nat} (hS : s.Since vm1 k1) (hk : k1 ≤ t.heap.size) (q : ReturnedEndW (s.setVm vm1) o t L k n) : ReturnedEndW s o t L k n := by
  obtain ⟨q1, q2, q3, q4⟩ := q
  have h2 := hS.trans (show (s.setVm vm1).Since t.vm t.heap.size from ⟨q2, q3⟩) hk
  exact ⟨q1, h2.1, h2.2, State.sameButNew.setVm q4 s.vm⟩
theorem WG.retX (hEL : EW Z a0 EL) (H : HV Z EL I hs h S) (k : W l R Z own nm bytes maxL ret n0 (fun v hf => P v hf ∧ hf = h) h cells slots pc Ls st) : WG (FX Z EL I hs) l R Z own nm bytes maxL ret n0 P h cells slots pc Ls st := by
  intro p e s m args below meth c T locs hx hZ hby hml hown hret hlk hnm hn0 X eT N
  obtain ⟨s₂, o, h1, h2, h3, v, L, h4, ⟨⟨h5, h5'⟩, h5''⟩, h6⟩ := k p e s m args below meth c T locs hx hZ hby hml hown hret hlk hnm ⟨hn0.1, trivial⟩ X eT N
  have c := (H s.vm hn0.2).1
  refine ⟨s₂, o, h1, h2, h3, v, L, h4, ⟨h5, h5''⟩, RoadKit.wide h6, ?_⟩
  have hW : s.WarmedH s₂.vm := h6.2.1
  have q := CHv.later (vm := s.vm) (vm1 := s₂.vm) (h := h) (h' := h) hZ (show (Wst Z s.vm h).Warmed39 s₂.vm from hW.wide) hEL ⟨Nat.le_refl _, fun _ _ q => q⟩ (Or.inl hW.interned_eq) c.1
  rw [h5']
  exact c.trans ⟨q.1, Nat.le_refl _, q.2⟩
theorem W.ldcX {i : Nat} {text : String} (n : Nat) (hd : decode bytes pc = .ok (.ldc i, 2)) (hn : pc + 2 = n) (w : (Jvm.Cond.stringLink own i text).before a0 Z = true) (wS : ∀ a ∈ Bundle.stringAtoms, a.before a0 Z = true) (hEL : EW Z a0 EL) (hm : (own, i) ∈ EL) (H : HV Z EL I hs h S) (hlt : ∀ x ∈ S, x < h.size)
    (vs : List Value) (ht : (∀ c ∈ text.toList, c.toNat < 256) ∧ text.toList.map (fun c => Value.int (Jvm.Lit.byteI c.toNat.toUInt16)) = vs) (hv : vs.length < 2 ^ 31) (sl : Nat) (hlen : 4 * text.toList.length ≤ sl) (hbig : sl ≤ 536870912) (hc : cells + 2 ≤ R.cells) (hs' : slots + (sl + 4) ≤ R.slots)
    (k : ∀ h' a b, Ext h h' → Keep h h' [] → Exa Z h' a "java/lang/String" → Fld Z h' a "java/lang/String" "coder" "B" (.int 0) → Fld Z h' a "java/lang/String" "value" "[B" (.ref b) → Ary Z h' b .byte vs → (∀ x ∈ S, x ≠ a ∧ x ≠ b) → WG (FX Z EL (NI Z EL h' S) h') l R Z own nm bytes maxL ret n0 P h' (cells + 2) (slots + (sl + 4)) n Ls (.ref a :: st)) : WG (FX Z EL I hs) l R Z own nm bytes maxL ret n0 P h cells slots pc Ls st := by
  subst hn
  intro p e s m args below meth c T locs hx hZ hby hml hown hret hlk hnm hn0 X eT N
  obtain ⟨c0, s0⟩ := H s.vm hn0.2
  have hz : ¬ vs.length.toInt32 < 0 := by
    have e1 : (vs.length.toInt32).toInt = vs.length := Int32.toInt_ofNat_of_lt hv
    rw [Int32.lt_iff_toInt_lt, e1]; simp
  have hl : vs.length.toInt32.toNatClampNeg = vs.length := by
    have e1 : (vs.length.toInt32).toInt = vs.length := Int32.toInt_ofNat_of_lt hv
    simp only [Int32.toNatClampNeg]; rw [e1]; simp
  obtain ⟨a, T', h', k1, b, kk, X', e', E', hS, hk1, hZ', hown', x1, x2, x3, x4, lt1, lt2, hC, -, hne, st'⟩ := ldcCH (vm0 := s.vm) (s := s) X hx hZ hown w wS eT (k0 := h.size) ((State.WarmedH.refl s).since _) (Nat.le_refl _) hEL hm c0.1 ht hz hl (g := mkF m pc Ls st) rfl (hb hby hd) hlen hbig hc hs'
  have sf : ∀ x ∈ S, Safe Z EL T'.vm h' x := fun x hx => hC.safe (hlt x hx) (s0 x hx)
  obtain ⟨s₂, o, h1, h2, h3, v, L, h4, h5, h6, h7⟩ := k h' a b E' (Keep.of_ext E') x1 x2 x3 (Ary.of_arv x4 hl) (fun x hx => hne x (sf x hx)) p e (s.setVm T'.vm) m args below meth c T' locs hx hZ' hby hml hown' hret hlk hnm ⟨hn0.1, hC.1, sf⟩ X' e' N
  exact ⟨s₂, o, st' _ h1, h2, h3, v, L, h4, h5, sinceW hS (Nat.le_trans hk1 h7.2.1) h6, (c0.trans hC).trans h7⟩
/-- a wide contract: S may be written -/
def ConX (Z : State) (EL : List (String × Nat)) (S : List Addr) (ws : List Jvm.Cond) (l : Launch) (y : MethodName) (bytes : ByteArray) (maxL : Nat) (ret : Option FieldType) (rm : Room) (as : Array Value) (h : Heap) (n0 : Nat) (P : Option Value → Heap → Prop) : Prop :=
  MetFree l y (head1 (Jvm.Cond.code y bytes maxL ret :: ws) rm) (fun a U => a = as ∧ Z.Warmed39 U.vm ∧ U.heap = h ∧ NI Z EL h S U.vm) (fun _ _ _ _ _ => True) (fun _ U o U' => ∃ v L, o = .returned v ∧ (P v U'.heap ∧ Fr n0 L) ∧ ReturnedEndW U o U' L rm.cells rm.slots ∧ CHr Z EL U.vm U.heap U'.vm U'.heap)
theorem ConX.of_W {ws : List Jvm.Cond} {y : MethodName} {rm : Room} {as : Array Value} (hy : plainFor y = true) (hn : n0 ≤ h.size) (hef : ∀ m, entryFrame m as maxL = mkF m 0 Ls []) (k : WG (FX Z EL (NI Z EL h S) h) l rm Z y.cls y.name bytes maxL ret n0 P h 0 0 0 Ls []) : ConX Z EL S ws l y bytes maxL ret rm as h n0 P := by
  refine MetFree.of_bodySF hy hisR ?_
  intro p e s m args below meth c s₁ Bd hml0 hP hK
  obtain ⟨rfl, hZ, hh, hI⟩ := hP
  have hown : s.vm.findClass y.cls = some m.cls := findClass_of_methodNamed Bd.named
  have hnm := (name_of_methodNamed Bd.named Bd.method).1
  have X0 : Stand p l e rm s m _ below meth c s₁ [] 0 0 := Stand.of_body Bd
  have e0 : s₁.heap = h := by rw [← hh, Bd.state]; rfl
  obtain ⟨s₂, o, h1, h2, h3, v, L, h4, h5, h6, h7⟩ := k p e s m _ below meth c s₁ [] Bd.exec hZ Bd.bytes hml0 hown Bd.returns (BodyLoose.notSynchronized Bd) hnm ⟨by rw [hh]; exact hn, hI⟩ X0 e0 (Fr.nil n0)
  exact ⟨s₂, o, castTop (hef m) h1, h2, h3, v, L, h4, h5, h6, by rw [hh]; exact h7⟩
theorem backOfX {p : Program} {e : Env} {s : State} {args : Array Value} {below : List Frame} {y : MethodName} {rm : Room} {len W : Nat} {as : Array Value} {S' : List Addr} (hM : ConX Z EL S' [] l y bytes maxL ret rm as h n0 P)
    (hZ : Z.Warmed39 s.vm) (wc : (Jvm.Cond.code y bytes maxL ret).before a0 Z = true) (wz : (Jvm.Cond.initialized y.cls).before a0 Z = true) (hf : rm.frames + 1 ≤ R.frames) (hl : W + (maxL + 11) + rm.locals ≤ R.locals) (hEL : EW Z a0 EL) (H : NI Z EL h S s.vm) (hlt : ∀ x ∈ S, x < h.size) (hsub : ∀ x ∈ S', x ∈ S) :
    BackS l R p e below s args y len W (fun A a => a = as ∧ A.U.heap = h ∧ A.cells + rm.cells ≤ R.cells ∧ A.slots + rm.slots ≤ R.slots)
      (fun A _ v B => ∃ L, (P v B.U.heap ∧ Fr n0 L) ∧ B.locs = A.locs ++ L ∧ B.cells = A.cells + rm.cells ∧ B.slots = A.slots + rm.slots ∧ CHr Z EL s.vm h B.U.vm B.U.heap) :=
  BackS.of_freeW (bytes := bytes) (maxL := maxL) (ret := ret) (E := fun _ first o t L k n => k = rm.cells ∧ n = rm.slots ∧ (∃ v, o = .returned v ∧ (P v t.heap ∧ Fr n0 L)) ∧ CHr Z EL first.vm first.heap t.vm t.heap) hM hf hl
    (fun m meth c A a Y hp => have hU : Z.Warmed39 A.U.vm := wtrans (s := s) hZ Y.warmed
      ⟨by show (Jvm.Cond.and _ .tt).before a A.U = true; rw [Cond.before_and, mv hU wc]; rfl, mv hU wc, mv hU wz, hp.2.2.1, hp.2.2.2⟩)
    (fun m meth c A a g mk Y hp => ⟨hp.1, wtrans (s := s) hZ Y.warmed, hp.2.1, (CHv.at (vm0 := s.vm) (s := s) Y hZ hEL H.1).1, fun x hx => (CHv.at (vm0 := s.vm) (s := s) Y hZ hEL H.1).safe (hlt x (hsub x hx)) (H.2 x (hsub x hx))⟩) (fun _ _ _ _ _ _ _ _ _ => trivial)
    (fun _ _ _ _ ⟨v, L, h1, h2, h3, h4⟩ => ⟨L, _, _, h3, rfl, rfl, ⟨v, h1, h2⟩, h4⟩)
    (fun m meth c A a g mk v t L k n Y hp _ _ ⟨e1, e2, ⟨v', e3, e4⟩, e5⟩ => by
      cases e3; subst e1 e2
      refine ⟨L, e4, rfl, rfl, rfl, (CHv.at (vm0 := s.vm) (s := s) Y hZ hEL H.1).trans ?_⟩
      rw [← hp.2.1]; exact e5)
section CallsX
variable {y : MethodName} {bytes' : ByteArray} {maxL' : Nat} {ret' : Option FieldType} {rm : Room} {P' : Option Value → Heap → Prop} {rest argsL : List Value} {i : Nat} {S' : List Addr}
theorem W.callSX (n : Nat) (hd : decode bytes pc = .ok (.invokestatic i, 3)) (hn : pc + 3 = n) (C : n0 ≤ h.size → ConX Z EL S' [] l y bytes' maxL' ret' rm argsL.toArray h n0 P') (w1 : (Jvm.Cond.methodLink own i y).before a0 Z = true) (w2 : (Jvm.Cond.static y).before a0 Z = true) (w3 : (Jvm.Cond.initialized y.cls).before a0 Z = true) (w4 : (Jvm.Cond.code y bytes' maxL' ret').before a0 Z = true)
    (hy : y.cls ≠ "java/lang/invoke/MethodHandle" ∧ y.cls ≠ "java/lang/invoke/VarHandle") {ps : List FieldType} {r : Option FieldType} (hpd : parseMethodDescriptor y.desc = some ⟨ps, r⟩) (hlen : argsL.length = ps.length) (hst : st = argsL.reverse ++ rest) (hsz : Ls.size = maxL) (hf : rm.frames + 1 ≤ R.frames) (W0 : Nat) (hW : (rest.map fun v => v.category).sum ≤ W0) (hl : W0 + (maxL' + 11) + rm.locals ≤ R.locals) (hc : cells + rm.cells ≤ R.cells) (hs' : slots + rm.slots ≤ R.slots)
    (hEL : EW Z a0 EL) (H : HV Z EL I hs h S) (hlt : ∀ x ∈ S, x < h.size) (hsub : ∀ x ∈ S', x ∈ S)
    (k : ∀ v h', P' v h' → WG (FX Z EL (NI Z EL h' S) h') l R Z own nm bytes maxL ret n0 P h' (cells + rm.cells) (slots + rm.slots) n Ls (v.toList ++ rest)) : WG (FX Z EL I hs) l R Z own nm bytes maxL ret n0 P h cells slots pc Ls st := by
  subst hn hst
  intro p e s m args below meth c T locs hx hZ hby hml hown hret hlk hnm hn0 X eT N
  obtain ⟨c0, s0⟩ := H s.vm hn0.2
  obtain ⟨v, _, ⟨T', L', c', n'⟩, -, X', hS, hgr, ⟨Lc, hQ, l', y', z', hC⟩, st'⟩ := callSS X hx (y := y) hown (mvT hZ w1) (mvT hZ w2) (mvT hZ w3) (mvT hZ w4) hy (backOfX (W := W0) (C (Nat.le_trans hn0.1 (eT ▸ size_le X))) hZ w4 w3 hf hl hEL ⟨c0.1, s0⟩ hlt hsub) (g := mkF m pc Ls (argsL.reverse ++ rest)) rfl (by rw [hml]; exact hsz) (argsL := argsL) (rest := rest) (lenOf hpd hlen) rfl (by show 2 * 0 + _ ≤ _; omega) (hb hby hd) (fun _ _ => ⟨rfl, eT, hc, hs'⟩)
  dsimp only [Pt.U, Pt.locs, Pt.cells, Pt.slots] at X' l' y' z' st' hQ hS hgr hC
  subst l' y' z'
  obtain ⟨s₂, o, h1, h2, h3, v', L2, h4, h5, h6, h7⟩ := k v T'.heap hQ.1 p e (s.setVm T'.vm) m args below meth c T' _ hx (State.Warmed39.trans hZ hS.1) hby hml ((hS.1.alike.findClass _ _).trans hown) hret hlk hnm ⟨hn0.1, hC.1, fun x hx => hC.safe (hlt x hx) (s0 x hx)⟩ X' rfl (Fr.app N hQ.2)
  exact ⟨s₂, o, st'.trans h1, h2, h3, v', L2, h4, h5, sinceW hS h7.2.1 h6, (c0.trans hC).trans h7⟩
theorem W.callInitX {a : Addr} (n : Nat) (hd : decode bytes pc = .ok (.invokespecial i, 3)) (hn : pc + 3 = n) (C : n0 ≤ h.size → ConX Z EL S' [] l y bytes' maxL' none rm (.ref a :: argsL).toArray h n0 P') (hi : y.name = "<init>") (w1 : (Jvm.Cond.methodLink own i y).before a0 Z = true) (w2 : (Jvm.Cond.instanceMethod y).before a0 Z = true) (w3 : (Jvm.Cond.initialized y.cls).before a0 Z = true) (w4 : (Jvm.Cond.code y bytes' maxL' none).before a0 Z = true)
    (hy : y.cls ≠ "java/lang/invoke/MethodHandle" ∧ y.cls ≠ "java/lang/invoke/VarHandle") {ps : List FieldType} {r : Option FieldType} (hpd : parseMethodDescriptor y.desc = some ⟨ps, r⟩) (hlen : argsL.length = ps.length) (hst : st = argsL.reverse ++ .ref a :: rest) (hsz : Ls.size = maxL) (hf : rm.frames + 1 ≤ R.frames) (W0 : Nat) (hW : (rest.map fun v => v.category).sum ≤ W0) (hl : W0 + (maxL' + 11) + rm.locals ≤ R.locals) (hc : cells + rm.cells ≤ R.cells) (hs' : slots + rm.slots ≤ R.slots)
    (hEL : EW Z a0 EL) (H : HV Z EL I hs h S) (hlt : ∀ x ∈ S, x < h.size) (hsub : ∀ x ∈ S', x ∈ S)
    (k : ∀ v h', P' v h' → WG (FX Z EL (NI Z EL h' S) h') l R Z own nm bytes maxL ret n0 P h' (cells + rm.cells) (slots + rm.slots) n Ls (v.toList ++ rest)) : WG (FX Z EL I hs) l R Z own nm bytes maxL ret n0 P h cells slots pc Ls st := by
  subst hn hst
  intro p e s m args below meth c T locs hx hZ hby hml hown hret hlk hnm hn0 X eT N
  obtain ⟨c0, s0⟩ := H s.vm hn0.2
  obtain ⟨v, _, ⟨T', L', c', n'⟩, -, X', hS, hgr, ⟨Lc, hQ, l', y', z', hC⟩, st'⟩ := X.specialBackS hx (y := y) hi hown (mvT hZ w1) (mvT hZ w2) (mvT hZ w4) hy (backOfX (W := W0) (C (Nat.le_trans hn0.1 (eT ▸ size_le X))) hZ w4 w3 hf hl hEL ⟨c0.1, s0⟩ hlt hsub) (g := mkF m pc Ls (argsL.reverse ++ .ref a :: rest)) rfl (by rw [hml]; exact hsz) (Steps.refl _) (a := a) (argsL := argsL) (rest := rest) (lenOf hpd hlen) rfl (by show 2 * 0 + _ ≤ _; omega) (hb hby hd) (fun _ _ => ⟨rfl, eT, hc, hs'⟩)
  dsimp only [Pt.U, Pt.locs, Pt.cells, Pt.slots] at X' l' y' z' st' hQ hS hgr hC
  subst l' y' z'
  obtain ⟨s₂, o, h1, h2, h3, v', L2, h4, h5, h6, h7⟩ := k v T'.heap hQ.1 p e (s.setVm T'.vm) m args below meth c T' _ hx (State.Warmed39.trans hZ hS.1) hby hml ((hS.1.alike.findClass _ _).trans hown) hret hlk hnm ⟨hn0.1, hC.1, fun x hx => hC.safe (hlt x hx) (s0 x hx)⟩ X' rfl (Fr.app N hQ.2)
  exact ⟨s₂, o, st'.trans h1, h2, h3, v', L2, h4, h5, sinceW hS h7.2.1 h6, (c0.trans hC).trans h7⟩
end CallsX
end Held
end Rules
end Jvm.Wk

namespace Jvm.Pilot.@@N@@
open Jvm Jvm.ClassFile Sem Op Lib Jvm.Free Jvm.Stand Jvm.LawKit Jvm.RoadKit Jvm.Wk Bundle Jvm.Pilot.@@N@@.Jvm.D
abbrev HwT (Z : State) (a0 : Array Value) : Prop := ∀ d ∈ tables_1, d.before a0 Z = true
theorem wd_18 {Z : State} {a0 : Array Value} (hw : HwT Z a0) : (Jvm.Cond.stringLink "java/lang/String" (7 : Nat) "").before a0 Z = true := hw _ (List.mem_of_getElem? (i := 18) rfl)
theorem wd_54 {Z : State} {a0 : Array Value} (hw : HwT Z a0) : (Jvm.Cond.stringLink "com/example/grackle/grackle/cli/InputsSourcePinLaw" (24 : Nat) "standard input").before a0 Z = true := hw _ (List.mem_of_getElem? (i := 54) rfl)
theorem wd_53 {Z : State} {a0 : Array Value} (hw : HwT Z a0) : (Jvm.Cond.stringLink "com/example/grackle/grackle/cli/Inputs" (68 : Nat) "standard input").before a0 Z = true := hw _ (List.mem_of_getElem? (i := 53) rfl)
theorem wd_30 {Z : State} {a0 : Array Value} (hw : HwT Z a0) : (Jvm.Cond.stringLink "com/example/grackle/grackle/cli/Inputs" (7 : Nat) "-").before a0 Z = true := hw _ (List.mem_of_getElem? (i := 30) rfl)
theorem wd_7 {Z : State} {a0 : Array Value} (hw : HwT Z a0) : (Jvm.Cond.initialized "java/lang/String").before a0 Z = true := hw _ (List.mem_of_getElem? (i := 7) rfl)
theorem wd_6 {Z : State} {a0 : Array Value} (hw : HwT Z a0) : (Jvm.Cond.instantiable "java/lang/String" (4 : Nat)).before a0 Z = true := hw _ (List.mem_of_getElem? (i := 6) rfl)
theorem wd_19 {Z : State} {a0 : Array Value} (hw : HwT Z a0) : (Jvm.Cond.arrayClass Jvm.ClassFile.FieldType.byte).before a0 Z = true := hw _ (List.mem_of_getElem? (i := 19) rfl)
theorem wd_20 {Z : State} {a0 : Array Value} (hw : HwT Z a0) : (Jvm.Cond.laysFinal "java/lang/String" "java/lang/String" "value" "[B").before a0 Z = true := hw _ (List.mem_of_getElem? (i := 20) rfl)
theorem wd_21 {Z : State} {a0 : Array Value} (hw : HwT Z a0) : (Jvm.Cond.laysFinal "java/lang/String" "java/lang/String" "coder" "B").before a0 Z = true := hw _ (List.mem_of_getElem? (i := 21) rfl)
theorem wd_22 {Z : State} {a0 : Array Value} (hw : HwT Z a0) : (Jvm.Cond.soleField "java/lang/String" "value").before a0 Z = true := hw _ (List.mem_of_getElem? (i := 22) rfl)
theorem wd_23 {Z : State} {a0 : Array Value} (hw : HwT Z a0) : (Jvm.Cond.soleField "java/lang/String" "coder").before a0 Z = true := hw _ (List.mem_of_getElem? (i := 23) rfl)
theorem d_method_2_0 : decode method_2_code 0 = .ok (.iload_n 0, 1) := by decide +kernel
theorem d_method_2_1 : decode method_2_code 1 = .ok (.iconst 1, 1) := by decide +kernel
theorem d_method_2_2 : decode method_2_code 2 = .ok (.iand, 1) := by decide +kernel
theorem d_method_2_3 : decode method_2_code 3 = .ok (.ifCond .ne 8, 3) := by decide +kernel
theorem d_method_2_11 : decode method_2_code 11 = .ok (.iload_n 0, 1) := by decide +kernel
theorem d_method_2_12 : decode method_2_code 12 = .ok (.iconst 1, 1) := by decide +kernel
theorem d_method_2_13 : decode method_2_code 13 = .ok (.iushr, 1) := by decide +kernel
theorem d_method_2_14 : decode method_2_code 14 = .ok (.sipush 255, 3) := by decide +kernel
theorem d_method_2_17 : decode method_2_code 17 = .ok (.iand, 1) := by decide +kernel
theorem d_method_2_18 : decode method_2_code 18 = .ok (.i2c, 1) := by decide +kernel
theorem d_method_2_19 : decode method_2_code 19 = .ok (.ireturn, 1) := by decide +kernel
theorem d_method_2_6 : decode method_2_code 6 = .ok (.bipush 45, 2) := by decide +kernel
theorem d_method_2_8 : decode method_2_code 8 = .ok (.goto 11, 3) := by decide +kernel
theorem pn_0 : plainName "com/example/grackle/grackle/cli/InputsSourcePinLaw" = true := by first | (simp [plainName, overriddenIn]; done) | decide +kernel
theorem d_jdk_43_method_13_0 : decode jdk_43_method_13_code 0 = .ok (.aload_n 0, 1) := by decide +kernel
theorem d_jdk_43_method_13_1 : decode jdk_43_method_13_code 1 = .ok (.arraylength, 1) := by decide +kernel
theorem d_jdk_43_method_13_2 : decode jdk_43_method_13_code 2 = .ok (.aload_n 1, 1) := by decide +kernel
theorem d_jdk_43_method_13_3 : decode jdk_43_method_13_code 3 = .ok (.arraylength, 1) := by decide +kernel
theorem d_jdk_43_method_13_4 : decode jdk_43_method_13_code 4 = .ok (.if_icmp .ne 30, 3) := by decide +kernel
theorem d_jdk_43_method_13_34 : decode jdk_43_method_13_code 34 = .ok (.iconst 0, 1) := by decide +kernel
theorem d_jdk_43_method_13_35 : decode jdk_43_method_13_code 35 = .ok (.ireturn, 1) := by decide +kernel
theorem pn_1 : plainName "java/lang/StringLatin1" = true := by first | (simp [plainName, overriddenIn]; done) | decide +kernel
theorem d_jdk_42_method_66_0 : decode jdk_42_method_66_code 0 = .ok (.aload_n 0, 1) := by decide +kernel
theorem d_jdk_42_method_66_1 : decode jdk_42_method_66_code 1 = .ok (.aload_n 1, 1) := by decide +kernel
theorem d_jdk_42_method_66_2 : decode jdk_42_method_66_code 2 = .ok (.if_acmp .ne 5, 3) := by decide +kernel
theorem d_jdk_42_method_66_7 : decode jdk_42_method_66_code 7 = .ok (.aload_n 1, 1) := by decide +kernel
theorem d_jdk_42_method_66_8 : decode jdk_42_method_66_code 8 = .ok (.instanceof 10, 3) := by decide +kernel
theorem wd_36 {Z : State} {a0 : Array Value} (hw : HwT Z a0) : (Jvm.Cond.classLink "java/lang/String" (10 : Nat) "java/lang/String").before a0 Z = true := hw _ (List.mem_of_getElem? (i := 36) rfl)
theorem d_jdk_42_method_66_11 : decode jdk_42_method_66_code 11 = .ok (.ifCond .eq 43, 3) := by decide +kernel
theorem d_jdk_42_method_66_14 : decode jdk_42_method_66_code 14 = .ok (.aload_n 1, 1) := by decide +kernel
theorem d_jdk_42_method_66_15 : decode jdk_42_method_66_code 15 = .ok (.checkcast 10, 3) := by decide +kernel
theorem d_jdk_42_method_66_18 : decode jdk_42_method_66_code 18 = .ok (.astore_n 2, 1) := by decide +kernel
theorem d_jdk_42_method_66_19 : decode jdk_42_method_66_code 19 = .ok (.getstatic 38, 3) := by decide +kernel
theorem wd_37 {Z : State} {a0 : Array Value} (hw : HwT Z a0) : (Jvm.Cond.fieldLink "java/lang/String" (38 : Nat) "java/lang/String" "COMPACT_STRINGS" "Z").before a0 Z = true := hw _ (List.mem_of_getElem? (i := 37) rfl)
theorem d_jdk_42_method_66_22 : decode jdk_42_method_66_code 22 = .ok (.ifCond .eq 14, 3) := by decide +kernel
theorem d_jdk_42_method_66_25 : decode jdk_42_method_66_code 25 = .ok (.aload_n 0, 1) := by decide +kernel
theorem d_jdk_42_method_66_26 : decode jdk_42_method_66_code 26 = .ok (.getfield 15, 3) := by decide +kernel
theorem wd_25 {Z : State} {a0 : Array Value} (hw : HwT Z a0) : (Jvm.Cond.fieldLink "java/lang/String" (15 : Nat) "java/lang/String" "coder" "B").before a0 Z = true := hw _ (List.mem_of_getElem? (i := 25) rfl)
theorem d_jdk_42_method_66_29 : decode jdk_42_method_66_code 29 = .ok (.aload_n 2, 1) := by decide +kernel
theorem d_jdk_42_method_66_30 : decode jdk_42_method_66_code 30 = .ok (.getfield 15, 3) := by decide +kernel
theorem d_jdk_42_method_66_33 : decode jdk_42_method_66_code 33 = .ok (.if_icmp .ne 21, 3) := by decide +kernel
theorem d_jdk_42_method_66_36 : decode jdk_42_method_66_code 36 = .ok (.aload_n 0, 1) := by decide +kernel
theorem d_jdk_42_method_66_37 : decode jdk_42_method_66_code 37 = .ok (.getfield 9, 3) := by decide +kernel
theorem wd_24 {Z : State} {a0 : Array Value} (hw : HwT Z a0) : (Jvm.Cond.fieldLink "java/lang/String" (9 : Nat) "java/lang/String" "value" "[B").before a0 Z = true := hw _ (List.mem_of_getElem? (i := 24) rfl)
theorem d_jdk_42_method_66_40 : decode jdk_42_method_66_code 40 = .ok (.aload_n 2, 1) := by decide +kernel
theorem d_jdk_42_method_66_41 : decode jdk_42_method_66_code 41 = .ok (.getfield 9, 3) := by decide +kernel
theorem d_jdk_42_method_66_44 : decode jdk_42_method_66_code 44 = .ok (.invokestatic 541, 3) := by decide +kernel
theorem wd_38 {Z : State} {a0 : Array Value} (hw : HwT Z a0) : (Jvm.Cond.methodLink "java/lang/String" (541 : Nat) ({ cls := "java/lang/StringLatin1", name := "equals", desc := "([B[B)Z" } : Jvm.MethodName)).before a0 Z = true := hw _ (List.mem_of_getElem? (i := 38) rfl)
theorem wd_41 {Z : State} {a0 : Array Value} (hw : HwT Z a0) : (Jvm.Cond.code ({ cls := "java/lang/StringLatin1", name := "equals", desc := "([B[B)Z" } : Jvm.MethodName) jdk_43_method_13_code (3 : Nat) (Option.some Jvm.ClassFile.FieldType.boolean)).before a0 Z = true := hw _ (List.mem_of_getElem? (i := 41) rfl)
theorem pd_0 : parseMethodDescriptor "([B[B)Z" = some ⟨[(.array .byte), (.array .byte)], some .boolean⟩ := by decide +kernel
theorem wd_39 {Z : State} {a0 : Array Value} (hw : HwT Z a0) : (Jvm.Cond.static ({ cls := "java/lang/StringLatin1", name := "equals", desc := "([B[B)Z" } : Jvm.MethodName)).before a0 Z = true := hw _ (List.mem_of_getElem? (i := 39) rfl)
theorem wd_40 {Z : State} {a0 : Array Value} (hw : HwT Z a0) : (Jvm.Cond.initialized "java/lang/StringLatin1").before a0 Z = true := hw _ (List.mem_of_getElem? (i := 40) rfl)
theorem d_jdk_42_method_66_47 : decode jdk_42_method_66_code 47 = .ok (.ifCond .eq 7, 3) := by decide +kernel
theorem d_jdk_42_method_66_54 : decode jdk_42_method_66_code 54 = .ok (.iconst 0, 1) := by decide +kernel
theorem d_jdk_42_method_66_55 : decode jdk_42_method_66_code 55 = .ok (.ireturn, 1) := by decide +kernel
theorem pn_2 : plainName "java/lang/String" = true := by first | (simp [plainName, overriddenIn]; done) | decide +kernel
theorem d_jdk_43_method_13_7 : decode jdk_43_method_13_code 7 = .ok (.iconst 0, 1) := by decide +kernel
theorem d_jdk_43_method_13_8 : decode jdk_43_method_13_code 8 = .ok (.istore_n 2, 1) := by decide +kernel
theorem d_jdk_43_method_13_9 : decode jdk_43_method_13_code 9 = .ok (.iload_n 2, 1) := by decide +kernel
theorem d_jdk_43_method_13_10 : decode jdk_43_method_13_code 10 = .ok (.aload_n 0, 1) := by decide +kernel
theorem d_jdk_43_method_13_11 : decode jdk_43_method_13_code 11 = .ok (.arraylength, 1) := by decide +kernel
theorem d_jdk_43_method_13_12 : decode jdk_43_method_13_code 12 = .ok (.if_icmp .ge 20, 3) := by decide +kernel
theorem d_jdk_43_method_13_15 : decode jdk_43_method_13_code 15 = .ok (.aload_n 0, 1) := by decide +kernel
theorem d_jdk_43_method_13_16 : decode jdk_43_method_13_code 16 = .ok (.iload_n 2, 1) := by decide +kernel
theorem d_jdk_43_method_13_17 : decode jdk_43_method_13_code 17 = .ok (.baload, 1) := by decide +kernel
theorem d_jdk_43_method_13_18 : decode jdk_43_method_13_code 18 = .ok (.aload_n 1, 1) := by decide +kernel
theorem d_jdk_43_method_13_19 : decode jdk_43_method_13_code 19 = .ok (.iload_n 2, 1) := by decide +kernel
theorem d_jdk_43_method_13_20 : decode jdk_43_method_13_code 20 = .ok (.baload, 1) := by decide +kernel
theorem d_jdk_43_method_13_21 : decode jdk_43_method_13_code 21 = .ok (.if_icmp .eq 5, 3) := by decide +kernel
theorem d_jdk_43_method_13_26 : decode jdk_43_method_13_code 26 = .ok (.iinc 2 1, 3) := by decide +kernel
theorem d_jdk_43_method_13_29 : decode jdk_43_method_13_code 29 = .ok (.goto (-20), 3) := by decide +kernel
theorem d_jdk_43_method_13_32 : decode jdk_43_method_13_code 32 = .ok (.iconst 1, 1) := by decide +kernel
theorem d_jdk_43_method_13_33 : decode jdk_43_method_13_code 33 = .ok (.ireturn, 1) := by decide +kernel
theorem d_jdk_43_method_13_24 : decode jdk_43_method_13_code 24 = .ok (.iconst 0, 1) := by decide +kernel
theorem d_jdk_43_method_13_25 : decode jdk_43_method_13_code 25 = .ok (.ireturn, 1) := by decide +kernel
theorem d_jdk_42_method_66_50 : decode jdk_42_method_66_code 50 = .ok (.iconst 1, 1) := by decide +kernel
theorem d_jdk_42_method_66_51 : decode jdk_42_method_66_code 51 = .ok (.goto 4, 3) := by decide +kernel
theorem d_jdk_42_method_66_5 : decode jdk_42_method_66_code 5 = .ok (.iconst 1, 1) := by decide +kernel
theorem d_jdk_42_method_66_6 : decode jdk_42_method_66_code 6 = .ok (.ireturn, 1) := by decide +kernel
theorem d_prog_2_method_4_0 : decode prog_2_method_4_code 0 = .ok (.aload_n 0, 1) := by decide +kernel
theorem d_prog_2_method_4_1 : decode prog_2_method_4_code 1 = .ok (.ldc 7, 2) := by decide +kernel
theorem d_prog_2_method_4_3 : decode prog_2_method_4_code 3 = .ok (.invokevirtual 9, 3) := by decide +kernel
theorem wd_31 {Z : State} {a0 : Array Value} (hw : HwT Z a0) : (Jvm.Cond.methodLink "com/example/grackle/grackle/cli/Inputs" (9 : Nat) ({ cls := "java/lang/String", name := "equals", desc := "(Ljava/lang/Object;)Z" } : Jvm.MethodName)).before a0 Z = true := hw _ (List.mem_of_getElem? (i := 31) rfl)
theorem wd_34 {Z : State} {a0 : Array Value} (hw : HwT Z a0) : (Jvm.Cond.selects "java/lang/String" ({ cls := "java/lang/String", name := "equals", desc := "(Ljava/lang/Object;)Z" } : Jvm.MethodName) ({ cls := "java/lang/String", name := "equals", desc := "(Ljava/lang/Object;)Z" } : Jvm.MethodName)).before a0 Z = true := hw _ (List.mem_of_getElem? (i := 34) rfl)
theorem wd_35 {Z : State} {a0 : Array Value} (hw : HwT Z a0) : (Jvm.Cond.code ({ cls := "java/lang/String", name := "equals", desc := "(Ljava/lang/Object;)Z" } : Jvm.MethodName) jdk_42_method_66_code (3 : Nat) (Option.some Jvm.ClassFile.FieldType.boolean)).before a0 Z = true := hw _ (List.mem_of_getElem? (i := 35) rfl)
theorem pd_1 : parseMethodDescriptor "(Ljava/lang/Object;)Z" = some ⟨[(.object "java/lang/Object")], some .boolean⟩ := by decide +kernel
theorem wd_32 {Z : State} {a0 : Array Value} (hw : HwT Z a0) : (Jvm.Cond.declares ({ cls := "java/lang/String", name := "equals", desc := "(Ljava/lang/Object;)Z" } : Jvm.MethodName)).before a0 Z = true := hw _ (List.mem_of_getElem? (i := 32) rfl)
theorem wd_33 {Z : State} {a0 : Array Value} (hw : HwT Z a0) : (Jvm.Cond.instanceMethod ({ cls := "java/lang/String", name := "equals", desc := "(Ljava/lang/Object;)Z" } : Jvm.MethodName)).before a0 Z = true := hw _ (List.mem_of_getElem? (i := 33) rfl)
theorem d_prog_2_method_4_6 : decode prog_2_method_4_code 6 = .ok (.ifCond .eq 8, 3) := by decide +kernel
theorem d_prog_2_method_4_14 : decode prog_2_method_4_code 14 = .ok (.aload_n 0, 1) := by decide +kernel
theorem d_prog_2_method_4_15 : decode prog_2_method_4_code 15 = .ok (.areturn, 1) := by decide +kernel
theorem pn_3 : plainName "com/example/grackle/grackle/cli/Inputs" = true := by first | (simp [plainName, overriddenIn]; done) | decide +kernel
theorem d_prog_2_method_4_9 : decode prog_2_method_4_code 9 = .ok (.ldc 68, 2) := by decide +kernel
theorem d_prog_2_method_4_11 : decode prog_2_method_4_code 11 = .ok (.goto 4, 3) := by decide +kernel
theorem d_jdk_42_method_149_0 : decode jdk_42_method_149_code 0 = .ok (.aload_n 0, 1) := by decide +kernel
theorem d_jdk_42_method_149_1 : decode jdk_42_method_149_code 1 = .ok (.invokespecial 1, 3) := by decide +kernel
theorem wd_15 {Z : State} {a0 : Array Value} (hw : HwT Z a0) : (Jvm.Cond.methodLink "java/lang/String" (1 : Nat) ({ cls := "java/lang/Object", name := "<init>", desc := "()V" } : Jvm.MethodName)).before a0 Z = true := hw _ (List.mem_of_getElem? (i := 15) rfl)
theorem wd_17 {Z : State} {a0 : Array Value} (hw : HwT Z a0) : (Jvm.Cond.code ({ cls := "java/lang/Object", name := "<init>", desc := "()V" } : Jvm.MethodName) object_method_1_code (1 : Nat) (Option.none : Option Jvm.ClassFile.FieldType)).before a0 Z = true := hw _ (List.mem_of_getElem? (i := 17) rfl)
theorem wd_16 {Z : State} {a0 : Array Value} (hw : HwT Z a0) : (Jvm.Cond.instanceMethod ({ cls := "java/lang/Object", name := "<init>", desc := "()V" } : Jvm.MethodName)).before a0 Z = true := hw _ (List.mem_of_getElem? (i := 16) rfl)
theorem d_jdk_42_method_149_4 : decode jdk_42_method_149_code 4 = .ok (.iload_n 3, 1) := by decide +kernel
theorem d_jdk_42_method_149_5 : decode jdk_42_method_149_code 5 = .ok (.ifCond .ne 22, 3) := by decide +kernel
theorem d_jdk_42_method_149_8 : decode jdk_42_method_149_code 8 = .ok (.aload_n 0, 1) := by decide +kernel
theorem d_jdk_42_method_149_9 : decode jdk_42_method_149_code 9 = .ok (.ldc 7, 2) := by decide +kernel
theorem d_jdk_42_method_149_11 : decode jdk_42_method_149_code 11 = .ok (.getfield 9, 3) := by decide +kernel
theorem d_jdk_42_method_149_14 : decode jdk_42_method_149_code 14 = .ok (.putfield 9, 3) := by decide +kernel
theorem d_jdk_42_method_149_17 : decode jdk_42_method_149_code 17 = .ok (.aload_n 0, 1) := by decide +kernel
theorem d_jdk_42_method_149_18 : decode jdk_42_method_149_code 18 = .ok (.ldc 7, 2) := by decide +kernel
theorem d_jdk_42_method_149_20 : decode jdk_42_method_149_code 20 = .ok (.getfield 15, 3) := by decide +kernel
theorem d_jdk_42_method_149_23 : decode jdk_42_method_149_code 23 = .ok (.putfield 15, 3) := by decide +kernel
theorem sne_0 {Z : State} {a0 : Array Value} (hw : HwT Z a0) : RoadKit.slotOf Z "java/lang/String" "coder" "B" ≠ RoadKit.slotOf Z "java/lang/String" "value" "[B" := slot_ne (C := "java/lang/String") (Or.inr (wd_21 hw)) (Or.inr (wd_20 hw)) (by decide) (t := .byte) (t' := (.array .byte)) (by decide) (by decide)
theorem d_jdk_42_method_149_26 : decode jdk_42_method_149_code 26 = .ok (.return_, 1) := by decide +kernel
theorem sne_1 {Z : State} {a0 : Array Value} (hw : HwT Z a0) : RoadKit.slotOf Z "java/lang/String" "value" "[B" ≠ RoadKit.slotOf Z "java/lang/String" "coder" "B" := slot_ne (C := "java/lang/String") (Or.inr (wd_20 hw)) (Or.inr (wd_21 hw)) (by decide) (t := (.array .byte)) (t' := .byte) (by decide) (by decide)
theorem d_jdk_42_method_3_0 : decode jdk_42_method_3_code 0 = .ok (.aload_n 0, 1) := by decide +kernel
theorem d_jdk_42_method_3_1 : decode jdk_42_method_3_code 1 = .ok (.aload_n 1, 1) := by decide +kernel
theorem d_jdk_42_method_3_2 : decode jdk_42_method_3_code 2 = .ok (.iconst 0, 1) := by decide +kernel
theorem d_jdk_42_method_3_3 : decode jdk_42_method_3_code 3 = .ok (.aload_n 1, 1) := by decide +kernel
theorem d_jdk_42_method_3_4 : decode jdk_42_method_3_code 4 = .ok (.arraylength, 1) := by decide +kernel
theorem d_jdk_42_method_3_5 : decode jdk_42_method_3_code 5 = .ok (.aconst_null, 1) := by decide +kernel
theorem d_jdk_42_method_3_6 : decode jdk_42_method_3_code 6 = .ok (.invokespecial 27, 3) := by decide +kernel
theorem wd_11 {Z : State} {a0 : Array Value} (hw : HwT Z a0) : (Jvm.Cond.methodLink "java/lang/String" (27 : Nat) ({ cls := "java/lang/String", name := "<init>", desc := "([CIILjava/lang/Void;)V" } : Jvm.MethodName)).before a0 Z = true := hw _ (List.mem_of_getElem? (i := 11) rfl)
theorem wd_14 {Z : State} {a0 : Array Value} (hw : HwT Z a0) : (Jvm.Cond.code ({ cls := "java/lang/String", name := "<init>", desc := "([CIILjava/lang/Void;)V" } : Jvm.MethodName) jdk_42_method_149_code (6 : Nat) (Option.none : Option Jvm.ClassFile.FieldType)).before a0 Z = true := hw _ (List.mem_of_getElem? (i := 14) rfl)
theorem pd_2 : parseMethodDescriptor "([CIILjava/lang/Void;)V" = some ⟨[(.array .char), .int, .int, (.object "java/lang/Void")], none⟩ := by decide +kernel
theorem wd_12 {Z : State} {a0 : Array Value} (hw : HwT Z a0) : (Jvm.Cond.instanceMethod ({ cls := "java/lang/String", name := "<init>", desc := "([CIILjava/lang/Void;)V" } : Jvm.MethodName)).before a0 Z = true := hw _ (List.mem_of_getElem? (i := 12) rfl)
theorem d_jdk_42_method_3_9 : decode jdk_42_method_3_code 9 = .ok (.return_, 1) := by decide +kernel
theorem wd_0 {Z : State} {a0 : Array Value} (hw : HwT Z a0) : (Jvm.Cond.methodLink "com/example/grackle/grackle/cli/InputsSourcePinLaw" (7 : Nat) ({ cls := "com/example/grackle/grackle/cli/InputsSourcePinLaw", name := "pick", desc := "(I)C" } : Jvm.MethodName)).before a0 Z = true := hw _ (List.mem_of_getElem? (i := 0) rfl)
theorem wd_3 {Z : State} {a0 : Array Value} (hw : HwT Z a0) : (Jvm.Cond.code ({ cls := "com/example/grackle/grackle/cli/InputsSourcePinLaw", name := "pick", desc := "(I)C" } : Jvm.MethodName) method_2_code (1 : Nat) (Option.some Jvm.ClassFile.FieldType.char)).before a0 Z = true := hw _ (List.mem_of_getElem? (i := 3) rfl)
theorem pd_3 : parseMethodDescriptor "(I)C" = some ⟨[.int], some .char⟩ := by decide +kernel
theorem wd_1 {Z : State} {a0 : Array Value} (hw : HwT Z a0) : (Jvm.Cond.static ({ cls := "com/example/grackle/grackle/cli/InputsSourcePinLaw", name := "pick", desc := "(I)C" } : Jvm.MethodName)).before a0 Z = true := hw _ (List.mem_of_getElem? (i := 1) rfl)
theorem wd_2 {Z : State} {a0 : Array Value} (hw : HwT Z a0) : (Jvm.Cond.initialized "com/example/grackle/grackle/cli/InputsSourcePinLaw").before a0 Z = true := hw _ (List.mem_of_getElem? (i := 2) rfl)
theorem wd_4 {Z : State} {a0 : Array Value} (hw : HwT Z a0) : (Jvm.Cond.arrayClass Jvm.ClassFile.FieldType.char).before a0 Z = true := hw _ (List.mem_of_getElem? (i := 4) rfl)
theorem wd_5 {Z : State} {a0 : Array Value} (hw : HwT Z a0) : (Jvm.Cond.classLink "com/example/grackle/grackle/cli/InputsSourcePinLaw" (13 : Nat) "java/lang/String").before a0 Z = true := hw _ (List.mem_of_getElem? (i := 5) rfl)
theorem wd_8 {Z : State} {a0 : Array Value} (hw : HwT Z a0) : (Jvm.Cond.methodLink "com/example/grackle/grackle/cli/InputsSourcePinLaw" (15 : Nat) ({ cls := "java/lang/String", name := "<init>", desc := "([C)V" } : Jvm.MethodName)).before a0 Z = true := hw _ (List.mem_of_getElem? (i := 8) rfl)
theorem wd_10 {Z : State} {a0 : Array Value} (hw : HwT Z a0) : (Jvm.Cond.code ({ cls := "java/lang/String", name := "<init>", desc := "([C)V" } : Jvm.MethodName) jdk_42_method_3_code (2 : Nat) (Option.none : Option Jvm.ClassFile.FieldType)).before a0 Z = true := hw _ (List.mem_of_getElem? (i := 10) rfl)
theorem pd_4 : parseMethodDescriptor "([C)V" = some ⟨[(.array .char)], none⟩ := by decide +kernel
theorem wd_9 {Z : State} {a0 : Array Value} (hw : HwT Z a0) : (Jvm.Cond.instanceMethod ({ cls := "java/lang/String", name := "<init>", desc := "([C)V" } : Jvm.MethodName)).before a0 Z = true := hw _ (List.mem_of_getElem? (i := 9) rfl)
theorem wd_26 {Z : State} {a0 : Array Value} (hw : HwT Z a0) : (Jvm.Cond.methodLink "com/example/grackle/grackle/cli/InputsSourcePinLaw" (18 : Nat) ({ cls := "com/example/grackle/grackle/cli/Inputs", name := "source", desc := "(Ljava/lang/String;)Ljava/lang/String;" } : Jvm.MethodName)).before a0 Z = true := hw _ (List.mem_of_getElem? (i := 26) rfl)
theorem wd_29 {Z : State} {a0 : Array Value} (hw : HwT Z a0) : (Jvm.Cond.code ({ cls := "com/example/grackle/grackle/cli/Inputs", name := "source", desc := "(Ljava/lang/String;)Ljava/lang/String;" } : Jvm.MethodName) prog_2_method_4_code (1 : Nat) (Option.some (Jvm.ClassFile.FieldType.object "java/lang/String"))).before a0 Z = true := hw _ (List.mem_of_getElem? (i := 29) rfl)
theorem pd_5 : parseMethodDescriptor "(Ljava/lang/String;)Ljava/lang/String;" = some ⟨[(.object "java/lang/String")], some (.object "java/lang/String")⟩ := by decide +kernel
theorem wd_27 {Z : State} {a0 : Array Value} (hw : HwT Z a0) : (Jvm.Cond.static ({ cls := "com/example/grackle/grackle/cli/Inputs", name := "source", desc := "(Ljava/lang/String;)Ljava/lang/String;" } : Jvm.MethodName)).before a0 Z = true := hw _ (List.mem_of_getElem? (i := 27) rfl)
theorem wd_28 {Z : State} {a0 : Array Value} (hw : HwT Z a0) : (Jvm.Cond.initialized "com/example/grackle/grackle/cli/Inputs").before a0 Z = true := hw _ (List.mem_of_getElem? (i := 28) rfl)
theorem wd_42 {Z : State} {a0 : Array Value} (hw : HwT Z a0) : (Jvm.Cond.methodLink "com/example/grackle/grackle/cli/InputsSourcePinLaw" (26 : Nat) ({ cls := "java/lang/String", name := "equals", desc := "(Ljava/lang/Object;)Z" } : Jvm.MethodName)).before a0 Z = true := hw _ (List.mem_of_getElem? (i := 42) rfl)
theorem d_jdk_52_method_21_0 : decode jdk_52_method_21_code 0 = .ok (.iconst 0, 1) := by decide +kernel
theorem d_jdk_52_method_21_1 : decode jdk_52_method_21_code 1 = .ok (.istore 5, 2) := by decide +kernel
theorem d_jdk_52_method_21_3 : decode jdk_52_method_21_code 3 = .ok (.iload 5, 2) := by decide +kernel
theorem d_jdk_52_method_21_5 : decode jdk_52_method_21_code 5 = .ok (.iload 4, 2) := by decide +kernel
theorem d_jdk_52_method_21_7 : decode jdk_52_method_21_code 7 = .ok (.if_icmp .ge 37, 3) := by decide +kernel
theorem d_jdk_52_method_21_10 : decode jdk_52_method_21_code 10 = .ok (.aload_n 0, 1) := by decide +kernel
theorem d_jdk_52_method_21_11 : decode jdk_52_method_21_code 11 = .ok (.iload_n 1, 1) := by decide +kernel
theorem d_jdk_52_method_21_12 : decode jdk_52_method_21_code 12 = .ok (.caload, 1) := by decide +kernel
theorem d_jdk_52_method_21_13 : decode jdk_52_method_21_code 13 = .ok (.istore 6, 2) := by decide +kernel
theorem d_jdk_52_method_21_15 : decode jdk_52_method_21_code 15 = .ok (.iload 6, 2) := by decide +kernel
theorem d_jdk_52_method_21_17 : decode jdk_52_method_21_code 17 = .ok (.sipush 255, 3) := by decide +kernel
theorem d_jdk_52_method_21_20 : decode jdk_52_method_21_code 20 = .ok (.if_icmp .le 6, 3) := by decide +kernel
theorem d_jdk_52_method_21_26 : decode jdk_52_method_21_code 26 = .ok (.aload_n 2, 1) := by decide +kernel
theorem d_jdk_52_method_21_27 : decode jdk_52_method_21_code 27 = .ok (.iload_n 3, 1) := by decide +kernel
theorem d_jdk_52_method_21_28 : decode jdk_52_method_21_code 28 = .ok (.iload 6, 2) := by decide +kernel
theorem d_jdk_52_method_21_30 : decode jdk_52_method_21_code 30 = .ok (.i2b, 1) := by decide +kernel
theorem d_jdk_52_method_21_31 : decode jdk_52_method_21_code 31 = .ok (.bastore, 1) := by decide +kernel
theorem d_jdk_52_method_21_32 : decode jdk_52_method_21_code 32 = .ok (.iinc 1 1, 3) := by decide +kernel
theorem d_jdk_52_method_21_35 : decode jdk_52_method_21_code 35 = .ok (.iinc 3 1, 3) := by decide +kernel
theorem d_jdk_52_method_21_38 : decode jdk_52_method_21_code 38 = .ok (.iinc 5 1, 3) := by decide +kernel
theorem d_jdk_52_method_21_41 : decode jdk_52_method_21_code 41 = .ok (.goto (-38), 3) := by decide +kernel
theorem d_jdk_52_method_21_44 : decode jdk_52_method_21_code 44 = .ok (.iload 4, 2) := by decide +kernel
theorem d_jdk_52_method_21_46 : decode jdk_52_method_21_code 46 = .ok (.ireturn, 1) := by decide +kernel
theorem pn_4 : plainName "java/lang/StringUTF16" = true := by first | (simp [plainName, overriddenIn]; done) | decide +kernel
theorem d_jdk_52_method_16_0 : decode jdk_52_method_16_code 0 = .ok (.iload_n 2, 1) := by decide +kernel
theorem d_jdk_52_method_16_1 : decode jdk_52_method_16_code 1 = .ok (.newarray .byte, 2) := by decide +kernel
theorem d_jdk_52_method_16_3 : decode jdk_52_method_16_code 3 = .ok (.astore_n 3, 1) := by decide +kernel
theorem d_jdk_52_method_16_4 : decode jdk_52_method_16_code 4 = .ok (.aload_n 0, 1) := by decide +kernel
theorem d_jdk_52_method_16_5 : decode jdk_52_method_16_code 5 = .ok (.iload_n 1, 1) := by decide +kernel
theorem d_jdk_52_method_16_6 : decode jdk_52_method_16_code 6 = .ok (.aload_n 3, 1) := by decide +kernel
theorem d_jdk_52_method_16_7 : decode jdk_52_method_16_code 7 = .ok (.iconst 0, 1) := by decide +kernel
theorem d_jdk_52_method_16_8 : decode jdk_52_method_16_code 8 = .ok (.iload_n 2, 1) := by decide +kernel
theorem d_jdk_52_method_16_9 : decode jdk_52_method_16_code 9 = .ok (.invokestatic 115, 3) := by decide +kernel
theorem wd_47 {Z : State} {a0 : Array Value} (hw : HwT Z a0) : (Jvm.Cond.methodLink "java/lang/StringUTF16" (115 : Nat) ({ cls := "java/lang/StringUTF16", name := "compress", desc := "([CI[BII)I" } : Jvm.MethodName)).before a0 Z = true := hw _ (List.mem_of_getElem? (i := 47) rfl)
theorem wd_49 {Z : State} {a0 : Array Value} (hw : HwT Z a0) : (Jvm.Cond.code ({ cls := "java/lang/StringUTF16", name := "compress", desc := "([CI[BII)I" } : Jvm.MethodName) jdk_52_method_21_code (7 : Nat) (Option.some Jvm.ClassFile.FieldType.int)).before a0 Z = true := hw _ (List.mem_of_getElem? (i := 49) rfl)
theorem pd_6 : parseMethodDescriptor "([CI[BII)I" = some ⟨[(.array .char), .int, (.array .byte), .int, .int], some .int⟩ := by decide +kernel
theorem wd_48 {Z : State} {a0 : Array Value} (hw : HwT Z a0) : (Jvm.Cond.static ({ cls := "java/lang/StringUTF16", name := "compress", desc := "([CI[BII)I" } : Jvm.MethodName)).before a0 Z = true := hw _ (List.mem_of_getElem? (i := 48) rfl)
theorem wd_45 {Z : State} {a0 : Array Value} (hw : HwT Z a0) : (Jvm.Cond.initialized "java/lang/StringUTF16").before a0 Z = true := hw _ (List.mem_of_getElem? (i := 45) rfl)
theorem d_jdk_52_method_16_12 : decode jdk_52_method_16_code 12 = .ok (.istore 4, 2) := by decide +kernel
theorem d_jdk_52_method_16_14 : decode jdk_52_method_16_code 14 = .ok (.iload 4, 2) := by decide +kernel
theorem d_jdk_52_method_16_16 : decode jdk_52_method_16_code 16 = .ok (.iload_n 2, 1) := by decide +kernel
theorem d_jdk_52_method_16_17 : decode jdk_52_method_16_code 17 = .ok (.if_icmp .eq 40, 3) := by decide +kernel
theorem d_jdk_52_method_16_57 : decode jdk_52_method_16_code 57 = .ok (.aload_n 3, 1) := by decide +kernel
theorem d_jdk_52_method_16_58 : decode jdk_52_method_16_code 58 = .ok (.areturn, 1) := by decide +kernel
theorem d_jdk_52_method_15_0 : decode jdk_52_method_15_code 0 = .ok (.iload_n 1, 1) := by decide +kernel
theorem d_jdk_52_method_15_1 : decode jdk_52_method_15_code 1 = .ok (.aload_n 0, 1) := by decide +kernel
theorem d_jdk_52_method_15_2 : decode jdk_52_method_15_code 2 = .ok (.arraylength, 1) := by decide +kernel
theorem d_jdk_52_method_15_3 : decode jdk_52_method_15_code 3 = .ok (.isub, 1) := by decide +kernel
theorem d_jdk_52_method_15_4 : decode jdk_52_method_15_code 4 = .ok (.bipush 31, 2) := by decide +kernel
theorem d_jdk_52_method_15_6 : decode jdk_52_method_15_code 6 = .ok (.iushr, 1) := by decide +kernel
theorem d_jdk_52_method_15_7 : decode jdk_52_method_15_code 7 = .ok (.i2b, 1) := by decide +kernel
theorem d_jdk_52_method_15_8 : decode jdk_52_method_15_code 8 = .ok (.ireturn, 1) := by decide +kernel
theorem d_jdk_42_method_149_27 : decode jdk_42_method_149_code 27 = .ok (.getstatic 38, 3) := by decide +kernel
theorem d_jdk_42_method_149_30 : decode jdk_42_method_149_code 30 = .ok (.ifCond .eq 28, 3) := by decide +kernel
theorem d_jdk_42_method_149_33 : decode jdk_42_method_149_code 33 = .ok (.aload_n 1, 1) := by decide +kernel
theorem d_jdk_42_method_149_34 : decode jdk_42_method_149_code 34 = .ok (.iload_n 2, 1) := by decide +kernel
theorem d_jdk_42_method_149_35 : decode jdk_42_method_149_code 35 = .ok (.iload_n 3, 1) := by decide +kernel
theorem d_jdk_42_method_149_36 : decode jdk_42_method_149_code 36 = .ok (.invokestatic 177, 3) := by decide +kernel
theorem wd_43 {Z : State} {a0 : Array Value} (hw : HwT Z a0) : (Jvm.Cond.methodLink "java/lang/String" (177 : Nat) ({ cls := "java/lang/StringUTF16", name := "compress", desc := "([CII)[B" } : Jvm.MethodName)).before a0 Z = true := hw _ (List.mem_of_getElem? (i := 43) rfl)
theorem wd_46 {Z : State} {a0 : Array Value} (hw : HwT Z a0) : (Jvm.Cond.code ({ cls := "java/lang/StringUTF16", name := "compress", desc := "([CII)[B" } : Jvm.MethodName) jdk_52_method_16_code (6 : Nat) (Option.some (Jvm.ClassFile.FieldType.array Jvm.ClassFile.FieldType.byte))).before a0 Z = true := hw _ (List.mem_of_getElem? (i := 46) rfl)
theorem pd_7 : parseMethodDescriptor "([CII)[B" = some ⟨[(.array .char), .int, .int], some (.array .byte)⟩ := by decide +kernel
theorem wd_44 {Z : State} {a0 : Array Value} (hw : HwT Z a0) : (Jvm.Cond.static ({ cls := "java/lang/StringUTF16", name := "compress", desc := "([CII)[B" } : Jvm.MethodName)).before a0 Z = true := hw _ (List.mem_of_getElem? (i := 44) rfl)
theorem d_jdk_42_method_149_39 : decode jdk_42_method_149_code 39 = .ok (.astore 5, 2) := by decide +kernel
theorem d_jdk_42_method_149_41 : decode jdk_42_method_149_code 41 = .ok (.aload_n 0, 1) := by decide +kernel
theorem d_jdk_42_method_149_42 : decode jdk_42_method_149_code 42 = .ok (.aload 5, 2) := by decide +kernel
theorem d_jdk_42_method_149_44 : decode jdk_42_method_149_code 44 = .ok (.iload_n 3, 1) := by decide +kernel
theorem d_jdk_42_method_149_45 : decode jdk_42_method_149_code 45 = .ok (.invokestatic 47, 3) := by decide +kernel
theorem wd_50 {Z : State} {a0 : Array Value} (hw : HwT Z a0) : (Jvm.Cond.methodLink "java/lang/String" (47 : Nat) ({ cls := "java/lang/StringUTF16", name := "coderFromArrayLen", desc := "([BI)B" } : Jvm.MethodName)).before a0 Z = true := hw _ (List.mem_of_getElem? (i := 50) rfl)
theorem wd_52 {Z : State} {a0 : Array Value} (hw : HwT Z a0) : (Jvm.Cond.code ({ cls := "java/lang/StringUTF16", name := "coderFromArrayLen", desc := "([BI)B" } : Jvm.MethodName) jdk_52_method_15_code (2 : Nat) (Option.some Jvm.ClassFile.FieldType.byte)).before a0 Z = true := hw _ (List.mem_of_getElem? (i := 52) rfl)
theorem pd_8 : parseMethodDescriptor "([BI)B" = some ⟨[(.array .byte), .int], some .byte⟩ := by decide +kernel
theorem wd_51 {Z : State} {a0 : Array Value} (hw : HwT Z a0) : (Jvm.Cond.static ({ cls := "java/lang/StringUTF16", name := "coderFromArrayLen", desc := "([BI)B" } : Jvm.MethodName)).before a0 Z = true := hw _ (List.mem_of_getElem? (i := 51) rfl)
theorem d_jdk_42_method_149_48 : decode jdk_42_method_149_code 48 = .ok (.putfield 15, 3) := by decide +kernel
theorem d_jdk_42_method_149_51 : decode jdk_42_method_149_code 51 = .ok (.aload_n 0, 1) := by decide +kernel
theorem d_jdk_42_method_149_52 : decode jdk_42_method_149_code 52 = .ok (.aload 5, 2) := by decide +kernel
theorem d_jdk_42_method_149_54 : decode jdk_42_method_149_code 54 = .ok (.putfield 9, 3) := by decide +kernel
theorem d_jdk_42_method_149_57 : decode jdk_42_method_149_code 57 = .ok (.return_, 1) := by decide +kernel
theorem own_wS {Z : State} {a0 : Array Value} (hw : HwT Z a0) : ∀ a ∈ Bundle.stringAtoms, a.before a0 Z = true := by
  intro a ha
  simp only [Bundle.stringAtoms, List.mem_cons, List.not_mem_nil, or_false] at ha
  rcases ha with rfl | rfl | rfl | rfl | rfl | rfl | rfl
  · exact (wd_7 hw)
  · exact (wd_6 hw)
  · exact (wd_19 hw)
  · exact (wd_20 hw)
  · exact (wd_21 hw)
  · exact (wd_22 hw)
  · exact (wd_23 hw)
theorem own_EL {Z : State} {a0 : Array Value} (hw : HwT Z a0) : EW Z a0 consts_1 := (EW.cons (wd_30 hw) (by decide) (EW.cons (wd_53 hw) (by decide) (EW.cons (wd_54 hw) (by decide) (EW.cons (wd_18 hw) (by decide) EW.nil))))
def ChOk (c : Int32) : Prop := 0 ≤ c.toInt ∧ c.toInt ≤ 255
theorem ch_nar {c : Int32} (H : ChOk c) : nar .char c = c := by
  have h := c_i2c c; unfold ChOk at H
  exact Int32.toInt_inj.mp (show (c.toUInt32.toUInt16.toUInt32.toInt32).toInt = c.toInt by omega)
theorem ch_le {c : Int32} (H : ChOk c) : ¬ (255 : Int32) < c := by
  unfold ChOk at H
  rw [Int32.lt_iff_toInt_lt, show (255 : Int32).toInt = 255 from rfl]; omega
theorem nar_b (c : Int32) : nar .byte (c.toInt8.toInt32) = c.toInt8.toInt32 := by
  have h := c_i2b c; have h2 := c_i2b c.toInt8.toInt32
  exact Int32.toInt_inj.mp (show (c.toInt8.toInt32.toInt8.toInt32).toInt = c.toInt8.toInt32.toInt by omega)
theorem ch_byte {c d : Int32} (H : ChOk c) (H' : ChOk d) (h : c.toInt8.toInt32 = d.toInt8.toInt32) : c = d := by
  have h1 := c_i2b c; have h2 := c_i2b d; unfold ChOk at H H'; rw [h] at h1
  exact Int32.toInt_inj.mp (by omega)
theorem own_m (x : Int32) : ChOk (x &&& 255) := by
  have h := c_mask x 255 8 (by decide) (by decide)
  unfold ChOk; omega
theorem own_c45 : ChOk 45 := by unfold ChOk; decide
theorem own_45 {c : Int32} (H : ChOk c) (h : c.toInt8.toInt32 = 45) : c = 45 := ch_byte H own_c45 h
theorem own_n45 {c : Int32} (h : ¬ c.toInt8.toInt32 = 45) : ¬ c = 45 := fun q => h (by rw [q]; rfl)
theorem own_and3 (n : Int32) : n &&& 3 = 0 ∨ n &&& 3 = 1 ∨ n &&& 3 = 2 ∨ n &&& 3 = 3 := by
  have h := c_mask n 3 2 (by decide) (by decide)
  have : (n &&& 3).toInt = 0 ∨ (n &&& 3).toInt = 1 ∨ (n &&& 3).toInt = 2 ∨ (n &&& 3).toInt = 3 := by omega
  rcases this with q | q | q | q
  · exact Or.inl (Int32.toInt_inj.mp (q.trans rfl))
  · exact Or.inr (Or.inl (Int32.toInt_inj.mp (q.trans rfl)))
  · exact Or.inr (Or.inr (Or.inl (Int32.toInt_inj.mp (q.trans rfl))))
  · exact Or.inr (Or.inr (Or.inr (Int32.toInt_inj.mp (q.trans rfl))))
theorem c_pick (l : Launch) (Z : State) (a0 : Array Value) (hw : HwT Z a0) (x : Int32) (h : Heap) (n0 : Nat) (hn : n0 ≤ h.size) : Con l Z (⟨"com/example/grackle/grackle/cli/InputsSourcePinLaw", "pick", "(I)C"⟩ : MethodName) method_2_code 1 (some .char) ({ frames := 0, cells := 0, slots := 0, locals := 0 } : Room) #[(.int x)] h n0 (fun v h' => ∃ c : Int32, v = some (.int c) ∧ ChOk c ∧ h' = h) := by
  refine ConG.of_W (Ls := #[.val (.int x)]) (plainFor_of_name pn_0) hn (fun m => by first | (simp [entryFrame, mkF, argsToLocals, Value.category]; done) | rfl) ?_
  refine W.iloadN 1 d_method_2_0 rfl rfl ?_
  refine W.iconst 2 d_method_2_1 rfl (1 : Int32) rfl ?_
  refine W.iand 3 d_method_2_2 rfl (x &&& (1 : Int32)) rfl ?_
  refine W.if_ne 11 6 d_method_2_3 rfl rfl ?_ ?_
  · intro hc1001
    refine W.iloadN 12 d_method_2_11 rfl rfl ?_
    refine W.iconst 13 d_method_2_12 rfl (1 : Int32) rfl ?_
    refine W.iushr 14 d_method_2_13 rfl ((x.toUInt32 >>> ((1 : Int32) &&& 31).toUInt32).toInt32) rfl ?_
    refine W.sipush 17 d_method_2_14 rfl (255 : Int32) rfl ?_
    refine W.iand 18 d_method_2_17 rfl (((x.toUInt32 >>> ((1 : Int32) &&& 31).toUInt32).toInt32) &&& (255 : Int32)) rfl ?_
    refine W.i2c 19 d_method_2_18 rfl (((x.toUInt32 >>> ((1 : Int32) &&& 31).toUInt32).toInt32) &&& (255 : Int32)) (ch_nar (own_m ((x.toUInt32 >>> ((1 : Int32) &&& 31).toUInt32).toInt32))) ?_
    exact W.ireturnN (t := .char) d_method_2_19 rfl (by simp) (((x.toUInt32 >>> ((1 : Int32) &&& 31).toUInt32).toInt32) &&& (255 : Int32)) (ch_nar (own_m ((x.toUInt32 >>> ((1 : Int32) &&& 31).toUInt32).toInt32))) ⟨_, rfl, own_m _, rfl⟩ (by decide) (by decide)
  · intro hc1001
    refine W.bipush 8 d_method_2_6 rfl (45 : Int32) rfl ?_
    refine W.goto 19 d_method_2_8 rfl ?_
    exact W.ireturnN (t := .char) d_method_2_19 rfl (by simp) (45 : Int32) rfl ⟨_, rfl, own_c45, rfl⟩ (by decide) (by decide)
theorem c_leqd0 (l : Launch) (Z : State) (a0 : Array Value) (hw : HwT Z a0) (b c : Addr) (h : Heap) (n0 : Nat) (hn : n0 ≤ h.size) (A0 : Ary Z h b .byte []) (A1 : Ary Z h c .byte [(.int (45 : Int32))]) : Con l Z (⟨"java/lang/StringLatin1", "equals", "([B[B)Z"⟩ : MethodName) jdk_43_method_13_code 3 (some .boolean) ({ frames := 0, cells := 0, slots := 0, locals := 0 } : Room) #[(.ref b), (.ref c)] h n0 (fun v h' => v = some (.int 0) ∧ h' = h) := by
  refine ConG.of_W (Ls := #[.val (.ref b), .val (.ref c), .unset]) (plainFor_of_name pn_1) hn (fun m => by first | (simp [entryFrame, mkF, argsToLocals, Value.category]; done) | rfl) ?_
  refine W.aloadN 1 d_jdk_43_method_13_0 rfl rfl rfl ?_
  refine W.arraylength 2 d_jdk_43_method_13_1 rfl A0 (0 : Int32) rfl ?_
  refine W.aloadN 3 d_jdk_43_method_13_2 rfl rfl rfl ?_
  refine W.arraylength 4 d_jdk_43_method_13_3 rfl A1 (1 : Int32) rfl ?_
  refine W.icmp_ne 34 7 d_jdk_43_method_13_4 rfl rfl (fun _ => ?_) (fun hc => absurd hc (by decide))
  refine W.iconst 35 d_jdk_43_method_13_34 rfl (0 : Int32) rfl ?_
  exact W.ireturnN (t := .boolean) d_jdk_43_method_13_35 rfl (by simp) (0 : Int32) rfl ⟨rfl, rfl⟩ (by decide) (by decide)
theorem c_eqd0 (l : Launch) (Z : State) (a0 : Array Value) (hw : HwT Z a0) (s t b c : Addr) (kc : Int32) (hkc : ¬ kc = 0) (h : Heap) (n0 : Nat) (hn : n0 ≤ h.size) (nst : ¬ (Value.ref s) = (.ref t)) (FS : Sta Z h "java/lang/String" "COMPACT_STRINGS" "Z" (.int kc)) (E0 : Exa Z h s "java/lang/String") (C0 : Fld Z h s "java/lang/String" "coder" "B" (.int 0)) (V0 : Fld Z h s "java/lang/String" "value" "[B" (.ref b)) (A0 : Ary Z h b .byte []) (E1 : Exa Z h t "java/lang/String") (C1 : Fld Z h t "java/lang/String" "coder" "B" (.int 0)) (V1 : Fld Z h t "java/lang/String" "value" "[B" (.ref c)) (A1 : Ary Z h c .byte [(.int (45 : Int32))]) : Con l Z (⟨"java/lang/String", "equals", "(Ljava/lang/Object;)Z"⟩ : MethodName) jdk_42_method_66_code 3 (some .boolean) ({ frames := 1, cells := 0, slots := 0, locals := 20 } : Room) #[(.ref s), (.ref t)] h n0 (fun v h' => v = some (.int 0) ∧ h' = h) := by
  refine ConG.of_W (Ls := #[.val (.ref s), .val (.ref t), .unset]) (plainFor_of_name pn_2) hn (fun m => by first | (simp [entryFrame, mkF, argsToLocals, Value.category]; done) | rfl) ?_
  refine W.aloadN 1 d_jdk_42_method_66_0 rfl rfl rfl ?_
  refine W.aloadN 2 d_jdk_42_method_66_1 rfl rfl rfl ?_
  refine W.acmp_ne 7 5 d_jdk_42_method_66_2 rfl rfl rfl rfl (fun _ => ?_) (fun hc => absurd hc nst)
  refine W.aloadN 8 d_jdk_42_method_66_7 rfl rfl rfl ?_
  refine W.instYes 11 d_jdk_42_method_66_8 rfl (wd_36 hw) (Ins.self E1) ?_
  refine W.if_eq 54 14 d_jdk_42_method_66_11 rfl rfl (fun hc => absurd hc (by decide)) (fun _ => ?_)
  refine W.aloadN 15 d_jdk_42_method_66_14 rfl rfl rfl ?_
  refine W.checkcast 18 d_jdk_42_method_66_15 rfl (wd_36 hw) (Ins.self E1) ?_
  refine W.astoreN 19 d_jdk_42_method_66_18 rfl rfl #[.val (.ref s), .val (.ref t), .val (.ref t)] rfl ?_
  refine W.getstatic 22 d_jdk_42_method_66_19 rfl (host := "") (Or.inl (wd_37 hw)) Via.refl FS ?_
  refine W.if_eq 36 25 d_jdk_42_method_66_22 rfl rfl (fun hc => absurd hc hkc) (fun _ => ?_)
  refine W.aloadN 26 d_jdk_42_method_66_25 rfl rfl rfl ?_
  refine W.getfield 29 d_jdk_42_method_66_26 rfl (host := "") (Or.inl (wd_25 hw)) Via.refl C0 ?_
  refine W.aloadN 30 d_jdk_42_method_66_29 rfl rfl rfl ?_
  refine W.getfield 33 d_jdk_42_method_66_30 rfl (host := "") (Or.inl (wd_25 hw)) Via.refl C1 ?_
  refine W.icmp_ne 54 36 d_jdk_42_method_66_33 rfl rfl (fun hc => absurd (by decide) hc) (fun _ => ?_)
  refine W.aloadN 37 d_jdk_42_method_66_36 rfl rfl rfl ?_
  refine W.getfield 40 d_jdk_42_method_66_37 rfl (host := "") (Or.inl (wd_24 hw)) Via.refl V0 ?_
  refine W.aloadN 41 d_jdk_42_method_66_40 rfl rfl rfl ?_
  refine W.getfield 44 d_jdk_42_method_66_41 rfl (host := "") (Or.inl (wd_24 hw)) Via.refl V1 ?_
  refine W.callS (rest := []) (argsL := [(.ref b), (.ref c)]) 47 d_jdk_42_method_66_44 rfl (fun hn => c_leqd0 l Z a0 hw b c  _ n0 hn A0 A1) (wd_38 hw) (wd_39 hw) (wd_40 hw) (wd_41 hw) (by decide) pd_0 rfl rfl rfl (by decide) 0 (Nat.le_of_ble_eq_true rfl) (by decide) (by decide) (by decide) ?_
  rintro v1002 h1002 ⟨rfl, rfl⟩
  show WG _ _ _ _ _ _ _ _ _ _ _ _ 0 0 47 #[.val (.ref s), .val (.ref t), .val (.ref t)] [(.int (0 : Int32))]
  refine W.if_eq 54 50 d_jdk_42_method_66_47 rfl rfl (fun _ => ?_) (fun hc => absurd (by decide) hc)
  refine W.iconst 55 d_jdk_42_method_66_54 rfl (0 : Int32) rfl ?_
  exact W.ireturnN (t := .boolean) d_jdk_42_method_66_55 rfl (by simp) (0 : Int32) rfl ⟨rfl, rfl⟩ (by decide) (by decide)
theorem c_leqd1 (l : Launch) (Z : State) (a0 : Array Value) (hw : HwT Z a0) (b c : Addr) (x0 : Int32) (h : Heap) (n0 : Nat) (hn : n0 ≤ h.size) (A0 : Ary Z h b .byte [(.int x0)]) (A1 : Ary Z h c .byte [(.int (45 : Int32))]) : Con l Z (⟨"java/lang/StringLatin1", "equals", "([B[B)Z"⟩ : MethodName) jdk_43_method_13_code 3 (some .boolean) ({ frames := 0, cells := 0, slots := 0, locals := 0 } : Room) #[(.ref b), (.ref c)] h n0 (fun v h' => (x0 = (45 : Int32) ∧ v = some (.int 1) ∧ h' = h) ∨ (¬ x0 = (45 : Int32) ∧ v = some (.int 0) ∧ h' = h)) := by
  refine ConG.of_W (Ls := #[.val (.ref b), .val (.ref c), .unset]) (plainFor_of_name pn_1) hn (fun m => by first | (simp [entryFrame, mkF, argsToLocals, Value.category]; done) | rfl) ?_
  refine W.aloadN 1 d_jdk_43_method_13_0 rfl rfl rfl ?_
  refine W.arraylength 2 d_jdk_43_method_13_1 rfl A0 (1 : Int32) rfl ?_
  refine W.aloadN 3 d_jdk_43_method_13_2 rfl rfl rfl ?_
  refine W.arraylength 4 d_jdk_43_method_13_3 rfl A1 (1 : Int32) rfl ?_
  refine W.icmp_ne 34 7 d_jdk_43_method_13_4 rfl rfl (fun hc => absurd (by decide) hc) (fun _ => ?_)
  refine W.iconst 8 d_jdk_43_method_13_7 rfl (0 : Int32) rfl ?_
  refine W.istoreN 9 d_jdk_43_method_13_8 rfl #[.val (.ref b), .val (.ref c), .val (.int (0 : Int32))] rfl ?_
  refine W.iloadN 10 d_jdk_43_method_13_9 rfl rfl ?_
  refine W.aloadN 11 d_jdk_43_method_13_10 rfl rfl rfl ?_
  refine W.arraylength 12 d_jdk_43_method_13_11 rfl A0 (1 : Int32) rfl ?_
  refine W.icmp_ge 32 15 d_jdk_43_method_13_12 rfl rfl (fun hc => absurd (by decide) hc) (fun _ => ?_)
  refine W.aloadN 16 d_jdk_43_method_13_15 rfl rfl rfl ?_
  refine W.iloadN 17 d_jdk_43_method_13_16 rfl rfl ?_
  refine W.baload 18 d_jdk_43_method_13_17 rfl A0 0 (by decide) (by decide) (.int x0) rfl ?_
  refine W.aloadN 19 d_jdk_43_method_13_18 rfl rfl rfl ?_
  refine W.iloadN 20 d_jdk_43_method_13_19 rfl rfl ?_
  refine W.baload 21 d_jdk_43_method_13_20 rfl A1 0 (by decide) (by decide) (.int (45 : Int32)) rfl ?_
  refine W.icmp_eq 26 24 d_jdk_43_method_13_21 rfl rfl ?_ ?_
  · intro hc1003
    refine W.iinc 29 d_jdk_43_method_13_26 rfl rfl (1 : Int32) (by decide) #[.val (.ref b), .val (.ref c), .val (.int (1 : Int32))] rfl ?_
    refine W.goto 9 d_jdk_43_method_13_29 rfl ?_
    refine W.iloadN 10 d_jdk_43_method_13_9 rfl rfl ?_
    refine W.aloadN 11 d_jdk_43_method_13_10 rfl rfl rfl ?_
    refine W.arraylength 12 d_jdk_43_method_13_11 rfl A0 (1 : Int32) rfl ?_
    refine W.icmp_ge 32 15 d_jdk_43_method_13_12 rfl rfl (fun _ => ?_) (fun hc => absurd hc (by decide))
    refine W.iconst 33 d_jdk_43_method_13_32 rfl (1 : Int32) rfl ?_
    exact W.ireturnN (t := .boolean) d_jdk_43_method_13_33 rfl (by simp) (1 : Int32) rfl (Or.inl ⟨hc1003, rfl, rfl⟩) (by decide) (by decide)
  · intro hc1003
    refine W.iconst 25 d_jdk_43_method_13_24 rfl (0 : Int32) rfl ?_
    exact W.ireturnN (t := .boolean) d_jdk_43_method_13_25 rfl (by simp) (0 : Int32) rfl (Or.inr ⟨hc1003, rfl, rfl⟩) (by decide) (by decide)
theorem c_eqd1 (l : Launch) (Z : State) (a0 : Array Value) (hw : HwT Z a0) (s t b c : Addr) (kc : Int32) (hkc : ¬ kc = 0) (x0 : Int32) (h : Heap) (n0 : Nat) (hn : n0 ≤ h.size) (nst : ¬ (Value.ref s) = (.ref t)) (FS : Sta Z h "java/lang/String" "COMPACT_STRINGS" "Z" (.int kc)) (E0 : Exa Z h s "java/lang/String") (C0 : Fld Z h s "java/lang/String" "coder" "B" (.int 0)) (V0 : Fld Z h s "java/lang/String" "value" "[B" (.ref b)) (A0 : Ary Z h b .byte [(.int x0)]) (E1 : Exa Z h t "java/lang/String") (C1 : Fld Z h t "java/lang/String" "coder" "B" (.int 0)) (V1 : Fld Z h t "java/lang/String" "value" "[B" (.ref c)) (A1 : Ary Z h c .byte [(.int (45 : Int32))]) : Con l Z (⟨"java/lang/String", "equals", "(Ljava/lang/Object;)Z"⟩ : MethodName) jdk_42_method_66_code 3 (some .boolean) ({ frames := 1, cells := 0, slots := 0, locals := 20 } : Room) #[(.ref s), (.ref t)] h n0 (fun v h' => (x0 = (45 : Int32) ∧ v = some (.int 1) ∧ h' = h) ∨ (¬ x0 = (45 : Int32) ∧ v = some (.int 0) ∧ h' = h)) := by
  refine ConG.of_W (Ls := #[.val (.ref s), .val (.ref t), .unset]) (plainFor_of_name pn_2) hn (fun m => by first | (simp [entryFrame, mkF, argsToLocals, Value.category]; done) | rfl) ?_
  refine W.aloadN 1 d_jdk_42_method_66_0 rfl rfl rfl ?_
  refine W.aloadN 2 d_jdk_42_method_66_1 rfl rfl rfl ?_
  refine W.acmp_ne 7 5 d_jdk_42_method_66_2 rfl rfl rfl rfl (fun _ => ?_) (fun hc => absurd hc nst)
  refine W.aloadN 8 d_jdk_42_method_66_7 rfl rfl rfl ?_
  refine W.instYes 11 d_jdk_42_method_66_8 rfl (wd_36 hw) (Ins.self E1) ?_
  refine W.if_eq 54 14 d_jdk_42_method_66_11 rfl rfl (fun hc => absurd hc (by decide)) (fun _ => ?_)
  refine W.aloadN 15 d_jdk_42_method_66_14 rfl rfl rfl ?_
  refine W.checkcast 18 d_jdk_42_method_66_15 rfl (wd_36 hw) (Ins.self E1) ?_
  refine W.astoreN 19 d_jdk_42_method_66_18 rfl rfl #[.val (.ref s), .val (.ref t), .val (.ref t)] rfl ?_
  refine W.getstatic 22 d_jdk_42_method_66_19 rfl (host := "") (Or.inl (wd_37 hw)) Via.refl FS ?_
  refine W.if_eq 36 25 d_jdk_42_method_66_22 rfl rfl (fun hc => absurd hc hkc) (fun _ => ?_)
  refine W.aloadN 26 d_jdk_42_method_66_25 rfl rfl rfl ?_
  refine W.getfield 29 d_jdk_42_method_66_26 rfl (host := "") (Or.inl (wd_25 hw)) Via.refl C0 ?_
  refine W.aloadN 30 d_jdk_42_method_66_29 rfl rfl rfl ?_
  refine W.getfield 33 d_jdk_42_method_66_30 rfl (host := "") (Or.inl (wd_25 hw)) Via.refl C1 ?_
  refine W.icmp_ne 54 36 d_jdk_42_method_66_33 rfl rfl (fun hc => absurd (by decide) hc) (fun _ => ?_)
  refine W.aloadN 37 d_jdk_42_method_66_36 rfl rfl rfl ?_
  refine W.getfield 40 d_jdk_42_method_66_37 rfl (host := "") (Or.inl (wd_24 hw)) Via.refl V0 ?_
  refine W.aloadN 41 d_jdk_42_method_66_40 rfl rfl rfl ?_
  refine W.getfield 44 d_jdk_42_method_66_41 rfl (host := "") (Or.inl (wd_24 hw)) Via.refl V1 ?_
  refine W.callS (rest := []) (argsL := [(.ref b), (.ref c)]) 47 d_jdk_42_method_66_44 rfl (fun hn => c_leqd1 l Z a0 hw b c x0 _ n0 hn A0 A1) (wd_38 hw) (wd_39 hw) (wd_40 hw) (wd_41 hw) (by decide) pd_0 rfl rfl rfl (by decide) 0 (Nat.le_of_ble_eq_true rfl) (by decide) (by decide) (by decide) ?_
  rintro v1004 h1004 (⟨q1004, rfl, rfl⟩ | ⟨q1004, rfl, rfl⟩)
  · show WG _ _ _ _ _ _ _ _ _ _ _ _ 0 0 47 #[.val (.ref s), .val (.ref t), .val (.ref t)] [(.int (1 : Int32))]
    refine W.if_eq 54 50 d_jdk_42_method_66_47 rfl rfl (fun hc => absurd hc (by decide)) (fun _ => ?_)
    refine W.iconst 51 d_jdk_42_method_66_50 rfl (1 : Int32) rfl ?_
    refine W.goto 55 d_jdk_42_method_66_51 rfl ?_
    exact W.ireturnN (t := .boolean) d_jdk_42_method_66_55 rfl (by simp) (1 : Int32) rfl (Or.inl ⟨q1004, rfl, rfl⟩) (by decide) (by decide)
  · show WG _ _ _ _ _ _ _ _ _ _ _ _ 0 0 47 #[.val (.ref s), .val (.ref t), .val (.ref t)] [(.int (0 : Int32))]
    refine W.if_eq 54 50 d_jdk_42_method_66_47 rfl rfl (fun _ => ?_) (fun hc => absurd (by decide) hc)
    refine W.iconst 55 d_jdk_42_method_66_54 rfl (0 : Int32) rfl ?_
    exact W.ireturnN (t := .boolean) d_jdk_42_method_66_55 rfl (by simp) (0 : Int32) rfl (Or.inr ⟨q1004, rfl, rfl⟩) (by decide) (by decide)
theorem c_leqd2 (l : Launch) (Z : State) (a0 : Array Value) (hw : HwT Z a0) (b c : Addr) (x0 x1 : Int32) (h : Heap) (n0 : Nat) (hn : n0 ≤ h.size) (A0 : Ary Z h b .byte [(.int x0), (.int x1)]) (A1 : Ary Z h c .byte [(.int (45 : Int32))]) : Con l Z (⟨"java/lang/StringLatin1", "equals", "([B[B)Z"⟩ : MethodName) jdk_43_method_13_code 3 (some .boolean) ({ frames := 0, cells := 0, slots := 0, locals := 0 } : Room) #[(.ref b), (.ref c)] h n0 (fun v h' => v = some (.int 0) ∧ h' = h) := by
  refine ConG.of_W (Ls := #[.val (.ref b), .val (.ref c), .unset]) (plainFor_of_name pn_1) hn (fun m => by first | (simp [entryFrame, mkF, argsToLocals, Value.category]; done) | rfl) ?_
  refine W.aloadN 1 d_jdk_43_method_13_0 rfl rfl rfl ?_
  refine W.arraylength 2 d_jdk_43_method_13_1 rfl A0 (2 : Int32) rfl ?_
  refine W.aloadN 3 d_jdk_43_method_13_2 rfl rfl rfl ?_
  refine W.arraylength 4 d_jdk_43_method_13_3 rfl A1 (1 : Int32) rfl ?_
  refine W.icmp_ne 34 7 d_jdk_43_method_13_4 rfl rfl (fun _ => ?_) (fun hc => absurd hc (by decide))
  refine W.iconst 35 d_jdk_43_method_13_34 rfl (0 : Int32) rfl ?_
  exact W.ireturnN (t := .boolean) d_jdk_43_method_13_35 rfl (by simp) (0 : Int32) rfl ⟨rfl, rfl⟩ (by decide) (by decide)
theorem c_eqd2 (l : Launch) (Z : State) (a0 : Array Value) (hw : HwT Z a0) (s t b c : Addr) (kc : Int32) (hkc : ¬ kc = 0) (x0 x1 : Int32) (h : Heap) (n0 : Nat) (hn : n0 ≤ h.size) (nst : ¬ (Value.ref s) = (.ref t)) (FS : Sta Z h "java/lang/String" "COMPACT_STRINGS" "Z" (.int kc)) (E0 : Exa Z h s "java/lang/String") (C0 : Fld Z h s "java/lang/String" "coder" "B" (.int 0)) (V0 : Fld Z h s "java/lang/String" "value" "[B" (.ref b)) (A0 : Ary Z h b .byte [(.int x0), (.int x1)]) (E1 : Exa Z h t "java/lang/String") (C1 : Fld Z h t "java/lang/String" "coder" "B" (.int 0)) (V1 : Fld Z h t "java/lang/String" "value" "[B" (.ref c)) (A1 : Ary Z h c .byte [(.int (45 : Int32))]) : Con l Z (⟨"java/lang/String", "equals", "(Ljava/lang/Object;)Z"⟩ : MethodName) jdk_42_method_66_code 3 (some .boolean) ({ frames := 1, cells := 0, slots := 0, locals := 20 } : Room) #[(.ref s), (.ref t)] h n0 (fun v h' => v = some (.int 0) ∧ h' = h) := by
  refine ConG.of_W (Ls := #[.val (.ref s), .val (.ref t), .unset]) (plainFor_of_name pn_2) hn (fun m => by first | (simp [entryFrame, mkF, argsToLocals, Value.category]; done) | rfl) ?_
  refine W.aloadN 1 d_jdk_42_method_66_0 rfl rfl rfl ?_
  refine W.aloadN 2 d_jdk_42_method_66_1 rfl rfl rfl ?_
  refine W.acmp_ne 7 5 d_jdk_42_method_66_2 rfl rfl rfl rfl (fun _ => ?_) (fun hc => absurd hc nst)
  refine W.aloadN 8 d_jdk_42_method_66_7 rfl rfl rfl ?_
  refine W.instYes 11 d_jdk_42_method_66_8 rfl (wd_36 hw) (Ins.self E1) ?_
  refine W.if_eq 54 14 d_jdk_42_method_66_11 rfl rfl (fun hc => absurd hc (by decide)) (fun _ => ?_)
  refine W.aloadN 15 d_jdk_42_method_66_14 rfl rfl rfl ?_
  refine W.checkcast 18 d_jdk_42_method_66_15 rfl (wd_36 hw) (Ins.self E1) ?_
  refine W.astoreN 19 d_jdk_42_method_66_18 rfl rfl #[.val (.ref s), .val (.ref t), .val (.ref t)] rfl ?_
  refine W.getstatic 22 d_jdk_42_method_66_19 rfl (host := "") (Or.inl (wd_37 hw)) Via.refl FS ?_
  refine W.if_eq 36 25 d_jdk_42_method_66_22 rfl rfl (fun hc => absurd hc hkc) (fun _ => ?_)
  refine W.aloadN 26 d_jdk_42_method_66_25 rfl rfl rfl ?_
  refine W.getfield 29 d_jdk_42_method_66_26 rfl (host := "") (Or.inl (wd_25 hw)) Via.refl C0 ?_
  refine W.aloadN 30 d_jdk_42_method_66_29 rfl rfl rfl ?_
  refine W.getfield 33 d_jdk_42_method_66_30 rfl (host := "") (Or.inl (wd_25 hw)) Via.refl C1 ?_
  refine W.icmp_ne 54 36 d_jdk_42_method_66_33 rfl rfl (fun hc => absurd (by decide) hc) (fun _ => ?_)
  refine W.aloadN 37 d_jdk_42_method_66_36 rfl rfl rfl ?_
  refine W.getfield 40 d_jdk_42_method_66_37 rfl (host := "") (Or.inl (wd_24 hw)) Via.refl V0 ?_
  refine W.aloadN 41 d_jdk_42_method_66_40 rfl rfl rfl ?_
  refine W.getfield 44 d_jdk_42_method_66_41 rfl (host := "") (Or.inl (wd_24 hw)) Via.refl V1 ?_
  refine W.callS (rest := []) (argsL := [(.ref b), (.ref c)]) 47 d_jdk_42_method_66_44 rfl (fun hn => c_leqd2 l Z a0 hw b c x0 x1 _ n0 hn A0 A1) (wd_38 hw) (wd_39 hw) (wd_40 hw) (wd_41 hw) (by decide) pd_0 rfl rfl rfl (by decide) 0 (Nat.le_of_ble_eq_true rfl) (by decide) (by decide) (by decide) ?_
  rintro v1005 h1005 ⟨rfl, rfl⟩
  show WG _ _ _ _ _ _ _ _ _ _ _ _ 0 0 47 #[.val (.ref s), .val (.ref t), .val (.ref t)] [(.int (0 : Int32))]
  refine W.if_eq 54 50 d_jdk_42_method_66_47 rfl rfl (fun _ => ?_) (fun hc => absurd (by decide) hc)
  refine W.iconst 55 d_jdk_42_method_66_54 rfl (0 : Int32) rfl ?_
  exact W.ireturnN (t := .boolean) d_jdk_42_method_66_55 rfl (by simp) (0 : Int32) rfl ⟨rfl, rfl⟩ (by decide) (by decide)
theorem c_leqd3 (l : Launch) (Z : State) (a0 : Array Value) (hw : HwT Z a0) (b c : Addr) (x0 x1 x2 : Int32) (h : Heap) (n0 : Nat) (hn : n0 ≤ h.size) (A0 : Ary Z h b .byte [(.int x0), (.int x1), (.int x2)]) (A1 : Ary Z h c .byte [(.int (45 : Int32))]) : Con l Z (⟨"java/lang/StringLatin1", "equals", "([B[B)Z"⟩ : MethodName) jdk_43_method_13_code 3 (some .boolean) ({ frames := 0, cells := 0, slots := 0, locals := 0 } : Room) #[(.ref b), (.ref c)] h n0 (fun v h' => v = some (.int 0) ∧ h' = h) := by
  refine ConG.of_W (Ls := #[.val (.ref b), .val (.ref c), .unset]) (plainFor_of_name pn_1) hn (fun m => by first | (simp [entryFrame, mkF, argsToLocals, Value.category]; done) | rfl) ?_
  refine W.aloadN 1 d_jdk_43_method_13_0 rfl rfl rfl ?_
  refine W.arraylength 2 d_jdk_43_method_13_1 rfl A0 (3 : Int32) rfl ?_
  refine W.aloadN 3 d_jdk_43_method_13_2 rfl rfl rfl ?_
  refine W.arraylength 4 d_jdk_43_method_13_3 rfl A1 (1 : Int32) rfl ?_
  refine W.icmp_ne 34 7 d_jdk_43_method_13_4 rfl rfl (fun _ => ?_) (fun hc => absurd hc (by decide))
  refine W.iconst 35 d_jdk_43_method_13_34 rfl (0 : Int32) rfl ?_
  exact W.ireturnN (t := .boolean) d_jdk_43_method_13_35 rfl (by simp) (0 : Int32) rfl ⟨rfl, rfl⟩ (by decide) (by decide)
theorem c_eqd3 (l : Launch) (Z : State) (a0 : Array Value) (hw : HwT Z a0) (s t b c : Addr) (kc : Int32) (hkc : ¬ kc = 0) (x0 x1 x2 : Int32) (h : Heap) (n0 : Nat) (hn : n0 ≤ h.size) (nst : ¬ (Value.ref s) = (.ref t)) (FS : Sta Z h "java/lang/String" "COMPACT_STRINGS" "Z" (.int kc)) (E0 : Exa Z h s "java/lang/String") (C0 : Fld Z h s "java/lang/String" "coder" "B" (.int 0)) (V0 : Fld Z h s "java/lang/String" "value" "[B" (.ref b)) (A0 : Ary Z h b .byte [(.int x0), (.int x1), (.int x2)]) (E1 : Exa Z h t "java/lang/String") (C1 : Fld Z h t "java/lang/String" "coder" "B" (.int 0)) (V1 : Fld Z h t "java/lang/String" "value" "[B" (.ref c)) (A1 : Ary Z h c .byte [(.int (45 : Int32))]) : Con l Z (⟨"java/lang/String", "equals", "(Ljava/lang/Object;)Z"⟩ : MethodName) jdk_42_method_66_code 3 (some .boolean) ({ frames := 1, cells := 0, slots := 0, locals := 20 } : Room) #[(.ref s), (.ref t)] h n0 (fun v h' => v = some (.int 0) ∧ h' = h) := by
  refine ConG.of_W (Ls := #[.val (.ref s), .val (.ref t), .unset]) (plainFor_of_name pn_2) hn (fun m => by first | (simp [entryFrame, mkF, argsToLocals, Value.category]; done) | rfl) ?_
  refine W.aloadN 1 d_jdk_42_method_66_0 rfl rfl rfl ?_
  refine W.aloadN 2 d_jdk_42_method_66_1 rfl rfl rfl ?_
  refine W.acmp_ne 7 5 d_jdk_42_method_66_2 rfl rfl rfl rfl (fun _ => ?_) (fun hc => absurd hc nst)
  refine W.aloadN 8 d_jdk_42_method_66_7 rfl rfl rfl ?_
  refine W.instYes 11 d_jdk_42_method_66_8 rfl (wd_36 hw) (Ins.self E1) ?_
  refine W.if_eq 54 14 d_jdk_42_method_66_11 rfl rfl (fun hc => absurd hc (by decide)) (fun _ => ?_)
  refine W.aloadN 15 d_jdk_42_method_66_14 rfl rfl rfl ?_
  refine W.checkcast 18 d_jdk_42_method_66_15 rfl (wd_36 hw) (Ins.self E1) ?_
  refine W.astoreN 19 d_jdk_42_method_66_18 rfl rfl #[.val (.ref s), .val (.ref t), .val (.ref t)] rfl ?_
  refine W.getstatic 22 d_jdk_42_method_66_19 rfl (host := "") (Or.inl (wd_37 hw)) Via.refl FS ?_
  refine W.if_eq 36 25 d_jdk_42_method_66_22 rfl rfl (fun hc => absurd hc hkc) (fun _ => ?_)
  refine W.aloadN 26 d_jdk_42_method_66_25 rfl rfl rfl ?_
  refine W.getfield 29 d_jdk_42_method_66_26 rfl (host := "") (Or.inl (wd_25 hw)) Via.refl C0 ?_
  refine W.aloadN 30 d_jdk_42_method_66_29 rfl rfl rfl ?_
  refine W.getfield 33 d_jdk_42_method_66_30 rfl (host := "") (Or.inl (wd_25 hw)) Via.refl C1 ?_
  refine W.icmp_ne 54 36 d_jdk_42_method_66_33 rfl rfl (fun hc => absurd (by decide) hc) (fun _ => ?_)
  refine W.aloadN 37 d_jdk_42_method_66_36 rfl rfl rfl ?_
  refine W.getfield 40 d_jdk_42_method_66_37 rfl (host := "") (Or.inl (wd_24 hw)) Via.refl V0 ?_
  refine W.aloadN 41 d_jdk_42_method_66_40 rfl rfl rfl ?_
  refine W.getfield 44 d_jdk_42_method_66_41 rfl (host := "") (Or.inl (wd_24 hw)) Via.refl V1 ?_
  refine W.callS (rest := []) (argsL := [(.ref b), (.ref c)]) 47 d_jdk_42_method_66_44 rfl (fun hn => c_leqd3 l Z a0 hw b c x0 x1 x2 _ n0 hn A0 A1) (wd_38 hw) (wd_39 hw) (wd_40 hw) (wd_41 hw) (by decide) pd_0 rfl rfl rfl (by decide) 0 (Nat.le_of_ble_eq_true rfl) (by decide) (by decide) (by decide) ?_
  rintro v1006 h1006 ⟨rfl, rfl⟩
  show WG _ _ _ _ _ _ _ _ _ _ _ _ 0 0 47 #[.val (.ref s), .val (.ref t), .val (.ref t)] [(.int (0 : Int32))]
  refine W.if_eq 54 50 d_jdk_42_method_66_47 rfl rfl (fun _ => ?_) (fun hc => absurd (by decide) hc)
  refine W.iconst 55 d_jdk_42_method_66_54 rfl (0 : Int32) rfl ?_
  exact W.ireturnN (t := .boolean) d_jdk_42_method_66_55 rfl (by simp) (0 : Int32) rfl ⟨rfl, rfl⟩ (by decide) (by decide)
theorem c_leqsi (l : Launch) (Z : State) (a0 : Array Value) (hw : HwT Z a0) (b c : Addr) (h : Heap) (n0 : Nat) (hn : n0 ≤ h.size) (A0 : Ary Z h b .byte [(.int (115 : Int32)), (.int (116 : Int32)), (.int (97 : Int32)), (.int (110 : Int32)), (.int (100 : Int32)), (.int (97 : Int32)), (.int (114 : Int32)), (.int (100 : Int32)), (.int (32 : Int32)), (.int (105 : Int32)), (.int (110 : Int32)), (.int (112 : Int32)), (.int (117 : Int32)), (.int (116 : Int32))]) (A1 : Ary Z h c .byte [(.int (115 : Int32)), (.int (116 : Int32)), (.int (97 : Int32)), (.int (110 : Int32)), (.int (100 : Int32)), (.int (97 : Int32)), (.int (114 : Int32)), (.int (100 : Int32)), (.int (32 : Int32)), (.int (105 : Int32)), (.int (110 : Int32)), (.int (112 : Int32)), (.int (117 : Int32)), (.int (116 : Int32))]) : Con l Z (⟨"java/lang/StringLatin1", "equals", "([B[B)Z"⟩ : MethodName) jdk_43_method_13_code 3 (some .boolean) ({ frames := 0, cells := 0, slots := 0, locals := 0 } : Room) #[(.ref b), (.ref c)] h n0 (fun v h' => v = some (.int 1) ∧ h' = h) := by
  refine ConG.of_W (Ls := #[.val (.ref b), .val (.ref c), .unset]) (plainFor_of_name pn_1) hn (fun m => by first | (simp [entryFrame, mkF, argsToLocals, Value.category]; done) | rfl) ?_
  refine W.aloadN 1 d_jdk_43_method_13_0 rfl rfl rfl ?_
  refine W.arraylength 2 d_jdk_43_method_13_1 rfl A0 (14 : Int32) rfl ?_
  refine W.aloadN 3 d_jdk_43_method_13_2 rfl rfl rfl ?_
  refine W.arraylength 4 d_jdk_43_method_13_3 rfl A1 (14 : Int32) rfl ?_
  refine W.icmp_ne 34 7 d_jdk_43_method_13_4 rfl rfl (fun hc => absurd (by decide) hc) (fun _ => ?_)
  refine W.iconst 8 d_jdk_43_method_13_7 rfl (0 : Int32) rfl ?_
  refine W.istoreN 9 d_jdk_43_method_13_8 rfl #[.val (.ref b), .val (.ref c), .val (.int (0 : Int32))] rfl ?_
  refine W.iloadN 10 d_jdk_43_method_13_9 rfl rfl ?_
  refine W.aloadN 11 d_jdk_43_method_13_10 rfl rfl rfl ?_
  refine W.arraylength 12 d_jdk_43_method_13_11 rfl A0 (14 : Int32) rfl ?_
  refine W.icmp_ge 32 15 d_jdk_43_method_13_12 rfl rfl (fun hc => absurd (by decide) hc) (fun _ => ?_)
  refine W.aloadN 16 d_jdk_43_method_13_15 rfl rfl rfl ?_
  refine W.iloadN 17 d_jdk_43_method_13_16 rfl rfl ?_
  refine W.baload 18 d_jdk_43_method_13_17 rfl A0 0 (by decide) (by decide) (.int (115 : Int32)) rfl ?_
  refine W.aloadN 19 d_jdk_43_method_13_18 rfl rfl rfl ?_
  refine W.iloadN 20 d_jdk_43_method_13_19 rfl rfl ?_
  refine W.baload 21 d_jdk_43_method_13_20 rfl A1 0 (by decide) (by decide) (.int (115 : Int32)) rfl ?_
  refine W.icmp_eq 26 24 d_jdk_43_method_13_21 rfl rfl (fun _ => ?_) (fun hc => absurd (by decide) hc)
  refine W.iinc 29 d_jdk_43_method_13_26 rfl rfl (1 : Int32) (by decide) #[.val (.ref b), .val (.ref c), .val (.int (1 : Int32))] rfl ?_
  refine W.goto 9 d_jdk_43_method_13_29 rfl ?_
  refine W.iloadN 10 d_jdk_43_method_13_9 rfl rfl ?_
  refine W.aloadN 11 d_jdk_43_method_13_10 rfl rfl rfl ?_
  refine W.arraylength 12 d_jdk_43_method_13_11 rfl A0 (14 : Int32) rfl ?_
  refine W.icmp_ge 32 15 d_jdk_43_method_13_12 rfl rfl (fun hc => absurd (by decide) hc) (fun _ => ?_)
  refine W.aloadN 16 d_jdk_43_method_13_15 rfl rfl rfl ?_
  refine W.iloadN 17 d_jdk_43_method_13_16 rfl rfl ?_
  refine W.baload 18 d_jdk_43_method_13_17 rfl A0 1 (by decide) (by decide) (.int (116 : Int32)) rfl ?_
  refine W.aloadN 19 d_jdk_43_method_13_18 rfl rfl rfl ?_
  refine W.iloadN 20 d_jdk_43_method_13_19 rfl rfl ?_
  refine W.baload 21 d_jdk_43_method_13_20 rfl A1 1 (by decide) (by decide) (.int (116 : Int32)) rfl ?_
  refine W.icmp_eq 26 24 d_jdk_43_method_13_21 rfl rfl (fun _ => ?_) (fun hc => absurd (by decide) hc)
  refine W.iinc 29 d_jdk_43_method_13_26 rfl rfl (2 : Int32) (by decide) #[.val (.ref b), .val (.ref c), .val (.int (2 : Int32))] rfl ?_
  refine W.goto 9 d_jdk_43_method_13_29 rfl ?_
  refine W.iloadN 10 d_jdk_43_method_13_9 rfl rfl ?_
  refine W.aloadN 11 d_jdk_43_method_13_10 rfl rfl rfl ?_
  refine W.arraylength 12 d_jdk_43_method_13_11 rfl A0 (14 : Int32) rfl ?_
  refine W.icmp_ge 32 15 d_jdk_43_method_13_12 rfl rfl (fun hc => absurd (by decide) hc) (fun _ => ?_)
  refine W.aloadN 16 d_jdk_43_method_13_15 rfl rfl rfl ?_
  refine W.iloadN 17 d_jdk_43_method_13_16 rfl rfl ?_
  refine W.baload 18 d_jdk_43_method_13_17 rfl A0 2 (by decide) (by decide) (.int (97 : Int32)) rfl ?_
  refine W.aloadN 19 d_jdk_43_method_13_18 rfl rfl rfl ?_
  refine W.iloadN 20 d_jdk_43_method_13_19 rfl rfl ?_
  refine W.baload 21 d_jdk_43_method_13_20 rfl A1 2 (by decide) (by decide) (.int (97 : Int32)) rfl ?_
  refine W.icmp_eq 26 24 d_jdk_43_method_13_21 rfl rfl (fun _ => ?_) (fun hc => absurd (by decide) hc)
  refine W.iinc 29 d_jdk_43_method_13_26 rfl rfl (3 : Int32) (by decide) #[.val (.ref b), .val (.ref c), .val (.int (3 : Int32))] rfl ?_
  refine W.goto 9 d_jdk_43_method_13_29 rfl ?_
  refine W.iloadN 10 d_jdk_43_method_13_9 rfl rfl ?_
  refine W.aloadN 11 d_jdk_43_method_13_10 rfl rfl rfl ?_
  refine W.arraylength 12 d_jdk_43_method_13_11 rfl A0 (14 : Int32) rfl ?_
  refine W.icmp_ge 32 15 d_jdk_43_method_13_12 rfl rfl (fun hc => absurd (by decide) hc) (fun _ => ?_)
  refine W.aloadN 16 d_jdk_43_method_13_15 rfl rfl rfl ?_
  refine W.iloadN 17 d_jdk_43_method_13_16 rfl rfl ?_
  refine W.baload 18 d_jdk_43_method_13_17 rfl A0 3 (by decide) (by decide) (.int (110 : Int32)) rfl ?_
  refine W.aloadN 19 d_jdk_43_method_13_18 rfl rfl rfl ?_
  refine W.iloadN 20 d_jdk_43_method_13_19 rfl rfl ?_
  refine W.baload 21 d_jdk_43_method_13_20 rfl A1 3 (by decide) (by decide) (.int (110 : Int32)) rfl ?_
  refine W.icmp_eq 26 24 d_jdk_43_method_13_21 rfl rfl (fun _ => ?_) (fun hc => absurd (by decide) hc)
  refine W.iinc 29 d_jdk_43_method_13_26 rfl rfl (4 : Int32) (by decide) #[.val (.ref b), .val (.ref c), .val (.int (4 : Int32))] rfl ?_
  refine W.goto 9 d_jdk_43_method_13_29 rfl ?_
  refine W.iloadN 10 d_jdk_43_method_13_9 rfl rfl ?_
  refine W.aloadN 11 d_jdk_43_method_13_10 rfl rfl rfl ?_
  refine W.arraylength 12 d_jdk_43_method_13_11 rfl A0 (14 : Int32) rfl ?_
  refine W.icmp_ge 32 15 d_jdk_43_method_13_12 rfl rfl (fun hc => absurd (by decide) hc) (fun _ => ?_)
  refine W.aloadN 16 d_jdk_43_method_13_15 rfl rfl rfl ?_
  refine W.iloadN 17 d_jdk_43_method_13_16 rfl rfl ?_
  refine W.baload 18 d_jdk_43_method_13_17 rfl A0 4 (by decide) (by decide) (.int (100 : Int32)) rfl ?_
  refine W.aloadN 19 d_jdk_43_method_13_18 rfl rfl rfl ?_
  refine W.iloadN 20 d_jdk_43_method_13_19 rfl rfl ?_
  refine W.baload 21 d_jdk_43_method_13_20 rfl A1 4 (by decide) (by decide) (.int (100 : Int32)) rfl ?_
  refine W.icmp_eq 26 24 d_jdk_43_method_13_21 rfl rfl (fun _ => ?_) (fun hc => absurd (by decide) hc)
  refine W.iinc 29 d_jdk_43_method_13_26 rfl rfl (5 : Int32) (by decide) #[.val (.ref b), .val (.ref c), .val (.int (5 : Int32))] rfl ?_
  refine W.goto 9 d_jdk_43_method_13_29 rfl ?_
  refine W.iloadN 10 d_jdk_43_method_13_9 rfl rfl ?_
  refine W.aloadN 11 d_jdk_43_method_13_10 rfl rfl rfl ?_
  refine W.arraylength 12 d_jdk_43_method_13_11 rfl A0 (14 : Int32) rfl ?_
  refine W.icmp_ge 32 15 d_jdk_43_method_13_12 rfl rfl (fun hc => absurd (by decide) hc) (fun _ => ?_)
  refine W.aloadN 16 d_jdk_43_method_13_15 rfl rfl rfl ?_
  refine W.iloadN 17 d_jdk_43_method_13_16 rfl rfl ?_
  refine W.baload 18 d_jdk_43_method_13_17 rfl A0 5 (by decide) (by decide) (.int (97 : Int32)) rfl ?_
  refine W.aloadN 19 d_jdk_43_method_13_18 rfl rfl rfl ?_
  refine W.iloadN 20 d_jdk_43_method_13_19 rfl rfl ?_
  refine W.baload 21 d_jdk_43_method_13_20 rfl A1 5 (by decide) (by decide) (.int (97 : Int32)) rfl ?_
  refine W.icmp_eq 26 24 d_jdk_43_method_13_21 rfl rfl (fun _ => ?_) (fun hc => absurd (by decide) hc)
  refine W.iinc 29 d_jdk_43_method_13_26 rfl rfl (6 : Int32) (by decide) #[.val (.ref b), .val (.ref c), .val (.int (6 : Int32))] rfl ?_
  refine W.goto 9 d_jdk_43_method_13_29 rfl ?_
  refine W.iloadN 10 d_jdk_43_method_13_9 rfl rfl ?_
  refine W.aloadN 11 d_jdk_43_method_13_10 rfl rfl rfl ?_
  refine W.arraylength 12 d_jdk_43_method_13_11 rfl A0 (14 : Int32) rfl ?_
  refine W.icmp_ge 32 15 d_jdk_43_method_13_12 rfl rfl (fun hc => absurd (by decide) hc) (fun _ => ?_)
  refine W.aloadN 16 d_jdk_43_method_13_15 rfl rfl rfl ?_
  refine W.iloadN 17 d_jdk_43_method_13_16 rfl rfl ?_
  refine W.baload 18 d_jdk_43_method_13_17 rfl A0 6 (by decide) (by decide) (.int (114 : Int32)) rfl ?_
  refine W.aloadN 19 d_jdk_43_method_13_18 rfl rfl rfl ?_
  refine W.iloadN 20 d_jdk_43_method_13_19 rfl rfl ?_
  refine W.baload 21 d_jdk_43_method_13_20 rfl A1 6 (by decide) (by decide) (.int (114 : Int32)) rfl ?_
  refine W.icmp_eq 26 24 d_jdk_43_method_13_21 rfl rfl (fun _ => ?_) (fun hc => absurd (by decide) hc)
  refine W.iinc 29 d_jdk_43_method_13_26 rfl rfl (7 : Int32) (by decide) #[.val (.ref b), .val (.ref c), .val (.int (7 : Int32))] rfl ?_
  refine W.goto 9 d_jdk_43_method_13_29 rfl ?_
  refine W.iloadN 10 d_jdk_43_method_13_9 rfl rfl ?_
  refine W.aloadN 11 d_jdk_43_method_13_10 rfl rfl rfl ?_
  refine W.arraylength 12 d_jdk_43_method_13_11 rfl A0 (14 : Int32) rfl ?_
  refine W.icmp_ge 32 15 d_jdk_43_method_13_12 rfl rfl (fun hc => absurd (by decide) hc) (fun _ => ?_)
  refine W.aloadN 16 d_jdk_43_method_13_15 rfl rfl rfl ?_
  refine W.iloadN 17 d_jdk_43_method_13_16 rfl rfl ?_
  refine W.baload 18 d_jdk_43_method_13_17 rfl A0 7 (by decide) (by decide) (.int (100 : Int32)) rfl ?_
  refine W.aloadN 19 d_jdk_43_method_13_18 rfl rfl rfl ?_
  refine W.iloadN 20 d_jdk_43_method_13_19 rfl rfl ?_
  refine W.baload 21 d_jdk_43_method_13_20 rfl A1 7 (by decide) (by decide) (.int (100 : Int32)) rfl ?_
  refine W.icmp_eq 26 24 d_jdk_43_method_13_21 rfl rfl (fun _ => ?_) (fun hc => absurd (by decide) hc)
  refine W.iinc 29 d_jdk_43_method_13_26 rfl rfl (8 : Int32) (by decide) #[.val (.ref b), .val (.ref c), .val (.int (8 : Int32))] rfl ?_
  refine W.goto 9 d_jdk_43_method_13_29 rfl ?_
  refine W.iloadN 10 d_jdk_43_method_13_9 rfl rfl ?_
  refine W.aloadN 11 d_jdk_43_method_13_10 rfl rfl rfl ?_
  refine W.arraylength 12 d_jdk_43_method_13_11 rfl A0 (14 : Int32) rfl ?_
  refine W.icmp_ge 32 15 d_jdk_43_method_13_12 rfl rfl (fun hc => absurd (by decide) hc) (fun _ => ?_)
  refine W.aloadN 16 d_jdk_43_method_13_15 rfl rfl rfl ?_
  refine W.iloadN 17 d_jdk_43_method_13_16 rfl rfl ?_
  refine W.baload 18 d_jdk_43_method_13_17 rfl A0 8 (by decide) (by decide) (.int (32 : Int32)) rfl ?_
  refine W.aloadN 19 d_jdk_43_method_13_18 rfl rfl rfl ?_
  refine W.iloadN 20 d_jdk_43_method_13_19 rfl rfl ?_
  refine W.baload 21 d_jdk_43_method_13_20 rfl A1 8 (by decide) (by decide) (.int (32 : Int32)) rfl ?_
  refine W.icmp_eq 26 24 d_jdk_43_method_13_21 rfl rfl (fun _ => ?_) (fun hc => absurd (by decide) hc)
  refine W.iinc 29 d_jdk_43_method_13_26 rfl rfl (9 : Int32) (by decide) #[.val (.ref b), .val (.ref c), .val (.int (9 : Int32))] rfl ?_
  refine W.goto 9 d_jdk_43_method_13_29 rfl ?_
  refine W.iloadN 10 d_jdk_43_method_13_9 rfl rfl ?_
  refine W.aloadN 11 d_jdk_43_method_13_10 rfl rfl rfl ?_
  refine W.arraylength 12 d_jdk_43_method_13_11 rfl A0 (14 : Int32) rfl ?_
  refine W.icmp_ge 32 15 d_jdk_43_method_13_12 rfl rfl (fun hc => absurd (by decide) hc) (fun _ => ?_)
  refine W.aloadN 16 d_jdk_43_method_13_15 rfl rfl rfl ?_
  refine W.iloadN 17 d_jdk_43_method_13_16 rfl rfl ?_
  refine W.baload 18 d_jdk_43_method_13_17 rfl A0 9 (by decide) (by decide) (.int (105 : Int32)) rfl ?_
  refine W.aloadN 19 d_jdk_43_method_13_18 rfl rfl rfl ?_
  refine W.iloadN 20 d_jdk_43_method_13_19 rfl rfl ?_
  refine W.baload 21 d_jdk_43_method_13_20 rfl A1 9 (by decide) (by decide) (.int (105 : Int32)) rfl ?_
  refine W.icmp_eq 26 24 d_jdk_43_method_13_21 rfl rfl (fun _ => ?_) (fun hc => absurd (by decide) hc)
  refine W.iinc 29 d_jdk_43_method_13_26 rfl rfl (10 : Int32) (by decide) #[.val (.ref b), .val (.ref c), .val (.int (10 : Int32))] rfl ?_
  refine W.goto 9 d_jdk_43_method_13_29 rfl ?_
  refine W.iloadN 10 d_jdk_43_method_13_9 rfl rfl ?_
  refine W.aloadN 11 d_jdk_43_method_13_10 rfl rfl rfl ?_
  refine W.arraylength 12 d_jdk_43_method_13_11 rfl A0 (14 : Int32) rfl ?_
  refine W.icmp_ge 32 15 d_jdk_43_method_13_12 rfl rfl (fun hc => absurd (by decide) hc) (fun _ => ?_)
  refine W.aloadN 16 d_jdk_43_method_13_15 rfl rfl rfl ?_
  refine W.iloadN 17 d_jdk_43_method_13_16 rfl rfl ?_
  refine W.baload 18 d_jdk_43_method_13_17 rfl A0 10 (by decide) (by decide) (.int (110 : Int32)) rfl ?_
  refine W.aloadN 19 d_jdk_43_method_13_18 rfl rfl rfl ?_
  refine W.iloadN 20 d_jdk_43_method_13_19 rfl rfl ?_
  refine W.baload 21 d_jdk_43_method_13_20 rfl A1 10 (by decide) (by decide) (.int (110 : Int32)) rfl ?_
  refine W.icmp_eq 26 24 d_jdk_43_method_13_21 rfl rfl (fun _ => ?_) (fun hc => absurd (by decide) hc)
  refine W.iinc 29 d_jdk_43_method_13_26 rfl rfl (11 : Int32) (by decide) #[.val (.ref b), .val (.ref c), .val (.int (11 : Int32))] rfl ?_
  refine W.goto 9 d_jdk_43_method_13_29 rfl ?_
  refine W.iloadN 10 d_jdk_43_method_13_9 rfl rfl ?_
  refine W.aloadN 11 d_jdk_43_method_13_10 rfl rfl rfl ?_
  refine W.arraylength 12 d_jdk_43_method_13_11 rfl A0 (14 : Int32) rfl ?_
  refine W.icmp_ge 32 15 d_jdk_43_method_13_12 rfl rfl (fun hc => absurd (by decide) hc) (fun _ => ?_)
  refine W.aloadN 16 d_jdk_43_method_13_15 rfl rfl rfl ?_
  refine W.iloadN 17 d_jdk_43_method_13_16 rfl rfl ?_
  refine W.baload 18 d_jdk_43_method_13_17 rfl A0 11 (by decide) (by decide) (.int (112 : Int32)) rfl ?_
  refine W.aloadN 19 d_jdk_43_method_13_18 rfl rfl rfl ?_
  refine W.iloadN 20 d_jdk_43_method_13_19 rfl rfl ?_
  refine W.baload 21 d_jdk_43_method_13_20 rfl A1 11 (by decide) (by decide) (.int (112 : Int32)) rfl ?_
  refine W.icmp_eq 26 24 d_jdk_43_method_13_21 rfl rfl (fun _ => ?_) (fun hc => absurd (by decide) hc)
  refine W.iinc 29 d_jdk_43_method_13_26 rfl rfl (12 : Int32) (by decide) #[.val (.ref b), .val (.ref c), .val (.int (12 : Int32))] rfl ?_
  refine W.goto 9 d_jdk_43_method_13_29 rfl ?_
  refine W.iloadN 10 d_jdk_43_method_13_9 rfl rfl ?_
  refine W.aloadN 11 d_jdk_43_method_13_10 rfl rfl rfl ?_
  refine W.arraylength 12 d_jdk_43_method_13_11 rfl A0 (14 : Int32) rfl ?_
  refine W.icmp_ge 32 15 d_jdk_43_method_13_12 rfl rfl (fun hc => absurd (by decide) hc) (fun _ => ?_)
  refine W.aloadN 16 d_jdk_43_method_13_15 rfl rfl rfl ?_
  refine W.iloadN 17 d_jdk_43_method_13_16 rfl rfl ?_
  refine W.baload 18 d_jdk_43_method_13_17 rfl A0 12 (by decide) (by decide) (.int (117 : Int32)) rfl ?_
  refine W.aloadN 19 d_jdk_43_method_13_18 rfl rfl rfl ?_
  refine W.iloadN 20 d_jdk_43_method_13_19 rfl rfl ?_
  refine W.baload 21 d_jdk_43_method_13_20 rfl A1 12 (by decide) (by decide) (.int (117 : Int32)) rfl ?_
  refine W.icmp_eq 26 24 d_jdk_43_method_13_21 rfl rfl (fun _ => ?_) (fun hc => absurd (by decide) hc)
  refine W.iinc 29 d_jdk_43_method_13_26 rfl rfl (13 : Int32) (by decide) #[.val (.ref b), .val (.ref c), .val (.int (13 : Int32))] rfl ?_
  refine W.goto 9 d_jdk_43_method_13_29 rfl ?_
  refine W.iloadN 10 d_jdk_43_method_13_9 rfl rfl ?_
  refine W.aloadN 11 d_jdk_43_method_13_10 rfl rfl rfl ?_
  refine W.arraylength 12 d_jdk_43_method_13_11 rfl A0 (14 : Int32) rfl ?_
  refine W.icmp_ge 32 15 d_jdk_43_method_13_12 rfl rfl (fun hc => absurd (by decide) hc) (fun _ => ?_)
  refine W.aloadN 16 d_jdk_43_method_13_15 rfl rfl rfl ?_
  refine W.iloadN 17 d_jdk_43_method_13_16 rfl rfl ?_
  refine W.baload 18 d_jdk_43_method_13_17 rfl A0 13 (by decide) (by decide) (.int (116 : Int32)) rfl ?_
  refine W.aloadN 19 d_jdk_43_method_13_18 rfl rfl rfl ?_
  refine W.iloadN 20 d_jdk_43_method_13_19 rfl rfl ?_
  refine W.baload 21 d_jdk_43_method_13_20 rfl A1 13 (by decide) (by decide) (.int (116 : Int32)) rfl ?_
  refine W.icmp_eq 26 24 d_jdk_43_method_13_21 rfl rfl (fun _ => ?_) (fun hc => absurd (by decide) hc)
  refine W.iinc 29 d_jdk_43_method_13_26 rfl rfl (14 : Int32) (by decide) #[.val (.ref b), .val (.ref c), .val (.int (14 : Int32))] rfl ?_
  refine W.goto 9 d_jdk_43_method_13_29 rfl ?_
  refine W.iloadN 10 d_jdk_43_method_13_9 rfl rfl ?_
  refine W.aloadN 11 d_jdk_43_method_13_10 rfl rfl rfl ?_
  refine W.arraylength 12 d_jdk_43_method_13_11 rfl A0 (14 : Int32) rfl ?_
  refine W.icmp_ge 32 15 d_jdk_43_method_13_12 rfl rfl (fun _ => ?_) (fun hc => absurd hc (by decide))
  refine W.iconst 33 d_jdk_43_method_13_32 rfl (1 : Int32) rfl ?_
  exact W.ireturnN (t := .boolean) d_jdk_43_method_13_33 rfl (by simp) (1 : Int32) rfl ⟨rfl, rfl⟩ (by decide) (by decide)
theorem c_eqsi (l : Launch) (Z : State) (a0 : Array Value) (hw : HwT Z a0) (s t b c : Addr) (kc : Int32) (hkc : ¬ kc = 0) (h : Heap) (n0 : Nat) (hn : n0 ≤ h.size) (FS : Sta Z h "java/lang/String" "COMPACT_STRINGS" "Z" (.int kc)) (E0 : Exa Z h s "java/lang/String") (C0 : Fld Z h s "java/lang/String" "coder" "B" (.int 0)) (V0 : Fld Z h s "java/lang/String" "value" "[B" (.ref b)) (A0 : Ary Z h b .byte [(.int (115 : Int32)), (.int (116 : Int32)), (.int (97 : Int32)), (.int (110 : Int32)), (.int (100 : Int32)), (.int (97 : Int32)), (.int (114 : Int32)), (.int (100 : Int32)), (.int (32 : Int32)), (.int (105 : Int32)), (.int (110 : Int32)), (.int (112 : Int32)), (.int (117 : Int32)), (.int (116 : Int32))]) (E1 : Exa Z h t "java/lang/String") (C1 : Fld Z h t "java/lang/String" "coder" "B" (.int 0)) (V1 : Fld Z h t "java/lang/String" "value" "[B" (.ref c)) (A1 : Ary Z h c .byte [(.int (115 : Int32)), (.int (116 : Int32)), (.int (97 : Int32)), (.int (110 : Int32)), (.int (100 : Int32)), (.int (97 : Int32)), (.int (114 : Int32)), (.int (100 : Int32)), (.int (32 : Int32)), (.int (105 : Int32)), (.int (110 : Int32)), (.int (112 : Int32)), (.int (117 : Int32)), (.int (116 : Int32))]) : Con l Z (⟨"java/lang/String", "equals", "(Ljava/lang/Object;)Z"⟩ : MethodName) jdk_42_method_66_code 3 (some .boolean) ({ frames := 1, cells := 0, slots := 0, locals := 20 } : Room) #[(.ref s), (.ref t)] h n0 (fun v h' => v = some (.int 1) ∧ h' = h) := by
  refine ConG.of_W (Ls := #[.val (.ref s), .val (.ref t), .unset]) (plainFor_of_name pn_2) hn (fun m => by first | (simp [entryFrame, mkF, argsToLocals, Value.category]; done) | rfl) ?_
  refine W.aloadN 1 d_jdk_42_method_66_0 rfl rfl rfl ?_
  refine W.aloadN 2 d_jdk_42_method_66_1 rfl rfl rfl ?_
  refine W.acmp_ne 7 5 d_jdk_42_method_66_2 rfl rfl rfl rfl ?_ ?_
  · intro hc1007
    refine W.aloadN 8 d_jdk_42_method_66_7 rfl rfl rfl ?_
    refine W.instYes 11 d_jdk_42_method_66_8 rfl (wd_36 hw) (Ins.self E1) ?_
    refine W.if_eq 54 14 d_jdk_42_method_66_11 rfl rfl (fun hc => absurd hc (by decide)) (fun _ => ?_)
    refine W.aloadN 15 d_jdk_42_method_66_14 rfl rfl rfl ?_
    refine W.checkcast 18 d_jdk_42_method_66_15 rfl (wd_36 hw) (Ins.self E1) ?_
    refine W.astoreN 19 d_jdk_42_method_66_18 rfl rfl #[.val (.ref s), .val (.ref t), .val (.ref t)] rfl ?_
    refine W.getstatic 22 d_jdk_42_method_66_19 rfl (host := "") (Or.inl (wd_37 hw)) Via.refl FS ?_
    refine W.if_eq 36 25 d_jdk_42_method_66_22 rfl rfl (fun hc => absurd hc hkc) (fun _ => ?_)
    refine W.aloadN 26 d_jdk_42_method_66_25 rfl rfl rfl ?_
    refine W.getfield 29 d_jdk_42_method_66_26 rfl (host := "") (Or.inl (wd_25 hw)) Via.refl C0 ?_
    refine W.aloadN 30 d_jdk_42_method_66_29 rfl rfl rfl ?_
    refine W.getfield 33 d_jdk_42_method_66_30 rfl (host := "") (Or.inl (wd_25 hw)) Via.refl C1 ?_
    refine W.icmp_ne 54 36 d_jdk_42_method_66_33 rfl rfl (fun hc => absurd (by decide) hc) (fun _ => ?_)
    refine W.aloadN 37 d_jdk_42_method_66_36 rfl rfl rfl ?_
    refine W.getfield 40 d_jdk_42_method_66_37 rfl (host := "") (Or.inl (wd_24 hw)) Via.refl V0 ?_
    refine W.aloadN 41 d_jdk_42_method_66_40 rfl rfl rfl ?_
    refine W.getfield 44 d_jdk_42_method_66_41 rfl (host := "") (Or.inl (wd_24 hw)) Via.refl V1 ?_
    refine W.callS (rest := []) (argsL := [(.ref b), (.ref c)]) 47 d_jdk_42_method_66_44 rfl (fun hn => c_leqsi l Z a0 hw b c  _ n0 hn A0 A1) (wd_38 hw) (wd_39 hw) (wd_40 hw) (wd_41 hw) (by decide) pd_0 rfl rfl rfl (by decide) 0 (Nat.le_of_ble_eq_true rfl) (by decide) (by decide) (by decide) ?_
    rintro v1008 h1008 ⟨rfl, rfl⟩
    show WG _ _ _ _ _ _ _ _ _ _ _ _ 0 0 47 #[.val (.ref s), .val (.ref t), .val (.ref t)] [(.int (1 : Int32))]
    refine W.if_eq 54 50 d_jdk_42_method_66_47 rfl rfl (fun hc => absurd hc (by decide)) (fun _ => ?_)
    refine W.iconst 51 d_jdk_42_method_66_50 rfl (1 : Int32) rfl ?_
    refine W.goto 55 d_jdk_42_method_66_51 rfl ?_
    exact W.ireturnN (t := .boolean) d_jdk_42_method_66_55 rfl (by simp) (1 : Int32) rfl ⟨rfl, rfl⟩ (by decide) (by decide)
  · intro hc1007
    refine W.iconst 6 d_jdk_42_method_66_5 rfl (1 : Int32) rfl ?_
    exact W.ireturnN (t := .boolean) d_jdk_42_method_66_6 rfl (by simp) (1 : Int32) rfl ⟨rfl, rfl⟩ (by decide) (by decide)
theorem c_eqs (l : Launch) (Z : State) (a0 : Array Value) (hw : HwT Z a0) (s : Addr) (h : Heap) (n0 : Nat) (hn : n0 ≤ h.size) : Con l Z (⟨"java/lang/String", "equals", "(Ljava/lang/Object;)Z"⟩ : MethodName) jdk_42_method_66_code 3 (some .boolean) ({ frames := 1, cells := 0, slots := 0, locals := 20 } : Room) #[(.ref s), (.ref s)] h n0 (fun v h' => v = some (.int 1) ∧ h' = h) := by
  refine ConG.of_W (Ls := #[.val (.ref s), .val (.ref s), .unset]) (plainFor_of_name pn_2) hn (fun m => by first | (simp [entryFrame, mkF, argsToLocals, Value.category]; done) | rfl) ?_
  refine W.aloadN 1 d_jdk_42_method_66_0 rfl rfl rfl ?_
  refine W.aloadN 2 d_jdk_42_method_66_1 rfl rfl rfl ?_
  refine W.acmp_ne 7 5 d_jdk_42_method_66_2 rfl rfl rfl rfl (fun hc => absurd rfl hc) (fun _ => ?_)
  refine W.iconst 6 d_jdk_42_method_66_5 rfl (1 : Int32) rfl ?_
  exact W.ireturnN (t := .boolean) d_jdk_42_method_66_6 rfl (by simp) (1 : Int32) rfl ⟨rfl, rfl⟩ (by decide) (by decide)
theorem c_src0 (l : Launch) (Z : State) (a0 : Array Value) (hw : HwT Z a0) (s b : Addr) (kc : Int32) (hkc : ¬ kc = 0) (h : Heap) (n0 : Nat) (hn : n0 ≤ h.size) (FS : Sta Z h "java/lang/String" "COMPACT_STRINGS" "Z" (.int kc)) (E0 : Exa Z h s "java/lang/String") (C0 : Fld Z h s "java/lang/String" "coder" "B" (.int 0)) (V0 : Fld Z h s "java/lang/String" "value" "[B" (.ref b)) (A0 : Ary Z h b .byte []) : ConX Z consts_1 [s] [] l (⟨"com/example/grackle/grackle/cli/Inputs", "source", "(Ljava/lang/String;)Ljava/lang/String;"⟩ : MethodName) prog_2_method_4_code 1 (some (.object "java/lang/String")) ({ frames := 2, cells := 4, slots := 68, locals := 40 } : Room) #[(.ref s)] h n0 (fun v h' => v = some (.ref s) ∧ Keep h h' []) := by
  refine ConX.of_W (Ls := #[.val (.ref s)]) (plainFor_of_name pn_3) hn (fun m => by first | (simp [entryFrame, mkF, argsToLocals, Value.category]; done) | rfl) ?_
  have hv0 := HV.here (Z := Z) (EL := consts_1) (h := h) (S := [s])
  refine W.aloadN 1 d_prog_2_method_4_0 rfl rfl rfl ?_
  refine W.ldcX 3 d_prog_2_method_4_1 rfl (wd_30 hw) (own_wS hw) (own_EL hw) (List.mem_of_getElem? (i := 0) rfl) hv0 (allS E0.lt all0) [(.int (45 : Int32))] ⟨by decide, rfl⟩ (by decide) 4 (by decide) (by decide) (by decide) (by decide) ?_
  intro h1009 la1009 lb1009 X1009 K1009 E1009 C1009 V1009 A1009 N1009
  have kc1010 := Keep.trans (ws := []) (Keep.refl _ []) K1009 all0
  have hv1009 := HV.here (Z := Z) (EL := consts_1) (h := h1009) (S := [s])
  show WG _ _ _ _ _ _ _ _ _ _ _ _ 2 8 3 #[.val (.ref s)] [(.ref la1009), (.ref s)]
  have q1011 := (E0.keep K1009)
  have q1012 := (C0.keep K1009 nin0)
  have q1013 := (V0.keep K1009 nin0)
  have q1014 := (A0.keep K1009 nin0)
  refine W.callV (rest := []) (argsL := [(.ref la1009)]) (a := s) 6 d_prog_2_method_4_3 rfl (fun hn => c_eqd0 l Z a0 hw s la1009 b lb1009 kc hkc  _ n0 hn (fun q => (N1009 s (List.mem_of_getElem? (i := 0) rfl)).1 (Value.ref.inj q)) (Sta.keep0 kc1010 FS) q1011 q1012 q1013 q1014 E1009 C1009 V1009 A1009) q1011 (wd_31 hw) (wd_32 hw) (wd_34 hw) rfl (wd_33 hw) (wd_7 hw) (wd_35 hw) (by decide) pd_1 rfl rfl rfl (by decide) 0 (Nat.le_of_ble_eq_true rfl) (by decide) (by decide) (by decide) ?_
  rintro v1015 h1015 ⟨rfl, rfl⟩
  show WG _ _ _ _ _ _ _ _ _ _ _ _ 2 8 6 #[.val (.ref s)] [(.int (0 : Int32))]
  refine W.if_eq 14 9 d_prog_2_method_4_6 rfl rfl (fun _ => ?_) (fun hc => absurd (by decide) hc)
  refine W.aloadN 15 d_prog_2_method_4_14 rfl rfl rfl ?_
  refine WG.retX (own_EL hw) hv1009 ?_
  exact W.areturn d_prog_2_method_4_15 rfl rfl rfl rfl ⟨⟨rfl, kc1010⟩, rfl⟩ (by decide) (by decide)
theorem c_src1 (l : Launch) (Z : State) (a0 : Array Value) (hw : HwT Z a0) (s b : Addr) (kc : Int32) (hkc : ¬ kc = 0) (x0 : Int32) (h : Heap) (n0 : Nat) (hn : n0 ≤ h.size) (FS : Sta Z h "java/lang/String" "COMPACT_STRINGS" "Z" (.int kc)) (E0 : Exa Z h s "java/lang/String") (C0 : Fld Z h s "java/lang/String" "coder" "B" (.int 0)) (V0 : Fld Z h s "java/lang/String" "value" "[B" (.ref b)) (A0 : Ary Z h b .byte [(.int x0)]) : ConX Z consts_1 [s] [] l (⟨"com/example/grackle/grackle/cli/Inputs", "source", "(Ljava/lang/String;)Ljava/lang/String;"⟩ : MethodName) prog_2_method_4_code 1 (some (.object "java/lang/String")) ({ frames := 2, cells := 4, slots := 68, locals := 40 } : Room) #[(.ref s)] h n0 (fun v h' => (x0 = 45 ∧ Keep h h' [] ∧ ∃ r b, v = some (.ref r) ∧ Exa Z h' r "java/lang/String" ∧ Fld Z h' r "java/lang/String" "coder" "B" (.int 0) ∧ Fld Z h' r "java/lang/String" "value" "[B" (.ref b) ∧ Ary Z h' b .byte [(.int (115 : Int32)), (.int (116 : Int32)), (.int (97 : Int32)), (.int (110 : Int32)), (.int (100 : Int32)), (.int (97 : Int32)), (.int (114 : Int32)), (.int (100 : Int32)), (.int (32 : Int32)), (.int (105 : Int32)), (.int (110 : Int32)), (.int (112 : Int32)), (.int (117 : Int32)), (.int (116 : Int32))]) ∨ (¬ x0 = 45 ∧ v = some (.ref s) ∧ Keep h h' [])) := by
  refine ConX.of_W (Ls := #[.val (.ref s)]) (plainFor_of_name pn_3) hn (fun m => by first | (simp [entryFrame, mkF, argsToLocals, Value.category]; done) | rfl) ?_
  have hv0 := HV.here (Z := Z) (EL := consts_1) (h := h) (S := [s])
  refine W.aloadN 1 d_prog_2_method_4_0 rfl rfl rfl ?_
  refine W.ldcX 3 d_prog_2_method_4_1 rfl (wd_30 hw) (own_wS hw) (own_EL hw) (List.mem_of_getElem? (i := 0) rfl) hv0 (allS E0.lt all0) [(.int (45 : Int32))] ⟨by decide, rfl⟩ (by decide) 4 (by decide) (by decide) (by decide) (by decide) ?_
  intro h1016 la1016 lb1016 X1016 K1016 E1016 C1016 V1016 A1016 N1016
  have kc1017 := Keep.trans (ws := []) (Keep.refl _ []) K1016 all0
  have hv1016 := HV.here (Z := Z) (EL := consts_1) (h := h1016) (S := [s])
  show WG _ _ _ _ _ _ _ _ _ _ _ _ 2 8 3 #[.val (.ref s)] [(.ref la1016), (.ref s)]
  have q1018 := (E0.keep K1016)
  have q1019 := (C0.keep K1016 nin0)
  have q1020 := (V0.keep K1016 nin0)
  have q1021 := (A0.keep K1016 nin0)
  refine W.callV (rest := []) (argsL := [(.ref la1016)]) (a := s) 6 d_prog_2_method_4_3 rfl (fun hn => c_eqd1 l Z a0 hw s la1016 b lb1016 kc hkc x0 _ n0 hn (fun q => (N1016 s (List.mem_of_getElem? (i := 0) rfl)).1 (Value.ref.inj q)) (Sta.keep0 kc1017 FS) q1018 q1019 q1020 q1021 E1016 C1016 V1016 A1016) q1018 (wd_31 hw) (wd_32 hw) (wd_34 hw) rfl (wd_33 hw) (wd_7 hw) (wd_35 hw) (by decide) pd_1 rfl rfl rfl (by decide) 0 (Nat.le_of_ble_eq_true rfl) (by decide) (by decide) (by decide) ?_
  rintro v1022 h1022 (⟨q1022, rfl, rfl⟩ | ⟨q1022, rfl, rfl⟩)
  · show WG _ _ _ _ _ _ _ _ _ _ _ _ 2 8 6 #[.val (.ref s)] [(.int (1 : Int32))]
    refine W.if_eq 14 9 d_prog_2_method_4_6 rfl rfl (fun hc => absurd hc (by decide)) (fun _ => ?_)
    refine W.ldcX 11 d_prog_2_method_4_9 rfl (wd_53 hw) (own_wS hw) (own_EL hw) (List.mem_of_getElem? (i := 1) rfl) hv1016 (allS q1018.lt all0) [(.int (115 : Int32)), (.int (116 : Int32)), (.int (97 : Int32)), (.int (110 : Int32)), (.int (100 : Int32)), (.int (97 : Int32)), (.int (114 : Int32)), (.int (100 : Int32)), (.int (32 : Int32)), (.int (105 : Int32)), (.int (110 : Int32)), (.int (112 : Int32)), (.int (117 : Int32)), (.int (116 : Int32))] ⟨by decide, rfl⟩ (by decide) 56 (by decide) (by decide) (by decide) (by decide) ?_
    intro h1023 la1023 lb1023 X1023 K1023 E1023 C1023 V1023 A1023 N1023
    have kc1024 := Keep.trans (ws := []) kc1017 K1023 all0
    have hv1023 := HV.here (Z := Z) (EL := consts_1) (h := h1023) (S := [s])
    show WG _ _ _ _ _ _ _ _ _ _ _ _ 4 68 11 #[.val (.ref s)] [(.ref la1023)]
    refine W.goto 15 d_prog_2_method_4_11 rfl ?_
    refine WG.retX (own_EL hw) hv1023 ?_
    exact W.areturn d_prog_2_method_4_15 rfl rfl rfl rfl ⟨(Or.inl ⟨q1022, kc1024, _, lb1023, rfl, E1023, C1023, V1023, A1023⟩), rfl⟩ (by decide) (by decide)
  · show WG _ _ _ _ _ _ _ _ _ _ _ _ 2 8 6 #[.val (.ref s)] [(.int (0 : Int32))]
    refine W.if_eq 14 9 d_prog_2_method_4_6 rfl rfl (fun _ => ?_) (fun hc => absurd (by decide) hc)
    refine W.aloadN 15 d_prog_2_method_4_14 rfl rfl rfl ?_
    refine WG.retX (own_EL hw) hv1016 ?_
    exact W.areturn d_prog_2_method_4_15 rfl rfl rfl rfl ⟨(Or.inr ⟨q1022, rfl, kc1017⟩), rfl⟩ (by decide) (by decide)
theorem c_src2 (l : Launch) (Z : State) (a0 : Array Value) (hw : HwT Z a0) (s b : Addr) (kc : Int32) (hkc : ¬ kc = 0) (x0 x1 : Int32) (h : Heap) (n0 : Nat) (hn : n0 ≤ h.size) (FS : Sta Z h "java/lang/String" "COMPACT_STRINGS" "Z" (.int kc)) (E0 : Exa Z h s "java/lang/String") (C0 : Fld Z h s "java/lang/String" "coder" "B" (.int 0)) (V0 : Fld Z h s "java/lang/String" "value" "[B" (.ref b)) (A0 : Ary Z h b .byte [(.int x0), (.int x1)]) : ConX Z consts_1 [s] [] l (⟨"com/example/grackle/grackle/cli/Inputs", "source", "(Ljava/lang/String;)Ljava/lang/String;"⟩ : MethodName) prog_2_method_4_code 1 (some (.object "java/lang/String")) ({ frames := 2, cells := 4, slots := 68, locals := 40 } : Room) #[(.ref s)] h n0 (fun v h' => v = some (.ref s) ∧ Keep h h' []) := by
  refine ConX.of_W (Ls := #[.val (.ref s)]) (plainFor_of_name pn_3) hn (fun m => by first | (simp [entryFrame, mkF, argsToLocals, Value.category]; done) | rfl) ?_
  have hv0 := HV.here (Z := Z) (EL := consts_1) (h := h) (S := [s])
  refine W.aloadN 1 d_prog_2_method_4_0 rfl rfl rfl ?_
  refine W.ldcX 3 d_prog_2_method_4_1 rfl (wd_30 hw) (own_wS hw) (own_EL hw) (List.mem_of_getElem? (i := 0) rfl) hv0 (allS E0.lt all0) [(.int (45 : Int32))] ⟨by decide, rfl⟩ (by decide) 4 (by decide) (by decide) (by decide) (by decide) ?_
  intro h1025 la1025 lb1025 X1025 K1025 E1025 C1025 V1025 A1025 N1025
  have kc1026 := Keep.trans (ws := []) (Keep.refl _ []) K1025 all0
  have hv1025 := HV.here (Z := Z) (EL := consts_1) (h := h1025) (S := [s])
  show WG _ _ _ _ _ _ _ _ _ _ _ _ 2 8 3 #[.val (.ref s)] [(.ref la1025), (.ref s)]
  have q1027 := (E0.keep K1025)
  have q1028 := (C0.keep K1025 nin0)
  have q1029 := (V0.keep K1025 nin0)
  have q1030 := (A0.keep K1025 nin0)
  refine W.callV (rest := []) (argsL := [(.ref la1025)]) (a := s) 6 d_prog_2_method_4_3 rfl (fun hn => c_eqd2 l Z a0 hw s la1025 b lb1025 kc hkc x0 x1 _ n0 hn (fun q => (N1025 s (List.mem_of_getElem? (i := 0) rfl)).1 (Value.ref.inj q)) (Sta.keep0 kc1026 FS) q1027 q1028 q1029 q1030 E1025 C1025 V1025 A1025) q1027 (wd_31 hw) (wd_32 hw) (wd_34 hw) rfl (wd_33 hw) (wd_7 hw) (wd_35 hw) (by decide) pd_1 rfl rfl rfl (by decide) 0 (Nat.le_of_ble_eq_true rfl) (by decide) (by decide) (by decide) ?_
  rintro v1031 h1031 ⟨rfl, rfl⟩
  show WG _ _ _ _ _ _ _ _ _ _ _ _ 2 8 6 #[.val (.ref s)] [(.int (0 : Int32))]
  refine W.if_eq 14 9 d_prog_2_method_4_6 rfl rfl (fun _ => ?_) (fun hc => absurd (by decide) hc)
  refine W.aloadN 15 d_prog_2_method_4_14 rfl rfl rfl ?_
  refine WG.retX (own_EL hw) hv1025 ?_
  exact W.areturn d_prog_2_method_4_15 rfl rfl rfl rfl ⟨⟨rfl, kc1026⟩, rfl⟩ (by decide) (by decide)
theorem c_src3 (l : Launch) (Z : State) (a0 : Array Value) (hw : HwT Z a0) (s b : Addr) (kc : Int32) (hkc : ¬ kc = 0) (x0 x1 x2 : Int32) (h : Heap) (n0 : Nat) (hn : n0 ≤ h.size) (FS : Sta Z h "java/lang/String" "COMPACT_STRINGS" "Z" (.int kc)) (E0 : Exa Z h s "java/lang/String") (C0 : Fld Z h s "java/lang/String" "coder" "B" (.int 0)) (V0 : Fld Z h s "java/lang/String" "value" "[B" (.ref b)) (A0 : Ary Z h b .byte [(.int x0), (.int x1), (.int x2)]) : ConX Z consts_1 [s] [] l (⟨"com/example/grackle/grackle/cli/Inputs", "source", "(Ljava/lang/String;)Ljava/lang/String;"⟩ : MethodName) prog_2_method_4_code 1 (some (.object "java/lang/String")) ({ frames := 2, cells := 4, slots := 68, locals := 40 } : Room) #[(.ref s)] h n0 (fun v h' => v = some (.ref s) ∧ Keep h h' []) := by
  refine ConX.of_W (Ls := #[.val (.ref s)]) (plainFor_of_name pn_3) hn (fun m => by first | (simp [entryFrame, mkF, argsToLocals, Value.category]; done) | rfl) ?_
  have hv0 := HV.here (Z := Z) (EL := consts_1) (h := h) (S := [s])
  refine W.aloadN 1 d_prog_2_method_4_0 rfl rfl rfl ?_
  refine W.ldcX 3 d_prog_2_method_4_1 rfl (wd_30 hw) (own_wS hw) (own_EL hw) (List.mem_of_getElem? (i := 0) rfl) hv0 (allS E0.lt all0) [(.int (45 : Int32))] ⟨by decide, rfl⟩ (by decide) 4 (by decide) (by decide) (by decide) (by decide) ?_
  intro h1032 la1032 lb1032 X1032 K1032 E1032 C1032 V1032 A1032 N1032
  have kc1033 := Keep.trans (ws := []) (Keep.refl _ []) K1032 all0
  have hv1032 := HV.here (Z := Z) (EL := consts_1) (h := h1032) (S := [s])
  show WG _ _ _ _ _ _ _ _ _ _ _ _ 2 8 3 #[.val (.ref s)] [(.ref la1032), (.ref s)]
  have q1034 := (E0.keep K1032)
  have q1035 := (C0.keep K1032 nin0)
  have q1036 := (V0.keep K1032 nin0)
  have q1037 := (A0.keep K1032 nin0)
  refine W.callV (rest := []) (argsL := [(.ref la1032)]) (a := s) 6 d_prog_2_method_4_3 rfl (fun hn => c_eqd3 l Z a0 hw s la1032 b lb1032 kc hkc x0 x1 x2 _ n0 hn (fun q => (N1032 s (List.mem_of_getElem? (i := 0) rfl)).1 (Value.ref.inj q)) (Sta.keep0 kc1033 FS) q1034 q1035 q1036 q1037 E1032 C1032 V1032 A1032) q1034 (wd_31 hw) (wd_32 hw) (wd_34 hw) rfl (wd_33 hw) (wd_7 hw) (wd_35 hw) (by decide) pd_1 rfl rfl rfl (by decide) 0 (Nat.le_of_ble_eq_true rfl) (by decide) (by decide) (by decide) ?_
  rintro v1038 h1038 ⟨rfl, rfl⟩
  show WG _ _ _ _ _ _ _ _ _ _ _ _ 2 8 6 #[.val (.ref s)] [(.int (0 : Int32))]
  refine W.if_eq 14 9 d_prog_2_method_4_6 rfl rfl (fun _ => ?_) (fun hc => absurd (by decide) hc)
  refine W.aloadN 15 d_prog_2_method_4_14 rfl rfl rfl ?_
  refine WG.retX (own_EL hw) hv1032 ?_
  exact W.areturn d_prog_2_method_4_15 rfl rfl rfl rfl ⟨⟨rfl, kc1033⟩, rfl⟩ (by decide) (by decide)
theorem c_i40 (l : Launch) (Z : State) (a0 : Array Value) (hw : HwT Z a0) (a src : Addr) (kc : Int32) (hkc : ¬ kc = 0) (h : Heap) (n0 : Nat) (hn : n0 ≤ h.size) (ne : a ≠ src) (ga : n0 ≤ a) (FS : Sta Z h "java/lang/String" "COMPACT_STRINGS" "Z" (.int kc)) (E : Exa Z h a "java/lang/String") (C : Fld Z h a "java/lang/String" "coder" "B" (.int 0)) (V : Fld Z h a "java/lang/String" "value" "[B" .null) (As : Ary Z h src .char [])  : ConX Z consts_1 [a] [] l (⟨"java/lang/String", "<init>", "([CIILjava/lang/Void;)V"⟩ : MethodName) jdk_42_method_149_code 6 none ({ frames := 2, cells := 4, slots := 8, locals := 48 } : Room) #[(.ref a), (.ref src), (.int (0 : Int32)), (.int (0 : Int32)), .null] h n0 (fun v h' => v = none ∧ Keep h h' [a] ∧ ∃ b, Fld Z h' a "java/lang/String" "coder" "B" (.int 0) ∧ Fld Z h' a "java/lang/String" "value" "[B" (.ref b) ∧ Ary Z h' b .byte []) := by
  refine ConX.of_W (Ls := #[.val (.ref a), .val (.ref src), .val (.int (0 : Int32)), .val (.int (0 : Int32)), .val .null, .unset]) (plainFor_of_name pn_2) hn (fun m => by first | (simp [entryFrame, mkF, argsToLocals, Value.category]; done) | rfl) ?_
  have hv0 := HV.here (Z := Z) (EL := consts_1) (h := h) (S := [a])
  refine W.aloadN 1 d_jdk_42_method_149_0 rfl rfl rfl ?_
  refine W.initObj 4 d_jdk_42_method_149_1 rfl (wd_15 hw) (wd_16 hw) (wd_17 hw) rfl (by decide) 0 (Nat.le_of_ble_eq_true rfl) (by decide) ?_
  refine W.iloadN 5 d_jdk_42_method_149_4 rfl rfl ?_
  refine W.if_ne 27 8 d_jdk_42_method_149_5 rfl rfl (fun hc => absurd (by decide) hc) (fun _ => ?_)
  refine W.aloadN 9 d_jdk_42_method_149_8 rfl rfl rfl ?_
  refine W.ldcX 11 d_jdk_42_method_149_9 rfl (wd_18 hw) (own_wS hw) (own_EL hw) (List.mem_of_getElem? (i := 3) rfl) hv0 (allS E.lt all0) [] ⟨by decide, rfl⟩ (by decide) 0 (by decide) (by decide) (by decide) (by decide) ?_
  intro h1039 la1039 lb1039 X1039 K1039 E1039 C1039 V1039 A1039 N1039
  have kc1040 := Keep.trans (ws := [a]) (Keep.refl _ [a]) K1039 all0
  have hv1039 := HV.here (Z := Z) (EL := consts_1) (h := h1039) (S := [a])
  show WG _ _ _ _ _ _ _ _ _ _ _ _ 2 4 11 #[.val (.ref a), .val (.ref src), .val (.int (0 : Int32)), .val (.int (0 : Int32)), .val .null, .unset] [(.ref la1039), (.ref a)]
  refine W.getfield 14 d_jdk_42_method_149_11 rfl (host := "") (Or.inl (wd_24 hw)) Via.refl V1039 ?_
  have q1041 := (V.keep K1039 nin0)
  have q1042 := (E.keep K1039)
  refine W.putfield 17 d_jdk_42_method_149_14 rfl (host := "") (Or.inl (wd_24 hw)) Via.refl q1041 q1042 (Or.inr ⟨(wd_20 hw), rfl, rfl⟩) (wd_6 hw) (ty := (.array .byte)) (by decide) rfl rfl ga ?_
  intro h1043 W1043 F1043 E1043 K1043
  have hv1044 := HV.keep hv1039 K1043 (allS (List.mem_of_getElem? (i := 0) rfl) all0)
  have kc1045 := Keep.trans (ws := [a]) kc1040 K1043 (allS (Or.inl (List.mem_of_getElem? (i := 0) rfl)) all0)
  refine W.aloadN 18 d_jdk_42_method_149_17 rfl rfl rfl ?_
  refine W.ldcX 20 d_jdk_42_method_149_18 rfl (wd_18 hw) (own_wS hw) (own_EL hw) (List.mem_of_getElem? (i := 3) rfl) hv1044 (allS E1043.lt all0) [] ⟨by decide, rfl⟩ (by decide) 0 (by decide) (by decide) (by decide) (by decide) ?_
  intro h1046 la1046 lb1046 X1046 K1046 E1046 C1046 V1046 A1046 N1046
  have kc1047 := Keep.trans (ws := [a]) kc1045 K1046 all0
  have hv1046 := HV.here (Z := Z) (EL := consts_1) (h := h1046) (S := [a])
  show WG _ _ _ _ _ _ _ _ _ _ _ _ 4 8 20 #[.val (.ref a), .val (.ref src), .val (.int (0 : Int32)), .val (.int (0 : Int32)), .val .null, .unset] [(.ref la1046), (.ref a)]
  refine W.getfield 23 d_jdk_42_method_149_20 rfl (host := "") (Or.inl (wd_25 hw)) Via.refl C1046 ?_
  have q1048 := (((C.keep K1039 nin0).other W1043 (Or.inr (sne_0 hw))).keep K1046 nin0)
  have q1049 := (E1043.keep K1046)
  refine W.putfieldN 26 d_jdk_42_method_149_23 rfl (wd_25 hw) Via.refl q1048 q1049 (Or.inr ⟨(wd_21 hw), rfl, rfl⟩) (wd_6 hw) (ty := .byte) (by decide) (.int (0 : Int32)) rfl rfl ga ?_
  intro h1050 W1050 F1050 E1050 K1050
  have hv1051 := HV.keep hv1046 K1050 (allS (List.mem_of_getElem? (i := 0) rfl) all0)
  have kc1052 := Keep.trans (ws := [a]) kc1047 K1050 (allS (Or.inl (List.mem_of_getElem? (i := 0) rfl)) all0)
  refine WG.retX (own_EL hw) hv1051 ?_
  have q1053 := ((F1043.keep K1046 nin0).other W1050 (Or.inr (sne_1 hw)))
  have q1054 := (((A1039.keep K1043 (ninS (Ne.symm (N1039 a (List.mem_of_getElem? (i := 0) rfl)).2) nin0)).keep K1046 nin0).keep K1050 (ninS (Ne.symm (N1039 a (List.mem_of_getElem? (i := 0) rfl)).2) nin0))
  exact W.return_ d_jdk_42_method_149_26 rfl ⟨⟨rfl, kc1052, lb1039, F1050, q1053, q1054⟩, rfl⟩ (by decide) (by decide)
theorem c_i10 (l : Launch) (Z : State) (a0 : Array Value) (hw : HwT Z a0) (a src : Addr) (kc : Int32) (hkc : ¬ kc = 0) (h : Heap) (n0 : Nat) (hn : n0 ≤ h.size) (ne : a ≠ src) (ga : n0 ≤ a) (FS : Sta Z h "java/lang/String" "COMPACT_STRINGS" "Z" (.int kc)) (E : Exa Z h a "java/lang/String") (C : Fld Z h a "java/lang/String" "coder" "B" (.int 0)) (V : Fld Z h a "java/lang/String" "value" "[B" .null) (As : Ary Z h src .char [])  : ConX Z consts_1 [a] [] l (⟨"java/lang/String", "<init>", "([C)V"⟩ : MethodName) jdk_42_method_3_code 2 none ({ frames := 3, cells := 4, slots := 8, locals := 72 } : Room) #[(.ref a), (.ref src)] h n0 (fun v h' => v = none ∧ Keep h h' [a] ∧ ∃ b, Fld Z h' a "java/lang/String" "coder" "B" (.int 0) ∧ Fld Z h' a "java/lang/String" "value" "[B" (.ref b) ∧ Ary Z h' b .byte []) := by
  refine ConX.of_W (Ls := #[.val (.ref a), .val (.ref src)]) (plainFor_of_name pn_2) hn (fun m => by first | (simp [entryFrame, mkF, argsToLocals, Value.category]; done) | rfl) ?_
  have hv0 := HV.here (Z := Z) (EL := consts_1) (h := h) (S := [a])
  refine W.aloadN 1 d_jdk_42_method_3_0 rfl rfl rfl ?_
  refine W.aloadN 2 d_jdk_42_method_3_1 rfl rfl rfl ?_
  refine W.iconst 3 d_jdk_42_method_3_2 rfl (0 : Int32) rfl ?_
  refine W.aloadN 4 d_jdk_42_method_3_3 rfl rfl rfl ?_
  refine W.arraylength 5 d_jdk_42_method_3_4 rfl As (0 : Int32) rfl ?_
  refine W.aconst_null 6 d_jdk_42_method_3_5 rfl ?_
  refine W.callInitX (rest := []) (argsL := [(.ref src), (.int (0 : Int32)), (.int (0 : Int32)), .null]) (a := a) 9 d_jdk_42_method_3_6 rfl (fun hn => c_i40 l Z a0 hw a src kc hkc  _ n0 hn ne ga FS E C V As ) rfl (wd_11 hw) (wd_12 hw) (wd_7 hw) (wd_14 hw) (by decide) pd_2 rfl rfl rfl (by decide) 0 (Nat.le_of_ble_eq_true rfl) (by decide) (by decide) (by decide) (own_EL hw) hv0 (allS E.lt all0) (allS (List.mem_of_getElem? (i := 0) rfl) all0) ?_
  rintro v1055 h1055 ⟨rfl, K1055, b1055, C1055, V1055, A1055⟩
  have kc1056 := Keep.trans (ws := [a]) (Keep.refl _ [a]) K1055 (allS (Or.inl (List.mem_of_getElem? (i := 0) rfl)) all0)
  have hv1055 := HV.here (Z := Z) (EL := consts_1) (h := h1055) (S := [a])
  show WG _ _ _ _ _ _ _ _ _ _ _ _ 4 8 9 #[.val (.ref a), .val (.ref src)] []
  refine WG.retX (own_EL hw) hv1055 ?_
  exact W.return_ d_jdk_42_method_3_9 rfl ⟨⟨rfl, kc1056, b1055, C1055, V1055, A1055⟩, rfl⟩ (by decide) (by decide)
theorem law_0 (l : Launch) (Z : State) (a0 : Array Value) (hw : HwT Z a0) (p0 p1 p2 p3 : Int32) (kc : Int32) (hkc : ¬ kc = 0) (h : Heap) (n0 : Nat) (hn : n0 ≤ h.size) (FS : Sta Z h "java/lang/String" "COMPACT_STRINGS" "Z" (.int kc)) (e3 : p0 &&& 3 = 0) : ConX Z consts_1 [] tables_1 l x code maxLocals ret room_1 #[(.int p0), (.int p1), (.int p2), (.int p3)] h n0 (fun v _ => v = some (.int 1)) := by
  refine ConX.of_W (Ls := #[.val (.int p0), .val (.int p1), .val (.int p2), .val (.int p3), .unset, .unset, .unset, .unset, .unset, .unset, .unset, .unset]) (plainFor_of_name pn_0) hn (fun m => by first | (simp [entryFrame, mkF, argsToLocals, Value.category, maxLocals]; done) | rfl) ?_
  have hv0 := HV.here (Z := Z) (EL := consts_1) (h := h) (S := [])
  refine W.iloadN 1 at_0 rfl rfl ?_
  refine W.iconst 2 at_1 rfl (3 : Int32) rfl ?_
  refine W.iand 3 at_2 rfl (0 : Int32) e3 ?_
  refine W.istore 5 at_3 rfl #[.val (.int p0), .val (.int p1), .val (.int p2), .val (.int p3), .val (.int (0 : Int32)), .unset, .unset, .unset, .unset, .unset, .unset, .unset] rfl ?_
  refine W.iloadN 6 at_5 rfl rfl ?_
  refine W.callS (rest := []) (argsL := [(.int p1)]) 9 at_6 rfl (fun hn => c_pick l Z a0 hw p1 _ n0 hn) (wd_0 hw) (wd_1 hw) (wd_2 hw) (wd_3 hw) (by decide) pd_3 rfl rfl rfl (by decide) 0 (Nat.le_of_ble_eq_true rfl) (by decide) (by decide) (by decide) ?_
  rintro v1057 h1057 ⟨c1057, rfl, H1057, rfl⟩
  show WG _ _ _ _ _ _ _ _ _ _ _ _ 0 0 9 #[.val (.int p0), .val (.int p1), .val (.int p2), .val (.int p3), .val (.int (0 : Int32)), .unset, .unset, .unset, .unset, .unset, .unset, .unset] [(.int c1057)]
  refine W.istore 11 at_9 rfl #[.val (.int p0), .val (.int p1), .val (.int p2), .val (.int p3), .val (.int (0 : Int32)), .val (.int c1057), .unset, .unset, .unset, .unset, .unset, .unset] rfl ?_
  refine W.iloadN 12 at_11 rfl rfl ?_
  refine W.callS (rest := []) (argsL := [(.int p2)]) 15 at_12 rfl (fun hn => c_pick l Z a0 hw p2 _ n0 hn) (wd_0 hw) (wd_1 hw) (wd_2 hw) (wd_3 hw) (by decide) pd_3 rfl rfl rfl (by decide) 0 (Nat.le_of_ble_eq_true rfl) (by decide) (by decide) (by decide) ?_
  rintro v1058 h1058 ⟨c1058, rfl, H1058, rfl⟩
  show WG _ _ _ _ _ _ _ _ _ _ _ _ 0 0 15 #[.val (.int p0), .val (.int p1), .val (.int p2), .val (.int p3), .val (.int (0 : Int32)), .val (.int c1057), .unset, .unset, .unset, .unset, .unset, .unset] [(.int c1058)]
  refine W.istore 17 at_15 rfl #[.val (.int p0), .val (.int p1), .val (.int p2), .val (.int p3), .val (.int (0 : Int32)), .val (.int c1057), .val (.int c1058), .unset, .unset, .unset, .unset, .unset] rfl ?_
  refine W.iloadN 18 at_17 rfl rfl ?_
  refine W.callS (rest := []) (argsL := [(.int p3)]) 21 at_18 rfl (fun hn => c_pick l Z a0 hw p3 _ n0 hn) (wd_0 hw) (wd_1 hw) (wd_2 hw) (wd_3 hw) (by decide) pd_3 rfl rfl rfl (by decide) 0 (Nat.le_of_ble_eq_true rfl) (by decide) (by decide) (by decide) ?_
  rintro v1059 h1059 ⟨c1059, rfl, H1059, rfl⟩
  show WG _ _ _ _ _ _ _ _ _ _ _ _ 0 0 21 #[.val (.int p0), .val (.int p1), .val (.int p2), .val (.int p3), .val (.int (0 : Int32)), .val (.int c1057), .val (.int c1058), .unset, .unset, .unset, .unset, .unset] [(.int c1059)]
  refine W.istore 23 at_21 rfl #[.val (.int p0), .val (.int p1), .val (.int p2), .val (.int p3), .val (.int (0 : Int32)), .val (.int c1057), .val (.int c1058), .val (.int c1059), .unset, .unset, .unset, .unset] rfl ?_
  refine W.iload 25 at_23 rfl rfl ?_
  refine W.newarray 27 at_25 rfl (wd_4 hw) rfl (by decide) 0 0 (by decide) (by decide) (by decide) (by decide) (by decide) rfl ?_
  intro h1060 b1060 g1060 ge1060 X1060 K1060 A1060
  have hv1061 := HV.new hv0 K1060 all0 (Nat.le_of_eq g1060.symm)
  have A1060 : Ary _ _ b1060 .char [] := A1060
  show WG _ _ _ _ _ _ _ _ _ _ _ _ 1 0 27 #[.val (.int p0), .val (.int p1), .val (.int p2), .val (.int p3), .val (.int (0 : Int32)), .val (.int c1057), .val (.int c1058), .val (.int c1059), .unset, .unset, .unset, .unset] [(.ref b1060)]
  refine W.astore 29 at_27 rfl rfl #[.val (.int p0), .val (.int p1), .val (.int p2), .val (.int p3), .val (.int (0 : Int32)), .val (.int c1057), .val (.int c1058), .val (.int c1059), .val (.ref b1060), .unset, .unset, .unset] rfl ?_
  refine W.iload 31 at_29 rfl rfl ?_
  refine W.if_le 40 34 at_31 rfl rfl (fun _ => ?_) (fun hc => absurd hc (by decide))
  refine W.iload 42 at_40 rfl rfl ?_
  refine W.iconst 43 at_42 rfl (1 : Int32) rfl ?_
  refine W.icmp_le 52 46 at_43 rfl rfl (fun _ => ?_) (fun hc => absurd hc (by decide))
  refine W.iload 54 at_52 rfl rfl ?_
  refine W.iconst 55 at_54 rfl (2 : Int32) rfl ?_
  refine W.icmp_le 64 58 at_55 rfl rfl (fun _ => ?_) (fun hc => absurd hc (by decide))
  refine W.new 67 at_64 rfl (wd_5 hw) (wd_6 hw) (wd_7 hw) (by decide) (by decide) ?_
  intro h1062 o1062 g1062 ge1062 X1062 K1062 E1062 D1062
  have ne1063 : b1060 ≠ o1062 := Nat.ne_of_lt (Nat.lt_of_lt_of_eq A1060.lt g1062.symm)
  have hv1064 := HV.new hv1061 K1062 all0 (Nat.le_of_eq g1062.symm)
  have f1065 : Fld _ _ o1062 "java/lang/String" "value" "[B" .null := D1062 (Or.inr (wd_20 hw)) (ty := (.array .byte)) (by decide)
  have f1066 : Fld _ _ o1062 "java/lang/String" "coder" "B" (.int (0 : Int32)) := D1062 (Or.inr (wd_21 hw)) (ty := .byte) (by decide)
  show WG _ _ _ _ _ _ _ _ _ _ _ _ 2 4 67 #[.val (.int p0), .val (.int p1), .val (.int p2), .val (.int p3), .val (.int (0 : Int32)), .val (.int c1057), .val (.int c1058), .val (.int c1059), .val (.ref b1060), .unset, .unset, .unset] [(.ref o1062)]
  refine W.dup 68 at_67 rfl rfl ?_
  refine W.aload 70 at_68 rfl rfl rfl ?_
  have q1067 := (Sta.ext X1062 (Sta.ext X1060 FS))
  have q1068 := (A1060.keep K1062 nin0)
  refine W.callInitX (rest := [(.ref o1062)]) (argsL := [(.ref b1060)]) (a := o1062) 73 at_70 rfl (fun hn => c_i10 l Z a0 hw o1062 b1060 kc hkc  _ n0 hn (Ne.symm ne1063) ge1062 q1067 E1062 f1066 f1065 q1068 ) rfl (wd_8 hw) (wd_9 hw) (wd_7 hw) (wd_10 hw) (by decide) pd_4 rfl rfl rfl (by decide) 1 (Nat.le_of_ble_eq_true rfl) (by decide) (by decide) (by decide) (own_EL hw) hv1064 (allS E1062.lt (allS q1068.lt all0)) (allS (List.mem_of_getElem? (i := 0) rfl) all0) ?_
  rintro v1069 h1069 ⟨rfl, K1069, b1069, C1069, V1069, A1069⟩
  have hv1069 := HV.here (Z := Z) (EL := consts_1) (h := h1069) (S := [o1062, b1060])
  show WG _ _ _ _ _ _ _ _ _ _ _ _ 6 12 73 #[.val (.int p0), .val (.int p1), .val (.int p2), .val (.int p3), .val (.int (0 : Int32)), .val (.int c1057), .val (.int c1058), .val (.int c1059), .val (.ref b1060), .unset, .unset, .unset] [(.ref o1062)]
  refine W.astore 75 at_73 rfl rfl #[.val (.int p0), .val (.int p1), .val (.int p2), .val (.int p3), .val (.int (0 : Int32)), .val (.int c1057), .val (.int c1058), .val (.int c1059), .val (.ref b1060), .val (.ref o1062), .unset, .unset] rfl ?_
  refine W.aload 77 at_75 rfl rfl rfl ?_
  have q1070 := (Sta.keepN K1069 (allS E1062.nostat all0) q1067)
  have q1071 := (E1062.keep K1069)
  have q1073 := (q1068.keep K1069 (ninS ne1063 nin0))
  refine W.callSX (rest := []) (argsL := [(.ref o1062)]) 80 at_77 rfl (fun hn => c_src0 l Z a0 hw o1062 b1069 kc hkc  _ n0 hn q1070 q1071 C1069 V1069 A1069) (wd_26 hw) (wd_27 hw) (wd_28 hw) (wd_29 hw) (by decide) pd_5 rfl rfl rfl (by decide) 0 (Nat.le_of_ble_eq_true rfl) (by decide) (by decide) (by decide) (own_EL hw) hv1069 (allS q1071.lt (allS q1073.lt all0)) (allS (List.mem_of_getElem? (i := 0) rfl) all0) ?_
  rintro v1072 h1072 ⟨rfl, K1072⟩
  have hv1072 := HV.here (Z := Z) (EL := consts_1) (h := h1072) (S := [o1062, b1060])
  show WG _ _ _ _ _ _ _ _ _ _ _ _ 10 80 80 #[.val (.int p0), .val (.int p1), .val (.int p2), .val (.int p3), .val (.int (0 : Int32)), .val (.int c1057), .val (.int c1058), .val (.int c1059), .val (.ref b1060), .val (.ref o1062), .unset, .unset] [(.ref o1062)]
  refine W.astore 82 at_80 rfl rfl #[.val (.int p0), .val (.int p1), .val (.int p2), .val (.int p3), .val (.int (0 : Int32)), .val (.int c1057), .val (.int c1058), .val (.int c1059), .val (.ref b1060), .val (.ref o1062), .val (.ref o1062), .unset] rfl ?_
  refine W.iload 84 at_82 rfl rfl ?_
  refine W.iconst 85 at_84 rfl (1 : Int32) rfl ?_
  refine W.icmp_ne 99 88 at_85 rfl rfl (fun _ => ?_) (fun hc => absurd hc (by decide))
  refine W.iconst 100 at_99 rfl (0 : Int32) rfl ?_
  refine W.istore 102 at_100 rfl #[.val (.int p0), .val (.int p1), .val (.int p2), .val (.int p3), .val (.int (0 : Int32)), .val (.int c1057), .val (.int c1058), .val (.int c1059), .val (.ref b1060), .val (.ref o1062), .val (.ref o1062), .val (.int (0 : Int32))] rfl ?_
  refine W.iload 104 at_102 rfl rfl ?_
  refine W.if_eq 115 107 at_104 rfl rfl (fun _ => ?_) (fun hc => absurd (by decide) hc)
  refine W.aload 117 at_115 rfl rfl rfl ?_
  refine W.aload 119 at_117 rfl rfl rfl ?_
  have q1075 := (q1071.keep K1072)
  refine W.callV (rest := []) (argsL := [(.ref o1062)]) (a := o1062) 122 at_119 rfl (fun hn => c_eqs l Z a0 hw o1062 _ n0 hn) q1075 (wd_42 hw) (wd_32 hw) (wd_34 hw) rfl (wd_33 hw) (wd_7 hw) (wd_35 hw) (by decide) pd_1 rfl rfl rfl (by decide) 0 (Nat.le_of_ble_eq_true rfl) (by decide) (by decide) (by decide) ?_
  rintro v1074 h1074 ⟨rfl, rfl⟩
  show WG _ _ _ _ _ _ _ _ _ _ _ _ 10 80 122 #[.val (.int p0), .val (.int p1), .val (.int p2), .val (.int p3), .val (.int (0 : Int32)), .val (.int c1057), .val (.int c1058), .val (.int c1059), .val (.ref b1060), .val (.ref o1062), .val (.ref o1062), .val (.int (0 : Int32))] [(.int (1 : Int32))]
  refine WG.retX (own_EL hw) hv1072 ?_
  exact W.ireturnN (t := .boolean) at_122 rfl (by simp) (1 : Int32) rfl ⟨rfl, rfl⟩ (by decide) (by decide)
theorem c_ci1s (l : Launch) (Z : State) (a0 : Array Value) (hw : HwT Z a0) (src dst : Addr) (c0 : Int32) (h : Heap) (n0 : Nat) (hn : n0 ≤ h.size) (ne : src ≠ dst) (gd : n0 ≤ dst) (As : Ary Z h src .char [(.int c0)]) (Ad : Ary Z h dst .byte [(.int (0 : Int32))]) (Hc0 : ChOk c0) : Con l Z (⟨"java/lang/StringUTF16", "compress", "([CI[BII)I"⟩ : MethodName) jdk_52_method_21_code 7 (some .int) ({ frames := 0, cells := 0, slots := 0, locals := 0 } : Room) #[(.ref src), (.int (0 : Int32)), (.ref dst), (.int (0 : Int32)), (.int (1 : Int32))] h n0 (fun v h' => v = some (.int 1) ∧ Keep h h' [dst] ∧ Ary Z h' dst .byte [(.int (c0.toInt8.toInt32))]) := by
  refine ConG.of_W (Ls := #[.val (.ref src), .val (.int (0 : Int32)), .val (.ref dst), .val (.int (0 : Int32)), .val (.int (1 : Int32)), .unset, .unset]) (plainFor_of_name pn_4) hn (fun m => by first | (simp [entryFrame, mkF, argsToLocals, Value.category]; done) | rfl) ?_
  refine W.iconst 1 d_jdk_52_method_21_0 rfl (0 : Int32) rfl ?_
  refine W.istore 3 d_jdk_52_method_21_1 rfl #[.val (.ref src), .val (.int (0 : Int32)), .val (.ref dst), .val (.int (0 : Int32)), .val (.int (1 : Int32)), .val (.int (0 : Int32)), .unset] rfl ?_
  refine W.iload 5 d_jdk_52_method_21_3 rfl rfl ?_
  refine W.iload 7 d_jdk_52_method_21_5 rfl rfl ?_
  refine W.icmp_ge 44 10 d_jdk_52_method_21_7 rfl rfl (fun hc => absurd (by decide) hc) (fun _ => ?_)
  refine W.aloadN 11 d_jdk_52_method_21_10 rfl rfl rfl ?_
  refine W.iloadN 12 d_jdk_52_method_21_11 rfl rfl ?_
  refine W.caload 13 d_jdk_52_method_21_12 rfl As 0 (by decide) (by decide) (.int c0) rfl ?_
  refine W.istore 15 d_jdk_52_method_21_13 rfl #[.val (.ref src), .val (.int (0 : Int32)), .val (.ref dst), .val (.int (0 : Int32)), .val (.int (1 : Int32)), .val (.int (0 : Int32)), .val (.int c0)] rfl ?_
  refine W.iload 17 d_jdk_52_method_21_15 rfl rfl ?_
  refine W.sipush 20 d_jdk_52_method_21_17 rfl (255 : Int32) rfl ?_
  refine W.icmp_le 26 23 d_jdk_52_method_21_20 rfl rfl (fun _ => ?_) (fun hc => absurd hc (ch_le Hc0))
  refine W.aloadN 27 d_jdk_52_method_21_26 rfl rfl rfl ?_
  refine W.iloadN 28 d_jdk_52_method_21_27 rfl rfl ?_
  refine W.iload 30 d_jdk_52_method_21_28 rfl rfl ?_
  refine W.i2b 31 d_jdk_52_method_21_30 rfl (c0.toInt8.toInt32) rfl ?_
  refine W.bastore 32 d_jdk_52_method_21_31 rfl Ad 0 (by decide) (by decide) (Nat.le_of_ble_eq_true rfl) (c0.toInt8.toInt32) (nar_b c0) gd ?_
  intro h1076 W1076 K1076 A1076
  have kc1077 := Keep.trans (ws := [dst]) (Keep.refl _ [dst]) K1076 (allS (Or.inl (List.mem_of_getElem? (i := 0) rfl)) all0)
  have A1076 : Ary _ _ dst .byte [(.int (c0.toInt8.toInt32))] := A1076
  refine W.iinc 35 d_jdk_52_method_21_32 rfl rfl (1 : Int32) (by decide) #[.val (.ref src), .val (.int (1 : Int32)), .val (.ref dst), .val (.int (0 : Int32)), .val (.int (1 : Int32)), .val (.int (0 : Int32)), .val (.int c0)] rfl ?_
  refine W.iinc 38 d_jdk_52_method_21_35 rfl rfl (1 : Int32) (by decide) #[.val (.ref src), .val (.int (1 : Int32)), .val (.ref dst), .val (.int (1 : Int32)), .val (.int (1 : Int32)), .val (.int (0 : Int32)), .val (.int c0)] rfl ?_
  refine W.iinc 41 d_jdk_52_method_21_38 rfl rfl (1 : Int32) (by decide) #[.val (.ref src), .val (.int (1 : Int32)), .val (.ref dst), .val (.int (1 : Int32)), .val (.int (1 : Int32)), .val (.int (1 : Int32)), .val (.int c0)] rfl ?_
  refine W.goto 3 d_jdk_52_method_21_41 rfl ?_
  refine W.iload 5 d_jdk_52_method_21_3 rfl rfl ?_
  refine W.iload 7 d_jdk_52_method_21_5 rfl rfl ?_
  refine W.icmp_ge 44 10 d_jdk_52_method_21_7 rfl rfl (fun _ => ?_) (fun hc => absurd hc (by decide))
  refine W.iload 46 d_jdk_52_method_21_44 rfl rfl ?_
  exact W.ireturn d_jdk_52_method_21_46 rfl ⟨rfl, kc1077, A1076⟩ (by decide) (by decide)
theorem c_cb1s (l : Launch) (Z : State) (a0 : Array Value) (hw : HwT Z a0) (src : Addr) (c0 : Int32) (h : Heap) (n0 : Nat) (hn : n0 ≤ h.size) (As : Ary Z h src .char [(.int c0)]) (Hc0 : ChOk c0) : Con l Z (⟨"java/lang/StringUTF16", "compress", "([CII)[B"⟩ : MethodName) jdk_52_method_16_code 6 (some (.array .byte)) ({ frames := 1, cells := 1, slots := 1, locals := 24 } : Room) #[(.ref src), (.int (0 : Int32)), (.int (1 : Int32))] h n0 (fun v h' => ∃ d, v = some (.ref d) ∧ h.size ≤ d ∧ n0 ≤ d ∧ Keep h h' [] ∧ Ary Z h' d .byte [(.int (c0.toInt8.toInt32))]) := by
  refine ConG.of_W (Ls := #[.val (.ref src), .val (.int (0 : Int32)), .val (.int (1 : Int32)), .unset, .unset, .unset]) (plainFor_of_name pn_4) hn (fun m => by first | (simp [entryFrame, mkF, argsToLocals, Value.category]; done) | rfl) ?_
  refine W.iloadN 1 d_jdk_52_method_16_0 rfl rfl ?_
  refine W.newarray 3 d_jdk_52_method_16_1 rfl (wd_19 hw) rfl (by decide) 1 1 (by decide) (by decide) (by decide) (by decide) (by decide) rfl ?_
  intro h1078 b1078 g1078 ge1078 X1078 K1078 A1078
  have ne1079 : src ≠ b1078 := Nat.ne_of_lt (Nat.lt_of_lt_of_eq As.lt g1078.symm)
  have sz1080 := Nat.le_trans (Keep.refl _ []).1 (Nat.le_of_eq g1078.symm)
  have kc1081 := Keep.trans (ws := []) (Keep.refl _ []) K1078 all0
  have A1078 : Ary _ _ b1078 .byte [(.int (0 : Int32))] := A1078
  show WG _ _ _ _ _ _ _ _ _ _ _ _ 1 1 3 #[.val (.ref src), .val (.int (0 : Int32)), .val (.int (1 : Int32)), .unset, .unset, .unset] [(.ref b1078)]
  refine W.astoreN 4 d_jdk_52_method_16_3 rfl rfl #[.val (.ref src), .val (.int (0 : Int32)), .val (.int (1 : Int32)), .val (.ref b1078), .unset, .unset] rfl ?_
  refine W.aloadN 5 d_jdk_52_method_16_4 rfl rfl rfl ?_
  refine W.iloadN 6 d_jdk_52_method_16_5 rfl rfl ?_
  refine W.aloadN 7 d_jdk_52_method_16_6 rfl rfl rfl ?_
  refine W.iconst 8 d_jdk_52_method_16_7 rfl (0 : Int32) rfl ?_
  refine W.iloadN 9 d_jdk_52_method_16_8 rfl rfl ?_
  have q1082 := (As.keep K1078 nin0)
  refine W.callS (rest := []) (argsL := [(.ref src), (.int (0 : Int32)), (.ref b1078), (.int (0 : Int32)), (.int (1 : Int32))]) 12 d_jdk_52_method_16_9 rfl (fun hn => c_ci1s l Z a0 hw src b1078 c0 _ n0 hn ne1079 ge1078 q1082 A1078 Hc0) (wd_47 hw) (wd_48 hw) (wd_45 hw) (wd_49 hw) (by decide) pd_6 rfl rfl rfl (by decide) 0 (Nat.le_of_ble_eq_true rfl) (by decide) (by decide) (by decide) ?_
  rintro v1083 h1083 ⟨rfl, K1083, A1083⟩
  have kc1084 := Keep.trans (ws := []) kc1081 K1083 (allS (Or.inr sz1080) all0)
  show WG _ _ _ _ _ _ _ _ _ _ _ _ 1 1 12 #[.val (.ref src), .val (.int (0 : Int32)), .val (.int (1 : Int32)), .val (.ref b1078), .unset, .unset] [(.int (1 : Int32))]
  refine W.istore 14 d_jdk_52_method_16_12 rfl #[.val (.ref src), .val (.int (0 : Int32)), .val (.int (1 : Int32)), .val (.ref b1078), .val (.int (1 : Int32)), .unset] rfl ?_
  refine W.iload 16 d_jdk_52_method_16_14 rfl rfl ?_
  refine W.iloadN 17 d_jdk_52_method_16_16 rfl rfl ?_
  refine W.icmp_eq 57 20 d_jdk_52_method_16_17 rfl rfl (fun _ => ?_) (fun hc => absurd (by decide) hc)
  refine W.aloadN 58 d_jdk_52_method_16_57 rfl rfl rfl ?_
  exact W.areturn d_jdk_52_method_16_58 rfl rfl rfl rfl ⟨_, rfl, sz1080, ge1078, kc1084, A1083⟩ (by decide) (by decide)
theorem c_cl1 (l : Launch) (Z : State) (a0 : Array Value) (hw : HwT Z a0) (b : Addr) (x0 : Int32) (h : Heap) (n0 : Nat) (hn : n0 ≤ h.size) (A : Ary Z h b .byte [(.int x0)]) : Con l Z (⟨"java/lang/StringUTF16", "coderFromArrayLen", "([BI)B"⟩ : MethodName) jdk_52_method_15_code 2 (some .byte) ({ frames := 0, cells := 0, slots := 0, locals := 0 } : Room) #[(.ref b), (.int (1 : Int32))] h n0 (fun v h' => v = some (.int 0) ∧ h' = h) := by
  refine ConG.of_W (Ls := #[.val (.ref b), .val (.int (1 : Int32))]) (plainFor_of_name pn_4) hn (fun m => by first | (simp [entryFrame, mkF, argsToLocals, Value.category]; done) | rfl) ?_
  refine W.iloadN 1 d_jdk_52_method_15_0 rfl rfl ?_
  refine W.aloadN 2 d_jdk_52_method_15_1 rfl rfl rfl ?_
  refine W.arraylength 3 d_jdk_52_method_15_2 rfl A (1 : Int32) rfl ?_
  refine W.isub 4 d_jdk_52_method_15_3 rfl (0 : Int32) (by decide) ?_
  refine W.bipush 6 d_jdk_52_method_15_4 rfl (31 : Int32) rfl ?_
  refine W.iushr 7 d_jdk_52_method_15_6 rfl (0 : Int32) (by decide) ?_
  refine W.i2b 8 d_jdk_52_method_15_7 rfl (0 : Int32) (by decide) ?_
  exact W.ireturnN (t := .byte) d_jdk_52_method_15_8 rfl (by simp) (0 : Int32) rfl ⟨rfl, rfl⟩ (by decide) (by decide)
theorem c_i41s (l : Launch) (Z : State) (a0 : Array Value) (hw : HwT Z a0) (a src : Addr) (kc : Int32) (hkc : ¬ kc = 0) (c0 : Int32) (h : Heap) (n0 : Nat) (hn : n0 ≤ h.size) (ne : a ≠ src) (ga : n0 ≤ a) (FS : Sta Z h "java/lang/String" "COMPACT_STRINGS" "Z" (.int kc)) (E : Exa Z h a "java/lang/String") (C : Fld Z h a "java/lang/String" "coder" "B" (.int 0)) (V : Fld Z h a "java/lang/String" "value" "[B" .null) (As : Ary Z h src .char [(.int c0)]) (Hc0 : ChOk c0) : Con l Z (⟨"java/lang/String", "<init>", "([CIILjava/lang/Void;)V"⟩ : MethodName) jdk_42_method_149_code 6 none ({ frames := 2, cells := 1, slots := 1, locals := 48 } : Room) #[(.ref a), (.ref src), (.int (0 : Int32)), (.int (1 : Int32)), .null] h n0 (fun v h' => v = none ∧ Keep h h' [a] ∧ ∃ b, Fld Z h' a "java/lang/String" "coder" "B" (.int 0) ∧ Fld Z h' a "java/lang/String" "value" "[B" (.ref b) ∧ Ary Z h' b .byte [(.int (c0.toInt8.toInt32))]) := by
  refine ConG.of_W (Ls := #[.val (.ref a), .val (.ref src), .val (.int (0 : Int32)), .val (.int (1 : Int32)), .val .null, .unset]) (plainFor_of_name pn_2) hn (fun m => by first | (simp [entryFrame, mkF, argsToLocals, Value.category]; done) | rfl) ?_
  refine W.aloadN 1 d_jdk_42_method_149_0 rfl rfl rfl ?_
  refine W.initObj 4 d_jdk_42_method_149_1 rfl (wd_15 hw) (wd_16 hw) (wd_17 hw) rfl (by decide) 0 (Nat.le_of_ble_eq_true rfl) (by decide) ?_
  refine W.iloadN 5 d_jdk_42_method_149_4 rfl rfl ?_
  refine W.if_ne 27 8 d_jdk_42_method_149_5 rfl rfl (fun _ => ?_) (fun hc => absurd hc (by decide))
  refine W.getstatic 30 d_jdk_42_method_149_27 rfl (host := "") (Or.inl (wd_37 hw)) Via.refl FS ?_
  refine W.if_eq 58 33 d_jdk_42_method_149_30 rfl rfl (fun hc => absurd hc hkc) (fun _ => ?_)
  refine W.aloadN 34 d_jdk_42_method_149_33 rfl rfl rfl ?_
  refine W.iloadN 35 d_jdk_42_method_149_34 rfl rfl ?_
  refine W.iloadN 36 d_jdk_42_method_149_35 rfl rfl ?_
  refine W.callS (rest := []) (argsL := [(.ref src), (.int (0 : Int32)), (.int (1 : Int32))]) 39 d_jdk_42_method_149_36 rfl (fun hn => c_cb1s l Z a0 hw src c0 _ n0 hn As Hc0) (wd_43 hw) (wd_44 hw) (wd_45 hw) (wd_46 hw) (by decide) pd_7 rfl rfl rfl (by decide) 0 (Nat.le_of_ble_eq_true rfl) (by decide) (by decide) (by decide) ?_
  rintro v1085 h1085 ⟨d1085, rfl, sz1085, gd1085, K1085, A1085⟩
  have ne1086 : a ≠ d1085 := Nat.ne_of_lt (Nat.lt_of_lt_of_le E.lt sz1085)
  have ne1087 : src ≠ d1085 := Nat.ne_of_lt (Nat.lt_of_lt_of_le As.lt sz1085)
  have sz1088 := Nat.le_trans (Keep.refl _ [a]).1 sz1085
  have kc1089 := Keep.trans (ws := [a]) (Keep.refl _ [a]) K1085 all0
  show WG _ _ _ _ _ _ _ _ _ _ _ _ 1 1 39 #[.val (.ref a), .val (.ref src), .val (.int (0 : Int32)), .val (.int (1 : Int32)), .val .null, .unset] [(.ref d1085)]
  refine W.astore 41 d_jdk_42_method_149_39 rfl rfl #[.val (.ref a), .val (.ref src), .val (.int (0 : Int32)), .val (.int (1 : Int32)), .val .null, .val (.ref d1085)] rfl ?_
  refine W.aloadN 42 d_jdk_42_method_149_41 rfl rfl rfl ?_
  refine W.aload 44 d_jdk_42_method_149_42 rfl rfl rfl ?_
  refine W.iloadN 45 d_jdk_42_method_149_44 rfl rfl ?_
  refine W.callS (rest := [(.ref a)]) (argsL := [(.ref d1085), (.int (1 : Int32))]) 48 d_jdk_42_method_149_45 rfl (fun hn => c_cl1 l Z a0 hw d1085 (c0.toInt8.toInt32) _ n0 hn A1085) (wd_50 hw) (wd_51 hw) (wd_45 hw) (wd_52 hw) (by decide) pd_8 rfl rfl rfl (by decide) 1 (Nat.le_of_ble_eq_true rfl) (by decide) (by decide) (by decide) ?_
  rintro v1090 h1090 ⟨rfl, rfl⟩
  show WG _ _ _ _ _ _ _ _ _ _ _ _ 1 1 48 #[.val (.ref a), .val (.ref src), .val (.int (0 : Int32)), .val (.int (1 : Int32)), .val .null, .val (.ref d1085)] [(.int (0 : Int32)), (.ref a)]
  have q1091 := (C.keep K1085 nin0)
  have q1092 := (E.keep K1085)
  refine W.putfieldN 51 d_jdk_42_method_149_48 rfl (wd_25 hw) Via.refl q1091 q1092 (Or.inr ⟨(wd_21 hw), rfl, rfl⟩) (wd_6 hw) (ty := .byte) (by decide) (.int (0 : Int32)) rfl rfl ga ?_
  intro h1093 W1093 F1093 E1093 K1093
  have kc1094 := Keep.trans (ws := [a]) kc1089 K1093 (allS (Or.inl (List.mem_of_getElem? (i := 0) rfl)) all0)
  refine W.aloadN 52 d_jdk_42_method_149_51 rfl rfl rfl ?_
  refine W.aload 54 d_jdk_42_method_149_52 rfl rfl rfl ?_
  have q1095 := ((V.keep K1085 nin0).other W1093 (Or.inr (sne_1 hw)))
  refine W.putfield 57 d_jdk_42_method_149_54 rfl (host := "") (Or.inl (wd_24 hw)) Via.refl q1095 E1093 (Or.inr ⟨(wd_20 hw), rfl, rfl⟩) (wd_6 hw) (ty := (.array .byte)) (by decide) rfl rfl ga ?_
  intro h1096 W1096 F1096 E1096 K1096
  have kc1097 := Keep.trans (ws := [a]) kc1094 K1096 (allS (Or.inl (List.mem_of_getElem? (i := 0) rfl)) all0)
  have q1098 := (F1093.other W1096 (Or.inr (sne_0 hw)))
  have q1099 := ((A1085.keep K1093 (ninS (Ne.symm ne1086) nin0)).keep K1096 (ninS (Ne.symm ne1086) nin0))
  exact W.return_ d_jdk_42_method_149_57 rfl ⟨rfl, kc1097, d1085, q1098, F1096, q1099⟩ (by decide) (by decide)
theorem c_i11s (l : Launch) (Z : State) (a0 : Array Value) (hw : HwT Z a0) (a src : Addr) (kc : Int32) (hkc : ¬ kc = 0) (c0 : Int32) (h : Heap) (n0 : Nat) (hn : n0 ≤ h.size) (ne : a ≠ src) (ga : n0 ≤ a) (FS : Sta Z h "java/lang/String" "COMPACT_STRINGS" "Z" (.int kc)) (E : Exa Z h a "java/lang/String") (C : Fld Z h a "java/lang/String" "coder" "B" (.int 0)) (V : Fld Z h a "java/lang/String" "value" "[B" .null) (As : Ary Z h src .char [(.int c0)]) (Hc0 : ChOk c0) : Con l Z (⟨"java/lang/String", "<init>", "([C)V"⟩ : MethodName) jdk_42_method_3_code 2 none ({ frames := 3, cells := 1, slots := 1, locals := 72 } : Room) #[(.ref a), (.ref src)] h n0 (fun v h' => v = none ∧ Keep h h' [a] ∧ ∃ b, Fld Z h' a "java/lang/String" "coder" "B" (.int 0) ∧ Fld Z h' a "java/lang/String" "value" "[B" (.ref b) ∧ Ary Z h' b .byte [(.int (c0.toInt8.toInt32))]) := by
  refine ConG.of_W (Ls := #[.val (.ref a), .val (.ref src)]) (plainFor_of_name pn_2) hn (fun m => by first | (simp [entryFrame, mkF, argsToLocals, Value.category]; done) | rfl) ?_
  refine W.aloadN 1 d_jdk_42_method_3_0 rfl rfl rfl ?_
  refine W.aloadN 2 d_jdk_42_method_3_1 rfl rfl rfl ?_
  refine W.iconst 3 d_jdk_42_method_3_2 rfl (0 : Int32) rfl ?_
  refine W.aloadN 4 d_jdk_42_method_3_3 rfl rfl rfl ?_
  refine W.arraylength 5 d_jdk_42_method_3_4 rfl As (1 : Int32) rfl ?_
  refine W.aconst_null 6 d_jdk_42_method_3_5 rfl ?_
  refine W.callInit (rest := []) (argsL := [(.ref src), (.int (0 : Int32)), (.int (1 : Int32)), .null]) (a := a) 9 d_jdk_42_method_3_6 rfl (fun hn => c_i41s l Z a0 hw a src kc hkc c0 _ n0 hn ne ga FS E C V As Hc0) rfl (wd_11 hw) (wd_12 hw) (wd_7 hw) (wd_14 hw) (by decide) pd_2 rfl rfl rfl (by decide) 0 (Nat.le_of_ble_eq_true rfl) (by decide) (by decide) (by decide) ?_
  rintro v1100 h1100 ⟨rfl, K1100, b1100, C1100, V1100, A1100⟩
  have kc1101 := Keep.trans (ws := [a]) (Keep.refl _ [a]) K1100 (allS (Or.inl (List.mem_of_getElem? (i := 0) rfl)) all0)
  show WG _ _ _ _ _ _ _ _ _ _ _ _ 1 1 9 #[.val (.ref a), .val (.ref src)] []
  exact W.return_ d_jdk_42_method_3_9 rfl ⟨rfl, kc1101, b1100, C1100, V1100, A1100⟩ (by decide) (by decide)
theorem law_1 (l : Launch) (Z : State) (a0 : Array Value) (hw : HwT Z a0) (p0 p1 p2 p3 : Int32) (kc : Int32) (hkc : ¬ kc = 0) (h : Heap) (n0 : Nat) (hn : n0 ≤ h.size) (FS : Sta Z h "java/lang/String" "COMPACT_STRINGS" "Z" (.int kc)) (e3 : p0 &&& 3 = 1) : ConX Z consts_1 [] tables_1 l x code maxLocals ret room_1 #[(.int p0), (.int p1), (.int p2), (.int p3)] h n0 (fun v _ => v = some (.int 1)) := by
  refine ConX.of_W (Ls := #[.val (.int p0), .val (.int p1), .val (.int p2), .val (.int p3), .unset, .unset, .unset, .unset, .unset, .unset, .unset, .unset]) (plainFor_of_name pn_0) hn (fun m => by first | (simp [entryFrame, mkF, argsToLocals, Value.category, maxLocals]; done) | rfl) ?_
  have hv0 := HV.here (Z := Z) (EL := consts_1) (h := h) (S := [])
  refine W.iloadN 1 at_0 rfl rfl ?_
  refine W.iconst 2 at_1 rfl (3 : Int32) rfl ?_
  refine W.iand 3 at_2 rfl (1 : Int32) e3 ?_
  refine W.istore 5 at_3 rfl #[.val (.int p0), .val (.int p1), .val (.int p2), .val (.int p3), .val (.int (1 : Int32)), .unset, .unset, .unset, .unset, .unset, .unset, .unset] rfl ?_
  refine W.iloadN 6 at_5 rfl rfl ?_
  refine W.callS (rest := []) (argsL := [(.int p1)]) 9 at_6 rfl (fun hn => c_pick l Z a0 hw p1 _ n0 hn) (wd_0 hw) (wd_1 hw) (wd_2 hw) (wd_3 hw) (by decide) pd_3 rfl rfl rfl (by decide) 0 (Nat.le_of_ble_eq_true rfl) (by decide) (by decide) (by decide) ?_
  rintro v1102 h1102 ⟨c1102, rfl, H1102, rfl⟩
  show WG _ _ _ _ _ _ _ _ _ _ _ _ 0 0 9 #[.val (.int p0), .val (.int p1), .val (.int p2), .val (.int p3), .val (.int (1 : Int32)), .unset, .unset, .unset, .unset, .unset, .unset, .unset] [(.int c1102)]
  refine W.istore 11 at_9 rfl #[.val (.int p0), .val (.int p1), .val (.int p2), .val (.int p3), .val (.int (1 : Int32)), .val (.int c1102), .unset, .unset, .unset, .unset, .unset, .unset] rfl ?_
  refine W.iloadN 12 at_11 rfl rfl ?_
  refine W.callS (rest := []) (argsL := [(.int p2)]) 15 at_12 rfl (fun hn => c_pick l Z a0 hw p2 _ n0 hn) (wd_0 hw) (wd_1 hw) (wd_2 hw) (wd_3 hw) (by decide) pd_3 rfl rfl rfl (by decide) 0 (Nat.le_of_ble_eq_true rfl) (by decide) (by decide) (by decide) ?_
  rintro v1103 h1103 ⟨c1103, rfl, H1103, rfl⟩
  show WG _ _ _ _ _ _ _ _ _ _ _ _ 0 0 15 #[.val (.int p0), .val (.int p1), .val (.int p2), .val (.int p3), .val (.int (1 : Int32)), .val (.int c1102), .unset, .unset, .unset, .unset, .unset, .unset] [(.int c1103)]
  refine W.istore 17 at_15 rfl #[.val (.int p0), .val (.int p1), .val (.int p2), .val (.int p3), .val (.int (1 : Int32)), .val (.int c1102), .val (.int c1103), .unset, .unset, .unset, .unset, .unset] rfl ?_
  refine W.iloadN 18 at_17 rfl rfl ?_
  refine W.callS (rest := []) (argsL := [(.int p3)]) 21 at_18 rfl (fun hn => c_pick l Z a0 hw p3 _ n0 hn) (wd_0 hw) (wd_1 hw) (wd_2 hw) (wd_3 hw) (by decide) pd_3 rfl rfl rfl (by decide) 0 (Nat.le_of_ble_eq_true rfl) (by decide) (by decide) (by decide) ?_
  rintro v1104 h1104 ⟨c1104, rfl, H1104, rfl⟩
  show WG _ _ _ _ _ _ _ _ _ _ _ _ 0 0 21 #[.val (.int p0), .val (.int p1), .val (.int p2), .val (.int p3), .val (.int (1 : Int32)), .val (.int c1102), .val (.int c1103), .unset, .unset, .unset, .unset, .unset] [(.int c1104)]
  refine W.istore 23 at_21 rfl #[.val (.int p0), .val (.int p1), .val (.int p2), .val (.int p3), .val (.int (1 : Int32)), .val (.int c1102), .val (.int c1103), .val (.int c1104), .unset, .unset, .unset, .unset] rfl ?_
  refine W.iload 25 at_23 rfl rfl ?_
  refine W.newarray 27 at_25 rfl (wd_4 hw) rfl (by decide) 1 1 (by decide) (by decide) (by decide) (by decide) (by decide) rfl ?_
  intro h1105 b1105 g1105 ge1105 X1105 K1105 A1105
  have hv1106 := HV.new hv0 K1105 all0 (Nat.le_of_eq g1105.symm)
  have A1105 : Ary _ _ b1105 .char [(.int (0 : Int32))] := A1105
  show WG _ _ _ _ _ _ _ _ _ _ _ _ 1 1 27 #[.val (.int p0), .val (.int p1), .val (.int p2), .val (.int p3), .val (.int (1 : Int32)), .val (.int c1102), .val (.int c1103), .val (.int c1104), .unset, .unset, .unset, .unset] [(.ref b1105)]
  refine W.astore 29 at_27 rfl rfl #[.val (.int p0), .val (.int p1), .val (.int p2), .val (.int p3), .val (.int (1 : Int32)), .val (.int c1102), .val (.int c1103), .val (.int c1104), .val (.ref b1105), .unset, .unset, .unset] rfl ?_
  refine W.iload 31 at_29 rfl rfl ?_
  refine W.if_le 40 34 at_31 rfl rfl (fun hc => absurd (by decide) hc) (fun _ => ?_)
  refine W.aload 36 at_34 rfl rfl rfl ?_
  refine W.iconst 37 at_36 rfl (0 : Int32) rfl ?_
  refine W.iload 39 at_37 rfl rfl ?_
  refine W.castore 40 at_39 rfl A1105 0 (by decide) (by decide) (Nat.le_of_ble_eq_true rfl) c1102 (ch_nar H1102) ge1105 ?_
  intro h1107 W1107 K1107 A1107
  have hv1108 := HV.keep hv1106 K1107 (allS (List.mem_of_getElem? (i := 0) rfl) all0)
  have A1107 : Ary _ _ b1105 .char [(.int c1102)] := A1107
  refine W.iload 42 at_40 rfl rfl ?_
  refine W.iconst 43 at_42 rfl (1 : Int32) rfl ?_
  refine W.icmp_le 52 46 at_43 rfl rfl (fun _ => ?_) (fun hc => absurd hc (by decide))
  refine W.iload 54 at_52 rfl rfl ?_
  refine W.iconst 55 at_54 rfl (2 : Int32) rfl ?_
  refine W.icmp_le 64 58 at_55 rfl rfl (fun _ => ?_) (fun hc => absurd hc (by decide))
  refine W.new 67 at_64 rfl (wd_5 hw) (wd_6 hw) (wd_7 hw) (by decide) (by decide) ?_
  intro h1109 o1109 g1109 ge1109 X1109 K1109 E1109 D1109
  have ne1110 : b1105 ≠ o1109 := Nat.ne_of_lt (Nat.lt_of_lt_of_eq A1107.lt g1109.symm)
  have hv1111 := HV.new hv1108 K1109 all0 (Nat.le_of_eq g1109.symm)
  have f1112 : Fld _ _ o1109 "java/lang/String" "value" "[B" .null := D1109 (Or.inr (wd_20 hw)) (ty := (.array .byte)) (by decide)
  have f1113 : Fld _ _ o1109 "java/lang/String" "coder" "B" (.int (0 : Int32)) := D1109 (Or.inr (wd_21 hw)) (ty := .byte) (by decide)
  show WG _ _ _ _ _ _ _ _ _ _ _ _ 2 5 67 #[.val (.int p0), .val (.int p1), .val (.int p2), .val (.int p3), .val (.int (1 : Int32)), .val (.int c1102), .val (.int c1103), .val (.int c1104), .val (.ref b1105), .unset, .unset, .unset] [(.ref o1109)]
  refine W.dup 68 at_67 rfl rfl ?_
  refine W.aload 70 at_68 rfl rfl rfl ?_
  have q1114 := (Sta.ext X1109 (Sta.wr W1107 (Sta.ext X1105 FS)))
  have q1115 := (A1107.keep K1109 nin0)
  refine W.callInit (rest := [(.ref o1109)]) (argsL := [(.ref b1105)]) (a := o1109) 73 at_70 rfl (fun hn => c_i11s l Z a0 hw o1109 b1105 kc hkc c1102 _ n0 hn (Ne.symm ne1110) ge1109 q1114 E1109 f1113 f1112 q1115 H1102) rfl (wd_8 hw) (wd_9 hw) (wd_7 hw) (wd_10 hw) (by decide) pd_4 rfl rfl rfl (by decide) 1 (Nat.le_of_ble_eq_true rfl) (by decide) (by decide) (by decide) ?_
  rintro v1116 h1116 ⟨rfl, K1116, b1116, C1116, V1116, A1116⟩
  have hv1117 := HV.keep hv1111 K1116 (allS (List.mem_of_getElem? (i := 0) rfl) all0)
  show WG _ _ _ _ _ _ _ _ _ _ _ _ 3 6 73 #[.val (.int p0), .val (.int p1), .val (.int p2), .val (.int p3), .val (.int (1 : Int32)), .val (.int c1102), .val (.int c1103), .val (.int c1104), .val (.ref b1105), .unset, .unset, .unset] [(.ref o1109)]
  refine W.astore 75 at_73 rfl rfl #[.val (.int p0), .val (.int p1), .val (.int p2), .val (.int p3), .val (.int (1 : Int32)), .val (.int c1102), .val (.int c1103), .val (.int c1104), .val (.ref b1105), .val (.ref o1109), .unset, .unset] rfl ?_
  refine W.aload 77 at_75 rfl rfl rfl ?_
  have q1118 := (Sta.keepN K1116 (allS E1109.nostat all0) q1114)
  have q1119 := (E1109.keep K1116)
  have q1121 := (q1115.keep K1116 (ninS ne1110 nin0))
  refine W.callSX (rest := []) (argsL := [(.ref o1109)]) 80 at_77 rfl (fun hn => c_src1 l Z a0 hw o1109 b1116 kc hkc (c1102.toInt8.toInt32) _ n0 hn q1118 q1119 C1116 V1116 A1116) (wd_26 hw) (wd_27 hw) (wd_28 hw) (wd_29 hw) (by decide) pd_5 rfl rfl rfl (by decide) 0 (Nat.le_of_ble_eq_true rfl) (by decide) (by decide) (by decide) (own_EL hw) hv1117 (allS q1119.lt (allS q1121.lt all0)) (allS (List.mem_of_getElem? (i := 0) rfl) all0) ?_
  rintro v1120 h1120 (⟨q1120, K1120, r1120, b1120, rfl, E1120, C1120, V1120, A1120⟩ | ⟨q1120, rfl, K1120⟩)
  · have hv1120 := HV.here (Z := Z) (EL := consts_1) (h := h1120) (S := [o1109, b1105])
    show WG _ _ _ _ _ _ _ _ _ _ _ _ 7 74 80 #[.val (.int p0), .val (.int p1), .val (.int p2), .val (.int p3), .val (.int (1 : Int32)), .val (.int c1102), .val (.int c1103), .val (.int c1104), .val (.ref b1105), .val (.ref o1109), .unset, .unset] [(.ref r1120)]
    refine W.astore 82 at_80 rfl rfl #[.val (.int p0), .val (.int p1), .val (.int p2), .val (.int p3), .val (.int (1 : Int32)), .val (.int c1102), .val (.int c1103), .val (.int c1104), .val (.ref b1105), .val (.ref o1109), .val (.ref r1120), .unset] rfl ?_
    refine W.iload 84 at_82 rfl rfl ?_
    refine W.iconst 85 at_84 rfl (1 : Int32) rfl ?_
    refine W.icmp_ne 99 88 at_85 rfl rfl (fun hc => absurd (by decide) hc) (fun _ => ?_)
    refine W.iload 90 at_88 rfl rfl ?_
    refine W.bipush 92 at_90 rfl (45 : Int32) rfl ?_
    refine W.icmp_ne 99 95 at_92 rfl rfl (fun hc => absurd (own_45 H1102 q1120) hc) (fun _ => ?_)
    refine W.iconst 96 at_95 rfl (1 : Int32) rfl ?_
    refine W.goto 100 at_96 rfl ?_
    refine W.istore 102 at_100 rfl #[.val (.int p0), .val (.int p1), .val (.int p2), .val (.int p3), .val (.int (1 : Int32)), .val (.int c1102), .val (.int c1103), .val (.int c1104), .val (.ref b1105), .val (.ref o1109), .val (.ref r1120), .val (.int (1 : Int32))] rfl ?_
    refine W.iload 104 at_102 rfl rfl ?_
    refine W.if_eq 115 107 at_104 rfl rfl (fun hc => absurd hc (by decide)) (fun _ => ?_)
    have q1123 := (q1119.keep K1120)
    have q1124 := (q1121.keep K1120 nin0)
    refine W.ldcX 109 at_107 rfl (wd_54 hw) (own_wS hw) (own_EL hw) (List.mem_of_getElem? (i := 2) rfl) hv1120 (allS q1123.lt (allS q1124.lt all0)) [(.int (115 : Int32)), (.int (116 : Int32)), (.int (97 : Int32)), (.int (110 : Int32)), (.int (100 : Int32)), (.int (97 : Int32)), (.int (114 : Int32)), (.int (100 : Int32)), (.int (32 : Int32)), (.int (105 : Int32)), (.int (110 : Int32)), (.int (112 : Int32)), (.int (117 : Int32)), (.int (116 : Int32))] ⟨by decide, rfl⟩ (by decide) 56 (by decide) (by decide) (by decide) (by decide) ?_
    intro h1122 la1122 lb1122 X1122 K1122 E1122 C1122 V1122 A1122 N1122
    have hv1122 := HV.here (Z := Z) (EL := consts_1) (h := h1122) (S := [o1109, b1105])
    show WG _ _ _ _ _ _ _ _ _ _ _ _ 9 134 109 #[.val (.int p0), .val (.int p1), .val (.int p2), .val (.int p3), .val (.int (1 : Int32)), .val (.int c1102), .val (.int c1103), .val (.int c1104), .val (.ref b1105), .val (.ref o1109), .val (.ref r1120), .val (.int (1 : Int32))] [(.ref la1122)]
    refine W.aload 111 at_109 rfl rfl rfl ?_
    have q1125 := (Sta.ext X1122 (Sta.keepN K1120 all0 q1118))
    have q1126 := (E1120.keep K1122)
    have q1127 := (C1120.keep K1122 nin0)
    have q1128 := (V1120.keep K1122 nin0)
    have q1129 := (A1120.keep K1122 nin0)
    refine W.callV (rest := []) (argsL := [(.ref r1120)]) (a := la1122) 114 at_111 rfl (fun hn => c_eqsi l Z a0 hw la1122 r1120 lb1122 b1120 kc hkc _ n0 hn q1125 E1122 C1122 V1122 A1122 q1126 q1127 q1128 q1129) E1122 (wd_42 hw) (wd_32 hw) (wd_34 hw) rfl (wd_33 hw) (wd_7 hw) (wd_35 hw) (by decide) pd_1 rfl rfl rfl (by decide) 0 (Nat.le_of_ble_eq_true rfl) (by decide) (by decide) (by decide) ?_
    rintro v1130 h1130 ⟨rfl, rfl⟩
    show WG _ _ _ _ _ _ _ _ _ _ _ _ 9 134 114 #[.val (.int p0), .val (.int p1), .val (.int p2), .val (.int p3), .val (.int (1 : Int32)), .val (.int c1102), .val (.int c1103), .val (.int c1104), .val (.ref b1105), .val (.ref o1109), .val (.ref r1120), .val (.int (1 : Int32))] [(.int (1 : Int32))]
    refine WG.retX (own_EL hw) hv1122 ?_
    exact W.ireturnN (t := .boolean) at_114 rfl (by simp) (1 : Int32) rfl ⟨rfl, rfl⟩ (by decide) (by decide)
  · have hv1120 := HV.here (Z := Z) (EL := consts_1) (h := h1120) (S := [o1109, b1105])
    show WG _ _ _ _ _ _ _ _ _ _ _ _ 7 74 80 #[.val (.int p0), .val (.int p1), .val (.int p2), .val (.int p3), .val (.int (1 : Int32)), .val (.int c1102), .val (.int c1103), .val (.int c1104), .val (.ref b1105), .val (.ref o1109), .unset, .unset] [(.ref o1109)]
    refine W.astore 82 at_80 rfl rfl #[.val (.int p0), .val (.int p1), .val (.int p2), .val (.int p3), .val (.int (1 : Int32)), .val (.int c1102), .val (.int c1103), .val (.int c1104), .val (.ref b1105), .val (.ref o1109), .val (.ref o1109), .unset] rfl ?_
    refine W.iload 84 at_82 rfl rfl ?_
    refine W.iconst 85 at_84 rfl (1 : Int32) rfl ?_
    refine W.icmp_ne 99 88 at_85 rfl rfl (fun hc => absurd (by decide) hc) (fun _ => ?_)
    refine W.iload 90 at_88 rfl rfl ?_
    refine W.bipush 92 at_90 rfl (45 : Int32) rfl ?_
    refine W.icmp_ne 99 95 at_92 rfl rfl (fun _ => ?_) (fun hc => absurd hc (own_n45 q1120))
    refine W.iconst 100 at_99 rfl (0 : Int32) rfl ?_
    refine W.istore 102 at_100 rfl #[.val (.int p0), .val (.int p1), .val (.int p2), .val (.int p3), .val (.int (1 : Int32)), .val (.int c1102), .val (.int c1103), .val (.int c1104), .val (.ref b1105), .val (.ref o1109), .val (.ref o1109), .val (.int (0 : Int32))] rfl ?_
    refine W.iload 104 at_102 rfl rfl ?_
    refine W.if_eq 115 107 at_104 rfl rfl (fun _ => ?_) (fun hc => absurd (by decide) hc)
    refine W.aload 117 at_115 rfl rfl rfl ?_
    refine W.aload 119 at_117 rfl rfl rfl ?_
    have q1132 := (q1119.keep K1120)
    refine W.callV (rest := []) (argsL := [(.ref o1109)]) (a := o1109) 122 at_119 rfl (fun hn => c_eqs l Z a0 hw o1109 _ n0 hn) q1132 (wd_42 hw) (wd_32 hw) (wd_34 hw) rfl (wd_33 hw) (wd_7 hw) (wd_35 hw) (by decide) pd_1 rfl rfl rfl (by decide) 0 (Nat.le_of_ble_eq_true rfl) (by decide) (by decide) (by decide) ?_
    rintro v1131 h1131 ⟨rfl, rfl⟩
    show WG _ _ _ _ _ _ _ _ _ _ _ _ 7 74 122 #[.val (.int p0), .val (.int p1), .val (.int p2), .val (.int p3), .val (.int (1 : Int32)), .val (.int c1102), .val (.int c1103), .val (.int c1104), .val (.ref b1105), .val (.ref o1109), .val (.ref o1109), .val (.int (0 : Int32))] [(.int (1 : Int32))]
    refine WG.retX (own_EL hw) hv1120 ?_
    exact W.ireturnN (t := .boolean) at_122 rfl (by simp) (1 : Int32) rfl ⟨rfl, rfl⟩ (by decide) (by decide)
theorem c_ci2ss (l : Launch) (Z : State) (a0 : Array Value) (hw : HwT Z a0) (src dst : Addr) (c0 c1 : Int32) (h : Heap) (n0 : Nat) (hn : n0 ≤ h.size) (ne : src ≠ dst) (gd : n0 ≤ dst) (As : Ary Z h src .char [(.int c0), (.int c1)]) (Ad : Ary Z h dst .byte [(.int (0 : Int32)), (.int (0 : Int32))]) (Hc0 : ChOk c0) (Hc1 : ChOk c1) : Con l Z (⟨"java/lang/StringUTF16", "compress", "([CI[BII)I"⟩ : MethodName) jdk_52_method_21_code 7 (some .int) ({ frames := 0, cells := 0, slots := 0, locals := 0 } : Room) #[(.ref src), (.int (0 : Int32)), (.ref dst), (.int (0 : Int32)), (.int (2 : Int32))] h n0 (fun v h' => v = some (.int 2) ∧ Keep h h' [dst] ∧ Ary Z h' dst .byte [(.int (c0.toInt8.toInt32)), (.int (c1.toInt8.toInt32))]) := by
  refine ConG.of_W (Ls := #[.val (.ref src), .val (.int (0 : Int32)), .val (.ref dst), .val (.int (0 : Int32)), .val (.int (2 : Int32)), .unset, .unset]) (plainFor_of_name pn_4) hn (fun m => by first | (simp [entryFrame, mkF, argsToLocals, Value.category]; done) | rfl) ?_
  refine W.iconst 1 d_jdk_52_method_21_0 rfl (0 : Int32) rfl ?_
  refine W.istore 3 d_jdk_52_method_21_1 rfl #[.val (.ref src), .val (.int (0 : Int32)), .val (.ref dst), .val (.int (0 : Int32)), .val (.int (2 : Int32)), .val (.int (0 : Int32)), .unset] rfl ?_
  refine W.iload 5 d_jdk_52_method_21_3 rfl rfl ?_
  refine W.iload 7 d_jdk_52_method_21_5 rfl rfl ?_
  refine W.icmp_ge 44 10 d_jdk_52_method_21_7 rfl rfl (fun hc => absurd (by decide) hc) (fun _ => ?_)
  refine W.aloadN 11 d_jdk_52_method_21_10 rfl rfl rfl ?_
  refine W.iloadN 12 d_jdk_52_method_21_11 rfl rfl ?_
  refine W.caload 13 d_jdk_52_method_21_12 rfl As 0 (by decide) (by decide) (.int c0) rfl ?_
  refine W.istore 15 d_jdk_52_method_21_13 rfl #[.val (.ref src), .val (.int (0 : Int32)), .val (.ref dst), .val (.int (0 : Int32)), .val (.int (2 : Int32)), .val (.int (0 : Int32)), .val (.int c0)] rfl ?_
  refine W.iload 17 d_jdk_52_method_21_15 rfl rfl ?_
  refine W.sipush 20 d_jdk_52_method_21_17 rfl (255 : Int32) rfl ?_
  refine W.icmp_le 26 23 d_jdk_52_method_21_20 rfl rfl (fun _ => ?_) (fun hc => absurd hc (ch_le Hc0))
  refine W.aloadN 27 d_jdk_52_method_21_26 rfl rfl rfl ?_
  refine W.iloadN 28 d_jdk_52_method_21_27 rfl rfl ?_
  refine W.iload 30 d_jdk_52_method_21_28 rfl rfl ?_
  refine W.i2b 31 d_jdk_52_method_21_30 rfl (c0.toInt8.toInt32) rfl ?_
  refine W.bastore 32 d_jdk_52_method_21_31 rfl Ad 0 (by decide) (by decide) (Nat.le_of_ble_eq_true rfl) (c0.toInt8.toInt32) (nar_b c0) gd ?_
  intro h1133 W1133 K1133 A1133
  have kc1134 := Keep.trans (ws := [dst]) (Keep.refl _ [dst]) K1133 (allS (Or.inl (List.mem_of_getElem? (i := 0) rfl)) all0)
  have A1133 : Ary _ _ dst .byte [(.int (c0.toInt8.toInt32)), (.int (0 : Int32))] := A1133
  refine W.iinc 35 d_jdk_52_method_21_32 rfl rfl (1 : Int32) (by decide) #[.val (.ref src), .val (.int (1 : Int32)), .val (.ref dst), .val (.int (0 : Int32)), .val (.int (2 : Int32)), .val (.int (0 : Int32)), .val (.int c0)] rfl ?_
  refine W.iinc 38 d_jdk_52_method_21_35 rfl rfl (1 : Int32) (by decide) #[.val (.ref src), .val (.int (1 : Int32)), .val (.ref dst), .val (.int (1 : Int32)), .val (.int (2 : Int32)), .val (.int (0 : Int32)), .val (.int c0)] rfl ?_
  refine W.iinc 41 d_jdk_52_method_21_38 rfl rfl (1 : Int32) (by decide) #[.val (.ref src), .val (.int (1 : Int32)), .val (.ref dst), .val (.int (1 : Int32)), .val (.int (2 : Int32)), .val (.int (1 : Int32)), .val (.int c0)] rfl ?_
  refine W.goto 3 d_jdk_52_method_21_41 rfl ?_
  refine W.iload 5 d_jdk_52_method_21_3 rfl rfl ?_
  refine W.iload 7 d_jdk_52_method_21_5 rfl rfl ?_
  refine W.icmp_ge 44 10 d_jdk_52_method_21_7 rfl rfl (fun hc => absurd (by decide) hc) (fun _ => ?_)
  refine W.aloadN 11 d_jdk_52_method_21_10 rfl rfl rfl ?_
  refine W.iloadN 12 d_jdk_52_method_21_11 rfl rfl ?_
  have q1135 := (As.keep K1133 (ninS ne nin0))
  refine W.caload 13 d_jdk_52_method_21_12 rfl q1135 1 (by decide) (by decide) (.int c1) rfl ?_
  refine W.istore 15 d_jdk_52_method_21_13 rfl #[.val (.ref src), .val (.int (1 : Int32)), .val (.ref dst), .val (.int (1 : Int32)), .val (.int (2 : Int32)), .val (.int (1 : Int32)), .val (.int c1)] rfl ?_
  refine W.iload 17 d_jdk_52_method_21_15 rfl rfl ?_
  refine W.sipush 20 d_jdk_52_method_21_17 rfl (255 : Int32) rfl ?_
  refine W.icmp_le 26 23 d_jdk_52_method_21_20 rfl rfl (fun _ => ?_) (fun hc => absurd hc (ch_le Hc1))
  refine W.aloadN 27 d_jdk_52_method_21_26 rfl rfl rfl ?_
  refine W.iloadN 28 d_jdk_52_method_21_27 rfl rfl ?_
  refine W.iload 30 d_jdk_52_method_21_28 rfl rfl ?_
  refine W.i2b 31 d_jdk_52_method_21_30 rfl (c1.toInt8.toInt32) rfl ?_
  refine W.bastore 32 d_jdk_52_method_21_31 rfl A1133 1 (by decide) (by decide) (Nat.le_of_ble_eq_true rfl) (c1.toInt8.toInt32) (nar_b c1) gd ?_
  intro h1136 W1136 K1136 A1136
  have kc1137 := Keep.trans (ws := [dst]) kc1134 K1136 (allS (Or.inl (List.mem_of_getElem? (i := 0) rfl)) all0)
  have A1136 : Ary _ _ dst .byte [(.int (c0.toInt8.toInt32)), (.int (c1.toInt8.toInt32))] := A1136
  refine W.iinc 35 d_jdk_52_method_21_32 rfl rfl (2 : Int32) (by decide) #[.val (.ref src), .val (.int (2 : Int32)), .val (.ref dst), .val (.int (1 : Int32)), .val (.int (2 : Int32)), .val (.int (1 : Int32)), .val (.int c1)] rfl ?_
  refine W.iinc 38 d_jdk_52_method_21_35 rfl rfl (2 : Int32) (by decide) #[.val (.ref src), .val (.int (2 : Int32)), .val (.ref dst), .val (.int (2 : Int32)), .val (.int (2 : Int32)), .val (.int (1 : Int32)), .val (.int c1)] rfl ?_
  refine W.iinc 41 d_jdk_52_method_21_38 rfl rfl (2 : Int32) (by decide) #[.val (.ref src), .val (.int (2 : Int32)), .val (.ref dst), .val (.int (2 : Int32)), .val (.int (2 : Int32)), .val (.int (2 : Int32)), .val (.int c1)] rfl ?_
  refine W.goto 3 d_jdk_52_method_21_41 rfl ?_
  refine W.iload 5 d_jdk_52_method_21_3 rfl rfl ?_
  refine W.iload 7 d_jdk_52_method_21_5 rfl rfl ?_
  refine W.icmp_ge 44 10 d_jdk_52_method_21_7 rfl rfl (fun _ => ?_) (fun hc => absurd hc (by decide))
  refine W.iload 46 d_jdk_52_method_21_44 rfl rfl ?_
  exact W.ireturn d_jdk_52_method_21_46 rfl ⟨rfl, kc1137, A1136⟩ (by decide) (by decide)
theorem c_cb2ss (l : Launch) (Z : State) (a0 : Array Value) (hw : HwT Z a0) (src : Addr) (c0 c1 : Int32) (h : Heap) (n0 : Nat) (hn : n0 ≤ h.size) (As : Ary Z h src .char [(.int c0), (.int c1)]) (Hc0 : ChOk c0) (Hc1 : ChOk c1) : Con l Z (⟨"java/lang/StringUTF16", "compress", "([CII)[B"⟩ : MethodName) jdk_52_method_16_code 6 (some (.array .byte)) ({ frames := 1, cells := 1, slots := 2, locals := 24 } : Room) #[(.ref src), (.int (0 : Int32)), (.int (2 : Int32))] h n0 (fun v h' => ∃ d, v = some (.ref d) ∧ h.size ≤ d ∧ n0 ≤ d ∧ Keep h h' [] ∧ Ary Z h' d .byte [(.int (c0.toInt8.toInt32)), (.int (c1.toInt8.toInt32))]) := by
  refine ConG.of_W (Ls := #[.val (.ref src), .val (.int (0 : Int32)), .val (.int (2 : Int32)), .unset, .unset, .unset]) (plainFor_of_name pn_4) hn (fun m => by first | (simp [entryFrame, mkF, argsToLocals, Value.category]; done) | rfl) ?_
  refine W.iloadN 1 d_jdk_52_method_16_0 rfl rfl ?_
  refine W.newarray 3 d_jdk_52_method_16_1 rfl (wd_19 hw) rfl (by decide) 2 2 (by decide) (by decide) (by decide) (by decide) (by decide) rfl ?_
  intro h1138 b1138 g1138 ge1138 X1138 K1138 A1138
  have ne1139 : src ≠ b1138 := Nat.ne_of_lt (Nat.lt_of_lt_of_eq As.lt g1138.symm)
  have sz1140 := Nat.le_trans (Keep.refl _ []).1 (Nat.le_of_eq g1138.symm)
  have kc1141 := Keep.trans (ws := []) (Keep.refl _ []) K1138 all0
  have A1138 : Ary _ _ b1138 .byte [(.int (0 : Int32)), (.int (0 : Int32))] := A1138
  show WG _ _ _ _ _ _ _ _ _ _ _ _ 1 2 3 #[.val (.ref src), .val (.int (0 : Int32)), .val (.int (2 : Int32)), .unset, .unset, .unset] [(.ref b1138)]
  refine W.astoreN 4 d_jdk_52_method_16_3 rfl rfl #[.val (.ref src), .val (.int (0 : Int32)), .val (.int (2 : Int32)), .val (.ref b1138), .unset, .unset] rfl ?_
  refine W.aloadN 5 d_jdk_52_method_16_4 rfl rfl rfl ?_
  refine W.iloadN 6 d_jdk_52_method_16_5 rfl rfl ?_
  refine W.aloadN 7 d_jdk_52_method_16_6 rfl rfl rfl ?_
  refine W.iconst 8 d_jdk_52_method_16_7 rfl (0 : Int32) rfl ?_
  refine W.iloadN 9 d_jdk_52_method_16_8 rfl rfl ?_
  have q1142 := (As.keep K1138 nin0)
  refine W.callS (rest := []) (argsL := [(.ref src), (.int (0 : Int32)), (.ref b1138), (.int (0 : Int32)), (.int (2 : Int32))]) 12 d_jdk_52_method_16_9 rfl (fun hn => c_ci2ss l Z a0 hw src b1138 c0 c1 _ n0 hn ne1139 ge1138 q1142 A1138 Hc0 Hc1) (wd_47 hw) (wd_48 hw) (wd_45 hw) (wd_49 hw) (by decide) pd_6 rfl rfl rfl (by decide) 0 (Nat.le_of_ble_eq_true rfl) (by decide) (by decide) (by decide) ?_
  rintro v1143 h1143 ⟨rfl, K1143, A1143⟩
  have kc1144 := Keep.trans (ws := []) kc1141 K1143 (allS (Or.inr sz1140) all0)
  show WG _ _ _ _ _ _ _ _ _ _ _ _ 1 2 12 #[.val (.ref src), .val (.int (0 : Int32)), .val (.int (2 : Int32)), .val (.ref b1138), .unset, .unset] [(.int (2 : Int32))]
  refine W.istore 14 d_jdk_52_method_16_12 rfl #[.val (.ref src), .val (.int (0 : Int32)), .val (.int (2 : Int32)), .val (.ref b1138), .val (.int (2 : Int32)), .unset] rfl ?_
  refine W.iload 16 d_jdk_52_method_16_14 rfl rfl ?_
  refine W.iloadN 17 d_jdk_52_method_16_16 rfl rfl ?_
  refine W.icmp_eq 57 20 d_jdk_52_method_16_17 rfl rfl (fun _ => ?_) (fun hc => absurd (by decide) hc)
  refine W.aloadN 58 d_jdk_52_method_16_57 rfl rfl rfl ?_
  exact W.areturn d_jdk_52_method_16_58 rfl rfl rfl rfl ⟨_, rfl, sz1140, ge1138, kc1144, A1143⟩ (by decide) (by decide)
theorem c_cl2 (l : Launch) (Z : State) (a0 : Array Value) (hw : HwT Z a0) (b : Addr) (x0 x1 : Int32) (h : Heap) (n0 : Nat) (hn : n0 ≤ h.size) (A : Ary Z h b .byte [(.int x0), (.int x1)]) : Con l Z (⟨"java/lang/StringUTF16", "coderFromArrayLen", "([BI)B"⟩ : MethodName) jdk_52_method_15_code 2 (some .byte) ({ frames := 0, cells := 0, slots := 0, locals := 0 } : Room) #[(.ref b), (.int (2 : Int32))] h n0 (fun v h' => v = some (.int 0) ∧ h' = h) := by
  refine ConG.of_W (Ls := #[.val (.ref b), .val (.int (2 : Int32))]) (plainFor_of_name pn_4) hn (fun m => by first | (simp [entryFrame, mkF, argsToLocals, Value.category]; done) | rfl) ?_
  refine W.iloadN 1 d_jdk_52_method_15_0 rfl rfl ?_
  refine W.aloadN 2 d_jdk_52_method_15_1 rfl rfl rfl ?_
  refine W.arraylength 3 d_jdk_52_method_15_2 rfl A (2 : Int32) rfl ?_
  refine W.isub 4 d_jdk_52_method_15_3 rfl (0 : Int32) (by decide) ?_
  refine W.bipush 6 d_jdk_52_method_15_4 rfl (31 : Int32) rfl ?_
  refine W.iushr 7 d_jdk_52_method_15_6 rfl (0 : Int32) (by decide) ?_
  refine W.i2b 8 d_jdk_52_method_15_7 rfl (0 : Int32) (by decide) ?_
  exact W.ireturnN (t := .byte) d_jdk_52_method_15_8 rfl (by simp) (0 : Int32) rfl ⟨rfl, rfl⟩ (by decide) (by decide)
theorem c_i42ss (l : Launch) (Z : State) (a0 : Array Value) (hw : HwT Z a0) (a src : Addr) (kc : Int32) (hkc : ¬ kc = 0) (c0 c1 : Int32) (h : Heap) (n0 : Nat) (hn : n0 ≤ h.size) (ne : a ≠ src) (ga : n0 ≤ a) (FS : Sta Z h "java/lang/String" "COMPACT_STRINGS" "Z" (.int kc)) (E : Exa Z h a "java/lang/String") (C : Fld Z h a "java/lang/String" "coder" "B" (.int 0)) (V : Fld Z h a "java/lang/String" "value" "[B" .null) (As : Ary Z h src .char [(.int c0), (.int c1)]) (Hc0 : ChOk c0) (Hc1 : ChOk c1) : Con l Z (⟨"java/lang/String", "<init>", "([CIILjava/lang/Void;)V"⟩ : MethodName) jdk_42_method_149_code 6 none ({ frames := 2, cells := 1, slots := 2, locals := 48 } : Room) #[(.ref a), (.ref src), (.int (0 : Int32)), (.int (2 : Int32)), .null] h n0 (fun v h' => v = none ∧ Keep h h' [a] ∧ ∃ b, Fld Z h' a "java/lang/String" "coder" "B" (.int 0) ∧ Fld Z h' a "java/lang/String" "value" "[B" (.ref b) ∧ Ary Z h' b .byte [(.int (c0.toInt8.toInt32)), (.int (c1.toInt8.toInt32))]) := by
  refine ConG.of_W (Ls := #[.val (.ref a), .val (.ref src), .val (.int (0 : Int32)), .val (.int (2 : Int32)), .val .null, .unset]) (plainFor_of_name pn_2) hn (fun m => by first | (simp [entryFrame, mkF, argsToLocals, Value.category]; done) | rfl) ?_
  refine W.aloadN 1 d_jdk_42_method_149_0 rfl rfl rfl ?_
  refine W.initObj 4 d_jdk_42_method_149_1 rfl (wd_15 hw) (wd_16 hw) (wd_17 hw) rfl (by decide) 0 (Nat.le_of_ble_eq_true rfl) (by decide) ?_
  refine W.iloadN 5 d_jdk_42_method_149_4 rfl rfl ?_
  refine W.if_ne 27 8 d_jdk_42_method_149_5 rfl rfl (fun _ => ?_) (fun hc => absurd hc (by decide))
  refine W.getstatic 30 d_jdk_42_method_149_27 rfl (host := "") (Or.inl (wd_37 hw)) Via.refl FS ?_
  refine W.if_eq 58 33 d_jdk_42_method_149_30 rfl rfl (fun hc => absurd hc hkc) (fun _ => ?_)
  refine W.aloadN 34 d_jdk_42_method_149_33 rfl rfl rfl ?_
  refine W.iloadN 35 d_jdk_42_method_149_34 rfl rfl ?_
  refine W.iloadN 36 d_jdk_42_method_149_35 rfl rfl ?_
  refine W.callS (rest := []) (argsL := [(.ref src), (.int (0 : Int32)), (.int (2 : Int32))]) 39 d_jdk_42_method_149_36 rfl (fun hn => c_cb2ss l Z a0 hw src c0 c1 _ n0 hn As Hc0 Hc1) (wd_43 hw) (wd_44 hw) (wd_45 hw) (wd_46 hw) (by decide) pd_7 rfl rfl rfl (by decide) 0 (Nat.le_of_ble_eq_true rfl) (by decide) (by decide) (by decide) ?_
  rintro v1145 h1145 ⟨d1145, rfl, sz1145, gd1145, K1145, A1145⟩
  have ne1146 : a ≠ d1145 := Nat.ne_of_lt (Nat.lt_of_lt_of_le E.lt sz1145)
  have ne1147 : src ≠ d1145 := Nat.ne_of_lt (Nat.lt_of_lt_of_le As.lt sz1145)
  have sz1148 := Nat.le_trans (Keep.refl _ [a]).1 sz1145
  have kc1149 := Keep.trans (ws := [a]) (Keep.refl _ [a]) K1145 all0
  show WG _ _ _ _ _ _ _ _ _ _ _ _ 1 2 39 #[.val (.ref a), .val (.ref src), .val (.int (0 : Int32)), .val (.int (2 : Int32)), .val .null, .unset] [(.ref d1145)]
  refine W.astore 41 d_jdk_42_method_149_39 rfl rfl #[.val (.ref a), .val (.ref src), .val (.int (0 : Int32)), .val (.int (2 : Int32)), .val .null, .val (.ref d1145)] rfl ?_
  refine W.aloadN 42 d_jdk_42_method_149_41 rfl rfl rfl ?_
  refine W.aload 44 d_jdk_42_method_149_42 rfl rfl rfl ?_
  refine W.iloadN 45 d_jdk_42_method_149_44 rfl rfl ?_
  refine W.callS (rest := [(.ref a)]) (argsL := [(.ref d1145), (.int (2 : Int32))]) 48 d_jdk_42_method_149_45 rfl (fun hn => c_cl2 l Z a0 hw d1145 (c0.toInt8.toInt32) (c1.toInt8.toInt32) _ n0 hn A1145) (wd_50 hw) (wd_51 hw) (wd_45 hw) (wd_52 hw) (by decide) pd_8 rfl rfl rfl (by decide) 1 (Nat.le_of_ble_eq_true rfl) (by decide) (by decide) (by decide) ?_
  rintro v1150 h1150 ⟨rfl, rfl⟩
  show WG _ _ _ _ _ _ _ _ _ _ _ _ 1 2 48 #[.val (.ref a), .val (.ref src), .val (.int (0 : Int32)), .val (.int (2 : Int32)), .val .null, .val (.ref d1145)] [(.int (0 : Int32)), (.ref a)]
  have q1151 := (C.keep K1145 nin0)
  have q1152 := (E.keep K1145)
  refine W.putfieldN 51 d_jdk_42_method_149_48 rfl (wd_25 hw) Via.refl q1151 q1152 (Or.inr ⟨(wd_21 hw), rfl, rfl⟩) (wd_6 hw) (ty := .byte) (by decide) (.int (0 : Int32)) rfl rfl ga ?_
  intro h1153 W1153 F1153 E1153 K1153
  have kc1154 := Keep.trans (ws := [a]) kc1149 K1153 (allS (Or.inl (List.mem_of_getElem? (i := 0) rfl)) all0)
  refine W.aloadN 52 d_jdk_42_method_149_51 rfl rfl rfl ?_
  refine W.aload 54 d_jdk_42_method_149_52 rfl rfl rfl ?_
  have q1155 := ((V.keep K1145 nin0).other W1153 (Or.inr (sne_1 hw)))
  refine W.putfield 57 d_jdk_42_method_149_54 rfl (host := "") (Or.inl (wd_24 hw)) Via.refl q1155 E1153 (Or.inr ⟨(wd_20 hw), rfl, rfl⟩) (wd_6 hw) (ty := (.array .byte)) (by decide) rfl rfl ga ?_
  intro h1156 W1156 F1156 E1156 K1156
  have kc1157 := Keep.trans (ws := [a]) kc1154 K1156 (allS (Or.inl (List.mem_of_getElem? (i := 0) rfl)) all0)
  have q1158 := (F1153.other W1156 (Or.inr (sne_0 hw)))
  have q1159 := ((A1145.keep K1153 (ninS (Ne.symm ne1146) nin0)).keep K1156 (ninS (Ne.symm ne1146) nin0))
  exact W.return_ d_jdk_42_method_149_57 rfl ⟨rfl, kc1157, d1145, q1158, F1156, q1159⟩ (by decide) (by decide)
theorem c_i12ss (l : Launch) (Z : State) (a0 : Array Value) (hw : HwT Z a0) (a src : Addr) (kc : Int32) (hkc : ¬ kc = 0) (c0 c1 : Int32) (h : Heap) (n0 : Nat) (hn : n0 ≤ h.size) (ne : a ≠ src) (ga : n0 ≤ a) (FS : Sta Z h "java/lang/String" "COMPACT_STRINGS" "Z" (.int kc)) (E : Exa Z h a "java/lang/String") (C : Fld Z h a "java/lang/String" "coder" "B" (.int 0)) (V : Fld Z h a "java/lang/String" "value" "[B" .null) (As : Ary Z h src .char [(.int c0), (.int c1)]) (Hc0 : ChOk c0) (Hc1 : ChOk c1) : Con l Z (⟨"java/lang/String", "<init>", "([C)V"⟩ : MethodName) jdk_42_method_3_code 2 none ({ frames := 3, cells := 1, slots := 2, locals := 72 } : Room) #[(.ref a), (.ref src)] h n0 (fun v h' => v = none ∧ Keep h h' [a] ∧ ∃ b, Fld Z h' a "java/lang/String" "coder" "B" (.int 0) ∧ Fld Z h' a "java/lang/String" "value" "[B" (.ref b) ∧ Ary Z h' b .byte [(.int (c0.toInt8.toInt32)), (.int (c1.toInt8.toInt32))]) := by
  refine ConG.of_W (Ls := #[.val (.ref a), .val (.ref src)]) (plainFor_of_name pn_2) hn (fun m => by first | (simp [entryFrame, mkF, argsToLocals, Value.category]; done) | rfl) ?_
  refine W.aloadN 1 d_jdk_42_method_3_0 rfl rfl rfl ?_
  refine W.aloadN 2 d_jdk_42_method_3_1 rfl rfl rfl ?_
  refine W.iconst 3 d_jdk_42_method_3_2 rfl (0 : Int32) rfl ?_
  refine W.aloadN 4 d_jdk_42_method_3_3 rfl rfl rfl ?_
  refine W.arraylength 5 d_jdk_42_method_3_4 rfl As (2 : Int32) rfl ?_
  refine W.aconst_null 6 d_jdk_42_method_3_5 rfl ?_
  refine W.callInit (rest := []) (argsL := [(.ref src), (.int (0 : Int32)), (.int (2 : Int32)), .null]) (a := a) 9 d_jdk_42_method_3_6 rfl (fun hn => c_i42ss l Z a0 hw a src kc hkc c0 c1 _ n0 hn ne ga FS E C V As Hc0 Hc1) rfl (wd_11 hw) (wd_12 hw) (wd_7 hw) (wd_14 hw) (by decide) pd_2 rfl rfl rfl (by decide) 0 (Nat.le_of_ble_eq_true rfl) (by decide) (by decide) (by decide) ?_
  rintro v1160 h1160 ⟨rfl, K1160, b1160, C1160, V1160, A1160⟩
  have kc1161 := Keep.trans (ws := [a]) (Keep.refl _ [a]) K1160 (allS (Or.inl (List.mem_of_getElem? (i := 0) rfl)) all0)
  show WG _ _ _ _ _ _ _ _ _ _ _ _ 1 2 9 #[.val (.ref a), .val (.ref src)] []
  exact W.return_ d_jdk_42_method_3_9 rfl ⟨rfl, kc1161, b1160, C1160, V1160, A1160⟩ (by decide) (by decide)
theorem law_2 (l : Launch) (Z : State) (a0 : Array Value) (hw : HwT Z a0) (p0 p1 p2 p3 : Int32) (kc : Int32) (hkc : ¬ kc = 0) (h : Heap) (n0 : Nat) (hn : n0 ≤ h.size) (FS : Sta Z h "java/lang/String" "COMPACT_STRINGS" "Z" (.int kc)) (e3 : p0 &&& 3 = 2) : ConX Z consts_1 [] tables_1 l x code maxLocals ret room_1 #[(.int p0), (.int p1), (.int p2), (.int p3)] h n0 (fun v _ => v = some (.int 1)) := by
  refine ConX.of_W (Ls := #[.val (.int p0), .val (.int p1), .val (.int p2), .val (.int p3), .unset, .unset, .unset, .unset, .unset, .unset, .unset, .unset]) (plainFor_of_name pn_0) hn (fun m => by first | (simp [entryFrame, mkF, argsToLocals, Value.category, maxLocals]; done) | rfl) ?_
  have hv0 := HV.here (Z := Z) (EL := consts_1) (h := h) (S := [])
  refine W.iloadN 1 at_0 rfl rfl ?_
  refine W.iconst 2 at_1 rfl (3 : Int32) rfl ?_
  refine W.iand 3 at_2 rfl (2 : Int32) e3 ?_
  refine W.istore 5 at_3 rfl #[.val (.int p0), .val (.int p1), .val (.int p2), .val (.int p3), .val (.int (2 : Int32)), .unset, .unset, .unset, .unset, .unset, .unset, .unset] rfl ?_
  refine W.iloadN 6 at_5 rfl rfl ?_
  refine W.callS (rest := []) (argsL := [(.int p1)]) 9 at_6 rfl (fun hn => c_pick l Z a0 hw p1 _ n0 hn) (wd_0 hw) (wd_1 hw) (wd_2 hw) (wd_3 hw) (by decide) pd_3 rfl rfl rfl (by decide) 0 (Nat.le_of_ble_eq_true rfl) (by decide) (by decide) (by decide) ?_
  rintro v1162 h1162 ⟨c1162, rfl, H1162, rfl⟩
  show WG _ _ _ _ _ _ _ _ _ _ _ _ 0 0 9 #[.val (.int p0), .val (.int p1), .val (.int p2), .val (.int p3), .val (.int (2 : Int32)), .unset, .unset, .unset, .unset, .unset, .unset, .unset] [(.int c1162)]
  refine W.istore 11 at_9 rfl #[.val (.int p0), .val (.int p1), .val (.int p2), .val (.int p3), .val (.int (2 : Int32)), .val (.int c1162), .unset, .unset, .unset, .unset, .unset, .unset] rfl ?_
  refine W.iloadN 12 at_11 rfl rfl ?_
  refine W.callS (rest := []) (argsL := [(.int p2)]) 15 at_12 rfl (fun hn => c_pick l Z a0 hw p2 _ n0 hn) (wd_0 hw) (wd_1 hw) (wd_2 hw) (wd_3 hw) (by decide) pd_3 rfl rfl rfl (by decide) 0 (Nat.le_of_ble_eq_true rfl) (by decide) (by decide) (by decide) ?_
  rintro v1163 h1163 ⟨c1163, rfl, H1163, rfl⟩
  show WG _ _ _ _ _ _ _ _ _ _ _ _ 0 0 15 #[.val (.int p0), .val (.int p1), .val (.int p2), .val (.int p3), .val (.int (2 : Int32)), .val (.int c1162), .unset, .unset, .unset, .unset, .unset, .unset] [(.int c1163)]
  refine W.istore 17 at_15 rfl #[.val (.int p0), .val (.int p1), .val (.int p2), .val (.int p3), .val (.int (2 : Int32)), .val (.int c1162), .val (.int c1163), .unset, .unset, .unset, .unset, .unset] rfl ?_
  refine W.iloadN 18 at_17 rfl rfl ?_
  refine W.callS (rest := []) (argsL := [(.int p3)]) 21 at_18 rfl (fun hn => c_pick l Z a0 hw p3 _ n0 hn) (wd_0 hw) (wd_1 hw) (wd_2 hw) (wd_3 hw) (by decide) pd_3 rfl rfl rfl (by decide) 0 (Nat.le_of_ble_eq_true rfl) (by decide) (by decide) (by decide) ?_
  rintro v1164 h1164 ⟨c1164, rfl, H1164, rfl⟩
  show WG _ _ _ _ _ _ _ _ _ _ _ _ 0 0 21 #[.val (.int p0), .val (.int p1), .val (.int p2), .val (.int p3), .val (.int (2 : Int32)), .val (.int c1162), .val (.int c1163), .unset, .unset, .unset, .unset, .unset] [(.int c1164)]
  refine W.istore 23 at_21 rfl #[.val (.int p0), .val (.int p1), .val (.int p2), .val (.int p3), .val (.int (2 : Int32)), .val (.int c1162), .val (.int c1163), .val (.int c1164), .unset, .unset, .unset, .unset] rfl ?_
  refine W.iload 25 at_23 rfl rfl ?_
  refine W.newarray 27 at_25 rfl (wd_4 hw) rfl (by decide) 2 2 (by decide) (by decide) (by decide) (by decide) (by decide) rfl ?_
  intro h1165 b1165 g1165 ge1165 X1165 K1165 A1165
  have hv1166 := HV.new hv0 K1165 all0 (Nat.le_of_eq g1165.symm)
  have A1165 : Ary _ _ b1165 .char [(.int (0 : Int32)), (.int (0 : Int32))] := A1165
  show WG _ _ _ _ _ _ _ _ _ _ _ _ 1 2 27 #[.val (.int p0), .val (.int p1), .val (.int p2), .val (.int p3), .val (.int (2 : Int32)), .val (.int c1162), .val (.int c1163), .val (.int c1164), .unset, .unset, .unset, .unset] [(.ref b1165)]
  refine W.astore 29 at_27 rfl rfl #[.val (.int p0), .val (.int p1), .val (.int p2), .val (.int p3), .val (.int (2 : Int32)), .val (.int c1162), .val (.int c1163), .val (.int c1164), .val (.ref b1165), .unset, .unset, .unset] rfl ?_
  refine W.iload 31 at_29 rfl rfl ?_
  refine W.if_le 40 34 at_31 rfl rfl (fun hc => absurd (by decide) hc) (fun _ => ?_)
  refine W.aload 36 at_34 rfl rfl rfl ?_
  refine W.iconst 37 at_36 rfl (0 : Int32) rfl ?_
  refine W.iload 39 at_37 rfl rfl ?_
  refine W.castore 40 at_39 rfl A1165 0 (by decide) (by decide) (Nat.le_of_ble_eq_true rfl) c1162 (ch_nar H1162) ge1165 ?_
  intro h1167 W1167 K1167 A1167
  have hv1168 := HV.keep hv1166 K1167 (allS (List.mem_of_getElem? (i := 0) rfl) all0)
  have A1167 : Ary _ _ b1165 .char [(.int c1162), (.int (0 : Int32))] := A1167
  refine W.iload 42 at_40 rfl rfl ?_
  refine W.iconst 43 at_42 rfl (1 : Int32) rfl ?_
  refine W.icmp_le 52 46 at_43 rfl rfl (fun hc => absurd (by decide) hc) (fun _ => ?_)
  refine W.aload 48 at_46 rfl rfl rfl ?_
  refine W.iconst 49 at_48 rfl (1 : Int32) rfl ?_
  refine W.iload 51 at_49 rfl rfl ?_
  refine W.castore 52 at_51 rfl A1167 1 (by decide) (by decide) (Nat.le_of_ble_eq_true rfl) c1163 (ch_nar H1163) ge1165 ?_
  intro h1169 W1169 K1169 A1169
  have hv1170 := HV.keep hv1168 K1169 (allS (List.mem_of_getElem? (i := 0) rfl) all0)
  have A1169 : Ary _ _ b1165 .char [(.int c1162), (.int c1163)] := A1169
  refine W.iload 54 at_52 rfl rfl ?_
  refine W.iconst 55 at_54 rfl (2 : Int32) rfl ?_
  refine W.icmp_le 64 58 at_55 rfl rfl (fun _ => ?_) (fun hc => absurd hc (by decide))
  refine W.new 67 at_64 rfl (wd_5 hw) (wd_6 hw) (wd_7 hw) (by decide) (by decide) ?_
  intro h1171 o1171 g1171 ge1171 X1171 K1171 E1171 D1171
  have ne1172 : b1165 ≠ o1171 := Nat.ne_of_lt (Nat.lt_of_lt_of_eq A1169.lt g1171.symm)
  have hv1173 := HV.new hv1170 K1171 all0 (Nat.le_of_eq g1171.symm)
  have f1174 : Fld _ _ o1171 "java/lang/String" "value" "[B" .null := D1171 (Or.inr (wd_20 hw)) (ty := (.array .byte)) (by decide)
  have f1175 : Fld _ _ o1171 "java/lang/String" "coder" "B" (.int (0 : Int32)) := D1171 (Or.inr (wd_21 hw)) (ty := .byte) (by decide)
  show WG _ _ _ _ _ _ _ _ _ _ _ _ 2 6 67 #[.val (.int p0), .val (.int p1), .val (.int p2), .val (.int p3), .val (.int (2 : Int32)), .val (.int c1162), .val (.int c1163), .val (.int c1164), .val (.ref b1165), .unset, .unset, .unset] [(.ref o1171)]
  refine W.dup 68 at_67 rfl rfl ?_
  refine W.aload 70 at_68 rfl rfl rfl ?_
  have q1176 := (Sta.ext X1171 (Sta.wr W1169 (Sta.wr W1167 (Sta.ext X1165 FS))))
  have q1177 := (A1169.keep K1171 nin0)
  refine W.callInit (rest := [(.ref o1171)]) (argsL := [(.ref b1165)]) (a := o1171) 73 at_70 rfl (fun hn => c_i12ss l Z a0 hw o1171 b1165 kc hkc c1162 c1163 _ n0 hn (Ne.symm ne1172) ge1171 q1176 E1171 f1175 f1174 q1177 H1162 H1163) rfl (wd_8 hw) (wd_9 hw) (wd_7 hw) (wd_10 hw) (by decide) pd_4 rfl rfl rfl (by decide) 1 (Nat.le_of_ble_eq_true rfl) (by decide) (by decide) (by decide) ?_
  rintro v1178 h1178 ⟨rfl, K1178, b1178, C1178, V1178, A1178⟩
  have hv1179 := HV.keep hv1173 K1178 (allS (List.mem_of_getElem? (i := 0) rfl) all0)
  show WG _ _ _ _ _ _ _ _ _ _ _ _ 3 8 73 #[.val (.int p0), .val (.int p1), .val (.int p2), .val (.int p3), .val (.int (2 : Int32)), .val (.int c1162), .val (.int c1163), .val (.int c1164), .val (.ref b1165), .unset, .unset, .unset] [(.ref o1171)]
  refine W.astore 75 at_73 rfl rfl #[.val (.int p0), .val (.int p1), .val (.int p2), .val (.int p3), .val (.int (2 : Int32)), .val (.int c1162), .val (.int c1163), .val (.int c1164), .val (.ref b1165), .val (.ref o1171), .unset, .unset] rfl ?_
  refine W.aload 77 at_75 rfl rfl rfl ?_
  have q1180 := (Sta.keepN K1178 (allS E1171.nostat all0) q1176)
  have q1181 := (E1171.keep K1178)
  have q1183 := (q1177.keep K1178 (ninS ne1172 nin0))
  refine W.callSX (rest := []) (argsL := [(.ref o1171)]) 80 at_77 rfl (fun hn => c_src2 l Z a0 hw o1171 b1178 kc hkc (c1162.toInt8.toInt32) (c1163.toInt8.toInt32) _ n0 hn q1180 q1181 C1178 V1178 A1178) (wd_26 hw) (wd_27 hw) (wd_28 hw) (wd_29 hw) (by decide) pd_5 rfl rfl rfl (by decide) 0 (Nat.le_of_ble_eq_true rfl) (by decide) (by decide) (by decide) (own_EL hw) hv1179 (allS q1181.lt (allS q1183.lt all0)) (allS (List.mem_of_getElem? (i := 0) rfl) all0) ?_
  rintro v1182 h1182 ⟨rfl, K1182⟩
  have hv1182 := HV.here (Z := Z) (EL := consts_1) (h := h1182) (S := [o1171, b1165])
  show WG _ _ _ _ _ _ _ _ _ _ _ _ 7 76 80 #[.val (.int p0), .val (.int p1), .val (.int p2), .val (.int p3), .val (.int (2 : Int32)), .val (.int c1162), .val (.int c1163), .val (.int c1164), .val (.ref b1165), .val (.ref o1171), .unset, .unset] [(.ref o1171)]
  refine W.astore 82 at_80 rfl rfl #[.val (.int p0), .val (.int p1), .val (.int p2), .val (.int p3), .val (.int (2 : Int32)), .val (.int c1162), .val (.int c1163), .val (.int c1164), .val (.ref b1165), .val (.ref o1171), .val (.ref o1171), .unset] rfl ?_
  refine W.iload 84 at_82 rfl rfl ?_
  refine W.iconst 85 at_84 rfl (1 : Int32) rfl ?_
  refine W.icmp_ne 99 88 at_85 rfl rfl (fun _ => ?_) (fun hc => absurd hc (by decide))
  refine W.iconst 100 at_99 rfl (0 : Int32) rfl ?_
  refine W.istore 102 at_100 rfl #[.val (.int p0), .val (.int p1), .val (.int p2), .val (.int p3), .val (.int (2 : Int32)), .val (.int c1162), .val (.int c1163), .val (.int c1164), .val (.ref b1165), .val (.ref o1171), .val (.ref o1171), .val (.int (0 : Int32))] rfl ?_
  refine W.iload 104 at_102 rfl rfl ?_
  refine W.if_eq 115 107 at_104 rfl rfl (fun _ => ?_) (fun hc => absurd (by decide) hc)
  refine W.aload 117 at_115 rfl rfl rfl ?_
  refine W.aload 119 at_117 rfl rfl rfl ?_
  have q1185 := (q1181.keep K1182)
  refine W.callV (rest := []) (argsL := [(.ref o1171)]) (a := o1171) 122 at_119 rfl (fun hn => c_eqs l Z a0 hw o1171 _ n0 hn) q1185 (wd_42 hw) (wd_32 hw) (wd_34 hw) rfl (wd_33 hw) (wd_7 hw) (wd_35 hw) (by decide) pd_1 rfl rfl rfl (by decide) 0 (Nat.le_of_ble_eq_true rfl) (by decide) (by decide) (by decide) ?_
  rintro v1184 h1184 ⟨rfl, rfl⟩
  show WG _ _ _ _ _ _ _ _ _ _ _ _ 7 76 122 #[.val (.int p0), .val (.int p1), .val (.int p2), .val (.int p3), .val (.int (2 : Int32)), .val (.int c1162), .val (.int c1163), .val (.int c1164), .val (.ref b1165), .val (.ref o1171), .val (.ref o1171), .val (.int (0 : Int32))] [(.int (1 : Int32))]
  refine WG.retX (own_EL hw) hv1182 ?_
  exact W.ireturnN (t := .boolean) at_122 rfl (by simp) (1 : Int32) rfl ⟨rfl, rfl⟩ (by decide) (by decide)
theorem c_ci3sss (l : Launch) (Z : State) (a0 : Array Value) (hw : HwT Z a0) (src dst : Addr) (c0 c1 c2 : Int32) (h : Heap) (n0 : Nat) (hn : n0 ≤ h.size) (ne : src ≠ dst) (gd : n0 ≤ dst) (As : Ary Z h src .char [(.int c0), (.int c1), (.int c2)]) (Ad : Ary Z h dst .byte [(.int (0 : Int32)), (.int (0 : Int32)), (.int (0 : Int32))]) (Hc0 : ChOk c0) (Hc1 : ChOk c1) (Hc2 : ChOk c2) : Con l Z (⟨"java/lang/StringUTF16", "compress", "([CI[BII)I"⟩ : MethodName) jdk_52_method_21_code 7 (some .int) ({ frames := 0, cells := 0, slots := 0, locals := 0 } : Room) #[(.ref src), (.int (0 : Int32)), (.ref dst), (.int (0 : Int32)), (.int (3 : Int32))] h n0 (fun v h' => v = some (.int 3) ∧ Keep h h' [dst] ∧ Ary Z h' dst .byte [(.int (c0.toInt8.toInt32)), (.int (c1.toInt8.toInt32)), (.int (c2.toInt8.toInt32))]) := by
  refine ConG.of_W (Ls := #[.val (.ref src), .val (.int (0 : Int32)), .val (.ref dst), .val (.int (0 : Int32)), .val (.int (3 : Int32)), .unset, .unset]) (plainFor_of_name pn_4) hn (fun m => by first | (simp [entryFrame, mkF, argsToLocals, Value.category]; done) | rfl) ?_
  refine W.iconst 1 d_jdk_52_method_21_0 rfl (0 : Int32) rfl ?_
  refine W.istore 3 d_jdk_52_method_21_1 rfl #[.val (.ref src), .val (.int (0 : Int32)), .val (.ref dst), .val (.int (0 : Int32)), .val (.int (3 : Int32)), .val (.int (0 : Int32)), .unset] rfl ?_
  refine W.iload 5 d_jdk_52_method_21_3 rfl rfl ?_
  refine W.iload 7 d_jdk_52_method_21_5 rfl rfl ?_
  refine W.icmp_ge 44 10 d_jdk_52_method_21_7 rfl rfl (fun hc => absurd (by decide) hc) (fun _ => ?_)
  refine W.aloadN 11 d_jdk_52_method_21_10 rfl rfl rfl ?_
  refine W.iloadN 12 d_jdk_52_method_21_11 rfl rfl ?_
  refine W.caload 13 d_jdk_52_method_21_12 rfl As 0 (by decide) (by decide) (.int c0) rfl ?_
  refine W.istore 15 d_jdk_52_method_21_13 rfl #[.val (.ref src), .val (.int (0 : Int32)), .val (.ref dst), .val (.int (0 : Int32)), .val (.int (3 : Int32)), .val (.int (0 : Int32)), .val (.int c0)] rfl ?_
  refine W.iload 17 d_jdk_52_method_21_15 rfl rfl ?_
  refine W.sipush 20 d_jdk_52_method_21_17 rfl (255 : Int32) rfl ?_
  refine W.icmp_le 26 23 d_jdk_52_method_21_20 rfl rfl (fun _ => ?_) (fun hc => absurd hc (ch_le Hc0))
  refine W.aloadN 27 d_jdk_52_method_21_26 rfl rfl rfl ?_
  refine W.iloadN 28 d_jdk_52_method_21_27 rfl rfl ?_
  refine W.iload 30 d_jdk_52_method_21_28 rfl rfl ?_
  refine W.i2b 31 d_jdk_52_method_21_30 rfl (c0.toInt8.toInt32) rfl ?_
  refine W.bastore 32 d_jdk_52_method_21_31 rfl Ad 0 (by decide) (by decide) (Nat.le_of_ble_eq_true rfl) (c0.toInt8.toInt32) (nar_b c0) gd ?_
  intro h1186 W1186 K1186 A1186
  have kc1187 := Keep.trans (ws := [dst]) (Keep.refl _ [dst]) K1186 (allS (Or.inl (List.mem_of_getElem? (i := 0) rfl)) all0)
  have A1186 : Ary _ _ dst .byte [(.int (c0.toInt8.toInt32)), (.int (0 : Int32)), (.int (0 : Int32))] := A1186
  refine W.iinc 35 d_jdk_52_method_21_32 rfl rfl (1 : Int32) (by decide) #[.val (.ref src), .val (.int (1 : Int32)), .val (.ref dst), .val (.int (0 : Int32)), .val (.int (3 : Int32)), .val (.int (0 : Int32)), .val (.int c0)] rfl ?_
  refine W.iinc 38 d_jdk_52_method_21_35 rfl rfl (1 : Int32) (by decide) #[.val (.ref src), .val (.int (1 : Int32)), .val (.ref dst), .val (.int (1 : Int32)), .val (.int (3 : Int32)), .val (.int (0 : Int32)), .val (.int c0)] rfl ?_
  refine W.iinc 41 d_jdk_52_method_21_38 rfl rfl (1 : Int32) (by decide) #[.val (.ref src), .val (.int (1 : Int32)), .val (.ref dst), .val (.int (1 : Int32)), .val (.int (3 : Int32)), .val (.int (1 : Int32)), .val (.int c0)] rfl ?_
  refine W.goto 3 d_jdk_52_method_21_41 rfl ?_
  refine W.iload 5 d_jdk_52_method_21_3 rfl rfl ?_
  refine W.iload 7 d_jdk_52_method_21_5 rfl rfl ?_
  refine W.icmp_ge 44 10 d_jdk_52_method_21_7 rfl rfl (fun hc => absurd (by decide) hc) (fun _ => ?_)
  refine W.aloadN 11 d_jdk_52_method_21_10 rfl rfl rfl ?_
  refine W.iloadN 12 d_jdk_52_method_21_11 rfl rfl ?_
  have q1188 := (As.keep K1186 (ninS ne nin0))
  refine W.caload 13 d_jdk_52_method_21_12 rfl q1188 1 (by decide) (by decide) (.int c1) rfl ?_
  refine W.istore 15 d_jdk_52_method_21_13 rfl #[.val (.ref src), .val (.int (1 : Int32)), .val (.ref dst), .val (.int (1 : Int32)), .val (.int (3 : Int32)), .val (.int (1 : Int32)), .val (.int c1)] rfl ?_
  refine W.iload 17 d_jdk_52_method_21_15 rfl rfl ?_
  refine W.sipush 20 d_jdk_52_method_21_17 rfl (255 : Int32) rfl ?_
  refine W.icmp_le 26 23 d_jdk_52_method_21_20 rfl rfl (fun _ => ?_) (fun hc => absurd hc (ch_le Hc1))
  refine W.aloadN 27 d_jdk_52_method_21_26 rfl rfl rfl ?_
  refine W.iloadN 28 d_jdk_52_method_21_27 rfl rfl ?_
  refine W.iload 30 d_jdk_52_method_21_28 rfl rfl ?_
  refine W.i2b 31 d_jdk_52_method_21_30 rfl (c1.toInt8.toInt32) rfl ?_
  refine W.bastore 32 d_jdk_52_method_21_31 rfl A1186 1 (by decide) (by decide) (Nat.le_of_ble_eq_true rfl) (c1.toInt8.toInt32) (nar_b c1) gd ?_
  intro h1189 W1189 K1189 A1189
  have kc1190 := Keep.trans (ws := [dst]) kc1187 K1189 (allS (Or.inl (List.mem_of_getElem? (i := 0) rfl)) all0)
  have A1189 : Ary _ _ dst .byte [(.int (c0.toInt8.toInt32)), (.int (c1.toInt8.toInt32)), (.int (0 : Int32))] := A1189
  refine W.iinc 35 d_jdk_52_method_21_32 rfl rfl (2 : Int32) (by decide) #[.val (.ref src), .val (.int (2 : Int32)), .val (.ref dst), .val (.int (1 : Int32)), .val (.int (3 : Int32)), .val (.int (1 : Int32)), .val (.int c1)] rfl ?_
  refine W.iinc 38 d_jdk_52_method_21_35 rfl rfl (2 : Int32) (by decide) #[.val (.ref src), .val (.int (2 : Int32)), .val (.ref dst), .val (.int (2 : Int32)), .val (.int (3 : Int32)), .val (.int (1 : Int32)), .val (.int c1)] rfl ?_
  refine W.iinc 41 d_jdk_52_method_21_38 rfl rfl (2 : Int32) (by decide) #[.val (.ref src), .val (.int (2 : Int32)), .val (.ref dst), .val (.int (2 : Int32)), .val (.int (3 : Int32)), .val (.int (2 : Int32)), .val (.int c1)] rfl ?_
  refine W.goto 3 d_jdk_52_method_21_41 rfl ?_
  refine W.iload 5 d_jdk_52_method_21_3 rfl rfl ?_
  refine W.iload 7 d_jdk_52_method_21_5 rfl rfl ?_
  refine W.icmp_ge 44 10 d_jdk_52_method_21_7 rfl rfl (fun hc => absurd (by decide) hc) (fun _ => ?_)
  refine W.aloadN 11 d_jdk_52_method_21_10 rfl rfl rfl ?_
  refine W.iloadN 12 d_jdk_52_method_21_11 rfl rfl ?_
  have q1191 := (q1188.keep K1189 (ninS ne nin0))
  refine W.caload 13 d_jdk_52_method_21_12 rfl q1191 2 (by decide) (by decide) (.int c2) rfl ?_
  refine W.istore 15 d_jdk_52_method_21_13 rfl #[.val (.ref src), .val (.int (2 : Int32)), .val (.ref dst), .val (.int (2 : Int32)), .val (.int (3 : Int32)), .val (.int (2 : Int32)), .val (.int c2)] rfl ?_
  refine W.iload 17 d_jdk_52_method_21_15 rfl rfl ?_
  refine W.sipush 20 d_jdk_52_method_21_17 rfl (255 : Int32) rfl ?_
  refine W.icmp_le 26 23 d_jdk_52_method_21_20 rfl rfl (fun _ => ?_) (fun hc => absurd hc (ch_le Hc2))
  refine W.aloadN 27 d_jdk_52_method_21_26 rfl rfl rfl ?_
  refine W.iloadN 28 d_jdk_52_method_21_27 rfl rfl ?_
  refine W.iload 30 d_jdk_52_method_21_28 rfl rfl ?_
  refine W.i2b 31 d_jdk_52_method_21_30 rfl (c2.toInt8.toInt32) rfl ?_
  refine W.bastore 32 d_jdk_52_method_21_31 rfl A1189 2 (by decide) (by decide) (Nat.le_of_ble_eq_true rfl) (c2.toInt8.toInt32) (nar_b c2) gd ?_
  intro h1192 W1192 K1192 A1192
  have kc1193 := Keep.trans (ws := [dst]) kc1190 K1192 (allS (Or.inl (List.mem_of_getElem? (i := 0) rfl)) all0)
  have A1192 : Ary _ _ dst .byte [(.int (c0.toInt8.toInt32)), (.int (c1.toInt8.toInt32)), (.int (c2.toInt8.toInt32))] := A1192
  refine W.iinc 35 d_jdk_52_method_21_32 rfl rfl (3 : Int32) (by decide) #[.val (.ref src), .val (.int (3 : Int32)), .val (.ref dst), .val (.int (2 : Int32)), .val (.int (3 : Int32)), .val (.int (2 : Int32)), .val (.int c2)] rfl ?_
  refine W.iinc 38 d_jdk_52_method_21_35 rfl rfl (3 : Int32) (by decide) #[.val (.ref src), .val (.int (3 : Int32)), .val (.ref dst), .val (.int (3 : Int32)), .val (.int (3 : Int32)), .val (.int (2 : Int32)), .val (.int c2)] rfl ?_
  refine W.iinc 41 d_jdk_52_method_21_38 rfl rfl (3 : Int32) (by decide) #[.val (.ref src), .val (.int (3 : Int32)), .val (.ref dst), .val (.int (3 : Int32)), .val (.int (3 : Int32)), .val (.int (3 : Int32)), .val (.int c2)] rfl ?_
  refine W.goto 3 d_jdk_52_method_21_41 rfl ?_
  refine W.iload 5 d_jdk_52_method_21_3 rfl rfl ?_
  refine W.iload 7 d_jdk_52_method_21_5 rfl rfl ?_
  refine W.icmp_ge 44 10 d_jdk_52_method_21_7 rfl rfl (fun _ => ?_) (fun hc => absurd hc (by decide))
  refine W.iload 46 d_jdk_52_method_21_44 rfl rfl ?_
  exact W.ireturn d_jdk_52_method_21_46 rfl ⟨rfl, kc1193, A1192⟩ (by decide) (by decide)
theorem c_cb3sss (l : Launch) (Z : State) (a0 : Array Value) (hw : HwT Z a0) (src : Addr) (c0 c1 c2 : Int32) (h : Heap) (n0 : Nat) (hn : n0 ≤ h.size) (As : Ary Z h src .char [(.int c0), (.int c1), (.int c2)]) (Hc0 : ChOk c0) (Hc1 : ChOk c1) (Hc2 : ChOk c2) : Con l Z (⟨"java/lang/StringUTF16", "compress", "([CII)[B"⟩ : MethodName) jdk_52_method_16_code 6 (some (.array .byte)) ({ frames := 1, cells := 1, slots := 3, locals := 24 } : Room) #[(.ref src), (.int (0 : Int32)), (.int (3 : Int32))] h n0 (fun v h' => ∃ d, v = some (.ref d) ∧ h.size ≤ d ∧ n0 ≤ d ∧ Keep h h' [] ∧ Ary Z h' d .byte [(.int (c0.toInt8.toInt32)), (.int (c1.toInt8.toInt32)), (.int (c2.toInt8.toInt32))]) := by
  refine ConG.of_W (Ls := #[.val (.ref src), .val (.int (0 : Int32)), .val (.int (3 : Int32)), .unset, .unset, .unset]) (plainFor_of_name pn_4) hn (fun m => by first | (simp [entryFrame, mkF, argsToLocals, Value.category]; done) | rfl) ?_
  refine W.iloadN 1 d_jdk_52_method_16_0 rfl rfl ?_
  refine W.newarray 3 d_jdk_52_method_16_1 rfl (wd_19 hw) rfl (by decide) 3 3 (by decide) (by decide) (by decide) (by decide) (by decide) rfl ?_
  intro h1194 b1194 g1194 ge1194 X1194 K1194 A1194
  have ne1195 : src ≠ b1194 := Nat.ne_of_lt (Nat.lt_of_lt_of_eq As.lt g1194.symm)
  have sz1196 := Nat.le_trans (Keep.refl _ []).1 (Nat.le_of_eq g1194.symm)
  have kc1197 := Keep.trans (ws := []) (Keep.refl _ []) K1194 all0
  have A1194 : Ary _ _ b1194 .byte [(.int (0 : Int32)), (.int (0 : Int32)), (.int (0 : Int32))] := A1194
  show WG _ _ _ _ _ _ _ _ _ _ _ _ 1 3 3 #[.val (.ref src), .val (.int (0 : Int32)), .val (.int (3 : Int32)), .unset, .unset, .unset] [(.ref b1194)]
  refine W.astoreN 4 d_jdk_52_method_16_3 rfl rfl #[.val (.ref src), .val (.int (0 : Int32)), .val (.int (3 : Int32)), .val (.ref b1194), .unset, .unset] rfl ?_
  refine W.aloadN 5 d_jdk_52_method_16_4 rfl rfl rfl ?_
  refine W.iloadN 6 d_jdk_52_method_16_5 rfl rfl ?_
  refine W.aloadN 7 d_jdk_52_method_16_6 rfl rfl rfl ?_
  refine W.iconst 8 d_jdk_52_method_16_7 rfl (0 : Int32) rfl ?_
  refine W.iloadN 9 d_jdk_52_method_16_8 rfl rfl ?_
  have q1198 := (As.keep K1194 nin0)
  refine W.callS (rest := []) (argsL := [(.ref src), (.int (0 : Int32)), (.ref b1194), (.int (0 : Int32)), (.int (3 : Int32))]) 12 d_jdk_52_method_16_9 rfl (fun hn => c_ci3sss l Z a0 hw src b1194 c0 c1 c2 _ n0 hn ne1195 ge1194 q1198 A1194 Hc0 Hc1 Hc2) (wd_47 hw) (wd_48 hw) (wd_45 hw) (wd_49 hw) (by decide) pd_6 rfl rfl rfl (by decide) 0 (Nat.le_of_ble_eq_true rfl) (by decide) (by decide) (by decide) ?_
  rintro v1199 h1199 ⟨rfl, K1199, A1199⟩
  have kc1200 := Keep.trans (ws := []) kc1197 K1199 (allS (Or.inr sz1196) all0)
  show WG _ _ _ _ _ _ _ _ _ _ _ _ 1 3 12 #[.val (.ref src), .val (.int (0 : Int32)), .val (.int (3 : Int32)), .val (.ref b1194), .unset, .unset] [(.int (3 : Int32))]
  refine W.istore 14 d_jdk_52_method_16_12 rfl #[.val (.ref src), .val (.int (0 : Int32)), .val (.int (3 : Int32)), .val (.ref b1194), .val (.int (3 : Int32)), .unset] rfl ?_
  refine W.iload 16 d_jdk_52_method_16_14 rfl rfl ?_
  refine W.iloadN 17 d_jdk_52_method_16_16 rfl rfl ?_
  refine W.icmp_eq 57 20 d_jdk_52_method_16_17 rfl rfl (fun _ => ?_) (fun hc => absurd (by decide) hc)
  refine W.aloadN 58 d_jdk_52_method_16_57 rfl rfl rfl ?_
  exact W.areturn d_jdk_52_method_16_58 rfl rfl rfl rfl ⟨_, rfl, sz1196, ge1194, kc1200, A1199⟩ (by decide) (by decide)
theorem c_cl3 (l : Launch) (Z : State) (a0 : Array Value) (hw : HwT Z a0) (b : Addr) (x0 x1 x2 : Int32) (h : Heap) (n0 : Nat) (hn : n0 ≤ h.size) (A : Ary Z h b .byte [(.int x0), (.int x1), (.int x2)]) : Con l Z (⟨"java/lang/StringUTF16", "coderFromArrayLen", "([BI)B"⟩ : MethodName) jdk_52_method_15_code 2 (some .byte) ({ frames := 0, cells := 0, slots := 0, locals := 0 } : Room) #[(.ref b), (.int (3 : Int32))] h n0 (fun v h' => v = some (.int 0) ∧ h' = h) := by
  refine ConG.of_W (Ls := #[.val (.ref b), .val (.int (3 : Int32))]) (plainFor_of_name pn_4) hn (fun m => by first | (simp [entryFrame, mkF, argsToLocals, Value.category]; done) | rfl) ?_
  refine W.iloadN 1 d_jdk_52_method_15_0 rfl rfl ?_
  refine W.aloadN 2 d_jdk_52_method_15_1 rfl rfl rfl ?_
  refine W.arraylength 3 d_jdk_52_method_15_2 rfl A (3 : Int32) rfl ?_
  refine W.isub 4 d_jdk_52_method_15_3 rfl (0 : Int32) (by decide) ?_
  refine W.bipush 6 d_jdk_52_method_15_4 rfl (31 : Int32) rfl ?_
  refine W.iushr 7 d_jdk_52_method_15_6 rfl (0 : Int32) (by decide) ?_
  refine W.i2b 8 d_jdk_52_method_15_7 rfl (0 : Int32) (by decide) ?_
  exact W.ireturnN (t := .byte) d_jdk_52_method_15_8 rfl (by simp) (0 : Int32) rfl ⟨rfl, rfl⟩ (by decide) (by decide)
theorem c_i43sss (l : Launch) (Z : State) (a0 : Array Value) (hw : HwT Z a0) (a src : Addr) (kc : Int32) (hkc : ¬ kc = 0) (c0 c1 c2 : Int32) (h : Heap) (n0 : Nat) (hn : n0 ≤ h.size) (ne : a ≠ src) (ga : n0 ≤ a) (FS : Sta Z h "java/lang/String" "COMPACT_STRINGS" "Z" (.int kc)) (E : Exa Z h a "java/lang/String") (C : Fld Z h a "java/lang/String" "coder" "B" (.int 0)) (V : Fld Z h a "java/lang/String" "value" "[B" .null) (As : Ary Z h src .char [(.int c0), (.int c1), (.int c2)]) (Hc0 : ChOk c0) (Hc1 : ChOk c1) (Hc2 : ChOk c2) : Con l Z (⟨"java/lang/String", "<init>", "([CIILjava/lang/Void;)V"⟩ : MethodName) jdk_42_method_149_code 6 none ({ frames := 2, cells := 1, slots := 3, locals := 48 } : Room) #[(.ref a), (.ref src), (.int (0 : Int32)), (.int (3 : Int32)), .null] h n0 (fun v h' => v = none ∧ Keep h h' [a] ∧ ∃ b, Fld Z h' a "java/lang/String" "coder" "B" (.int 0) ∧ Fld Z h' a "java/lang/String" "value" "[B" (.ref b) ∧ Ary Z h' b .byte [(.int (c0.toInt8.toInt32)), (.int (c1.toInt8.toInt32)), (.int (c2.toInt8.toInt32))]) := by
  refine ConG.of_W (Ls := #[.val (.ref a), .val (.ref src), .val (.int (0 : Int32)), .val (.int (3 : Int32)), .val .null, .unset]) (plainFor_of_name pn_2) hn (fun m => by first | (simp [entryFrame, mkF, argsToLocals, Value.category]; done) | rfl) ?_
  refine W.aloadN 1 d_jdk_42_method_149_0 rfl rfl rfl ?_
  refine W.initObj 4 d_jdk_42_method_149_1 rfl (wd_15 hw) (wd_16 hw) (wd_17 hw) rfl (by decide) 0 (Nat.le_of_ble_eq_true rfl) (by decide) ?_
  refine W.iloadN 5 d_jdk_42_method_149_4 rfl rfl ?_
  refine W.if_ne 27 8 d_jdk_42_method_149_5 rfl rfl (fun _ => ?_) (fun hc => absurd hc (by decide))
  refine W.getstatic 30 d_jdk_42_method_149_27 rfl (host := "") (Or.inl (wd_37 hw)) Via.refl FS ?_
  refine W.if_eq 58 33 d_jdk_42_method_149_30 rfl rfl (fun hc => absurd hc hkc) (fun _ => ?_)
  refine W.aloadN 34 d_jdk_42_method_149_33 rfl rfl rfl ?_
  refine W.iloadN 35 d_jdk_42_method_149_34 rfl rfl ?_
  refine W.iloadN 36 d_jdk_42_method_149_35 rfl rfl ?_
  refine W.callS (rest := []) (argsL := [(.ref src), (.int (0 : Int32)), (.int (3 : Int32))]) 39 d_jdk_42_method_149_36 rfl (fun hn => c_cb3sss l Z a0 hw src c0 c1 c2 _ n0 hn As Hc0 Hc1 Hc2) (wd_43 hw) (wd_44 hw) (wd_45 hw) (wd_46 hw) (by decide) pd_7 rfl rfl rfl (by decide) 0 (Nat.le_of_ble_eq_true rfl) (by decide) (by decide) (by decide) ?_
  rintro v1201 h1201 ⟨d1201, rfl, sz1201, gd1201, K1201, A1201⟩
  have ne1202 : a ≠ d1201 := Nat.ne_of_lt (Nat.lt_of_lt_of_le E.lt sz1201)
  have ne1203 : src ≠ d1201 := Nat.ne_of_lt (Nat.lt_of_lt_of_le As.lt sz1201)
  have sz1204 := Nat.le_trans (Keep.refl _ [a]).1 sz1201
  have kc1205 := Keep.trans (ws := [a]) (Keep.refl _ [a]) K1201 all0
  show WG _ _ _ _ _ _ _ _ _ _ _ _ 1 3 39 #[.val (.ref a), .val (.ref src), .val (.int (0 : Int32)), .val (.int (3 : Int32)), .val .null, .unset] [(.ref d1201)]
  refine W.astore 41 d_jdk_42_method_149_39 rfl rfl #[.val (.ref a), .val (.ref src), .val (.int (0 : Int32)), .val (.int (3 : Int32)), .val .null, .val (.ref d1201)] rfl ?_
  refine W.aloadN 42 d_jdk_42_method_149_41 rfl rfl rfl ?_
  refine W.aload 44 d_jdk_42_method_149_42 rfl rfl rfl ?_
  refine W.iloadN 45 d_jdk_42_method_149_44 rfl rfl ?_
  refine W.callS (rest := [(.ref a)]) (argsL := [(.ref d1201), (.int (3 : Int32))]) 48 d_jdk_42_method_149_45 rfl (fun hn => c_cl3 l Z a0 hw d1201 (c0.toInt8.toInt32) (c1.toInt8.toInt32) (c2.toInt8.toInt32) _ n0 hn A1201) (wd_50 hw) (wd_51 hw) (wd_45 hw) (wd_52 hw) (by decide) pd_8 rfl rfl rfl (by decide) 1 (Nat.le_of_ble_eq_true rfl) (by decide) (by decide) (by decide) ?_
  rintro v1206 h1206 ⟨rfl, rfl⟩
  show WG _ _ _ _ _ _ _ _ _ _ _ _ 1 3 48 #[.val (.ref a), .val (.ref src), .val (.int (0 : Int32)), .val (.int (3 : Int32)), .val .null, .val (.ref d1201)] [(.int (0 : Int32)), (.ref a)]
  have q1207 := (C.keep K1201 nin0)
  have q1208 := (E.keep K1201)
  refine W.putfieldN 51 d_jdk_42_method_149_48 rfl (wd_25 hw) Via.refl q1207 q1208 (Or.inr ⟨(wd_21 hw), rfl, rfl⟩) (wd_6 hw) (ty := .byte) (by decide) (.int (0 : Int32)) rfl rfl ga ?_
  intro h1209 W1209 F1209 E1209 K1209
  have kc1210 := Keep.trans (ws := [a]) kc1205 K1209 (allS (Or.inl (List.mem_of_getElem? (i := 0) rfl)) all0)
  refine W.aloadN 52 d_jdk_42_method_149_51 rfl rfl rfl ?_
  refine W.aload 54 d_jdk_42_method_149_52 rfl rfl rfl ?_
  have q1211 := ((V.keep K1201 nin0).other W1209 (Or.inr (sne_1 hw)))
  refine W.putfield 57 d_jdk_42_method_149_54 rfl (host := "") (Or.inl (wd_24 hw)) Via.refl q1211 E1209 (Or.inr ⟨(wd_20 hw), rfl, rfl⟩) (wd_6 hw) (ty := (.array .byte)) (by decide) rfl rfl ga ?_
  intro h1212 W1212 F1212 E1212 K1212
  have kc1213 := Keep.trans (ws := [a]) kc1210 K1212 (allS (Or.inl (List.mem_of_getElem? (i := 0) rfl)) all0)
  have q1214 := (F1209.other W1212 (Or.inr (sne_0 hw)))
  have q1215 := ((A1201.keep K1209 (ninS (Ne.symm ne1202) nin0)).keep K1212 (ninS (Ne.symm ne1202) nin0))
  exact W.return_ d_jdk_42_method_149_57 rfl ⟨rfl, kc1213, d1201, q1214, F1212, q1215⟩ (by decide) (by decide)
theorem c_i13sss (l : Launch) (Z : State) (a0 : Array Value) (hw : HwT Z a0) (a src : Addr) (kc : Int32) (hkc : ¬ kc = 0) (c0 c1 c2 : Int32) (h : Heap) (n0 : Nat) (hn : n0 ≤ h.size) (ne : a ≠ src) (ga : n0 ≤ a) (FS : Sta Z h "java/lang/String" "COMPACT_STRINGS" "Z" (.int kc)) (E : Exa Z h a "java/lang/String") (C : Fld Z h a "java/lang/String" "coder" "B" (.int 0)) (V : Fld Z h a "java/lang/String" "value" "[B" .null) (As : Ary Z h src .char [(.int c0), (.int c1), (.int c2)]) (Hc0 : ChOk c0) (Hc1 : ChOk c1) (Hc2 : ChOk c2) : Con l Z (⟨"java/lang/String", "<init>", "([C)V"⟩ : MethodName) jdk_42_method_3_code 2 none ({ frames := 3, cells := 1, slots := 3, locals := 72 } : Room) #[(.ref a), (.ref src)] h n0 (fun v h' => v = none ∧ Keep h h' [a] ∧ ∃ b, Fld Z h' a "java/lang/String" "coder" "B" (.int 0) ∧ Fld Z h' a "java/lang/String" "value" "[B" (.ref b) ∧ Ary Z h' b .byte [(.int (c0.toInt8.toInt32)), (.int (c1.toInt8.toInt32)), (.int (c2.toInt8.toInt32))]) := by
  refine ConG.of_W (Ls := #[.val (.ref a), .val (.ref src)]) (plainFor_of_name pn_2) hn (fun m => by first | (simp [entryFrame, mkF, argsToLocals, Value.category]; done) | rfl) ?_
  refine W.aloadN 1 d_jdk_42_method_3_0 rfl rfl rfl ?_
  refine W.aloadN 2 d_jdk_42_method_3_1 rfl rfl rfl ?_
  refine W.iconst 3 d_jdk_42_method_3_2 rfl (0 : Int32) rfl ?_
  refine W.aloadN 4 d_jdk_42_method_3_3 rfl rfl rfl ?_
  refine W.arraylength 5 d_jdk_42_method_3_4 rfl As (3 : Int32) rfl ?_
  refine W.aconst_null 6 d_jdk_42_method_3_5 rfl ?_
  refine W.callInit (rest := []) (argsL := [(.ref src), (.int (0 : Int32)), (.int (3 : Int32)), .null]) (a := a) 9 d_jdk_42_method_3_6 rfl (fun hn => c_i43sss l Z a0 hw a src kc hkc c0 c1 c2 _ n0 hn ne ga FS E C V As Hc0 Hc1 Hc2) rfl (wd_11 hw) (wd_12 hw) (wd_7 hw) (wd_14 hw) (by decide) pd_2 rfl rfl rfl (by decide) 0 (Nat.le_of_ble_eq_true rfl) (by decide) (by decide) (by decide) ?_
  rintro v1216 h1216 ⟨rfl, K1216, b1216, C1216, V1216, A1216⟩
  have kc1217 := Keep.trans (ws := [a]) (Keep.refl _ [a]) K1216 (allS (Or.inl (List.mem_of_getElem? (i := 0) rfl)) all0)
  show WG _ _ _ _ _ _ _ _ _ _ _ _ 1 3 9 #[.val (.ref a), .val (.ref src)] []
  exact W.return_ d_jdk_42_method_3_9 rfl ⟨rfl, kc1217, b1216, C1216, V1216, A1216⟩ (by decide) (by decide)
theorem law_3 (l : Launch) (Z : State) (a0 : Array Value) (hw : HwT Z a0) (p0 p1 p2 p3 : Int32) (kc : Int32) (hkc : ¬ kc = 0) (h : Heap) (n0 : Nat) (hn : n0 ≤ h.size) (FS : Sta Z h "java/lang/String" "COMPACT_STRINGS" "Z" (.int kc)) (e3 : p0 &&& 3 = 3) : ConX Z consts_1 [] tables_1 l x code maxLocals ret room_1 #[(.int p0), (.int p1), (.int p2), (.int p3)] h n0 (fun v _ => v = some (.int 1)) := by
  refine ConX.of_W (Ls := #[.val (.int p0), .val (.int p1), .val (.int p2), .val (.int p3), .unset, .unset, .unset, .unset, .unset, .unset, .unset, .unset]) (plainFor_of_name pn_0) hn (fun m => by first | (simp [entryFrame, mkF, argsToLocals, Value.category, maxLocals]; done) | rfl) ?_
  have hv0 := HV.here (Z := Z) (EL := consts_1) (h := h) (S := [])
  refine W.iloadN 1 at_0 rfl rfl ?_
  refine W.iconst 2 at_1 rfl (3 : Int32) rfl ?_
  refine W.iand 3 at_2 rfl (3 : Int32) e3 ?_
  refine W.istore 5 at_3 rfl #[.val (.int p0), .val (.int p1), .val (.int p2), .val (.int p3), .val (.int (3 : Int32)), .unset, .unset, .unset, .unset, .unset, .unset, .unset] rfl ?_
  refine W.iloadN 6 at_5 rfl rfl ?_
  refine W.callS (rest := []) (argsL := [(.int p1)]) 9 at_6 rfl (fun hn => c_pick l Z a0 hw p1 _ n0 hn) (wd_0 hw) (wd_1 hw) (wd_2 hw) (wd_3 hw) (by decide) pd_3 rfl rfl rfl (by decide) 0 (Nat.le_of_ble_eq_true rfl) (by decide) (by decide) (by decide) ?_
  rintro v1218 h1218 ⟨c1218, rfl, H1218, rfl⟩
  show WG _ _ _ _ _ _ _ _ _ _ _ _ 0 0 9 #[.val (.int p0), .val (.int p1), .val (.int p2), .val (.int p3), .val (.int (3 : Int32)), .unset, .unset, .unset, .unset, .unset, .unset, .unset] [(.int c1218)]
  refine W.istore 11 at_9 rfl #[.val (.int p0), .val (.int p1), .val (.int p2), .val (.int p3), .val (.int (3 : Int32)), .val (.int c1218), .unset, .unset, .unset, .unset, .unset, .unset] rfl ?_
  refine W.iloadN 12 at_11 rfl rfl ?_
  refine W.callS (rest := []) (argsL := [(.int p2)]) 15 at_12 rfl (fun hn => c_pick l Z a0 hw p2 _ n0 hn) (wd_0 hw) (wd_1 hw) (wd_2 hw) (wd_3 hw) (by decide) pd_3 rfl rfl rfl (by decide) 0 (Nat.le_of_ble_eq_true rfl) (by decide) (by decide) (by decide) ?_
  rintro v1219 h1219 ⟨c1219, rfl, H1219, rfl⟩
  show WG _ _ _ _ _ _ _ _ _ _ _ _ 0 0 15 #[.val (.int p0), .val (.int p1), .val (.int p2), .val (.int p3), .val (.int (3 : Int32)), .val (.int c1218), .unset, .unset, .unset, .unset, .unset, .unset] [(.int c1219)]
  refine W.istore 17 at_15 rfl #[.val (.int p0), .val (.int p1), .val (.int p2), .val (.int p3), .val (.int (3 : Int32)), .val (.int c1218), .val (.int c1219), .unset, .unset, .unset, .unset, .unset] rfl ?_
  refine W.iloadN 18 at_17 rfl rfl ?_
  refine W.callS (rest := []) (argsL := [(.int p3)]) 21 at_18 rfl (fun hn => c_pick l Z a0 hw p3 _ n0 hn) (wd_0 hw) (wd_1 hw) (wd_2 hw) (wd_3 hw) (by decide) pd_3 rfl rfl rfl (by decide) 0 (Nat.le_of_ble_eq_true rfl) (by decide) (by decide) (by decide) ?_
  rintro v1220 h1220 ⟨c1220, rfl, H1220, rfl⟩
  show WG _ _ _ _ _ _ _ _ _ _ _ _ 0 0 21 #[.val (.int p0), .val (.int p1), .val (.int p2), .val (.int p3), .val (.int (3 : Int32)), .val (.int c1218), .val (.int c1219), .unset, .unset, .unset, .unset, .unset] [(.int c1220)]
  refine W.istore 23 at_21 rfl #[.val (.int p0), .val (.int p1), .val (.int p2), .val (.int p3), .val (.int (3 : Int32)), .val (.int c1218), .val (.int c1219), .val (.int c1220), .unset, .unset, .unset, .unset] rfl ?_
  refine W.iload 25 at_23 rfl rfl ?_
  refine W.newarray 27 at_25 rfl (wd_4 hw) rfl (by decide) 3 3 (by decide) (by decide) (by decide) (by decide) (by decide) rfl ?_
  intro h1221 b1221 g1221 ge1221 X1221 K1221 A1221
  have hv1222 := HV.new hv0 K1221 all0 (Nat.le_of_eq g1221.symm)
  have A1221 : Ary _ _ b1221 .char [(.int (0 : Int32)), (.int (0 : Int32)), (.int (0 : Int32))] := A1221
  show WG _ _ _ _ _ _ _ _ _ _ _ _ 1 3 27 #[.val (.int p0), .val (.int p1), .val (.int p2), .val (.int p3), .val (.int (3 : Int32)), .val (.int c1218), .val (.int c1219), .val (.int c1220), .unset, .unset, .unset, .unset] [(.ref b1221)]
  refine W.astore 29 at_27 rfl rfl #[.val (.int p0), .val (.int p1), .val (.int p2), .val (.int p3), .val (.int (3 : Int32)), .val (.int c1218), .val (.int c1219), .val (.int c1220), .val (.ref b1221), .unset, .unset, .unset] rfl ?_
  refine W.iload 31 at_29 rfl rfl ?_
  refine W.if_le 40 34 at_31 rfl rfl (fun hc => absurd (by decide) hc) (fun _ => ?_)
  refine W.aload 36 at_34 rfl rfl rfl ?_
  refine W.iconst 37 at_36 rfl (0 : Int32) rfl ?_
  refine W.iload 39 at_37 rfl rfl ?_
  refine W.castore 40 at_39 rfl A1221 0 (by decide) (by decide) (Nat.le_of_ble_eq_true rfl) c1218 (ch_nar H1218) ge1221 ?_
  intro h1223 W1223 K1223 A1223
  have hv1224 := HV.keep hv1222 K1223 (allS (List.mem_of_getElem? (i := 0) rfl) all0)
  have A1223 : Ary _ _ b1221 .char [(.int c1218), (.int (0 : Int32)), (.int (0 : Int32))] := A1223
  refine W.iload 42 at_40 rfl rfl ?_
  refine W.iconst 43 at_42 rfl (1 : Int32) rfl ?_
  refine W.icmp_le 52 46 at_43 rfl rfl (fun hc => absurd (by decide) hc) (fun _ => ?_)
  refine W.aload 48 at_46 rfl rfl rfl ?_
  refine W.iconst 49 at_48 rfl (1 : Int32) rfl ?_
  refine W.iload 51 at_49 rfl rfl ?_
  refine W.castore 52 at_51 rfl A1223 1 (by decide) (by decide) (Nat.le_of_ble_eq_true rfl) c1219 (ch_nar H1219) ge1221 ?_
  intro h1225 W1225 K1225 A1225
  have hv1226 := HV.keep hv1224 K1225 (allS (List.mem_of_getElem? (i := 0) rfl) all0)
  have A1225 : Ary _ _ b1221 .char [(.int c1218), (.int c1219), (.int (0 : Int32))] := A1225
  refine W.iload 54 at_52 rfl rfl ?_
  refine W.iconst 55 at_54 rfl (2 : Int32) rfl ?_
  refine W.icmp_le 64 58 at_55 rfl rfl (fun hc => absurd (by decide) hc) (fun _ => ?_)
  refine W.aload 60 at_58 rfl rfl rfl ?_
  refine W.iconst 61 at_60 rfl (2 : Int32) rfl ?_
  refine W.iload 63 at_61 rfl rfl ?_
  refine W.castore 64 at_63 rfl A1225 2 (by decide) (by decide) (Nat.le_of_ble_eq_true rfl) c1220 (ch_nar H1220) ge1221 ?_
  intro h1227 W1227 K1227 A1227
  have hv1228 := HV.keep hv1226 K1227 (allS (List.mem_of_getElem? (i := 0) rfl) all0)
  have A1227 : Ary _ _ b1221 .char [(.int c1218), (.int c1219), (.int c1220)] := A1227
  refine W.new 67 at_64 rfl (wd_5 hw) (wd_6 hw) (wd_7 hw) (by decide) (by decide) ?_
  intro h1229 o1229 g1229 ge1229 X1229 K1229 E1229 D1229
  have ne1230 : b1221 ≠ o1229 := Nat.ne_of_lt (Nat.lt_of_lt_of_eq A1227.lt g1229.symm)
  have hv1231 := HV.new hv1228 K1229 all0 (Nat.le_of_eq g1229.symm)
  have f1232 : Fld _ _ o1229 "java/lang/String" "value" "[B" .null := D1229 (Or.inr (wd_20 hw)) (ty := (.array .byte)) (by decide)
  have f1233 : Fld _ _ o1229 "java/lang/String" "coder" "B" (.int (0 : Int32)) := D1229 (Or.inr (wd_21 hw)) (ty := .byte) (by decide)
  show WG _ _ _ _ _ _ _ _ _ _ _ _ 2 7 67 #[.val (.int p0), .val (.int p1), .val (.int p2), .val (.int p3), .val (.int (3 : Int32)), .val (.int c1218), .val (.int c1219), .val (.int c1220), .val (.ref b1221), .unset, .unset, .unset] [(.ref o1229)]
  refine W.dup 68 at_67 rfl rfl ?_
  refine W.aload 70 at_68 rfl rfl rfl ?_
  have q1234 := (Sta.ext X1229 (Sta.wr W1227 (Sta.wr W1225 (Sta.wr W1223 (Sta.ext X1221 FS)))))
  have q1235 := (A1227.keep K1229 nin0)
  refine W.callInit (rest := [(.ref o1229)]) (argsL := [(.ref b1221)]) (a := o1229) 73 at_70 rfl (fun hn => c_i13sss l Z a0 hw o1229 b1221 kc hkc c1218 c1219 c1220 _ n0 hn (Ne.symm ne1230) ge1229 q1234 E1229 f1233 f1232 q1235 H1218 H1219 H1220) rfl (wd_8 hw) (wd_9 hw) (wd_7 hw) (wd_10 hw) (by decide) pd_4 rfl rfl rfl (by decide) 1 (Nat.le_of_ble_eq_true rfl) (by decide) (by decide) (by decide) ?_
  rintro v1236 h1236 ⟨rfl, K1236, b1236, C1236, V1236, A1236⟩
  have hv1237 := HV.keep hv1231 K1236 (allS (List.mem_of_getElem? (i := 0) rfl) all0)
  show WG _ _ _ _ _ _ _ _ _ _ _ _ 3 10 73 #[.val (.int p0), .val (.int p1), .val (.int p2), .val (.int p3), .val (.int (3 : Int32)), .val (.int c1218), .val (.int c1219), .val (.int c1220), .val (.ref b1221), .unset, .unset, .unset] [(.ref o1229)]
  refine W.astore 75 at_73 rfl rfl #[.val (.int p0), .val (.int p1), .val (.int p2), .val (.int p3), .val (.int (3 : Int32)), .val (.int c1218), .val (.int c1219), .val (.int c1220), .val (.ref b1221), .val (.ref o1229), .unset, .unset] rfl ?_
  refine W.aload 77 at_75 rfl rfl rfl ?_
  have q1238 := (Sta.keepN K1236 (allS E1229.nostat all0) q1234)
  have q1239 := (E1229.keep K1236)
  have q1241 := (q1235.keep K1236 (ninS ne1230 nin0))
  refine W.callSX (rest := []) (argsL := [(.ref o1229)]) 80 at_77 rfl (fun hn => c_src3 l Z a0 hw o1229 b1236 kc hkc (c1218.toInt8.toInt32) (c1219.toInt8.toInt32) (c1220.toInt8.toInt32) _ n0 hn q1238 q1239 C1236 V1236 A1236) (wd_26 hw) (wd_27 hw) (wd_28 hw) (wd_29 hw) (by decide) pd_5 rfl rfl rfl (by decide) 0 (Nat.le_of_ble_eq_true rfl) (by decide) (by decide) (by decide) (own_EL hw) hv1237 (allS q1239.lt (allS q1241.lt all0)) (allS (List.mem_of_getElem? (i := 0) rfl) all0) ?_
  rintro v1240 h1240 ⟨rfl, K1240⟩
  have hv1240 := HV.here (Z := Z) (EL := consts_1) (h := h1240) (S := [o1229, b1221])
  show WG _ _ _ _ _ _ _ _ _ _ _ _ 7 78 80 #[.val (.int p0), .val (.int p1), .val (.int p2), .val (.int p3), .val (.int (3 : Int32)), .val (.int c1218), .val (.int c1219), .val (.int c1220), .val (.ref b1221), .val (.ref o1229), .unset, .unset] [(.ref o1229)]
  refine W.astore 82 at_80 rfl rfl #[.val (.int p0), .val (.int p1), .val (.int p2), .val (.int p3), .val (.int (3 : Int32)), .val (.int c1218), .val (.int c1219), .val (.int c1220), .val (.ref b1221), .val (.ref o1229), .val (.ref o1229), .unset] rfl ?_
  refine W.iload 84 at_82 rfl rfl ?_
  refine W.iconst 85 at_84 rfl (1 : Int32) rfl ?_
  refine W.icmp_ne 99 88 at_85 rfl rfl (fun _ => ?_) (fun hc => absurd hc (by decide))
  refine W.iconst 100 at_99 rfl (0 : Int32) rfl ?_
  refine W.istore 102 at_100 rfl #[.val (.int p0), .val (.int p1), .val (.int p2), .val (.int p3), .val (.int (3 : Int32)), .val (.int c1218), .val (.int c1219), .val (.int c1220), .val (.ref b1221), .val (.ref o1229), .val (.ref o1229), .val (.int (0 : Int32))] rfl ?_
  refine W.iload 104 at_102 rfl rfl ?_
  refine W.if_eq 115 107 at_104 rfl rfl (fun _ => ?_) (fun hc => absurd (by decide) hc)
  refine W.aload 117 at_115 rfl rfl rfl ?_
  refine W.aload 119 at_117 rfl rfl rfl ?_
  have q1243 := (q1239.keep K1240)
  refine W.callV (rest := []) (argsL := [(.ref o1229)]) (a := o1229) 122 at_119 rfl (fun hn => c_eqs l Z a0 hw o1229 _ n0 hn) q1243 (wd_42 hw) (wd_32 hw) (wd_34 hw) rfl (wd_33 hw) (wd_7 hw) (wd_35 hw) (by decide) pd_1 rfl rfl rfl (by decide) 0 (Nat.le_of_ble_eq_true rfl) (by decide) (by decide) (by decide) ?_
  rintro v1242 h1242 ⟨rfl, rfl⟩
  show WG _ _ _ _ _ _ _ _ _ _ _ _ 7 78 122 #[.val (.int p0), .val (.int p1), .val (.int p2), .val (.int p3), .val (.int (3 : Int32)), .val (.int c1218), .val (.int c1219), .val (.int c1220), .val (.ref b1221), .val (.ref o1229), .val (.ref o1229), .val (.int (0 : Int32))] [(.int (1 : Int32))]
  refine WG.retX (own_EL hw) hv1240 ?_
  exact W.ireturnN (t := .boolean) at_122 rfl (by simp) (1 : Int32) rfl ⟨rfl, rfl⟩ (by decide) (by decide)
theorem law_ok (l : Launch) (Z : State) (a0 : Array Value) (hw : HwT Z a0) (p0 p1 p2 p3 : Int32) (kc : Int32) (hkc : ¬ kc = 0) (h : Heap) (n0 : Nat) (hn : n0 ≤ h.size) (FS : Sta Z h "java/lang/String" "COMPACT_STRINGS" "Z" (.int kc)) : ConX Z consts_1 [] tables_1 l x code maxLocals ret room_1 #[(.int p0), (.int p1), (.int p2), (.int p3)] h n0 (fun v _ => v = some (.int 1)) := by
  rcases own_and3 p0 with e | e | e | e
  · exact law_0 l Z a0 hw p0 p1 p2 p3 kc hkc h n0 hn FS e
  · exact law_1 l Z a0 hw p0 p1 p2 p3 kc hkc h n0 hn FS e
  · exact law_2 l Z a0 hw p0 p1 p2 p3 kc hkc h n0 hn FS e
  · exact law_3 l Z a0 hw p0 p1 p2 p3 kc hkc h n0 hn FS e
theorem comes_1 {Post : Tables → Env → Array Value → State → Outcome → State → Prop} (hpost : ∀ tb e args s v u, (limb_1_1.after args s (.returned v) u = true ∧ limb_1_2.after args s (.returned v) u = true ∧ True) → ReturnedEndW s (.returned v) u (Jvm.fieldLocs frame_1_writes args s ++ Jvm.arrayLocs frame_1_arrays args s ++ Jvm.staticLocs frame_1_statics s) 24 4224 → Post tb e args s (.returned v) u) :
    ArmFor flags0 classFile x code maxLocals ret World_1 tables_1 room_1 Calls_1 rest_1 Pre_1 Post := by
  intro l hfl _ _ p e ha hc hk s m args below hf hA hF happ hP
  obtain ⟨hcalls, hrest, hpre⟩ := hP
  obtain ⟨-, -, -, hnamed, -, -, -, hat⟩ := (Spec.applies_iff hf).mp happ
  obtain ⟨hg, hn⟩ := and_e (Cond.before_iff.mp (show (Jvm.Cond.and given_1 narrow_1).before args s = true from hpre))
  obtain ⟨hcnt, hg1⟩ := and_e hg
  obtain ⟨k0, hh0⟩ := and_e hg1
  obtain ⟨k1, hh1⟩ := and_e hh0
  obtain ⟨k2, hh2⟩ := and_e hh1
  have k3 := hh2
  obtain ⟨w0, w1, w2, w3, rfl⟩ : ∃ w0 w1 w2 w3 : Value, args = #[w0, w1, w2, w3] := by
    have hs : args.size = 4 := by simpa [Cond.value, given_1] using hcnt
    obtain ⟨L⟩ := args
    match L, hs with
    | [w0, w1, w2, w3], _ => exact ⟨w0, w1, w2, w3, rfl⟩
  have hw := fun d (hd : d ∈ tables_1) => atoms_spec (ws := Jvm.Cond.code x code maxLocals ret :: tables_1) hat d (List.mem_cons_of_mem _ hd)
  have hfit : Fit s := fun {y c} hc i hi => by
    obtain ⟨ha, rfl⟩ := Array.getElem?_eq_some_iff.mp hc
    have q := List.all_eq_true.mp ((Array.all_eq_true_iff_forall_mem.mp hF) _ (Array.getElem_mem ha)) i (List.mem_range.mpr hi)
    simpa [Array.getElem?_eq_getElem hi] using q
  obtain ⟨i0, ei0⟩ := is_v k0
  obtain rfl : w0 = (.int i0) := Option.some.inj ei0
  obtain ⟨i1, ei1⟩ := is_v k1
  obtain rfl : w1 = (.int i1) := Option.some.inj ei1
  obtain ⟨i2, ei2⟩ := is_v k2
  obtain rfl : w2 = (.int i2) := Option.some.inj ei2
  obtain ⟨i3, ei3⟩ := is_v k3
  obtain rfl : w3 = (.int i3) := Option.some.inj ei3
  obtain ⟨hsets, hown0⟩ := atoms_of _ (rest_1_c_eq ▸ (show rest_1_c.before _ s = true from hrest))
  have c0 := hsets _ (List.mem_of_getElem? (i := 0) rfl)
  have c1 := hsets _ (List.mem_of_getElem? (i := 1) rfl)
  have c2 := hsets _ (List.mem_of_getElem? (i := 2) rfl)
  obtain ⟨kc, ekc⟩ := is_v (Cond.before_iff.mp c1)
  have FS := Sta.start ekc (Or.inl c0)
  have hkc : ¬ kc = 0 := fun q => by
    have q2 := Cond.before_iff.mp c2
    have q3 := Cond.eq_ints ekc (Term.int_eval (0 : Int32))
    rw [show decide (kc = 0) = true from decide_eq_true q] at q3
    simp only [Cond.value] at q2 q3
    rw [q3] at q2
    cases q2
  have hCH : CHv s consts_1 s.vm s.heap := CHv.start (own_EL hw) (fun p hp => hcalls.1 p hp) c2 (own_wS hw _ (by simp [Bundle.stringAtoms])) (own_wS hw _ (by simp [Bundle.stringAtoms, Bundle.sN]))
  obtain ⟨n, o, h1, h2, h3, _, L, rfl, ⟨rfl, N⟩, hq⟩ := law_ok l s _ hw i0 i1 i2 i3 kc hkc s.heap s.heap.size (Nat.le_refl _) FS p e ha hc hk s m _ below hf ((Spec.applies_iff_loose hf).mp happ).1 ⟨rfl, State.Warmed39.refl s, rfl, hCH, all0⟩ trivial
  refine ⟨n, _, h1, h2, h3, hpost _ _ _ _ _ _ ⟨Cond.after_iff.mpr rfl, Cond.after_iff.mpr (eq_i res_at (Term.int_eval (1)) rfl), trivial⟩ ⟨hq.1.1, hq.1.2.1, hq.1.2.2.1, (hq.1.2.2.2.sift fun y hy => Or.inr (N y hy)).mono (by decide) (by decide)⟩⟩
theorem main_1_1 : Claimed_1_1 := comes_1 fun _ _ _ _ _ _ h hF => ⟨h.1, hF⟩
theorem main_1_2 : Claimed_1_2 := comes_1 fun _ _ _ _ _ _ h hF => ⟨h.2.1, hF⟩
end Jvm.Pilot.@@N@@
namespace Jvm.Pilot.@@N@@
open Jvm Jvm.ClassFile Sem Op Lib Jvm.Free Jvm.Stand Jvm.Pilot.@@N@@.Jvm.D
/-! MADE BY PROGRAM (witnessworld.py) out of the Statement's table words and the real class files: 20 classes; the members and pool entries that the words name. The judged class is class 1, her method 2. -/
namespace start1
open Jvm.ClassFile
def u (s : String) : CpInfo := .utf8 (stringToUtf16 s)
/-- a pool by its gaps: so many unusable entries, then the entry; so many at the end -/
def gap : Nat → List CpInfo → List CpInfo
  | 0, r => r
  | n + 1, r => .unusable :: gap n r
def poolList (es : List (Nat × CpInfo)) (last : Nat) : List CpInfo := es.foldr (fun e r => gap e.1 (e.2 :: r)) (gap last [])
def pool (es : List (Nat × CpInfo)) (last : Nat) : Array CpInfo := ⟨poolList es last⟩
def fileOf (pool : Array CpInfo) (this : Nat) (attrs : Array Attribute := #[]) (ms : Array MethodInfo := #[]) (fl : Nat := 33) (sup : Nat := 0) (ifs : Array Nat := #[]) (fds : Array FieldInfo := #[]) : ClassFile where
  minorVersion := 0
  majorVersion := 65
  constantPool := pool
  accessFlags := fl
  thisClass := this
  superClass := sup
  interfaces := ifs
  fields := fds
  methods := ms
  attributes := attrs
def plain (name : String) (sup : Option ClassId) : Class where
  name := name
  kind := .ordinary
  loader := none
  accessFlags := 33
  super := sup
  interfaces := #[]
  cf := none
  fields := #[]
  methods := #[]
  instanceTypes := #[]
  staticTypes := #[]
  resolved := #[]
  callSites := []
  init := .initialized
  statics := none
  mirror := none

def pool0 : Array CpInfo := pool [(5, u "<init>"), (0, u "()V"), (1, .class_ 10), (1, u "java/lang/Object")] 113

def k0c0 : Code := { maxStack := 0, maxLocals := 1, code := object_method_1_code, exceptionTable := #[], attributes := #[] }
def k0m0 : Method := { name := "<init>", desc := "()V", sig := { parameters := [], returnType := none }, accessFlags := 1, code := some k0c0 }
/-- java/lang/Object -/
def k0 : Class := { plain "java/lang/Object" none with
  accessFlags := 33
  interfaces := #[]
  cf := some (fileOf pool0 8 #[] #[{ accessFlags := 1, nameIndex := 5, descriptorIndex := 6, attributes := #[] }] 33 0 #[] #[])
  fields := #[]
  methods := #[k0m0]
  instanceTypes := #[]
  staticTypes := #[]
  resolved := Array.replicate 124 none
  statics := none }

def pool1 : Array CpInfo := pool [(2, .class_ 4), (1, u "java/lang/Object"), (0, u "<init>"), (0, u "()V"), (0, .methodref 8 9), (0, .class_ 10), (0, .nameAndType 11 12), (0, u "com/example/grackle/grackle/cli/InputsSourcePinLaw"), (0, u "pick"), (0, u "(I)C"), (0, .class_ 14), (0, u "java/lang/String"), (0, .methodref 13 16), (0, .nameAndType 5 17), (0, u "([C)V"), (0, .methodref 19 20), (0, .class_ 21), (0, .nameAndType 22 23), (0, u "com/example/grackle/grackle/cli/Inputs"), (0, u "source"), (0, u "(Ljava/lang/String;)Ljava/lang/String;"), (0, .string 25), (0, u "standard input"), (0, .methodref 13 27), (0, .nameAndType 28 29), (0, u "equals"), (0, u "(Ljava/lang/Object;)Z"), (3, u "law"), (0, u "(IIII)Z")] 4

def k1m0 : Method := { name := "<init>", desc := "()V", sig := { parameters := [], returnType := none }, accessFlags := 2, code := none }
def k1c1 : Code := { maxStack := 2, maxLocals := 1, code := method_2_code, exceptionTable := #[], attributes := #[] }
def k1m1 : Method := { name := "pick", desc := "(I)C", sig := { parameters := [.int], returnType := some .char }, accessFlags := 10, code := some k1c1 }
def k1c2 : Code := { maxStack := 3, maxLocals := 12, code := code, exceptionTable := #[], attributes := #[] }
def k1m2 : Method := { name := "law", desc := "(IIII)Z", sig := { parameters := [.int, .int, .int, .int], returnType := some .boolean }, accessFlags := 9, code := some k1c2 }
/-- com/example/grackle/grackle/cli/InputsSourcePinLaw -/
def k1 : Class := { plain "com/example/grackle/grackle/cli/InputsSourcePinLaw" (some 0) with
  accessFlags := 49
  interfaces := #[]
  cf := some (fileOf pool1 8 #[] #[{ accessFlags := 2, nameIndex := 5, descriptorIndex := 6, attributes := #[] }, { accessFlags := 10, nameIndex := 11, descriptorIndex := 12, attributes := #[] }, { accessFlags := 9, nameIndex := 33, descriptorIndex := 34, attributes := #[] }] 49 2 #[] #[])
  fields := #[]
  methods := #[k1m0, k1m1, k1m2]
  instanceTypes := #[]
  staticTypes := #[]
  resolved := Array.replicate 39 none
  statics := none }

def pool2 : Array CpInfo := pool [(1, .class_ 2), (0, u "java/io/Serializable"), (0, .class_ 4), (0, u "java/lang/Object")] 2

/-- java/io/Serializable -/
def k2 : Class := { plain "java/io/Serializable" (some 0) with
  accessFlags := 1537
  interfaces := #[]
  cf := some (fileOf pool2 1 #[] #[] 1537 3 #[] #[])
  fields := #[]
  methods := #[]
  instanceTypes := #[]
  staticTypes := #[]
  resolved := Array.replicate 7 none
  statics := none }

def pool3 : Array CpInfo := pool [(1, .class_ 2), (0, u "java/lang/Comparable"), (0, .class_ 4), (0, u "java/lang/Object")] 7

/-- java/lang/Comparable -/
def k3 : Class := { plain "java/lang/Comparable" (some 0) with
  accessFlags := 1537
  interfaces := #[]
  cf := some (fileOf pool3 1 #[] #[] 1537 3 #[] #[])
  fields := #[]
  methods := #[]
  instanceTypes := #[]
  staticTypes := #[]
  resolved := Array.replicate 12 none
  statics := none }

def pool4 : Array CpInfo := pool [(2, .class_ 4), (1, u "java/lang/CharSequence"), (42, .class_ 48), (0, u "java/lang/CharSequence$1CodePointIterator"), (10, .class_ 60), (0, u "java/lang/CharSequence$1CharIterator"), (5, .class_ 67), (0, u "java/lang/Object")] 63

/-- java/lang/CharSequence -/
def k4 : Class := { plain "java/lang/CharSequence" (some 0) with
  accessFlags := 1537
  interfaces := #[]
  cf := some (fileOf pool4 2 #[.nestMembers #[47, 59]] #[] 1537 66 #[] #[])
  fields := #[]
  methods := #[]
  instanceTypes := #[]
  staticTypes := #[]
  resolved := Array.replicate 131 none
  statics := none }

def pool5 : Array CpInfo := pool [(1, .class_ 2), (0, u "java/lang/constant/Constable"), (0, .class_ 4), (0, u "java/lang/Object")] 6

/-- java/lang/constant/Constable -/
def k5 : Class := { plain "java/lang/constant/Constable" (some 0) with
  accessFlags := 1537
  interfaces := #[]
  cf := some (fileOf pool5 1 #[] #[] 1537 3 #[] #[])
  fields := #[]
  methods := #[]
  instanceTypes := #[]
  staticTypes := #[]
  resolved := Array.replicate 11 none
  statics := none }

def pool6 : Array CpInfo := pool [(1, .class_ 2), (0, u "java/lang/constant/ConstantDesc"), (0, .class_ 4), (0, u "java/lang/Object")] 32

/-- java/lang/constant/ConstantDesc -/
def k6 : Class := { plain "java/lang/constant/ConstantDesc" (some 0) with
  accessFlags := 1537
  interfaces := #[]
  cf := some (fileOf pool6 1 #[] #[] 1537 3 #[] #[])
  fields := #[]
  methods := #[]
  instanceTypes := #[]
  staticTypes := #[]
  resolved := Array.replicate 37 none
  statics := none }

def pool7 : Array CpInfo := pool [(1, .methodref 2 3), (0, .class_ 4), (0, .nameAndType 5 6), (0, u "java/lang/Object"), (0, u "<init>"), (0, u "()V"), (0, .string 8), (0, u ""), (0, .fieldref 10 11), (0, .class_ 12), (0, .nameAndType 13 14), (0, u "java/lang/String"), (0, u "value"), (0, u "[B"), (0, .fieldref 10 16), (0, .nameAndType 17 18), (0, u "coder"), (0, u "B"), (2, u "hash"), (0, u "I"), (2, u "hashIsZero"), (0, u "Z"), (0, .methodref 10 28), (0, .nameAndType 5 29), (0, u "([CIILjava/lang/Void;)V"), (8, .fieldref 10 39), (0, .nameAndType 40 26), (0, u "COMPACT_STRINGS"), (1, .class_ 44), (1, u "java/lang/StringUTF16"), (0, u "compress"), (1, .methodref 42 48), (0, .nameAndType 49 50), (0, u "coderFromArrayLen"), (0, u "([BI)B"), (56, .class_ 109), (1, u "java/lang/StringLatin1"), (67, .methodref 42 178), (0, .nameAndType 45 179), (0, u "([CII)[B"), (361, .methodref 107 542), (0, .nameAndType 543 544), (0, u "equals"), (0, u "([B[B)Z"), (28, u "(Ljava/lang/Object;)Z"), (1, .class_ 576), (0, u "java/lang/CharSequence"), (22, u "CASE_INSENSITIVE_ORDER"), (0, u "Ljava/util/Comparator;"), (409, u "([C)V"), (90, u "serialPersistentFields"), (0, u "[Ljava/io/ObjectStreamField;"), (0, .class_ 1104), (0, u "java/lang/String$CaseInsensitiveComparator"), (1, .class_ 1107), (0, u "java/io/Serializable"), (0, .class_ 1109), (0, u "java/lang/Comparable"), (0, .class_ 1111), (0, u "java/lang/constant/Constable"), (0, .class_ 1113), (0, u "java/lang/constant/ConstantDesc"), (2, u "serialVersionUID"), (0, u "J"), (3, u "REPL"), (0, u "C"), (2, u "LATIN1"), (1, u "UTF16")] 323

def k7m0 : Method := { name := "<init>", desc := "()V", sig := { parameters := [], returnType := none }, accessFlags := 1, code := none }
def k7c1 : Code := { maxStack := 5, maxLocals := 2, code := jdk_42_method_3_code, exceptionTable := #[], attributes := #[] }
def k7m1 : Method := { name := "<init>", desc := "([C)V", sig := { parameters := [(.array .char)], returnType := none }, accessFlags := 1, code := some k7c1 }
def k7c2 : Code := { maxStack := 2, maxLocals := 3, code := jdk_42_method_66_code, exceptionTable := #[], attributes := #[] }
def k7m2 : Method := { name := "equals", desc := "(Ljava/lang/Object;)Z", sig := { parameters := [(.object "java/lang/Object")], returnType := some .boolean }, accessFlags := 1, code := some k7c2 }
def k7c3 : Code := { maxStack := 4, maxLocals := 6, code := jdk_42_method_149_code, exceptionTable := #[], attributes := #[] }
def k7m3 : Method := { name := "<init>", desc := "([CIILjava/lang/Void;)V", sig := { parameters := [(.array .char), .int, .int, (.object "java/lang/Void")], returnType := none }, accessFlags := 2, code := some k7c3 }
/-- java/lang/String -/
def k7 : Class := { plain "java/lang/String" (some 0) with
  accessFlags := 49
  interfaces := #[2, 3, 4, 5, 6]
  cf := some (fileOf pool7 10 #[.nestMembers #[1103]] #[{ accessFlags := 1, nameIndex := 5, descriptorIndex := 6, attributes := #[] }, { accessFlags := 1, nameIndex := 5, descriptorIndex := 1010, attributes := #[] }, { accessFlags := 1, nameIndex := 543, descriptorIndex := 573, attributes := #[] }, { accessFlags := 2, nameIndex := 5, descriptorIndex := 29, attributes := #[] }] 49 2 #[1106, 1108, 575, 1110, 1112] #[{ accessFlags := 18, nameIndex := 13, descriptorIndex := 14, attributes := #[] }, { accessFlags := 18, nameIndex := 17, descriptorIndex := 18, attributes := #[] }, { accessFlags := 2, nameIndex := 21, descriptorIndex := 22, attributes := #[] }, { accessFlags := 2, nameIndex := 25, descriptorIndex := 26, attributes := #[] }, { accessFlags := 26, nameIndex := 1116, descriptorIndex := 1117, attributes := #[] }, { accessFlags := 24, nameIndex := 40, descriptorIndex := 26, attributes := #[] }, { accessFlags := 26, nameIndex := 1101, descriptorIndex := 1102, attributes := #[] }, { accessFlags := 26, nameIndex := 1121, descriptorIndex := 1122, attributes := #[] }, { accessFlags := 25, nameIndex := 599, descriptorIndex := 600, attributes := #[] }, { accessFlags := 24, nameIndex := 1125, descriptorIndex := 18, attributes := #[] }, { accessFlags := 24, nameIndex := 1127, descriptorIndex := 18, attributes := #[] }])
  fields := #[{ name := "value", type := (.array .byte), accessFlags := 18, slot := 0, constantValue := 0 }, { name := "coder", type := .byte, accessFlags := 18, slot := 1, constantValue := 0 }, { name := "hash", type := .int, accessFlags := 2, slot := 2, constantValue := 0 }, { name := "hashIsZero", type := .boolean, accessFlags := 2, slot := 3, constantValue := 0 }, { name := "serialVersionUID", type := .long, accessFlags := 26, slot := 0, constantValue := 0 }, { name := "COMPACT_STRINGS", type := .boolean, accessFlags := 24, slot := 1, constantValue := 0 }, { name := "serialPersistentFields", type := (.array (.object "java/io/ObjectStreamField")), accessFlags := 26, slot := 2, constantValue := 0 }, { name := "REPL", type := .char, accessFlags := 26, slot := 3, constantValue := 0 }, { name := "CASE_INSENSITIVE_ORDER", type := (.object "java/util/Comparator"), accessFlags := 25, slot := 4, constantValue := 0 }, { name := "LATIN1", type := .byte, accessFlags := 24, slot := 5, constantValue := 0 }, { name := "UTF16", type := .byte, accessFlags := 24, slot := 6, constantValue := 0 }]
  methods := #[k7m0, k7m1, k7m2, k7m3]
  instanceTypes := #[(.array .byte), .byte, .int, .boolean]
  staticTypes := #[.long, .boolean, (.array (.object "java/io/ObjectStreamField")), .char, (.object "java/util/Comparator"), .byte, .byte]
  resolved := Array.replicate 1451 none
  statics := some 0 }

def pool8 : Array CpInfo := pool [(2, .class_ 4), (1, u "java/lang/Object"), (0, u "<init>"), (0, u "()V"), (0, .string 8), (0, u "-"), (0, .methodref 10 11), (0, .class_ 12), (0, .nameAndType 13 14), (0, u "java/lang/String"), (0, u "equals"), (0, u "(Ljava/lang/Object;)Z"), (22, .class_ 39), (1, u "com/example/grackle/grackle/cli/Inputs"), (0, u "source"), (0, u "(Ljava/lang/String;)Ljava/lang/String;"), (26, .string 69), (0, u "standard input")] 45

def k8m0 : Method := { name := "<init>", desc := "()V", sig := { parameters := [], returnType := none }, accessFlags := 2, code := none }
def k8c1 : Code := { maxStack := 2, maxLocals := 1, code := prog_2_method_4_code, exceptionTable := #[], attributes := #[] }
def k8m1 : Method := { name := "source", desc := "(Ljava/lang/String;)Ljava/lang/String;", sig := { parameters := [(.object "java/lang/String")], returnType := some (.object "java/lang/String") }, accessFlags := 8, code := some k8c1 }
/-- com/example/grackle/grackle/cli/Inputs -/
def k8 : Class := { plain "com/example/grackle/grackle/cli/Inputs" (some 0) with
  accessFlags := 48
  interfaces := #[]
  cf := some (fileOf pool8 37 #[] #[{ accessFlags := 2, nameIndex := 5, descriptorIndex := 6, attributes := #[] }, { accessFlags := 8, nameIndex := 40, descriptorIndex := 41, attributes := #[] }] 48 2 #[] #[])
  fields := #[]
  methods := #[k8m0, k8m1]
  instanceTypes := #[]
  staticTypes := #[]
  resolved := Array.replicate 115 none
  statics := none }

def pool9 : Array CpInfo := pool [(4, .class_ 6), (1, u "java/lang/Object"), (0, u "<init>"), (0, u "()V"), (5, .class_ 16), (1, u "java/lang/StringLatin1"), (104, u "$assertionsDisabled"), (0, u "Z"), (98, .class_ 223), (1, u "java/lang/StringLatin1$LinesSpliterator"), (57, u "equals"), (0, u "([B[B)Z"), (107, .class_ 391), (0, u "java/lang/StringLatin1$CharsSpliterator")] 3

def k9m0 : Method := { name := "<init>", desc := "()V", sig := { parameters := [], returnType := none }, accessFlags := 0, code := none }
def k9c1 : Code := { maxStack := 3, maxLocals := 3, code := jdk_43_method_13_code, exceptionTable := #[], attributes := #[] }
def k9m1 : Method := { name := "equals", desc := "([B[B)Z", sig := { parameters := [(.array .byte), (.array .byte)], returnType := some .boolean }, accessFlags := 9, code := some k9c1 }
/-- java/lang/StringLatin1 -/
def k9 : Class := { plain "java/lang/StringLatin1" (some 0) with
  accessFlags := 48
  interfaces := #[]
  cf := some (fileOf pool9 14 #[.nestMembers #[390, 221]] #[{ accessFlags := 0, nameIndex := 7, descriptorIndex := 8, attributes := #[] }, { accessFlags := 9, nameIndex := 281, descriptorIndex := 282, attributes := #[] }] 48 4 #[] #[{ accessFlags := 4120, nameIndex := 121, descriptorIndex := 122, attributes := #[] }])
  fields := #[{ name := "$assertionsDisabled", type := .boolean, accessFlags := 4120, slot := 0, constantValue := 0 }]
  methods := #[k9m0, k9m1]
  instanceTypes := #[]
  staticTypes := #[.boolean]
  resolved := Array.replicate 395 none
  statics := none }

def pool10 : Array CpInfo := pool [(6, .class_ 8), (1, u "java/lang/Object"), (0, u "<init>"), (0, u "()V"), (1, .class_ 14), (1, u "java/lang/StringUTF16"), (31, u "$assertionsDisabled"), (0, u "Z"), (13, u "HI_BYTE_SHIFT"), (0, u "I"), (2, u "LO_BYTE_SHIFT"), (49, .methodref 12 116), (0, .nameAndType 117 118), (0, u "compress"), (0, u "([CI[BII)I"), (3, u "([CII)[B"), (138, u "coderFromArrayLen"), (0, u "([BI)B"), (106, .class_ 371), (1, u "java/lang/StringUTF16$LinesSpliterator"), (58, u "MAX_LENGTH"), (196, .class_ 628), (0, u "java/lang/StringUTF16$CodePointsSpliterator"), (0, .class_ 630), (0, u "java/lang/StringUTF16$CharsSpliterator")] 4

def k10m0 : Method := { name := "<init>", desc := "()V", sig := { parameters := [], returnType := none }, accessFlags := 0, code := none }
def k10c1 : Code := { maxStack := 2, maxLocals := 2, code := jdk_52_method_15_code, exceptionTable := #[], attributes := #[] }
def k10m1 : Method := { name := "coderFromArrayLen", desc := "([BI)B", sig := { parameters := [(.array .byte), .int], returnType := some .byte }, accessFlags := 8, code := some k10c1 }
def k10c2 : Code := { maxStack := 5, maxLocals := 6, code := jdk_52_method_16_code, exceptionTable := #[], attributes := #[] }
def k10m2 : Method := { name := "compress", desc := "([CII)[B", sig := { parameters := [(.array .char), .int, .int], returnType := some (.array .byte) }, accessFlags := 9, code := some k10c2 }
def k10c3 : Code := { maxStack := 3, maxLocals := 7, code := jdk_52_method_21_code, exceptionTable := #[], attributes := #[] }
def k10m3 : Method := { name := "compress", desc := "([CI[BII)I", sig := { parameters := [(.array .char), .int, (.array .byte), .int, .int], returnType := some .int }, accessFlags := 9, code := some k10c3 }
/-- java/lang/StringUTF16 -/
def k10 : Class := { plain "java/lang/StringUTF16" (some 0) with
  accessFlags := 48
  interfaces := #[]
  cf := some (fileOf pool10 12 #[.nestMembers #[627, 629, 369]] #[{ accessFlags := 0, nameIndex := 9, descriptorIndex := 10, attributes := #[] }, { accessFlags := 8, nameIndex := 261, descriptorIndex := 262, attributes := #[] }, { accessFlags := 9, nameIndex := 117, descriptorIndex := 122, attributes := #[] }, { accessFlags := 9, nameIndex := 117, descriptorIndex := 118, attributes := #[] }] 48 6 #[] #[{ accessFlags := 26, nameIndex := 61, descriptorIndex := 62, attributes := #[] }, { accessFlags := 26, nameIndex := 65, descriptorIndex := 62, attributes := #[] }, { accessFlags := 24, nameIndex := 430, descriptorIndex := 62, attributes := #[] }, { accessFlags := 4120, nameIndex := 46, descriptorIndex := 47, attributes := #[] }])
  fields := #[{ name := "HI_BYTE_SHIFT", type := .int, accessFlags := 26, slot := 0, constantValue := 0 }, { name := "LO_BYTE_SHIFT", type := .int, accessFlags := 26, slot := 1, constantValue := 0 }, { name := "MAX_LENGTH", type := .int, accessFlags := 24, slot := 2, constantValue := 0 }, { name := "$assertionsDisabled", type := .boolean, accessFlags := 4120, slot := 3, constantValue := 0 }]
  methods := #[k10m0, k10m1, k10m2, k10m3]
  instanceTypes := #[]
  staticTypes := #[.int, .int, .int, .boolean]
  resolved := Array.replicate 635 none
  statics := none }

def pool11 : Array CpInfo := pool [(2, .class_ 4), (1, u "java/lang/Object"), (0, u "<init>"), (0, u "()V"), (17, .class_ 26), (1, u "jdk/internal/util/Preconditions"), (28, .class_ 56), (0, u "jdk/internal/util/Preconditions$4"), (57, .class_ 115), (0, u "jdk/internal/util/Preconditions$1"), (7, u "SIOOBE_FORMATTER"), (0, u "Ljava/util/function/BiFunction;"), (0, .class_ 126), (0, u "jdk/internal/util/Preconditions$2"), (3, u "AIOOBE_FORMATTER"), (0, .class_ 132), (0, u "jdk/internal/util/Preconditions$3"), (3, u "IOOBE_FORMATTER")] 57

def k11m0 : Method := { name := "<init>", desc := "()V", sig := { parameters := [], returnType := none }, accessFlags := 1, code := none }
/-- jdk/internal/util/Preconditions -/
def k11 : Class := { plain "jdk/internal/util/Preconditions" (some 0) with
  accessFlags := 33
  interfaces := #[]
  cf := some (fileOf pool11 24 #[.nestMembers #[55, 131, 125, 114]] #[{ accessFlags := 1, nameIndex := 5, descriptorIndex := 6, attributes := #[] }] 33 2 #[] #[{ accessFlags := 25, nameIndex := 123, descriptorIndex := 124, attributes := #[] }, { accessFlags := 25, nameIndex := 130, descriptorIndex := 124, attributes := #[] }, { accessFlags := 25, nameIndex := 136, descriptorIndex := 124, attributes := #[] }])
  fields := #[{ name := "SIOOBE_FORMATTER", type := (.object "java/util/function/BiFunction"), accessFlags := 25, slot := 0, constantValue := 0 }, { name := "AIOOBE_FORMATTER", type := (.object "java/util/function/BiFunction"), accessFlags := 25, slot := 1, constantValue := 0 }, { name := "IOOBE_FORMATTER", type := (.object "java/util/function/BiFunction"), accessFlags := 25, slot := 2, constantValue := 0 }]
  methods := #[k11m0]
  instanceTypes := #[]
  staticTypes := #[(.object "java/util/function/BiFunction"), (.object "java/util/function/BiFunction"), (.object "java/util/function/BiFunction")]
  resolved := Array.replicate 194 none
  statics := some 1 }

def pool12 : Array CpInfo := pool [(9, u "<init>"), (6, .class_ 18), (1, u "java/lang/Object"), (0, u "()V"), (1, .class_ 23), (1, u "jdk/internal/util/ArraysSupport"), (0, u "LOG2_ARRAY_LONG_INDEX_SCALE"), (0, u "I"), (2, u "U"), (0, u "Ljdk/internal/misc/Unsafe;"), (8, u "BIG_ENDIAN"), (0, u "Z"), (8, u "LOG2_BYTE_BIT_SIZE"), (4, u "LOG2_ARRAY_INT_INDEX_SCALE"), (54, u "JLA"), (0, u "Ljdk/internal/access/JavaLangAccess;"), (11, u "LOG2_ARRAY_BOOLEAN_INDEX_SCALE"), (9, u "LOG2_ARRAY_BYTE_INDEX_SCALE"), (5, u "LOG2_ARRAY_CHAR_INDEX_SCALE"), (5, u "LOG2_ARRAY_SHORT_INDEX_SCALE"), (18, u "LOG2_ARRAY_FLOAT_INDEX_SCALE"), (24, u "LOG2_ARRAY_DOUBLE_INDEX_SCALE"), (89, u "T_BOOLEAN"), (2, u "T_CHAR"), (1, u "T_FLOAT"), (1, u "T_DOUBLE"), (1, u "T_BYTE"), (1, u "T_SHORT"), (1, u "T_INT"), (1, u "T_LONG"), (1, u "SOFT_MAX_ARRAY_LENGTH")] 83

def k12m0 : Method := { name := "<init>", desc := "()V", sig := { parameters := [], returnType := none }, accessFlags := 2, code := none }
/-- jdk/internal/util/ArraysSupport -/
def k12 : Class := { plain "jdk/internal/util/ArraysSupport" (some 0) with
  accessFlags := 33
  interfaces := #[]
  cf := some (fileOf pool12 21 #[] #[{ accessFlags := 2, nameIndex := 9, descriptorIndex := 19, attributes := #[] }] 33 16 #[] #[{ accessFlags := 24, nameIndex := 28, descriptorIndex := 29, attributes := #[] }, { accessFlags := 26, nameIndex := 38, descriptorIndex := 39, attributes := #[] }, { accessFlags := 25, nameIndex := 121, descriptorIndex := 25, attributes := #[] }, { accessFlags := 25, nameIndex := 131, descriptorIndex := 25, attributes := #[] }, { accessFlags := 25, nameIndex := 137, descriptorIndex := 25, attributes := #[] }, { accessFlags := 25, nameIndex := 143, descriptorIndex := 25, attributes := #[] }, { accessFlags := 25, nameIndex := 53, descriptorIndex := 25, attributes := #[] }, { accessFlags := 25, nameIndex := 24, descriptorIndex := 25, attributes := #[] }, { accessFlags := 25, nameIndex := 162, descriptorIndex := 25, attributes := #[] }, { accessFlags := 25, nameIndex := 187, descriptorIndex := 25, attributes := #[] }, { accessFlags := 26, nameIndex := 48, descriptorIndex := 25, attributes := #[] }, { accessFlags := 25, nameIndex := 277, descriptorIndex := 25, attributes := #[] }, { accessFlags := 25, nameIndex := 280, descriptorIndex := 25, attributes := #[] }, { accessFlags := 25, nameIndex := 282, descriptorIndex := 25, attributes := #[] }, { accessFlags := 25, nameIndex := 284, descriptorIndex := 25, attributes := #[] }, { accessFlags := 25, nameIndex := 286, descriptorIndex := 25, attributes := #[] }, { accessFlags := 25, nameIndex := 288, descriptorIndex := 25, attributes := #[] }, { accessFlags := 25, nameIndex := 290, descriptorIndex := 25, attributes := #[] }, { accessFlags := 25, nameIndex := 292, descriptorIndex := 25, attributes := #[] }, { accessFlags := 26, nameIndex := 108, descriptorIndex := 109, attributes := #[] }, { accessFlags := 25, nameIndex := 294, descriptorIndex := 25, attributes := #[] }])
  fields := #[{ name := "U", type := (.object "jdk/internal/misc/Unsafe"), accessFlags := 24, slot := 0, constantValue := 0 }, { name := "BIG_ENDIAN", type := .boolean, accessFlags := 26, slot := 1, constantValue := 0 }, { name := "LOG2_ARRAY_BOOLEAN_INDEX_SCALE", type := .int, accessFlags := 25, slot := 2, constantValue := 0 }, { name := "LOG2_ARRAY_BYTE_INDEX_SCALE", type := .int, accessFlags := 25, slot := 3, constantValue := 0 }, { name := "LOG2_ARRAY_CHAR_INDEX_SCALE", type := .int, accessFlags := 25, slot := 4, constantValue := 0 }, { name := "LOG2_ARRAY_SHORT_INDEX_SCALE", type := .int, accessFlags := 25, slot := 5, constantValue := 0 }, { name := "LOG2_ARRAY_INT_INDEX_SCALE", type := .int, accessFlags := 25, slot := 6, constantValue := 0 }, { name := "LOG2_ARRAY_LONG_INDEX_SCALE", type := .int, accessFlags := 25, slot := 7, constantValue := 0 }, { name := "LOG2_ARRAY_FLOAT_INDEX_SCALE", type := .int, accessFlags := 25, slot := 8, constantValue := 0 }, { name := "LOG2_ARRAY_DOUBLE_INDEX_SCALE", type := .int, accessFlags := 25, slot := 9, constantValue := 0 }, { name := "LOG2_BYTE_BIT_SIZE", type := .int, accessFlags := 26, slot := 10, constantValue := 0 }, { name := "T_BOOLEAN", type := .int, accessFlags := 25, slot := 11, constantValue := 0 }, { name := "T_CHAR", type := .int, accessFlags := 25, slot := 12, constantValue := 0 }, { name := "T_FLOAT", type := .int, accessFlags := 25, slot := 13, constantValue := 0 }, { name := "T_DOUBLE", type := .int, accessFlags := 25, slot := 14, constantValue := 0 }, { name := "T_BYTE", type := .int, accessFlags := 25, slot := 15, constantValue := 0 }, { name := "T_SHORT", type := .int, accessFlags := 25, slot := 16, constantValue := 0 }, { name := "T_INT", type := .int, accessFlags := 25, slot := 17, constantValue := 0 }, { name := "T_LONG", type := .int, accessFlags := 25, slot := 18, constantValue := 0 }, { name := "JLA", type := (.object "jdk/internal/access/JavaLangAccess"), accessFlags := 26, slot := 19, constantValue := 0 }, { name := "SOFT_MAX_ARRAY_LENGTH", type := .int, accessFlags := 25, slot := 20, constantValue := 0 }]
  methods := #[k12m0]
  instanceTypes := #[]
  staticTypes := #[(.object "jdk/internal/misc/Unsafe"), .boolean, .int, .int, .int, .int, .int, .int, .int, .int, .int, .int, .int, .int, .int, .int, .int, .int, .int, (.object "jdk/internal/access/JavaLangAccess"), .int]
  resolved := Array.replicate 378 none
  statics := none }

def pool13 : Array CpInfo := pool [(1, u "java/lang/Cloneable"), (0, .class_ 1), (0, u "java/lang/Object"), (0, .class_ 3)] 3

/-- java/lang/Cloneable -/
def k13 : Class := { plain "java/lang/Cloneable" (some 0) with
  accessFlags := 1537
  interfaces := #[]
  cf := some (fileOf pool13 2 #[] #[] 1537 4 #[] #[])
  fields := #[]
  methods := #[]
  instanceTypes := #[]
  staticTypes := #[]
  resolved := Array.replicate 8 none
  statics := none }

/-- the primitive byte -/
def k14 : Class := { plain "byte" none with kind := .primitive 'B', accessFlags := 0x411 }
/-- [B -/
def k15 : Class := { plain "[B" (some 0) with kind := .array 14 .byte, interfaces := #[13, 2], accessFlags := 1041 }

/-- the primitive char -/
def k16 : Class := { plain "char" none with kind := .primitive 'C', accessFlags := 0x411 }
/-- [C -/
def k17 : Class := { plain "[C" (some 0) with kind := .array 16 .char, interfaces := #[13, 2], accessFlags := 1041 }

/-- the primitive int -/
def k18 : Class := { plain "int" none with kind := .primitive 'I', accessFlags := 0x411 }
/-- [I -/
def k19 : Class := { plain "[I" (some 0) with kind := .array 18 .int, interfaces := #[13, 2], accessFlags := 1041 }

def heap : Heap := #[{ cls := 7, slots := #[.long 0, .int 1, .null, .int 0, .null, .int 0, .int 0], vm := .statics 7 },
  { cls := 11, slots := #[.null, .null, .null], vm := .statics 11 }]
def classes : Array Class := #[k0, k1, k2, k3, k4, k5, k6, k7, k8, k9, k10, k11, k12, k13, k14, k15, k16, k17, k18, k19]
def interned : List (Array UInt16 × Addr) := []
def slotsUsed : Nat := 10
def theMethod : MethodId := ⟨1, 2⟩
def args0 : Array Value := #[.int 1, .int 2, .int 5, .int 7]
def aboutOver (below : List Frame) : State where
  vm := { classes := classes, interned := interned.toArray }
  heap := heap
  slotsUsed := slotsUsed
  threads := #[{ frames := .invoking theMethod args0 :: below }]
def below0 : List Frame := [.native { method := ⟨0, 0⟩, args := #[] }]
def about1 : State := aboutOver below0
def p0 : Program := .bare "" "" ""
def e0 : Env := launch0.env 0 0 0
theorem w_frames : about1.frames = Frame.invoking theMethod args0 :: below0 := rfl
set_option maxRecDepth 65536 in
theorem w_args : argsFit about1.vm theMethod args0 = true := by decide +kernel
set_option maxRecDepth 65536 in
theorem w_heap : heapFits about1 = true := by decide +kernel
set_option maxRecDepth 65536 in
theorem w_runnable : about1.curStatus? = some .runnable := by decide +kernel
set_option maxRecDepth 65536 in
theorem w_alone : about1.alone = true := by decide +kernel
set_option maxRecDepth 65536 in
theorem w_named : about1.methodNamed? x = some theMethod := by decide +kernel
set_option maxRecDepth 65536 in
theorem w_hears : about1.hears theMethod below0 = true := by decide +kernel
set_option maxRecDepth 65536 in
theorem w_ripe : about1.ripe theMethod args0 below0 = true := by decide +kernel
theorem w_running : about1.status = .running := rfl
set_option maxRecDepth 65536 in
theorem w_room : about1.hasRoom e0.platform room_1 = true :=
  launch0.hasRoom_least _ room_1 (by decide +kernel) (by decide +kernel) (by decide +kernel) (by decide +kernel) (by decide +kernel) (by decide +kernel)
theorem allAtoms_all (ts : List Jvm.Cond) (a : Array Jvm.Value) (st : Jvm.State) : (allAtoms ts).before a st = ts.all (fun c => c.before a st) := by
  induction ts with
  | nil => rfl
  | cons c t ih =>
    show (Jvm.Cond.and c (allAtoms t)).before a st = _
    rw [Jvm.Cond.before_and, ih, List.all_cons]
def words1 : List Jvm.Cond := Jvm.Cond.code x code maxLocals ret :: tables_1
/-- a 'code' word, met by the world's own term for the bytes: nothing is compared byte by byte -/
theorem code_word {y : MethodName} {bytes : ByteArray} {mx : Nat} {rt : Option FieldType} {a : Array Value} {s : State} {m : MethodId} {meth : Method} {c : Code} (h1 : s.methodNamed? y = some m) (h2 : s.vm.method? m = some meth) (h3 : meth.code = some c) (h4 : c.code = bytes)
    (h5 : (c.maxLocals == mx && c.exceptionTable.isEmpty && decide (c.maxStack ≤ mostOperands) && decide (meth.sig.returnType = rt) && !meth.locks && decide (parseMethodDescriptor y.desc = some meth.sig)) = true) : (Jvm.Cond.code y bytes mx rt).before a s = true := by
  simp only [Bool.and_eq_true, beq_iff_eq, Bool.not_eq_true', decide_eq_true_eq] at h5
  obtain ⟨⟨⟨⟨⟨g1, g2⟩, g3⟩, g4⟩, g5⟩, g6⟩ := h5
  simp [Cond.before, Cond.holds, Cond.value, h1, h2, h3, h4, g1, g2, g3, g4, g5, g6]
def isCode : Jvm.Cond → Bool
  | .code _ _ _ _ => true
  | _ => false
theorem all_split {L : List Jvm.Cond} {P : Jvm.Cond → Bool} (h1 : L.all (fun c => isCode c || P c) = true) (h2 : ∀ c ∈ L.filter isCode, P c = true) : L.all P = true := by
  refine List.all_eq_true.mpr fun c hc => ?_
  have h := List.all_eq_true.mp h1 c hc
  rcases Bool.eq_false_or_eq_true (isCode c) with hi | hi
  · exact h2 c (List.mem_filter.mpr ⟨hc, hi⟩)
  · simpa [hi] using h
set_option maxRecDepth 65536 in
theorem w_c0 : (Jvm.Cond.code x code maxLocals ret).before args0 about1 = true := code_word (m := ⟨1, 2⟩) (meth := k1m2) (c := k1c2) (by decide +kernel) rfl rfl rfl (by decide +kernel)
set_option maxRecDepth 65536 in
theorem w_c1 : (Jvm.Cond.code ({ cls := "com/example/grackle/grackle/cli/InputsSourcePinLaw", name := "pick", desc := "(I)C" } : Jvm.MethodName) method_2_code (1 : Nat) (Option.some Jvm.ClassFile.FieldType.char)).before args0 about1 = true := code_word (m := ⟨1, 1⟩) (meth := k1m1) (c := k1c1) (by decide +kernel) rfl rfl rfl (by decide +kernel)
set_option maxRecDepth 65536 in
theorem w_c2 : (Jvm.Cond.code ({ cls := "java/lang/String", name := "<init>", desc := "([C)V" } : Jvm.MethodName) jdk_42_method_3_code (2 : Nat) (Option.none : Option Jvm.ClassFile.FieldType)).before args0 about1 = true := code_word (m := ⟨7, 1⟩) (meth := k7m1) (c := k7c1) (by decide +kernel) rfl rfl rfl (by decide +kernel)
set_option maxRecDepth 65536 in
theorem w_c3 : (Jvm.Cond.code ({ cls := "java/lang/String", name := "<init>", desc := "([CIILjava/lang/Void;)V" } : Jvm.MethodName) jdk_42_method_149_code (6 : Nat) (Option.none : Option Jvm.ClassFile.FieldType)).before args0 about1 = true := code_word (m := ⟨7, 3⟩) (meth := k7m3) (c := k7c3) (by decide +kernel) rfl rfl rfl (by decide +kernel)
set_option maxRecDepth 65536 in
theorem w_c4 : (Jvm.Cond.code ({ cls := "java/lang/Object", name := "<init>", desc := "()V" } : Jvm.MethodName) object_method_1_code (1 : Nat) (Option.none : Option Jvm.ClassFile.FieldType)).before args0 about1 = true := code_word (m := ⟨0, 0⟩) (meth := k0m0) (c := k0c0) (by decide +kernel) rfl rfl rfl (by decide +kernel)
set_option maxRecDepth 65536 in
theorem w_c5 : (Jvm.Cond.code ({ cls := "com/example/grackle/grackle/cli/Inputs", name := "source", desc := "(Ljava/lang/String;)Ljava/lang/String;" } : Jvm.MethodName) prog_2_method_4_code (1 : Nat) (Option.some (Jvm.ClassFile.FieldType.object "java/lang/String"))).before args0 about1 = true := code_word (m := ⟨8, 1⟩) (meth := k8m1) (c := k8c1) (by decide +kernel) rfl rfl rfl (by decide +kernel)
set_option maxRecDepth 65536 in
theorem w_c6 : (Jvm.Cond.code ({ cls := "java/lang/String", name := "equals", desc := "(Ljava/lang/Object;)Z" } : Jvm.MethodName) jdk_42_method_66_code (3 : Nat) (Option.some Jvm.ClassFile.FieldType.boolean)).before args0 about1 = true := code_word (m := ⟨7, 2⟩) (meth := k7m2) (c := k7c2) (by decide +kernel) rfl rfl rfl (by decide +kernel)
set_option maxRecDepth 65536 in
theorem w_c7 : (Jvm.Cond.code ({ cls := "java/lang/StringLatin1", name := "equals", desc := "([B[B)Z" } : Jvm.MethodName) jdk_43_method_13_code (3 : Nat) (Option.some Jvm.ClassFile.FieldType.boolean)).before args0 about1 = true := code_word (m := ⟨9, 1⟩) (meth := k9m1) (c := k9c1) (by decide +kernel) rfl rfl rfl (by decide +kernel)
set_option maxRecDepth 65536 in
theorem w_c8 : (Jvm.Cond.code ({ cls := "java/lang/StringUTF16", name := "compress", desc := "([CII)[B" } : Jvm.MethodName) jdk_52_method_16_code (6 : Nat) (Option.some (Jvm.ClassFile.FieldType.array Jvm.ClassFile.FieldType.byte))).before args0 about1 = true := code_word (m := ⟨10, 2⟩) (meth := k10m2) (c := k10c2) (by decide +kernel) rfl rfl rfl (by decide +kernel)
set_option maxRecDepth 65536 in
theorem w_c9 : (Jvm.Cond.code ({ cls := "java/lang/StringUTF16", name := "compress", desc := "([CI[BII)I" } : Jvm.MethodName) jdk_52_method_21_code (7 : Nat) (Option.some Jvm.ClassFile.FieldType.int)).before args0 about1 = true := code_word (m := ⟨10, 3⟩) (meth := k10m3) (c := k10c3) (by decide +kernel) rfl rfl rfl (by decide +kernel)
set_option maxRecDepth 65536 in
theorem w_c10 : (Jvm.Cond.code ({ cls := "java/lang/StringUTF16", name := "coderFromArrayLen", desc := "([BI)B" } : Jvm.MethodName) jdk_52_method_15_code (2 : Nat) (Option.some Jvm.ClassFile.FieldType.byte)).before args0 about1 = true := code_word (m := ⟨10, 1⟩) (meth := k10m1) (c := k10c1) (by decide +kernel) rfl rfl rfl (by decide +kernel)
def codes1 : List Jvm.Cond := [Jvm.Cond.code x code maxLocals ret, Jvm.Cond.code ({ cls := "com/example/grackle/grackle/cli/InputsSourcePinLaw", name := "pick", desc := "(I)C" } : Jvm.MethodName) method_2_code (1 : Nat) (Option.some Jvm.ClassFile.FieldType.char), Jvm.Cond.code ({ cls := "java/lang/String", name := "<init>", desc := "([C)V" } : Jvm.MethodName) jdk_42_method_3_code (2 : Nat) (Option.none : Option Jvm.ClassFile.FieldType), Jvm.Cond.code ({ cls := "java/lang/String", name := "<init>", desc := "([CIILjava/lang/Void;)V" } : Jvm.MethodName) jdk_42_method_149_code (6 : Nat) (Option.none : Option Jvm.ClassFile.FieldType), Jvm.Cond.code ({ cls := "java/lang/Object", name := "<init>", desc := "()V" } : Jvm.MethodName) object_method_1_code (1 : Nat) (Option.none : Option Jvm.ClassFile.FieldType), Jvm.Cond.code ({ cls := "com/example/grackle/grackle/cli/Inputs", name := "source", desc := "(Ljava/lang/String;)Ljava/lang/String;" } : Jvm.MethodName) prog_2_method_4_code (1 : Nat) (Option.some (Jvm.ClassFile.FieldType.object "java/lang/String")), Jvm.Cond.code ({ cls := "java/lang/String", name := "equals", desc := "(Ljava/lang/Object;)Z" } : Jvm.MethodName) jdk_42_method_66_code (3 : Nat) (Option.some Jvm.ClassFile.FieldType.boolean), Jvm.Cond.code ({ cls := "java/lang/StringLatin1", name := "equals", desc := "([B[B)Z" } : Jvm.MethodName) jdk_43_method_13_code (3 : Nat) (Option.some Jvm.ClassFile.FieldType.boolean), Jvm.Cond.code ({ cls := "java/lang/StringUTF16", name := "compress", desc := "([CII)[B" } : Jvm.MethodName) jdk_52_method_16_code (6 : Nat) (Option.some (Jvm.ClassFile.FieldType.array Jvm.ClassFile.FieldType.byte)), Jvm.Cond.code ({ cls := "java/lang/StringUTF16", name := "compress", desc := "([CI[BII)I" } : Jvm.MethodName) jdk_52_method_21_code (7 : Nat) (Option.some Jvm.ClassFile.FieldType.int), Jvm.Cond.code ({ cls := "java/lang/StringUTF16", name := "coderFromArrayLen", desc := "([BI)B" } : Jvm.MethodName) jdk_52_method_15_code (2 : Nat) (Option.some Jvm.ClassFile.FieldType.byte)]
set_option maxRecDepth 65536 in
theorem codes_eq : words1.filter isCode = codes1 := rfl
theorem w_codes : ∀ c ∈ words1.filter isCode, c.before args0 about1 = true := by
  rw [codes_eq]
  intro c hc
  simp only [codes1, List.mem_cons, List.not_mem_nil, or_false] at hc
  rcases hc with rfl | rfl | rfl | rfl | rfl | rfl | rfl | rfl | rfl | rfl | rfl
  · exact w_c0
  · exact w_c1
  · exact w_c2
  · exact w_c3
  · exact w_c4
  · exact w_c5
  · exact w_c6
  · exact w_c7
  · exact w_c8
  · exact w_c9
  · exact w_c10
set_option maxRecDepth 65536 in
theorem w_t1 : (words1.take 24).all (fun c => isCode c || c.before args0 about1) = true := by decide +kernel
set_option maxRecDepth 65536 in
theorem w_t2 : ((words1.drop 24).take 24).all (fun c => isCode c || c.before args0 about1) = true := by decide +kernel
set_option maxRecDepth 65536 in
theorem w_t3 : ((words1.drop 24).drop 24).all (fun c => isCode c || c.before args0 about1) = true := by decide +kernel
theorem w_tables : (allAtoms (Jvm.Cond.code x code maxLocals ret :: tables_1)).before args0 about1 = true := by
  rw [allAtoms_all]
  show words1.all (fun c => c.before args0 about1) = true
  refine all_split ?_ w_codes
  rw [← List.take_append_drop 24 words1, List.all_append, w_t1, ← List.take_append_drop 24 (words1.drop 24), List.all_append, w_t2, w_t3]
  rfl
set_option maxRecDepth 65536 in
theorem w_rest : rest_1_c.before args0 about1 = true := by decide +kernel
set_option maxRecDepth 65536 in
theorem w_case : (Jvm.Cond.and given_1 narrow_1).before args0 about1 = true := by decide +kernel
set_option maxRecDepth 65536 in
theorem w_consts : constsHeld consts_1 about1 := Jvm.Lit.constsHeldB_iff.mp (by decide +kernel)
theorem w_applies : (headSpec (Jvm.Cond.code x code maxLocals ret :: tables_1) room_1).applies x e0.platform about1 = true :=
  (Spec.applies_iff w_frames).mpr ⟨w_running, w_runnable, w_alone, w_named, w_hears, w_ripe, w_room, w_tables⟩
theorem atStart : AtStart classFile x code maxLocals ret World_1 tables_1 room_1 Calls_1 rest_1 Pre_1 launch0 p0 e0 about1 theMethod args0 below0 :=
  ⟨lists_1, trivial, launch0.admits_env _ _ _, launch0.least_env, fairChoices_fair.cas, fairChoices_fair.clock, w_frames, w_args, w_heap, w_applies, ⟨w_consts, trivial⟩, w_rest, w_case⟩
end start1
theorem witness_1 : WitnessClaimed_1 := ⟨start1.p0, start1.e0, start1.about1, start1.theMethod, start1.args0, start1.below0, start1.atStart⟩
end Jvm.Pilot.@@N@@
