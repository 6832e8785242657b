import JvmDerived
import JvmDerived.Pilot.@@N@@Statement
import JvmDerived.Pilot.@@N@@Code
set_option linter.unusedVariables false
set_option linter.unusedSimpArgs false
set_option maxRecDepth 65536
set_option maxHeartbeats 40000000
namespace Jvm.Wk
abbrev F4 := Fin 4
abbrev F2 := Fin 2
open Sem ClassFile Op Lib Jvm.Stand Jvm.Free Jvm.LawKit Jvm.RoadKit
/-- the array at a holds just these values -/
def Ary (Z : State) (h : Heap) (a : Addr) (ty : FieldType) (vs : List Value) : Prop :=
  ∃ c : Cell, Arr Z h a c ty ∧ c.slots.toList = vs ∧ (∀ v ∈ vs, fits ty v = true) ∧ vs.length < 2 ^ 31
/-- how a body ends (of the start and the end), and what is known of the tables where its walk stands -/
abbrev FEnd := (State → Outcome → State → List Loc → Nat → Nat → Prop) × (Vm → Prop)
abbrev FN : FEnd := ⟨FrameEnd, fun _ => True⟩
/-- the wide frame: String constants may have been resolved, the table of interned texts may have grown -/
abbrev FEW : FEnd := ⟨fun s o t L k n => (∃ v : Option Value, o = Outcome.returned v) ∧ s.Warmed39 t.vm ∧ (∀ (j : Nat) (p : Array UInt16 × Addr), s.vm.interned.size ≤ j → t.vm.interned[j]? = some p → s.heap.size ≤ p.2 ∧ p.2 < t.heap.size) ∧ s.sameButNew { t with vm := s.vm } L k n, fun _ => True⟩
def Endz (FE : FEnd) (p : Program) (e : Env) (below : List Frame) (s : State) (R : Room) (n0 : Nat) (P : Option Value → Heap → Prop) (T : State) (g : JFrame) : Prop :=
  ∃ s₂ o, Steps p.tables e below (T.setTop g) s₂ ∧ s₂.status = .running ∧ Ended s₂ below o ∧ ∃ v L, o = .returned v ∧ (P v s₂.heap ∧ Fr n0 L) ∧ FE.1 s o s₂ L R.cells R.slots
/-- from pc, with these locals, this stack and this heap, the body comes to its end, and P holds there -/
def WG (FE : FEnd) (l : Launch) (R : Room) (Z : State) (own nm : String) (bytes : ByteArray) (maxL : Nat) (ret : Option FieldType) (n0 : Nat) (P : Option Value → Heap → Prop) (h : Heap) (cells slots pc : Nat) (Ls : Array Slot) (st : List Value) : Prop :=
  ∀ (p : Program) (e : Env) (s : State) (m : MethodId) (args : Array Value) (below : List Frame) (meth : Method) (c : Code) (T : State) (locs : List Loc),
    p.tables.exec = Jvm.exec → Z.Warmed39 s.vm → c.code = bytes → c.maxLocals = maxL → s.vm.findClass own = some m.cls → meth.sig.returnType = ret → meth.locks = false → meth.name = nm → (n0 ≤ s.heap.size ∧ FE.2 s.vm) →
    Stand p l e R s m args below meth c T locs cells slots → T.heap = h → Fr n0 locs → Endz FE p e below s R n0 P T (mkF m pc Ls st)
abbrev W := WG FN
/-- a method's contract where it is called with these arguments over this heap -/
def ConG (FE : FEnd) (ws : List Jvm.Cond) (l : Launch) (Z : State) (y : MethodName) (bytes : ByteArray) (maxL : Nat) (ret : Option FieldType) (rm : Room) (as : Array Value) (h : Heap) (n0 : Nat) (P : Option Value → Heap → Prop) : Prop :=
  MetFree l y (head1 (Jvm.Cond.code y bytes maxL ret :: ws) rm) (fun a U => a = as ∧ Z.Warmed39 U.vm ∧ U.heap = h) (fun _ _ _ _ _ => True) (fun _ U o U' => ∃ v L, o = .returned v ∧ (P v U'.heap ∧ Fr n0 L) ∧ FE.1 U o U' L rm.cells rm.slots)
abbrev ConW := ConG FN
abbrev Con := ConW []
section Rules
variable {FE : FEnd} {l : Launch} {R : Room} {Z : State} {own nm : String} {bytes : ByteArray} {maxL : Nat} {ret : Option FieldType} {n0 : Nat} {P : Option Value → Heap → Prop} {h : Heap} {cells slots pc : Nat} {Ls : Array Slot} {st : List Value} {a0 : Array Value}
theorem Endz.step {p : Program} {e : Env} {below : List Frame} {s : State} {T T' : State} {g g' : JFrame} (k : Endz FE p e below s R n0 P T' g') (f : ∀ t, Steps p.tables e below (T'.setTop g') t → Steps p.tables e below (T.setTop g) t) : Endz FE p e below s R n0 P T g := by
  obtain ⟨s₂, o, h1, h2⟩ := k
  exact ⟨s₂, o, f _ h1, h2⟩
theorem WG.step {pc' : Nat} {Ls' : Array Slot} {st' : List Value} (k : WG FE l R Z own nm bytes maxL ret n0 P h cells slots pc' Ls' st')
    (f : ∀ (p : Program) (e : Env) (s : State) (m : MethodId) (args : Array Value) (below : List Frame) (meth : Method) (c : Code) (T : State) (locs : List Loc), p.tables.exec = Jvm.exec → Z.Warmed39 s.vm → c.code = bytes → s.vm.findClass own = some m.cls → Stand p l e R s m args below meth c T locs cells slots → T.heap = h →
      ∀ t, Steps p.tables e below (T.setTop (mkF m pc' Ls' st')) t → Steps p.tables e below (T.setTop (mkF m pc Ls st)) t) : WG FE l R Z own nm bytes maxL ret n0 P h cells slots pc Ls st := by
  intro p e s m args below meth c T locs hx hZ hby hml hown hret hlk hnm hn0 X eT N
  exact (k p e s m args below meth c T locs hx hZ hby hml hown hret hlk hnm hn0 X eT N).step (f p e s m args below meth c T locs hx hZ hby hown X eT)
theorem WG.post {P' : Option Value → Heap → Prop} (k : WG FE l R Z own nm bytes maxL ret n0 P' h cells slots pc Ls st) (f : ∀ v h', P' v h' → P v h') : WG FE l R Z own nm bytes maxL ret n0 P h cells slots pc Ls st := by
  intro p e s m args below meth c T locs hx hZ hby hml hown hret hlk hnm hn0 X eT N
  obtain ⟨s₂, o, h1, h2, h3, v, L, h4, h5, h6⟩ := k p e s m args below meth c T locs hx hZ hby hml hown hret hlk hnm hn0 X eT N
  exact ⟨s₂, o, h1, h2, h3, v, L, h4, ⟨f _ _ h5.1, h5.2⟩, h6⟩
theorem WG.mono {cells' slots' : Nat} (k : WG FE l R Z own nm bytes maxL ret n0 P h cells' slots' pc Ls st) (hc : cells ≤ cells') (hs : slots ≤ slots') : WG FE l R Z own nm bytes maxL ret n0 P h cells slots pc Ls st := by
  intro p e s m args below meth c T locs hx hZ hby hml hown hret hlk hnm hn0 X eT N
  exact k p e s m args below meth c T locs hx hZ hby hml hown hret hlk hnm hn0 { X with same := X.same.mono hc hs } eT N
theorem ConG.post {ws : List Jvm.Cond} {y : MethodName} {rm : Room} {as : Array Value} {P' : Option Value → Heap → Prop} (k : ConG FE ws l Z y bytes maxL ret rm as h n0 P') (f : ∀ v h', P' v h' → P v h') : ConG FE ws l Z y bytes maxL ret rm as h n0 P := by
  intro p e ha hc hk s m args below hf happ hP hK
  obtain ⟨n, o, h1, h2, h3, v, L, h4, h5, h6⟩ := k p e ha hc hk s m args below hf happ hP hK
  exact ⟨n, o, h1, h2, h3, v, L, h4, ⟨f _ _ h5.1, h5.2⟩, h6⟩
theorem ConG.of_W {ws : List Jvm.Cond} {y : MethodName} {rm : Room} {as : Array Value} (hy : plainFor y = true) (hn : n0 ≤ h.size) (hef : ∀ m, entryFrame m as maxL = mkF m 0 Ls []) (k : WG FE l rm Z y.cls y.name bytes maxL ret n0 P h 0 0 0 Ls []) (hI : ∀ vm, FE.2 vm := by intro _; trivial) : ConG FE ws l Z y bytes maxL ret rm as h n0 P := by
  refine MetFree.of_bodySF hy hisR ?_
  intro p e s m args below meth c s₁ Bd hml0 hP hK
  obtain ⟨rfl, hZ, hh⟩ := hP
  have hown : s.vm.findClass y.cls = some m.cls := findClass_of_methodNamed Bd.named
  have hnm := (name_of_methodNamed Bd.named Bd.method).1
  have X0 : Stand p l e rm s m _ below meth c s₁ [] 0 0 := Stand.of_body Bd
  have e0 : s₁.heap = h := by rw [← hh, Bd.state]; rfl
  obtain ⟨s₂, o, h1, h2⟩ := k p e s m _ below meth c s₁ [] Bd.exec hZ Bd.bytes hml0 hown Bd.returns (BodyLoose.notSynchronized Bd) hnm ⟨by rw [hh]; exact hn, hI _⟩ X0 e0 (Fr.nil n0)
  exact ⟨s₂, o, castTop (hef m) h1, h2⟩
/-! pure steps -/
theorem W.iadd {x y : Int32} (n : Nat) (hd : decode bytes pc = .ok (.iadd, 1)) (hn : pc + 1 = n) (v : Int32) (hv : x + y = v) (k : WG FE l R Z own nm bytes maxL ret n0 P h cells slots n Ls (.int v :: st)) : WG FE l R Z own nm bytes maxL ret n0 P h cells slots pc Ls (.int y :: .int x :: st) := by
  subst hn
  exact k.step fun p e s m args below meth c T locs hx hZ hby hown X eT t q => XS.iadd X.here hx rfl (hb hby hd) rfl (hv ▸ q)
theorem W.isub {x y : Int32} (n : Nat) (hd : decode bytes pc = .ok (.isub, 1)) (hn : pc + 1 = n) (v : Int32) (hv : x - y = v) (k : WG FE l R Z own nm bytes maxL ret n0 P h cells slots n Ls (.int v :: st)) : WG FE l R Z own nm bytes maxL ret n0 P h cells slots pc Ls (.int y :: .int x :: st) := by
  subst hn
  exact k.step fun p e s m args below meth c T locs hx hZ hby hown X eT t q => XS.isub X.here hx rfl (hb hby hd) rfl (hv ▸ q)
theorem W.iand {x y : Int32} (n : Nat) (hd : decode bytes pc = .ok (.iand, 1)) (hn : pc + 1 = n) (v : Int32) (hv : x &&& y = v) (k : WG FE l R Z own nm bytes maxL ret n0 P h cells slots n Ls (.int v :: st)) : WG FE l R Z own nm bytes maxL ret n0 P h cells slots pc Ls (.int y :: .int x :: st) := by
  subst hn
  exact k.step fun p e s m args below meth c T locs hx hZ hby hown X eT t q => XS.iand X.here hx rfl (hb hby hd) rfl (hv ▸ q)
theorem W.ixor {x y : Int32} (n : Nat) (hd : decode bytes pc = .ok (.ixor, 1)) (hn : pc + 1 = n) (v : Int32) (hv : x ^^^ y = v) (k : WG FE l R Z own nm bytes maxL ret n0 P h cells slots n Ls (.int v :: st)) : WG FE l R Z own nm bytes maxL ret n0 P h cells slots pc Ls (.int y :: .int x :: st) := by
  subst hn
  exact k.step fun p e s m args below meth c T locs hx hZ hby hown X eT t q => XS.ixor X.here hx rfl (hb hby hd) rfl (hv ▸ q)
theorem W.lxor {x y : Int64} (n : Nat) (hd : decode bytes pc = .ok (.lxor, 1)) (hn : pc + 1 = n) (v : Int64) (hv : x ^^^ y = v) (k : WG FE l R Z own nm bytes maxL ret n0 P h cells slots n Ls (.long v :: st)) : WG FE l R Z own nm bytes maxL ret n0 P h cells slots pc Ls (.long y :: .long x :: st) := by
  subst hn
  exact k.step fun p e s m args below meth c T locs hx hZ hby hown X eT t q => XS.lxor X.here hx rfl (hb hby hd) rfl (hv ▸ q)
theorem W.irem {x y : Int32} (n : Nat) (hd : decode bytes pc = .ok (.irem, 1)) (hn : pc + 1 = n) (hy : y ≠ 0) (v : Int32) (hv : x % y = v) (k : WG FE l R Z own nm bytes maxL ret n0 P h cells slots n Ls (.int v :: st)) : WG FE l R Z own nm bytes maxL ret n0 P h cells slots pc Ls (.int y :: .int x :: st) := by
  subst hn
  exact k.step fun p e s m args below meth c T locs hx hZ hby hown X eT t q => iremM X hx rfl (hb hby hd) rfl hy (hv ▸ q)
theorem W.ishr {x y : Int32} (n : Nat) (hd : decode bytes pc = .ok (.ishr, 1)) (hn : pc + 1 = n) (v : Int32) (hv : x >>> (y &&& 31) = v) (k : WG FE l R Z own nm bytes maxL ret n0 P h cells slots n Ls (.int v :: st)) : WG FE l R Z own nm bytes maxL ret n0 P h cells slots pc Ls (.int y :: .int x :: st) := by
  subst hn
  exact k.step fun p e s m args below meth c T locs hx hZ hby hown X eT t q => XS.ishr X.here hx rfl (hb hby hd) rfl (hv ▸ q)
theorem W.iushr {x y : Int32} (n : Nat) (hd : decode bytes pc = .ok (.iushr, 1)) (hn : pc + 1 = n) (v : Int32) (hv : (x.toUInt32 >>> (y &&& 31).toUInt32).toInt32 = v) (k : WG FE l R Z own nm bytes maxL ret n0 P h cells slots n Ls (.int v :: st)) : WG FE l R Z own nm bytes maxL ret n0 P h cells slots pc Ls (.int y :: .int x :: st) := by
  subst hn
  exact k.step fun p e s m args below meth c T locs hx hZ hby hown X eT t q => XS.iushr X.here hx rfl (hb hby hd) rfl (hv ▸ q)
theorem W.i2b {x : Int32} (n : Nat) (hd : decode bytes pc = .ok (.i2b, 1)) (hn : pc + 1 = n) (v : Int32) (hv : x.toInt8.toInt32 = v) (k : WG FE l R Z own nm bytes maxL ret n0 P h cells slots n Ls (.int v :: st)) : WG FE l R Z own nm bytes maxL ret n0 P h cells slots pc Ls (.int x :: st) := by
  subst hn
  exact k.step fun p e s m args below meth c T locs hx hZ hby hown X eT t q => XS.i2b X.here hx rfl (hb hby hd) rfl (hv ▸ q)
theorem W.i2c {x : Int32} (n : Nat) (hd : decode bytes pc = .ok (.i2c, 1)) (hn : pc + 1 = n) (v : Int32) (hv : x.toUInt32.toUInt16.toUInt32.toInt32 = v) (k : WG FE l R Z own nm bytes maxL ret n0 P h cells slots n Ls (.int v :: st)) : WG FE l R Z own nm bytes maxL ret n0 P h cells slots pc Ls (.int x :: st) := by
  subst hn
  exact k.step fun p e s m args below meth c T locs hx hZ hby hown X eT t q => XS.i2c X.here hx rfl (hb hby hd) rfl (hv ▸ q)
theorem W.lcmp {x y : Int64} (n : Nat) (hd : decode bytes pc = .ok (.lcmp, 1)) (hn : pc + 1 = n) (v : Int32) (hv : lcmpW x y = v) (k : WG FE l R Z own nm bytes maxL ret n0 P h cells slots n Ls (.int v :: st)) : WG FE l R Z own nm bytes maxL ret n0 P h cells slots pc Ls (.long y :: .long x :: st) := by
  subst hn
  exact k.step fun p e s m args below meth c T locs hx hZ hby hown X eT t q => XS.lcmp X.here hx rfl (hb hby hd) rfl ((show (if x > y then 1 else if x = y then 0 else -1) = v from hv) ▸ q)
theorem W.iconst {i : Int} (n : Nat) (hd : decode bytes pc = .ok (.iconst i, 1)) (hn : pc + 1 = n) (v : Int32) (hv : Int32.ofInt i = v) (k : WG FE l R Z own nm bytes maxL ret n0 P h cells slots n Ls (.int v :: st)) : WG FE l R Z own nm bytes maxL ret n0 P h cells slots pc Ls st := by
  subst hn
  exact k.step fun p e s m args below meth c T locs hx hZ hby hown X eT t q => XS.iconst X.here hx rfl (hb hby hd) (hv ▸ q)
theorem W.bipush {i : Int} (n : Nat) (hd : decode bytes pc = .ok (.bipush i, 2)) (hn : pc + 2 = n) (v : Int32) (hv : (Int8.ofInt i).toInt32 = v) (k : WG FE l R Z own nm bytes maxL ret n0 P h cells slots n Ls (.int v :: st)) : WG FE l R Z own nm bytes maxL ret n0 P h cells slots pc Ls st := by
  subst hn
  exact k.step fun p e s m args below meth c T locs hx hZ hby hown X eT t q => XS.bipush X.here hx rfl (hb hby hd) (hv ▸ q)
theorem W.sipush {i : Int} (n : Nat) (hd : decode bytes pc = .ok (.sipush i, 3)) (hn : pc + 3 = n) (v : Int32) (hv : (Int16.ofInt i).toInt32 = v) (k : WG FE l R Z own nm bytes maxL ret n0 P h cells slots n Ls (.int v :: st)) : WG FE l R Z own nm bytes maxL ret n0 P h cells slots pc Ls st := by
  subst hn
  exact k.step fun p e s m args below meth c T locs hx hZ hby hown X eT t q => XS.sipush X.here hx rfl (hb hby hd) (hv ▸ q)
theorem W.lconst {i : F2} (n : Nat) (hd : decode bytes pc = .ok (.lconst i, 1)) (hn : pc + 1 = n) (v : Int64) (hv : Int64.ofNat i = v) (k : WG FE l R Z own nm bytes maxL ret n0 P h cells slots n Ls (.long v :: st)) : WG FE l R Z own nm bytes maxL ret n0 P h cells slots pc Ls st := by
  subst hn
  exact k.step fun p e s m args below meth c T locs hx hZ hby hown X eT t q => XS.lconst X.here hx rfl (hb hby hd) (hv ▸ q)
theorem W.aconst_null (n : Nat) (hd : decode bytes pc = .ok (.aconst_null, 1)) (hn : pc + 1 = n) (k : WG FE l R Z own nm bytes maxL ret n0 P h cells slots n Ls (.null :: st)) : WG FE l R Z own nm bytes maxL ret n0 P h cells slots pc Ls st := by
  subst hn
  exact k.step fun p e s m args below meth c T locs hx hZ hby hown X eT t q => XS.aconstNull X.here hx rfl (hb hby hd) q
theorem W.ldc2J {i : Nat} {v : Int64} (n : Nat) (hd : decode bytes pc = .ok (.ldc2_w i, 3)) (hn : pc + 3 = n) (w : (Jvm.Cond.constantLong own i v).before a0 Z = true) (k : WG FE l R Z own nm bytes maxL ret n0 P h cells slots n Ls (.long v :: st)) : WG FE l R Z own nm bytes maxL ret n0 P h cells slots pc Ls st := by
  subst hn
  exact k.step fun p e s m args below meth c T locs hx hZ hby hown X eT t q => X.ldc2J hx hown (mvT hZ w) rfl (hb hby hd) q
theorem W.iload {i : Nat} {v : Int32} (n : Nat) (hd : decode bytes pc = .ok (.iload i, 2)) (hn : pc + 2 = n) (hl : Ls[i]? = some (.val (.int v))) (k : WG FE l R Z own nm bytes maxL ret n0 P h cells slots n Ls (.int v :: st)) : WG FE l R Z own nm bytes maxL ret n0 P h cells slots pc Ls st := by
  subst hn
  exact k.step fun p e s m args below meth c T locs hx hZ hby hown X eT t q => XS.iload X.here hx rfl (hb hby hd) hl q
theorem W.iloadN {i : F4} {v : Int32} (n : Nat) (hd : decode bytes pc = .ok (.iload_n i, 1)) (hn : pc + 1 = n) (hl : Ls[i.val]? = some (.val (.int v))) (k : WG FE l R Z own nm bytes maxL ret n0 P h cells slots n Ls (.int v :: st)) : WG FE l R Z own nm bytes maxL ret n0 P h cells slots pc Ls st := by
  subst hn
  exact k.step fun p e s m args below meth c T locs hx hZ hby hown X eT t q => XS.iloadN X.here hx rfl (hb hby hd) hl q
theorem W.lload {i : Nat} {v : Int64} (n : Nat) (hd : decode bytes pc = .ok (.lload i, 2)) (hn : pc + 2 = n) (hl : Ls[i]? = some (.val (.long v))) (k : WG FE l R Z own nm bytes maxL ret n0 P h cells slots n Ls (.long v :: st)) : WG FE l R Z own nm bytes maxL ret n0 P h cells slots pc Ls st := by
  subst hn
  exact k.step fun p e s m args below meth c T locs hx hZ hby hown X eT t q => XS.lload X.here hx rfl (hb hby hd) hl q
theorem W.lloadN {i : F4} {v : Int64} (n : Nat) (hd : decode bytes pc = .ok (.lload_n i, 1)) (hn : pc + 1 = n) (hl : Ls[i.val]? = some (.val (.long v))) (k : WG FE l R Z own nm bytes maxL ret n0 P h cells slots n Ls (.long v :: st)) : WG FE l R Z own nm bytes maxL ret n0 P h cells slots pc Ls st := by
  subst hn
  exact k.step fun p e s m args below meth c T locs hx hZ hby hown X eT t q => XS.lloadN X.here hx rfl (hb hby hd) hl q
theorem W.aload {i : Nat} {v : Value} (n : Nat) (hd : decode bytes pc = .ok (.aload i, 2)) (hn : pc + 2 = n) (hl : Ls[i]? = some (.val v)) (hv : v.isRef = true) (k : WG FE l R Z own nm bytes maxL ret n0 P h cells slots n Ls (v :: st)) : WG FE l R Z own nm bytes maxL ret n0 P h cells slots pc Ls st := by
  subst hn
  exact k.step fun p e s m args below meth c T locs hx hZ hby hown X eT t q => XS.aload X.here hx rfl (hb hby hd) hl hv q
theorem W.aloadN {i : F4} {v : Value} (n : Nat) (hd : decode bytes pc = .ok (.aload_n i, 1)) (hn : pc + 1 = n) (hl : Ls[i.val]? = some (.val v)) (hv : v.isRef = true) (k : WG FE l R Z own nm bytes maxL ret n0 P h cells slots n Ls (v :: st)) : WG FE l R Z own nm bytes maxL ret n0 P h cells slots pc Ls st := by
  subst hn
  exact k.step fun p e s m args below meth c T locs hx hZ hby hown X eT t q => XS.aloadN X.here hx rfl (hb hby hd) hl hv q
theorem W.istore {i : Nat} {v : Int32} (n : Nat) (hd : decode bytes pc = .ok (.istore i, 2)) (hn : pc + 2 = n) (Ls' : Array Slot) (hl : storeLocals Ls i (.int v) = some Ls') (k : WG FE l R Z own nm bytes maxL ret n0 P h cells slots n Ls' st) : WG FE l R Z own nm bytes maxL ret n0 P h cells slots pc Ls (.int v :: st) := by
  subst hn
  exact k.step fun p e s m args below meth c T locs hx hZ hby hown X eT t q => XS.istore X.here hx rfl (hb hby hd) rfl hl q
theorem W.istoreN {i : F4} {v : Int32} (n : Nat) (hd : decode bytes pc = .ok (.istore_n i, 1)) (hn : pc + 1 = n) (Ls' : Array Slot) (hl : storeLocals Ls i.val (.int v) = some Ls') (k : WG FE l R Z own nm bytes maxL ret n0 P h cells slots n Ls' st) : WG FE l R Z own nm bytes maxL ret n0 P h cells slots pc Ls (.int v :: st) := by
  subst hn
  exact k.step fun p e s m args below meth c T locs hx hZ hby hown X eT t q => XS.istoreN X.here hx rfl (hb hby hd) rfl hl q
theorem W.astore {i : Nat} {v : Value} (n : Nat) (hd : decode bytes pc = .ok (.astore i, 2)) (hn : pc + 2 = n) (hv : v.isRef = true) (Ls' : Array Slot) (hl : storeLocals Ls i v = some Ls') (k : WG FE l R Z own nm bytes maxL ret n0 P h cells slots n Ls' st) : WG FE l R Z own nm bytes maxL ret n0 P h cells slots pc Ls (v :: st) := by
  subst hn
  exact k.step fun p e s m args below meth c T locs hx hZ hby hown X eT t q => XS.astore X.here hx rfl (hb hby hd) rfl hv hl q
theorem W.astoreN {i : F4} {v : Value} (n : Nat) (hd : decode bytes pc = .ok (.astore_n i, 1)) (hn : pc + 1 = n) (hv : v.isRef = true) (Ls' : Array Slot) (hl : storeLocals Ls i.val v = some Ls') (k : WG FE l R Z own nm bytes maxL ret n0 P h cells slots n Ls' st) : WG FE l R Z own nm bytes maxL ret n0 P h cells slots pc Ls (v :: st) := by
  subst hn
  exact k.step fun p e s m args below meth c T locs hx hZ hby hown X eT t q => XS.astoreN X.here hx rfl (hb hby hd) rfl hv hl q
theorem W.iinc {i : Nat} {cst : Int} {x : Int32} (n : Nat) (hd : decode bytes pc = .ok (.iinc i cst, 3)) (hn : pc + 3 = n) (hx0 : Ls[i]? = some (.val (.int x))) (v : Int32) (hv : x + Int32.ofInt cst = v) (Ls' : Array Slot) (hl : storeLocals Ls i (.int v) = some Ls') (k : WG FE l R Z own nm bytes maxL ret n0 P h cells slots n Ls' st) : WG FE l R Z own nm bytes maxL ret n0 P h cells slots pc Ls st := by
  subst hn
  exact k.step fun p e s m args below meth c T locs hx hZ hby hown X eT t q => XS.iinc X.here hx rfl (hb hby hd) hx0 (hv ▸ hl) q
theorem W.dup {v : Value} (n : Nat) (hd : decode bytes pc = .ok (.dup, 1)) (hn : pc + 1 = n) (hc : v.category = 1) (k : WG FE l R Z own nm bytes maxL ret n0 P h cells slots n Ls (v :: v :: st)) : WG FE l R Z own nm bytes maxL ret n0 P h cells slots pc Ls (v :: st) := by
  subst hn
  exact k.step fun p e s m args below meth c T locs hx hZ hby hown X eT t q => XS.dup X.here hx rfl (hb hby hd) rfl hc q
theorem W.pop1 {v : Value} (n : Nat) (hd : decode bytes pc = .ok (.pop, 1)) (hn : pc + 1 = n) (hc : v.category = 1) (k : WG FE l R Z own nm bytes maxL ret n0 P h cells slots n Ls st) : WG FE l R Z own nm bytes maxL ret n0 P h cells slots pc Ls (v :: st) := by
  subst hn
  exact k.step fun p e s m args below meth c T locs hx hZ hby hown X eT t q => XS.pop X.here hx rfl (hb hby hd) rfl hc q
theorem W.goto {o : Int} (n : Nat) (hd : decode bytes pc = .ok (.goto o, 3)) (hn : (pc : Int) + o = (n : Int)) (k : WG FE l R Z own nm bytes maxL ret n0 P h cells slots n Ls st) : WG FE l R Z own nm bytes maxL ret n0 P h cells slots pc Ls st :=
  k.step fun p e s m args below meth c T locs hx hZ hby hown X eT t q => XS.goto X.here hx rfl (pc0 := pc) (pc' := n) rfl (hb hby hd) (by omega) (by omega) q
theorem W.icmp_lt {x y : Int32} {o : Int} (n n' : Nat) (hd : decode bytes pc = .ok (.if_icmp .lt o, 3)) (hn : (pc : Int) + o = (n : Int)) (hn' : pc + 3 = n') (k : x < y → WG FE l R Z own nm bytes maxL ret n0 P h cells slots n Ls st) (k' : ¬ x < y → WG FE l R Z own nm bytes maxL ret n0 P h cells slots n' Ls st) : WG FE l R Z own nm bytes maxL ret n0 P h cells slots pc Ls (.int y :: .int x :: st) := by
  subst hn'
  by_cases hc : x < y
  · exact (k hc).step fun p e s m args below meth c T locs hx hZ hby hown X eT t q => XS.icmpYes X.here hx rfl (pc0 := pc) (pc' := n) rfl (hb hby hd) rfl (tlt hc).1 (by omega) (by omega) q
  · exact (k' hc).step fun p e s m args below meth c T locs hx hZ hby hown X eT t q => XS.icmpNo X.here hx rfl (hb hby hd) rfl (flt hc).1 q
theorem W.if_lt {x : Int32} {o : Int} (n n' : Nat) (hd : decode bytes pc = .ok (.ifCond .lt o, 3)) (hn : (pc : Int) + o = (n : Int)) (hn' : pc + 3 = n') (k : x < (0 : Int32) → WG FE l R Z own nm bytes maxL ret n0 P h cells slots n Ls st) (k' : ¬ x < (0 : Int32) → WG FE l R Z own nm bytes maxL ret n0 P h cells slots n' Ls st) : WG FE l R Z own nm bytes maxL ret n0 P h cells slots pc Ls (.int x :: st) := by
  subst hn'
  by_cases hc : x < (0 : Int32)
  · exact (k hc).step fun p e s m args below meth c T locs hx hZ hby hown X eT t q => XS.ifYes X.here hx rfl (pc0 := pc) (pc' := n) rfl (hb hby hd) rfl ((if0 _ _).trans (tlt hc).1) (by omega) (by omega) q
  · exact (k' hc).step fun p e s m args below meth c T locs hx hZ hby hown X eT t q => XS.ifNo X.here hx rfl (hb hby hd) rfl ((if0 _ _).trans (flt hc).1) q
theorem W.icmp_ge {x y : Int32} {o : Int} (n n' : Nat) (hd : decode bytes pc = .ok (.if_icmp .ge o, 3)) (hn : (pc : Int) + o = (n : Int)) (hn' : pc + 3 = n') (k : ¬ x < y → WG FE l R Z own nm bytes maxL ret n0 P h cells slots n Ls st) (k' : x < y → WG FE l R Z own nm bytes maxL ret n0 P h cells slots n' Ls st) : WG FE l R Z own nm bytes maxL ret n0 P h cells slots pc Ls (.int y :: .int x :: st) := by
  subst hn'
  by_cases hc : x < y
  · exact (k' hc).step fun p e s m args below meth c T locs hx hZ hby hown X eT t q => XS.icmpNo X.here hx rfl (hb hby hd) rfl (tlt hc).2.1 q
  · exact (k hc).step fun p e s m args below meth c T locs hx hZ hby hown X eT t q => XS.icmpYes X.here hx rfl (pc0 := pc) (pc' := n) rfl (hb hby hd) rfl (flt hc).2.1 (by omega) (by omega) q
theorem W.icmp_gt {x y : Int32} {o : Int} (n n' : Nat) (hd : decode bytes pc = .ok (.if_icmp .gt o, 3)) (hn : (pc : Int) + o = (n : Int)) (hn' : pc + 3 = n') (k : y < x → WG FE l R Z own nm bytes maxL ret n0 P h cells slots n Ls st) (k' : ¬ y < x → WG FE l R Z own nm bytes maxL ret n0 P h cells slots n' Ls st) : WG FE l R Z own nm bytes maxL ret n0 P h cells slots pc Ls (.int y :: .int x :: st) := by
  subst hn'
  by_cases hc : y < x
  · exact (k hc).step fun p e s m args below meth c T locs hx hZ hby hown X eT t q => XS.icmpYes X.here hx rfl (pc0 := pc) (pc' := n) rfl (hb hby hd) rfl (tlt hc).2.2.1 (by omega) (by omega) q
  · exact (k' hc).step fun p e s m args below meth c T locs hx hZ hby hown X eT t q => XS.icmpNo X.here hx rfl (hb hby hd) rfl (flt hc).2.2.1 q
theorem W.icmp_le {x y : Int32} {o : Int} (n n' : Nat) (hd : decode bytes pc = .ok (.if_icmp .le o, 3)) (hn : (pc : Int) + o = (n : Int)) (hn' : pc + 3 = n') (k : ¬ y < x → WG FE l R Z own nm bytes maxL ret n0 P h cells slots n Ls st) (k' : y < x → WG FE l R Z own nm bytes maxL ret n0 P h cells slots n' Ls st) : WG FE l R Z own nm bytes maxL ret n0 P h cells slots pc Ls (.int y :: .int x :: st) := by
  subst hn'
  by_cases hc : y < x
  · exact (k' hc).step fun p e s m args below meth c T locs hx hZ hby hown X eT t q => XS.icmpNo X.here hx rfl (hb hby hd) rfl (tlt hc).2.2.2 q
  · exact (k hc).step fun p e s m args below meth c T locs hx hZ hby hown X eT t q => XS.icmpYes X.here hx rfl (pc0 := pc) (pc' := n) rfl (hb hby hd) rfl (flt hc).2.2.2 (by omega) (by omega) q
theorem W.if_le {x : Int32} {o : Int} (n n' : Nat) (hd : decode bytes pc = .ok (.ifCond .le o, 3)) (hn : (pc : Int) + o = (n : Int)) (hn' : pc + 3 = n') (k : ¬ (0 : Int32) < x → WG FE l R Z own nm bytes maxL ret n0 P h cells slots n Ls st) (k' : (0 : Int32) < x → WG FE l R Z own nm bytes maxL ret n0 P h cells slots n' Ls st) : WG FE l R Z own nm bytes maxL ret n0 P h cells slots pc Ls (.int x :: st) := by
  subst hn'
  by_cases hc : (0 : Int32) < x
  · exact (k' hc).step fun p e s m args below meth c T locs hx hZ hby hown X eT t q => XS.ifNo X.here hx rfl (hb hby hd) rfl ((if0 _ _).trans (tlt hc).2.2.2) q
  · exact (k hc).step fun p e s m args below meth c T locs hx hZ hby hown X eT t q => XS.ifYes X.here hx rfl (pc0 := pc) (pc' := n) rfl (hb hby hd) rfl ((if0 _ _).trans (flt hc).2.2.2) (by omega) (by omega) q
theorem W.icmp_eq {x y : Int32} {o : Int} (n n' : Nat) (hd : decode bytes pc = .ok (.if_icmp .eq o, 3)) (hn : (pc : Int) + o = (n : Int)) (hn' : pc + 3 = n') (k : x = y → WG FE l R Z own nm bytes maxL ret n0 P h cells slots n Ls st) (k' : ¬ x = y → WG FE l R Z own nm bytes maxL ret n0 P h cells slots n' Ls st) : WG FE l R Z own nm bytes maxL ret n0 P h cells slots pc Ls (.int y :: .int x :: st) := by
  subst hn'
  by_cases hc : x = y
  · exact (k hc).step fun p e s m args below meth c T locs hx hZ hby hown X eT t q => XS.icmpYes X.here hx rfl (pc0 := pc) (pc' := n) rfl (hb hby hd) rfl (teq hc).1 (by omega) (by omega) q
  · exact (k' hc).step fun p e s m args below meth c T locs hx hZ hby hown X eT t q => XS.icmpNo X.here hx rfl (hb hby hd) rfl (feq hc).1 q
theorem W.if_eq {x : Int32} {o : Int} (n n' : Nat) (hd : decode bytes pc = .ok (.ifCond .eq o, 3)) (hn : (pc : Int) + o = (n : Int)) (hn' : pc + 3 = n') (k : x = (0 : Int32) → WG FE l R Z own nm bytes maxL ret n0 P h cells slots n Ls st) (k' : ¬ x = (0 : Int32) → WG FE l R Z own nm bytes maxL ret n0 P h cells slots n' Ls st) : WG FE l R Z own nm bytes maxL ret n0 P h cells slots pc Ls (.int x :: st) := by
  subst hn'
  by_cases hc : x = (0 : Int32)
  · exact (k hc).step fun p e s m args below meth c T locs hx hZ hby hown X eT t q => XS.ifYes X.here hx rfl (pc0 := pc) (pc' := n) rfl (hb hby hd) rfl ((if0 _ _).trans (teq hc).1) (by omega) (by omega) q
  · exact (k' hc).step fun p e s m args below meth c T locs hx hZ hby hown X eT t q => XS.ifNo X.here hx rfl (hb hby hd) rfl ((if0 _ _).trans (feq hc).1) q
theorem W.icmp_ne {x y : Int32} {o : Int} (n n' : Nat) (hd : decode bytes pc = .ok (.if_icmp .ne o, 3)) (hn : (pc : Int) + o = (n : Int)) (hn' : pc + 3 = n') (k : ¬ x = y → WG FE l R Z own nm bytes maxL ret n0 P h cells slots n Ls st) (k' : x = y → WG FE l R Z own nm bytes maxL ret n0 P h cells slots n' Ls st) : WG FE l R Z own nm bytes maxL ret n0 P h cells slots pc Ls (.int y :: .int x :: st) := by
  subst hn'
  by_cases hc : x = y
  · exact (k' hc).step fun p e s m args below meth c T locs hx hZ hby hown X eT t q => XS.icmpNo X.here hx rfl (hb hby hd) rfl (teq hc).2 q
  · exact (k hc).step fun p e s m args below meth c T locs hx hZ hby hown X eT t q => XS.icmpYes X.here hx rfl (pc0 := pc) (pc' := n) rfl (hb hby hd) rfl (feq hc).2 (by omega) (by omega) q
theorem W.if_ne {x : Int32} {o : Int} (n n' : Nat) (hd : decode bytes pc = .ok (.ifCond .ne o, 3)) (hn : (pc : Int) + o = (n : Int)) (hn' : pc + 3 = n') (k : ¬ x = (0 : Int32) → WG FE l R Z own nm bytes maxL ret n0 P h cells slots n Ls st) (k' : x = (0 : Int32) → WG FE l R Z own nm bytes maxL ret n0 P h cells slots n' Ls st) : WG FE l R Z own nm bytes maxL ret n0 P h cells slots pc Ls (.int x :: st) := by
  subst hn'
  by_cases hc : x = (0 : Int32)
  · exact (k' hc).step fun p e s m args below meth c T locs hx hZ hby hown X eT t q => XS.ifNo X.here hx rfl (hb hby hd) rfl ((if0 _ _).trans (teq hc).2) q
  · exact (k hc).step fun p e s m args below meth c T locs hx hZ hby hown X eT t q => XS.ifYes X.here hx rfl (pc0 := pc) (pc' := n) rfl (hb hby hd) rfl ((if0 _ _).trans (feq hc).2) (by omega) (by omega) q
theorem W.ifnull_ref {o : Int} {a : Addr} (n : Nat) (hd : decode bytes pc = .ok (.ifnull o, 3)) (hn : pc + 3 = n) (k : WG FE l R Z own nm bytes maxL ret n0 P h cells slots n Ls st) : WG FE l R Z own nm bytes maxL ret n0 P h cells slots pc Ls (.ref a :: st) := by
  subst hn
  exact k.step fun p e s m args below meth c T locs hx hZ hby hown X eT t q => XS.ifnullNo X.here hx rfl (hb hby hd) rfl q
theorem W.acmp_ne {x y : Value} {o : Int} (n n' : Nat) (hd : decode bytes pc = .ok (.if_acmp .ne o, 3)) (hn : (pc : Int) + o = (n : Int)) (hn' : pc + 3 = n') (h1 : x.isRef = true) (h2 : y.isRef = true) (k : ¬ x = y → WG FE l R Z own nm bytes maxL ret n0 P h cells slots n Ls st) (k' : x = y → WG FE l R Z own nm bytes maxL ret n0 P h cells slots n' Ls st) : WG FE l R Z own nm bytes maxL ret n0 P h cells slots pc Ls (y :: x :: st) := by
  subst hn'
  by_cases hc : x = y
  · exact (k' hc).step fun p e s m args below meth c T locs hx hZ hby hown X eT t q => RoadKit.acmp X hx rfl h1 h2 (pc0 := pc) (pc' := pc + 3) (same := true) rfl (hb hby hd) rfl (decide_eq_true hc) (by omega) (by simp [acV]; try omega) q
  · exact (k hc).step fun p e s m args below meth c T locs hx hZ hby hown X eT t q => RoadKit.acmp X hx rfl h1 h2 (pc0 := pc) (pc' := n) (same := false) rfl (hb hby hd) rfl (decide_eq_false hc) (by omega) (by simp [acV]; try omega) q
/-! the heap -/
theorem Fr.one {k : Nat} {L : List Loc} {a : Addr} {sl : Nat} (N : Fr k L) (q : k ≤ a) : Fr k (L ++ [⟨a, sl⟩]) := N.app fun y hy => by cases List.mem_singleton.mp hy; exact q
theorem Keep.of_ext {h h' : Heap} (E : Ext h h') : Keep h h' [] := (Keep.refl h []).ext E
theorem size_le {p : Program} {e : Env} {s : State} {m : MethodId} {args : Array Value} {below : List Frame} {meth : Method} {c : Code} {T : State} {locs : List Loc} (X : Stand p l e R s m args below meth c T locs cells slots) : s.heap.size ≤ T.heap.size := X.same.2.1
theorem W.getfield {i : Nat} {R0 O f d host : String} {a : Addr} {v : Value} (n : Nat) (hd : decode bytes pc = .ok (.getfield i, 3)) (hn : pc + 3 = n) (w : (Jvm.Cond.fieldLink own i R0 f d).before a0 Z = true ∨ (Jvm.Cond.fieldLinkNest own i R0 f d host).before a0 Z = true) (via : Via Z R0 O f d) (F : Fld Z h a O f d v) (k : WG FE l R Z own nm bytes maxL ret n0 P h cells slots n Ls (v :: st)) : WG FE l R Z own nm bytes maxL ret n0 P h cells slots pc Ls (.ref a :: st) := by
  subst hn
  intro p e s m args below meth c T locs hx hZ hby hml hown hret hlk hnm hn0 X eT N
  obtain ⟨T', X', e', st'⟩ := getF X hx hZ hown w via eT F (g := mkF m pc Ls (.ref a :: st)) rfl rfl (hb hby hd)
  exact (k p e s m args below meth c T' locs hx hZ hby hml hown hret hlk hnm hn0 X' e' N).step st'
theorem W.getstatic {i : Nat} {R0 O f d host : String} {v : Value} (n : Nat) (hd : decode bytes pc = .ok (.getstatic i, 3)) (hn : pc + 3 = n) (w : (Jvm.Cond.fieldLink own i R0 f d).before a0 Z = true ∨ (Jvm.Cond.fieldLinkNest own i R0 f d host).before a0 Z = true) (via : Via Z R0 O f d) (F : Sta Z h O f d v) (k : WG FE l R Z own nm bytes maxL ret n0 P h cells slots n Ls (v :: st)) : WG FE l R Z own nm bytes maxL ret n0 P h cells slots pc Ls st := by
  subst hn
  intro p e s m args below meth c T locs hx hZ hby hml hown hret hlk hnm hn0 X eT N
  obtain ⟨T', X', e', st'⟩ := getS2 X hx hZ hown w via eT F (g := mkF m pc Ls st) rfl (hb hby hd)
  exact (k p e s m args below meth c T' locs hx hZ hby hml hown hret hlk hnm hn0 X' e' N).step st'
theorem W.putfield {i kk : Nat} {R0 O f d host C : String} {ty : FieldType} {a : Addr} {v old : Value} (n : Nat) (hd : decode bytes pc = .ok (.putfield i, 3)) (hn : pc + 3 = n) (w : (Jvm.Cond.fieldLink own i R0 f d).before a0 Z = true ∨ (Jvm.Cond.fieldLinkNest own i R0 f d host).before a0 Z = true) (via : Via Z R0 O f d) (F : Fld Z h a O f d old) (E : Exa Z h a C)
    (L : (Jvm.Cond.lays C O f d).before a0 Z = true ∨ ((Jvm.Cond.laysFinal C O f d).before a0 Z = true ∧ own = O ∧ nm = "<init>")) (wi : (Jvm.Cond.instantiable C kk).before a0 Z = true) (hty : parseFieldDescriptor d = some ty) (hv : narrow ty v = v) (hf : fits ty v = true) (ge : n0 ≤ a)
    (k : ∀ h', Wr h h' a (RoadKit.slotOf Z O f d) v → Fld Z h' a O f d v → Exa Z h' a C → Keep h h' [a] → WG FE l R Z own nm bytes maxL ret n0 P h' cells slots n Ls st) : WG FE l R Z own nm bytes maxL ret n0 P h cells slots pc Ls (v :: .ref a :: st) := by
  subst hn
  intro p e s m args below meth c T locs hx hZ hby hml hown hret hlk hnm hn0 X eT N
  obtain ⟨T', h', X', e', W', st'⟩ := putF X hx hZ hown w via eT F E (L.imp id fun q => ⟨q.1, q.2.1, hnm.trans q.2.2⟩) wi hty hv hf (g := mkF m pc Ls (v :: .ref a :: st)) rfl rfl (hb hby hd)
  exact (k h' W' (F.same W') (E.wr W') (Keep.of_wr W') p e s m args below meth c T' _ hx hZ hby hml hown hret hlk hnm hn0 X' e' (Fr.one N ge)).step st'
theorem W.putfieldN {i kk : Nat} {R0 O f d C : String} {ty : FieldType} {a : Addr} {v old : Value} (n : Nat) (hd : decode bytes pc = .ok (.putfield i, 3)) (hn : pc + 3 = n) (w : (Jvm.Cond.fieldLink own i R0 f d).before a0 Z = true) (via : Via Z R0 O f d) (F : Fld Z h a O f d old) (E : Exa Z h a C)
    (L : (Jvm.Cond.lays C O f d).before a0 Z = true ∨ ((Jvm.Cond.laysFinal C O f d).before a0 Z = true ∧ own = O ∧ nm = "<init>")) (wi : (Jvm.Cond.instantiable C kk).before a0 Z = true) (hty : parseFieldDescriptor d = some ty) (v' : Value) (hv : narrow ty v = v') (hf : fits ty v' = true) (ge : n0 ≤ a)
    (k : ∀ h', Wr h h' a (RoadKit.slotOf Z O f d) v' → Fld Z h' a O f d v' → Exa Z h' a C → Keep h h' [a] → WG FE l R Z own nm bytes maxL ret n0 P h' cells slots n Ls st) : WG FE l R Z own nm bytes maxL ret n0 P h cells slots pc Ls (v :: .ref a :: st) := by
  subst hn
  intro p e s m args below meth c T locs hx hZ hby hml hown hret hlk hnm hn0 X eT N
  obtain ⟨T', h', X', e', W', st'⟩ := putFN X hx hZ hown w via eT F E (L.imp id fun q => ⟨q.1, q.2.1, hnm.trans q.2.2⟩) wi hty hv hf (g := mkF m pc Ls (v :: .ref a :: st)) rfl rfl (hb hby hd)
  exact (k h' W' (F.same W') (E.wr W') (Keep.of_wr W') p e s m args below meth c T' _ hx hZ hby hml hown hret hlk hnm hn0 X' e' (Fr.one N ge)).step st'
theorem W.new {i ns : Nat} {C : String} (n : Nat) (hd : decode bytes pc = .ok (.new i, 3)) (hn : pc + 3 = n) (w : (Jvm.Cond.classLink own i C).before a0 Z = true) (wi : (Jvm.Cond.instantiable C ns).before a0 Z = true) (wz : (Jvm.Cond.initialized C).before a0 Z = true) (hc : cells + 1 ≤ R.cells) (hs : slots + ns ≤ R.slots)
    (k : ∀ h' b, b = h.size → n0 ≤ b → Ext h h' → Keep h h' [] → Exa Z h' b C → (∀ {O f d : String} {ty : FieldType}, Laid Z a0 C O f d → parseFieldDescriptor d = some ty → Fld Z h' b O f d (defaultValue ty)) → WG FE l R Z own nm bytes maxL ret n0 P h' (cells + 1) (slots + ns) n Ls (.ref b :: st)) : WG FE l R Z own nm bytes maxL ret n0 P h cells slots pc Ls st := by
  subst hn
  intro p e s m args below meth c T locs hx hZ hby hml hown hret hlk hnm hn0 X eT N
  obtain ⟨T', h', X', e', E', A', D', -, st'⟩ := newO X hx hZ hown w wi wz eT (g := mkF m pc Ls st) rfl (hb hby hd) hc hs
  have hb0 : n0 ≤ h.size := Nat.le_trans hn0.1 (eT ▸ size_le X)
  exact (k h' h.size rfl hb0 E' (Keep.of_ext E') A' D' p e s m args below meth c T' _ hx hZ hby hml hown hret hlk hnm hn0 X' e' N).step st'
theorem Ary.lt {a : Addr} {ty : FieldType} {vs : List Value} (A : Ary Z h a ty vs) : a < h.size := by obtain ⟨c, A, -⟩ := A; exact A.lt
theorem Ary.keep {h' : Heap} {ws : List Addr} {a : Addr} {ty : FieldType} {vs : List Value} (A : Ary Z h a ty vs) (K : Keep h h' ws) (q : a ∉ ws) : Ary Z h' a ty vs := by obtain ⟨c, A, r⟩ := A; exact ⟨c, ⟨K.2.1 a c A.1 q, A.2⟩, r⟩
theorem Ary.new {k : ClassId} {a : Addr} {ty : FieldType} {z : Int32} (A : Arr Z h a (newA k ty z) ty) (hf : fits ty (defaultValue ty) = true) : Ary Z h a ty (List.replicate z.toNatClampNeg (defaultValue ty)) :=
  ⟨_, A, by simp [newA], fun v hv => by rw [(List.mem_replicate.mp hv).2]; exact hf, by rw [List.length_replicate]; have := Int32.toInt_lt z; simp only [Int32.toNatClampNeg]; omega⟩
theorem Ary.set {h' : Heap} {a : Addr} {ty : FieldType} {vs : List Value} {i : Nat} {v : Value} (A : Ary Z h a ty vs) (W' : Wr h h' a i v) (hf : fits ty v = true) : Ary Z h' a ty (vs.set i v) := by
  obtain ⟨c, A, rfl, F, S⟩ := A
  exact ⟨_, A.same W', by simp [Cell.setSlot], fun w hw => (List.mem_or_eq_of_mem_set hw).elim (fun q => F w q) (fun q => q ▸ hf), by simpa using S⟩
theorem Ary.arv {a : Addr} {ty : FieldType} {vs : List Value} (A : Ary Z h a ty vs) (d : Value) : ∃ k, Arv Z h a k ty vs.length.toInt32 vs d := by
  obtain ⟨c, A, rfl, F, S⟩ := A
  have hz : (c.slots.toList.length.toInt32).toInt = c.slots.toList.length := Int32.toInt_ofNat_small S
  have hn : (c.slots.toList.length.toInt32).toNatClampNeg = c.slots.size := by simp only [Int32.toNatClampNeg]; rw [hz]; simp
  refine ⟨c.cls, c, A, rfl, hn.symm, fun q => ?_, fun i hi => ?_, fun i hi => ?_⟩
  · have := Int32.lt_iff_toInt_lt.mp q; rw [hz] at this; have e0 : (0 : Int32).toInt = 0 := rfl; omega
  · rw [List.getD_eq_getElem?_getD]; simp [hi]
  · rw [List.getD_eq_getElem?_getD]; exact F _ (by simp [hi])
theorem Ary.of_arv {a : Addr} {k : ClassId} {ty : FieldType} {vs : List Value} {z : Int32} {d : Value} (A : Arv Z h a k ty z vs d) (hz : z.toNatClampNeg = vs.length) : Ary Z h a ty vs := by
  obtain ⟨c, A, q1, q2, q3, H, G⟩ := A
  have hl : c.slots.toList = vs := by
    apply List.ext_getElem?
    intro i
    by_cases hi : i < c.slots.size
    · have := H i hi
      rw [List.getD_eq_getElem?_getD, List.getElem?_eq_getElem (by omega)] at this
      rw [List.getElem?_eq_getElem (l := vs) (by omega)]
      simpa using this
    · rw [List.getElem?_eq_none (by simpa using hi), List.getElem?_eq_none (by omega)]
  refine ⟨c, A, hl, fun v hv => ?_, ?_⟩
  · obtain ⟨i, hi, rfl⟩ := List.getElem_of_mem hv
    have := G i (by omega)
    rwa [List.getD_eq_getElem?_getD, List.getElem?_eq_getElem hi] at this
  · have := Int32.toInt_lt z; simp only [Int32.toNatClampNeg] at hz; omega
theorem W.newarray {aty : ArrayType} {ty : FieldType} {x : Int32} (n : Nat) (hd : decode bytes pc = .ok (.newarray aty, 2)) (hn : pc + 2 = n) (w : (Jvm.Cond.arrayClass ty).before a0 Z = true) (hty : newarray.typeOf aty = ty) (hx0 : ¬ x < 0) (len cap : Nat) (hlen : x.toNatClampNeg = len) (hcap : len ≤ cap) (hb8 : cap * 8 ≤ 536870912) (hc : cells + 1 ≤ R.cells) (hs : slots + cap ≤ R.slots) (hfd : fits ty (defaultValue ty) = true)
    (k : ∀ h' b, b = h.size → n0 ≤ b → Ext h h' → Keep h h' [] → Ary Z h' b ty (List.replicate len (defaultValue ty)) → WG FE l R Z own nm bytes maxL ret n0 P h' (cells + 1) (slots + cap) n Ls (.ref b :: st)) : WG FE l R Z own nm bytes maxL ret n0 P h cells slots pc Ls (.int x :: st) := by
  subst hn hty hlen
  intro p e s m args below meth c T locs hx hZ hby hml hown hret hlk hnm hn0 X eT N
  obtain ⟨T', h', cA, X', e', E', A', st'⟩ := newP X hx hZ w eT (g := mkF m pc Ls (.int x :: st)) rfl (hb hby hd) rfl hx0 hcap hb8 hc hs
  have hb0 : n0 ≤ h.size := Nat.le_trans hn0.1 (eT ▸ size_le X)
  exact (k h' h.size rfl hb0 E' (Keep.of_ext E') (Ary.new A' hfd) p e s m args below meth c T' _ hx hZ hby hml hown hret hlk hnm hn0 X' e' N).step st'
theorem ary_in {c : Cell} {vs : List Value} {j : Int32} {i : Nat} (hc : c.slots.toList = vs) (hj : j.toNatClampNeg = i) (h0 : ¬ j < 0) (hi : i < vs.length) : ¬ (j < 0 ∨ c.slots.size ≤ j.toNatClampNeg) := by
  subst hc hj; rintro (q | q)
  · exact h0 q
  · exact absurd hi (by simpa using q)
theorem W.arraylength {a : Addr} {ty : FieldType} {vs : List Value} (n : Nat) (hd : decode bytes pc = .ok (.arraylength, 1)) (hn : pc + 1 = n) (A : Ary Z h a ty vs) (v : Int32) (hv : vs.length.toInt32 = v) (k : WG FE l R Z own nm bytes maxL ret n0 P h cells slots n Ls (.int v :: st)) : WG FE l R Z own nm bytes maxL ret n0 P h cells slots pc Ls (.ref a :: st) := by
  subst hn
  obtain ⟨c, A, rfl, F, S⟩ := A
  have e : c.slots.size.toInt32 = v := by rw [← hv]; simp
  exact k.step fun p e' s m args below meth c' T locs hx hZ hby hown X eT t q => X.arraylength hx (by rw [eT]; exact A.1) (State.isArrayOf_alike hZ.alike A.2.1) (g := mkF m pc Ls (.ref a :: st)) rfl rfl (hb hby hd) t (e ▸ q)

theorem W.caload {a : Addr} {vs : List Value} {j : Int32} (n : Nat) (hd : decode bytes pc = .ok (.caload, 1)) (hn : pc + 1 = n) (A : Ary Z h a .char vs) (i : Nat) (hj : j.toNatClampNeg = i) (h0 : ¬ j < 0) (v : Value) (hv : vs[i]? = some v) (k : WG FE l R Z own nm bytes maxL ret n0 P h cells slots n Ls (v :: st)) : WG FE l R Z own nm bytes maxL ret n0 P h cells slots pc Ls (.int j :: .ref a :: st) := by
  subst hn
  obtain ⟨c, A, hc, F, S⟩ := A
  have hi : i < vs.length := (List.getElem?_eq_some_iff.mp hv).1
  have hin := ary_in hc hj h0 hi
  have hat : c.slots[j.toNatClampNeg]? = some v := by rw [hj, ← hv, ← hc]; simp
  exact k.step fun p e' s m args below meth c' T locs hx hZ hby hown X eT t q => X.caload hx (j := j) (v := v) (by rw [eT]; exact A.1) (State.isArrayOf_alike hZ.alike A.2.1) A.2.2 hin hat (g := mkF m pc Ls (.int j :: .ref a :: st)) rfl rfl (hb hby hd) t q
theorem W.baload {a : Addr} {vs : List Value} {j : Int32} (n : Nat) (hd : decode bytes pc = .ok (.baload, 1)) (hn : pc + 1 = n) (A : Ary Z h a .byte vs) (i : Nat) (hj : j.toNatClampNeg = i) (h0 : ¬ j < 0) (v : Value) (hv : vs[i]? = some v) (k : WG FE l R Z own nm bytes maxL ret n0 P h cells slots n Ls (v :: st)) : WG FE l R Z own nm bytes maxL ret n0 P h cells slots pc Ls (.int j :: .ref a :: st) := by
  subst hn
  obtain ⟨c, A, hc, F, S⟩ := A
  have hi : i < vs.length := (List.getElem?_eq_some_iff.mp hv).1
  have hin := ary_in hc hj h0 hi
  have hat : c.slots[j.toNatClampNeg]? = some v := by rw [hj, ← hv, ← hc]; simp
  exact k.step fun p e' s m args below meth c' T locs hx hZ hby hown X eT t q => X.baloadBytes hx (j := j) (v := v) (by rw [eT]; exact A.1) (State.isArrayOf_alike hZ.alike A.2.1) A.2.2 hin hat (g := mkF m pc Ls (.int j :: .ref a :: st)) rfl rfl (hb hby hd) t q
theorem W.castore {a : Addr} {vs : List Value} {j : Int32} {x : Int32} (n : Nat) (hd : decode bytes pc = .ok (.castore, 1)) (hn : pc + 1 = n) (A : Ary Z h a .char vs) (i : Nat) (hj : j.toNatClampNeg = i) (h0 : ¬ j < 0) (hi : i < vs.length) (x' : Int32) (hx' : nar .char x = x') (ge : n0 ≤ a)
    (k : ∀ h', Wr h h' a i (.int x') → Keep h h' [a] → Ary Z h' a .char (vs.set i (.int x')) → WG FE l R Z own nm bytes maxL ret n0 P h' cells slots n Ls st) : WG FE l R Z own nm bytes maxL ret n0 P h cells slots pc Ls (.int x :: .int j :: .ref a :: st) := by
  subst hn hx'
  intro p e s m args below meth c T locs hx hZ hby hml hown hret hlk hnm hn0 X eT N
  have A0 := A
  obtain ⟨cl, A, hc, F, S⟩ := A
  obtain ⟨T', h', X', e', W', st'⟩ := stC X hx hZ eT A (ary_in hc hj h0 hi) (g := mkF m pc Ls (.int x :: .int j :: .ref a :: st)) rfl rfl (hb hby hd)
  subst hj
  exact (k h' W' (Keep.of_wr W') (A0.set W' (fits_nar_char _)) p e s m args below meth c T' _ hx hZ hby hml hown hret hlk hnm hn0 X' e' (Fr.one N ge)).step st'

theorem W.bastore {a : Addr} {vs : List Value} {j : Int32} {x : Int32} (n : Nat) (hd : decode bytes pc = .ok (.bastore, 1)) (hn : pc + 1 = n) (A : Ary Z h a .byte vs) (i : Nat) (hj : j.toNatClampNeg = i) (h0 : ¬ j < 0) (hi : i < vs.length) (x' : Int32) (hx' : nar .byte x = x') (ge : n0 ≤ a)
    (k : ∀ h', Wr h h' a i (.int x') → Keep h h' [a] → Ary Z h' a .byte (vs.set i (.int x')) → WG FE l R Z own nm bytes maxL ret n0 P h' cells slots n Ls st) : WG FE l R Z own nm bytes maxL ret n0 P h cells slots pc Ls (.int x :: .int j :: .ref a :: st) := by
  subst hn hx'
  intro p e s m args below meth c T locs hx hZ hby hml hown hret hlk hnm hn0 X eT N
  have A0 := A
  obtain ⟨cl, A, hc, F, S⟩ := A
  obtain ⟨T', h', X', e', W', st'⟩ := stB X hx hZ eT A (ary_in hc hj h0 hi) (g := mkF m pc Ls (.int x :: .int j :: .ref a :: st)) rfl rfl (hb hby hd)
  subst hj
  exact (k h' W' (Keep.of_wr W') (A0.set W' (fits_nar_byte _)) p e s m args below meth c T' _ hx hZ hby hml hown hret hlk hnm hn0 X' e' (Fr.one N ge)).step st'

theorem Sta.keep0 {h' : Heap} {C f d : String} {v : Value} (K : Keep h h' []) (F : Sta Z h C f d v) : Sta Z h' C f d v := by
  obtain ⟨cf, i, k, fd, st, cell, h1, h2, h3, h4, h5, r⟩ := F; exact ⟨cf, i, k, fd, st, cell, h1, h2, h3, h4, K.2.1 _ _ h5 nin0, r⟩
/-- an array of references, and what may lie in it -/
def AryO (Z : State) (h : Heap) (a : Addr) (C : String) (vs : List Value) : Prop :=
  ∃ c : Cell, Arr Z h a c (.object C) ∧ Ovr Z c.cls C ∧ c.slots.toList = vs ∧ (∀ v ∈ vs, fits (.object C) v = true) ∧ vs.length < 2 ^ 31
theorem AryO.ary {a : Addr} {C : String} {vs : List Value} (A : AryO Z h a C vs) : Ary Z h a (.object C) vs := by obtain ⟨c, A, -, r⟩ := A; exact ⟨c, A, r⟩
theorem AryO.lt {a : Addr} {C : String} {vs : List Value} (A : AryO Z h a C vs) : a < h.size := A.ary.lt
theorem AryO.keep {h' : Heap} {ws : List Addr} {a : Addr} {C : String} {vs : List Value} (A : AryO Z h a C vs) (K : Keep h h' ws) (q : a ∉ ws) : AryO Z h' a C vs := by obtain ⟨c, A, r⟩ := A; exact ⟨c, ⟨K.2.1 a c A.1 q, A.2⟩, r⟩
/-! calls and returns -/
theorem W.initObj {i : Nat} {a : Addr} (n : Nat) (hd : decode bytes pc = .ok (.invokespecial i, 3)) (hn : pc + 3 = n) (w1 : (Jvm.Cond.methodLink own i Lib.objectInit).before a0 Z = true) (w2 : (Jvm.Cond.instanceMethod Lib.objectInit).before a0 Z = true) (w3 : (Jvm.Cond.code Lib.objectInit ⟨#[0xb1]⟩ 1 none).before a0 Z = true) (hsz : Ls.size = maxL) (hf : 1 ≤ R.frames) (W0 : Nat) (hW : (st.map fun v => v.category).sum ≤ W0) (hl : W0 + 12 ≤ R.locals)
    (k : WG FE l R Z own nm bytes maxL ret n0 P h cells slots n Ls st) : WG FE l R Z own nm bytes maxL ret n0 P h cells slots pc Ls (.ref a :: st) := by
  subst hn
  intro p e s m args below meth c T locs hx hZ hby hml hown hret hlk hnm hn0 X eT N
  obtain ⟨T', X', e', st'⟩ := initO X hx hZ hown w1 w2 w3 eT (g := mkF m pc Ls (.ref a :: st)) rfl (by rw [hml]; exact hsz) rfl (hb hby hd) hf (W := W0) (by show 2 * 0 + _ ≤ _; omega) hl
  exact (k p e s m args below meth c T' locs hx hZ hby hml hown hret hlk hnm hn0 X' e' N).step st'
section Calls
variable {y : MethodName} {bytes' : ByteArray} {maxL' : Nat} {ret' : Option FieldType} {rm : Room} {P' : Option Value → Heap → Prop} {rest argsL : List Value} {i : Nat}
theorem W.callS (n : Nat) (hd : decode bytes pc = .ok (.invokestatic i, 3)) (hn : pc + 3 = n) (C : n0 ≤ h.size → Con l Z y bytes' maxL' ret' rm argsL.toArray h n0 P') (w1 : (Jvm.Cond.methodLink own i y).before a0 Z = true) (w2 : (Jvm.Cond.static y).before a0 Z = true) (w3 : (Jvm.Cond.initialized y.cls).before a0 Z = true) (w4 : (Jvm.Cond.code y bytes' maxL' ret').before a0 Z = true)
    (hy : y.cls ≠ "java/lang/invoke/MethodHandle" ∧ y.cls ≠ "java/lang/invoke/VarHandle") {ps : List FieldType} {r : Option FieldType} (hpd : parseMethodDescriptor y.desc = some ⟨ps, r⟩) (hlen : argsL.length = ps.length) (hst : st = argsL.reverse ++ rest) (hsz : Ls.size = maxL) (hf : rm.frames + 1 ≤ R.frames) (W0 : Nat) (hW : (rest.map fun v => v.category).sum ≤ W0) (hl : W0 + (maxL' + 11) + rm.locals ≤ R.locals) (hc : cells + rm.cells ≤ R.cells) (hs : slots + rm.slots ≤ R.slots)
    (k : ∀ v h', P' v h' → WG FE l R Z own nm bytes maxL ret n0 P h' (cells + rm.cells) (slots + rm.slots) n Ls (v.toList ++ rest)) : WG FE l R Z own nm bytes maxL ret n0 P h cells slots pc Ls st := by
  subst hn hst
  intro p e s m args below meth c T locs hx hZ hby hml hown hret hlk hnm hn0 X eT N
  obtain ⟨v, _, ⟨T', L', c', n'⟩, -, X', ⟨Lc, hQ, l', y', z'⟩, st'⟩ := Jvm.LawKit.callS X hx (y := y) hown (mvT hZ w1) (mvT hZ w2) (mvT hZ w3) (mvT hZ w4) hy (backOf (W := W0) (Z := Z) (h := h) (bytes := bytes') (maxL := maxL') (rm := rm) (Q := fun v h' L => P' v h' ∧ Fr n0 L) (C (Nat.le_trans hn0.1 (eT ▸ size_le X))) hZ w4 w3 hf hl) (g := mkF m pc Ls (argsL.reverse ++ rest)) rfl (by rw [hml]; exact hsz) (argsL := argsL) (rest := rest) (lenOf hpd hlen) rfl (by show 2 * 0 + _ ≤ _; omega) (hb hby hd) (fun _ _ => ⟨rfl, eT, hc, hs⟩)
  dsimp only [Pt.U, Pt.locs, Pt.cells, Pt.slots] at X' l' y' z' st' hQ
  subst l' y' z'
  exact (k v T'.heap hQ.1 p e s m args below meth c T' _ hx hZ hby hml hown hret hlk hnm hn0 X' rfl (Fr.app N hQ.2)).step st'
theorem W.callInit {a : Addr} (n : Nat) (hd : decode bytes pc = .ok (.invokespecial i, 3)) (hn : pc + 3 = n) (C : n0 ≤ h.size → Con l Z y bytes' maxL' none rm (.ref a :: argsL).toArray h n0 P') (hi : y.name = "<init>") (w1 : (Jvm.Cond.methodLink own i y).before a0 Z = true) (w2 : (Jvm.Cond.instanceMethod y).before a0 Z = true) (w3 : (Jvm.Cond.initialized y.cls).before a0 Z = true) (w4 : (Jvm.Cond.code y bytes' maxL' none).before a0 Z = true)
    (hy : y.cls ≠ "java/lang/invoke/MethodHandle" ∧ y.cls ≠ "java/lang/invoke/VarHandle") {ps : List FieldType} {r : Option FieldType} (hpd : parseMethodDescriptor y.desc = some ⟨ps, r⟩) (hlen : argsL.length = ps.length) (hst : st = argsL.reverse ++ .ref a :: rest) (hsz : Ls.size = maxL) (hf : rm.frames + 1 ≤ R.frames) (W0 : Nat) (hW : (rest.map fun v => v.category).sum ≤ W0) (hl : W0 + (maxL' + 11) + rm.locals ≤ R.locals) (hc : cells + rm.cells ≤ R.cells) (hs : slots + rm.slots ≤ R.slots)
    (k : ∀ v h', P' v h' → WG FE l R Z own nm bytes maxL ret n0 P h' (cells + rm.cells) (slots + rm.slots) n Ls (v.toList ++ rest)) : WG FE l R Z own nm bytes maxL ret n0 P h cells slots pc Ls st := by
  subst hn hst
  intro p e s m args below meth c T locs hx hZ hby hml hown hret hlk hnm hn0 X eT N
  obtain ⟨v, _, ⟨T', L', c', n'⟩, -, X', ⟨Lc, hQ, l', y', z'⟩, st'⟩ := X.specialBack hx (y := y) hi hown (mvT hZ w1) (mvT hZ w2) (mvT hZ w4) hy (backOf (W := W0) (Z := Z) (h := h) (bytes := bytes') (maxL := maxL') (rm := rm) (Q := fun v h' L => P' v h' ∧ Fr n0 L) (C (Nat.le_trans hn0.1 (eT ▸ size_le X))) hZ w4 w3 hf hl) (g := mkF m pc Ls (argsL.reverse ++ .ref a :: rest)) rfl (by rw [hml]; exact hsz) (Steps.refl _) (a := a) (argsL := argsL) (rest := rest) (lenOf hpd hlen) rfl (by show 2 * 0 + _ ≤ _; omega) (hb hby hd) (fun _ _ => ⟨rfl, eT, hc, hs⟩)
  dsimp only [Pt.U, Pt.locs, Pt.cells, Pt.slots] at X' l' y' z' st' hQ
  subst l' y' z'
  exact (k v T'.heap hQ.1 p e s m args below meth c T' _ hx hZ hby hml hown hret hlk hnm hn0 X' rfl (Fr.app N hQ.2)).step fun t q => st'.trans q
theorem W.callV {C0 : String} {a : Addr} (n : Nat) (hd : decode bytes pc = .ok (.invokevirtual i, 3)) (hn : pc + 3 = n) (C : n0 ≤ h.size → Con l Z y bytes' maxL' ret' rm (.ref a :: argsL).toArray h n0 P') (E : Exa Z h a C0) (w1 : (Jvm.Cond.methodLink own i y).before a0 Z = true) (w2 : (Jvm.Cond.declares y).before a0 Z = true) (w5 : (Jvm.Cond.selects C0 y y).before a0 Z = true) (hcy : C0 = y.cls) (w6 : (Jvm.Cond.instanceMethod y).before a0 Z = true) (w3 : (Jvm.Cond.initialized y.cls).before a0 Z = true) (w4 : (Jvm.Cond.code y bytes' maxL' ret').before a0 Z = true)
    (hy : y.cls ≠ "java/lang/invoke/MethodHandle" ∧ y.cls ≠ "java/lang/invoke/VarHandle") {ps : List FieldType} {r : Option FieldType} (hpd : parseMethodDescriptor y.desc = some ⟨ps, r⟩) (hlen : argsL.length = ps.length) (hst : st = argsL.reverse ++ .ref a :: rest) (hsz : Ls.size = maxL) (hf : rm.frames + 1 ≤ R.frames) (W0 : Nat) (hW : (rest.map fun v => v.category).sum ≤ W0) (hl : W0 + (maxL' + 11) + rm.locals ≤ R.locals) (hc : cells + rm.cells ≤ R.cells) (hs : slots + rm.slots ≤ R.slots)
    (k : ∀ v h', P' v h' → WG FE l R Z own nm bytes maxL ret n0 P h' (cells + rm.cells) (slots + rm.slots) n Ls (v.toList ++ rest)) : WG FE l R Z own nm bytes maxL ret n0 P h cells slots pc Ls st := by
  subst hn hst hcy
  intro p e s m args below meth c T locs hx hZ hby hml hown hret hlk hnm hn0 X eT N
  obtain ⟨cq, kq, qa, qb, qc⟩ := isOf hZ eT E
  obtain ⟨v, _, ⟨T', L', c', n'⟩, -, X', ⟨Lc, hQ, l', y', z'⟩, st'⟩ := X.virtualBack hx (y := y) (z := y) hown (mvT hZ w1) (mvT hZ w2) (notFace_of_selects (args := #[]) (mvT hZ w5)) (mvT hZ w5) (mvT hZ w6) hy (backOf (W := W0) (Z := Z) (h := h) (bytes := bytes') (maxL := maxL') (rm := rm) (Q := fun v h' L => P' v h' ∧ Fr n0 L) (C (Nat.le_trans hn0.1 (eT ▸ size_le X))) hZ w4 w3 hf hl) qa qc (g := mkF m pc Ls (argsL.reverse ++ .ref a :: rest)) rfl (by rw [hml]; exact hsz) (Steps.refl _) (argsL := argsL) (rest := rest) (lenOf hpd hlen) rfl (by show 2 * 0 + _ ≤ _; omega) (hb hby hd) (fun _ _ => ⟨rfl, eT, hc, hs⟩)
  dsimp only [Pt.U, Pt.locs, Pt.cells, Pt.slots] at X' l' y' z' st' hQ
  subst l' y' z'
  exact (k v T'.heap hQ.1 p e s m args below meth c T' _ hx hZ hby hml hown hret hlk hnm hn0 X' rfl (Fr.app N hQ.2)).step fun t q => st'.trans q
end Calls
theorem ary_us {vs : List Value} {d : Value} (i k : Nat) (hs : i + k ≤ vs.length) : (List.range k).map (fun j => vs.getD (i + j) d) = (vs.drop i).take k := by
  apply List.ext_getElem?
  intro j
  by_cases hj : j < k
  · simp [hj, List.getD_eq_getElem?_getD, List.getElem?_eq_getElem (show i + j < vs.length by omega)]
  · simp [hj]; omega
theorem W.arraycopy {i : Nat} {a b : Addr} {ty : FieldType} {vs vd : List Value} {sp dp nn : Int32} (n : Nat) (hd : decode bytes pc = .ok (.invokestatic i, 3)) (hn : pc + 3 = n) (w1 : (Jvm.Cond.methodLink own i Jvm.Stand.acN).before a0 Z = true) (w2 : (Jvm.Cond.native Jvm.Stand.acN).before a0 Z = true) (w3 : (Jvm.Cond.static Jvm.Stand.acN).before a0 Z = true) (w4 : (Jvm.Cond.initialized "java/lang/System").before a0 Z = true)
    (A : Ary Z h a ty vs) (B : Ary Z h b ty vd) (hk : refKind ty = false) (si di ni : Nat) (h1 : sp.toNatClampNeg = si) (h1' : ¬ sp < 0) (h2 : dp.toNatClampNeg = di) (h2' : ¬ dp < 0) (h3 : nn.toNatClampNeg = ni) (h3' : ¬ nn < 0) (hs : si + ni ≤ vs.length) (hdl : di + ni ≤ vd.length) (ge : n0 ≤ b) (hsz : Ls.size = maxL) (hf : 1 ≤ R.frames) (W0 : Nat) (hW : (st.map fun v => v.category).sum ≤ W0) (hl : W0 + (nativeFrameWords "java/lang/System" "arraycopy" 5 + 11) ≤ R.locals)
    (k : ∀ h', Keep h h' [b] → Ary Z h' b ty (vd.take di ++ (vs.drop si).take ni ++ vd.drop (di + ni)) → WG FE l R Z own nm bytes maxL ret n0 P h' cells slots n Ls st) : WG FE l R Z own nm bytes maxL ret n0 P h cells slots pc Ls (.int nn :: .int dp :: .ref b :: .int sp :: .ref a :: st) := by
  subst hn h1 h2 h3
  intro p e s m args below meth c T locs hx hZ hby hml hown hret hlk hnm hn0 X eT N
  have za : vs.length.toInt32.toNatClampNeg = vs.length := by
    have S : vs.length < 2 ^ 31 := by obtain ⟨_, _, _, _, S⟩ := A; exact S
    have hz : (vs.length.toInt32).toInt = vs.length := Int32.toInt_ofNat_small S
    simp only [Int32.toNatClampNeg]; rw [hz]; simp
  have zb : vd.length.toInt32.toNatClampNeg = vd.length := by
    have S : vd.length < 2 ^ 31 := by obtain ⟨_, _, _, _, S⟩ := B; exact S
    have hz : (vd.length.toInt32).toInt = vd.length := Int32.toInt_ofNat_small S
    simp only [Int32.toNatClampNeg]; rw [hz]; simp
  obtain ⟨ka, A'⟩ := A.arv .null
  obtain ⟨kb, B'⟩ := B.arv .null
  obtain ⟨T', h', L', X', e', N', K', C', st'⟩ := cpA X hx hZ hown w1 w2 w3 w4 eT A' B' (Or.inl ⟨rfl, hk⟩) h1' h2' h3' (by rw [za]; exact hs) (by rw [zb]; exact hdl) rfl hdl N ge (g := mkF m pc Ls (.int nn :: .int dp :: .ref b :: .int sp :: .ref a :: st)) rfl (by rw [hml]; exact hsz) rfl (hb hby hd) hf (W := W0) (by show 2 * 0 + _ ≤ _; omega) hl
  rw [ary_us _ _ hs] at C'
  have hlen : vd.length.toInt32.toNatClampNeg = (vd.take dp.toNatClampNeg ++ (vs.drop sp.toNatClampNeg).take nn.toNatClampNeg ++ vd.drop (dp.toNatClampNeg + nn.toNatClampNeg)).length := by
    rw [zb]; simp only [List.length_append, List.length_take, List.length_drop]; omega
  exact (k h' K' (Ary.of_arv C' hlen) p e s m args below meth c T' L' hx hZ hby hml hown hret hlk hnm hn0 X' e' N').step st'
theorem W.ireturn {x : Int32} (hd : decode bytes pc = .ok (.ireturn, 1)) (hr : ret = some .int) (hp : P (some (.int x)) h) (hc : cells ≤ R.cells) (hs : slots ≤ R.slots) (hFE : ∀ {s : State} {o : Outcome} {t : State} {L : List Loc} {k n : Nat}, FrameEnd s o t L k n → FE.1 s o t L k n := by first | exact fun q => q | exact fun q => RoadKit.wide q) : WG FE l R Z own nm bytes maxL ret n0 P h cells slots pc Ls (.int x :: st) := by
  intro p e s m args below meth c T locs hx hZ hby hml hown hret hlk hnm hn0 X eT N
  obtain ⟨fs, hr', hrun, hended, hW, hsame⟩ := X.leave (v := some (.int x)) (fun q => by rw [hret, hr] at q; cases q) hlk
  exact ⟨_, _, retOut X hx (t := .int) (i := .ireturn) (hret.trans hr) rfl (Or.inl ⟨rfl, Or.inl rfl, _, rfl⟩) (hb hby hd) hr', hrun, hended, _, _, rfl, ⟨by show P _ T.heap; rw [eT]; exact hp, N⟩, hFE ⟨⟨_, rfl⟩, hW, hsame.mono hc hs⟩⟩
theorem W.ireturnN {x : Int32} {t : FieldType} (hd : decode bytes pc = .ok (.ireturn, 1)) (hr : ret = some t) (ht : t = .boolean ∨ t = .byte ∨ t = .char ∨ t = .short) (x' : Int32) (hx' : nar t x = x') (hp : P (some (.int x')) h) (hc : cells ≤ R.cells) (hs : slots ≤ R.slots) (hFE : ∀ {s : State} {o : Outcome} {t : State} {L : List Loc} {k n : Nat}, FrameEnd s o t L k n → FE.1 s o t L k n := by first | exact fun q => q | exact fun q => RoadKit.wide q) : WG FE l R Z own nm bytes maxL ret n0 P h cells slots pc Ls (.int x :: st) := by
  subst hx'
  intro p e s m args below meth c T locs hx hZ hby hml hown hret hlk hnm hn0 X eT N
  obtain ⟨fs, hr', hrun, hended, hW, hsame⟩ := X.leave (v := some (.int (nar t x))) (fun q => by rw [hret, hr] at q; cases q) hlk
  exact ⟨_, _, retN X hx (hret.trans hr) ht (hb hby hd) hr', hrun, hended, _, _, rfl, ⟨by show P _ T.heap; rw [eT]; exact hp, N⟩, hFE ⟨⟨_, rfl⟩, hW, hsame.mono hc hs⟩⟩
theorem W.areturn {v : Value} {t : FieldType} (hd : decode bytes pc = .ok (.areturn, 1)) (hr : ret = some t) (ht : t.isReference = true) (hv : v.isRef = true) (hn : narrow t v = v) (hp : P (some v) h) (hc : cells ≤ R.cells) (hs : slots ≤ R.slots) (hFE : ∀ {s : State} {o : Outcome} {t : State} {L : List Loc} {k n : Nat}, FrameEnd s o t L k n → FE.1 s o t L k n := by first | exact fun q => q | exact fun q => RoadKit.wide q) : WG FE l R Z own nm bytes maxL ret n0 P h cells slots pc Ls (v :: st) := by
  intro p e s m args below meth c T locs hx hZ hby hml hown hret hlk hnm hn0 X eT N
  obtain ⟨fs, hr', hrun, hended, hW, hsame⟩ := X.leave (v := some v) (fun q => by rw [hret, hr] at q; cases q) hlk
  exact ⟨_, _, retOut X hx (t := t) (i := .areturn) (hret.trans hr) hn (Or.inr (Or.inr (Or.inr (Or.inr ⟨rfl, ht, hv⟩)))) (hb hby hd) hr', hrun, hended, _, _, rfl, ⟨by show P _ T.heap; rw [eT]; exact hp, N⟩, hFE ⟨⟨_, rfl⟩, hW, hsame.mono hc hs⟩⟩
theorem W.return_ (hd : decode bytes pc = .ok (.return_, 1)) (hr : ret = none) (hp : P none h) (hc : cells ≤ R.cells) (hs : slots ≤ R.slots) (hFE : ∀ {s : State} {o : Outcome} {t : State} {L : List Loc} {k n : Nat}, FrameEnd s o t L k n → FE.1 s o t L k n := by first | exact fun q => q | exact fun q => RoadKit.wide q) : WG FE l R Z own nm bytes maxL ret n0 P h cells slots pc Ls [] := by
  intro p e s m args below meth c T locs hx hZ hby hml hown hret hlk hnm hn0 X eT N
  obtain ⟨fs, hr', hrun, hended, hW, hsame⟩ := X.leave (v := none) (fun q => rfl) hlk
  exact ⟨_, _, X.returnOut hx (hret.trans hr) (hb hby hd) hr', hrun, hended, _, _, rfl, ⟨by show P _ T.heap; rw [eT]; exact hp, N⟩, hFE ⟨⟨_, rfl⟩, hW, hsame.mono hc hs⟩⟩
theorem WG.widen (k : W l R Z own nm bytes maxL ret n0 P h cells slots pc Ls st) : WG FEW l R Z own nm bytes maxL ret n0 P h cells slots pc Ls st := by
  intro p e s m args below meth c T locs hx hZ hby hml hown hret hlk hnm hn0 X eT N
  obtain ⟨s₂, o, h1, h2, h3, v, L, h4, h5, h6⟩ := k p e s m args below meth c T locs hx hZ hby hml hown hret hlk hnm hn0 X eT N
  exact ⟨s₂, o, h1, h2, h3, v, L, h4, h5, RoadKit.wide h6⟩
theorem Ary.nostat {a : Addr} {ty : FieldType} {vs : List Value} (A : Ary Z h a ty vs) : ∀ cell : Cell, h[a]? = some cell → cell.vm.isStatics = false := by
  obtain ⟨c, A1, -⟩ := A
  exact Arr.nostat A1
theorem Sta.keepN {h' : Heap} {ws : List Addr} {C n d : String} {w : Value} (K : Keep h h' ws) (hw : ∀ x ∈ ws, ∀ cell : Cell, h[x]? = some cell → cell.vm.isStatics = false) (F : Sta Z h C n d w) : Sta Z h' C n d w := by
  obtain ⟨cf, i, k, f, st, cell, h1, h2, h3, h4, h5, h6, h7⟩ := F
  refine ⟨cf, i, k, f, st, cell, h1, h2, h3, h4, K.2.1 _ _ h5 (fun hm => ?_), h6, h7⟩
  rw [hw _ hm _ h5] at h6; cases h6
/-! literals: the invariant CHv carried along -/
section Held
variable {EL : List (String × Nat)} {I : Vm → Prop} {hs h' : Heap} {S : List Addr}
/-- the wide end, and the invariant from the heap hs on -/
def FX (Z : State) (EL : List (String × Nat)) (I : Vm → Prop) (hs : Heap) : FEnd := ⟨fun s o t L k n => ReturnedEndW s o t L k n ∧ CHr Z EL s.vm hs t.vm t.heap, I⟩
def NI (Z : State) (EL : List (String × Nat)) (h : Heap) (S : List Addr) (vm : Vm) : Prop := CHv Z EL vm h ∧ ∀ x ∈ S, Safe Z EL vm h x
/-- at heap h the invariant stands, and S may be written -/
def HV (Z : State) (EL : List (String × Nat)) (I : Vm → Prop) (hs h : Heap) (S : List Addr) : Prop := ∀ vm, I vm → CHr Z EL vm hs vm h ∧ ∀ x ∈ S, Safe Z EL vm h x
theorem HV.here : HV Z EL (NI Z EL h S) h h S := fun vm q => ⟨CHr.refl q.1, q.2⟩
theorem HV.keep {ws : List Addr} (H : HV Z EL I hs h S) (K : Keep h h' ws) (hw : ∀ x ∈ ws, x ∈ S) : HV Z EL I hs h' S := fun vm q => by
  obtain ⟨c, s⟩ := H vm q
  have hz : ∀ x ∈ ws, Safe Z EL vm h x := fun x hx => s x (hw x hx)
  exact ⟨c.trans (CHr.keep K hz c.1), fun x hx => (s x hx).keep K hz c.1⟩
theorem HV.new {ws : List Addr} {b : Addr} (H : HV Z EL I hs h S) (K : Keep h h' ws) (hw : ∀ x ∈ ws, x ∈ S) (hb : h.size ≤ b) : HV Z EL I hs h' (b :: S) := fun vm q => by
  obtain ⟨c, s⟩ := H vm q
  have hz : ∀ x ∈ ws, Safe Z EL vm h x := fun x hx => s x (hw x hx)
  refine ⟨c.trans (CHr.keep K hz c.1), fun x hx => ?_⟩
  rcases List.mem_cons.mp hx with rfl | hx
  · exact (Safe.new hb).keep K hz c.1
  · exact (s x hx).keep K hz c.1
theorem HV.sub {S' : List Addr} (H : HV Z EL I hs h S) (hw : ∀ x ∈ S', x ∈ S) : HV Z EL I hs h S' := fun vm q => ⟨(H vm q).1, fun x hx => (H vm q).2 x (hw x hx)⟩
theorem sinceW {s t : State} {vm1 : Vm} {k1 : Nat} {o : Outcome} {L : List Loc} {k n : Nat} (hS : s.Since vm1 k1) (hk : k1 ≤ t.heap.size) (q : ReturnedEndW (s.setVm vm1) o t L k n) : ReturnedEndW s o t L k n := by
  obtain ⟨q1, q2, q3, q4⟩ := q
  have h2 := hS.trans (show (s.setVm vm1).Since t.vm t.heap.size from ⟨q2, q3⟩) hk
  exact ⟨q1, h2.1, h2.2, State.sameButNew.setVm q4 s.vm⟩
theorem WG.retX (hEL : EW Z a0 EL) (H : HV Z EL I hs h S) (k : W l R Z own nm bytes maxL ret n0 (fun v hf => P v hf ∧ hf = h) h cells slots pc Ls st) : WG (FX Z EL I hs) l R Z own nm bytes maxL ret n0 P h cells slots pc Ls st := by
  intro p e s m args below meth c T locs hx hZ hby hml hown hret hlk hnm hn0 X eT N
  obtain ⟨s₂, o, h1, h2, h3, v, L, h4, ⟨⟨h5, h5'⟩, h5''⟩, h6⟩ := k p e s m args below meth c T locs hx hZ hby hml hown hret hlk hnm ⟨hn0.1, trivial⟩ X eT N
  have c := (H s.vm hn0.2).1
  refine ⟨s₂, o, h1, h2, h3, v, L, h4, ⟨h5, h5''⟩, RoadKit.wide h6, ?_⟩
  have hW : s.WarmedH s₂.vm := h6.2.1
  have q := CHv.later (vm := s.vm) (vm1 := s₂.vm) (h := h) (h' := h) hZ (show (Wst Z s.vm h).Warmed39 s₂.vm from hW.wide) hEL ⟨Nat.le_refl _, fun _ _ q => q⟩ (Or.inl hW.interned_eq) c.1
  rw [h5']
  exact c.trans ⟨q.1, Nat.le_refl _, q.2⟩
theorem W.ldcX {i : Nat} {text : String} (n : Nat) (hd : decode bytes pc = .ok (.ldc i, 2)) (hn : pc + 2 = n) (w : (Jvm.Cond.stringLink own i text).before a0 Z = true) (wS : ∀ a ∈ Bundle.stringAtoms, a.before a0 Z = true) (hEL : EW Z a0 EL) (hm : (own, i) ∈ EL) (H : HV Z EL I hs h S) (hlt : ∀ x ∈ S, x < h.size)
    (vs : List Value) (ht : (∀ c ∈ text.toList, c.toNat < 256) ∧ text.toList.map (fun c => Value.int (Jvm.Lit.byteI c.toNat.toUInt16)) = vs) (hv : vs.length < 2 ^ 31) (sl : Nat) (hlen : 4 * text.toList.length ≤ sl) (hbig : sl ≤ 536870912) (hc : cells + 2 ≤ R.cells) (hs' : slots + (sl + 4) ≤ R.slots)
    (k : ∀ h' a b, Ext h h' → Keep h h' [] → Exa Z h' a "java/lang/String" → Fld Z h' a "java/lang/String" "coder" "B" (.int 0) → Fld Z h' a "java/lang/String" "value" "[B" (.ref b) → Ary Z h' b .byte vs → (∀ x ∈ S, x ≠ a ∧ x ≠ b) → WG (FX Z EL (NI Z EL h' S) h') l R Z own nm bytes maxL ret n0 P h' (cells + 2) (slots + (sl + 4)) n Ls (.ref a :: st)) : WG (FX Z EL I hs) l R Z own nm bytes maxL ret n0 P h cells slots pc Ls st := by
  subst hn
  intro p e s m args below meth c T locs hx hZ hby hml hown hret hlk hnm hn0 X eT N
  obtain ⟨c0, s0⟩ := H s.vm hn0.2
  have hz : ¬ vs.length.toInt32 < 0 := by
    have e1 : (vs.length.toInt32).toInt = vs.length := Int32.toInt_ofNat_of_lt hv
    rw [Int32.lt_iff_toInt_lt, e1]; simp
  have hl : vs.length.toInt32.toNatClampNeg = vs.length := by
    have e1 : (vs.length.toInt32).toInt = vs.length := Int32.toInt_ofNat_of_lt hv
    simp only [Int32.toNatClampNeg]; rw [e1]; simp
  obtain ⟨a, T', h', k1, b, kk, X', e', E', hS, hk1, hZ', hown', x1, x2, x3, x4, lt1, lt2, hC, -, hne, st'⟩ := ldcCH (vm0 := s.vm) (s := s) X hx hZ hown w wS eT (k0 := h.size) ((State.WarmedH.refl s).since _) (Nat.le_refl _) hEL hm c0.1 ht hz hl (g := mkF m pc Ls st) rfl (hb hby hd) hlen hbig hc hs'
  have sf : ∀ x ∈ S, Safe Z EL T'.vm h' x := fun x hx => hC.safe (hlt x hx) (s0 x hx)
  obtain ⟨s₂, o, h1, h2, h3, v, L, h4, h5, h6, h7⟩ := k h' a b E' (Keep.of_ext E') x1 x2 x3 (Ary.of_arv x4 hl) (fun x hx => hne x (sf x hx)) p e (s.setVm T'.vm) m args below meth c T' locs hx hZ' hby hml hown' hret hlk hnm ⟨hn0.1, hC.1, sf⟩ X' e' N
  exact ⟨s₂, o, st' _ h1, h2, h3, v, L, h4, h5, sinceW hS (Nat.le_trans hk1 h7.2.1) h6, (c0.trans hC).trans h7⟩
/-- a wide contract: S may be written -/
def ConX (Z : State) (EL : List (String × Nat)) (S : List Addr) (ws : List Jvm.Cond) (l : Launch) (y : MethodName) (bytes : ByteArray) (maxL : Nat) (ret : Option FieldType) (rm : Room) (as : Array Value) (h : Heap) (n0 : Nat) (P : Option Value → Heap → Prop) : Prop :=
  MetFree l y (head1 (Jvm.Cond.code y bytes maxL ret :: ws) rm) (fun a U => a = as ∧ Z.Warmed39 U.vm ∧ U.heap = h ∧ NI Z EL h S U.vm) (fun _ _ _ _ _ => True) (fun _ U o U' => ∃ v L, o = .returned v ∧ (P v U'.heap ∧ Fr n0 L) ∧ ReturnedEndW U o U' L rm.cells rm.slots ∧ CHr Z EL U.vm U.heap U'.vm U'.heap)
theorem ConX.of_W {ws : List Jvm.Cond} {y : MethodName} {rm : Room} {as : Array Value} (hy : plainFor y = true) (hn : n0 ≤ h.size) (hef : ∀ m, entryFrame m as maxL = mkF m 0 Ls []) (k : WG (FX Z EL (NI Z EL h S) h) l rm Z y.cls y.name bytes maxL ret n0 P h 0 0 0 Ls []) : ConX Z EL S ws l y bytes maxL ret rm as h n0 P := by
  refine MetFree.of_bodySF hy hisR ?_
  intro p e s m args below meth c s₁ Bd hml0 hP hK
  obtain ⟨rfl, hZ, hh, hI⟩ := hP
  have hown : s.vm.findClass y.cls = some m.cls := findClass_of_methodNamed Bd.named
  have hnm := (name_of_methodNamed Bd.named Bd.method).1
  have X0 : Stand p l e rm s m _ below meth c s₁ [] 0 0 := Stand.of_body Bd
  have e0 : s₁.heap = h := by rw [← hh, Bd.state]; rfl
  obtain ⟨s₂, o, h1, h2, h3, v, L, h4, h5, h6, h7⟩ := k p e s m _ below meth c s₁ [] Bd.exec hZ Bd.bytes hml0 hown Bd.returns (BodyLoose.notSynchronized Bd) hnm ⟨by rw [hh]; exact hn, hI⟩ X0 e0 (Fr.nil n0)
  exact ⟨s₂, o, castTop (hef m) h1, h2, h3, v, L, h4, h5, h6, by rw [hh]; exact h7⟩
theorem backOfX {p : Program} {e : Env} {s : State} {args : Array Value} {below : List Frame} {y : MethodName} {rm : Room} {len W : Nat} {as : Array Value} {S' : List Addr} (hM : ConX Z EL S' [] l y bytes maxL ret rm as h n0 P)
    (hZ : Z.Warmed39 s.vm) (wc : (Jvm.Cond.code y bytes maxL ret).before a0 Z = true) (wz : (Jvm.Cond.initialized y.cls).before a0 Z = true) (hf : rm.frames + 1 ≤ R.frames) (hl : W + (maxL + 11) + rm.locals ≤ R.locals) (hEL : EW Z a0 EL) (H : NI Z EL h S s.vm) (hlt : ∀ x ∈ S, x < h.size) (hsub : ∀ x ∈ S', x ∈ S) :
    BackS l R p e below s args y len W (fun A a => a = as ∧ A.U.heap = h ∧ A.cells + rm.cells ≤ R.cells ∧ A.slots + rm.slots ≤ R.slots)
      (fun A _ v B => ∃ L, (P v B.U.heap ∧ Fr n0 L) ∧ B.locs = A.locs ++ L ∧ B.cells = A.cells + rm.cells ∧ B.slots = A.slots + rm.slots ∧ CHr Z EL s.vm h B.U.vm B.U.heap) :=
  BackS.of_freeW (bytes := bytes) (maxL := maxL) (ret := ret) (E := fun _ first o t L k n => k = rm.cells ∧ n = rm.slots ∧ (∃ v, o = .returned v ∧ (P v t.heap ∧ Fr n0 L)) ∧ CHr Z EL first.vm first.heap t.vm t.heap) hM hf hl
    (fun m meth c A a Y hp => have hU : Z.Warmed39 A.U.vm := wtrans (s := s) hZ Y.warmed
      ⟨by show (Jvm.Cond.and _ .tt).before a A.U = true; rw [Cond.before_and, mv hU wc]; rfl, mv hU wc, mv hU wz, hp.2.2.1, hp.2.2.2⟩)
    (fun m meth c A a g mk Y hp => ⟨hp.1, wtrans (s := s) hZ Y.warmed, hp.2.1, (CHv.at (vm0 := s.vm) (s := s) Y hZ hEL H.1).1, fun x hx => (CHv.at (vm0 := s.vm) (s := s) Y hZ hEL H.1).safe (hlt x (hsub x hx)) (H.2 x (hsub x hx))⟩) (fun _ _ _ _ _ _ _ _ _ => trivial)
    (fun _ _ _ _ ⟨v, L, h1, h2, h3, h4⟩ => ⟨L, _, _, h3, rfl, rfl, ⟨v, h1, h2⟩, h4⟩)
    (fun m meth c A a g mk v t L k n Y hp _ _ ⟨e1, e2, ⟨v', e3, e4⟩, e5⟩ => by
      cases e3; subst e1 e2
      refine ⟨L, e4, rfl, rfl, rfl, (CHv.at (vm0 := s.vm) (s := s) Y hZ hEL H.1).trans ?_⟩
      rw [← hp.2.1]; exact e5)
section CallsX
variable {y : MethodName} {bytes' : ByteArray} {maxL' : Nat} {ret' : Option FieldType} {rm : Room} {P' : Option Value → Heap → Prop} {rest argsL : List Value} {i : Nat} {S' : List Addr}
theorem W.callSX (n : Nat) (hd : decode bytes pc = .ok (.invokestatic i, 3)) (hn : pc + 3 = n) (C : n0 ≤ h.size → ConX Z EL S' [] l y bytes' maxL' ret' rm argsL.toArray h n0 P') (w1 : (Jvm.Cond.methodLink own i y).before a0 Z = true) (w2 : (Jvm.Cond.static y).before a0 Z = true) (w3 : (Jvm.Cond.initialized y.cls).before a0 Z = true) (w4 : (Jvm.Cond.code y bytes' maxL' ret').before a0 Z = true)
    (hy : y.cls ≠ "java/lang/invoke/MethodHandle" ∧ y.cls ≠ "java/lang/invoke/VarHandle") {ps : List FieldType} {r : Option FieldType} (hpd : parseMethodDescriptor y.desc = some ⟨ps, r⟩) (hlen : argsL.length = ps.length) (hst : st = argsL.reverse ++ rest) (hsz : Ls.size = maxL) (hf : rm.frames + 1 ≤ R.frames) (W0 : Nat) (hW : (rest.map fun v => v.category).sum ≤ W0) (hl : W0 + (maxL' + 11) + rm.locals ≤ R.locals) (hc : cells + rm.cells ≤ R.cells) (hs' : slots + rm.slots ≤ R.slots)
    (hEL : EW Z a0 EL) (H : HV Z EL I hs h S) (hlt : ∀ x ∈ S, x < h.size) (hsub : ∀ x ∈ S', x ∈ S)
    (k : ∀ v h', P' v h' → WG (FX Z EL (NI Z EL h' S) h') l R Z own nm bytes maxL ret n0 P h' (cells + rm.cells) (slots + rm.slots) n Ls (v.toList ++ rest)) : WG (FX Z EL I hs) l R Z own nm bytes maxL ret n0 P h cells slots pc Ls st := by
  subst hn hst
  intro p e s m args below meth c T locs hx hZ hby hml hown hret hlk hnm hn0 X eT N
  obtain ⟨c0, s0⟩ := H s.vm hn0.2
  obtain ⟨v, _, ⟨T', L', c', n'⟩, -, X', hS, hgr, ⟨Lc, hQ, l', y', z', hC⟩, st'⟩ := callSS X hx (y := y) hown (mvT hZ w1) (mvT hZ w2) (mvT hZ w3) (mvT hZ w4) hy (backOfX (W := W0) (C (Nat.le_trans hn0.1 (eT ▸ size_le X))) hZ w4 w3 hf hl hEL ⟨c0.1, s0⟩ hlt hsub) (g := mkF m pc Ls (argsL.reverse ++ rest)) rfl (by rw [hml]; exact hsz) (argsL := argsL) (rest := rest) (lenOf hpd hlen) rfl (by show 2 * 0 + _ ≤ _; omega) (hb hby hd) (fun _ _ => ⟨rfl, eT, hc, hs'⟩)
  dsimp only [Pt.U, Pt.locs, Pt.cells, Pt.slots] at X' l' y' z' st' hQ hS hgr hC
  subst l' y' z'
  obtain ⟨s₂, o, h1, h2, h3, v', L2, h4, h5, h6, h7⟩ := k v T'.heap hQ.1 p e (s.setVm T'.vm) m args below meth c T' _ hx (State.Warmed39.trans hZ hS.1) hby hml ((hS.1.alike.findClass _ _).trans hown) hret hlk hnm ⟨hn0.1, hC.1, fun x hx => hC.safe (hlt x hx) (s0 x hx)⟩ X' rfl (Fr.app N hQ.2)
  exact ⟨s₂, o, st'.trans h1, h2, h3, v', L2, h4, h5, sinceW hS h7.2.1 h6, (c0.trans hC).trans h7⟩
theorem W.callInitX {a : Addr} (n : Nat) (hd : decode bytes pc = .ok (.invokespecial i, 3)) (hn : pc + 3 = n) (C : n0 ≤ h.size → ConX Z EL S' [] l y bytes' maxL' none rm (.ref a :: argsL).toArray h n0 P') (hi : y.name = "<init>") (w1 : (Jvm.Cond.methodLink own i y).before a0 Z = true) (w2 : (Jvm.Cond.instanceMethod y).before a0 Z = true) (w3 : (Jvm.Cond.initialized y.cls).before a0 Z = true) (w4 : (Jvm.Cond.code y bytes' maxL' none).before a0 Z = true)
    (hy : y.cls ≠ "java/lang/invoke/MethodHandle" ∧ y.cls ≠ "java/lang/invoke/VarHandle") {ps : List FieldType} {r : Option FieldType} (hpd : parseMethodDescriptor y.desc = some ⟨ps, r⟩) (hlen : argsL.length = ps.length) (hst : st = argsL.reverse ++ .ref a :: rest) (hsz : Ls.size = maxL) (hf : rm.frames + 1 ≤ R.frames) (W0 : Nat) (hW : (rest.map fun v => v.category).sum ≤ W0) (hl : W0 + (maxL' + 11) + rm.locals ≤ R.locals) (hc : cells + rm.cells ≤ R.cells) (hs' : slots + rm.slots ≤ R.slots)
    (hEL : EW Z a0 EL) (H : HV Z EL I hs h S) (hlt : ∀ x ∈ S, x < h.size) (hsub : ∀ x ∈ S', x ∈ S)
    (k : ∀ v h', P' v h' → WG (FX Z EL (NI Z EL h' S) h') l R Z own nm bytes maxL ret n0 P h' (cells + rm.cells) (slots + rm.slots) n Ls (v.toList ++ rest)) : WG (FX Z EL I hs) l R Z own nm bytes maxL ret n0 P h cells slots pc Ls st := by
  subst hn hst
  intro p e s m args below meth c T locs hx hZ hby hml hown hret hlk hnm hn0 X eT N
  obtain ⟨c0, s0⟩ := H s.vm hn0.2
  obtain ⟨v, _, ⟨T', L', c', n'⟩, -, X', hS, hgr, ⟨Lc, hQ, l', y', z', hC⟩, st'⟩ := X.specialBackS hx (y := y) hi hown (mvT hZ w1) (mvT hZ w2) (mvT hZ w4) hy (backOfX (W := W0) (C (Nat.le_trans hn0.1 (eT ▸ size_le X))) hZ w4 w3 hf hl hEL ⟨c0.1, s0⟩ hlt hsub) (g := mkF m pc Ls (argsL.reverse ++ .ref a :: rest)) rfl (by rw [hml]; exact hsz) (Steps.refl _) (a := a) (argsL := argsL) (rest := rest) (lenOf hpd hlen) rfl (by show 2 * 0 + _ ≤ _; omega) (hb hby hd) (fun _ _ => ⟨rfl, eT, hc, hs'⟩)
  dsimp only [Pt.U, Pt.locs, Pt.cells, Pt.slots] at X' l' y' z' st' hQ hS hgr hC
  subst l' y' z'
  obtain ⟨s₂, o, h1, h2, h3, v', L2, h4, h5, h6, h7⟩ := k v T'.heap hQ.1 p e (s.setVm T'.vm) m args below meth c T' _ hx (State.Warmed39.trans hZ hS.1) hby hml ((hS.1.alike.findClass _ _).trans hown) hret hlk hnm ⟨hn0.1, hC.1, fun x hx => hC.safe (hlt x hx) (s0 x hx)⟩ X' rfl (Fr.app N hQ.2)
  exact ⟨s₂, o, st'.trans h1, h2, h3, v', L2, h4, h5, sinceW hS h7.2.1 h6, (c0.trans hC).trans h7⟩
theorem W.callVX {C0 : String} {a : Addr} (n : Nat) (hd : decode bytes pc = .ok (.invokevirtual i, 3)) (hn : pc + 3 = n) (C : n0 ≤ h.size → ConX Z EL S' [] l y bytes' maxL' ret' rm (.ref a :: argsL).toArray h n0 P') (E : Exa Z h a C0) (w1 : (Jvm.Cond.methodLink own i y).before a0 Z = true) (w2 : (Jvm.Cond.declares y).before a0 Z = true) (w5 : (Jvm.Cond.selects C0 y y).before a0 Z = true) (hcy : C0 = y.cls) (w6 : (Jvm.Cond.instanceMethod y).before a0 Z = true) (w3 : (Jvm.Cond.initialized y.cls).before a0 Z = true) (w4 : (Jvm.Cond.code y bytes' maxL' ret').before a0 Z = true)
    (hy : y.cls ≠ "java/lang/invoke/MethodHandle" ∧ y.cls ≠ "java/lang/invoke/VarHandle") {ps : List FieldType} {r : Option FieldType} (hpd : parseMethodDescriptor y.desc = some ⟨ps, r⟩) (hlen : argsL.length = ps.length) (hst : st = argsL.reverse ++ .ref a :: rest) (hsz : Ls.size = maxL) (hf : rm.frames + 1 ≤ R.frames) (W0 : Nat) (hW : (rest.map fun v => v.category).sum ≤ W0) (hl : W0 + (maxL' + 11) + rm.locals ≤ R.locals) (hc : cells + rm.cells ≤ R.cells) (hs' : slots + rm.slots ≤ R.slots)
    (hEL : EW Z a0 EL) (H : HV Z EL I hs h S) (hlt : ∀ x ∈ S, x < h.size) (hsub : ∀ x ∈ S', x ∈ S)
    (k : ∀ v h', P' v h' → WG (FX Z EL (NI Z EL h' S) h') l R Z own nm bytes maxL ret n0 P h' (cells + rm.cells) (slots + rm.slots) n Ls (v.toList ++ rest)) : WG (FX Z EL I hs) l R Z own nm bytes maxL ret n0 P h cells slots pc Ls st := by
  subst hn hst hcy
  intro p e s m args below meth c T locs hx hZ hby hml hown hret hlk hnm hn0 X eT N
  obtain ⟨c0, s0⟩ := H s.vm hn0.2
  obtain ⟨cq, kq, qa, qb, qc⟩ := isOf hZ eT E
  obtain ⟨v, _, ⟨T', L', c', n'⟩, -, X', hS, hgr, ⟨Lc, hQ, l', y', z', hC⟩, st'⟩ := X.virtualBackS hx (y := y) (z := y) hown (mvT hZ w1) (mvT hZ w2) (notFace_of_selects (args := #[]) (mvT hZ w5)) (mvT hZ w5) (mvT hZ w6) hy (backOfX (W := W0) (C (Nat.le_trans hn0.1 (eT ▸ size_le X))) hZ w4 w3 hf hl hEL ⟨c0.1, s0⟩ hlt hsub) qa qc (g := mkF m pc Ls (argsL.reverse ++ .ref a :: rest)) rfl (by rw [hml]; exact hsz) (Steps.refl _) (argsL := argsL) (rest := rest) (lenOf hpd hlen) rfl (by show 2 * 0 + _ ≤ _; omega) (hb hby hd) (fun _ _ => ⟨rfl, eT, hc, hs'⟩)
  dsimp only [Pt.U, Pt.locs, Pt.cells, Pt.slots] at X' l' y' z' st' hQ hS hgr hC
  subst l' y' z'
  obtain ⟨s₂, o, h1, h2, h3, v', L2, h4, h5, h6, h7⟩ := k v T'.heap hQ.1 p e (s.setVm T'.vm) m args below meth c T' _ hx (State.Warmed39.trans hZ hS.1) hby hml ((hS.1.alike.findClass _ _).trans hown) hret hlk hnm ⟨hn0.1, hC.1, fun x hx => hC.safe (hlt x hx) (s0 x hx)⟩ X' rfl (Fr.app N hQ.2)
  exact ⟨s₂, o, st'.trans h1, h2, h3, v', L2, h4, h5, sinceW hS h7.2.1 h6, (c0.trans hC).trans h7⟩
end CallsX
end Held
end Rules
end Jvm.Wk

namespace Jvm.Pilot.@@N@@
open Jvm Jvm.ClassFile Sem Op Lib Jvm.Free Jvm.Stand Jvm.LawKit Jvm.RoadKit Jvm.Wk Bundle Jvm.Pilot.@@N@@.Jvm.D
abbrev HwT (Z : State) (a0 : Array Value) : Prop := ∀ d ∈ tables_1, d.before a0 Z = true
theorem wd_130 {Z : State} {a0 : Array Value} (hw : HwT Z a0) : (Jvm.Cond.stringLink "java/lang/StringLatin1" (151 : Nat) "").before a0 Z = true := hw _ (List.mem_of_getElem? (i := 130) rfl)
theorem wd_86 {Z : State} {a0 : Array Value} (hw : HwT Z a0) : (Jvm.Cond.stringLink "com/example/tallymark/tallymark/HoldingLineSetPinLaw" (31 : Nat) "f").before a0 Z = true := hw _ (List.mem_of_getElem? (i := 86) rfl)
theorem wd_54 {Z : State} {a0 : Array Value} (hw : HwT Z a0) : (Jvm.Cond.stringLink "com/example/tallymark/tallymark/HoldingLineSetPinLaw" (21 : Nat) "").before a0 Z = true := hw _ (List.mem_of_getElem? (i := 54) rfl)
theorem wd_51 {Z : State} {a0 : Array Value} (hw : HwT Z a0) : (Jvm.Cond.stringLink "com/example/tallymark/tallymark/HoldingLineSetPinLaw" (19 : Nat) "qr").before a0 Z = true := hw _ (List.mem_of_getElem? (i := 51) rfl)
theorem wd_3 {Z : State} {a0 : Array Value} (hw : HwT Z a0) : (Jvm.Cond.initialized "java/lang/String").before a0 Z = true := hw _ (List.mem_of_getElem? (i := 3) rfl)
theorem wd_2 {Z : State} {a0 : Array Value} (hw : HwT Z a0) : (Jvm.Cond.instantiable "java/lang/String" (4 : Nat)).before a0 Z = true := hw _ (List.mem_of_getElem? (i := 2) rfl)
theorem wd_19 {Z : State} {a0 : Array Value} (hw : HwT Z a0) : (Jvm.Cond.arrayClass Jvm.ClassFile.FieldType.byte).before a0 Z = true := hw _ (List.mem_of_getElem? (i := 19) rfl)
theorem wd_29 {Z : State} {a0 : Array Value} (hw : HwT Z a0) : (Jvm.Cond.laysFinal "java/lang/String" "java/lang/String" "value" "[B").before a0 Z = true := hw _ (List.mem_of_getElem? (i := 29) rfl)
theorem wd_27 {Z : State} {a0 : Array Value} (hw : HwT Z a0) : (Jvm.Cond.laysFinal "java/lang/String" "java/lang/String" "coder" "B").before a0 Z = true := hw _ (List.mem_of_getElem? (i := 27) rfl)
theorem wd_52 {Z : State} {a0 : Array Value} (hw : HwT Z a0) : (Jvm.Cond.soleField "java/lang/String" "value").before a0 Z = true := hw _ (List.mem_of_getElem? (i := 52) rfl)
theorem wd_53 {Z : State} {a0 : Array Value} (hw : HwT Z a0) : (Jvm.Cond.soleField "java/lang/String" "coder").before a0 Z = true := hw _ (List.mem_of_getElem? (i := 53) rfl)
theorem d_jdk_52_method_21_3 : decode jdk_52_method_21_code 3 = .ok (.iload 5, 2) := by decide +kernel
theorem d_jdk_52_method_21_5 : decode jdk_52_method_21_code 5 = .ok (.iload 4, 2) := by decide +kernel
theorem d_jdk_52_method_21_7 : decode jdk_52_method_21_code 7 = .ok (.if_icmp .ge 37, 3) := by decide +kernel
theorem d_jdk_52_method_21_44 : decode jdk_52_method_21_code 44 = .ok (.iload 4, 2) := by decide +kernel
theorem d_jdk_52_method_21_46 : decode jdk_52_method_21_code 46 = .ok (.ireturn, 1) := by decide +kernel
theorem d_jdk_52_method_21_10 : decode jdk_52_method_21_code 10 = .ok (.aload_n 0, 1) := by decide +kernel
theorem d_jdk_52_method_21_11 : decode jdk_52_method_21_code 11 = .ok (.iload_n 1, 1) := by decide +kernel
theorem d_jdk_52_method_21_12 : decode jdk_52_method_21_code 12 = .ok (.caload, 1) := by decide +kernel
theorem d_jdk_52_method_21_13 : decode jdk_52_method_21_code 13 = .ok (.istore 6, 2) := by decide +kernel
theorem d_jdk_52_method_21_15 : decode jdk_52_method_21_code 15 = .ok (.iload 6, 2) := by decide +kernel
theorem d_jdk_52_method_21_17 : decode jdk_52_method_21_code 17 = .ok (.sipush 255, 3) := by decide +kernel
theorem d_jdk_52_method_21_20 : decode jdk_52_method_21_code 20 = .ok (.if_icmp .le 6, 3) := by decide +kernel
theorem d_jdk_52_method_21_26 : decode jdk_52_method_21_code 26 = .ok (.aload_n 2, 1) := by decide +kernel
theorem d_jdk_52_method_21_27 : decode jdk_52_method_21_code 27 = .ok (.iload_n 3, 1) := by decide +kernel
theorem d_jdk_52_method_21_28 : decode jdk_52_method_21_code 28 = .ok (.iload 6, 2) := by decide +kernel
theorem d_jdk_52_method_21_30 : decode jdk_52_method_21_code 30 = .ok (.i2b, 1) := by decide +kernel
theorem d_jdk_52_method_21_31 : decode jdk_52_method_21_code 31 = .ok (.bastore, 1) := by decide +kernel
theorem d_jdk_52_method_21_32 : decode jdk_52_method_21_code 32 = .ok (.iinc 1 1, 3) := by decide +kernel
theorem d_jdk_52_method_21_35 : decode jdk_52_method_21_code 35 = .ok (.iinc 3 1, 3) := by decide +kernel
theorem d_jdk_52_method_21_38 : decode jdk_52_method_21_code 38 = .ok (.iinc 5 1, 3) := by decide +kernel
theorem d_jdk_52_method_21_41 : decode jdk_52_method_21_code 41 = .ok (.goto (-38), 3) := by decide +kernel
theorem d_jdk_52_method_21_0 : decode jdk_52_method_21_code 0 = .ok (.iconst 0, 1) := by decide +kernel
theorem d_jdk_52_method_21_1 : decode jdk_52_method_21_code 1 = .ok (.istore 5, 2) := by decide +kernel
theorem pn_0 : plainName "java/lang/StringUTF16" = true := by first | (simp [plainName, overriddenIn]; done) | decide +kernel
theorem d_jdk_52_method_16_0 : decode jdk_52_method_16_code 0 = .ok (.iload_n 2, 1) := by decide +kernel
theorem d_jdk_52_method_16_1 : decode jdk_52_method_16_code 1 = .ok (.newarray .byte, 2) := by decide +kernel
theorem d_jdk_52_method_16_3 : decode jdk_52_method_16_code 3 = .ok (.astore_n 3, 1) := by decide +kernel
theorem d_jdk_52_method_16_4 : decode jdk_52_method_16_code 4 = .ok (.aload_n 0, 1) := by decide +kernel
theorem d_jdk_52_method_16_5 : decode jdk_52_method_16_code 5 = .ok (.iload_n 1, 1) := by decide +kernel
theorem d_jdk_52_method_16_6 : decode jdk_52_method_16_code 6 = .ok (.aload_n 3, 1) := by decide +kernel
theorem d_jdk_52_method_16_7 : decode jdk_52_method_16_code 7 = .ok (.iconst 0, 1) := by decide +kernel
theorem d_jdk_52_method_16_8 : decode jdk_52_method_16_code 8 = .ok (.iload_n 2, 1) := by decide +kernel
theorem d_jdk_52_method_16_9 : decode jdk_52_method_16_code 9 = .ok (.invokestatic 115, 3) := by decide +kernel
theorem wd_20 {Z : State} {a0 : Array Value} (hw : HwT Z a0) : (Jvm.Cond.methodLink "java/lang/StringUTF16" (115 : Nat) ({ cls := "java/lang/StringUTF16", name := "compress", desc := "([CI[BII)I" } : Jvm.MethodName)).before a0 Z = true := hw _ (List.mem_of_getElem? (i := 20) rfl)
theorem wd_22 {Z : State} {a0 : Array Value} (hw : HwT Z a0) : (Jvm.Cond.code ({ cls := "java/lang/StringUTF16", name := "compress", desc := "([CI[BII)I" } : Jvm.MethodName) jdk_52_method_21_code (7 : Nat) (Option.some Jvm.ClassFile.FieldType.int)).before a0 Z = true := hw _ (List.mem_of_getElem? (i := 22) rfl)
theorem pd_0 : parseMethodDescriptor "([CI[BII)I" = some ⟨[(.array .char), .int, (.array .byte), .int, .int], some .int⟩ := by decide +kernel
theorem wd_21 {Z : State} {a0 : Array Value} (hw : HwT Z a0) : (Jvm.Cond.static ({ cls := "java/lang/StringUTF16", name := "compress", desc := "([CI[BII)I" } : Jvm.MethodName)).before a0 Z = true := hw _ (List.mem_of_getElem? (i := 21) rfl)
theorem wd_17 {Z : State} {a0 : Array Value} (hw : HwT Z a0) : (Jvm.Cond.initialized "java/lang/StringUTF16").before a0 Z = true := hw _ (List.mem_of_getElem? (i := 17) rfl)
theorem d_jdk_52_method_16_12 : decode jdk_52_method_16_code 12 = .ok (.istore 4, 2) := by decide +kernel
theorem d_jdk_52_method_16_14 : decode jdk_52_method_16_code 14 = .ok (.iload 4, 2) := by decide +kernel
theorem d_jdk_52_method_16_16 : decode jdk_52_method_16_code 16 = .ok (.iload_n 2, 1) := by decide +kernel
theorem d_jdk_52_method_16_17 : decode jdk_52_method_16_code 17 = .ok (.if_icmp .eq 40, 3) := by decide +kernel
theorem d_jdk_52_method_16_57 : decode jdk_52_method_16_code 57 = .ok (.aload_n 3, 1) := by decide +kernel
theorem d_jdk_52_method_16_58 : decode jdk_52_method_16_code 58 = .ok (.areturn, 1) := by decide +kernel
theorem d_jdk_52_method_15_0 : decode jdk_52_method_15_code 0 = .ok (.iload_n 1, 1) := by decide +kernel
theorem d_jdk_52_method_15_1 : decode jdk_52_method_15_code 1 = .ok (.aload_n 0, 1) := by decide +kernel
theorem d_jdk_52_method_15_2 : decode jdk_52_method_15_code 2 = .ok (.arraylength, 1) := by decide +kernel
theorem d_jdk_52_method_15_3 : decode jdk_52_method_15_code 3 = .ok (.isub, 1) := by decide +kernel
theorem d_jdk_52_method_15_4 : decode jdk_52_method_15_code 4 = .ok (.bipush 31, 2) := by decide +kernel
theorem d_jdk_52_method_15_6 : decode jdk_52_method_15_code 6 = .ok (.iushr, 1) := by decide +kernel
theorem d_jdk_52_method_15_7 : decode jdk_52_method_15_code 7 = .ok (.i2b, 1) := by decide +kernel
theorem d_jdk_52_method_15_8 : decode jdk_52_method_15_code 8 = .ok (.ireturn, 1) := by decide +kernel
theorem d_jdk_42_method_149_0 : decode jdk_42_method_149_code 0 = .ok (.aload_n 0, 1) := by decide +kernel
theorem d_jdk_42_method_149_1 : decode jdk_42_method_149_code 1 = .ok (.invokespecial 1, 3) := by decide +kernel
theorem wd_11 {Z : State} {a0 : Array Value} (hw : HwT Z a0) : (Jvm.Cond.methodLink "java/lang/String" (1 : Nat) ({ cls := "java/lang/Object", name := "<init>", desc := "()V" } : Jvm.MethodName)).before a0 Z = true := hw _ (List.mem_of_getElem? (i := 11) rfl)
theorem wd_13 {Z : State} {a0 : Array Value} (hw : HwT Z a0) : (Jvm.Cond.code ({ cls := "java/lang/Object", name := "<init>", desc := "()V" } : Jvm.MethodName) object_method_1_code (1 : Nat) (Option.none : Option Jvm.ClassFile.FieldType)).before a0 Z = true := hw _ (List.mem_of_getElem? (i := 13) rfl)
theorem wd_12 {Z : State} {a0 : Array Value} (hw : HwT Z a0) : (Jvm.Cond.instanceMethod ({ cls := "java/lang/Object", name := "<init>", desc := "()V" } : Jvm.MethodName)).before a0 Z = true := hw _ (List.mem_of_getElem? (i := 12) rfl)
theorem d_jdk_42_method_149_4 : decode jdk_42_method_149_code 4 = .ok (.iload_n 3, 1) := by decide +kernel
theorem d_jdk_42_method_149_5 : decode jdk_42_method_149_code 5 = .ok (.ifCond .ne 22, 3) := by decide +kernel
theorem d_jdk_42_method_149_27 : decode jdk_42_method_149_code 27 = .ok (.getstatic 38, 3) := by decide +kernel
theorem wd_14 {Z : State} {a0 : Array Value} (hw : HwT Z a0) : (Jvm.Cond.fieldLink "java/lang/String" (38 : Nat) "java/lang/String" "COMPACT_STRINGS" "Z").before a0 Z = true := hw _ (List.mem_of_getElem? (i := 14) rfl)
theorem d_jdk_42_method_149_30 : decode jdk_42_method_149_code 30 = .ok (.ifCond .eq 28, 3) := by decide +kernel
theorem d_jdk_42_method_149_33 : decode jdk_42_method_149_code 33 = .ok (.aload_n 1, 1) := by decide +kernel
theorem d_jdk_42_method_149_34 : decode jdk_42_method_149_code 34 = .ok (.iload_n 2, 1) := by decide +kernel
theorem d_jdk_42_method_149_35 : decode jdk_42_method_149_code 35 = .ok (.iload_n 3, 1) := by decide +kernel
theorem d_jdk_42_method_149_36 : decode jdk_42_method_149_code 36 = .ok (.invokestatic 177, 3) := by decide +kernel
theorem wd_15 {Z : State} {a0 : Array Value} (hw : HwT Z a0) : (Jvm.Cond.methodLink "java/lang/String" (177 : Nat) ({ cls := "java/lang/StringUTF16", name := "compress", desc := "([CII)[B" } : Jvm.MethodName)).before a0 Z = true := hw _ (List.mem_of_getElem? (i := 15) rfl)
theorem wd_18 {Z : State} {a0 : Array Value} (hw : HwT Z a0) : (Jvm.Cond.code ({ cls := "java/lang/StringUTF16", name := "compress", desc := "([CII)[B" } : Jvm.MethodName) jdk_52_method_16_code (6 : Nat) (Option.some (Jvm.ClassFile.FieldType.array Jvm.ClassFile.FieldType.byte))).before a0 Z = true := hw _ (List.mem_of_getElem? (i := 18) rfl)
theorem pd_1 : parseMethodDescriptor "([CII)[B" = some ⟨[(.array .char), .int, .int], some (.array .byte)⟩ := by decide +kernel
theorem wd_16 {Z : State} {a0 : Array Value} (hw : HwT Z a0) : (Jvm.Cond.static ({ cls := "java/lang/StringUTF16", name := "compress", desc := "([CII)[B" } : Jvm.MethodName)).before a0 Z = true := hw _ (List.mem_of_getElem? (i := 16) rfl)
theorem d_jdk_42_method_149_39 : decode jdk_42_method_149_code 39 = .ok (.astore 5, 2) := by decide +kernel
theorem d_jdk_42_method_149_41 : decode jdk_42_method_149_code 41 = .ok (.aload_n 0, 1) := by decide +kernel
theorem d_jdk_42_method_149_42 : decode jdk_42_method_149_code 42 = .ok (.aload 5, 2) := by decide +kernel
theorem d_jdk_42_method_149_44 : decode jdk_42_method_149_code 44 = .ok (.iload_n 3, 1) := by decide +kernel
theorem d_jdk_42_method_149_45 : decode jdk_42_method_149_code 45 = .ok (.invokestatic 47, 3) := by decide +kernel
theorem wd_23 {Z : State} {a0 : Array Value} (hw : HwT Z a0) : (Jvm.Cond.methodLink "java/lang/String" (47 : Nat) ({ cls := "java/lang/StringUTF16", name := "coderFromArrayLen", desc := "([BI)B" } : Jvm.MethodName)).before a0 Z = true := hw _ (List.mem_of_getElem? (i := 23) rfl)
theorem wd_25 {Z : State} {a0 : Array Value} (hw : HwT Z a0) : (Jvm.Cond.code ({ cls := "java/lang/StringUTF16", name := "coderFromArrayLen", desc := "([BI)B" } : Jvm.MethodName) jdk_52_method_15_code (2 : Nat) (Option.some Jvm.ClassFile.FieldType.byte)).before a0 Z = true := hw _ (List.mem_of_getElem? (i := 25) rfl)
theorem pd_2 : parseMethodDescriptor "([BI)B" = some ⟨[(.array .byte), .int], some .byte⟩ := by decide +kernel
theorem wd_24 {Z : State} {a0 : Array Value} (hw : HwT Z a0) : (Jvm.Cond.static ({ cls := "java/lang/StringUTF16", name := "coderFromArrayLen", desc := "([BI)B" } : Jvm.MethodName)).before a0 Z = true := hw _ (List.mem_of_getElem? (i := 24) rfl)
theorem d_jdk_42_method_149_48 : decode jdk_42_method_149_code 48 = .ok (.putfield 15, 3) := by decide +kernel
theorem wd_26 {Z : State} {a0 : Array Value} (hw : HwT Z a0) : (Jvm.Cond.fieldLink "java/lang/String" (15 : Nat) "java/lang/String" "coder" "B").before a0 Z = true := hw _ (List.mem_of_getElem? (i := 26) rfl)
theorem d_jdk_42_method_149_51 : decode jdk_42_method_149_code 51 = .ok (.aload_n 0, 1) := by decide +kernel
theorem d_jdk_42_method_149_52 : decode jdk_42_method_149_code 52 = .ok (.aload 5, 2) := by decide +kernel
theorem d_jdk_42_method_149_54 : decode jdk_42_method_149_code 54 = .ok (.putfield 9, 3) := by decide +kernel
theorem wd_28 {Z : State} {a0 : Array Value} (hw : HwT Z a0) : (Jvm.Cond.fieldLink "java/lang/String" (9 : Nat) "java/lang/String" "value" "[B").before a0 Z = true := hw _ (List.mem_of_getElem? (i := 28) rfl)
theorem sne_0 {Z : State} {a0 : Array Value} (hw : HwT Z a0) : RoadKit.slotOf Z "java/lang/String" "value" "[B" ≠ RoadKit.slotOf Z "java/lang/String" "coder" "B" := slot_ne (C := "java/lang/String") (Or.inr (wd_29 hw)) (Or.inr (wd_27 hw)) (by decide) (t := (.array .byte)) (t' := .byte) (by decide) (by decide)
theorem d_jdk_42_method_149_57 : decode jdk_42_method_149_code 57 = .ok (.return_, 1) := by decide +kernel
theorem sne_1 {Z : State} {a0 : Array Value} (hw : HwT Z a0) : RoadKit.slotOf Z "java/lang/String" "coder" "B" ≠ RoadKit.slotOf Z "java/lang/String" "value" "[B" := slot_ne (C := "java/lang/String") (Or.inr (wd_27 hw)) (Or.inr (wd_29 hw)) (by decide) (t := .byte) (t' := (.array .byte)) (by decide) (by decide)
theorem pn_1 : plainName "java/lang/String" = true := by first | (simp [plainName, overriddenIn]; done) | decide +kernel
theorem d_jdk_42_method_3_0 : decode jdk_42_method_3_code 0 = .ok (.aload_n 0, 1) := by decide +kernel
theorem d_jdk_42_method_3_1 : decode jdk_42_method_3_code 1 = .ok (.aload_n 1, 1) := by decide +kernel
theorem d_jdk_42_method_3_2 : decode jdk_42_method_3_code 2 = .ok (.iconst 0, 1) := by decide +kernel
theorem d_jdk_42_method_3_3 : decode jdk_42_method_3_code 3 = .ok (.aload_n 1, 1) := by decide +kernel
theorem d_jdk_42_method_3_4 : decode jdk_42_method_3_code 4 = .ok (.arraylength, 1) := by decide +kernel
theorem d_jdk_42_method_3_5 : decode jdk_42_method_3_code 5 = .ok (.aconst_null, 1) := by decide +kernel
theorem d_jdk_42_method_3_6 : decode jdk_42_method_3_code 6 = .ok (.invokespecial 27, 3) := by decide +kernel
theorem wd_7 {Z : State} {a0 : Array Value} (hw : HwT Z a0) : (Jvm.Cond.methodLink "java/lang/String" (27 : Nat) ({ cls := "java/lang/String", name := "<init>", desc := "([CIILjava/lang/Void;)V" } : Jvm.MethodName)).before a0 Z = true := hw _ (List.mem_of_getElem? (i := 7) rfl)
theorem wd_10 {Z : State} {a0 : Array Value} (hw : HwT Z a0) : (Jvm.Cond.code ({ cls := "java/lang/String", name := "<init>", desc := "([CIILjava/lang/Void;)V" } : Jvm.MethodName) jdk_42_method_149_code (6 : Nat) (Option.none : Option Jvm.ClassFile.FieldType)).before a0 Z = true := hw _ (List.mem_of_getElem? (i := 10) rfl)
theorem pd_3 : parseMethodDescriptor "([CIILjava/lang/Void;)V" = some ⟨[(.array .char), .int, .int, (.object "java/lang/Void")], none⟩ := by decide +kernel
theorem wd_8 {Z : State} {a0 : Array Value} (hw : HwT Z a0) : (Jvm.Cond.instanceMethod ({ cls := "java/lang/String", name := "<init>", desc := "([CIILjava/lang/Void;)V" } : Jvm.MethodName)).before a0 Z = true := hw _ (List.mem_of_getElem? (i := 8) rfl)
theorem d_jdk_42_method_3_9 : decode jdk_42_method_3_code 9 = .ok (.return_, 1) := by decide +kernel
theorem d_jdk_42_method_66_0 : decode jdk_42_method_66_code 0 = .ok (.aload_n 0, 1) := by decide +kernel
theorem d_jdk_42_method_66_1 : decode jdk_42_method_66_code 1 = .ok (.aload_n 1, 1) := by decide +kernel
theorem d_jdk_42_method_66_2 : decode jdk_42_method_66_code 2 = .ok (.if_acmp .ne 5, 3) := by decide +kernel
theorem d_jdk_42_method_66_5 : decode jdk_42_method_66_code 5 = .ok (.iconst 1, 1) := by decide +kernel
theorem d_jdk_42_method_66_6 : decode jdk_42_method_66_code 6 = .ok (.ireturn, 1) := by decide +kernel
theorem d_jdk_41_method_12_0 : decode jdk_41_method_12_code 0 = .ok (.iload_n 0, 1) := by decide +kernel
theorem d_jdk_41_method_12_1 : decode jdk_41_method_12_code 1 = .ok (.ifCond .lt 13, 3) := by decide +kernel
theorem d_jdk_41_method_12_4 : decode jdk_41_method_12_code 4 = .ok (.iload_n 0, 1) := by decide +kernel
theorem d_jdk_41_method_12_5 : decode jdk_41_method_12_code 5 = .ok (.iload_n 1, 1) := by decide +kernel
theorem d_jdk_41_method_12_6 : decode jdk_41_method_12_code 6 = .ok (.if_icmp .gt 8, 3) := by decide +kernel
theorem d_jdk_41_method_12_9 : decode jdk_41_method_12_code 9 = .ok (.iload_n 1, 1) := by decide +kernel
theorem d_jdk_41_method_12_10 : decode jdk_41_method_12_code 10 = .ok (.iload_n 2, 1) := by decide +kernel
theorem d_jdk_41_method_12_11 : decode jdk_41_method_12_code 11 = .ok (.if_icmp .le 11, 3) := by decide +kernel
theorem d_jdk_41_method_12_22 : decode jdk_41_method_12_code 22 = .ok (.iload_n 0, 1) := by decide +kernel
theorem d_jdk_41_method_12_23 : decode jdk_41_method_12_code 23 = .ok (.ireturn, 1) := by decide +kernel
theorem pn_2 : plainName "jdk/internal/util/Preconditions" = true := by first | (simp [plainName, overriddenIn]; done) | decide +kernel
theorem d_jdk_42_method_158_0 : decode jdk_42_method_158_code 0 = .ok (.iload_n 0, 1) := by decide +kernel
theorem d_jdk_42_method_158_1 : decode jdk_42_method_158_code 1 = .ok (.iload_n 1, 1) := by decide +kernel
theorem d_jdk_42_method_158_2 : decode jdk_42_method_158_code 2 = .ok (.iload_n 2, 1) := by decide +kernel
theorem d_jdk_42_method_158_3 : decode jdk_42_method_158_code 3 = .ok (.getstatic 1053, 3) := by decide +kernel
theorem wd_117 {Z : State} {a0 : Array Value} (hw : HwT Z a0) : (Jvm.Cond.fieldLink "java/lang/String" (1053 : Nat) "jdk/internal/util/Preconditions" "SIOOBE_FORMATTER" "Ljava/util/function/BiFunction;").before a0 Z = true := hw _ (List.mem_of_getElem? (i := 117) rfl)
theorem d_jdk_42_method_158_6 : decode jdk_42_method_158_code 6 = .ok (.invokestatic 1062, 3) := by decide +kernel
theorem wd_119 {Z : State} {a0 : Array Value} (hw : HwT Z a0) : (Jvm.Cond.methodLink "java/lang/String" (1062 : Nat) ({ cls := "jdk/internal/util/Preconditions", name := "checkFromToIndex", desc := "(IIILjava/util/function/BiFunction;)I" } : Jvm.MethodName)).before a0 Z = true := hw _ (List.mem_of_getElem? (i := 119) rfl)
theorem wd_121 {Z : State} {a0 : Array Value} (hw : HwT Z a0) : (Jvm.Cond.code ({ cls := "jdk/internal/util/Preconditions", name := "checkFromToIndex", desc := "(IIILjava/util/function/BiFunction;)I" } : Jvm.MethodName) jdk_41_method_12_code (4 : Nat) (Option.some Jvm.ClassFile.FieldType.int)).before a0 Z = true := hw _ (List.mem_of_getElem? (i := 121) rfl)
theorem pd_4 : parseMethodDescriptor "(IIILjava/util/function/BiFunction;)I" = some ⟨[.int, .int, .int, (.object "java/util/function/BiFunction")], some .int⟩ := by decide +kernel
theorem wd_120 {Z : State} {a0 : Array Value} (hw : HwT Z a0) : (Jvm.Cond.static ({ cls := "jdk/internal/util/Preconditions", name := "checkFromToIndex", desc := "(IIILjava/util/function/BiFunction;)I" } : Jvm.MethodName)).before a0 Z = true := hw _ (List.mem_of_getElem? (i := 120) rfl)
theorem wd_118 {Z : State} {a0 : Array Value} (hw : HwT Z a0) : (Jvm.Cond.initialized "jdk/internal/util/Preconditions").before a0 Z = true := hw _ (List.mem_of_getElem? (i := 118) rfl)
theorem d_jdk_42_method_158_9 : decode jdk_42_method_158_code 9 = .ok (.pop, 1) := by decide +kernel
theorem d_jdk_42_method_158_10 : decode jdk_42_method_158_code 10 = .ok (.return_, 1) := by decide +kernel
theorem d_jdk_42_method_152_0 : decode jdk_42_method_152_code 0 = .ok (.getstatic 38, 3) := by decide +kernel
theorem d_jdk_42_method_152_3 : decode jdk_42_method_152_code 3 = .ok (.ifCond .eq 10, 3) := by decide +kernel
theorem d_jdk_42_method_152_6 : decode jdk_42_method_152_code 6 = .ok (.aload_n 0, 1) := by decide +kernel
theorem d_jdk_42_method_152_7 : decode jdk_42_method_152_code 7 = .ok (.getfield 15, 3) := by decide +kernel
theorem d_jdk_42_method_152_10 : decode jdk_42_method_152_code 10 = .ok (.goto 4, 3) := by decide +kernel
theorem d_jdk_42_method_152_14 : decode jdk_42_method_152_code 14 = .ok (.ireturn, 1) := by decide +kernel
theorem d_jdk_42_method_154_0 : decode jdk_42_method_154_code 0 = .ok (.getstatic 38, 3) := by decide +kernel
theorem d_jdk_42_method_154_3 : decode jdk_42_method_154_code 3 = .ok (.ifCond .eq 14, 3) := by decide +kernel
theorem d_jdk_42_method_154_6 : decode jdk_42_method_154_code 6 = .ok (.aload_n 0, 1) := by decide +kernel
theorem d_jdk_42_method_154_7 : decode jdk_42_method_154_code 7 = .ok (.getfield 15, 3) := by decide +kernel
theorem d_jdk_42_method_154_10 : decode jdk_42_method_154_code 10 = .ok (.ifCond .ne 7, 3) := by decide +kernel
theorem d_jdk_42_method_154_13 : decode jdk_42_method_154_code 13 = .ok (.iconst 1, 1) := by decide +kernel
theorem d_jdk_42_method_154_14 : decode jdk_42_method_154_code 14 = .ok (.goto 4, 3) := by decide +kernel
theorem d_jdk_42_method_154_18 : decode jdk_42_method_154_code 18 = .ok (.ireturn, 1) := by decide +kernel
theorem d_jdk_42_method_54_0 : decode jdk_42_method_54_code 0 = .ok (.aload_n 0, 1) := by decide +kernel
theorem d_jdk_42_method_54_1 : decode jdk_42_method_54_code 1 = .ok (.getfield 9, 3) := by decide +kernel
theorem d_jdk_42_method_54_4 : decode jdk_42_method_54_code 4 = .ok (.arraylength, 1) := by decide +kernel
theorem d_jdk_42_method_54_5 : decode jdk_42_method_54_code 5 = .ok (.aload_n 0, 1) := by decide +kernel
theorem d_jdk_42_method_54_6 : decode jdk_42_method_54_code 6 = .ok (.invokevirtual 335, 3) := by decide +kernel
theorem wd_109 {Z : State} {a0 : Array Value} (hw : HwT Z a0) : (Jvm.Cond.methodLink "java/lang/String" (335 : Nat) ({ cls := "java/lang/String", name := "coder", desc := "()B" } : Jvm.MethodName)).before a0 Z = true := hw _ (List.mem_of_getElem? (i := 109) rfl)
theorem wd_112 {Z : State} {a0 : Array Value} (hw : HwT Z a0) : (Jvm.Cond.selects "java/lang/String" ({ cls := "java/lang/String", name := "coder", desc := "()B" } : Jvm.MethodName) ({ cls := "java/lang/String", name := "coder", desc := "()B" } : Jvm.MethodName)).before a0 Z = true := hw _ (List.mem_of_getElem? (i := 112) rfl)
theorem wd_113 {Z : State} {a0 : Array Value} (hw : HwT Z a0) : (Jvm.Cond.code ({ cls := "java/lang/String", name := "coder", desc := "()B" } : Jvm.MethodName) jdk_42_method_152_code (1 : Nat) (Option.some Jvm.ClassFile.FieldType.byte)).before a0 Z = true := hw _ (List.mem_of_getElem? (i := 113) rfl)
theorem pd_5 : parseMethodDescriptor "()B" = some ⟨[], some .byte⟩ := by decide +kernel
theorem wd_110 {Z : State} {a0 : Array Value} (hw : HwT Z a0) : (Jvm.Cond.declares ({ cls := "java/lang/String", name := "coder", desc := "()B" } : Jvm.MethodName)).before a0 Z = true := hw _ (List.mem_of_getElem? (i := 110) rfl)
theorem wd_111 {Z : State} {a0 : Array Value} (hw : HwT Z a0) : (Jvm.Cond.instanceMethod ({ cls := "java/lang/String", name := "coder", desc := "()B" } : Jvm.MethodName)).before a0 Z = true := hw _ (List.mem_of_getElem? (i := 111) rfl)
theorem d_jdk_42_method_54_9 : decode jdk_42_method_54_code 9 = .ok (.ishr, 1) := by decide +kernel
theorem d_jdk_42_method_54_10 : decode jdk_42_method_54_code 10 = .ok (.ireturn, 1) := by decide +kernel
theorem d_jdk_41_method_11_0 : decode jdk_41_method_11_code 0 = .ok (.iload_n 0, 1) := by decide +kernel
theorem d_jdk_41_method_11_1 : decode jdk_41_method_11_code 1 = .ok (.ifCond .lt 8, 3) := by decide +kernel
theorem d_jdk_41_method_11_4 : decode jdk_41_method_11_code 4 = .ok (.iload_n 0, 1) := by decide +kernel
theorem d_jdk_41_method_11_5 : decode jdk_41_method_11_code 5 = .ok (.iload_n 1, 1) := by decide +kernel
theorem d_jdk_41_method_11_6 : decode jdk_41_method_11_code 6 = .ok (.if_icmp .lt 10, 3) := by decide +kernel
theorem d_jdk_41_method_11_16 : decode jdk_41_method_11_code 16 = .ok (.iload_n 0, 1) := by decide +kernel
theorem d_jdk_41_method_11_17 : decode jdk_41_method_11_code 17 = .ok (.ireturn, 1) := by decide +kernel
theorem d_jdk_42_method_155_0 : decode jdk_42_method_155_code 0 = .ok (.iload_n 0, 1) := by decide +kernel
theorem d_jdk_42_method_155_1 : decode jdk_42_method_155_code 1 = .ok (.iload_n 1, 1) := by decide +kernel
theorem d_jdk_42_method_155_2 : decode jdk_42_method_155_code 2 = .ok (.getstatic 1053, 3) := by decide +kernel
theorem d_jdk_42_method_155_5 : decode jdk_42_method_155_code 5 = .ok (.invokestatic 1059, 3) := by decide +kernel
theorem wd_183 {Z : State} {a0 : Array Value} (hw : HwT Z a0) : (Jvm.Cond.methodLink "java/lang/String" (1059 : Nat) ({ cls := "jdk/internal/util/Preconditions", name := "checkIndex", desc := "(IILjava/util/function/BiFunction;)I" } : Jvm.MethodName)).before a0 Z = true := hw _ (List.mem_of_getElem? (i := 183) rfl)
theorem wd_185 {Z : State} {a0 : Array Value} (hw : HwT Z a0) : (Jvm.Cond.code ({ cls := "jdk/internal/util/Preconditions", name := "checkIndex", desc := "(IILjava/util/function/BiFunction;)I" } : Jvm.MethodName) jdk_41_method_11_code (3 : Nat) (Option.some Jvm.ClassFile.FieldType.int)).before a0 Z = true := hw _ (List.mem_of_getElem? (i := 185) rfl)
theorem pd_6 : parseMethodDescriptor "(IILjava/util/function/BiFunction;)I" = some ⟨[.int, .int, (.object "java/util/function/BiFunction")], some .int⟩ := by decide +kernel
theorem wd_184 {Z : State} {a0 : Array Value} (hw : HwT Z a0) : (Jvm.Cond.static ({ cls := "jdk/internal/util/Preconditions", name := "checkIndex", desc := "(IILjava/util/function/BiFunction;)I" } : Jvm.MethodName)).before a0 Z = true := hw _ (List.mem_of_getElem? (i := 184) rfl)
theorem d_jdk_42_method_155_8 : decode jdk_42_method_155_code 8 = .ok (.pop, 1) := by decide +kernel
theorem d_jdk_42_method_155_9 : decode jdk_42_method_155_code 9 = .ok (.return_, 1) := by decide +kernel
theorem d_jdk_43_method_2_0 : decode jdk_43_method_2_code 0 = .ok (.iload_n 1, 1) := by decide +kernel
theorem d_jdk_43_method_2_1 : decode jdk_43_method_2_code 1 = .ok (.aload_n 0, 1) := by decide +kernel
theorem d_jdk_43_method_2_2 : decode jdk_43_method_2_code 2 = .ok (.arraylength, 1) := by decide +kernel
theorem d_jdk_43_method_2_3 : decode jdk_43_method_2_code 3 = .ok (.invokestatic 9, 3) := by decide +kernel
theorem wd_180 {Z : State} {a0 : Array Value} (hw : HwT Z a0) : (Jvm.Cond.methodLink "java/lang/StringLatin1" (9 : Nat) ({ cls := "java/lang/String", name := "checkIndex", desc := "(II)V" } : Jvm.MethodName)).before a0 Z = true := hw _ (List.mem_of_getElem? (i := 180) rfl)
theorem wd_182 {Z : State} {a0 : Array Value} (hw : HwT Z a0) : (Jvm.Cond.code ({ cls := "java/lang/String", name := "checkIndex", desc := "(II)V" } : Jvm.MethodName) jdk_42_method_155_code (2 : Nat) (Option.none : Option Jvm.ClassFile.FieldType)).before a0 Z = true := hw _ (List.mem_of_getElem? (i := 182) rfl)
theorem pd_7 : parseMethodDescriptor "(II)V" = some ⟨[.int, .int], none⟩ := by decide +kernel
theorem wd_181 {Z : State} {a0 : Array Value} (hw : HwT Z a0) : (Jvm.Cond.static ({ cls := "java/lang/String", name := "checkIndex", desc := "(II)V" } : Jvm.MethodName)).before a0 Z = true := hw _ (List.mem_of_getElem? (i := 181) rfl)
theorem d_jdk_43_method_2_6 : decode jdk_43_method_2_code 6 = .ok (.aload_n 0, 1) := by decide +kernel
theorem d_jdk_43_method_2_7 : decode jdk_43_method_2_code 7 = .ok (.iload_n 1, 1) := by decide +kernel
theorem d_jdk_43_method_2_8 : decode jdk_43_method_2_code 8 = .ok (.baload, 1) := by decide +kernel
theorem d_jdk_43_method_2_9 : decode jdk_43_method_2_code 9 = .ok (.sipush 255, 3) := by decide +kernel
theorem d_jdk_43_method_2_12 : decode jdk_43_method_2_code 12 = .ok (.iand, 1) := by decide +kernel
theorem d_jdk_43_method_2_13 : decode jdk_43_method_2_code 13 = .ok (.i2c, 1) := by decide +kernel
theorem d_jdk_43_method_2_14 : decode jdk_43_method_2_code 14 = .ok (.ireturn, 1) := by decide +kernel
theorem pn_3 : plainName "java/lang/StringLatin1" = true := by first | (simp [plainName, overriddenIn]; done) | decide +kernel
theorem d_jdk_42_method_56_0 : decode jdk_42_method_56_code 0 = .ok (.aload_n 0, 1) := by decide +kernel
theorem d_jdk_42_method_56_1 : decode jdk_42_method_56_code 1 = .ok (.invokevirtual 492, 3) := by decide +kernel
theorem wd_122 {Z : State} {a0 : Array Value} (hw : HwT Z a0) : (Jvm.Cond.methodLink "java/lang/String" (492 : Nat) ({ cls := "java/lang/String", name := "isLatin1", desc := "()Z" } : Jvm.MethodName)).before a0 Z = true := hw _ (List.mem_of_getElem? (i := 122) rfl)
theorem wd_125 {Z : State} {a0 : Array Value} (hw : HwT Z a0) : (Jvm.Cond.selects "java/lang/String" ({ cls := "java/lang/String", name := "isLatin1", desc := "()Z" } : Jvm.MethodName) ({ cls := "java/lang/String", name := "isLatin1", desc := "()Z" } : Jvm.MethodName)).before a0 Z = true := hw _ (List.mem_of_getElem? (i := 125) rfl)
theorem wd_126 {Z : State} {a0 : Array Value} (hw : HwT Z a0) : (Jvm.Cond.code ({ cls := "java/lang/String", name := "isLatin1", desc := "()Z" } : Jvm.MethodName) jdk_42_method_154_code (1 : Nat) (Option.some Jvm.ClassFile.FieldType.boolean)).before a0 Z = true := hw _ (List.mem_of_getElem? (i := 126) rfl)
theorem pd_8 : parseMethodDescriptor "()Z" = some ⟨[], some .boolean⟩ := by decide +kernel
theorem wd_123 {Z : State} {a0 : Array Value} (hw : HwT Z a0) : (Jvm.Cond.declares ({ cls := "java/lang/String", name := "isLatin1", desc := "()Z" } : Jvm.MethodName)).before a0 Z = true := hw _ (List.mem_of_getElem? (i := 123) rfl)
theorem wd_124 {Z : State} {a0 : Array Value} (hw : HwT Z a0) : (Jvm.Cond.instanceMethod ({ cls := "java/lang/String", name := "isLatin1", desc := "()Z" } : Jvm.MethodName)).before a0 Z = true := hw _ (List.mem_of_getElem? (i := 124) rfl)
theorem d_jdk_42_method_56_4 : decode jdk_42_method_56_code 4 = .ok (.ifCond .eq 12, 3) := by decide +kernel
theorem d_jdk_42_method_56_7 : decode jdk_42_method_56_code 7 = .ok (.aload_n 0, 1) := by decide +kernel
theorem d_jdk_42_method_56_8 : decode jdk_42_method_56_code 8 = .ok (.getfield 9, 3) := by decide +kernel
theorem d_jdk_42_method_56_11 : decode jdk_42_method_56_code 11 = .ok (.iload_n 1, 1) := by decide +kernel
theorem d_jdk_42_method_56_12 : decode jdk_42_method_56_code 12 = .ok (.invokestatic 495, 3) := by decide +kernel
theorem wd_177 {Z : State} {a0 : Array Value} (hw : HwT Z a0) : (Jvm.Cond.methodLink "java/lang/String" (495 : Nat) ({ cls := "java/lang/StringLatin1", name := "charAt", desc := "([BI)C" } : Jvm.MethodName)).before a0 Z = true := hw _ (List.mem_of_getElem? (i := 177) rfl)
theorem wd_179 {Z : State} {a0 : Array Value} (hw : HwT Z a0) : (Jvm.Cond.code ({ cls := "java/lang/StringLatin1", name := "charAt", desc := "([BI)C" } : Jvm.MethodName) jdk_43_method_2_code (2 : Nat) (Option.some Jvm.ClassFile.FieldType.char)).before a0 Z = true := hw _ (List.mem_of_getElem? (i := 179) rfl)
theorem pd_9 : parseMethodDescriptor "([BI)C" = some ⟨[(.array .byte), .int], some .char⟩ := by decide +kernel
theorem wd_178 {Z : State} {a0 : Array Value} (hw : HwT Z a0) : (Jvm.Cond.static ({ cls := "java/lang/StringLatin1", name := "charAt", desc := "([BI)C" } : Jvm.MethodName)).before a0 Z = true := hw _ (List.mem_of_getElem? (i := 178) rfl)
theorem wd_35 {Z : State} {a0 : Array Value} (hw : HwT Z a0) : (Jvm.Cond.initialized "java/lang/StringLatin1").before a0 Z = true := hw _ (List.mem_of_getElem? (i := 35) rfl)
theorem d_jdk_42_method_56_15 : decode jdk_42_method_56_code 15 = .ok (.ireturn, 1) := by decide +kernel
theorem d_jdk_29_method_69_0 : decode jdk_29_method_69_code 0 = .ok (.iload_n 0, 1) := by decide +kernel
theorem d_jdk_29_method_69_1 : decode jdk_29_method_69_code 1 = .ok (.iload_n 1, 1) := by decide +kernel
theorem d_jdk_29_method_69_2 : decode jdk_29_method_69_code 2 = .ok (.if_icmp .gt 7, 3) := by decide +kernel
theorem d_jdk_29_method_69_9 : decode jdk_29_method_69_code 9 = .ok (.iload_n 1, 1) := by decide +kernel
theorem d_jdk_29_method_69_10 : decode jdk_29_method_69_code 10 = .ok (.ireturn, 1) := by decide +kernel
theorem d_jdk_29_method_69_5 : decode jdk_29_method_69_code 5 = .ok (.iload_n 0, 1) := by decide +kernel
theorem d_jdk_29_method_69_6 : decode jdk_29_method_69_code 6 = .ok (.goto 4, 3) := by decide +kernel
theorem d_jdk_65_method_131_0 : decode jdk_65_method_131_code 0 = .ok (.iload_n 1, 1) := by decide +kernel
theorem d_jdk_65_method_131_1 : decode jdk_65_method_131_code 1 = .ok (.iload_n 0, 1) := by decide +kernel
theorem d_jdk_65_method_131_2 : decode jdk_65_method_131_code 2 = .ok (.if_icmp .ge 35, 3) := by decide +kernel
theorem d_jdk_65_method_131_37 : decode jdk_65_method_131_code 37 = .ok (.return_, 1) := by decide +kernel
theorem pn_4 : plainName "java/util/Arrays" = true := by first | (simp [plainName, overriddenIn]; done) | decide +kernel
theorem d_jdk_65_method_133_0 : decode jdk_65_method_133_code 0 = .ok (.iload_n 1, 1) := by decide +kernel
theorem d_jdk_65_method_133_1 : decode jdk_65_method_133_code 1 = .ok (.iload_n 2, 1) := by decide +kernel
theorem d_jdk_65_method_133_2 : decode jdk_65_method_133_code 2 = .ok (.invokestatic 343, 3) := by decide +kernel
theorem wd_194 {Z : State} {a0 : Array Value} (hw : HwT Z a0) : (Jvm.Cond.methodLink "java/util/Arrays" (343 : Nat) ({ cls := "java/util/Arrays", name := "checkLength", desc := "(II)V" } : Jvm.MethodName)).before a0 Z = true := hw _ (List.mem_of_getElem? (i := 194) rfl)
theorem wd_196 {Z : State} {a0 : Array Value} (hw : HwT Z a0) : (Jvm.Cond.code ({ cls := "java/util/Arrays", name := "checkLength", desc := "(II)V" } : Jvm.MethodName) jdk_65_method_131_code (2 : Nat) (Option.none : Option Jvm.ClassFile.FieldType)).before a0 Z = true := hw _ (List.mem_of_getElem? (i := 196) rfl)
theorem wd_195 {Z : State} {a0 : Array Value} (hw : HwT Z a0) : (Jvm.Cond.static ({ cls := "java/util/Arrays", name := "checkLength", desc := "(II)V" } : Jvm.MethodName)).before a0 Z = true := hw _ (List.mem_of_getElem? (i := 195) rfl)
theorem wd_189 {Z : State} {a0 : Array Value} (hw : HwT Z a0) : (Jvm.Cond.initialized "java/util/Arrays").before a0 Z = true := hw _ (List.mem_of_getElem? (i := 189) rfl)
theorem d_jdk_65_method_133_5 : decode jdk_65_method_133_code 5 = .ok (.iload_n 2, 1) := by decide +kernel
theorem d_jdk_65_method_133_6 : decode jdk_65_method_133_code 6 = .ok (.iload_n 1, 1) := by decide +kernel
theorem d_jdk_65_method_133_7 : decode jdk_65_method_133_code 7 = .ok (.isub, 1) := by decide +kernel
theorem d_jdk_65_method_133_8 : decode jdk_65_method_133_code 8 = .ok (.istore_n 3, 1) := by decide +kernel
theorem d_jdk_65_method_133_9 : decode jdk_65_method_133_code 9 = .ok (.iload_n 3, 1) := by decide +kernel
theorem d_jdk_65_method_133_10 : decode jdk_65_method_133_code 10 = .ok (.newarray .byte, 2) := by decide +kernel
theorem d_jdk_65_method_133_12 : decode jdk_65_method_133_code 12 = .ok (.astore 4, 2) := by decide +kernel
theorem d_jdk_65_method_133_14 : decode jdk_65_method_133_code 14 = .ok (.aload_n 0, 1) := by decide +kernel
theorem d_jdk_65_method_133_15 : decode jdk_65_method_133_code 15 = .ok (.iload_n 1, 1) := by decide +kernel
theorem d_jdk_65_method_133_16 : decode jdk_65_method_133_code 16 = .ok (.aload 4, 2) := by decide +kernel
theorem d_jdk_65_method_133_18 : decode jdk_65_method_133_code 18 = .ok (.iconst 0, 1) := by decide +kernel
theorem d_jdk_65_method_133_19 : decode jdk_65_method_133_code 19 = .ok (.aload_n 0, 1) := by decide +kernel
theorem d_jdk_65_method_133_20 : decode jdk_65_method_133_code 20 = .ok (.arraylength, 1) := by decide +kernel
theorem d_jdk_65_method_133_21 : decode jdk_65_method_133_code 21 = .ok (.iload_n 1, 1) := by decide +kernel
theorem d_jdk_65_method_133_22 : decode jdk_65_method_133_code 22 = .ok (.isub, 1) := by decide +kernel
theorem d_jdk_65_method_133_23 : decode jdk_65_method_133_code 23 = .ok (.iload_n 3, 1) := by decide +kernel
theorem d_jdk_65_method_133_24 : decode jdk_65_method_133_code 24 = .ok (.invokestatic 304, 3) := by decide +kernel
theorem wd_197 {Z : State} {a0 : Array Value} (hw : HwT Z a0) : (Jvm.Cond.methodLink "java/util/Arrays" (304 : Nat) ({ cls := "java/lang/Math", name := "min", desc := "(II)I" } : Jvm.MethodName)).before a0 Z = true := hw _ (List.mem_of_getElem? (i := 197) rfl)
theorem wd_200 {Z : State} {a0 : Array Value} (hw : HwT Z a0) : (Jvm.Cond.code ({ cls := "java/lang/Math", name := "min", desc := "(II)I" } : Jvm.MethodName) jdk_29_method_69_code (2 : Nat) (Option.some Jvm.ClassFile.FieldType.int)).before a0 Z = true := hw _ (List.mem_of_getElem? (i := 200) rfl)
theorem pd_10 : parseMethodDescriptor "(II)I" = some ⟨[.int, .int], some .int⟩ := by decide +kernel
theorem wd_198 {Z : State} {a0 : Array Value} (hw : HwT Z a0) : (Jvm.Cond.static ({ cls := "java/lang/Math", name := "min", desc := "(II)I" } : Jvm.MethodName)).before a0 Z = true := hw _ (List.mem_of_getElem? (i := 198) rfl)
theorem wd_199 {Z : State} {a0 : Array Value} (hw : HwT Z a0) : (Jvm.Cond.initialized "java/lang/Math").before a0 Z = true := hw _ (List.mem_of_getElem? (i := 199) rfl)
theorem d_jdk_65_method_133_27 : decode jdk_65_method_133_code 27 = .ok (.invokestatic 150, 3) := by decide +kernel
theorem wd_201 {Z : State} {a0 : Array Value} (hw : HwT Z a0) : (Jvm.Cond.methodLink "java/util/Arrays" (150 : Nat) ({ cls := "java/lang/System", name := "arraycopy", desc := "(Ljava/lang/Object;ILjava/lang/Object;II)V" } : Jvm.MethodName)).before a0 Z = true := hw _ (List.mem_of_getElem? (i := 201) rfl)
theorem wd_204 {Z : State} {a0 : Array Value} (hw : HwT Z a0) : (Jvm.Cond.native ({ cls := "java/lang/System", name := "arraycopy", desc := "(Ljava/lang/Object;ILjava/lang/Object;II)V" } : Jvm.MethodName)).before a0 Z = true := hw _ (List.mem_of_getElem? (i := 204) rfl)
theorem wd_202 {Z : State} {a0 : Array Value} (hw : HwT Z a0) : (Jvm.Cond.static ({ cls := "java/lang/System", name := "arraycopy", desc := "(Ljava/lang/Object;ILjava/lang/Object;II)V" } : Jvm.MethodName)).before a0 Z = true := hw _ (List.mem_of_getElem? (i := 202) rfl)
theorem wd_203 {Z : State} {a0 : Array Value} (hw : HwT Z a0) : (Jvm.Cond.initialized "java/lang/System").before a0 Z = true := hw _ (List.mem_of_getElem? (i := 203) rfl)
theorem d_jdk_65_method_133_30 : decode jdk_65_method_133_code 30 = .ok (.aload 4, 2) := by decide +kernel
theorem d_jdk_65_method_133_32 : decode jdk_65_method_133_code 32 = .ok (.areturn, 1) := by decide +kernel
theorem d_jdk_65_method_132_0 : decode jdk_65_method_132_code 0 = .ok (.iload_n 1, 1) := by decide +kernel
theorem d_jdk_65_method_132_1 : decode jdk_65_method_132_code 1 = .ok (.ifCond .ne 9, 3) := by decide +kernel
theorem d_jdk_65_method_132_10 : decode jdk_65_method_132_code 10 = .ok (.aload_n 0, 1) := by decide +kernel
theorem d_jdk_65_method_132_11 : decode jdk_65_method_132_code 11 = .ok (.iload_n 1, 1) := by decide +kernel
theorem d_jdk_65_method_132_12 : decode jdk_65_method_132_code 12 = .ok (.iload_n 2, 1) := by decide +kernel
theorem d_jdk_65_method_132_13 : decode jdk_65_method_132_code 13 = .ok (.invokestatic 339, 3) := by decide +kernel
theorem wd_191 {Z : State} {a0 : Array Value} (hw : HwT Z a0) : (Jvm.Cond.methodLink "java/util/Arrays" (339 : Nat) ({ cls := "java/util/Arrays", name := "copyOfRangeByte", desc := "([BII)[B" } : Jvm.MethodName)).before a0 Z = true := hw _ (List.mem_of_getElem? (i := 191) rfl)
theorem wd_193 {Z : State} {a0 : Array Value} (hw : HwT Z a0) : (Jvm.Cond.code ({ cls := "java/util/Arrays", name := "copyOfRangeByte", desc := "([BII)[B" } : Jvm.MethodName) jdk_65_method_133_code (5 : Nat) (Option.some (Jvm.ClassFile.FieldType.array Jvm.ClassFile.FieldType.byte))).before a0 Z = true := hw _ (List.mem_of_getElem? (i := 193) rfl)
theorem pd_11 : parseMethodDescriptor "([BII)[B" = some ⟨[(.array .byte), .int, .int], some (.array .byte)⟩ := by decide +kernel
theorem wd_192 {Z : State} {a0 : Array Value} (hw : HwT Z a0) : (Jvm.Cond.static ({ cls := "java/util/Arrays", name := "copyOfRangeByte", desc := "([BII)[B" } : Jvm.MethodName)).before a0 Z = true := hw _ (List.mem_of_getElem? (i := 192) rfl)
theorem d_jdk_65_method_132_16 : decode jdk_65_method_132_code 16 = .ok (.areturn, 1) := by decide +kernel
theorem d_jdk_65_method_132_4 : decode jdk_65_method_132_code 4 = .ok (.iload_n 2, 1) := by decide +kernel
theorem d_jdk_65_method_132_5 : decode jdk_65_method_132_code 5 = .ok (.aload_n 0, 1) := by decide +kernel
theorem d_jdk_65_method_132_6 : decode jdk_65_method_132_code 6 = .ok (.arraylength, 1) := by decide +kernel
theorem d_jdk_65_method_132_7 : decode jdk_65_method_132_code 7 = .ok (.if_icmp .eq 10, 3) := by decide +kernel
theorem d_jdk_43_method_3_0 : decode jdk_43_method_3_code 0 = .ok (.iload_n 0, 1) := by decide +kernel
theorem d_jdk_43_method_3_1 : decode jdk_43_method_3_code 1 = .ok (.sipush 255, 3) := by decide +kernel
theorem d_jdk_43_method_3_4 : decode jdk_43_method_3_code 4 = .ok (.if_icmp .gt 7, 3) := by decide +kernel
theorem d_jdk_43_method_3_7 : decode jdk_43_method_3_code 7 = .ok (.iconst 1, 1) := by decide +kernel
theorem d_jdk_43_method_3_8 : decode jdk_43_method_3_code 8 = .ok (.goto 4, 3) := by decide +kernel
theorem d_jdk_43_method_3_12 : decode jdk_43_method_3_code 12 = .ok (.ireturn, 1) := by decide +kernel
theorem d_jdk_43_method_46_0 : decode jdk_43_method_46_code 0 = .ok (.iconst 1, 1) := by decide +kernel
theorem d_jdk_43_method_46_1 : decode jdk_43_method_46_code 1 = .ok (.newarray .byte, 2) := by decide +kernel
theorem d_jdk_43_method_46_3 : decode jdk_43_method_46_code 3 = .ok (.dup, 1) := by decide +kernel
theorem d_jdk_43_method_46_4 : decode jdk_43_method_46_code 4 = .ok (.iconst 0, 1) := by decide +kernel
theorem d_jdk_43_method_46_5 : decode jdk_43_method_46_code 5 = .ok (.iload_n 0, 1) := by decide +kernel
theorem d_jdk_43_method_46_6 : decode jdk_43_method_46_code 6 = .ok (.i2b, 1) := by decide +kernel
theorem d_jdk_43_method_46_7 : decode jdk_43_method_46_code 7 = .ok (.bastore, 1) := by decide +kernel
theorem d_jdk_43_method_46_8 : decode jdk_43_method_46_code 8 = .ok (.areturn, 1) := by decide +kernel
theorem d_jdk_42_method_151_0 : decode jdk_42_method_151_code 0 = .ok (.aload_n 0, 1) := by decide +kernel
theorem d_jdk_42_method_151_1 : decode jdk_42_method_151_code 1 = .ok (.invokespecial 1, 3) := by decide +kernel
theorem d_jdk_42_method_151_4 : decode jdk_42_method_151_code 4 = .ok (.aload_n 0, 1) := by decide +kernel
theorem d_jdk_42_method_151_5 : decode jdk_42_method_151_code 5 = .ok (.aload_n 1, 1) := by decide +kernel
theorem d_jdk_42_method_151_6 : decode jdk_42_method_151_code 6 = .ok (.putfield 9, 3) := by decide +kernel
theorem d_jdk_42_method_151_9 : decode jdk_42_method_151_code 9 = .ok (.aload_n 0, 1) := by decide +kernel
theorem d_jdk_42_method_151_10 : decode jdk_42_method_151_code 10 = .ok (.iload_n 2, 1) := by decide +kernel
theorem d_jdk_42_method_151_11 : decode jdk_42_method_151_code 11 = .ok (.putfield 15, 3) := by decide +kernel
theorem d_jdk_42_method_151_14 : decode jdk_42_method_151_code 14 = .ok (.return_, 1) := by decide +kernel
theorem d_jdk_42_method_139_0 : decode jdk_42_method_139_code 0 = .ok (.getstatic 38, 3) := by decide +kernel
theorem d_jdk_42_method_139_3 : decode jdk_42_method_139_code 3 = .ok (.ifCond .eq 23, 3) := by decide +kernel
theorem d_jdk_42_method_139_6 : decode jdk_42_method_139_code 6 = .ok (.iload_n 0, 1) := by decide +kernel
theorem d_jdk_42_method_139_7 : decode jdk_42_method_139_code 7 = .ok (.invokestatic 1015, 3) := by decide +kernel
theorem wd_33 {Z : State} {a0 : Array Value} (hw : HwT Z a0) : (Jvm.Cond.methodLink "java/lang/String" (1015 : Nat) ({ cls := "java/lang/StringLatin1", name := "canEncode", desc := "(C)Z" } : Jvm.MethodName)).before a0 Z = true := hw _ (List.mem_of_getElem? (i := 33) rfl)
theorem wd_36 {Z : State} {a0 : Array Value} (hw : HwT Z a0) : (Jvm.Cond.code ({ cls := "java/lang/StringLatin1", name := "canEncode", desc := "(C)Z" } : Jvm.MethodName) jdk_43_method_3_code (1 : Nat) (Option.some Jvm.ClassFile.FieldType.boolean)).before a0 Z = true := hw _ (List.mem_of_getElem? (i := 36) rfl)
theorem pd_12 : parseMethodDescriptor "(C)Z" = some ⟨[.char], some .boolean⟩ := by decide +kernel
theorem wd_34 {Z : State} {a0 : Array Value} (hw : HwT Z a0) : (Jvm.Cond.static ({ cls := "java/lang/StringLatin1", name := "canEncode", desc := "(C)Z" } : Jvm.MethodName)).before a0 Z = true := hw _ (List.mem_of_getElem? (i := 34) rfl)
theorem d_jdk_42_method_139_10 : decode jdk_42_method_139_code 10 = .ok (.ifCond .eq 16, 3) := by decide +kernel
theorem d_jdk_42_method_139_13 : decode jdk_42_method_139_code 13 = .ok (.new 10, 3) := by decide +kernel
theorem wd_37 {Z : State} {a0 : Array Value} (hw : HwT Z a0) : (Jvm.Cond.classLink "java/lang/String" (10 : Nat) "java/lang/String").before a0 Z = true := hw _ (List.mem_of_getElem? (i := 37) rfl)
theorem d_jdk_42_method_139_16 : decode jdk_42_method_139_code 16 = .ok (.dup, 1) := by decide +kernel
theorem d_jdk_42_method_139_17 : decode jdk_42_method_139_code 17 = .ok (.iload_n 0, 1) := by decide +kernel
theorem d_jdk_42_method_139_18 : decode jdk_42_method_139_code 18 = .ok (.invokestatic 1018, 3) := by decide +kernel
theorem wd_38 {Z : State} {a0 : Array Value} (hw : HwT Z a0) : (Jvm.Cond.methodLink "java/lang/String" (1018 : Nat) ({ cls := "java/lang/StringLatin1", name := "toBytes", desc := "(C)[B" } : Jvm.MethodName)).before a0 Z = true := hw _ (List.mem_of_getElem? (i := 38) rfl)
theorem wd_40 {Z : State} {a0 : Array Value} (hw : HwT Z a0) : (Jvm.Cond.code ({ cls := "java/lang/StringLatin1", name := "toBytes", desc := "(C)[B" } : Jvm.MethodName) jdk_43_method_46_code (1 : Nat) (Option.some (Jvm.ClassFile.FieldType.array Jvm.ClassFile.FieldType.byte))).before a0 Z = true := hw _ (List.mem_of_getElem? (i := 40) rfl)
theorem pd_13 : parseMethodDescriptor "(C)[B" = some ⟨[.char], some (.array .byte)⟩ := by decide +kernel
theorem wd_39 {Z : State} {a0 : Array Value} (hw : HwT Z a0) : (Jvm.Cond.static ({ cls := "java/lang/StringLatin1", name := "toBytes", desc := "(C)[B" } : Jvm.MethodName)).before a0 Z = true := hw _ (List.mem_of_getElem? (i := 39) rfl)
theorem d_jdk_42_method_139_21 : decode jdk_42_method_139_code 21 = .ok (.iconst 0, 1) := by decide +kernel
theorem d_jdk_42_method_139_22 : decode jdk_42_method_139_code 22 = .ok (.invokespecial 209, 3) := by decide +kernel
theorem wd_41 {Z : State} {a0 : Array Value} (hw : HwT Z a0) : (Jvm.Cond.methodLink "java/lang/String" (209 : Nat) ({ cls := "java/lang/String", name := "<init>", desc := "([BB)V" } : Jvm.MethodName)).before a0 Z = true := hw _ (List.mem_of_getElem? (i := 41) rfl)
theorem wd_43 {Z : State} {a0 : Array Value} (hw : HwT Z a0) : (Jvm.Cond.code ({ cls := "java/lang/String", name := "<init>", desc := "([BB)V" } : Jvm.MethodName) jdk_42_method_151_code (3 : Nat) (Option.none : Option Jvm.ClassFile.FieldType)).before a0 Z = true := hw _ (List.mem_of_getElem? (i := 43) rfl)
theorem pd_14 : parseMethodDescriptor "([BB)V" = some ⟨[(.array .byte), .byte], none⟩ := by decide +kernel
theorem wd_42 {Z : State} {a0 : Array Value} (hw : HwT Z a0) : (Jvm.Cond.instanceMethod ({ cls := "java/lang/String", name := "<init>", desc := "([BB)V" } : Jvm.MethodName)).before a0 Z = true := hw _ (List.mem_of_getElem? (i := 42) rfl)
theorem d_jdk_42_method_139_25 : decode jdk_42_method_139_code 25 = .ok (.areturn, 1) := by decide +kernel
theorem d_jdk_43_method_47_0 : decode jdk_43_method_47_code 0 = .ok (.iload_n 2, 1) := by decide +kernel
theorem d_jdk_43_method_47_1 : decode jdk_43_method_47_code 1 = .ok (.ifCond .ne 6, 3) := by decide +kernel
theorem d_jdk_43_method_47_7 : decode jdk_43_method_47_code 7 = .ok (.new 1, 3) := by decide +kernel
theorem wd_186 {Z : State} {a0 : Array Value} (hw : HwT Z a0) : (Jvm.Cond.classLink "java/lang/StringLatin1" (1 : Nat) "java/lang/String").before a0 Z = true := hw _ (List.mem_of_getElem? (i := 186) rfl)
theorem d_jdk_43_method_47_10 : decode jdk_43_method_47_code 10 = .ok (.dup, 1) := by decide +kernel
theorem d_jdk_43_method_47_11 : decode jdk_43_method_47_code 11 = .ok (.aload_n 0, 1) := by decide +kernel
theorem d_jdk_43_method_47_12 : decode jdk_43_method_47_code 12 = .ok (.iload_n 1, 1) := by decide +kernel
theorem d_jdk_43_method_47_13 : decode jdk_43_method_47_code 13 = .ok (.iload_n 1, 1) := by decide +kernel
theorem d_jdk_43_method_47_14 : decode jdk_43_method_47_code 14 = .ok (.iload_n 2, 1) := by decide +kernel
theorem d_jdk_43_method_47_15 : decode jdk_43_method_47_code 15 = .ok (.iadd, 1) := by decide +kernel
theorem d_jdk_43_method_47_16 : decode jdk_43_method_47_code 16 = .ok (.invokestatic 232, 3) := by decide +kernel
theorem wd_187 {Z : State} {a0 : Array Value} (hw : HwT Z a0) : (Jvm.Cond.methodLink "java/lang/StringLatin1" (232 : Nat) ({ cls := "java/util/Arrays", name := "copyOfRange", desc := "([BII)[B" } : Jvm.MethodName)).before a0 Z = true := hw _ (List.mem_of_getElem? (i := 187) rfl)
theorem wd_190 {Z : State} {a0 : Array Value} (hw : HwT Z a0) : (Jvm.Cond.code ({ cls := "java/util/Arrays", name := "copyOfRange", desc := "([BII)[B" } : Jvm.MethodName) jdk_65_method_132_code (3 : Nat) (Option.some (Jvm.ClassFile.FieldType.array Jvm.ClassFile.FieldType.byte))).before a0 Z = true := hw _ (List.mem_of_getElem? (i := 190) rfl)
theorem wd_188 {Z : State} {a0 : Array Value} (hw : HwT Z a0) : (Jvm.Cond.static ({ cls := "java/util/Arrays", name := "copyOfRange", desc := "([BII)[B" } : Jvm.MethodName)).before a0 Z = true := hw _ (List.mem_of_getElem? (i := 188) rfl)
theorem d_jdk_43_method_47_19 : decode jdk_43_method_47_code 19 = .ok (.iconst 0, 1) := by decide +kernel
theorem d_jdk_43_method_47_20 : decode jdk_43_method_47_code 20 = .ok (.invokespecial 112, 3) := by decide +kernel
theorem wd_205 {Z : State} {a0 : Array Value} (hw : HwT Z a0) : (Jvm.Cond.methodLink "java/lang/StringLatin1" (112 : Nat) ({ cls := "java/lang/String", name := "<init>", desc := "([BB)V" } : Jvm.MethodName)).before a0 Z = true := hw _ (List.mem_of_getElem? (i := 205) rfl)
theorem d_jdk_43_method_47_23 : decode jdk_43_method_47_code 23 = .ok (.areturn, 1) := by decide +kernel
theorem d_jdk_43_method_47_4 : decode jdk_43_method_47_code 4 = .ok (.ldc 151, 2) := by decide +kernel
theorem d_jdk_43_method_47_6 : decode jdk_43_method_47_code 6 = .ok (.areturn, 1) := by decide +kernel
theorem d_jdk_42_method_92_0 : decode jdk_42_method_92_code 0 = .ok (.aload_n 0, 1) := by decide +kernel
theorem d_jdk_42_method_92_1 : decode jdk_42_method_92_code 1 = .ok (.invokevirtual 505, 3) := by decide +kernel
theorem wd_104 {Z : State} {a0 : Array Value} (hw : HwT Z a0) : (Jvm.Cond.methodLink "java/lang/String" (505 : Nat) ({ cls := "java/lang/String", name := "length", desc := "()I" } : Jvm.MethodName)).before a0 Z = true := hw _ (List.mem_of_getElem? (i := 104) rfl)
theorem wd_107 {Z : State} {a0 : Array Value} (hw : HwT Z a0) : (Jvm.Cond.selects "java/lang/String" ({ cls := "java/lang/String", name := "length", desc := "()I" } : Jvm.MethodName) ({ cls := "java/lang/String", name := "length", desc := "()I" } : Jvm.MethodName)).before a0 Z = true := hw _ (List.mem_of_getElem? (i := 107) rfl)
theorem wd_108 {Z : State} {a0 : Array Value} (hw : HwT Z a0) : (Jvm.Cond.code ({ cls := "java/lang/String", name := "length", desc := "()I" } : Jvm.MethodName) jdk_42_method_54_code (1 : Nat) (Option.some Jvm.ClassFile.FieldType.int)).before a0 Z = true := hw _ (List.mem_of_getElem? (i := 108) rfl)
theorem pd_15 : parseMethodDescriptor "()I" = some ⟨[], some .int⟩ := by decide +kernel
theorem wd_105 {Z : State} {a0 : Array Value} (hw : HwT Z a0) : (Jvm.Cond.declares ({ cls := "java/lang/String", name := "length", desc := "()I" } : Jvm.MethodName)).before a0 Z = true := hw _ (List.mem_of_getElem? (i := 105) rfl)
theorem wd_106 {Z : State} {a0 : Array Value} (hw : HwT Z a0) : (Jvm.Cond.instanceMethod ({ cls := "java/lang/String", name := "length", desc := "()I" } : Jvm.MethodName)).before a0 Z = true := hw _ (List.mem_of_getElem? (i := 106) rfl)
theorem d_jdk_42_method_92_4 : decode jdk_42_method_92_code 4 = .ok (.istore_n 3, 1) := by decide +kernel
theorem d_jdk_42_method_92_5 : decode jdk_42_method_92_code 5 = .ok (.iload_n 1, 1) := by decide +kernel
theorem d_jdk_42_method_92_6 : decode jdk_42_method_92_code 6 = .ok (.iload_n 2, 1) := by decide +kernel
theorem d_jdk_42_method_92_7 : decode jdk_42_method_92_code 7 = .ok (.iload_n 3, 1) := by decide +kernel
theorem d_jdk_42_method_92_8 : decode jdk_42_method_92_code 8 = .ok (.invokestatic 521, 3) := by decide +kernel
theorem wd_114 {Z : State} {a0 : Array Value} (hw : HwT Z a0) : (Jvm.Cond.methodLink "java/lang/String" (521 : Nat) ({ cls := "java/lang/String", name := "checkBoundsBeginEnd", desc := "(III)V" } : Jvm.MethodName)).before a0 Z = true := hw _ (List.mem_of_getElem? (i := 114) rfl)
theorem wd_116 {Z : State} {a0 : Array Value} (hw : HwT Z a0) : (Jvm.Cond.code ({ cls := "java/lang/String", name := "checkBoundsBeginEnd", desc := "(III)V" } : Jvm.MethodName) jdk_42_method_158_code (3 : Nat) (Option.none : Option Jvm.ClassFile.FieldType)).before a0 Z = true := hw _ (List.mem_of_getElem? (i := 116) rfl)
theorem pd_16 : parseMethodDescriptor "(III)V" = some ⟨[.int, .int, .int], none⟩ := by decide +kernel
theorem wd_115 {Z : State} {a0 : Array Value} (hw : HwT Z a0) : (Jvm.Cond.static ({ cls := "java/lang/String", name := "checkBoundsBeginEnd", desc := "(III)V" } : Jvm.MethodName)).before a0 Z = true := hw _ (List.mem_of_getElem? (i := 115) rfl)
theorem d_jdk_42_method_92_11 : decode jdk_42_method_92_code 11 = .ok (.iload_n 1, 1) := by decide +kernel
theorem d_jdk_42_method_92_12 : decode jdk_42_method_92_code 12 = .ok (.ifCond .ne 10, 3) := by decide +kernel
theorem d_jdk_42_method_92_22 : decode jdk_42_method_92_code 22 = .ok (.iload_n 2, 1) := by decide +kernel
theorem d_jdk_42_method_92_23 : decode jdk_42_method_92_code 23 = .ok (.iload_n 1, 1) := by decide +kernel
theorem d_jdk_42_method_92_24 : decode jdk_42_method_92_code 24 = .ok (.isub, 1) := by decide +kernel
theorem d_jdk_42_method_92_25 : decode jdk_42_method_92_code 25 = .ok (.istore 4, 2) := by decide +kernel
theorem d_jdk_42_method_92_27 : decode jdk_42_method_92_code 27 = .ok (.aload_n 0, 1) := by decide +kernel
theorem d_jdk_42_method_92_28 : decode jdk_42_method_92_code 28 = .ok (.invokevirtual 492, 3) := by decide +kernel
theorem d_jdk_42_method_92_31 : decode jdk_42_method_92_code 31 = .ok (.ifCond .eq 16, 3) := by decide +kernel
theorem d_jdk_42_method_92_34 : decode jdk_42_method_92_code 34 = .ok (.aload_n 0, 1) := by decide +kernel
theorem d_jdk_42_method_92_35 : decode jdk_42_method_92_code 35 = .ok (.getfield 9, 3) := by decide +kernel
theorem d_jdk_42_method_92_38 : decode jdk_42_method_92_code 38 = .ok (.iload_n 1, 1) := by decide +kernel
theorem d_jdk_42_method_92_39 : decode jdk_42_method_92_code 39 = .ok (.iload 4, 2) := by decide +kernel
theorem d_jdk_42_method_92_41 : decode jdk_42_method_92_code 41 = .ok (.invokestatic 685, 3) := by decide +kernel
theorem wd_127 {Z : State} {a0 : Array Value} (hw : HwT Z a0) : (Jvm.Cond.methodLink "java/lang/String" (685 : Nat) ({ cls := "java/lang/StringLatin1", name := "newString", desc := "([BII)Ljava/lang/String;" } : Jvm.MethodName)).before a0 Z = true := hw _ (List.mem_of_getElem? (i := 127) rfl)
theorem wd_129 {Z : State} {a0 : Array Value} (hw : HwT Z a0) : (Jvm.Cond.code ({ cls := "java/lang/StringLatin1", name := "newString", desc := "([BII)Ljava/lang/String;" } : Jvm.MethodName) jdk_43_method_47_code (3 : Nat) (Option.some (Jvm.ClassFile.FieldType.object "java/lang/String"))).before a0 Z = true := hw _ (List.mem_of_getElem? (i := 129) rfl)
theorem pd_17 : parseMethodDescriptor "([BII)Ljava/lang/String;" = some ⟨[(.array .byte), .int, .int], some (.object "java/lang/String")⟩ := by decide +kernel
theorem wd_128 {Z : State} {a0 : Array Value} (hw : HwT Z a0) : (Jvm.Cond.static ({ cls := "java/lang/StringLatin1", name := "newString", desc := "([BII)Ljava/lang/String;" } : Jvm.MethodName)).before a0 Z = true := hw _ (List.mem_of_getElem? (i := 128) rfl)
theorem d_jdk_42_method_92_44 : decode jdk_42_method_92_code 44 = .ok (.goto 13, 3) := by decide +kernel
theorem d_jdk_42_method_92_57 : decode jdk_42_method_92_code 57 = .ok (.areturn, 1) := by decide +kernel
theorem d_jdk_42_method_92_15 : decode jdk_42_method_92_code 15 = .ok (.iload_n 2, 1) := by decide +kernel
theorem d_jdk_42_method_92_16 : decode jdk_42_method_92_code 16 = .ok (.iload_n 3, 1) := by decide +kernel
theorem d_jdk_42_method_92_17 : decode jdk_42_method_92_code 17 = .ok (.if_icmp .ne 5, 3) := by decide +kernel
theorem d_jdk_42_method_92_20 : decode jdk_42_method_92_code 20 = .ok (.aload_n 0, 1) := by decide +kernel
theorem d_jdk_42_method_92_21 : decode jdk_42_method_92_code 21 = .ok (.areturn, 1) := by decide +kernel
theorem d_prog_110_method_1_0 : decode prog_110_method_1_code 0 = .ok (.aload_n 0, 1) := by decide +kernel
theorem d_prog_110_method_1_1 : decode prog_110_method_1_code 1 = .ok (.invokespecial 1, 3) := by decide +kernel
theorem wd_50 {Z : State} {a0 : Array Value} (hw : HwT Z a0) : (Jvm.Cond.methodLink "com/example/tallymark/tallymark/SnapshotJoin$HoldingLine" (1 : Nat) ({ cls := "java/lang/Object", name := "<init>", desc := "()V" } : Jvm.MethodName)).before a0 Z = true := hw _ (List.mem_of_getElem? (i := 50) rfl)
theorem d_prog_110_method_1_4 : decode prog_110_method_1_code 4 = .ok (.return_, 1) := by decide +kernel
theorem pn_5 : plainName "com/example/tallymark/tallymark/SnapshotJoin$HoldingLine" = true := by first | (simp [plainName, overriddenIn]; done) | decide +kernel
theorem d_prog_110_method_2_0 : decode prog_110_method_2_code 0 = .ok (.aload_n 0, 1) := by decide +kernel
theorem d_prog_110_method_2_1 : decode prog_110_method_2_code 1 = .ok (.aload_n 1, 1) := by decide +kernel
theorem d_prog_110_method_2_2 : decode prog_110_method_2_code 2 = .ok (.putfield 7, 3) := by decide +kernel
theorem wd_61 {Z : State} {a0 : Array Value} (hw : HwT Z a0) : (Jvm.Cond.fieldLink "com/example/tallymark/tallymark/SnapshotJoin$HoldingLine" (7 : Nat) "com/example/tallymark/tallymark/SnapshotJoin$HoldingLine" "text" "Ljava/lang/String;").before a0 Z = true := hw _ (List.mem_of_getElem? (i := 61) rfl)
theorem wd_62 {Z : State} {a0 : Array Value} (hw : HwT Z a0) : (Jvm.Cond.lays "com/example/tallymark/tallymark/SnapshotJoin$HoldingLine" "com/example/tallymark/tallymark/SnapshotJoin$HoldingLine" "text" "Ljava/lang/String;").before a0 Z = true := hw _ (List.mem_of_getElem? (i := 62) rfl)
theorem wd_45 {Z : State} {a0 : Array Value} (hw : HwT Z a0) : (Jvm.Cond.instantiable "com/example/tallymark/tallymark/SnapshotJoin$HoldingLine" (11 : Nat)).before a0 Z = true := hw _ (List.mem_of_getElem? (i := 45) rfl)
theorem d_prog_110_method_2_5 : decode prog_110_method_2_code 5 = .ok (.aload_n 0, 1) := by decide +kernel
theorem d_prog_110_method_2_6 : decode prog_110_method_2_code 6 = .ok (.iload_n 2, 1) := by decide +kernel
theorem d_prog_110_method_2_7 : decode prog_110_method_2_code 7 = .ok (.putfield 13, 3) := by decide +kernel
theorem wd_63 {Z : State} {a0 : Array Value} (hw : HwT Z a0) : (Jvm.Cond.fieldLink "com/example/tallymark/tallymark/SnapshotJoin$HoldingLine" (13 : Nat) "com/example/tallymark/tallymark/SnapshotJoin$HoldingLine" "userFrom" "I").before a0 Z = true := hw _ (List.mem_of_getElem? (i := 63) rfl)
theorem wd_64 {Z : State} {a0 : Array Value} (hw : HwT Z a0) : (Jvm.Cond.lays "com/example/tallymark/tallymark/SnapshotJoin$HoldingLine" "com/example/tallymark/tallymark/SnapshotJoin$HoldingLine" "userFrom" "I").before a0 Z = true := hw _ (List.mem_of_getElem? (i := 64) rfl)
theorem sne_2 {Z : State} {a0 : Array Value} (hw : HwT Z a0) : RoadKit.slotOf Z "com/example/tallymark/tallymark/SnapshotJoin$HoldingLine" "userFrom" "I" ≠ RoadKit.slotOf Z "com/example/tallymark/tallymark/SnapshotJoin$HoldingLine" "text" "Ljava/lang/String;" := slot_ne (C := "com/example/tallymark/tallymark/SnapshotJoin$HoldingLine") (Or.inl (wd_64 hw)) (Or.inl (wd_62 hw)) (by decide) (t := .int) (t' := (.object "java/lang/String")) (by decide) (by decide)
theorem d_prog_110_method_2_10 : decode prog_110_method_2_code 10 = .ok (.aload_n 0, 1) := by decide +kernel
theorem d_prog_110_method_2_11 : decode prog_110_method_2_code 11 = .ok (.iload_n 3, 1) := by decide +kernel
theorem d_prog_110_method_2_12 : decode prog_110_method_2_code 12 = .ok (.putfield 17, 3) := by decide +kernel
theorem wd_65 {Z : State} {a0 : Array Value} (hw : HwT Z a0) : (Jvm.Cond.fieldLink "com/example/tallymark/tallymark/SnapshotJoin$HoldingLine" (17 : Nat) "com/example/tallymark/tallymark/SnapshotJoin$HoldingLine" "userTo" "I").before a0 Z = true := hw _ (List.mem_of_getElem? (i := 65) rfl)
theorem wd_66 {Z : State} {a0 : Array Value} (hw : HwT Z a0) : (Jvm.Cond.lays "com/example/tallymark/tallymark/SnapshotJoin$HoldingLine" "com/example/tallymark/tallymark/SnapshotJoin$HoldingLine" "userTo" "I").before a0 Z = true := hw _ (List.mem_of_getElem? (i := 66) rfl)
theorem sne_3 {Z : State} {a0 : Array Value} (hw : HwT Z a0) : RoadKit.slotOf Z "com/example/tallymark/tallymark/SnapshotJoin$HoldingLine" "userTo" "I" ≠ RoadKit.slotOf Z "com/example/tallymark/tallymark/SnapshotJoin$HoldingLine" "text" "Ljava/lang/String;" := slot_ne (C := "com/example/tallymark/tallymark/SnapshotJoin$HoldingLine") (Or.inl (wd_66 hw)) (Or.inl (wd_62 hw)) (by decide) (t := .int) (t' := (.object "java/lang/String")) (by decide) (by decide)
theorem sne_4 {Z : State} {a0 : Array Value} (hw : HwT Z a0) : RoadKit.slotOf Z "com/example/tallymark/tallymark/SnapshotJoin$HoldingLine" "userTo" "I" ≠ RoadKit.slotOf Z "com/example/tallymark/tallymark/SnapshotJoin$HoldingLine" "userFrom" "I" := slot_ne (C := "com/example/tallymark/tallymark/SnapshotJoin$HoldingLine") (Or.inl (wd_66 hw)) (Or.inl (wd_64 hw)) (by decide) (t := .int) (t' := .int) (by decide) (by decide)
theorem d_prog_110_method_2_15 : decode prog_110_method_2_code 15 = .ok (.aload_n 0, 1) := by decide +kernel
theorem d_prog_110_method_2_16 : decode prog_110_method_2_code 16 = .ok (.iload 4, 2) := by decide +kernel
theorem d_prog_110_method_2_18 : decode prog_110_method_2_code 18 = .ok (.putfield 20, 3) := by decide +kernel
theorem wd_67 {Z : State} {a0 : Array Value} (hw : HwT Z a0) : (Jvm.Cond.fieldLink "com/example/tallymark/tallymark/SnapshotJoin$HoldingLine" (20 : Nat) "com/example/tallymark/tallymark/SnapshotJoin$HoldingLine" "hostFrom" "I").before a0 Z = true := hw _ (List.mem_of_getElem? (i := 67) rfl)
theorem wd_68 {Z : State} {a0 : Array Value} (hw : HwT Z a0) : (Jvm.Cond.lays "com/example/tallymark/tallymark/SnapshotJoin$HoldingLine" "com/example/tallymark/tallymark/SnapshotJoin$HoldingLine" "hostFrom" "I").before a0 Z = true := hw _ (List.mem_of_getElem? (i := 68) rfl)
theorem sne_5 {Z : State} {a0 : Array Value} (hw : HwT Z a0) : RoadKit.slotOf Z "com/example/tallymark/tallymark/SnapshotJoin$HoldingLine" "hostFrom" "I" ≠ RoadKit.slotOf Z "com/example/tallymark/tallymark/SnapshotJoin$HoldingLine" "text" "Ljava/lang/String;" := slot_ne (C := "com/example/tallymark/tallymark/SnapshotJoin$HoldingLine") (Or.inl (wd_68 hw)) (Or.inl (wd_62 hw)) (by decide) (t := .int) (t' := (.object "java/lang/String")) (by decide) (by decide)
theorem sne_6 {Z : State} {a0 : Array Value} (hw : HwT Z a0) : RoadKit.slotOf Z "com/example/tallymark/tallymark/SnapshotJoin$HoldingLine" "hostFrom" "I" ≠ RoadKit.slotOf Z "com/example/tallymark/tallymark/SnapshotJoin$HoldingLine" "userFrom" "I" := slot_ne (C := "com/example/tallymark/tallymark/SnapshotJoin$HoldingLine") (Or.inl (wd_68 hw)) (Or.inl (wd_64 hw)) (by decide) (t := .int) (t' := .int) (by decide) (by decide)
theorem sne_7 {Z : State} {a0 : Array Value} (hw : HwT Z a0) : RoadKit.slotOf Z "com/example/tallymark/tallymark/SnapshotJoin$HoldingLine" "hostFrom" "I" ≠ RoadKit.slotOf Z "com/example/tallymark/tallymark/SnapshotJoin$HoldingLine" "userTo" "I" := slot_ne (C := "com/example/tallymark/tallymark/SnapshotJoin$HoldingLine") (Or.inl (wd_68 hw)) (Or.inl (wd_66 hw)) (by decide) (t := .int) (t' := .int) (by decide) (by decide)
theorem d_prog_110_method_2_21 : decode prog_110_method_2_code 21 = .ok (.aload_n 0, 1) := by decide +kernel
theorem d_prog_110_method_2_22 : decode prog_110_method_2_code 22 = .ok (.iload 5, 2) := by decide +kernel
theorem d_prog_110_method_2_24 : decode prog_110_method_2_code 24 = .ok (.putfield 23, 3) := by decide +kernel
theorem wd_69 {Z : State} {a0 : Array Value} (hw : HwT Z a0) : (Jvm.Cond.fieldLink "com/example/tallymark/tallymark/SnapshotJoin$HoldingLine" (23 : Nat) "com/example/tallymark/tallymark/SnapshotJoin$HoldingLine" "hostTo" "I").before a0 Z = true := hw _ (List.mem_of_getElem? (i := 69) rfl)
theorem wd_70 {Z : State} {a0 : Array Value} (hw : HwT Z a0) : (Jvm.Cond.lays "com/example/tallymark/tallymark/SnapshotJoin$HoldingLine" "com/example/tallymark/tallymark/SnapshotJoin$HoldingLine" "hostTo" "I").before a0 Z = true := hw _ (List.mem_of_getElem? (i := 70) rfl)
theorem sne_8 {Z : State} {a0 : Array Value} (hw : HwT Z a0) : RoadKit.slotOf Z "com/example/tallymark/tallymark/SnapshotJoin$HoldingLine" "hostTo" "I" ≠ RoadKit.slotOf Z "com/example/tallymark/tallymark/SnapshotJoin$HoldingLine" "text" "Ljava/lang/String;" := slot_ne (C := "com/example/tallymark/tallymark/SnapshotJoin$HoldingLine") (Or.inl (wd_70 hw)) (Or.inl (wd_62 hw)) (by decide) (t := .int) (t' := (.object "java/lang/String")) (by decide) (by decide)
theorem sne_9 {Z : State} {a0 : Array Value} (hw : HwT Z a0) : RoadKit.slotOf Z "com/example/tallymark/tallymark/SnapshotJoin$HoldingLine" "hostTo" "I" ≠ RoadKit.slotOf Z "com/example/tallymark/tallymark/SnapshotJoin$HoldingLine" "userFrom" "I" := slot_ne (C := "com/example/tallymark/tallymark/SnapshotJoin$HoldingLine") (Or.inl (wd_70 hw)) (Or.inl (wd_64 hw)) (by decide) (t := .int) (t' := .int) (by decide) (by decide)
theorem sne_10 {Z : State} {a0 : Array Value} (hw : HwT Z a0) : RoadKit.slotOf Z "com/example/tallymark/tallymark/SnapshotJoin$HoldingLine" "hostTo" "I" ≠ RoadKit.slotOf Z "com/example/tallymark/tallymark/SnapshotJoin$HoldingLine" "userTo" "I" := slot_ne (C := "com/example/tallymark/tallymark/SnapshotJoin$HoldingLine") (Or.inl (wd_70 hw)) (Or.inl (wd_66 hw)) (by decide) (t := .int) (t' := .int) (by decide) (by decide)
theorem sne_11 {Z : State} {a0 : Array Value} (hw : HwT Z a0) : RoadKit.slotOf Z "com/example/tallymark/tallymark/SnapshotJoin$HoldingLine" "hostTo" "I" ≠ RoadKit.slotOf Z "com/example/tallymark/tallymark/SnapshotJoin$HoldingLine" "hostFrom" "I" := slot_ne (C := "com/example/tallymark/tallymark/SnapshotJoin$HoldingLine") (Or.inl (wd_70 hw)) (Or.inl (wd_68 hw)) (by decide) (t := .int) (t' := .int) (by decide) (by decide)
theorem d_prog_110_method_2_27 : decode prog_110_method_2_code 27 = .ok (.aload_n 0, 1) := by decide +kernel
theorem d_prog_110_method_2_28 : decode prog_110_method_2_code 28 = .ok (.aload 6, 2) := by decide +kernel
theorem d_prog_110_method_2_30 : decode prog_110_method_2_code 30 = .ok (.putfield 26, 3) := by decide +kernel
theorem wd_71 {Z : State} {a0 : Array Value} (hw : HwT Z a0) : (Jvm.Cond.fieldLink "com/example/tallymark/tallymark/SnapshotJoin$HoldingLine" (26 : Nat) "com/example/tallymark/tallymark/SnapshotJoin$HoldingLine" "key" "Ljava/lang/String;").before a0 Z = true := hw _ (List.mem_of_getElem? (i := 71) rfl)
theorem wd_72 {Z : State} {a0 : Array Value} (hw : HwT Z a0) : (Jvm.Cond.lays "com/example/tallymark/tallymark/SnapshotJoin$HoldingLine" "com/example/tallymark/tallymark/SnapshotJoin$HoldingLine" "key" "Ljava/lang/String;").before a0 Z = true := hw _ (List.mem_of_getElem? (i := 72) rfl)
theorem sne_12 {Z : State} {a0 : Array Value} (hw : HwT Z a0) : RoadKit.slotOf Z "com/example/tallymark/tallymark/SnapshotJoin$HoldingLine" "key" "Ljava/lang/String;" ≠ RoadKit.slotOf Z "com/example/tallymark/tallymark/SnapshotJoin$HoldingLine" "text" "Ljava/lang/String;" := slot_ne (C := "com/example/tallymark/tallymark/SnapshotJoin$HoldingLine") (Or.inl (wd_72 hw)) (Or.inl (wd_62 hw)) (by decide) (t := (.object "java/lang/String")) (t' := (.object "java/lang/String")) (by decide) (by decide)
theorem sne_13 {Z : State} {a0 : Array Value} (hw : HwT Z a0) : RoadKit.slotOf Z "com/example/tallymark/tallymark/SnapshotJoin$HoldingLine" "key" "Ljava/lang/String;" ≠ RoadKit.slotOf Z "com/example/tallymark/tallymark/SnapshotJoin$HoldingLine" "userFrom" "I" := slot_ne (C := "com/example/tallymark/tallymark/SnapshotJoin$HoldingLine") (Or.inl (wd_72 hw)) (Or.inl (wd_64 hw)) (by decide) (t := (.object "java/lang/String")) (t' := .int) (by decide) (by decide)
theorem sne_14 {Z : State} {a0 : Array Value} (hw : HwT Z a0) : RoadKit.slotOf Z "com/example/tallymark/tallymark/SnapshotJoin$HoldingLine" "key" "Ljava/lang/String;" ≠ RoadKit.slotOf Z "com/example/tallymark/tallymark/SnapshotJoin$HoldingLine" "userTo" "I" := slot_ne (C := "com/example/tallymark/tallymark/SnapshotJoin$HoldingLine") (Or.inl (wd_72 hw)) (Or.inl (wd_66 hw)) (by decide) (t := (.object "java/lang/String")) (t' := .int) (by decide) (by decide)
theorem sne_15 {Z : State} {a0 : Array Value} (hw : HwT Z a0) : RoadKit.slotOf Z "com/example/tallymark/tallymark/SnapshotJoin$HoldingLine" "key" "Ljava/lang/String;" ≠ RoadKit.slotOf Z "com/example/tallymark/tallymark/SnapshotJoin$HoldingLine" "hostFrom" "I" := slot_ne (C := "com/example/tallymark/tallymark/SnapshotJoin$HoldingLine") (Or.inl (wd_72 hw)) (Or.inl (wd_68 hw)) (by decide) (t := (.object "java/lang/String")) (t' := .int) (by decide) (by decide)
theorem sne_16 {Z : State} {a0 : Array Value} (hw : HwT Z a0) : RoadKit.slotOf Z "com/example/tallymark/tallymark/SnapshotJoin$HoldingLine" "key" "Ljava/lang/String;" ≠ RoadKit.slotOf Z "com/example/tallymark/tallymark/SnapshotJoin$HoldingLine" "hostTo" "I" := slot_ne (C := "com/example/tallymark/tallymark/SnapshotJoin$HoldingLine") (Or.inl (wd_72 hw)) (Or.inl (wd_70 hw)) (by decide) (t := (.object "java/lang/String")) (t' := .int) (by decide) (by decide)
theorem d_prog_110_method_2_33 : decode prog_110_method_2_code 33 = .ok (.aload_n 0, 1) := by decide +kernel
theorem d_prog_110_method_2_34 : decode prog_110_method_2_code 34 = .ok (.aload 7, 2) := by decide +kernel
theorem d_prog_110_method_2_36 : decode prog_110_method_2_code 36 = .ok (.putfield 29, 3) := by decide +kernel
theorem wd_73 {Z : State} {a0 : Array Value} (hw : HwT Z a0) : (Jvm.Cond.fieldLink "com/example/tallymark/tallymark/SnapshotJoin$HoldingLine" (29 : Nat) "com/example/tallymark/tallymark/SnapshotJoin$HoldingLine" "feature" "Ljava/lang/String;").before a0 Z = true := hw _ (List.mem_of_getElem? (i := 73) rfl)
theorem wd_74 {Z : State} {a0 : Array Value} (hw : HwT Z a0) : (Jvm.Cond.lays "com/example/tallymark/tallymark/SnapshotJoin$HoldingLine" "com/example/tallymark/tallymark/SnapshotJoin$HoldingLine" "feature" "Ljava/lang/String;").before a0 Z = true := hw _ (List.mem_of_getElem? (i := 74) rfl)
theorem sne_17 {Z : State} {a0 : Array Value} (hw : HwT Z a0) : RoadKit.slotOf Z "com/example/tallymark/tallymark/SnapshotJoin$HoldingLine" "feature" "Ljava/lang/String;" ≠ RoadKit.slotOf Z "com/example/tallymark/tallymark/SnapshotJoin$HoldingLine" "text" "Ljava/lang/String;" := slot_ne (C := "com/example/tallymark/tallymark/SnapshotJoin$HoldingLine") (Or.inl (wd_74 hw)) (Or.inl (wd_62 hw)) (by decide) (t := (.object "java/lang/String")) (t' := (.object "java/lang/String")) (by decide) (by decide)
theorem sne_18 {Z : State} {a0 : Array Value} (hw : HwT Z a0) : RoadKit.slotOf Z "com/example/tallymark/tallymark/SnapshotJoin$HoldingLine" "feature" "Ljava/lang/String;" ≠ RoadKit.slotOf Z "com/example/tallymark/tallymark/SnapshotJoin$HoldingLine" "userFrom" "I" := slot_ne (C := "com/example/tallymark/tallymark/SnapshotJoin$HoldingLine") (Or.inl (wd_74 hw)) (Or.inl (wd_64 hw)) (by decide) (t := (.object "java/lang/String")) (t' := .int) (by decide) (by decide)
theorem sne_19 {Z : State} {a0 : Array Value} (hw : HwT Z a0) : RoadKit.slotOf Z "com/example/tallymark/tallymark/SnapshotJoin$HoldingLine" "feature" "Ljava/lang/String;" ≠ RoadKit.slotOf Z "com/example/tallymark/tallymark/SnapshotJoin$HoldingLine" "userTo" "I" := slot_ne (C := "com/example/tallymark/tallymark/SnapshotJoin$HoldingLine") (Or.inl (wd_74 hw)) (Or.inl (wd_66 hw)) (by decide) (t := (.object "java/lang/String")) (t' := .int) (by decide) (by decide)
theorem sne_20 {Z : State} {a0 : Array Value} (hw : HwT Z a0) : RoadKit.slotOf Z "com/example/tallymark/tallymark/SnapshotJoin$HoldingLine" "feature" "Ljava/lang/String;" ≠ RoadKit.slotOf Z "com/example/tallymark/tallymark/SnapshotJoin$HoldingLine" "hostFrom" "I" := slot_ne (C := "com/example/tallymark/tallymark/SnapshotJoin$HoldingLine") (Or.inl (wd_74 hw)) (Or.inl (wd_68 hw)) (by decide) (t := (.object "java/lang/String")) (t' := .int) (by decide) (by decide)
theorem sne_21 {Z : State} {a0 : Array Value} (hw : HwT Z a0) : RoadKit.slotOf Z "com/example/tallymark/tallymark/SnapshotJoin$HoldingLine" "feature" "Ljava/lang/String;" ≠ RoadKit.slotOf Z "com/example/tallymark/tallymark/SnapshotJoin$HoldingLine" "hostTo" "I" := slot_ne (C := "com/example/tallymark/tallymark/SnapshotJoin$HoldingLine") (Or.inl (wd_74 hw)) (Or.inl (wd_70 hw)) (by decide) (t := (.object "java/lang/String")) (t' := .int) (by decide) (by decide)
theorem sne_22 {Z : State} {a0 : Array Value} (hw : HwT Z a0) : RoadKit.slotOf Z "com/example/tallymark/tallymark/SnapshotJoin$HoldingLine" "feature" "Ljava/lang/String;" ≠ RoadKit.slotOf Z "com/example/tallymark/tallymark/SnapshotJoin$HoldingLine" "key" "Ljava/lang/String;" := slot_ne (C := "com/example/tallymark/tallymark/SnapshotJoin$HoldingLine") (Or.inl (wd_74 hw)) (Or.inl (wd_72 hw)) (by decide) (t := (.object "java/lang/String")) (t' := (.object "java/lang/String")) (by decide) (by decide)
theorem d_prog_110_method_2_39 : decode prog_110_method_2_code 39 = .ok (.aload_n 0, 1) := by decide +kernel
theorem d_prog_110_method_2_40 : decode prog_110_method_2_code 40 = .ok (.aload 8, 2) := by decide +kernel
theorem d_prog_110_method_2_42 : decode prog_110_method_2_code 42 = .ok (.putfield 32, 3) := by decide +kernel
theorem wd_75 {Z : State} {a0 : Array Value} (hw : HwT Z a0) : (Jvm.Cond.fieldLink "com/example/tallymark/tallymark/SnapshotJoin$HoldingLine" (32 : Nat) "com/example/tallymark/tallymark/SnapshotJoin$HoldingLine" "server" "Ljava/lang/String;").before a0 Z = true := hw _ (List.mem_of_getElem? (i := 75) rfl)
theorem wd_76 {Z : State} {a0 : Array Value} (hw : HwT Z a0) : (Jvm.Cond.lays "com/example/tallymark/tallymark/SnapshotJoin$HoldingLine" "com/example/tallymark/tallymark/SnapshotJoin$HoldingLine" "server" "Ljava/lang/String;").before a0 Z = true := hw _ (List.mem_of_getElem? (i := 76) rfl)
theorem sne_23 {Z : State} {a0 : Array Value} (hw : HwT Z a0) : RoadKit.slotOf Z "com/example/tallymark/tallymark/SnapshotJoin$HoldingLine" "server" "Ljava/lang/String;" ≠ RoadKit.slotOf Z "com/example/tallymark/tallymark/SnapshotJoin$HoldingLine" "text" "Ljava/lang/String;" := slot_ne (C := "com/example/tallymark/tallymark/SnapshotJoin$HoldingLine") (Or.inl (wd_76 hw)) (Or.inl (wd_62 hw)) (by decide) (t := (.object "java/lang/String")) (t' := (.object "java/lang/String")) (by decide) (by decide)
theorem sne_24 {Z : State} {a0 : Array Value} (hw : HwT Z a0) : RoadKit.slotOf Z "com/example/tallymark/tallymark/SnapshotJoin$HoldingLine" "server" "Ljava/lang/String;" ≠ RoadKit.slotOf Z "com/example/tallymark/tallymark/SnapshotJoin$HoldingLine" "userFrom" "I" := slot_ne (C := "com/example/tallymark/tallymark/SnapshotJoin$HoldingLine") (Or.inl (wd_76 hw)) (Or.inl (wd_64 hw)) (by decide) (t := (.object "java/lang/String")) (t' := .int) (by decide) (by decide)
theorem sne_25 {Z : State} {a0 : Array Value} (hw : HwT Z a0) : RoadKit.slotOf Z "com/example/tallymark/tallymark/SnapshotJoin$HoldingLine" "server" "Ljava/lang/String;" ≠ RoadKit.slotOf Z "com/example/tallymark/tallymark/SnapshotJoin$HoldingLine" "userTo" "I" := slot_ne (C := "com/example/tallymark/tallymark/SnapshotJoin$HoldingLine") (Or.inl (wd_76 hw)) (Or.inl (wd_66 hw)) (by decide) (t := (.object "java/lang/String")) (t' := .int) (by decide) (by decide)
theorem sne_26 {Z : State} {a0 : Array Value} (hw : HwT Z a0) : RoadKit.slotOf Z "com/example/tallymark/tallymark/SnapshotJoin$HoldingLine" "server" "Ljava/lang/String;" ≠ RoadKit.slotOf Z "com/example/tallymark/tallymark/SnapshotJoin$HoldingLine" "hostFrom" "I" := slot_ne (C := "com/example/tallymark/tallymark/SnapshotJoin$HoldingLine") (Or.inl (wd_76 hw)) (Or.inl (wd_68 hw)) (by decide) (t := (.object "java/lang/String")) (t' := .int) (by decide) (by decide)
theorem sne_27 {Z : State} {a0 : Array Value} (hw : HwT Z a0) : RoadKit.slotOf Z "com/example/tallymark/tallymark/SnapshotJoin$HoldingLine" "server" "Ljava/lang/String;" ≠ RoadKit.slotOf Z "com/example/tallymark/tallymark/SnapshotJoin$HoldingLine" "hostTo" "I" := slot_ne (C := "com/example/tallymark/tallymark/SnapshotJoin$HoldingLine") (Or.inl (wd_76 hw)) (Or.inl (wd_70 hw)) (by decide) (t := (.object "java/lang/String")) (t' := .int) (by decide) (by decide)
theorem sne_28 {Z : State} {a0 : Array Value} (hw : HwT Z a0) : RoadKit.slotOf Z "com/example/tallymark/tallymark/SnapshotJoin$HoldingLine" "server" "Ljava/lang/String;" ≠ RoadKit.slotOf Z "com/example/tallymark/tallymark/SnapshotJoin$HoldingLine" "key" "Ljava/lang/String;" := slot_ne (C := "com/example/tallymark/tallymark/SnapshotJoin$HoldingLine") (Or.inl (wd_76 hw)) (Or.inl (wd_72 hw)) (by decide) (t := (.object "java/lang/String")) (t' := (.object "java/lang/String")) (by decide) (by decide)
theorem sne_29 {Z : State} {a0 : Array Value} (hw : HwT Z a0) : RoadKit.slotOf Z "com/example/tallymark/tallymark/SnapshotJoin$HoldingLine" "server" "Ljava/lang/String;" ≠ RoadKit.slotOf Z "com/example/tallymark/tallymark/SnapshotJoin$HoldingLine" "feature" "Ljava/lang/String;" := slot_ne (C := "com/example/tallymark/tallymark/SnapshotJoin$HoldingLine") (Or.inl (wd_76 hw)) (Or.inl (wd_74 hw)) (by decide) (t := (.object "java/lang/String")) (t' := (.object "java/lang/String")) (by decide) (by decide)
theorem d_prog_110_method_2_45 : decode prog_110_method_2_code 45 = .ok (.aload_n 0, 1) := by decide +kernel
theorem d_prog_110_method_2_46 : decode prog_110_method_2_code 46 = .ok (.lload 9, 2) := by decide +kernel
theorem d_prog_110_method_2_48 : decode prog_110_method_2_code 48 = .ok (.putfield 35, 3) := by decide +kernel
theorem wd_77 {Z : State} {a0 : Array Value} (hw : HwT Z a0) : (Jvm.Cond.fieldLink "com/example/tallymark/tallymark/SnapshotJoin$HoldingLine" (35 : Nat) "com/example/tallymark/tallymark/SnapshotJoin$HoldingLine" "line" "J").before a0 Z = true := hw _ (List.mem_of_getElem? (i := 77) rfl)
theorem wd_78 {Z : State} {a0 : Array Value} (hw : HwT Z a0) : (Jvm.Cond.lays "com/example/tallymark/tallymark/SnapshotJoin$HoldingLine" "com/example/tallymark/tallymark/SnapshotJoin$HoldingLine" "line" "J").before a0 Z = true := hw _ (List.mem_of_getElem? (i := 78) rfl)
theorem sne_30 {Z : State} {a0 : Array Value} (hw : HwT Z a0) : RoadKit.slotOf Z "com/example/tallymark/tallymark/SnapshotJoin$HoldingLine" "line" "J" ≠ RoadKit.slotOf Z "com/example/tallymark/tallymark/SnapshotJoin$HoldingLine" "text" "Ljava/lang/String;" := slot_ne (C := "com/example/tallymark/tallymark/SnapshotJoin$HoldingLine") (Or.inl (wd_78 hw)) (Or.inl (wd_62 hw)) (by decide) (t := .long) (t' := (.object "java/lang/String")) (by decide) (by decide)
theorem sne_31 {Z : State} {a0 : Array Value} (hw : HwT Z a0) : RoadKit.slotOf Z "com/example/tallymark/tallymark/SnapshotJoin$HoldingLine" "line" "J" ≠ RoadKit.slotOf Z "com/example/tallymark/tallymark/SnapshotJoin$HoldingLine" "userFrom" "I" := slot_ne (C := "com/example/tallymark/tallymark/SnapshotJoin$HoldingLine") (Or.inl (wd_78 hw)) (Or.inl (wd_64 hw)) (by decide) (t := .long) (t' := .int) (by decide) (by decide)
theorem sne_32 {Z : State} {a0 : Array Value} (hw : HwT Z a0) : RoadKit.slotOf Z "com/example/tallymark/tallymark/SnapshotJoin$HoldingLine" "line" "J" ≠ RoadKit.slotOf Z "com/example/tallymark/tallymark/SnapshotJoin$HoldingLine" "userTo" "I" := slot_ne (C := "com/example/tallymark/tallymark/SnapshotJoin$HoldingLine") (Or.inl (wd_78 hw)) (Or.inl (wd_66 hw)) (by decide) (t := .long) (t' := .int) (by decide) (by decide)
theorem sne_33 {Z : State} {a0 : Array Value} (hw : HwT Z a0) : RoadKit.slotOf Z "com/example/tallymark/tallymark/SnapshotJoin$HoldingLine" "line" "J" ≠ RoadKit.slotOf Z "com/example/tallymark/tallymark/SnapshotJoin$HoldingLine" "hostFrom" "I" := slot_ne (C := "com/example/tallymark/tallymark/SnapshotJoin$HoldingLine") (Or.inl (wd_78 hw)) (Or.inl (wd_68 hw)) (by decide) (t := .long) (t' := .int) (by decide) (by decide)
theorem sne_34 {Z : State} {a0 : Array Value} (hw : HwT Z a0) : RoadKit.slotOf Z "com/example/tallymark/tallymark/SnapshotJoin$HoldingLine" "line" "J" ≠ RoadKit.slotOf Z "com/example/tallymark/tallymark/SnapshotJoin$HoldingLine" "hostTo" "I" := slot_ne (C := "com/example/tallymark/tallymark/SnapshotJoin$HoldingLine") (Or.inl (wd_78 hw)) (Or.inl (wd_70 hw)) (by decide) (t := .long) (t' := .int) (by decide) (by decide)
theorem sne_35 {Z : State} {a0 : Array Value} (hw : HwT Z a0) : RoadKit.slotOf Z "com/example/tallymark/tallymark/SnapshotJoin$HoldingLine" "line" "J" ≠ RoadKit.slotOf Z "com/example/tallymark/tallymark/SnapshotJoin$HoldingLine" "key" "Ljava/lang/String;" := slot_ne (C := "com/example/tallymark/tallymark/SnapshotJoin$HoldingLine") (Or.inl (wd_78 hw)) (Or.inl (wd_72 hw)) (by decide) (t := .long) (t' := (.object "java/lang/String")) (by decide) (by decide)
theorem sne_36 {Z : State} {a0 : Array Value} (hw : HwT Z a0) : RoadKit.slotOf Z "com/example/tallymark/tallymark/SnapshotJoin$HoldingLine" "line" "J" ≠ RoadKit.slotOf Z "com/example/tallymark/tallymark/SnapshotJoin$HoldingLine" "feature" "Ljava/lang/String;" := slot_ne (C := "com/example/tallymark/tallymark/SnapshotJoin$HoldingLine") (Or.inl (wd_78 hw)) (Or.inl (wd_74 hw)) (by decide) (t := .long) (t' := (.object "java/lang/String")) (by decide) (by decide)
theorem sne_37 {Z : State} {a0 : Array Value} (hw : HwT Z a0) : RoadKit.slotOf Z "com/example/tallymark/tallymark/SnapshotJoin$HoldingLine" "line" "J" ≠ RoadKit.slotOf Z "com/example/tallymark/tallymark/SnapshotJoin$HoldingLine" "server" "Ljava/lang/String;" := slot_ne (C := "com/example/tallymark/tallymark/SnapshotJoin$HoldingLine") (Or.inl (wd_78 hw)) (Or.inl (wd_76 hw)) (by decide) (t := .long) (t' := (.object "java/lang/String")) (by decide) (by decide)
theorem d_prog_110_method_2_51 : decode prog_110_method_2_code 51 = .ok (.aload_n 0, 1) := by decide +kernel
theorem d_prog_110_method_2_52 : decode prog_110_method_2_code 52 = .ok (.iload 11, 2) := by decide +kernel
theorem d_prog_110_method_2_54 : decode prog_110_method_2_code 54 = .ok (.putfield 39, 3) := by decide +kernel
theorem wd_79 {Z : State} {a0 : Array Value} (hw : HwT Z a0) : (Jvm.Cond.fieldLink "com/example/tallymark/tallymark/SnapshotJoin$HoldingLine" (39 : Nat) "com/example/tallymark/tallymark/SnapshotJoin$HoldingLine" "licences" "I").before a0 Z = true := hw _ (List.mem_of_getElem? (i := 79) rfl)
theorem wd_80 {Z : State} {a0 : Array Value} (hw : HwT Z a0) : (Jvm.Cond.lays "com/example/tallymark/tallymark/SnapshotJoin$HoldingLine" "com/example/tallymark/tallymark/SnapshotJoin$HoldingLine" "licences" "I").before a0 Z = true := hw _ (List.mem_of_getElem? (i := 80) rfl)
theorem sne_38 {Z : State} {a0 : Array Value} (hw : HwT Z a0) : RoadKit.slotOf Z "com/example/tallymark/tallymark/SnapshotJoin$HoldingLine" "licences" "I" ≠ RoadKit.slotOf Z "com/example/tallymark/tallymark/SnapshotJoin$HoldingLine" "text" "Ljava/lang/String;" := slot_ne (C := "com/example/tallymark/tallymark/SnapshotJoin$HoldingLine") (Or.inl (wd_80 hw)) (Or.inl (wd_62 hw)) (by decide) (t := .int) (t' := (.object "java/lang/String")) (by decide) (by decide)
theorem sne_39 {Z : State} {a0 : Array Value} (hw : HwT Z a0) : RoadKit.slotOf Z "com/example/tallymark/tallymark/SnapshotJoin$HoldingLine" "licences" "I" ≠ RoadKit.slotOf Z "com/example/tallymark/tallymark/SnapshotJoin$HoldingLine" "userFrom" "I" := slot_ne (C := "com/example/tallymark/tallymark/SnapshotJoin$HoldingLine") (Or.inl (wd_80 hw)) (Or.inl (wd_64 hw)) (by decide) (t := .int) (t' := .int) (by decide) (by decide)
theorem sne_40 {Z : State} {a0 : Array Value} (hw : HwT Z a0) : RoadKit.slotOf Z "com/example/tallymark/tallymark/SnapshotJoin$HoldingLine" "licences" "I" ≠ RoadKit.slotOf Z "com/example/tallymark/tallymark/SnapshotJoin$HoldingLine" "userTo" "I" := slot_ne (C := "com/example/tallymark/tallymark/SnapshotJoin$HoldingLine") (Or.inl (wd_80 hw)) (Or.inl (wd_66 hw)) (by decide) (t := .int) (t' := .int) (by decide) (by decide)
theorem sne_41 {Z : State} {a0 : Array Value} (hw : HwT Z a0) : RoadKit.slotOf Z "com/example/tallymark/tallymark/SnapshotJoin$HoldingLine" "licences" "I" ≠ RoadKit.slotOf Z "com/example/tallymark/tallymark/SnapshotJoin$HoldingLine" "hostFrom" "I" := slot_ne (C := "com/example/tallymark/tallymark/SnapshotJoin$HoldingLine") (Or.inl (wd_80 hw)) (Or.inl (wd_68 hw)) (by decide) (t := .int) (t' := .int) (by decide) (by decide)
theorem sne_42 {Z : State} {a0 : Array Value} (hw : HwT Z a0) : RoadKit.slotOf Z "com/example/tallymark/tallymark/SnapshotJoin$HoldingLine" "licences" "I" ≠ RoadKit.slotOf Z "com/example/tallymark/tallymark/SnapshotJoin$HoldingLine" "hostTo" "I" := slot_ne (C := "com/example/tallymark/tallymark/SnapshotJoin$HoldingLine") (Or.inl (wd_80 hw)) (Or.inl (wd_70 hw)) (by decide) (t := .int) (t' := .int) (by decide) (by decide)
theorem sne_43 {Z : State} {a0 : Array Value} (hw : HwT Z a0) : RoadKit.slotOf Z "com/example/tallymark/tallymark/SnapshotJoin$HoldingLine" "licences" "I" ≠ RoadKit.slotOf Z "com/example/tallymark/tallymark/SnapshotJoin$HoldingLine" "key" "Ljava/lang/String;" := slot_ne (C := "com/example/tallymark/tallymark/SnapshotJoin$HoldingLine") (Or.inl (wd_80 hw)) (Or.inl (wd_72 hw)) (by decide) (t := .int) (t' := (.object "java/lang/String")) (by decide) (by decide)
theorem sne_44 {Z : State} {a0 : Array Value} (hw : HwT Z a0) : RoadKit.slotOf Z "com/example/tallymark/tallymark/SnapshotJoin$HoldingLine" "licences" "I" ≠ RoadKit.slotOf Z "com/example/tallymark/tallymark/SnapshotJoin$HoldingLine" "feature" "Ljava/lang/String;" := slot_ne (C := "com/example/tallymark/tallymark/SnapshotJoin$HoldingLine") (Or.inl (wd_80 hw)) (Or.inl (wd_74 hw)) (by decide) (t := .int) (t' := (.object "java/lang/String")) (by decide) (by decide)
theorem sne_45 {Z : State} {a0 : Array Value} (hw : HwT Z a0) : RoadKit.slotOf Z "com/example/tallymark/tallymark/SnapshotJoin$HoldingLine" "licences" "I" ≠ RoadKit.slotOf Z "com/example/tallymark/tallymark/SnapshotJoin$HoldingLine" "server" "Ljava/lang/String;" := slot_ne (C := "com/example/tallymark/tallymark/SnapshotJoin$HoldingLine") (Or.inl (wd_80 hw)) (Or.inl (wd_76 hw)) (by decide) (t := .int) (t' := (.object "java/lang/String")) (by decide) (by decide)
theorem sne_46 {Z : State} {a0 : Array Value} (hw : HwT Z a0) : RoadKit.slotOf Z "com/example/tallymark/tallymark/SnapshotJoin$HoldingLine" "licences" "I" ≠ RoadKit.slotOf Z "com/example/tallymark/tallymark/SnapshotJoin$HoldingLine" "line" "J" := slot_ne (C := "com/example/tallymark/tallymark/SnapshotJoin$HoldingLine") (Or.inl (wd_80 hw)) (Or.inl (wd_78 hw)) (by decide) (t := .int) (t' := .long) (by decide) (by decide)
theorem d_prog_110_method_2_57 : decode prog_110_method_2_code 57 = .ok (.aload_n 0, 1) := by decide +kernel
theorem d_prog_110_method_2_58 : decode prog_110_method_2_code 58 = .ok (.lload 12, 2) := by decide +kernel
theorem d_prog_110_method_2_60 : decode prog_110_method_2_code 60 = .ok (.putfield 42, 3) := by decide +kernel
theorem wd_81 {Z : State} {a0 : Array Value} (hw : HwT Z a0) : (Jvm.Cond.fieldLink "com/example/tallymark/tallymark/SnapshotJoin$HoldingLine" (42 : Nat) "com/example/tallymark/tallymark/SnapshotJoin$HoldingLine" "start" "J").before a0 Z = true := hw _ (List.mem_of_getElem? (i := 81) rfl)
theorem wd_82 {Z : State} {a0 : Array Value} (hw : HwT Z a0) : (Jvm.Cond.lays "com/example/tallymark/tallymark/SnapshotJoin$HoldingLine" "com/example/tallymark/tallymark/SnapshotJoin$HoldingLine" "start" "J").before a0 Z = true := hw _ (List.mem_of_getElem? (i := 82) rfl)
theorem sne_47 {Z : State} {a0 : Array Value} (hw : HwT Z a0) : RoadKit.slotOf Z "com/example/tallymark/tallymark/SnapshotJoin$HoldingLine" "start" "J" ≠ RoadKit.slotOf Z "com/example/tallymark/tallymark/SnapshotJoin$HoldingLine" "text" "Ljava/lang/String;" := slot_ne (C := "com/example/tallymark/tallymark/SnapshotJoin$HoldingLine") (Or.inl (wd_82 hw)) (Or.inl (wd_62 hw)) (by decide) (t := .long) (t' := (.object "java/lang/String")) (by decide) (by decide)
theorem sne_48 {Z : State} {a0 : Array Value} (hw : HwT Z a0) : RoadKit.slotOf Z "com/example/tallymark/tallymark/SnapshotJoin$HoldingLine" "start" "J" ≠ RoadKit.slotOf Z "com/example/tallymark/tallymark/SnapshotJoin$HoldingLine" "userFrom" "I" := slot_ne (C := "com/example/tallymark/tallymark/SnapshotJoin$HoldingLine") (Or.inl (wd_82 hw)) (Or.inl (wd_64 hw)) (by decide) (t := .long) (t' := .int) (by decide) (by decide)
theorem sne_49 {Z : State} {a0 : Array Value} (hw : HwT Z a0) : RoadKit.slotOf Z "com/example/tallymark/tallymark/SnapshotJoin$HoldingLine" "start" "J" ≠ RoadKit.slotOf Z "com/example/tallymark/tallymark/SnapshotJoin$HoldingLine" "userTo" "I" := slot_ne (C := "com/example/tallymark/tallymark/SnapshotJoin$HoldingLine") (Or.inl (wd_82 hw)) (Or.inl (wd_66 hw)) (by decide) (t := .long) (t' := .int) (by decide) (by decide)
theorem sne_50 {Z : State} {a0 : Array Value} (hw : HwT Z a0) : RoadKit.slotOf Z "com/example/tallymark/tallymark/SnapshotJoin$HoldingLine" "start" "J" ≠ RoadKit.slotOf Z "com/example/tallymark/tallymark/SnapshotJoin$HoldingLine" "hostFrom" "I" := slot_ne (C := "com/example/tallymark/tallymark/SnapshotJoin$HoldingLine") (Or.inl (wd_82 hw)) (Or.inl (wd_68 hw)) (by decide) (t := .long) (t' := .int) (by decide) (by decide)
theorem sne_51 {Z : State} {a0 : Array Value} (hw : HwT Z a0) : RoadKit.slotOf Z "com/example/tallymark/tallymark/SnapshotJoin$HoldingLine" "start" "J" ≠ RoadKit.slotOf Z "com/example/tallymark/tallymark/SnapshotJoin$HoldingLine" "hostTo" "I" := slot_ne (C := "com/example/tallymark/tallymark/SnapshotJoin$HoldingLine") (Or.inl (wd_82 hw)) (Or.inl (wd_70 hw)) (by decide) (t := .long) (t' := .int) (by decide) (by decide)
theorem sne_52 {Z : State} {a0 : Array Value} (hw : HwT Z a0) : RoadKit.slotOf Z "com/example/tallymark/tallymark/SnapshotJoin$HoldingLine" "start" "J" ≠ RoadKit.slotOf Z "com/example/tallymark/tallymark/SnapshotJoin$HoldingLine" "key" "Ljava/lang/String;" := slot_ne (C := "com/example/tallymark/tallymark/SnapshotJoin$HoldingLine") (Or.inl (wd_82 hw)) (Or.inl (wd_72 hw)) (by decide) (t := .long) (t' := (.object "java/lang/String")) (by decide) (by decide)
theorem sne_53 {Z : State} {a0 : Array Value} (hw : HwT Z a0) : RoadKit.slotOf Z "com/example/tallymark/tallymark/SnapshotJoin$HoldingLine" "start" "J" ≠ RoadKit.slotOf Z "com/example/tallymark/tallymark/SnapshotJoin$HoldingLine" "feature" "Ljava/lang/String;" := slot_ne (C := "com/example/tallymark/tallymark/SnapshotJoin$HoldingLine") (Or.inl (wd_82 hw)) (Or.inl (wd_74 hw)) (by decide) (t := .long) (t' := (.object "java/lang/String")) (by decide) (by decide)
theorem sne_54 {Z : State} {a0 : Array Value} (hw : HwT Z a0) : RoadKit.slotOf Z "com/example/tallymark/tallymark/SnapshotJoin$HoldingLine" "start" "J" ≠ RoadKit.slotOf Z "com/example/tallymark/tallymark/SnapshotJoin$HoldingLine" "server" "Ljava/lang/String;" := slot_ne (C := "com/example/tallymark/tallymark/SnapshotJoin$HoldingLine") (Or.inl (wd_82 hw)) (Or.inl (wd_76 hw)) (by decide) (t := .long) (t' := (.object "java/lang/String")) (by decide) (by decide)
theorem sne_55 {Z : State} {a0 : Array Value} (hw : HwT Z a0) : RoadKit.slotOf Z "com/example/tallymark/tallymark/SnapshotJoin$HoldingLine" "start" "J" ≠ RoadKit.slotOf Z "com/example/tallymark/tallymark/SnapshotJoin$HoldingLine" "line" "J" := slot_ne (C := "com/example/tallymark/tallymark/SnapshotJoin$HoldingLine") (Or.inl (wd_82 hw)) (Or.inl (wd_78 hw)) (by decide) (t := .long) (t' := .long) (by decide) (by decide)
theorem sne_56 {Z : State} {a0 : Array Value} (hw : HwT Z a0) : RoadKit.slotOf Z "com/example/tallymark/tallymark/SnapshotJoin$HoldingLine" "start" "J" ≠ RoadKit.slotOf Z "com/example/tallymark/tallymark/SnapshotJoin$HoldingLine" "licences" "I" := slot_ne (C := "com/example/tallymark/tallymark/SnapshotJoin$HoldingLine") (Or.inl (wd_82 hw)) (Or.inl (wd_80 hw)) (by decide) (t := .long) (t' := .int) (by decide) (by decide)
theorem d_prog_110_method_2_63 : decode prog_110_method_2_code 63 = .ok (.return_, 1) := by decide +kernel
theorem sne_57 {Z : State} {a0 : Array Value} (hw : HwT Z a0) : RoadKit.slotOf Z "com/example/tallymark/tallymark/SnapshotJoin$HoldingLine" "text" "Ljava/lang/String;" ≠ RoadKit.slotOf Z "com/example/tallymark/tallymark/SnapshotJoin$HoldingLine" "userFrom" "I" := slot_ne (C := "com/example/tallymark/tallymark/SnapshotJoin$HoldingLine") (Or.inl (wd_62 hw)) (Or.inl (wd_64 hw)) (by decide) (t := (.object "java/lang/String")) (t' := .int) (by decide) (by decide)
theorem sne_58 {Z : State} {a0 : Array Value} (hw : HwT Z a0) : RoadKit.slotOf Z "com/example/tallymark/tallymark/SnapshotJoin$HoldingLine" "text" "Ljava/lang/String;" ≠ RoadKit.slotOf Z "com/example/tallymark/tallymark/SnapshotJoin$HoldingLine" "userTo" "I" := slot_ne (C := "com/example/tallymark/tallymark/SnapshotJoin$HoldingLine") (Or.inl (wd_62 hw)) (Or.inl (wd_66 hw)) (by decide) (t := (.object "java/lang/String")) (t' := .int) (by decide) (by decide)
theorem sne_59 {Z : State} {a0 : Array Value} (hw : HwT Z a0) : RoadKit.slotOf Z "com/example/tallymark/tallymark/SnapshotJoin$HoldingLine" "text" "Ljava/lang/String;" ≠ RoadKit.slotOf Z "com/example/tallymark/tallymark/SnapshotJoin$HoldingLine" "hostFrom" "I" := slot_ne (C := "com/example/tallymark/tallymark/SnapshotJoin$HoldingLine") (Or.inl (wd_62 hw)) (Or.inl (wd_68 hw)) (by decide) (t := (.object "java/lang/String")) (t' := .int) (by decide) (by decide)
theorem sne_60 {Z : State} {a0 : Array Value} (hw : HwT Z a0) : RoadKit.slotOf Z "com/example/tallymark/tallymark/SnapshotJoin$HoldingLine" "text" "Ljava/lang/String;" ≠ RoadKit.slotOf Z "com/example/tallymark/tallymark/SnapshotJoin$HoldingLine" "hostTo" "I" := slot_ne (C := "com/example/tallymark/tallymark/SnapshotJoin$HoldingLine") (Or.inl (wd_62 hw)) (Or.inl (wd_70 hw)) (by decide) (t := (.object "java/lang/String")) (t' := .int) (by decide) (by decide)
theorem sne_61 {Z : State} {a0 : Array Value} (hw : HwT Z a0) : RoadKit.slotOf Z "com/example/tallymark/tallymark/SnapshotJoin$HoldingLine" "text" "Ljava/lang/String;" ≠ RoadKit.slotOf Z "com/example/tallymark/tallymark/SnapshotJoin$HoldingLine" "key" "Ljava/lang/String;" := slot_ne (C := "com/example/tallymark/tallymark/SnapshotJoin$HoldingLine") (Or.inl (wd_62 hw)) (Or.inl (wd_72 hw)) (by decide) (t := (.object "java/lang/String")) (t' := (.object "java/lang/String")) (by decide) (by decide)
theorem sne_62 {Z : State} {a0 : Array Value} (hw : HwT Z a0) : RoadKit.slotOf Z "com/example/tallymark/tallymark/SnapshotJoin$HoldingLine" "text" "Ljava/lang/String;" ≠ RoadKit.slotOf Z "com/example/tallymark/tallymark/SnapshotJoin$HoldingLine" "feature" "Ljava/lang/String;" := slot_ne (C := "com/example/tallymark/tallymark/SnapshotJoin$HoldingLine") (Or.inl (wd_62 hw)) (Or.inl (wd_74 hw)) (by decide) (t := (.object "java/lang/String")) (t' := (.object "java/lang/String")) (by decide) (by decide)
theorem sne_63 {Z : State} {a0 : Array Value} (hw : HwT Z a0) : RoadKit.slotOf Z "com/example/tallymark/tallymark/SnapshotJoin$HoldingLine" "text" "Ljava/lang/String;" ≠ RoadKit.slotOf Z "com/example/tallymark/tallymark/SnapshotJoin$HoldingLine" "server" "Ljava/lang/String;" := slot_ne (C := "com/example/tallymark/tallymark/SnapshotJoin$HoldingLine") (Or.inl (wd_62 hw)) (Or.inl (wd_76 hw)) (by decide) (t := (.object "java/lang/String")) (t' := (.object "java/lang/String")) (by decide) (by decide)
theorem sne_64 {Z : State} {a0 : Array Value} (hw : HwT Z a0) : RoadKit.slotOf Z "com/example/tallymark/tallymark/SnapshotJoin$HoldingLine" "text" "Ljava/lang/String;" ≠ RoadKit.slotOf Z "com/example/tallymark/tallymark/SnapshotJoin$HoldingLine" "line" "J" := slot_ne (C := "com/example/tallymark/tallymark/SnapshotJoin$HoldingLine") (Or.inl (wd_62 hw)) (Or.inl (wd_78 hw)) (by decide) (t := (.object "java/lang/String")) (t' := .long) (by decide) (by decide)
theorem sne_65 {Z : State} {a0 : Array Value} (hw : HwT Z a0) : RoadKit.slotOf Z "com/example/tallymark/tallymark/SnapshotJoin$HoldingLine" "text" "Ljava/lang/String;" ≠ RoadKit.slotOf Z "com/example/tallymark/tallymark/SnapshotJoin$HoldingLine" "licences" "I" := slot_ne (C := "com/example/tallymark/tallymark/SnapshotJoin$HoldingLine") (Or.inl (wd_62 hw)) (Or.inl (wd_80 hw)) (by decide) (t := (.object "java/lang/String")) (t' := .int) (by decide) (by decide)
theorem sne_66 {Z : State} {a0 : Array Value} (hw : HwT Z a0) : RoadKit.slotOf Z "com/example/tallymark/tallymark/SnapshotJoin$HoldingLine" "text" "Ljava/lang/String;" ≠ RoadKit.slotOf Z "com/example/tallymark/tallymark/SnapshotJoin$HoldingLine" "start" "J" := slot_ne (C := "com/example/tallymark/tallymark/SnapshotJoin$HoldingLine") (Or.inl (wd_62 hw)) (Or.inl (wd_82 hw)) (by decide) (t := (.object "java/lang/String")) (t' := .long) (by decide) (by decide)
theorem sne_67 {Z : State} {a0 : Array Value} (hw : HwT Z a0) : RoadKit.slotOf Z "com/example/tallymark/tallymark/SnapshotJoin$HoldingLine" "userFrom" "I" ≠ RoadKit.slotOf Z "com/example/tallymark/tallymark/SnapshotJoin$HoldingLine" "userTo" "I" := slot_ne (C := "com/example/tallymark/tallymark/SnapshotJoin$HoldingLine") (Or.inl (wd_64 hw)) (Or.inl (wd_66 hw)) (by decide) (t := .int) (t' := .int) (by decide) (by decide)
theorem sne_68 {Z : State} {a0 : Array Value} (hw : HwT Z a0) : RoadKit.slotOf Z "com/example/tallymark/tallymark/SnapshotJoin$HoldingLine" "userFrom" "I" ≠ RoadKit.slotOf Z "com/example/tallymark/tallymark/SnapshotJoin$HoldingLine" "hostFrom" "I" := slot_ne (C := "com/example/tallymark/tallymark/SnapshotJoin$HoldingLine") (Or.inl (wd_64 hw)) (Or.inl (wd_68 hw)) (by decide) (t := .int) (t' := .int) (by decide) (by decide)
theorem sne_69 {Z : State} {a0 : Array Value} (hw : HwT Z a0) : RoadKit.slotOf Z "com/example/tallymark/tallymark/SnapshotJoin$HoldingLine" "userFrom" "I" ≠ RoadKit.slotOf Z "com/example/tallymark/tallymark/SnapshotJoin$HoldingLine" "hostTo" "I" := slot_ne (C := "com/example/tallymark/tallymark/SnapshotJoin$HoldingLine") (Or.inl (wd_64 hw)) (Or.inl (wd_70 hw)) (by decide) (t := .int) (t' := .int) (by decide) (by decide)
theorem sne_70 {Z : State} {a0 : Array Value} (hw : HwT Z a0) : RoadKit.slotOf Z "com/example/tallymark/tallymark/SnapshotJoin$HoldingLine" "userFrom" "I" ≠ RoadKit.slotOf Z "com/example/tallymark/tallymark/SnapshotJoin$HoldingLine" "key" "Ljava/lang/String;" := slot_ne (C := "com/example/tallymark/tallymark/SnapshotJoin$HoldingLine") (Or.inl (wd_64 hw)) (Or.inl (wd_72 hw)) (by decide) (t := .int) (t' := (.object "java/lang/String")) (by decide) (by decide)
theorem sne_71 {Z : State} {a0 : Array Value} (hw : HwT Z a0) : RoadKit.slotOf Z "com/example/tallymark/tallymark/SnapshotJoin$HoldingLine" "userFrom" "I" ≠ RoadKit.slotOf Z "com/example/tallymark/tallymark/SnapshotJoin$HoldingLine" "feature" "Ljava/lang/String;" := slot_ne (C := "com/example/tallymark/tallymark/SnapshotJoin$HoldingLine") (Or.inl (wd_64 hw)) (Or.inl (wd_74 hw)) (by decide) (t := .int) (t' := (.object "java/lang/String")) (by decide) (by decide)
theorem sne_72 {Z : State} {a0 : Array Value} (hw : HwT Z a0) : RoadKit.slotOf Z "com/example/tallymark/tallymark/SnapshotJoin$HoldingLine" "userFrom" "I" ≠ RoadKit.slotOf Z "com/example/tallymark/tallymark/SnapshotJoin$HoldingLine" "server" "Ljava/lang/String;" := slot_ne (C := "com/example/tallymark/tallymark/SnapshotJoin$HoldingLine") (Or.inl (wd_64 hw)) (Or.inl (wd_76 hw)) (by decide) (t := .int) (t' := (.object "java/lang/String")) (by decide) (by decide)
theorem sne_73 {Z : State} {a0 : Array Value} (hw : HwT Z a0) : RoadKit.slotOf Z "com/example/tallymark/tallymark/SnapshotJoin$HoldingLine" "userFrom" "I" ≠ RoadKit.slotOf Z "com/example/tallymark/tallymark/SnapshotJoin$HoldingLine" "line" "J" := slot_ne (C := "com/example/tallymark/tallymark/SnapshotJoin$HoldingLine") (Or.inl (wd_64 hw)) (Or.inl (wd_78 hw)) (by decide) (t := .int) (t' := .long) (by decide) (by decide)
theorem sne_74 {Z : State} {a0 : Array Value} (hw : HwT Z a0) : RoadKit.slotOf Z "com/example/tallymark/tallymark/SnapshotJoin$HoldingLine" "userFrom" "I" ≠ RoadKit.slotOf Z "com/example/tallymark/tallymark/SnapshotJoin$HoldingLine" "licences" "I" := slot_ne (C := "com/example/tallymark/tallymark/SnapshotJoin$HoldingLine") (Or.inl (wd_64 hw)) (Or.inl (wd_80 hw)) (by decide) (t := .int) (t' := .int) (by decide) (by decide)
theorem sne_75 {Z : State} {a0 : Array Value} (hw : HwT Z a0) : RoadKit.slotOf Z "com/example/tallymark/tallymark/SnapshotJoin$HoldingLine" "userFrom" "I" ≠ RoadKit.slotOf Z "com/example/tallymark/tallymark/SnapshotJoin$HoldingLine" "start" "J" := slot_ne (C := "com/example/tallymark/tallymark/SnapshotJoin$HoldingLine") (Or.inl (wd_64 hw)) (Or.inl (wd_82 hw)) (by decide) (t := .int) (t' := .long) (by decide) (by decide)
theorem sne_76 {Z : State} {a0 : Array Value} (hw : HwT Z a0) : RoadKit.slotOf Z "com/example/tallymark/tallymark/SnapshotJoin$HoldingLine" "userTo" "I" ≠ RoadKit.slotOf Z "com/example/tallymark/tallymark/SnapshotJoin$HoldingLine" "hostFrom" "I" := slot_ne (C := "com/example/tallymark/tallymark/SnapshotJoin$HoldingLine") (Or.inl (wd_66 hw)) (Or.inl (wd_68 hw)) (by decide) (t := .int) (t' := .int) (by decide) (by decide)
theorem sne_77 {Z : State} {a0 : Array Value} (hw : HwT Z a0) : RoadKit.slotOf Z "com/example/tallymark/tallymark/SnapshotJoin$HoldingLine" "userTo" "I" ≠ RoadKit.slotOf Z "com/example/tallymark/tallymark/SnapshotJoin$HoldingLine" "hostTo" "I" := slot_ne (C := "com/example/tallymark/tallymark/SnapshotJoin$HoldingLine") (Or.inl (wd_66 hw)) (Or.inl (wd_70 hw)) (by decide) (t := .int) (t' := .int) (by decide) (by decide)
theorem sne_78 {Z : State} {a0 : Array Value} (hw : HwT Z a0) : RoadKit.slotOf Z "com/example/tallymark/tallymark/SnapshotJoin$HoldingLine" "userTo" "I" ≠ RoadKit.slotOf Z "com/example/tallymark/tallymark/SnapshotJoin$HoldingLine" "key" "Ljava/lang/String;" := slot_ne (C := "com/example/tallymark/tallymark/SnapshotJoin$HoldingLine") (Or.inl (wd_66 hw)) (Or.inl (wd_72 hw)) (by decide) (t := .int) (t' := (.object "java/lang/String")) (by decide) (by decide)
theorem sne_79 {Z : State} {a0 : Array Value} (hw : HwT Z a0) : RoadKit.slotOf Z "com/example/tallymark/tallymark/SnapshotJoin$HoldingLine" "userTo" "I" ≠ RoadKit.slotOf Z "com/example/tallymark/tallymark/SnapshotJoin$HoldingLine" "feature" "Ljava/lang/String;" := slot_ne (C := "com/example/tallymark/tallymark/SnapshotJoin$HoldingLine") (Or.inl (wd_66 hw)) (Or.inl (wd_74 hw)) (by decide) (t := .int) (t' := (.object "java/lang/String")) (by decide) (by decide)
theorem sne_80 {Z : State} {a0 : Array Value} (hw : HwT Z a0) : RoadKit.slotOf Z "com/example/tallymark/tallymark/SnapshotJoin$HoldingLine" "userTo" "I" ≠ RoadKit.slotOf Z "com/example/tallymark/tallymark/SnapshotJoin$HoldingLine" "server" "Ljava/lang/String;" := slot_ne (C := "com/example/tallymark/tallymark/SnapshotJoin$HoldingLine") (Or.inl (wd_66 hw)) (Or.inl (wd_76 hw)) (by decide) (t := .int) (t' := (.object "java/lang/String")) (by decide) (by decide)
theorem sne_81 {Z : State} {a0 : Array Value} (hw : HwT Z a0) : RoadKit.slotOf Z "com/example/tallymark/tallymark/SnapshotJoin$HoldingLine" "userTo" "I" ≠ RoadKit.slotOf Z "com/example/tallymark/tallymark/SnapshotJoin$HoldingLine" "line" "J" := slot_ne (C := "com/example/tallymark/tallymark/SnapshotJoin$HoldingLine") (Or.inl (wd_66 hw)) (Or.inl (wd_78 hw)) (by decide) (t := .int) (t' := .long) (by decide) (by decide)
theorem sne_82 {Z : State} {a0 : Array Value} (hw : HwT Z a0) : RoadKit.slotOf Z "com/example/tallymark/tallymark/SnapshotJoin$HoldingLine" "userTo" "I" ≠ RoadKit.slotOf Z "com/example/tallymark/tallymark/SnapshotJoin$HoldingLine" "licences" "I" := slot_ne (C := "com/example/tallymark/tallymark/SnapshotJoin$HoldingLine") (Or.inl (wd_66 hw)) (Or.inl (wd_80 hw)) (by decide) (t := .int) (t' := .int) (by decide) (by decide)
theorem sne_83 {Z : State} {a0 : Array Value} (hw : HwT Z a0) : RoadKit.slotOf Z "com/example/tallymark/tallymark/SnapshotJoin$HoldingLine" "userTo" "I" ≠ RoadKit.slotOf Z "com/example/tallymark/tallymark/SnapshotJoin$HoldingLine" "start" "J" := slot_ne (C := "com/example/tallymark/tallymark/SnapshotJoin$HoldingLine") (Or.inl (wd_66 hw)) (Or.inl (wd_82 hw)) (by decide) (t := .int) (t' := .long) (by decide) (by decide)
theorem sne_84 {Z : State} {a0 : Array Value} (hw : HwT Z a0) : RoadKit.slotOf Z "com/example/tallymark/tallymark/SnapshotJoin$HoldingLine" "hostFrom" "I" ≠ RoadKit.slotOf Z "com/example/tallymark/tallymark/SnapshotJoin$HoldingLine" "hostTo" "I" := slot_ne (C := "com/example/tallymark/tallymark/SnapshotJoin$HoldingLine") (Or.inl (wd_68 hw)) (Or.inl (wd_70 hw)) (by decide) (t := .int) (t' := .int) (by decide) (by decide)
theorem sne_85 {Z : State} {a0 : Array Value} (hw : HwT Z a0) : RoadKit.slotOf Z "com/example/tallymark/tallymark/SnapshotJoin$HoldingLine" "hostFrom" "I" ≠ RoadKit.slotOf Z "com/example/tallymark/tallymark/SnapshotJoin$HoldingLine" "key" "Ljava/lang/String;" := slot_ne (C := "com/example/tallymark/tallymark/SnapshotJoin$HoldingLine") (Or.inl (wd_68 hw)) (Or.inl (wd_72 hw)) (by decide) (t := .int) (t' := (.object "java/lang/String")) (by decide) (by decide)
theorem sne_86 {Z : State} {a0 : Array Value} (hw : HwT Z a0) : RoadKit.slotOf Z "com/example/tallymark/tallymark/SnapshotJoin$HoldingLine" "hostFrom" "I" ≠ RoadKit.slotOf Z "com/example/tallymark/tallymark/SnapshotJoin$HoldingLine" "feature" "Ljava/lang/String;" := slot_ne (C := "com/example/tallymark/tallymark/SnapshotJoin$HoldingLine") (Or.inl (wd_68 hw)) (Or.inl (wd_74 hw)) (by decide) (t := .int) (t' := (.object "java/lang/String")) (by decide) (by decide)
theorem sne_87 {Z : State} {a0 : Array Value} (hw : HwT Z a0) : RoadKit.slotOf Z "com/example/tallymark/tallymark/SnapshotJoin$HoldingLine" "hostFrom" "I" ≠ RoadKit.slotOf Z "com/example/tallymark/tallymark/SnapshotJoin$HoldingLine" "server" "Ljava/lang/String;" := slot_ne (C := "com/example/tallymark/tallymark/SnapshotJoin$HoldingLine") (Or.inl (wd_68 hw)) (Or.inl (wd_76 hw)) (by decide) (t := .int) (t' := (.object "java/lang/String")) (by decide) (by decide)
theorem sne_88 {Z : State} {a0 : Array Value} (hw : HwT Z a0) : RoadKit.slotOf Z "com/example/tallymark/tallymark/SnapshotJoin$HoldingLine" "hostFrom" "I" ≠ RoadKit.slotOf Z "com/example/tallymark/tallymark/SnapshotJoin$HoldingLine" "line" "J" := slot_ne (C := "com/example/tallymark/tallymark/SnapshotJoin$HoldingLine") (Or.inl (wd_68 hw)) (Or.inl (wd_78 hw)) (by decide) (t := .int) (t' := .long) (by decide) (by decide)
theorem sne_89 {Z : State} {a0 : Array Value} (hw : HwT Z a0) : RoadKit.slotOf Z "com/example/tallymark/tallymark/SnapshotJoin$HoldingLine" "hostFrom" "I" ≠ RoadKit.slotOf Z "com/example/tallymark/tallymark/SnapshotJoin$HoldingLine" "licences" "I" := slot_ne (C := "com/example/tallymark/tallymark/SnapshotJoin$HoldingLine") (Or.inl (wd_68 hw)) (Or.inl (wd_80 hw)) (by decide) (t := .int) (t' := .int) (by decide) (by decide)
theorem sne_90 {Z : State} {a0 : Array Value} (hw : HwT Z a0) : RoadKit.slotOf Z "com/example/tallymark/tallymark/SnapshotJoin$HoldingLine" "hostFrom" "I" ≠ RoadKit.slotOf Z "com/example/tallymark/tallymark/SnapshotJoin$HoldingLine" "start" "J" := slot_ne (C := "com/example/tallymark/tallymark/SnapshotJoin$HoldingLine") (Or.inl (wd_68 hw)) (Or.inl (wd_82 hw)) (by decide) (t := .int) (t' := .long) (by decide) (by decide)
theorem sne_91 {Z : State} {a0 : Array Value} (hw : HwT Z a0) : RoadKit.slotOf Z "com/example/tallymark/tallymark/SnapshotJoin$HoldingLine" "hostTo" "I" ≠ RoadKit.slotOf Z "com/example/tallymark/tallymark/SnapshotJoin$HoldingLine" "key" "Ljava/lang/String;" := slot_ne (C := "com/example/tallymark/tallymark/SnapshotJoin$HoldingLine") (Or.inl (wd_70 hw)) (Or.inl (wd_72 hw)) (by decide) (t := .int) (t' := (.object "java/lang/String")) (by decide) (by decide)
theorem sne_92 {Z : State} {a0 : Array Value} (hw : HwT Z a0) : RoadKit.slotOf Z "com/example/tallymark/tallymark/SnapshotJoin$HoldingLine" "hostTo" "I" ≠ RoadKit.slotOf Z "com/example/tallymark/tallymark/SnapshotJoin$HoldingLine" "feature" "Ljava/lang/String;" := slot_ne (C := "com/example/tallymark/tallymark/SnapshotJoin$HoldingLine") (Or.inl (wd_70 hw)) (Or.inl (wd_74 hw)) (by decide) (t := .int) (t' := (.object "java/lang/String")) (by decide) (by decide)
theorem sne_93 {Z : State} {a0 : Array Value} (hw : HwT Z a0) : RoadKit.slotOf Z "com/example/tallymark/tallymark/SnapshotJoin$HoldingLine" "hostTo" "I" ≠ RoadKit.slotOf Z "com/example/tallymark/tallymark/SnapshotJoin$HoldingLine" "server" "Ljava/lang/String;" := slot_ne (C := "com/example/tallymark/tallymark/SnapshotJoin$HoldingLine") (Or.inl (wd_70 hw)) (Or.inl (wd_76 hw)) (by decide) (t := .int) (t' := (.object "java/lang/String")) (by decide) (by decide)
theorem sne_94 {Z : State} {a0 : Array Value} (hw : HwT Z a0) : RoadKit.slotOf Z "com/example/tallymark/tallymark/SnapshotJoin$HoldingLine" "hostTo" "I" ≠ RoadKit.slotOf Z "com/example/tallymark/tallymark/SnapshotJoin$HoldingLine" "line" "J" := slot_ne (C := "com/example/tallymark/tallymark/SnapshotJoin$HoldingLine") (Or.inl (wd_70 hw)) (Or.inl (wd_78 hw)) (by decide) (t := .int) (t' := .long) (by decide) (by decide)
theorem sne_95 {Z : State} {a0 : Array Value} (hw : HwT Z a0) : RoadKit.slotOf Z "com/example/tallymark/tallymark/SnapshotJoin$HoldingLine" "hostTo" "I" ≠ RoadKit.slotOf Z "com/example/tallymark/tallymark/SnapshotJoin$HoldingLine" "licences" "I" := slot_ne (C := "com/example/tallymark/tallymark/SnapshotJoin$HoldingLine") (Or.inl (wd_70 hw)) (Or.inl (wd_80 hw)) (by decide) (t := .int) (t' := .int) (by decide) (by decide)
theorem sne_96 {Z : State} {a0 : Array Value} (hw : HwT Z a0) : RoadKit.slotOf Z "com/example/tallymark/tallymark/SnapshotJoin$HoldingLine" "hostTo" "I" ≠ RoadKit.slotOf Z "com/example/tallymark/tallymark/SnapshotJoin$HoldingLine" "start" "J" := slot_ne (C := "com/example/tallymark/tallymark/SnapshotJoin$HoldingLine") (Or.inl (wd_70 hw)) (Or.inl (wd_82 hw)) (by decide) (t := .int) (t' := .long) (by decide) (by decide)
theorem sne_97 {Z : State} {a0 : Array Value} (hw : HwT Z a0) : RoadKit.slotOf Z "com/example/tallymark/tallymark/SnapshotJoin$HoldingLine" "key" "Ljava/lang/String;" ≠ RoadKit.slotOf Z "com/example/tallymark/tallymark/SnapshotJoin$HoldingLine" "feature" "Ljava/lang/String;" := slot_ne (C := "com/example/tallymark/tallymark/SnapshotJoin$HoldingLine") (Or.inl (wd_72 hw)) (Or.inl (wd_74 hw)) (by decide) (t := (.object "java/lang/String")) (t' := (.object "java/lang/String")) (by decide) (by decide)
theorem sne_98 {Z : State} {a0 : Array Value} (hw : HwT Z a0) : RoadKit.slotOf Z "com/example/tallymark/tallymark/SnapshotJoin$HoldingLine" "key" "Ljava/lang/String;" ≠ RoadKit.slotOf Z "com/example/tallymark/tallymark/SnapshotJoin$HoldingLine" "server" "Ljava/lang/String;" := slot_ne (C := "com/example/tallymark/tallymark/SnapshotJoin$HoldingLine") (Or.inl (wd_72 hw)) (Or.inl (wd_76 hw)) (by decide) (t := (.object "java/lang/String")) (t' := (.object "java/lang/String")) (by decide) (by decide)
theorem sne_99 {Z : State} {a0 : Array Value} (hw : HwT Z a0) : RoadKit.slotOf Z "com/example/tallymark/tallymark/SnapshotJoin$HoldingLine" "key" "Ljava/lang/String;" ≠ RoadKit.slotOf Z "com/example/tallymark/tallymark/SnapshotJoin$HoldingLine" "line" "J" := slot_ne (C := "com/example/tallymark/tallymark/SnapshotJoin$HoldingLine") (Or.inl (wd_72 hw)) (Or.inl (wd_78 hw)) (by decide) (t := (.object "java/lang/String")) (t' := .long) (by decide) (by decide)
theorem sne_100 {Z : State} {a0 : Array Value} (hw : HwT Z a0) : RoadKit.slotOf Z "com/example/tallymark/tallymark/SnapshotJoin$HoldingLine" "key" "Ljava/lang/String;" ≠ RoadKit.slotOf Z "com/example/tallymark/tallymark/SnapshotJoin$HoldingLine" "licences" "I" := slot_ne (C := "com/example/tallymark/tallymark/SnapshotJoin$HoldingLine") (Or.inl (wd_72 hw)) (Or.inl (wd_80 hw)) (by decide) (t := (.object "java/lang/String")) (t' := .int) (by decide) (by decide)
theorem sne_101 {Z : State} {a0 : Array Value} (hw : HwT Z a0) : RoadKit.slotOf Z "com/example/tallymark/tallymark/SnapshotJoin$HoldingLine" "key" "Ljava/lang/String;" ≠ RoadKit.slotOf Z "com/example/tallymark/tallymark/SnapshotJoin$HoldingLine" "start" "J" := slot_ne (C := "com/example/tallymark/tallymark/SnapshotJoin$HoldingLine") (Or.inl (wd_72 hw)) (Or.inl (wd_82 hw)) (by decide) (t := (.object "java/lang/String")) (t' := .long) (by decide) (by decide)
theorem sne_102 {Z : State} {a0 : Array Value} (hw : HwT Z a0) : RoadKit.slotOf Z "com/example/tallymark/tallymark/SnapshotJoin$HoldingLine" "feature" "Ljava/lang/String;" ≠ RoadKit.slotOf Z "com/example/tallymark/tallymark/SnapshotJoin$HoldingLine" "server" "Ljava/lang/String;" := slot_ne (C := "com/example/tallymark/tallymark/SnapshotJoin$HoldingLine") (Or.inl (wd_74 hw)) (Or.inl (wd_76 hw)) (by decide) (t := (.object "java/lang/String")) (t' := (.object "java/lang/String")) (by decide) (by decide)
theorem sne_103 {Z : State} {a0 : Array Value} (hw : HwT Z a0) : RoadKit.slotOf Z "com/example/tallymark/tallymark/SnapshotJoin$HoldingLine" "feature" "Ljava/lang/String;" ≠ RoadKit.slotOf Z "com/example/tallymark/tallymark/SnapshotJoin$HoldingLine" "line" "J" := slot_ne (C := "com/example/tallymark/tallymark/SnapshotJoin$HoldingLine") (Or.inl (wd_74 hw)) (Or.inl (wd_78 hw)) (by decide) (t := (.object "java/lang/String")) (t' := .long) (by decide) (by decide)
theorem sne_104 {Z : State} {a0 : Array Value} (hw : HwT Z a0) : RoadKit.slotOf Z "com/example/tallymark/tallymark/SnapshotJoin$HoldingLine" "feature" "Ljava/lang/String;" ≠ RoadKit.slotOf Z "com/example/tallymark/tallymark/SnapshotJoin$HoldingLine" "licences" "I" := slot_ne (C := "com/example/tallymark/tallymark/SnapshotJoin$HoldingLine") (Or.inl (wd_74 hw)) (Or.inl (wd_80 hw)) (by decide) (t := (.object "java/lang/String")) (t' := .int) (by decide) (by decide)
theorem sne_105 {Z : State} {a0 : Array Value} (hw : HwT Z a0) : RoadKit.slotOf Z "com/example/tallymark/tallymark/SnapshotJoin$HoldingLine" "feature" "Ljava/lang/String;" ≠ RoadKit.slotOf Z "com/example/tallymark/tallymark/SnapshotJoin$HoldingLine" "start" "J" := slot_ne (C := "com/example/tallymark/tallymark/SnapshotJoin$HoldingLine") (Or.inl (wd_74 hw)) (Or.inl (wd_82 hw)) (by decide) (t := (.object "java/lang/String")) (t' := .long) (by decide) (by decide)
theorem sne_106 {Z : State} {a0 : Array Value} (hw : HwT Z a0) : RoadKit.slotOf Z "com/example/tallymark/tallymark/SnapshotJoin$HoldingLine" "server" "Ljava/lang/String;" ≠ RoadKit.slotOf Z "com/example/tallymark/tallymark/SnapshotJoin$HoldingLine" "line" "J" := slot_ne (C := "com/example/tallymark/tallymark/SnapshotJoin$HoldingLine") (Or.inl (wd_76 hw)) (Or.inl (wd_78 hw)) (by decide) (t := (.object "java/lang/String")) (t' := .long) (by decide) (by decide)
theorem sne_107 {Z : State} {a0 : Array Value} (hw : HwT Z a0) : RoadKit.slotOf Z "com/example/tallymark/tallymark/SnapshotJoin$HoldingLine" "server" "Ljava/lang/String;" ≠ RoadKit.slotOf Z "com/example/tallymark/tallymark/SnapshotJoin$HoldingLine" "licences" "I" := slot_ne (C := "com/example/tallymark/tallymark/SnapshotJoin$HoldingLine") (Or.inl (wd_76 hw)) (Or.inl (wd_80 hw)) (by decide) (t := (.object "java/lang/String")) (t' := .int) (by decide) (by decide)
theorem sne_108 {Z : State} {a0 : Array Value} (hw : HwT Z a0) : RoadKit.slotOf Z "com/example/tallymark/tallymark/SnapshotJoin$HoldingLine" "server" "Ljava/lang/String;" ≠ RoadKit.slotOf Z "com/example/tallymark/tallymark/SnapshotJoin$HoldingLine" "start" "J" := slot_ne (C := "com/example/tallymark/tallymark/SnapshotJoin$HoldingLine") (Or.inl (wd_76 hw)) (Or.inl (wd_82 hw)) (by decide) (t := (.object "java/lang/String")) (t' := .long) (by decide) (by decide)
theorem sne_109 {Z : State} {a0 : Array Value} (hw : HwT Z a0) : RoadKit.slotOf Z "com/example/tallymark/tallymark/SnapshotJoin$HoldingLine" "line" "J" ≠ RoadKit.slotOf Z "com/example/tallymark/tallymark/SnapshotJoin$HoldingLine" "licences" "I" := slot_ne (C := "com/example/tallymark/tallymark/SnapshotJoin$HoldingLine") (Or.inl (wd_78 hw)) (Or.inl (wd_80 hw)) (by decide) (t := .long) (t' := .int) (by decide) (by decide)
theorem sne_110 {Z : State} {a0 : Array Value} (hw : HwT Z a0) : RoadKit.slotOf Z "com/example/tallymark/tallymark/SnapshotJoin$HoldingLine" "line" "J" ≠ RoadKit.slotOf Z "com/example/tallymark/tallymark/SnapshotJoin$HoldingLine" "start" "J" := slot_ne (C := "com/example/tallymark/tallymark/SnapshotJoin$HoldingLine") (Or.inl (wd_78 hw)) (Or.inl (wd_82 hw)) (by decide) (t := .long) (t' := .long) (by decide) (by decide)
theorem sne_111 {Z : State} {a0 : Array Value} (hw : HwT Z a0) : RoadKit.slotOf Z "com/example/tallymark/tallymark/SnapshotJoin$HoldingLine" "licences" "I" ≠ RoadKit.slotOf Z "com/example/tallymark/tallymark/SnapshotJoin$HoldingLine" "start" "J" := slot_ne (C := "com/example/tallymark/tallymark/SnapshotJoin$HoldingLine") (Or.inl (wd_80 hw)) (Or.inl (wd_82 hw)) (by decide) (t := .int) (t' := .long) (by decide) (by decide)
theorem d_prog_110_method_3_0 : decode prog_110_method_3_code 0 = .ok (.aload_n 0, 1) := by decide +kernel
theorem d_prog_110_method_3_1 : decode prog_110_method_3_code 1 = .ok (.getfield 7, 3) := by decide +kernel
theorem d_prog_110_method_3_4 : decode prog_110_method_3_code 4 = .ok (.aload_n 0, 1) := by decide +kernel
theorem d_prog_110_method_3_5 : decode prog_110_method_3_code 5 = .ok (.getfield 13, 3) := by decide +kernel
theorem d_prog_110_method_3_8 : decode prog_110_method_3_code 8 = .ok (.aload_n 0, 1) := by decide +kernel
theorem d_prog_110_method_3_9 : decode prog_110_method_3_code 9 = .ok (.getfield 17, 3) := by decide +kernel
theorem d_prog_110_method_3_12 : decode prog_110_method_3_code 12 = .ok (.invokevirtual 45, 3) := by decide +kernel
theorem wd_99 {Z : State} {a0 : Array Value} (hw : HwT Z a0) : (Jvm.Cond.methodLink "com/example/tallymark/tallymark/SnapshotJoin$HoldingLine" (45 : Nat) ({ cls := "java/lang/String", name := "substring", desc := "(II)Ljava/lang/String;" } : Jvm.MethodName)).before a0 Z = true := hw _ (List.mem_of_getElem? (i := 99) rfl)
theorem wd_102 {Z : State} {a0 : Array Value} (hw : HwT Z a0) : (Jvm.Cond.selects "java/lang/String" ({ cls := "java/lang/String", name := "substring", desc := "(II)Ljava/lang/String;" } : Jvm.MethodName) ({ cls := "java/lang/String", name := "substring", desc := "(II)Ljava/lang/String;" } : Jvm.MethodName)).before a0 Z = true := hw _ (List.mem_of_getElem? (i := 102) rfl)
theorem wd_103 {Z : State} {a0 : Array Value} (hw : HwT Z a0) : (Jvm.Cond.code ({ cls := "java/lang/String", name := "substring", desc := "(II)Ljava/lang/String;" } : Jvm.MethodName) jdk_42_method_92_code (5 : Nat) (Option.some (Jvm.ClassFile.FieldType.object "java/lang/String"))).before a0 Z = true := hw _ (List.mem_of_getElem? (i := 103) rfl)
theorem pd_18 : parseMethodDescriptor "(II)Ljava/lang/String;" = some ⟨[.int, .int], some (.object "java/lang/String")⟩ := by decide +kernel
theorem wd_100 {Z : State} {a0 : Array Value} (hw : HwT Z a0) : (Jvm.Cond.declares ({ cls := "java/lang/String", name := "substring", desc := "(II)Ljava/lang/String;" } : Jvm.MethodName)).before a0 Z = true := hw _ (List.mem_of_getElem? (i := 100) rfl)
theorem wd_101 {Z : State} {a0 : Array Value} (hw : HwT Z a0) : (Jvm.Cond.instanceMethod ({ cls := "java/lang/String", name := "substring", desc := "(II)Ljava/lang/String;" } : Jvm.MethodName)).before a0 Z = true := hw _ (List.mem_of_getElem? (i := 101) rfl)
theorem d_prog_110_method_3_15 : decode prog_110_method_3_code 15 = .ok (.areturn, 1) := by decide +kernel
theorem d_prog_110_method_4_0 : decode prog_110_method_4_code 0 = .ok (.aload_n 0, 1) := by decide +kernel
theorem d_prog_110_method_4_1 : decode prog_110_method_4_code 1 = .ok (.getfield 7, 3) := by decide +kernel
theorem d_prog_110_method_4_4 : decode prog_110_method_4_code 4 = .ok (.aload_n 0, 1) := by decide +kernel
theorem d_prog_110_method_4_5 : decode prog_110_method_4_code 5 = .ok (.getfield 20, 3) := by decide +kernel
theorem d_prog_110_method_4_8 : decode prog_110_method_4_code 8 = .ok (.aload_n 0, 1) := by decide +kernel
theorem d_prog_110_method_4_9 : decode prog_110_method_4_code 9 = .ok (.getfield 23, 3) := by decide +kernel
theorem d_prog_110_method_4_12 : decode prog_110_method_4_code 12 = .ok (.invokevirtual 45, 3) := by decide +kernel
theorem d_prog_110_method_4_15 : decode prog_110_method_4_code 15 = .ok (.areturn, 1) := by decide +kernel
theorem d_method_3_0 : decode method_3_code 0 = .ok (.iload_n 3, 1) := by decide +kernel
theorem d_method_3_1 : decode method_3_code 1 = .ok (.iload_n 2, 1) := by decide +kernel
theorem d_method_3_2 : decode method_3_code 2 = .ok (.isub, 1) := by decide +kernel
theorem d_method_3_3 : decode method_3_code 3 = .ok (.istore 4, 2) := by decide +kernel
theorem d_method_3_5 : decode method_3_code 5 = .ok (.aload_n 0, 1) := by decide +kernel
theorem d_method_3_6 : decode method_3_code 6 = .ok (.ifnull 12, 3) := by decide +kernel
theorem d_method_3_9 : decode method_3_code 9 = .ok (.aload_n 0, 1) := by decide +kernel
theorem d_method_3_10 : decode method_3_code 10 = .ok (.invokevirtual 70, 3) := by decide +kernel
theorem wd_166 {Z : State} {a0 : Array Value} (hw : HwT Z a0) : (Jvm.Cond.methodLink "com/example/tallymark/tallymark/HoldingLineSetPinLaw" (70 : Nat) ({ cls := "java/lang/String", name := "length", desc := "()I" } : Jvm.MethodName)).before a0 Z = true := hw _ (List.mem_of_getElem? (i := 166) rfl)
theorem d_method_3_13 : decode method_3_code 13 = .ok (.iload 4, 2) := by decide +kernel
theorem d_method_3_15 : decode method_3_code 15 = .ok (.if_icmp .eq 5, 3) := by decide +kernel
theorem d_method_3_20 : decode method_3_code 20 = .ok (.iload 4, 2) := by decide +kernel
theorem d_method_3_22 : decode method_3_code 22 = .ok (.ifCond .le 16, 3) := by decide +kernel
theorem d_method_3_38 : decode method_3_code 38 = .ok (.iload 4, 2) := by decide +kernel
theorem d_method_3_40 : decode method_3_code 40 = .ok (.iconst 1, 1) := by decide +kernel
theorem d_method_3_41 : decode method_3_code 41 = .ok (.if_icmp .le 18, 3) := by decide +kernel
theorem d_method_3_59 : decode method_3_code 59 = .ok (.iload 4, 2) := by decide +kernel
theorem d_method_3_61 : decode method_3_code 61 = .ok (.iconst 2, 1) := by decide +kernel
theorem d_method_3_62 : decode method_3_code 62 = .ok (.if_icmp .le 18, 3) := by decide +kernel
theorem d_method_3_80 : decode method_3_code 80 = .ok (.iload 4, 2) := by decide +kernel
theorem d_method_3_82 : decode method_3_code 82 = .ok (.iconst 3, 1) := by decide +kernel
theorem d_method_3_83 : decode method_3_code 83 = .ok (.if_icmp .le 18, 3) := by decide +kernel
theorem d_method_3_101 : decode method_3_code 101 = .ok (.iconst 1, 1) := by decide +kernel
theorem d_method_3_102 : decode method_3_code 102 = .ok (.ireturn, 1) := by decide +kernel
theorem d_method_3_86 : decode method_3_code 86 = .ok (.aload_n 0, 1) := by decide +kernel
theorem d_method_3_87 : decode method_3_code 87 = .ok (.iconst 3, 1) := by decide +kernel
theorem d_method_3_88 : decode method_3_code 88 = .ok (.invokevirtual 74, 3) := by decide +kernel
theorem wd_172 {Z : State} {a0 : Array Value} (hw : HwT Z a0) : (Jvm.Cond.methodLink "com/example/tallymark/tallymark/HoldingLineSetPinLaw" (74 : Nat) ({ cls := "java/lang/String", name := "charAt", desc := "(I)C" } : Jvm.MethodName)).before a0 Z = true := hw _ (List.mem_of_getElem? (i := 172) rfl)
theorem wd_175 {Z : State} {a0 : Array Value} (hw : HwT Z a0) : (Jvm.Cond.selects "java/lang/String" ({ cls := "java/lang/String", name := "charAt", desc := "(I)C" } : Jvm.MethodName) ({ cls := "java/lang/String", name := "charAt", desc := "(I)C" } : Jvm.MethodName)).before a0 Z = true := hw _ (List.mem_of_getElem? (i := 175) rfl)
theorem wd_176 {Z : State} {a0 : Array Value} (hw : HwT Z a0) : (Jvm.Cond.code ({ cls := "java/lang/String", name := "charAt", desc := "(I)C" } : Jvm.MethodName) jdk_42_method_56_code (2 : Nat) (Option.some Jvm.ClassFile.FieldType.char)).before a0 Z = true := hw _ (List.mem_of_getElem? (i := 176) rfl)
theorem pd_19 : parseMethodDescriptor "(I)C" = some ⟨[.int], some .char⟩ := by decide +kernel
theorem wd_173 {Z : State} {a0 : Array Value} (hw : HwT Z a0) : (Jvm.Cond.declares ({ cls := "java/lang/String", name := "charAt", desc := "(I)C" } : Jvm.MethodName)).before a0 Z = true := hw _ (List.mem_of_getElem? (i := 173) rfl)
theorem wd_174 {Z : State} {a0 : Array Value} (hw : HwT Z a0) : (Jvm.Cond.instanceMethod ({ cls := "java/lang/String", name := "charAt", desc := "(I)C" } : Jvm.MethodName)).before a0 Z = true := hw _ (List.mem_of_getElem? (i := 174) rfl)
theorem d_method_3_91 : decode method_3_code 91 = .ok (.aload_n 1, 1) := by decide +kernel
theorem d_method_3_92 : decode method_3_code 92 = .ok (.iload_n 2, 1) := by decide +kernel
theorem d_method_3_93 : decode method_3_code 93 = .ok (.iconst 3, 1) := by decide +kernel
theorem d_method_3_94 : decode method_3_code 94 = .ok (.iadd, 1) := by decide +kernel
theorem d_method_3_95 : decode method_3_code 95 = .ok (.caload, 1) := by decide +kernel
theorem d_method_3_96 : decode method_3_code 96 = .ok (.if_icmp .eq 5, 3) := by decide +kernel
theorem d_method_3_65 : decode method_3_code 65 = .ok (.aload_n 0, 1) := by decide +kernel
theorem d_method_3_66 : decode method_3_code 66 = .ok (.iconst 2, 1) := by decide +kernel
theorem d_method_3_67 : decode method_3_code 67 = .ok (.invokevirtual 74, 3) := by decide +kernel
theorem d_method_3_70 : decode method_3_code 70 = .ok (.aload_n 1, 1) := by decide +kernel
theorem d_method_3_71 : decode method_3_code 71 = .ok (.iload_n 2, 1) := by decide +kernel
theorem d_method_3_72 : decode method_3_code 72 = .ok (.iconst 2, 1) := by decide +kernel
theorem d_method_3_73 : decode method_3_code 73 = .ok (.iadd, 1) := by decide +kernel
theorem d_method_3_74 : decode method_3_code 74 = .ok (.caload, 1) := by decide +kernel
theorem d_method_3_75 : decode method_3_code 75 = .ok (.if_icmp .eq 5, 3) := by decide +kernel
theorem d_method_3_44 : decode method_3_code 44 = .ok (.aload_n 0, 1) := by decide +kernel
theorem d_method_3_45 : decode method_3_code 45 = .ok (.iconst 1, 1) := by decide +kernel
theorem d_method_3_46 : decode method_3_code 46 = .ok (.invokevirtual 74, 3) := by decide +kernel
theorem d_method_3_49 : decode method_3_code 49 = .ok (.aload_n 1, 1) := by decide +kernel
theorem d_method_3_50 : decode method_3_code 50 = .ok (.iload_n 2, 1) := by decide +kernel
theorem d_method_3_51 : decode method_3_code 51 = .ok (.iconst 1, 1) := by decide +kernel
theorem d_method_3_52 : decode method_3_code 52 = .ok (.iadd, 1) := by decide +kernel
theorem d_method_3_53 : decode method_3_code 53 = .ok (.caload, 1) := by decide +kernel
theorem d_method_3_54 : decode method_3_code 54 = .ok (.if_icmp .eq 5, 3) := by decide +kernel
theorem d_method_3_25 : decode method_3_code 25 = .ok (.aload_n 0, 1) := by decide +kernel
theorem d_method_3_26 : decode method_3_code 26 = .ok (.iconst 0, 1) := by decide +kernel
theorem d_method_3_27 : decode method_3_code 27 = .ok (.invokevirtual 74, 3) := by decide +kernel
theorem d_method_3_30 : decode method_3_code 30 = .ok (.aload_n 1, 1) := by decide +kernel
theorem d_method_3_31 : decode method_3_code 31 = .ok (.iload_n 2, 1) := by decide +kernel
theorem d_method_3_32 : decode method_3_code 32 = .ok (.caload, 1) := by decide +kernel
theorem d_method_3_33 : decode method_3_code 33 = .ok (.if_icmp .eq 5, 3) := by decide +kernel
theorem pn_6 : plainName "com/example/tallymark/tallymark/HoldingLineSetPinLaw" = true := by first | (simp [plainName, overriddenIn]; done) | decide +kernel
theorem d_prog_109_method_1_0 : decode prog_109_method_1_code 0 = .ok (.aload_n 0, 1) := by decide +kernel
theorem d_prog_109_method_1_1 : decode prog_109_method_1_code 1 = .ok (.invokespecial 1, 3) := by decide +kernel
theorem wd_90 {Z : State} {a0 : Array Value} (hw : HwT Z a0) : (Jvm.Cond.methodLink "com/example/tallymark/tallymark/SnapshotJoin$Holding" (1 : Nat) ({ cls := "java/lang/Object", name := "<init>", desc := "()V" } : Jvm.MethodName)).before a0 Z = true := hw _ (List.mem_of_getElem? (i := 90) rfl)
theorem d_prog_109_method_1_4 : decode prog_109_method_1_code 4 = .ok (.aload_n 0, 1) := by decide +kernel
theorem d_prog_109_method_1_5 : decode prog_109_method_1_code 5 = .ok (.aload_n 1, 1) := by decide +kernel
theorem d_prog_109_method_1_6 : decode prog_109_method_1_code 6 = .ok (.getfield 7, 3) := by decide +kernel
theorem wd_91 {Z : State} {a0 : Array Value} (hw : HwT Z a0) : (Jvm.Cond.fieldLinkNest "com/example/tallymark/tallymark/SnapshotJoin$Holding" (7 : Nat) "com/example/tallymark/tallymark/SnapshotJoin$HoldingLine" "feature" "Ljava/lang/String;" "com/example/tallymark/tallymark/SnapshotJoin").before a0 Z = true := hw _ (List.mem_of_getElem? (i := 91) rfl)
theorem d_prog_109_method_1_9 : decode prog_109_method_1_code 9 = .ok (.putfield 13, 3) := by decide +kernel
theorem wd_92 {Z : State} {a0 : Array Value} (hw : HwT Z a0) : (Jvm.Cond.fieldLink "com/example/tallymark/tallymark/SnapshotJoin$Holding" (13 : Nat) "com/example/tallymark/tallymark/SnapshotJoin$Holding" "feature" "Ljava/lang/String;").before a0 Z = true := hw _ (List.mem_of_getElem? (i := 92) rfl)
theorem wd_93 {Z : State} {a0 : Array Value} (hw : HwT Z a0) : (Jvm.Cond.laysFinal "com/example/tallymark/tallymark/SnapshotJoin$Holding" "com/example/tallymark/tallymark/SnapshotJoin$Holding" "feature" "Ljava/lang/String;").before a0 Z = true := hw _ (List.mem_of_getElem? (i := 93) rfl)
theorem wd_84 {Z : State} {a0 : Array Value} (hw : HwT Z a0) : (Jvm.Cond.instantiable "com/example/tallymark/tallymark/SnapshotJoin$Holding" (9 : Nat)).before a0 Z = true := hw _ (List.mem_of_getElem? (i := 84) rfl)
theorem d_prog_109_method_1_12 : decode prog_109_method_1_code 12 = .ok (.aload_n 0, 1) := by decide +kernel
theorem d_prog_109_method_1_13 : decode prog_109_method_1_code 13 = .ok (.aload_n 1, 1) := by decide +kernel
theorem d_prog_109_method_1_14 : decode prog_109_method_1_code 14 = .ok (.invokevirtual 16, 3) := by decide +kernel
theorem wd_94 {Z : State} {a0 : Array Value} (hw : HwT Z a0) : (Jvm.Cond.methodLink "com/example/tallymark/tallymark/SnapshotJoin$Holding" (16 : Nat) ({ cls := "com/example/tallymark/tallymark/SnapshotJoin$HoldingLine", name := "user", desc := "()Ljava/lang/String;" } : Jvm.MethodName)).before a0 Z = true := hw _ (List.mem_of_getElem? (i := 94) rfl)
theorem wd_97 {Z : State} {a0 : Array Value} (hw : HwT Z a0) : (Jvm.Cond.selects "com/example/tallymark/tallymark/SnapshotJoin$HoldingLine" ({ cls := "com/example/tallymark/tallymark/SnapshotJoin$HoldingLine", name := "user", desc := "()Ljava/lang/String;" } : Jvm.MethodName) ({ cls := "com/example/tallymark/tallymark/SnapshotJoin$HoldingLine", name := "user", desc := "()Ljava/lang/String;" } : Jvm.MethodName)).before a0 Z = true := hw _ (List.mem_of_getElem? (i := 97) rfl)
theorem wd_98 {Z : State} {a0 : Array Value} (hw : HwT Z a0) : (Jvm.Cond.code ({ cls := "com/example/tallymark/tallymark/SnapshotJoin$HoldingLine", name := "user", desc := "()Ljava/lang/String;" } : Jvm.MethodName) prog_110_method_3_code (1 : Nat) (Option.some (Jvm.ClassFile.FieldType.object "java/lang/String"))).before a0 Z = true := hw _ (List.mem_of_getElem? (i := 98) rfl)
theorem pd_20 : parseMethodDescriptor "()Ljava/lang/String;" = some ⟨[], some (.object "java/lang/String")⟩ := by decide +kernel
theorem wd_95 {Z : State} {a0 : Array Value} (hw : HwT Z a0) : (Jvm.Cond.declares ({ cls := "com/example/tallymark/tallymark/SnapshotJoin$HoldingLine", name := "user", desc := "()Ljava/lang/String;" } : Jvm.MethodName)).before a0 Z = true := hw _ (List.mem_of_getElem? (i := 95) rfl)
theorem wd_96 {Z : State} {a0 : Array Value} (hw : HwT Z a0) : (Jvm.Cond.instanceMethod ({ cls := "com/example/tallymark/tallymark/SnapshotJoin$HoldingLine", name := "user", desc := "()Ljava/lang/String;" } : Jvm.MethodName)).before a0 Z = true := hw _ (List.mem_of_getElem? (i := 96) rfl)
theorem wd_46 {Z : State} {a0 : Array Value} (hw : HwT Z a0) : (Jvm.Cond.initialized "com/example/tallymark/tallymark/SnapshotJoin$HoldingLine").before a0 Z = true := hw _ (List.mem_of_getElem? (i := 46) rfl)
theorem d_prog_109_method_1_17 : decode prog_109_method_1_code 17 = .ok (.putfield 20, 3) := by decide +kernel
theorem wd_131 {Z : State} {a0 : Array Value} (hw : HwT Z a0) : (Jvm.Cond.fieldLink "com/example/tallymark/tallymark/SnapshotJoin$Holding" (20 : Nat) "com/example/tallymark/tallymark/SnapshotJoin$Holding" "user" "Ljava/lang/String;").before a0 Z = true := hw _ (List.mem_of_getElem? (i := 131) rfl)
theorem wd_132 {Z : State} {a0 : Array Value} (hw : HwT Z a0) : (Jvm.Cond.laysFinal "com/example/tallymark/tallymark/SnapshotJoin$Holding" "com/example/tallymark/tallymark/SnapshotJoin$Holding" "user" "Ljava/lang/String;").before a0 Z = true := hw _ (List.mem_of_getElem? (i := 132) rfl)
theorem sne_112 {Z : State} {a0 : Array Value} (hw : HwT Z a0) : RoadKit.slotOf Z "com/example/tallymark/tallymark/SnapshotJoin$Holding" "user" "Ljava/lang/String;" ≠ RoadKit.slotOf Z "com/example/tallymark/tallymark/SnapshotJoin$Holding" "feature" "Ljava/lang/String;" := slot_ne (C := "com/example/tallymark/tallymark/SnapshotJoin$Holding") (Or.inr (wd_132 hw)) (Or.inr (wd_93 hw)) (by decide) (t := (.object "java/lang/String")) (t' := (.object "java/lang/String")) (by decide) (by decide)
theorem d_prog_109_method_1_20 : decode prog_109_method_1_code 20 = .ok (.aload_n 0, 1) := by decide +kernel
theorem d_prog_109_method_1_21 : decode prog_109_method_1_code 21 = .ok (.aload_n 1, 1) := by decide +kernel
theorem d_prog_109_method_1_22 : decode prog_109_method_1_code 22 = .ok (.invokevirtual 22, 3) := by decide +kernel
theorem wd_133 {Z : State} {a0 : Array Value} (hw : HwT Z a0) : (Jvm.Cond.methodLink "com/example/tallymark/tallymark/SnapshotJoin$Holding" (22 : Nat) ({ cls := "com/example/tallymark/tallymark/SnapshotJoin$HoldingLine", name := "host", desc := "()Ljava/lang/String;" } : Jvm.MethodName)).before a0 Z = true := hw _ (List.mem_of_getElem? (i := 133) rfl)
theorem wd_136 {Z : State} {a0 : Array Value} (hw : HwT Z a0) : (Jvm.Cond.selects "com/example/tallymark/tallymark/SnapshotJoin$HoldingLine" ({ cls := "com/example/tallymark/tallymark/SnapshotJoin$HoldingLine", name := "host", desc := "()Ljava/lang/String;" } : Jvm.MethodName) ({ cls := "com/example/tallymark/tallymark/SnapshotJoin$HoldingLine", name := "host", desc := "()Ljava/lang/String;" } : Jvm.MethodName)).before a0 Z = true := hw _ (List.mem_of_getElem? (i := 136) rfl)
theorem wd_137 {Z : State} {a0 : Array Value} (hw : HwT Z a0) : (Jvm.Cond.code ({ cls := "com/example/tallymark/tallymark/SnapshotJoin$HoldingLine", name := "host", desc := "()Ljava/lang/String;" } : Jvm.MethodName) prog_110_method_4_code (1 : Nat) (Option.some (Jvm.ClassFile.FieldType.object "java/lang/String"))).before a0 Z = true := hw _ (List.mem_of_getElem? (i := 137) rfl)
theorem wd_134 {Z : State} {a0 : Array Value} (hw : HwT Z a0) : (Jvm.Cond.declares ({ cls := "com/example/tallymark/tallymark/SnapshotJoin$HoldingLine", name := "host", desc := "()Ljava/lang/String;" } : Jvm.MethodName)).before a0 Z = true := hw _ (List.mem_of_getElem? (i := 134) rfl)
theorem wd_135 {Z : State} {a0 : Array Value} (hw : HwT Z a0) : (Jvm.Cond.instanceMethod ({ cls := "com/example/tallymark/tallymark/SnapshotJoin$HoldingLine", name := "host", desc := "()Ljava/lang/String;" } : Jvm.MethodName)).before a0 Z = true := hw _ (List.mem_of_getElem? (i := 135) rfl)
theorem d_prog_109_method_1_25 : decode prog_109_method_1_code 25 = .ok (.putfield 25, 3) := by decide +kernel
theorem wd_138 {Z : State} {a0 : Array Value} (hw : HwT Z a0) : (Jvm.Cond.fieldLink "com/example/tallymark/tallymark/SnapshotJoin$Holding" (25 : Nat) "com/example/tallymark/tallymark/SnapshotJoin$Holding" "host" "Ljava/lang/String;").before a0 Z = true := hw _ (List.mem_of_getElem? (i := 138) rfl)
theorem wd_139 {Z : State} {a0 : Array Value} (hw : HwT Z a0) : (Jvm.Cond.laysFinal "com/example/tallymark/tallymark/SnapshotJoin$Holding" "com/example/tallymark/tallymark/SnapshotJoin$Holding" "host" "Ljava/lang/String;").before a0 Z = true := hw _ (List.mem_of_getElem? (i := 139) rfl)
theorem sne_113 {Z : State} {a0 : Array Value} (hw : HwT Z a0) : RoadKit.slotOf Z "com/example/tallymark/tallymark/SnapshotJoin$Holding" "host" "Ljava/lang/String;" ≠ RoadKit.slotOf Z "com/example/tallymark/tallymark/SnapshotJoin$Holding" "feature" "Ljava/lang/String;" := slot_ne (C := "com/example/tallymark/tallymark/SnapshotJoin$Holding") (Or.inr (wd_139 hw)) (Or.inr (wd_93 hw)) (by decide) (t := (.object "java/lang/String")) (t' := (.object "java/lang/String")) (by decide) (by decide)
theorem sne_114 {Z : State} {a0 : Array Value} (hw : HwT Z a0) : RoadKit.slotOf Z "com/example/tallymark/tallymark/SnapshotJoin$Holding" "host" "Ljava/lang/String;" ≠ RoadKit.slotOf Z "com/example/tallymark/tallymark/SnapshotJoin$Holding" "user" "Ljava/lang/String;" := slot_ne (C := "com/example/tallymark/tallymark/SnapshotJoin$Holding") (Or.inr (wd_139 hw)) (Or.inr (wd_132 hw)) (by decide) (t := (.object "java/lang/String")) (t' := (.object "java/lang/String")) (by decide) (by decide)
theorem d_prog_109_method_1_28 : decode prog_109_method_1_code 28 = .ok (.aload_n 0, 1) := by decide +kernel
theorem d_prog_109_method_1_29 : decode prog_109_method_1_code 29 = .ok (.aload_n 1, 1) := by decide +kernel
theorem d_prog_109_method_1_30 : decode prog_109_method_1_code 30 = .ok (.getfield 27, 3) := by decide +kernel
theorem wd_140 {Z : State} {a0 : Array Value} (hw : HwT Z a0) : (Jvm.Cond.fieldLinkNest "com/example/tallymark/tallymark/SnapshotJoin$Holding" (27 : Nat) "com/example/tallymark/tallymark/SnapshotJoin$HoldingLine" "start" "J" "com/example/tallymark/tallymark/SnapshotJoin").before a0 Z = true := hw _ (List.mem_of_getElem? (i := 140) rfl)
theorem d_prog_109_method_1_33 : decode prog_109_method_1_code 33 = .ok (.putfield 31, 3) := by decide +kernel
theorem wd_141 {Z : State} {a0 : Array Value} (hw : HwT Z a0) : (Jvm.Cond.fieldLink "com/example/tallymark/tallymark/SnapshotJoin$Holding" (31 : Nat) "com/example/tallymark/tallymark/SnapshotJoin$Holding" "start" "J").before a0 Z = true := hw _ (List.mem_of_getElem? (i := 141) rfl)
theorem wd_142 {Z : State} {a0 : Array Value} (hw : HwT Z a0) : (Jvm.Cond.laysFinal "com/example/tallymark/tallymark/SnapshotJoin$Holding" "com/example/tallymark/tallymark/SnapshotJoin$Holding" "start" "J").before a0 Z = true := hw _ (List.mem_of_getElem? (i := 142) rfl)
theorem sne_115 {Z : State} {a0 : Array Value} (hw : HwT Z a0) : RoadKit.slotOf Z "com/example/tallymark/tallymark/SnapshotJoin$Holding" "start" "J" ≠ RoadKit.slotOf Z "com/example/tallymark/tallymark/SnapshotJoin$Holding" "feature" "Ljava/lang/String;" := slot_ne (C := "com/example/tallymark/tallymark/SnapshotJoin$Holding") (Or.inr (wd_142 hw)) (Or.inr (wd_93 hw)) (by decide) (t := .long) (t' := (.object "java/lang/String")) (by decide) (by decide)
theorem sne_116 {Z : State} {a0 : Array Value} (hw : HwT Z a0) : RoadKit.slotOf Z "com/example/tallymark/tallymark/SnapshotJoin$Holding" "start" "J" ≠ RoadKit.slotOf Z "com/example/tallymark/tallymark/SnapshotJoin$Holding" "user" "Ljava/lang/String;" := slot_ne (C := "com/example/tallymark/tallymark/SnapshotJoin$Holding") (Or.inr (wd_142 hw)) (Or.inr (wd_132 hw)) (by decide) (t := .long) (t' := (.object "java/lang/String")) (by decide) (by decide)
theorem sne_117 {Z : State} {a0 : Array Value} (hw : HwT Z a0) : RoadKit.slotOf Z "com/example/tallymark/tallymark/SnapshotJoin$Holding" "start" "J" ≠ RoadKit.slotOf Z "com/example/tallymark/tallymark/SnapshotJoin$Holding" "host" "Ljava/lang/String;" := slot_ne (C := "com/example/tallymark/tallymark/SnapshotJoin$Holding") (Or.inr (wd_142 hw)) (Or.inr (wd_139 hw)) (by decide) (t := .long) (t' := (.object "java/lang/String")) (by decide) (by decide)
theorem d_prog_109_method_1_36 : decode prog_109_method_1_code 36 = .ok (.aload_n 0, 1) := by decide +kernel
theorem d_prog_109_method_1_37 : decode prog_109_method_1_code 37 = .ok (.aload_n 2, 1) := by decide +kernel
theorem d_prog_109_method_1_38 : decode prog_109_method_1_code 38 = .ok (.putfield 32, 3) := by decide +kernel
theorem wd_143 {Z : State} {a0 : Array Value} (hw : HwT Z a0) : (Jvm.Cond.fieldLink "com/example/tallymark/tallymark/SnapshotJoin$Holding" (32 : Nat) "com/example/tallymark/tallymark/SnapshotJoin$Holding" "file" "Ljava/lang/String;").before a0 Z = true := hw _ (List.mem_of_getElem? (i := 143) rfl)
theorem wd_144 {Z : State} {a0 : Array Value} (hw : HwT Z a0) : (Jvm.Cond.lays "com/example/tallymark/tallymark/SnapshotJoin$Holding" "com/example/tallymark/tallymark/SnapshotJoin$Holding" "file" "Ljava/lang/String;").before a0 Z = true := hw _ (List.mem_of_getElem? (i := 144) rfl)
theorem sne_118 {Z : State} {a0 : Array Value} (hw : HwT Z a0) : RoadKit.slotOf Z "com/example/tallymark/tallymark/SnapshotJoin$Holding" "file" "Ljava/lang/String;" ≠ RoadKit.slotOf Z "com/example/tallymark/tallymark/SnapshotJoin$Holding" "feature" "Ljava/lang/String;" := slot_ne (C := "com/example/tallymark/tallymark/SnapshotJoin$Holding") (Or.inl (wd_144 hw)) (Or.inr (wd_93 hw)) (by decide) (t := (.object "java/lang/String")) (t' := (.object "java/lang/String")) (by decide) (by decide)
theorem sne_119 {Z : State} {a0 : Array Value} (hw : HwT Z a0) : RoadKit.slotOf Z "com/example/tallymark/tallymark/SnapshotJoin$Holding" "file" "Ljava/lang/String;" ≠ RoadKit.slotOf Z "com/example/tallymark/tallymark/SnapshotJoin$Holding" "user" "Ljava/lang/String;" := slot_ne (C := "com/example/tallymark/tallymark/SnapshotJoin$Holding") (Or.inl (wd_144 hw)) (Or.inr (wd_132 hw)) (by decide) (t := (.object "java/lang/String")) (t' := (.object "java/lang/String")) (by decide) (by decide)
theorem sne_120 {Z : State} {a0 : Array Value} (hw : HwT Z a0) : RoadKit.slotOf Z "com/example/tallymark/tallymark/SnapshotJoin$Holding" "file" "Ljava/lang/String;" ≠ RoadKit.slotOf Z "com/example/tallymark/tallymark/SnapshotJoin$Holding" "host" "Ljava/lang/String;" := slot_ne (C := "com/example/tallymark/tallymark/SnapshotJoin$Holding") (Or.inl (wd_144 hw)) (Or.inr (wd_139 hw)) (by decide) (t := (.object "java/lang/String")) (t' := (.object "java/lang/String")) (by decide) (by decide)
theorem sne_121 {Z : State} {a0 : Array Value} (hw : HwT Z a0) : RoadKit.slotOf Z "com/example/tallymark/tallymark/SnapshotJoin$Holding" "file" "Ljava/lang/String;" ≠ RoadKit.slotOf Z "com/example/tallymark/tallymark/SnapshotJoin$Holding" "start" "J" := slot_ne (C := "com/example/tallymark/tallymark/SnapshotJoin$Holding") (Or.inl (wd_144 hw)) (Or.inr (wd_142 hw)) (by decide) (t := (.object "java/lang/String")) (t' := .long) (by decide) (by decide)
theorem d_prog_109_method_1_41 : decode prog_109_method_1_code 41 = .ok (.aload_n 0, 1) := by decide +kernel
theorem d_prog_109_method_1_42 : decode prog_109_method_1_code 42 = .ok (.aload_n 1, 1) := by decide +kernel
theorem d_prog_109_method_1_43 : decode prog_109_method_1_code 43 = .ok (.getfield 35, 3) := by decide +kernel
theorem wd_145 {Z : State} {a0 : Array Value} (hw : HwT Z a0) : (Jvm.Cond.fieldLinkNest "com/example/tallymark/tallymark/SnapshotJoin$Holding" (35 : Nat) "com/example/tallymark/tallymark/SnapshotJoin$HoldingLine" "line" "J" "com/example/tallymark/tallymark/SnapshotJoin").before a0 Z = true := hw _ (List.mem_of_getElem? (i := 145) rfl)
theorem d_prog_109_method_1_46 : decode prog_109_method_1_code 46 = .ok (.putfield 38, 3) := by decide +kernel
theorem wd_146 {Z : State} {a0 : Array Value} (hw : HwT Z a0) : (Jvm.Cond.fieldLink "com/example/tallymark/tallymark/SnapshotJoin$Holding" (38 : Nat) "com/example/tallymark/tallymark/SnapshotJoin$Holding" "line" "J").before a0 Z = true := hw _ (List.mem_of_getElem? (i := 146) rfl)
theorem wd_147 {Z : State} {a0 : Array Value} (hw : HwT Z a0) : (Jvm.Cond.lays "com/example/tallymark/tallymark/SnapshotJoin$Holding" "com/example/tallymark/tallymark/SnapshotJoin$Holding" "line" "J").before a0 Z = true := hw _ (List.mem_of_getElem? (i := 147) rfl)
theorem sne_122 {Z : State} {a0 : Array Value} (hw : HwT Z a0) : RoadKit.slotOf Z "com/example/tallymark/tallymark/SnapshotJoin$Holding" "line" "J" ≠ RoadKit.slotOf Z "com/example/tallymark/tallymark/SnapshotJoin$Holding" "feature" "Ljava/lang/String;" := slot_ne (C := "com/example/tallymark/tallymark/SnapshotJoin$Holding") (Or.inl (wd_147 hw)) (Or.inr (wd_93 hw)) (by decide) (t := .long) (t' := (.object "java/lang/String")) (by decide) (by decide)
theorem sne_123 {Z : State} {a0 : Array Value} (hw : HwT Z a0) : RoadKit.slotOf Z "com/example/tallymark/tallymark/SnapshotJoin$Holding" "line" "J" ≠ RoadKit.slotOf Z "com/example/tallymark/tallymark/SnapshotJoin$Holding" "user" "Ljava/lang/String;" := slot_ne (C := "com/example/tallymark/tallymark/SnapshotJoin$Holding") (Or.inl (wd_147 hw)) (Or.inr (wd_132 hw)) (by decide) (t := .long) (t' := (.object "java/lang/String")) (by decide) (by decide)
theorem sne_124 {Z : State} {a0 : Array Value} (hw : HwT Z a0) : RoadKit.slotOf Z "com/example/tallymark/tallymark/SnapshotJoin$Holding" "line" "J" ≠ RoadKit.slotOf Z "com/example/tallymark/tallymark/SnapshotJoin$Holding" "host" "Ljava/lang/String;" := slot_ne (C := "com/example/tallymark/tallymark/SnapshotJoin$Holding") (Or.inl (wd_147 hw)) (Or.inr (wd_139 hw)) (by decide) (t := .long) (t' := (.object "java/lang/String")) (by decide) (by decide)
theorem sne_125 {Z : State} {a0 : Array Value} (hw : HwT Z a0) : RoadKit.slotOf Z "com/example/tallymark/tallymark/SnapshotJoin$Holding" "line" "J" ≠ RoadKit.slotOf Z "com/example/tallymark/tallymark/SnapshotJoin$Holding" "start" "J" := slot_ne (C := "com/example/tallymark/tallymark/SnapshotJoin$Holding") (Or.inl (wd_147 hw)) (Or.inr (wd_142 hw)) (by decide) (t := .long) (t' := .long) (by decide) (by decide)
theorem sne_126 {Z : State} {a0 : Array Value} (hw : HwT Z a0) : RoadKit.slotOf Z "com/example/tallymark/tallymark/SnapshotJoin$Holding" "line" "J" ≠ RoadKit.slotOf Z "com/example/tallymark/tallymark/SnapshotJoin$Holding" "file" "Ljava/lang/String;" := slot_ne (C := "com/example/tallymark/tallymark/SnapshotJoin$Holding") (Or.inl (wd_147 hw)) (Or.inl (wd_144 hw)) (by decide) (t := .long) (t' := (.object "java/lang/String")) (by decide) (by decide)
theorem d_prog_109_method_1_49 : decode prog_109_method_1_code 49 = .ok (.aload_n 0, 1) := by decide +kernel
theorem d_prog_109_method_1_50 : decode prog_109_method_1_code 50 = .ok (.aload_n 1, 1) := by decide +kernel
theorem d_prog_109_method_1_51 : decode prog_109_method_1_code 51 = .ok (.getfield 39, 3) := by decide +kernel
theorem wd_148 {Z : State} {a0 : Array Value} (hw : HwT Z a0) : (Jvm.Cond.fieldLinkNest "com/example/tallymark/tallymark/SnapshotJoin$Holding" (39 : Nat) "com/example/tallymark/tallymark/SnapshotJoin$HoldingLine" "licences" "I" "com/example/tallymark/tallymark/SnapshotJoin").before a0 Z = true := hw _ (List.mem_of_getElem? (i := 148) rfl)
theorem d_prog_109_method_1_54 : decode prog_109_method_1_code 54 = .ok (.putfield 43, 3) := by decide +kernel
theorem wd_149 {Z : State} {a0 : Array Value} (hw : HwT Z a0) : (Jvm.Cond.fieldLink "com/example/tallymark/tallymark/SnapshotJoin$Holding" (43 : Nat) "com/example/tallymark/tallymark/SnapshotJoin$Holding" "licences" "I").before a0 Z = true := hw _ (List.mem_of_getElem? (i := 149) rfl)
theorem wd_150 {Z : State} {a0 : Array Value} (hw : HwT Z a0) : (Jvm.Cond.lays "com/example/tallymark/tallymark/SnapshotJoin$Holding" "com/example/tallymark/tallymark/SnapshotJoin$Holding" "licences" "I").before a0 Z = true := hw _ (List.mem_of_getElem? (i := 150) rfl)
theorem sne_127 {Z : State} {a0 : Array Value} (hw : HwT Z a0) : RoadKit.slotOf Z "com/example/tallymark/tallymark/SnapshotJoin$Holding" "licences" "I" ≠ RoadKit.slotOf Z "com/example/tallymark/tallymark/SnapshotJoin$Holding" "feature" "Ljava/lang/String;" := slot_ne (C := "com/example/tallymark/tallymark/SnapshotJoin$Holding") (Or.inl (wd_150 hw)) (Or.inr (wd_93 hw)) (by decide) (t := .int) (t' := (.object "java/lang/String")) (by decide) (by decide)
theorem sne_128 {Z : State} {a0 : Array Value} (hw : HwT Z a0) : RoadKit.slotOf Z "com/example/tallymark/tallymark/SnapshotJoin$Holding" "licences" "I" ≠ RoadKit.slotOf Z "com/example/tallymark/tallymark/SnapshotJoin$Holding" "user" "Ljava/lang/String;" := slot_ne (C := "com/example/tallymark/tallymark/SnapshotJoin$Holding") (Or.inl (wd_150 hw)) (Or.inr (wd_132 hw)) (by decide) (t := .int) (t' := (.object "java/lang/String")) (by decide) (by decide)
theorem sne_129 {Z : State} {a0 : Array Value} (hw : HwT Z a0) : RoadKit.slotOf Z "com/example/tallymark/tallymark/SnapshotJoin$Holding" "licences" "I" ≠ RoadKit.slotOf Z "com/example/tallymark/tallymark/SnapshotJoin$Holding" "host" "Ljava/lang/String;" := slot_ne (C := "com/example/tallymark/tallymark/SnapshotJoin$Holding") (Or.inl (wd_150 hw)) (Or.inr (wd_139 hw)) (by decide) (t := .int) (t' := (.object "java/lang/String")) (by decide) (by decide)
theorem sne_130 {Z : State} {a0 : Array Value} (hw : HwT Z a0) : RoadKit.slotOf Z "com/example/tallymark/tallymark/SnapshotJoin$Holding" "licences" "I" ≠ RoadKit.slotOf Z "com/example/tallymark/tallymark/SnapshotJoin$Holding" "start" "J" := slot_ne (C := "com/example/tallymark/tallymark/SnapshotJoin$Holding") (Or.inl (wd_150 hw)) (Or.inr (wd_142 hw)) (by decide) (t := .int) (t' := .long) (by decide) (by decide)
theorem sne_131 {Z : State} {a0 : Array Value} (hw : HwT Z a0) : RoadKit.slotOf Z "com/example/tallymark/tallymark/SnapshotJoin$Holding" "licences" "I" ≠ RoadKit.slotOf Z "com/example/tallymark/tallymark/SnapshotJoin$Holding" "file" "Ljava/lang/String;" := slot_ne (C := "com/example/tallymark/tallymark/SnapshotJoin$Holding") (Or.inl (wd_150 hw)) (Or.inl (wd_144 hw)) (by decide) (t := .int) (t' := (.object "java/lang/String")) (by decide) (by decide)
theorem sne_132 {Z : State} {a0 : Array Value} (hw : HwT Z a0) : RoadKit.slotOf Z "com/example/tallymark/tallymark/SnapshotJoin$Holding" "licences" "I" ≠ RoadKit.slotOf Z "com/example/tallymark/tallymark/SnapshotJoin$Holding" "line" "J" := slot_ne (C := "com/example/tallymark/tallymark/SnapshotJoin$Holding") (Or.inl (wd_150 hw)) (Or.inl (wd_147 hw)) (by decide) (t := .int) (t' := .long) (by decide) (by decide)
theorem d_prog_109_method_1_57 : decode prog_109_method_1_code 57 = .ok (.aload_n 0, 1) := by decide +kernel
theorem d_prog_109_method_1_58 : decode prog_109_method_1_code 58 = .ok (.aload_n 1, 1) := by decide +kernel
theorem d_prog_109_method_1_59 : decode prog_109_method_1_code 59 = .ok (.getfield 27, 3) := by decide +kernel
theorem d_prog_109_method_1_62 : decode prog_109_method_1_code 62 = .ok (.putfield 44, 3) := by decide +kernel
theorem wd_151 {Z : State} {a0 : Array Value} (hw : HwT Z a0) : (Jvm.Cond.fieldLink "com/example/tallymark/tallymark/SnapshotJoin$Holding" (44 : Nat) "com/example/tallymark/tallymark/SnapshotJoin$Holding" "from" "J").before a0 Z = true := hw _ (List.mem_of_getElem? (i := 151) rfl)
theorem wd_152 {Z : State} {a0 : Array Value} (hw : HwT Z a0) : (Jvm.Cond.lays "com/example/tallymark/tallymark/SnapshotJoin$Holding" "com/example/tallymark/tallymark/SnapshotJoin$Holding" "from" "J").before a0 Z = true := hw _ (List.mem_of_getElem? (i := 152) rfl)
theorem sne_133 {Z : State} {a0 : Array Value} (hw : HwT Z a0) : RoadKit.slotOf Z "com/example/tallymark/tallymark/SnapshotJoin$Holding" "from" "J" ≠ RoadKit.slotOf Z "com/example/tallymark/tallymark/SnapshotJoin$Holding" "feature" "Ljava/lang/String;" := slot_ne (C := "com/example/tallymark/tallymark/SnapshotJoin$Holding") (Or.inl (wd_152 hw)) (Or.inr (wd_93 hw)) (by decide) (t := .long) (t' := (.object "java/lang/String")) (by decide) (by decide)
theorem sne_134 {Z : State} {a0 : Array Value} (hw : HwT Z a0) : RoadKit.slotOf Z "com/example/tallymark/tallymark/SnapshotJoin$Holding" "from" "J" ≠ RoadKit.slotOf Z "com/example/tallymark/tallymark/SnapshotJoin$Holding" "user" "Ljava/lang/String;" := slot_ne (C := "com/example/tallymark/tallymark/SnapshotJoin$Holding") (Or.inl (wd_152 hw)) (Or.inr (wd_132 hw)) (by decide) (t := .long) (t' := (.object "java/lang/String")) (by decide) (by decide)
theorem sne_135 {Z : State} {a0 : Array Value} (hw : HwT Z a0) : RoadKit.slotOf Z "com/example/tallymark/tallymark/SnapshotJoin$Holding" "from" "J" ≠ RoadKit.slotOf Z "com/example/tallymark/tallymark/SnapshotJoin$Holding" "host" "Ljava/lang/String;" := slot_ne (C := "com/example/tallymark/tallymark/SnapshotJoin$Holding") (Or.inl (wd_152 hw)) (Or.inr (wd_139 hw)) (by decide) (t := .long) (t' := (.object "java/lang/String")) (by decide) (by decide)
theorem sne_136 {Z : State} {a0 : Array Value} (hw : HwT Z a0) : RoadKit.slotOf Z "com/example/tallymark/tallymark/SnapshotJoin$Holding" "from" "J" ≠ RoadKit.slotOf Z "com/example/tallymark/tallymark/SnapshotJoin$Holding" "start" "J" := slot_ne (C := "com/example/tallymark/tallymark/SnapshotJoin$Holding") (Or.inl (wd_152 hw)) (Or.inr (wd_142 hw)) (by decide) (t := .long) (t' := .long) (by decide) (by decide)
theorem sne_137 {Z : State} {a0 : Array Value} (hw : HwT Z a0) : RoadKit.slotOf Z "com/example/tallymark/tallymark/SnapshotJoin$Holding" "from" "J" ≠ RoadKit.slotOf Z "com/example/tallymark/tallymark/SnapshotJoin$Holding" "file" "Ljava/lang/String;" := slot_ne (C := "com/example/tallymark/tallymark/SnapshotJoin$Holding") (Or.inl (wd_152 hw)) (Or.inl (wd_144 hw)) (by decide) (t := .long) (t' := (.object "java/lang/String")) (by decide) (by decide)
theorem sne_138 {Z : State} {a0 : Array Value} (hw : HwT Z a0) : RoadKit.slotOf Z "com/example/tallymark/tallymark/SnapshotJoin$Holding" "from" "J" ≠ RoadKit.slotOf Z "com/example/tallymark/tallymark/SnapshotJoin$Holding" "line" "J" := slot_ne (C := "com/example/tallymark/tallymark/SnapshotJoin$Holding") (Or.inl (wd_152 hw)) (Or.inl (wd_147 hw)) (by decide) (t := .long) (t' := .long) (by decide) (by decide)
theorem sne_139 {Z : State} {a0 : Array Value} (hw : HwT Z a0) : RoadKit.slotOf Z "com/example/tallymark/tallymark/SnapshotJoin$Holding" "from" "J" ≠ RoadKit.slotOf Z "com/example/tallymark/tallymark/SnapshotJoin$Holding" "licences" "I" := slot_ne (C := "com/example/tallymark/tallymark/SnapshotJoin$Holding") (Or.inl (wd_152 hw)) (Or.inl (wd_150 hw)) (by decide) (t := .long) (t' := .int) (by decide) (by decide)
theorem d_prog_109_method_1_65 : decode prog_109_method_1_code 65 = .ok (.aload_n 0, 1) := by decide +kernel
theorem d_prog_109_method_1_66 : decode prog_109_method_1_code 66 = .ok (.lload_n 3, 1) := by decide +kernel
theorem d_prog_109_method_1_67 : decode prog_109_method_1_code 67 = .ok (.putfield 47, 3) := by decide +kernel
theorem wd_153 {Z : State} {a0 : Array Value} (hw : HwT Z a0) : (Jvm.Cond.fieldLink "com/example/tallymark/tallymark/SnapshotJoin$Holding" (47 : Nat) "com/example/tallymark/tallymark/SnapshotJoin$Holding" "shown" "J").before a0 Z = true := hw _ (List.mem_of_getElem? (i := 153) rfl)
theorem wd_154 {Z : State} {a0 : Array Value} (hw : HwT Z a0) : (Jvm.Cond.lays "com/example/tallymark/tallymark/SnapshotJoin$Holding" "com/example/tallymark/tallymark/SnapshotJoin$Holding" "shown" "J").before a0 Z = true := hw _ (List.mem_of_getElem? (i := 154) rfl)
theorem sne_140 {Z : State} {a0 : Array Value} (hw : HwT Z a0) : RoadKit.slotOf Z "com/example/tallymark/tallymark/SnapshotJoin$Holding" "shown" "J" ≠ RoadKit.slotOf Z "com/example/tallymark/tallymark/SnapshotJoin$Holding" "feature" "Ljava/lang/String;" := slot_ne (C := "com/example/tallymark/tallymark/SnapshotJoin$Holding") (Or.inl (wd_154 hw)) (Or.inr (wd_93 hw)) (by decide) (t := .long) (t' := (.object "java/lang/String")) (by decide) (by decide)
theorem sne_141 {Z : State} {a0 : Array Value} (hw : HwT Z a0) : RoadKit.slotOf Z "com/example/tallymark/tallymark/SnapshotJoin$Holding" "shown" "J" ≠ RoadKit.slotOf Z "com/example/tallymark/tallymark/SnapshotJoin$Holding" "user" "Ljava/lang/String;" := slot_ne (C := "com/example/tallymark/tallymark/SnapshotJoin$Holding") (Or.inl (wd_154 hw)) (Or.inr (wd_132 hw)) (by decide) (t := .long) (t' := (.object "java/lang/String")) (by decide) (by decide)
theorem sne_142 {Z : State} {a0 : Array Value} (hw : HwT Z a0) : RoadKit.slotOf Z "com/example/tallymark/tallymark/SnapshotJoin$Holding" "shown" "J" ≠ RoadKit.slotOf Z "com/example/tallymark/tallymark/SnapshotJoin$Holding" "host" "Ljava/lang/String;" := slot_ne (C := "com/example/tallymark/tallymark/SnapshotJoin$Holding") (Or.inl (wd_154 hw)) (Or.inr (wd_139 hw)) (by decide) (t := .long) (t' := (.object "java/lang/String")) (by decide) (by decide)
theorem sne_143 {Z : State} {a0 : Array Value} (hw : HwT Z a0) : RoadKit.slotOf Z "com/example/tallymark/tallymark/SnapshotJoin$Holding" "shown" "J" ≠ RoadKit.slotOf Z "com/example/tallymark/tallymark/SnapshotJoin$Holding" "start" "J" := slot_ne (C := "com/example/tallymark/tallymark/SnapshotJoin$Holding") (Or.inl (wd_154 hw)) (Or.inr (wd_142 hw)) (by decide) (t := .long) (t' := .long) (by decide) (by decide)
theorem sne_144 {Z : State} {a0 : Array Value} (hw : HwT Z a0) : RoadKit.slotOf Z "com/example/tallymark/tallymark/SnapshotJoin$Holding" "shown" "J" ≠ RoadKit.slotOf Z "com/example/tallymark/tallymark/SnapshotJoin$Holding" "file" "Ljava/lang/String;" := slot_ne (C := "com/example/tallymark/tallymark/SnapshotJoin$Holding") (Or.inl (wd_154 hw)) (Or.inl (wd_144 hw)) (by decide) (t := .long) (t' := (.object "java/lang/String")) (by decide) (by decide)
theorem sne_145 {Z : State} {a0 : Array Value} (hw : HwT Z a0) : RoadKit.slotOf Z "com/example/tallymark/tallymark/SnapshotJoin$Holding" "shown" "J" ≠ RoadKit.slotOf Z "com/example/tallymark/tallymark/SnapshotJoin$Holding" "line" "J" := slot_ne (C := "com/example/tallymark/tallymark/SnapshotJoin$Holding") (Or.inl (wd_154 hw)) (Or.inl (wd_147 hw)) (by decide) (t := .long) (t' := .long) (by decide) (by decide)
theorem sne_146 {Z : State} {a0 : Array Value} (hw : HwT Z a0) : RoadKit.slotOf Z "com/example/tallymark/tallymark/SnapshotJoin$Holding" "shown" "J" ≠ RoadKit.slotOf Z "com/example/tallymark/tallymark/SnapshotJoin$Holding" "licences" "I" := slot_ne (C := "com/example/tallymark/tallymark/SnapshotJoin$Holding") (Or.inl (wd_154 hw)) (Or.inl (wd_150 hw)) (by decide) (t := .long) (t' := .int) (by decide) (by decide)
theorem sne_147 {Z : State} {a0 : Array Value} (hw : HwT Z a0) : RoadKit.slotOf Z "com/example/tallymark/tallymark/SnapshotJoin$Holding" "shown" "J" ≠ RoadKit.slotOf Z "com/example/tallymark/tallymark/SnapshotJoin$Holding" "from" "J" := slot_ne (C := "com/example/tallymark/tallymark/SnapshotJoin$Holding") (Or.inl (wd_154 hw)) (Or.inl (wd_152 hw)) (by decide) (t := .long) (t' := .long) (by decide) (by decide)
theorem d_prog_109_method_1_70 : decode prog_109_method_1_code 70 = .ok (.return_, 1) := by decide +kernel
theorem sne_148 {Z : State} {a0 : Array Value} (hw : HwT Z a0) : RoadKit.slotOf Z "com/example/tallymark/tallymark/SnapshotJoin$Holding" "feature" "Ljava/lang/String;" ≠ RoadKit.slotOf Z "com/example/tallymark/tallymark/SnapshotJoin$Holding" "user" "Ljava/lang/String;" := slot_ne (C := "com/example/tallymark/tallymark/SnapshotJoin$Holding") (Or.inr (wd_93 hw)) (Or.inr (wd_132 hw)) (by decide) (t := (.object "java/lang/String")) (t' := (.object "java/lang/String")) (by decide) (by decide)
theorem sne_149 {Z : State} {a0 : Array Value} (hw : HwT Z a0) : RoadKit.slotOf Z "com/example/tallymark/tallymark/SnapshotJoin$Holding" "feature" "Ljava/lang/String;" ≠ RoadKit.slotOf Z "com/example/tallymark/tallymark/SnapshotJoin$Holding" "host" "Ljava/lang/String;" := slot_ne (C := "com/example/tallymark/tallymark/SnapshotJoin$Holding") (Or.inr (wd_93 hw)) (Or.inr (wd_139 hw)) (by decide) (t := (.object "java/lang/String")) (t' := (.object "java/lang/String")) (by decide) (by decide)
theorem sne_150 {Z : State} {a0 : Array Value} (hw : HwT Z a0) : RoadKit.slotOf Z "com/example/tallymark/tallymark/SnapshotJoin$Holding" "feature" "Ljava/lang/String;" ≠ RoadKit.slotOf Z "com/example/tallymark/tallymark/SnapshotJoin$Holding" "start" "J" := slot_ne (C := "com/example/tallymark/tallymark/SnapshotJoin$Holding") (Or.inr (wd_93 hw)) (Or.inr (wd_142 hw)) (by decide) (t := (.object "java/lang/String")) (t' := .long) (by decide) (by decide)
theorem sne_151 {Z : State} {a0 : Array Value} (hw : HwT Z a0) : RoadKit.slotOf Z "com/example/tallymark/tallymark/SnapshotJoin$Holding" "feature" "Ljava/lang/String;" ≠ RoadKit.slotOf Z "com/example/tallymark/tallymark/SnapshotJoin$Holding" "file" "Ljava/lang/String;" := slot_ne (C := "com/example/tallymark/tallymark/SnapshotJoin$Holding") (Or.inr (wd_93 hw)) (Or.inl (wd_144 hw)) (by decide) (t := (.object "java/lang/String")) (t' := (.object "java/lang/String")) (by decide) (by decide)
theorem sne_152 {Z : State} {a0 : Array Value} (hw : HwT Z a0) : RoadKit.slotOf Z "com/example/tallymark/tallymark/SnapshotJoin$Holding" "feature" "Ljava/lang/String;" ≠ RoadKit.slotOf Z "com/example/tallymark/tallymark/SnapshotJoin$Holding" "line" "J" := slot_ne (C := "com/example/tallymark/tallymark/SnapshotJoin$Holding") (Or.inr (wd_93 hw)) (Or.inl (wd_147 hw)) (by decide) (t := (.object "java/lang/String")) (t' := .long) (by decide) (by decide)
theorem sne_153 {Z : State} {a0 : Array Value} (hw : HwT Z a0) : RoadKit.slotOf Z "com/example/tallymark/tallymark/SnapshotJoin$Holding" "feature" "Ljava/lang/String;" ≠ RoadKit.slotOf Z "com/example/tallymark/tallymark/SnapshotJoin$Holding" "licences" "I" := slot_ne (C := "com/example/tallymark/tallymark/SnapshotJoin$Holding") (Or.inr (wd_93 hw)) (Or.inl (wd_150 hw)) (by decide) (t := (.object "java/lang/String")) (t' := .int) (by decide) (by decide)
theorem sne_154 {Z : State} {a0 : Array Value} (hw : HwT Z a0) : RoadKit.slotOf Z "com/example/tallymark/tallymark/SnapshotJoin$Holding" "feature" "Ljava/lang/String;" ≠ RoadKit.slotOf Z "com/example/tallymark/tallymark/SnapshotJoin$Holding" "from" "J" := slot_ne (C := "com/example/tallymark/tallymark/SnapshotJoin$Holding") (Or.inr (wd_93 hw)) (Or.inl (wd_152 hw)) (by decide) (t := (.object "java/lang/String")) (t' := .long) (by decide) (by decide)
theorem sne_155 {Z : State} {a0 : Array Value} (hw : HwT Z a0) : RoadKit.slotOf Z "com/example/tallymark/tallymark/SnapshotJoin$Holding" "feature" "Ljava/lang/String;" ≠ RoadKit.slotOf Z "com/example/tallymark/tallymark/SnapshotJoin$Holding" "shown" "J" := slot_ne (C := "com/example/tallymark/tallymark/SnapshotJoin$Holding") (Or.inr (wd_93 hw)) (Or.inl (wd_154 hw)) (by decide) (t := (.object "java/lang/String")) (t' := .long) (by decide) (by decide)
theorem sne_156 {Z : State} {a0 : Array Value} (hw : HwT Z a0) : RoadKit.slotOf Z "com/example/tallymark/tallymark/SnapshotJoin$Holding" "user" "Ljava/lang/String;" ≠ RoadKit.slotOf Z "com/example/tallymark/tallymark/SnapshotJoin$Holding" "host" "Ljava/lang/String;" := slot_ne (C := "com/example/tallymark/tallymark/SnapshotJoin$Holding") (Or.inr (wd_132 hw)) (Or.inr (wd_139 hw)) (by decide) (t := (.object "java/lang/String")) (t' := (.object "java/lang/String")) (by decide) (by decide)
theorem sne_157 {Z : State} {a0 : Array Value} (hw : HwT Z a0) : RoadKit.slotOf Z "com/example/tallymark/tallymark/SnapshotJoin$Holding" "user" "Ljava/lang/String;" ≠ RoadKit.slotOf Z "com/example/tallymark/tallymark/SnapshotJoin$Holding" "start" "J" := slot_ne (C := "com/example/tallymark/tallymark/SnapshotJoin$Holding") (Or.inr (wd_132 hw)) (Or.inr (wd_142 hw)) (by decide) (t := (.object "java/lang/String")) (t' := .long) (by decide) (by decide)
theorem sne_158 {Z : State} {a0 : Array Value} (hw : HwT Z a0) : RoadKit.slotOf Z "com/example/tallymark/tallymark/SnapshotJoin$Holding" "user" "Ljava/lang/String;" ≠ RoadKit.slotOf Z "com/example/tallymark/tallymark/SnapshotJoin$Holding" "file" "Ljava/lang/String;" := slot_ne (C := "com/example/tallymark/tallymark/SnapshotJoin$Holding") (Or.inr (wd_132 hw)) (Or.inl (wd_144 hw)) (by decide) (t := (.object "java/lang/String")) (t' := (.object "java/lang/String")) (by decide) (by decide)
theorem sne_159 {Z : State} {a0 : Array Value} (hw : HwT Z a0) : RoadKit.slotOf Z "com/example/tallymark/tallymark/SnapshotJoin$Holding" "user" "Ljava/lang/String;" ≠ RoadKit.slotOf Z "com/example/tallymark/tallymark/SnapshotJoin$Holding" "line" "J" := slot_ne (C := "com/example/tallymark/tallymark/SnapshotJoin$Holding") (Or.inr (wd_132 hw)) (Or.inl (wd_147 hw)) (by decide) (t := (.object "java/lang/String")) (t' := .long) (by decide) (by decide)
theorem sne_160 {Z : State} {a0 : Array Value} (hw : HwT Z a0) : RoadKit.slotOf Z "com/example/tallymark/tallymark/SnapshotJoin$Holding" "user" "Ljava/lang/String;" ≠ RoadKit.slotOf Z "com/example/tallymark/tallymark/SnapshotJoin$Holding" "licences" "I" := slot_ne (C := "com/example/tallymark/tallymark/SnapshotJoin$Holding") (Or.inr (wd_132 hw)) (Or.inl (wd_150 hw)) (by decide) (t := (.object "java/lang/String")) (t' := .int) (by decide) (by decide)
theorem sne_161 {Z : State} {a0 : Array Value} (hw : HwT Z a0) : RoadKit.slotOf Z "com/example/tallymark/tallymark/SnapshotJoin$Holding" "user" "Ljava/lang/String;" ≠ RoadKit.slotOf Z "com/example/tallymark/tallymark/SnapshotJoin$Holding" "from" "J" := slot_ne (C := "com/example/tallymark/tallymark/SnapshotJoin$Holding") (Or.inr (wd_132 hw)) (Or.inl (wd_152 hw)) (by decide) (t := (.object "java/lang/String")) (t' := .long) (by decide) (by decide)
theorem sne_162 {Z : State} {a0 : Array Value} (hw : HwT Z a0) : RoadKit.slotOf Z "com/example/tallymark/tallymark/SnapshotJoin$Holding" "user" "Ljava/lang/String;" ≠ RoadKit.slotOf Z "com/example/tallymark/tallymark/SnapshotJoin$Holding" "shown" "J" := slot_ne (C := "com/example/tallymark/tallymark/SnapshotJoin$Holding") (Or.inr (wd_132 hw)) (Or.inl (wd_154 hw)) (by decide) (t := (.object "java/lang/String")) (t' := .long) (by decide) (by decide)
theorem sne_163 {Z : State} {a0 : Array Value} (hw : HwT Z a0) : RoadKit.slotOf Z "com/example/tallymark/tallymark/SnapshotJoin$Holding" "host" "Ljava/lang/String;" ≠ RoadKit.slotOf Z "com/example/tallymark/tallymark/SnapshotJoin$Holding" "start" "J" := slot_ne (C := "com/example/tallymark/tallymark/SnapshotJoin$Holding") (Or.inr (wd_139 hw)) (Or.inr (wd_142 hw)) (by decide) (t := (.object "java/lang/String")) (t' := .long) (by decide) (by decide)
theorem sne_164 {Z : State} {a0 : Array Value} (hw : HwT Z a0) : RoadKit.slotOf Z "com/example/tallymark/tallymark/SnapshotJoin$Holding" "host" "Ljava/lang/String;" ≠ RoadKit.slotOf Z "com/example/tallymark/tallymark/SnapshotJoin$Holding" "file" "Ljava/lang/String;" := slot_ne (C := "com/example/tallymark/tallymark/SnapshotJoin$Holding") (Or.inr (wd_139 hw)) (Or.inl (wd_144 hw)) (by decide) (t := (.object "java/lang/String")) (t' := (.object "java/lang/String")) (by decide) (by decide)
theorem sne_165 {Z : State} {a0 : Array Value} (hw : HwT Z a0) : RoadKit.slotOf Z "com/example/tallymark/tallymark/SnapshotJoin$Holding" "host" "Ljava/lang/String;" ≠ RoadKit.slotOf Z "com/example/tallymark/tallymark/SnapshotJoin$Holding" "line" "J" := slot_ne (C := "com/example/tallymark/tallymark/SnapshotJoin$Holding") (Or.inr (wd_139 hw)) (Or.inl (wd_147 hw)) (by decide) (t := (.object "java/lang/String")) (t' := .long) (by decide) (by decide)
theorem sne_166 {Z : State} {a0 : Array Value} (hw : HwT Z a0) : RoadKit.slotOf Z "com/example/tallymark/tallymark/SnapshotJoin$Holding" "host" "Ljava/lang/String;" ≠ RoadKit.slotOf Z "com/example/tallymark/tallymark/SnapshotJoin$Holding" "licences" "I" := slot_ne (C := "com/example/tallymark/tallymark/SnapshotJoin$Holding") (Or.inr (wd_139 hw)) (Or.inl (wd_150 hw)) (by decide) (t := (.object "java/lang/String")) (t' := .int) (by decide) (by decide)
theorem sne_167 {Z : State} {a0 : Array Value} (hw : HwT Z a0) : RoadKit.slotOf Z "com/example/tallymark/tallymark/SnapshotJoin$Holding" "host" "Ljava/lang/String;" ≠ RoadKit.slotOf Z "com/example/tallymark/tallymark/SnapshotJoin$Holding" "from" "J" := slot_ne (C := "com/example/tallymark/tallymark/SnapshotJoin$Holding") (Or.inr (wd_139 hw)) (Or.inl (wd_152 hw)) (by decide) (t := (.object "java/lang/String")) (t' := .long) (by decide) (by decide)
theorem sne_168 {Z : State} {a0 : Array Value} (hw : HwT Z a0) : RoadKit.slotOf Z "com/example/tallymark/tallymark/SnapshotJoin$Holding" "host" "Ljava/lang/String;" ≠ RoadKit.slotOf Z "com/example/tallymark/tallymark/SnapshotJoin$Holding" "shown" "J" := slot_ne (C := "com/example/tallymark/tallymark/SnapshotJoin$Holding") (Or.inr (wd_139 hw)) (Or.inl (wd_154 hw)) (by decide) (t := (.object "java/lang/String")) (t' := .long) (by decide) (by decide)
theorem sne_169 {Z : State} {a0 : Array Value} (hw : HwT Z a0) : RoadKit.slotOf Z "com/example/tallymark/tallymark/SnapshotJoin$Holding" "start" "J" ≠ RoadKit.slotOf Z "com/example/tallymark/tallymark/SnapshotJoin$Holding" "file" "Ljava/lang/String;" := slot_ne (C := "com/example/tallymark/tallymark/SnapshotJoin$Holding") (Or.inr (wd_142 hw)) (Or.inl (wd_144 hw)) (by decide) (t := .long) (t' := (.object "java/lang/String")) (by decide) (by decide)
theorem sne_170 {Z : State} {a0 : Array Value} (hw : HwT Z a0) : RoadKit.slotOf Z "com/example/tallymark/tallymark/SnapshotJoin$Holding" "start" "J" ≠ RoadKit.slotOf Z "com/example/tallymark/tallymark/SnapshotJoin$Holding" "line" "J" := slot_ne (C := "com/example/tallymark/tallymark/SnapshotJoin$Holding") (Or.inr (wd_142 hw)) (Or.inl (wd_147 hw)) (by decide) (t := .long) (t' := .long) (by decide) (by decide)
theorem sne_171 {Z : State} {a0 : Array Value} (hw : HwT Z a0) : RoadKit.slotOf Z "com/example/tallymark/tallymark/SnapshotJoin$Holding" "start" "J" ≠ RoadKit.slotOf Z "com/example/tallymark/tallymark/SnapshotJoin$Holding" "licences" "I" := slot_ne (C := "com/example/tallymark/tallymark/SnapshotJoin$Holding") (Or.inr (wd_142 hw)) (Or.inl (wd_150 hw)) (by decide) (t := .long) (t' := .int) (by decide) (by decide)
theorem sne_172 {Z : State} {a0 : Array Value} (hw : HwT Z a0) : RoadKit.slotOf Z "com/example/tallymark/tallymark/SnapshotJoin$Holding" "start" "J" ≠ RoadKit.slotOf Z "com/example/tallymark/tallymark/SnapshotJoin$Holding" "from" "J" := slot_ne (C := "com/example/tallymark/tallymark/SnapshotJoin$Holding") (Or.inr (wd_142 hw)) (Or.inl (wd_152 hw)) (by decide) (t := .long) (t' := .long) (by decide) (by decide)
theorem sne_173 {Z : State} {a0 : Array Value} (hw : HwT Z a0) : RoadKit.slotOf Z "com/example/tallymark/tallymark/SnapshotJoin$Holding" "start" "J" ≠ RoadKit.slotOf Z "com/example/tallymark/tallymark/SnapshotJoin$Holding" "shown" "J" := slot_ne (C := "com/example/tallymark/tallymark/SnapshotJoin$Holding") (Or.inr (wd_142 hw)) (Or.inl (wd_154 hw)) (by decide) (t := .long) (t' := .long) (by decide) (by decide)
theorem sne_174 {Z : State} {a0 : Array Value} (hw : HwT Z a0) : RoadKit.slotOf Z "com/example/tallymark/tallymark/SnapshotJoin$Holding" "line" "J" ≠ RoadKit.slotOf Z "com/example/tallymark/tallymark/SnapshotJoin$Holding" "licences" "I" := slot_ne (C := "com/example/tallymark/tallymark/SnapshotJoin$Holding") (Or.inl (wd_147 hw)) (Or.inl (wd_150 hw)) (by decide) (t := .long) (t' := .int) (by decide) (by decide)
theorem sne_175 {Z : State} {a0 : Array Value} (hw : HwT Z a0) : RoadKit.slotOf Z "com/example/tallymark/tallymark/SnapshotJoin$Holding" "line" "J" ≠ RoadKit.slotOf Z "com/example/tallymark/tallymark/SnapshotJoin$Holding" "from" "J" := slot_ne (C := "com/example/tallymark/tallymark/SnapshotJoin$Holding") (Or.inl (wd_147 hw)) (Or.inl (wd_152 hw)) (by decide) (t := .long) (t' := .long) (by decide) (by decide)
theorem sne_176 {Z : State} {a0 : Array Value} (hw : HwT Z a0) : RoadKit.slotOf Z "com/example/tallymark/tallymark/SnapshotJoin$Holding" "line" "J" ≠ RoadKit.slotOf Z "com/example/tallymark/tallymark/SnapshotJoin$Holding" "shown" "J" := slot_ne (C := "com/example/tallymark/tallymark/SnapshotJoin$Holding") (Or.inl (wd_147 hw)) (Or.inl (wd_154 hw)) (by decide) (t := .long) (t' := .long) (by decide) (by decide)
theorem sne_177 {Z : State} {a0 : Array Value} (hw : HwT Z a0) : RoadKit.slotOf Z "com/example/tallymark/tallymark/SnapshotJoin$Holding" "licences" "I" ≠ RoadKit.slotOf Z "com/example/tallymark/tallymark/SnapshotJoin$Holding" "from" "J" := slot_ne (C := "com/example/tallymark/tallymark/SnapshotJoin$Holding") (Or.inl (wd_150 hw)) (Or.inl (wd_152 hw)) (by decide) (t := .int) (t' := .long) (by decide) (by decide)
theorem sne_178 {Z : State} {a0 : Array Value} (hw : HwT Z a0) : RoadKit.slotOf Z "com/example/tallymark/tallymark/SnapshotJoin$Holding" "licences" "I" ≠ RoadKit.slotOf Z "com/example/tallymark/tallymark/SnapshotJoin$Holding" "shown" "J" := slot_ne (C := "com/example/tallymark/tallymark/SnapshotJoin$Holding") (Or.inl (wd_150 hw)) (Or.inl (wd_154 hw)) (by decide) (t := .int) (t' := .long) (by decide) (by decide)
theorem sne_179 {Z : State} {a0 : Array Value} (hw : HwT Z a0) : RoadKit.slotOf Z "com/example/tallymark/tallymark/SnapshotJoin$Holding" "from" "J" ≠ RoadKit.slotOf Z "com/example/tallymark/tallymark/SnapshotJoin$Holding" "shown" "J" := slot_ne (C := "com/example/tallymark/tallymark/SnapshotJoin$Holding") (Or.inl (wd_152 hw)) (Or.inl (wd_154 hw)) (by decide) (t := .long) (t' := .long) (by decide) (by decide)
theorem pn_7 : plainName "com/example/tallymark/tallymark/SnapshotJoin$Holding" = true := by first | (simp [plainName, overriddenIn]; done) | decide +kernel
theorem wd_0 {Z : State} {a0 : Array Value} (hw : HwT Z a0) : (Jvm.Cond.arrayClass Jvm.ClassFile.FieldType.char).before a0 Z = true := hw _ (List.mem_of_getElem? (i := 0) rfl)
theorem wd_1 {Z : State} {a0 : Array Value} (hw : HwT Z a0) : (Jvm.Cond.classLink "com/example/tallymark/tallymark/HoldingLineSetPinLaw" (7 : Nat) "java/lang/String").before a0 Z = true := hw _ (List.mem_of_getElem? (i := 1) rfl)
theorem wd_4 {Z : State} {a0 : Array Value} (hw : HwT Z a0) : (Jvm.Cond.methodLink "com/example/tallymark/tallymark/HoldingLineSetPinLaw" (9 : Nat) ({ cls := "java/lang/String", name := "<init>", desc := "([C)V" } : Jvm.MethodName)).before a0 Z = true := hw _ (List.mem_of_getElem? (i := 4) rfl)
theorem wd_6 {Z : State} {a0 : Array Value} (hw : HwT Z a0) : (Jvm.Cond.code ({ cls := "java/lang/String", name := "<init>", desc := "([C)V" } : Jvm.MethodName) jdk_42_method_3_code (2 : Nat) (Option.none : Option Jvm.ClassFile.FieldType)).before a0 Z = true := hw _ (List.mem_of_getElem? (i := 6) rfl)
theorem pd_21 : parseMethodDescriptor "([C)V" = some ⟨[(.array .char)], none⟩ := by decide +kernel
theorem wd_5 {Z : State} {a0 : Array Value} (hw : HwT Z a0) : (Jvm.Cond.instanceMethod ({ cls := "java/lang/String", name := "<init>", desc := "([C)V" } : Jvm.MethodName)).before a0 Z = true := hw _ (List.mem_of_getElem? (i := 5) rfl)
theorem wd_30 {Z : State} {a0 : Array Value} (hw : HwT Z a0) : (Jvm.Cond.methodLink "com/example/tallymark/tallymark/HoldingLineSetPinLaw" (12 : Nat) ({ cls := "java/lang/String", name := "valueOf", desc := "(C)Ljava/lang/String;" } : Jvm.MethodName)).before a0 Z = true := hw _ (List.mem_of_getElem? (i := 30) rfl)
theorem wd_32 {Z : State} {a0 : Array Value} (hw : HwT Z a0) : (Jvm.Cond.code ({ cls := "java/lang/String", name := "valueOf", desc := "(C)Ljava/lang/String;" } : Jvm.MethodName) jdk_42_method_139_code (1 : Nat) (Option.some (Jvm.ClassFile.FieldType.object "java/lang/String"))).before a0 Z = true := hw _ (List.mem_of_getElem? (i := 32) rfl)
theorem pd_22 : parseMethodDescriptor "(C)Ljava/lang/String;" = some ⟨[.char], some (.object "java/lang/String")⟩ := by decide +kernel
theorem wd_31 {Z : State} {a0 : Array Value} (hw : HwT Z a0) : (Jvm.Cond.static ({ cls := "java/lang/String", name := "valueOf", desc := "(C)Ljava/lang/String;" } : Jvm.MethodName)).before a0 Z = true := hw _ (List.mem_of_getElem? (i := 31) rfl)
theorem wd_44 {Z : State} {a0 : Array Value} (hw : HwT Z a0) : (Jvm.Cond.classLink "com/example/tallymark/tallymark/HoldingLineSetPinLaw" (16 : Nat) "com/example/tallymark/tallymark/SnapshotJoin$HoldingLine").before a0 Z = true := hw _ (List.mem_of_getElem? (i := 44) rfl)
theorem wd_47 {Z : State} {a0 : Array Value} (hw : HwT Z a0) : (Jvm.Cond.methodLink "com/example/tallymark/tallymark/HoldingLineSetPinLaw" (18 : Nat) ({ cls := "com/example/tallymark/tallymark/SnapshotJoin$HoldingLine", name := "<init>", desc := "()V" } : Jvm.MethodName)).before a0 Z = true := hw _ (List.mem_of_getElem? (i := 47) rfl)
theorem wd_49 {Z : State} {a0 : Array Value} (hw : HwT Z a0) : (Jvm.Cond.code ({ cls := "com/example/tallymark/tallymark/SnapshotJoin$HoldingLine", name := "<init>", desc := "()V" } : Jvm.MethodName) prog_110_method_1_code (1 : Nat) (Option.none : Option Jvm.ClassFile.FieldType)).before a0 Z = true := hw _ (List.mem_of_getElem? (i := 49) rfl)
theorem pd_23 : parseMethodDescriptor "()V" = some ⟨[], none⟩ := by decide +kernel
theorem wd_48 {Z : State} {a0 : Array Value} (hw : HwT Z a0) : (Jvm.Cond.instanceMethod ({ cls := "com/example/tallymark/tallymark/SnapshotJoin$HoldingLine", name := "<init>", desc := "()V" } : Jvm.MethodName)).before a0 Z = true := hw _ (List.mem_of_getElem? (i := 48) rfl)
theorem wd_55 {Z : State} {a0 : Array Value} (hw : HwT Z a0) : (Jvm.Cond.constantLong "com/example/tallymark/tallymark/HoldingLineSetPinLaw" (23 : Nat) (-1 : Int64)).before a0 Z = true := hw _ (List.mem_of_getElem? (i := 55) rfl)
theorem wd_56 {Z : State} {a0 : Array Value} (hw : HwT Z a0) : (Jvm.Cond.methodLink "com/example/tallymark/tallymark/HoldingLineSetPinLaw" (25 : Nat) ({ cls := "com/example/tallymark/tallymark/SnapshotJoin$HoldingLine", name := "set", desc := "(Ljava/lang/String;IIIILjava/lang/String;Ljava/lang/String;Ljava/lang/String;JIJ)V" } : Jvm.MethodName)).before a0 Z = true := hw _ (List.mem_of_getElem? (i := 56) rfl)
theorem wd_59 {Z : State} {a0 : Array Value} (hw : HwT Z a0) : (Jvm.Cond.selects "com/example/tallymark/tallymark/SnapshotJoin$HoldingLine" ({ cls := "com/example/tallymark/tallymark/SnapshotJoin$HoldingLine", name := "set", desc := "(Ljava/lang/String;IIIILjava/lang/String;Ljava/lang/String;Ljava/lang/String;JIJ)V" } : Jvm.MethodName) ({ cls := "com/example/tallymark/tallymark/SnapshotJoin$HoldingLine", name := "set", desc := "(Ljava/lang/String;IIIILjava/lang/String;Ljava/lang/String;Ljava/lang/String;JIJ)V" } : Jvm.MethodName)).before a0 Z = true := hw _ (List.mem_of_getElem? (i := 59) rfl)
theorem wd_60 {Z : State} {a0 : Array Value} (hw : HwT Z a0) : (Jvm.Cond.code ({ cls := "com/example/tallymark/tallymark/SnapshotJoin$HoldingLine", name := "set", desc := "(Ljava/lang/String;IIIILjava/lang/String;Ljava/lang/String;Ljava/lang/String;JIJ)V" } : Jvm.MethodName) prog_110_method_2_code (14 : Nat) (Option.none : Option Jvm.ClassFile.FieldType)).before a0 Z = true := hw _ (List.mem_of_getElem? (i := 60) rfl)
theorem pd_24 : parseMethodDescriptor "(Ljava/lang/String;IIIILjava/lang/String;Ljava/lang/String;Ljava/lang/String;JIJ)V" = some ⟨[(.object "java/lang/String"), .int, .int, .int, .int, (.object "java/lang/String"), (.object "java/lang/String"), (.object "java/lang/String"), .long, .int, .long], none⟩ := by decide +kernel
theorem wd_57 {Z : State} {a0 : Array Value} (hw : HwT Z a0) : (Jvm.Cond.declares ({ cls := "com/example/tallymark/tallymark/SnapshotJoin$HoldingLine", name := "set", desc := "(Ljava/lang/String;IIIILjava/lang/String;Ljava/lang/String;Ljava/lang/String;JIJ)V" } : Jvm.MethodName)).before a0 Z = true := hw _ (List.mem_of_getElem? (i := 57) rfl)
theorem wd_58 {Z : State} {a0 : Array Value} (hw : HwT Z a0) : (Jvm.Cond.instanceMethod ({ cls := "com/example/tallymark/tallymark/SnapshotJoin$HoldingLine", name := "set", desc := "(Ljava/lang/String;IIIILjava/lang/String;Ljava/lang/String;Ljava/lang/String;JIJ)V" } : Jvm.MethodName)).before a0 Z = true := hw _ (List.mem_of_getElem? (i := 58) rfl)
theorem wd_83 {Z : State} {a0 : Array Value} (hw : HwT Z a0) : (Jvm.Cond.classLink "com/example/tallymark/tallymark/HoldingLineSetPinLaw" (29 : Nat) "com/example/tallymark/tallymark/SnapshotJoin$Holding").before a0 Z = true := hw _ (List.mem_of_getElem? (i := 83) rfl)
theorem wd_85 {Z : State} {a0 : Array Value} (hw : HwT Z a0) : (Jvm.Cond.initialized "com/example/tallymark/tallymark/SnapshotJoin$Holding").before a0 Z = true := hw _ (List.mem_of_getElem? (i := 85) rfl)
theorem wd_87 {Z : State} {a0 : Array Value} (hw : HwT Z a0) : (Jvm.Cond.methodLink "com/example/tallymark/tallymark/HoldingLineSetPinLaw" (33 : Nat) ({ cls := "com/example/tallymark/tallymark/SnapshotJoin$Holding", name := "<init>", desc := "(Lcom/example/tallymark/tallymark/SnapshotJoin$HoldingLine;Ljava/lang/String;J)V" } : Jvm.MethodName)).before a0 Z = true := hw _ (List.mem_of_getElem? (i := 87) rfl)
theorem wd_89 {Z : State} {a0 : Array Value} (hw : HwT Z a0) : (Jvm.Cond.code ({ cls := "com/example/tallymark/tallymark/SnapshotJoin$Holding", name := "<init>", desc := "(Lcom/example/tallymark/tallymark/SnapshotJoin$HoldingLine;Ljava/lang/String;J)V" } : Jvm.MethodName) prog_109_method_1_code (5 : Nat) (Option.none : Option Jvm.ClassFile.FieldType)).before a0 Z = true := hw _ (List.mem_of_getElem? (i := 89) rfl)
theorem pd_25 : parseMethodDescriptor "(Lcom/example/tallymark/tallymark/SnapshotJoin$HoldingLine;Ljava/lang/String;J)V" = some ⟨[(.object "com/example/tallymark/tallymark/SnapshotJoin$HoldingLine"), (.object "java/lang/String"), .long], none⟩ := by decide +kernel
theorem wd_88 {Z : State} {a0 : Array Value} (hw : HwT Z a0) : (Jvm.Cond.instanceMethod ({ cls := "com/example/tallymark/tallymark/SnapshotJoin$Holding", name := "<init>", desc := "(Lcom/example/tallymark/tallymark/SnapshotJoin$HoldingLine;Ljava/lang/String;J)V" } : Jvm.MethodName)).before a0 Z = true := hw _ (List.mem_of_getElem? (i := 88) rfl)
theorem wd_155 {Z : State} {a0 : Array Value} (hw : HwT Z a0) : (Jvm.Cond.fieldLink "com/example/tallymark/tallymark/HoldingLineSetPinLaw" (36 : Nat) "com/example/tallymark/tallymark/SnapshotJoin$Holding" "feature" "Ljava/lang/String;").before a0 Z = true := hw _ (List.mem_of_getElem? (i := 155) rfl)
theorem wd_156 {Z : State} {a0 : Array Value} (hw : HwT Z a0) : (Jvm.Cond.methodLink "com/example/tallymark/tallymark/HoldingLineSetPinLaw" (40 : Nat) ({ cls := "java/lang/String", name := "equals", desc := "(Ljava/lang/Object;)Z" } : Jvm.MethodName)).before a0 Z = true := hw _ (List.mem_of_getElem? (i := 156) rfl)
theorem wd_159 {Z : State} {a0 : Array Value} (hw : HwT Z a0) : (Jvm.Cond.selects "java/lang/String" ({ cls := "java/lang/String", name := "equals", desc := "(Ljava/lang/Object;)Z" } : Jvm.MethodName) ({ cls := "java/lang/String", name := "equals", desc := "(Ljava/lang/Object;)Z" } : Jvm.MethodName)).before a0 Z = true := hw _ (List.mem_of_getElem? (i := 159) rfl)
theorem wd_160 {Z : State} {a0 : Array Value} (hw : HwT Z a0) : (Jvm.Cond.code ({ cls := "java/lang/String", name := "equals", desc := "(Ljava/lang/Object;)Z" } : Jvm.MethodName) jdk_42_method_66_code (3 : Nat) (Option.some Jvm.ClassFile.FieldType.boolean)).before a0 Z = true := hw _ (List.mem_of_getElem? (i := 160) rfl)
theorem pd_26 : parseMethodDescriptor "(Ljava/lang/Object;)Z" = some ⟨[(.object "java/lang/Object")], some .boolean⟩ := by decide +kernel
theorem wd_157 {Z : State} {a0 : Array Value} (hw : HwT Z a0) : (Jvm.Cond.declares ({ cls := "java/lang/String", name := "equals", desc := "(Ljava/lang/Object;)Z" } : Jvm.MethodName)).before a0 Z = true := hw _ (List.mem_of_getElem? (i := 157) rfl)
theorem wd_158 {Z : State} {a0 : Array Value} (hw : HwT Z a0) : (Jvm.Cond.instanceMethod ({ cls := "java/lang/String", name := "equals", desc := "(Ljava/lang/Object;)Z" } : Jvm.MethodName)).before a0 Z = true := hw _ (List.mem_of_getElem? (i := 158) rfl)
theorem wd_161 {Z : State} {a0 : Array Value} (hw : HwT Z a0) : (Jvm.Cond.fieldLink "com/example/tallymark/tallymark/HoldingLineSetPinLaw" (44 : Nat) "com/example/tallymark/tallymark/SnapshotJoin$Holding" "user" "Ljava/lang/String;").before a0 Z = true := hw _ (List.mem_of_getElem? (i := 161) rfl)
theorem wd_162 {Z : State} {a0 : Array Value} (hw : HwT Z a0) : (Jvm.Cond.methodLink "com/example/tallymark/tallymark/HoldingLineSetPinLaw" (47 : Nat) ({ cls := "com/example/tallymark/tallymark/HoldingLineSetPinLaw", name := "matches", desc := "(Ljava/lang/String;[CII)Z" } : Jvm.MethodName)).before a0 Z = true := hw _ (List.mem_of_getElem? (i := 162) rfl)
theorem wd_165 {Z : State} {a0 : Array Value} (hw : HwT Z a0) : (Jvm.Cond.code ({ cls := "com/example/tallymark/tallymark/HoldingLineSetPinLaw", name := "matches", desc := "(Ljava/lang/String;[CII)Z" } : Jvm.MethodName) method_3_code (5 : Nat) (Option.some Jvm.ClassFile.FieldType.boolean)).before a0 Z = true := hw _ (List.mem_of_getElem? (i := 165) rfl)
theorem pd_27 : parseMethodDescriptor "(Ljava/lang/String;[CII)Z" = some ⟨[(.object "java/lang/String"), (.array .char), .int, .int], some .boolean⟩ := by decide +kernel
theorem wd_163 {Z : State} {a0 : Array Value} (hw : HwT Z a0) : (Jvm.Cond.static ({ cls := "com/example/tallymark/tallymark/HoldingLineSetPinLaw", name := "matches", desc := "(Ljava/lang/String;[CII)Z" } : Jvm.MethodName)).before a0 Z = true := hw _ (List.mem_of_getElem? (i := 163) rfl)
theorem wd_164 {Z : State} {a0 : Array Value} (hw : HwT Z a0) : (Jvm.Cond.initialized "com/example/tallymark/tallymark/HoldingLineSetPinLaw").before a0 Z = true := hw _ (List.mem_of_getElem? (i := 164) rfl)
theorem wd_167 {Z : State} {a0 : Array Value} (hw : HwT Z a0) : (Jvm.Cond.fieldLink "com/example/tallymark/tallymark/HoldingLineSetPinLaw" (53 : Nat) "com/example/tallymark/tallymark/SnapshotJoin$Holding" "host" "Ljava/lang/String;").before a0 Z = true := hw _ (List.mem_of_getElem? (i := 167) rfl)
theorem wd_168 {Z : State} {a0 : Array Value} (hw : HwT Z a0) : (Jvm.Cond.fieldLink "com/example/tallymark/tallymark/HoldingLineSetPinLaw" (56 : Nat) "com/example/tallymark/tallymark/SnapshotJoin$Holding" "start" "J").before a0 Z = true := hw _ (List.mem_of_getElem? (i := 168) rfl)
theorem wd_169 {Z : State} {a0 : Array Value} (hw : HwT Z a0) : (Jvm.Cond.fieldLink "com/example/tallymark/tallymark/HoldingLineSetPinLaw" (60 : Nat) "com/example/tallymark/tallymark/SnapshotJoin$Holding" "from" "J").before a0 Z = true := hw _ (List.mem_of_getElem? (i := 169) rfl)
theorem wd_170 {Z : State} {a0 : Array Value} (hw : HwT Z a0) : (Jvm.Cond.fieldLink "com/example/tallymark/tallymark/HoldingLineSetPinLaw" (63 : Nat) "com/example/tallymark/tallymark/SnapshotJoin$Holding" "line" "J").before a0 Z = true := hw _ (List.mem_of_getElem? (i := 170) rfl)
theorem wd_171 {Z : State} {a0 : Array Value} (hw : HwT Z a0) : (Jvm.Cond.fieldLink "com/example/tallymark/tallymark/HoldingLineSetPinLaw" (66 : Nat) "com/example/tallymark/tallymark/SnapshotJoin$Holding" "licences" "I").before a0 Z = true := hw _ (List.mem_of_getElem? (i := 171) rfl)
theorem own_wS {Z : State} {a0 : Array Value} (hw : HwT Z a0) : ∀ a ∈ Bundle.stringAtoms, a.before a0 Z = true := by
  intro a ha
  simp only [Bundle.stringAtoms, List.mem_cons, List.not_mem_nil, or_false] at ha
  rcases ha with rfl | rfl | rfl | rfl | rfl | rfl | rfl
  · exact (wd_3 hw)
  · exact (wd_2 hw)
  · exact (wd_19 hw)
  · exact (wd_29 hw)
  · exact (wd_27 hw)
  · exact (wd_52 hw)
  · exact (wd_53 hw)
theorem own_EL {Z : State} {a0 : Array Value} (hw : HwT Z a0) : EW Z a0 consts_1 := (EW.cons (wd_51 hw) (by decide) (EW.cons (wd_54 hw) (by decide) (EW.cons (wd_86 hw) (by decide) (EW.cons (wd_130 hw) (by decide) EW.nil))))
def ChOk (c : Int32) : Prop := 0 ≤ c.toInt ∧ c.toInt ≤ 255
theorem ch_nar {c : Int32} (H : ChOk c) : nar .char c = c := by
  have h := c_i2c c; unfold ChOk at H
  exact Int32.toInt_inj.mp (show (c.toUInt32.toUInt16.toUInt32.toInt32).toInt = c.toInt by omega)
theorem ch_le {c : Int32} (H : ChOk c) : ¬ (255 : Int32) < c := by
  unfold ChOk at H
  rw [Int32.lt_iff_toInt_lt, show (255 : Int32).toInt = 255 from rfl]; omega
theorem nar_b (c : Int32) : nar .byte (c.toInt8.toInt32) = c.toInt8.toInt32 := by
  have h := c_i2b c; have h2 := c_i2b c.toInt8.toInt32
  exact Int32.toInt_inj.mp (show (c.toInt8.toInt32.toInt8.toInt32).toInt = c.toInt8.toInt32.toInt by omega)
theorem ch_byte {c d : Int32} (H : ChOk c) (H' : ChOk d) (h : c.toInt8.toInt32 = d.toInt8.toInt32) : c = d := by
  have h1 := c_i2b c; have h2 := c_i2b d; unfold ChOk at H H'; rw [h] at h1
  exact Int32.toInt_inj.mp (by omega)
theorem ki_succ (k : Nat) : k.toInt32 + (1 : Int32) = (k + 1).toInt32 := (Int32.ofNat_add k 1).symm
theorem ki_int {k : Nat} (h : k < 2 ^ 31) : (k.toInt32).toInt = k := Int32.toInt_ofNat_of_lt h
theorem ki_idx {k : Nat} (h : k < 2 ^ 31) : k.toInt32.toNatClampNeg = k := by simp only [Int32.toNatClampNeg]; rw [ki_int h]; simp
theorem ki_nn {k : Nat} (h : k < 2 ^ 31) : ¬ k.toInt32 < 0 := by rw [Int32.lt_iff_toInt_lt, ki_int h]; simp
theorem ki_lt {k n : Nat} (h : k < n) (hn : n < 2 ^ 31) : k.toInt32 < n.toInt32 := by rw [Int32.lt_iff_toInt_lt, ki_int (Nat.lt_trans h hn), ki_int hn]; exact Int.ofNat_lt.mpr h
theorem ki_ne {k n : Nat} (h : k ≠ n) (hk : k < 2 ^ 31) (hn : n < 2 ^ 31) : ¬ k.toInt32 = n.toInt32 := fun q => h (by have := congrArg Int32.toInt q; rw [ki_int hk, ki_int hn] at this; exact Int.ofNat_inj.mp this)
abbrev iv (xs : List Int32) : List Value := xs.map Value.int
theorem iv_len (xs : List Int32) : (iv xs).length = xs.length := List.length_map ..
theorem iv_at {xs : List Int32} {k : Nat} (h : k < xs.length) : (iv xs)[k]? = some (.int (xs.getD k 0)) := by simp [iv, List.getElem?_map, List.getElem?_eq_getElem h, List.getD_eq_getElem?_getD]
theorem iv_31 {Z : State} {h : Heap} {a : Addr} {ty : FieldType} {xs : List Int32} (A : Ary Z h a ty (iv xs)) : xs.length < 2 ^ 31 := by obtain ⟨_, _, _, _, q⟩ := A; rw [iv_len] at q; exact q
abbrev sameW (xs ys : List Int32) : Int32 := if xs = ys then 1 else 0
theorem own_take {xs ys : List Int32} {k : Nat} (hl : xs.length = ys.length) (h : k < xs.length) (ht : xs.take k = ys.take k) (e : xs.getD k 0 = ys.getD k 0) : xs.take (k + 1) = ys.take (k + 1) := by
  rw [List.take_succ, List.take_succ, ht]
  have h2 : k < ys.length := hl ▸ h
  simp only [List.getD_eq_getElem?_getD, List.getElem?_eq_getElem h, List.getElem?_eq_getElem h2, Option.getD_some] at e ⊢
  rw [e]
abbrev byteOf (c : Int32) : Int32 := c.toInt8.toInt32
def bpart (cs : List Int32) (k : Nat) : List Int32 := (cs.take k).map byteOf ++ List.replicate (cs.length - k) 0
theorem bpart_zero (cs : List Int32) : bpart cs 0 = List.replicate cs.length 0 := by simp [bpart]
theorem bpart_all {cs : List Int32} {k : Nat} (h : cs.length ≤ k) : bpart cs k = cs.map byteOf := by simp [bpart, List.take_of_length_le h, Nat.sub_eq_zero_of_le h]
theorem bpart_len (cs : List Int32) {k : Nat} (h : k ≤ cs.length) : (bpart cs k).length = cs.length := by simp [bpart]; omega
theorem bpart_set {cs : List Int32} {k : Nat} (h : k < cs.length) : (iv (bpart cs k)).set k (.int (byteOf (cs.getD k 0))) = iv (bpart cs (k + 1)) := by
  rw [iv, ← List.map_set]
  congr 1
  have e1 : cs.length - k = (cs.length - (k + 1)) + 1 := by omega
  have e2 : ((cs.take k).map byteOf).length = k := by simp; omega
  rw [bpart, bpart, e1, List.replicate_succ, List.set_append_right _ _ (by omega), e2, Nat.sub_self, List.set_cons_zero, List.take_succ, List.map_append, List.append_assoc]
  simp [List.getElem?_eq_getElem h, List.getD_eq_getElem?_getD]
theorem iv_rep (n : Nat) : iv (List.replicate n 0) = List.replicate n (.int 0) := by simp [iv]
theorem ch_at {cs : List Int32} (hch : ∀ c ∈ cs, ChOk c) (k : Nat) : ChOk (cs.getD k 0) := by
  rw [List.getD_eq_getElem?_getD]
  cases q : cs[k]? with
  | none => exact ⟨by decide, by decide⟩
  | some c => exact hch c (List.mem_of_getElem? q)
theorem l_ci (l : Launch) (Z : State) (a0 : Array Value) (hw : HwT Z a0) (src dst : Addr) (cs : List Int32) (h0 : Heap) (n0 : Nat) (ne : src ≠ dst) (gd : n0 ≤ dst) (hch : ∀ c ∈ cs, ChOk c) (h31 : cs.length < 2 ^ 31) : ∀ (m k : Nat) (s6 : Slot) (h : Heap), One s6 → k + m = cs.length → Keep h0 h [dst] → Ary Z h src .char (iv cs) → Ary Z h dst .byte (iv (bpart cs k)) → W l ({ frames := 0, cells := 0, slots := 0, locals := 0 } : Room) Z "java/lang/StringUTF16" "compress" jdk_52_method_21_code 7 (some .int) n0 (fun v h' => v = some (.int cs.length.toInt32) ∧ Keep h0 h' [dst] ∧ Ary Z h' dst .byte (iv (cs.map byteOf))) h 0 0 3 #[.val (.ref src), .val (.int k.toInt32), .val (.ref dst), .val (.int k.toInt32), .val (.int cs.length.toInt32), .val (.int k.toInt32), s6] [] := by
  intro m
  induction m with
  | zero =>
    intro k s6 h hs6 hkm K0 As Ad
    have hge : ¬ k.toInt32 < cs.length.toInt32 := by rw [show k = cs.length by omega]; exact Int32.lt_irrefl
    refine W.iload 5 d_jdk_52_method_21_3 rfl rfl ?_
    refine W.iload 7 d_jdk_52_method_21_5 rfl rfl ?_
    refine W.icmp_ge 44 10 d_jdk_52_method_21_7 rfl rfl (fun _ => ?_) (fun hc => absurd hc hge)
    refine W.iload 46 d_jdk_52_method_21_44 rfl rfl ?_
    exact W.ireturn d_jdk_52_method_21_46 rfl ⟨rfl, K0, by rw [← bpart_all (k := k) (by omega)]; exact Ad⟩ (by decide) (by decide)
  | succ m ih =>
    intro k s6 h hs6 hkm K0 As Ad
    have hkl : k < cs.length := by omega
    have hk31 : k < 2 ^ 31 := by omega
    refine W.iload 5 d_jdk_52_method_21_3 rfl rfl ?_
    refine W.iload 7 d_jdk_52_method_21_5 rfl rfl ?_
    refine W.icmp_ge 44 10 d_jdk_52_method_21_7 rfl rfl (fun hc => absurd (ki_lt hkl h31) hc) (fun _ => ?_)
    refine W.aloadN 11 d_jdk_52_method_21_10 rfl rfl rfl ?_
    refine W.iloadN 12 d_jdk_52_method_21_11 rfl rfl ?_
    refine W.caload 13 d_jdk_52_method_21_12 rfl As k (ki_idx hk31) (ki_nn hk31) (.int (cs.getD k 0)) (iv_at hkl) ?_
    refine W.istore 15 d_jdk_52_method_21_13 rfl #[.val (.ref src), .val (.int k.toInt32), .val (.ref dst), .val (.int k.toInt32), .val (.int cs.length.toInt32), .val (.int k.toInt32), .val (.int (cs.getD k 0))] (XS.store1 (o := s6) rfl hs6 rfl) ?_
    refine W.iload 17 d_jdk_52_method_21_15 rfl rfl ?_
    refine W.sipush 20 d_jdk_52_method_21_17 rfl (255 : Int32) rfl ?_
    refine W.icmp_le 26 23 d_jdk_52_method_21_20 rfl rfl (fun _ => ?_) (fun hc => absurd hc (ch_le (ch_at hch k)))
    refine W.aloadN 27 d_jdk_52_method_21_26 rfl rfl rfl ?_
    refine W.iloadN 28 d_jdk_52_method_21_27 rfl rfl ?_
    refine W.iload 30 d_jdk_52_method_21_28 rfl rfl ?_
    refine W.i2b 31 d_jdk_52_method_21_30 rfl ((cs.getD k 0).toInt8.toInt32) rfl ?_
    refine W.bastore 32 d_jdk_52_method_21_31 rfl Ad k (ki_idx hk31) (ki_nn hk31) (by rw [iv_len, bpart_len cs (Nat.le_of_lt hkl)]; exact hkl) ((cs.getD k 0).toInt8.toInt32) (nar_b (cs.getD k 0)) gd ?_
    intro h1001 W1001 K1001 A1001
    have kc1002 := Keep.trans (ws := [dst]) K0 K1001 (allS (Or.inl (List.mem_of_getElem? (i := 0) rfl)) all0)
    refine W.iinc 35 d_jdk_52_method_21_32 rfl rfl (k + 1).toInt32 (ki_succ k) #[.val (.ref src), .val (.int (k + 1).toInt32), .val (.ref dst), .val (.int k.toInt32), .val (.int cs.length.toInt32), .val (.int k.toInt32), .val (.int (cs.getD k 0))] rfl ?_
    refine W.iinc 38 d_jdk_52_method_21_35 rfl rfl (k + 1).toInt32 (ki_succ k) #[.val (.ref src), .val (.int (k + 1).toInt32), .val (.ref dst), .val (.int (k + 1).toInt32), .val (.int cs.length.toInt32), .val (.int k.toInt32), .val (.int (cs.getD k 0))] rfl ?_
    refine W.iinc 41 d_jdk_52_method_21_38 rfl rfl (k + 1).toInt32 (ki_succ k) #[.val (.ref src), .val (.int (k + 1).toInt32), .val (.ref dst), .val (.int (k + 1).toInt32), .val (.int cs.length.toInt32), .val (.int (k + 1).toInt32), .val (.int (cs.getD k 0))] rfl ?_
    refine W.goto 3 d_jdk_52_method_21_41 rfl ?_
    have q1003 := (As.keep K1001 (ninS ne nin0))
    exact ih (k + 1) _ _ (One.val rfl) (by omega) kc1002 q1003 (bpart_set hkl ▸ A1001)
theorem c_cig (l : Launch) (Z : State) (a0 : Array Value) (hw : HwT Z a0) (src dst : Addr) (cs : List Int32) (h : Heap) (n0 : Nat) (hn : n0 ≤ h.size) (ne : src ≠ dst) (gd : n0 ≤ dst) (hch : ∀ c ∈ cs, ChOk c) (As : Ary Z h src .char (iv cs)) (Ad : Ary Z h dst .byte (iv (List.replicate cs.length 0))) : Con l Z (⟨"java/lang/StringUTF16", "compress", "([CI[BII)I"⟩ : MethodName) jdk_52_method_21_code 7 (some .int) ({ frames := 0, cells := 0, slots := 0, locals := 0 } : Room) #[(.ref src), (.int (0 : Int32)), (.ref dst), (.int (0 : Int32)), (.int cs.length.toInt32)] h n0 (fun v h' => v = some (.int cs.length.toInt32) ∧ Keep h h' [dst] ∧ Ary Z h' dst .byte (iv (cs.map byteOf))) := by
  refine ConG.of_W (Ls := #[.val (.ref src), .val (.int (0 : Int32)), .val (.ref dst), .val (.int (0 : Int32)), .val (.int cs.length.toInt32), .unset, .unset]) (plainFor_of_name pn_0) hn (fun m => by first | (simp [entryFrame, mkF, argsToLocals, Value.category]; done) | rfl) ?_
  refine W.iconst 1 d_jdk_52_method_21_0 rfl (0 : Int32) rfl ?_
  refine W.istore 3 d_jdk_52_method_21_1 rfl #[.val (.ref src), .val (.int (0 : Int32)), .val (.ref dst), .val (.int (0 : Int32)), .val (.int cs.length.toInt32), .val (.int (0 : Int32)), .unset] rfl ?_
  exact (l_ci l Z a0 hw src dst cs h n0 ne gd hch (iv_31 As) cs.length 0 _ _ One.u (by omega) (Keep.refl _ _) As (by rw [bpart_zero]; exact Ad))
theorem c_cbg (l : Launch) (Z : State) (a0 : Array Value) (hw : HwT Z a0) (src : Addr) (cs : List Int32) (h : Heap) (n0 : Nat) (hn : n0 ≤ h.size) (hch : ∀ c ∈ cs, ChOk c) (hcap : cs.length ≤ 16) (As : Ary Z h src .char (iv cs)) : Con l Z (⟨"java/lang/StringUTF16", "compress", "([CII)[B"⟩ : MethodName) jdk_52_method_16_code 6 (some (.array .byte)) ({ frames := 1, cells := 1, slots := 16, locals := 24 } : Room) #[(.ref src), (.int (0 : Int32)), (.int cs.length.toInt32)] h n0 (fun v h' => ∃ d, v = some (.ref d) ∧ h.size ≤ d ∧ n0 ≤ d ∧ Keep h h' [] ∧ Ary Z h' d .byte (iv (cs.map byteOf))) := by
  refine ConG.of_W (Ls := #[.val (.ref src), .val (.int (0 : Int32)), .val (.int cs.length.toInt32), .unset, .unset, .unset]) (plainFor_of_name pn_0) hn (fun m => by first | (simp [entryFrame, mkF, argsToLocals, Value.category]; done) | rfl) ?_
  refine W.iloadN 1 d_jdk_52_method_16_0 rfl rfl ?_
  refine W.newarray 3 d_jdk_52_method_16_1 rfl (wd_19 hw) rfl (ki_nn (iv_31 As)) cs.length 16 (ki_idx (iv_31 As)) hcap (by decide) (by decide) (by decide) rfl ?_
  intro h1004 b1004 g1004 ge1004 X1004 K1004 A1004
  have ne1005 : src ≠ b1004 := Nat.ne_of_lt (Nat.lt_of_lt_of_eq As.lt g1004.symm)
  have sz1006 := Nat.le_trans (Keep.refl _ []).1 (Nat.le_of_eq g1004.symm)
  have kc1007 := Keep.trans (ws := []) (Keep.refl _ []) K1004 all0
  show WG _ _ _ _ _ _ _ _ _ _ _ _ 1 16 3 #[.val (.ref src), .val (.int (0 : Int32)), .val (.int cs.length.toInt32), .unset, .unset, .unset] [(.ref b1004)]
  refine W.astoreN 4 d_jdk_52_method_16_3 rfl rfl #[.val (.ref src), .val (.int (0 : Int32)), .val (.int cs.length.toInt32), .val (.ref b1004), .unset, .unset] rfl ?_
  refine W.aloadN 5 d_jdk_52_method_16_4 rfl rfl rfl ?_
  refine W.iloadN 6 d_jdk_52_method_16_5 rfl rfl ?_
  refine W.aloadN 7 d_jdk_52_method_16_6 rfl rfl rfl ?_
  refine W.iconst 8 d_jdk_52_method_16_7 rfl (0 : Int32) rfl ?_
  refine W.iloadN 9 d_jdk_52_method_16_8 rfl rfl ?_
  have q1008 := (As.keep K1004 nin0)
  refine W.callS (rest := []) (argsL := [(.ref src), (.int (0 : Int32)), (.ref b1004), (.int (0 : Int32)), (.int cs.length.toInt32)]) 12 d_jdk_52_method_16_9 rfl (fun hn => c_cig l Z a0 hw src b1004 cs _ n0 hn ne1005 ge1004 hch q1008 (by rw [iv_rep]; exact A1004)) (wd_20 hw) (wd_21 hw) (wd_17 hw) (wd_22 hw) (by decide) pd_0 rfl rfl rfl (by decide) 0 (Nat.le_of_ble_eq_true rfl) (by decide) (by decide) (by decide) ?_
  rintro v1009 h1009 ⟨rfl, K1009, A1009⟩
  have kc1010 := Keep.trans (ws := []) kc1007 K1009 (allS (Or.inr sz1006) all0)
  show WG _ _ _ _ _ _ _ _ _ _ _ _ 1 16 12 #[.val (.ref src), .val (.int (0 : Int32)), .val (.int cs.length.toInt32), .val (.ref b1004), .unset, .unset] [(.int cs.length.toInt32)]
  refine W.istore 14 d_jdk_52_method_16_12 rfl #[.val (.ref src), .val (.int (0 : Int32)), .val (.int cs.length.toInt32), .val (.ref b1004), .val (.int cs.length.toInt32), .unset] rfl ?_
  refine W.iload 16 d_jdk_52_method_16_14 rfl rfl ?_
  refine W.iloadN 17 d_jdk_52_method_16_16 rfl rfl ?_
  refine W.icmp_eq 57 20 d_jdk_52_method_16_17 rfl rfl (fun _ => ?_) (fun hc => absurd rfl hc)
  refine W.aloadN 58 d_jdk_52_method_16_57 rfl rfl rfl ?_
  exact W.areturn d_jdk_52_method_16_58 rfl rfl rfl rfl ⟨_, rfl, sz1006, ge1004, kc1010, A1009⟩ (by decide) (by decide)
theorem c_clg (l : Launch) (Z : State) (a0 : Array Value) (hw : HwT Z a0) (b : Addr) (xs : List Int32) (h : Heap) (n0 : Nat) (hn : n0 ≤ h.size) (A : Ary Z h b .byte (iv xs)) : Con l Z (⟨"java/lang/StringUTF16", "coderFromArrayLen", "([BI)B"⟩ : MethodName) jdk_52_method_15_code 2 (some .byte) ({ frames := 0, cells := 0, slots := 0, locals := 0 } : Room) #[(.ref b), (.int xs.length.toInt32)] h n0 (fun v h' => v = some (.int 0) ∧ h' = h) := by
  refine ConG.of_W (Ls := #[.val (.ref b), .val (.int xs.length.toInt32)]) (plainFor_of_name pn_0) hn (fun m => by first | (simp [entryFrame, mkF, argsToLocals, Value.category]; done) | rfl) ?_
  refine W.iloadN 1 d_jdk_52_method_15_0 rfl rfl ?_
  refine W.aloadN 2 d_jdk_52_method_15_1 rfl rfl rfl ?_
  refine W.arraylength 3 d_jdk_52_method_15_2 rfl A xs.length.toInt32 (by rw [iv_len]) ?_
  refine W.isub 4 d_jdk_52_method_15_3 rfl (0 : Int32) (Int32.sub_self _) ?_
  refine W.bipush 6 d_jdk_52_method_15_4 rfl (31 : Int32) rfl ?_
  refine W.iushr 7 d_jdk_52_method_15_6 rfl (0 : Int32) (by decide) ?_
  refine W.i2b 8 d_jdk_52_method_15_7 rfl (0 : Int32) (by decide) ?_
  exact W.ireturnN (t := .byte) d_jdk_52_method_15_8 rfl (by simp) (0 : Int32) rfl ⟨rfl, rfl⟩ (by decide) (by decide)
theorem c_i4g (l : Launch) (Z : State) (a0 : Array Value) (hw : HwT Z a0) (a src : Addr) (kc : Int32) (hkc : ¬ kc = 0) (cs : List Int32) (h : Heap) (n0 : Nat) (hn : n0 ≤ h.size) (ne : a ≠ src) (ga : n0 ≤ a) (hch : ∀ c ∈ cs, ChOk c) (hcap : cs.length ≤ 16) (hne : ¬ cs.length.toInt32 = 0) (FS : Sta Z h "java/lang/String" "COMPACT_STRINGS" "Z" (.int kc)) (E : Exa Z h a "java/lang/String") (C : Fld Z h a "java/lang/String" "coder" "B" (.int 0)) (V : Fld Z h a "java/lang/String" "value" "[B" .null) (As : Ary Z h src .char (iv cs)) : Con l Z (⟨"java/lang/String", "<init>", "([CIILjava/lang/Void;)V"⟩ : MethodName) jdk_42_method_149_code 6 none ({ frames := 2, cells := 1, slots := 16, locals := 48 } : Room) #[(.ref a), (.ref src), (.int (0 : Int32)), (.int cs.length.toInt32), .null] h n0 (fun v h' => v = none ∧ Keep h h' [a] ∧ ∃ b, Fld Z h' a "java/lang/String" "coder" "B" (.int 0) ∧ Fld Z h' a "java/lang/String" "value" "[B" (.ref b) ∧ Ary Z h' b .byte (iv (cs.map byteOf))) := by
  refine ConG.of_W (Ls := #[.val (.ref a), .val (.ref src), .val (.int (0 : Int32)), .val (.int cs.length.toInt32), .val .null, .unset]) (plainFor_of_name pn_1) hn (fun m => by first | (simp [entryFrame, mkF, argsToLocals, Value.category]; done) | rfl) ?_
  refine W.aloadN 1 d_jdk_42_method_149_0 rfl rfl rfl ?_
  refine W.initObj 4 d_jdk_42_method_149_1 rfl (wd_11 hw) (wd_12 hw) (wd_13 hw) rfl (by decide) 0 (Nat.le_of_ble_eq_true rfl) (by decide) ?_
  refine W.iloadN 5 d_jdk_42_method_149_4 rfl rfl ?_
  refine W.if_ne 27 8 d_jdk_42_method_149_5 rfl rfl (fun _ => ?_) (fun hc => absurd hc hne)
  refine W.getstatic 30 d_jdk_42_method_149_27 rfl (host := "") (Or.inl (wd_14 hw)) Via.refl FS ?_
  refine W.if_eq 58 33 d_jdk_42_method_149_30 rfl rfl (fun hc => absurd hc hkc) (fun _ => ?_)
  refine W.aloadN 34 d_jdk_42_method_149_33 rfl rfl rfl ?_
  refine W.iloadN 35 d_jdk_42_method_149_34 rfl rfl ?_
  refine W.iloadN 36 d_jdk_42_method_149_35 rfl rfl ?_
  refine W.callS (rest := []) (argsL := [(.ref src), (.int (0 : Int32)), (.int cs.length.toInt32)]) 39 d_jdk_42_method_149_36 rfl (fun hn => c_cbg l Z a0 hw src cs _ n0 hn hch hcap As) (wd_15 hw) (wd_16 hw) (wd_17 hw) (wd_18 hw) (by decide) pd_1 rfl rfl rfl (by decide) 0 (Nat.le_of_ble_eq_true rfl) (by decide) (by decide) (by decide) ?_
  rintro v1011 h1011 ⟨d1011, rfl, sz1011, gd1011, K1011, A1011⟩
  have ne1012 : a ≠ d1011 := Nat.ne_of_lt (Nat.lt_of_lt_of_le E.lt sz1011)
  have ne1013 : src ≠ d1011 := Nat.ne_of_lt (Nat.lt_of_lt_of_le As.lt sz1011)
  have sz1014 := Nat.le_trans (Keep.refl _ [a]).1 sz1011
  have kc1015 := Keep.trans (ws := [a]) (Keep.refl _ [a]) K1011 all0
  show WG _ _ _ _ _ _ _ _ _ _ _ _ 1 16 39 #[.val (.ref a), .val (.ref src), .val (.int (0 : Int32)), .val (.int cs.length.toInt32), .val .null, .unset] [(.ref d1011)]
  refine W.astore 41 d_jdk_42_method_149_39 rfl rfl #[.val (.ref a), .val (.ref src), .val (.int (0 : Int32)), .val (.int cs.length.toInt32), .val .null, .val (.ref d1011)] rfl ?_
  refine W.aloadN 42 d_jdk_42_method_149_41 rfl rfl rfl ?_
  refine W.aload 44 d_jdk_42_method_149_42 rfl rfl rfl ?_
  refine W.iloadN 45 d_jdk_42_method_149_44 rfl rfl ?_
  refine W.callS (rest := [(.ref a)]) (argsL := [(.ref d1011), (.int cs.length.toInt32)]) 48 d_jdk_42_method_149_45 rfl (fun hn => (show cs.length.toInt32 = (cs.map byteOf).length.toInt32 by rw [List.length_map]) ▸ c_clg l Z a0 hw d1011 (cs.map byteOf) _ n0 hn A1011) (wd_23 hw) (wd_24 hw) (wd_17 hw) (wd_25 hw) (by decide) pd_2 rfl rfl rfl (by decide) 1 (Nat.le_of_ble_eq_true rfl) (by decide) (by decide) (by decide) ?_
  rintro v1016 h1016 ⟨rfl, rfl⟩
  show WG _ _ _ _ _ _ _ _ _ _ _ _ 1 16 48 #[.val (.ref a), .val (.ref src), .val (.int (0 : Int32)), .val (.int cs.length.toInt32), .val .null, .val (.ref d1011)] [(.int (0 : Int32)), (.ref a)]
  have q1017 := (C.keep K1011 nin0)
  have q1018 := (E.keep K1011)
  refine W.putfieldN 51 d_jdk_42_method_149_48 rfl (wd_26 hw) Via.refl q1017 q1018 (Or.inr ⟨(wd_27 hw), rfl, rfl⟩) (wd_2 hw) (ty := .byte) (by decide) (.int (0 : Int32)) rfl rfl ga ?_
  intro h1019 W1019 F1019 E1019 K1019
  have kc1020 := Keep.trans (ws := [a]) kc1015 K1019 (allS (Or.inl (List.mem_of_getElem? (i := 0) rfl)) all0)
  refine W.aloadN 52 d_jdk_42_method_149_51 rfl rfl rfl ?_
  refine W.aload 54 d_jdk_42_method_149_52 rfl rfl rfl ?_
  have q1021 := ((V.keep K1011 nin0).other W1019 (Or.inr (sne_0 hw)))
  refine W.putfield 57 d_jdk_42_method_149_54 rfl (host := "") (Or.inl (wd_28 hw)) Via.refl q1021 E1019 (Or.inr ⟨(wd_29 hw), rfl, rfl⟩) (wd_2 hw) (ty := (.array .byte)) (by decide) rfl rfl ga ?_
  intro h1022 W1022 F1022 E1022 K1022
  have kc1023 := Keep.trans (ws := [a]) kc1020 K1022 (allS (Or.inl (List.mem_of_getElem? (i := 0) rfl)) all0)
  have q1024 := (F1019.other W1022 (Or.inr (sne_1 hw)))
  have q1025 := ((A1011.keep K1019 (ninS (Ne.symm ne1012) nin0)).keep K1022 (ninS (Ne.symm ne1012) nin0))
  exact W.return_ d_jdk_42_method_149_57 rfl ⟨rfl, kc1023, d1011, q1024, F1022, q1025⟩ (by decide) (by decide)
theorem c_i1g (l : Launch) (Z : State) (a0 : Array Value) (hw : HwT Z a0) (a src : Addr) (kc : Int32) (hkc : ¬ kc = 0) (cs : List Int32) (h : Heap) (n0 : Nat) (hn : n0 ≤ h.size) (ne : a ≠ src) (ga : n0 ≤ a) (hch : ∀ c ∈ cs, ChOk c) (hcap : cs.length ≤ 16) (hne : ¬ cs.length.toInt32 = 0) (FS : Sta Z h "java/lang/String" "COMPACT_STRINGS" "Z" (.int kc)) (E : Exa Z h a "java/lang/String") (C : Fld Z h a "java/lang/String" "coder" "B" (.int 0)) (V : Fld Z h a "java/lang/String" "value" "[B" .null) (As : Ary Z h src .char (iv cs)) : Con l Z (⟨"java/lang/String", "<init>", "([C)V"⟩ : MethodName) jdk_42_method_3_code 2 none ({ frames := 3, cells := 1, slots := 16, locals := 72 } : Room) #[(.ref a), (.ref src)] h n0 (fun v h' => v = none ∧ Keep h h' [a] ∧ ∃ b, Fld Z h' a "java/lang/String" "coder" "B" (.int 0) ∧ Fld Z h' a "java/lang/String" "value" "[B" (.ref b) ∧ Ary Z h' b .byte (iv (cs.map byteOf))) := by
  refine ConG.of_W (Ls := #[.val (.ref a), .val (.ref src)]) (plainFor_of_name pn_1) hn (fun m => by first | (simp [entryFrame, mkF, argsToLocals, Value.category]; done) | rfl) ?_
  refine W.aloadN 1 d_jdk_42_method_3_0 rfl rfl rfl ?_
  refine W.aloadN 2 d_jdk_42_method_3_1 rfl rfl rfl ?_
  refine W.iconst 3 d_jdk_42_method_3_2 rfl (0 : Int32) rfl ?_
  refine W.aloadN 4 d_jdk_42_method_3_3 rfl rfl rfl ?_
  refine W.arraylength 5 d_jdk_42_method_3_4 rfl As cs.length.toInt32 (by rw [iv_len]) ?_
  refine W.aconst_null 6 d_jdk_42_method_3_5 rfl ?_
  refine W.callInit (rest := []) (argsL := [(.ref src), (.int (0 : Int32)), (.int cs.length.toInt32), .null]) (a := a) 9 d_jdk_42_method_3_6 rfl (fun hn => c_i4g l Z a0 hw a src kc hkc cs _ n0 hn ne ga hch hcap hne FS E C V As) rfl (wd_7 hw) (wd_8 hw) (wd_3 hw) (wd_10 hw) (by decide) pd_3 rfl rfl rfl (by decide) 0 (Nat.le_of_ble_eq_true rfl) (by decide) (by decide) (by decide) ?_
  rintro v1026 h1026 ⟨rfl, K1026, b1026, C1026, V1026, A1026⟩
  have kc1027 := Keep.trans (ws := [a]) (Keep.refl _ [a]) K1026 (allS (Or.inl (List.mem_of_getElem? (i := 0) rfl)) all0)
  show WG _ _ _ _ _ _ _ _ _ _ _ _ 1 16 9 #[.val (.ref a), .val (.ref src)] []
  exact W.return_ d_jdk_42_method_3_9 rfl ⟨rfl, kc1027, b1026, C1026, V1026, A1026⟩ (by decide) (by decide)
theorem chN : ∀ c ∈ ([] : List Int32), ChOk c := fun _ q => nomatch q
theorem chC {c : Int32} {cs : List Int32} (H : ChOk c) (r : ∀ x ∈ cs, ChOk x) : ∀ x ∈ c :: cs, ChOk x := fun x q => (List.mem_cons.mp q).elim (fun e => e ▸ H) (r x)
theorem ch_k {c : Int32} (h : 0 ≤ c.toInt) (h2 : c.toInt ≤ 255) : ChOk c := ⟨h, h2⟩
theorem c_eqs (l : Launch) (Z : State) (a0 : Array Value) (hw : HwT Z a0) (s : Addr) (h : Heap) (n0 : Nat) (hn : n0 ≤ h.size) : Con l Z (⟨"java/lang/String", "equals", "(Ljava/lang/Object;)Z"⟩ : MethodName) jdk_42_method_66_code 3 (some .boolean) ({ frames := 0, cells := 0, slots := 0, locals := 0 } : Room) #[(.ref s), (.ref s)] h n0 (fun v h' => v = some (.int 1) ∧ h' = h) := by
  refine ConG.of_W (Ls := #[.val (.ref s), .val (.ref s), .unset]) (plainFor_of_name pn_1) hn (fun m => by first | (simp [entryFrame, mkF, argsToLocals, Value.category]; done) | rfl) ?_
  refine W.aloadN 1 d_jdk_42_method_66_0 rfl rfl rfl ?_
  refine W.aloadN 2 d_jdk_42_method_66_1 rfl rfl rfl ?_
  refine W.acmp_ne 7 5 d_jdk_42_method_66_2 rfl rfl rfl rfl (fun hc => absurd rfl hc) (fun _ => ?_)
  refine W.iconst 6 d_jdk_42_method_66_5 rfl (1 : Int32) rfl ?_
  exact W.ireturnN (t := .boolean) d_jdk_42_method_66_6 rfl (by simp) (1 : Int32) rfl ⟨rfl, rfl⟩ (by decide) (by decide)
theorem own_m (x : Int32) : ChOk (x &&& 255) := by
  have h := c_mask x 255 8 (by decide) (by decide)
  unfold ChOk; omega
theorem ki_le {k n : Nat} (h : k ≤ n) (hn : n < 2 ^ 31) : ¬ n.toInt32 < k.toInt32 := by rw [Int32.lt_iff_toInt_lt, ki_int hn, ki_int (Nat.lt_of_le_of_lt h hn)]; omega
theorem ki_sub {f t : Nat} (h : f ≤ t) (ht : t < 2 ^ 31) : t.toInt32 - f.toInt32 = (t - f).toInt32 := by
  apply Int32.toInt_inj.mp
  have a := c_isub t.toInt32 f.toInt32; rw [ki_int ht, ki_int (Nat.lt_of_le_of_lt h ht)] at a
  rw [ki_int (Nat.lt_of_le_of_lt (Nat.sub_le t f) ht)]
  have r := rng32 (t.toInt32 - f.toInt32)
  omega
theorem ki_add {f t : Nat} : f.toInt32 + t.toInt32 = (f + t).toInt32 := (Int32.ofNat_add f t).symm
theorem ki_eq0 {k : Nat} (hk : k < 2 ^ 31) (h : k.toInt32 = 0) : k = 0 := Classical.byContradiction fun q => ki_ne (n := 0) q hk (by decide) h
theorem ki_eq {k n : Nat} (hk : k < 2 ^ 31) (hn : n < 2 ^ 31) (h : k.toInt32 = n.toInt32) : k = n := Classical.byContradiction fun q => ki_ne q hk hn h
theorem own_shr0 (x : Int32) : x >>> ((0 : Int32) &&& 31) = x := by
  apply Int32.toInt_inj.mp
  have := c_ishr x 0 0 (by decide)
  rw [this]; simp
abbrev sl (xs : List Int32) (f t : Nat) : List Int32 := (xs.drop f).take (t - f)
theorem sl_len {xs : List Int32} {f t : Nat} (h : t ≤ xs.length) : (sl xs f t).length = t - f := by simp [sl]; omega
abbrev RV := { v : Value // v = .null ∨ ∃ a, v = .ref a }
theorem c_cft_r (l : Launch) (Z : State) (a0 : Array Value) (hw : HwT Z a0) (r0 : Addr) (f t n : Nat) (hft : f ≤ t) (htn : t ≤ n) (h31 : n < 2 ^ 31) (h : Heap) (n0 : Nat) (hn : n0 ≤ h.size) : Con l Z (⟨"jdk/internal/util/Preconditions", "checkFromToIndex", "(IIILjava/util/function/BiFunction;)I"⟩ : MethodName) jdk_41_method_12_code 4 (some .int) ({ frames := 0, cells := 0, slots := 0, locals := 0 } : Room) #[(.int f.toInt32), (.int t.toInt32), (.int n.toInt32), (.ref r0)] h n0 (fun v h' => v = some (.int f.toInt32) ∧ h' = h) := by
  refine ConG.of_W (Ls := #[.val (.int f.toInt32), .val (.int t.toInt32), .val (.int n.toInt32), .val (.ref r0)]) (plainFor_of_name pn_2) hn (fun m => by first | (simp [entryFrame, mkF, argsToLocals, Value.category]; done) | rfl) ?_
  refine W.iloadN 1 d_jdk_41_method_12_0 rfl rfl ?_
  refine W.if_lt 14 4 d_jdk_41_method_12_1 rfl rfl (fun hc => absurd hc (ki_nn (by omega))) (fun _ => ?_)
  refine W.iloadN 5 d_jdk_41_method_12_4 rfl rfl ?_
  refine W.iloadN 6 d_jdk_41_method_12_5 rfl rfl ?_
  refine W.icmp_gt 14 9 d_jdk_41_method_12_6 rfl rfl (fun hc => absurd hc (ki_le hft (by omega))) (fun _ => ?_)
  refine W.iloadN 10 d_jdk_41_method_12_9 rfl rfl ?_
  refine W.iloadN 11 d_jdk_41_method_12_10 rfl rfl ?_
  refine W.icmp_le 22 14 d_jdk_41_method_12_11 rfl rfl (fun _ => ?_) (fun hc => absurd hc (ki_le htn h31))
  refine W.iloadN 23 d_jdk_41_method_12_22 rfl rfl ?_
  exact W.ireturn d_jdk_41_method_12_23 rfl ⟨rfl, rfl⟩ (by decide) (by decide)
theorem c_cbe_r (l : Launch) (Z : State) (a0 : Array Value) (hw : HwT Z a0) (r0 : Addr) (f t n : Nat) (hft : f ≤ t) (htn : t ≤ n) (h31 : n < 2 ^ 31) (h : Heap) (n0 : Nat) (hn : n0 ≤ h.size) (SF : Sta Z h "jdk/internal/util/Preconditions" "SIOOBE_FORMATTER" "Ljava/util/function/BiFunction;" (.ref r0)) : Con l Z (⟨"java/lang/String", "checkBoundsBeginEnd", "(III)V"⟩ : MethodName) jdk_42_method_158_code 3 none ({ frames := 1, cells := 0, slots := 0, locals := 20 } : Room) #[(.int f.toInt32), (.int t.toInt32), (.int n.toInt32)] h n0 (fun v h' => v = none ∧ h' = h) := by
  refine ConG.of_W (Ls := #[.val (.int f.toInt32), .val (.int t.toInt32), .val (.int n.toInt32)]) (plainFor_of_name pn_1) hn (fun m => by first | (simp [entryFrame, mkF, argsToLocals, Value.category]; done) | rfl) ?_
  refine W.iloadN 1 d_jdk_42_method_158_0 rfl rfl ?_
  refine W.iloadN 2 d_jdk_42_method_158_1 rfl rfl ?_
  refine W.iloadN 3 d_jdk_42_method_158_2 rfl rfl ?_
  refine W.getstatic 6 d_jdk_42_method_158_3 rfl (host := "") (Or.inl (wd_117 hw)) Via.refl SF ?_
  refine W.callS (rest := []) (argsL := [(.int f.toInt32), (.int t.toInt32), (.int n.toInt32), (.ref r0)]) 9 d_jdk_42_method_158_6 rfl (fun hn => c_cft_r l Z a0 hw r0 f t n hft htn h31 _ n0 hn) (wd_119 hw) (wd_120 hw) (wd_118 hw) (wd_121 hw) (by decide) pd_4 rfl rfl rfl (by decide) 0 (Nat.le_of_ble_eq_true rfl) (by decide) (by decide) (by decide) ?_
  rintro v1028 h1028 ⟨rfl, rfl⟩
  show WG _ _ _ _ _ _ _ _ _ _ _ _ 0 0 9 #[.val (.int f.toInt32), .val (.int t.toInt32), .val (.int n.toInt32)] [(.int f.toInt32)]
  refine W.pop1 10 d_jdk_42_method_158_9 rfl rfl ?_
  exact W.return_ d_jdk_42_method_158_10 rfl ⟨rfl, rfl⟩ (by decide) (by decide)
theorem c_cft_n (l : Launch) (Z : State) (a0 : Array Value) (hw : HwT Z a0) (f t n : Nat) (hft : f ≤ t) (htn : t ≤ n) (h31 : n < 2 ^ 31) (h : Heap) (n0 : Nat) (hn : n0 ≤ h.size) : Con l Z (⟨"jdk/internal/util/Preconditions", "checkFromToIndex", "(IIILjava/util/function/BiFunction;)I"⟩ : MethodName) jdk_41_method_12_code 4 (some .int) ({ frames := 0, cells := 0, slots := 0, locals := 0 } : Room) #[(.int f.toInt32), (.int t.toInt32), (.int n.toInt32), .null] h n0 (fun v h' => v = some (.int f.toInt32) ∧ h' = h) := by
  refine ConG.of_W (Ls := #[.val (.int f.toInt32), .val (.int t.toInt32), .val (.int n.toInt32), .val .null]) (plainFor_of_name pn_2) hn (fun m => by first | (simp [entryFrame, mkF, argsToLocals, Value.category]; done) | rfl) ?_
  refine W.iloadN 1 d_jdk_41_method_12_0 rfl rfl ?_
  refine W.if_lt 14 4 d_jdk_41_method_12_1 rfl rfl (fun hc => absurd hc (ki_nn (by omega))) (fun _ => ?_)
  refine W.iloadN 5 d_jdk_41_method_12_4 rfl rfl ?_
  refine W.iloadN 6 d_jdk_41_method_12_5 rfl rfl ?_
  refine W.icmp_gt 14 9 d_jdk_41_method_12_6 rfl rfl (fun hc => absurd hc (ki_le hft (by omega))) (fun _ => ?_)
  refine W.iloadN 10 d_jdk_41_method_12_9 rfl rfl ?_
  refine W.iloadN 11 d_jdk_41_method_12_10 rfl rfl ?_
  refine W.icmp_le 22 14 d_jdk_41_method_12_11 rfl rfl (fun _ => ?_) (fun hc => absurd hc (ki_le htn h31))
  refine W.iloadN 23 d_jdk_41_method_12_22 rfl rfl ?_
  exact W.ireturn d_jdk_41_method_12_23 rfl ⟨rfl, rfl⟩ (by decide) (by decide)
theorem c_cbe_n (l : Launch) (Z : State) (a0 : Array Value) (hw : HwT Z a0) (f t n : Nat) (hft : f ≤ t) (htn : t ≤ n) (h31 : n < 2 ^ 31) (h : Heap) (n0 : Nat) (hn : n0 ≤ h.size) (SF : Sta Z h "jdk/internal/util/Preconditions" "SIOOBE_FORMATTER" "Ljava/util/function/BiFunction;" .null) : Con l Z (⟨"java/lang/String", "checkBoundsBeginEnd", "(III)V"⟩ : MethodName) jdk_42_method_158_code 3 none ({ frames := 1, cells := 0, slots := 0, locals := 20 } : Room) #[(.int f.toInt32), (.int t.toInt32), (.int n.toInt32)] h n0 (fun v h' => v = none ∧ h' = h) := by
  refine ConG.of_W (Ls := #[.val (.int f.toInt32), .val (.int t.toInt32), .val (.int n.toInt32)]) (plainFor_of_name pn_1) hn (fun m => by first | (simp [entryFrame, mkF, argsToLocals, Value.category]; done) | rfl) ?_
  refine W.iloadN 1 d_jdk_42_method_158_0 rfl rfl ?_
  refine W.iloadN 2 d_jdk_42_method_158_1 rfl rfl ?_
  refine W.iloadN 3 d_jdk_42_method_158_2 rfl rfl ?_
  refine W.getstatic 6 d_jdk_42_method_158_3 rfl (host := "") (Or.inl (wd_117 hw)) Via.refl SF ?_
  refine W.callS (rest := []) (argsL := [(.int f.toInt32), (.int t.toInt32), (.int n.toInt32), .null]) 9 d_jdk_42_method_158_6 rfl (fun hn => c_cft_n l Z a0 hw f t n hft htn h31 _ n0 hn) (wd_119 hw) (wd_120 hw) (wd_118 hw) (wd_121 hw) (by decide) pd_4 rfl rfl rfl (by decide) 0 (Nat.le_of_ble_eq_true rfl) (by decide) (by decide) (by decide) ?_
  rintro v1029 h1029 ⟨rfl, rfl⟩
  show WG _ _ _ _ _ _ _ _ _ _ _ _ 0 0 9 #[.val (.int f.toInt32), .val (.int t.toInt32), .val (.int n.toInt32)] [(.int f.toInt32)]
  refine W.pop1 10 d_jdk_42_method_158_9 rfl rfl ?_
  exact W.return_ d_jdk_42_method_158_10 rfl ⟨rfl, rfl⟩ (by decide) (by decide)
theorem c_cbe (l : Launch) (Z : State) (a0 : Array Value) (hw : HwT Z a0) (r0 : RV) (f t n : Nat) (hft : f ≤ t) (htn : t ≤ n) (h31 : n < 2 ^ 31) (h : Heap) (n0 : Nat) (hn : n0 ≤ h.size) (SF : Sta Z h "jdk/internal/util/Preconditions" "SIOOBE_FORMATTER" "Ljava/util/function/BiFunction;" r0.1) : Con l Z (⟨"java/lang/String", "checkBoundsBeginEnd", "(III)V"⟩ : MethodName) jdk_42_method_158_code 3 none ({ frames := 1, cells := 0, slots := 0, locals := 20 } : Room) #[(.int f.toInt32), (.int t.toInt32), (.int n.toInt32)] h n0 (fun v h' => v = none ∧ h' = h) := by
  obtain ⟨v, rfl | ⟨r, rfl⟩⟩ := r0
  · exact c_cbe_n l Z a0 hw f t n hft htn h31 h n0 hn SF
  · exact c_cbe_r l Z a0 hw r f t n hft htn h31 h n0 hn SF
theorem c_cdr (l : Launch) (Z : State) (a0 : Array Value) (hw : HwT Z a0) (s b : Addr) (kc : Int32) (hkc : ¬ kc = 0) (xs : List Int32) (h : Heap) (n0 : Nat) (hn : n0 ≤ h.size) (FS : Sta Z h "java/lang/String" "COMPACT_STRINGS" "Z" (.int kc)) (E0 : Exa Z h s "java/lang/String") (C0 : Fld Z h s "java/lang/String" "coder" "B" (.int 0)) (V0 : Fld Z h s "java/lang/String" "value" "[B" (.ref b)) (A0 : Ary Z h b .byte (iv xs)) : Con l Z (⟨"java/lang/String", "coder", "()B"⟩ : MethodName) jdk_42_method_152_code 1 (some .byte) ({ frames := 0, cells := 0, slots := 0, locals := 0 } : Room) #[(.ref s)] h n0 (fun v h' => v = some (.int 0) ∧ h' = h) := by
  refine ConG.of_W (Ls := #[.val (.ref s)]) (plainFor_of_name pn_1) hn (fun m => by first | (simp [entryFrame, mkF, argsToLocals, Value.category]; done) | rfl) ?_
  refine W.getstatic 3 d_jdk_42_method_152_0 rfl (host := "") (Or.inl (wd_14 hw)) Via.refl FS ?_
  refine W.if_eq 13 6 d_jdk_42_method_152_3 rfl rfl (fun hc => absurd hc hkc) (fun _ => ?_)
  refine W.aloadN 7 d_jdk_42_method_152_6 rfl rfl rfl ?_
  refine W.getfield 10 d_jdk_42_method_152_7 rfl (host := "") (Or.inl (wd_26 hw)) Via.refl C0 ?_
  refine W.goto 14 d_jdk_42_method_152_10 rfl ?_
  exact W.ireturnN (t := .byte) d_jdk_42_method_152_14 rfl (by simp) (0 : Int32) rfl ⟨rfl, rfl⟩ (by decide) (by decide)
theorem c_isl (l : Launch) (Z : State) (a0 : Array Value) (hw : HwT Z a0) (s b : Addr) (kc : Int32) (hkc : ¬ kc = 0) (xs : List Int32) (h : Heap) (n0 : Nat) (hn : n0 ≤ h.size) (FS : Sta Z h "java/lang/String" "COMPACT_STRINGS" "Z" (.int kc)) (E0 : Exa Z h s "java/lang/String") (C0 : Fld Z h s "java/lang/String" "coder" "B" (.int 0)) (V0 : Fld Z h s "java/lang/String" "value" "[B" (.ref b)) (A0 : Ary Z h b .byte (iv xs)) : Con l Z (⟨"java/lang/String", "isLatin1", "()Z"⟩ : MethodName) jdk_42_method_154_code 1 (some .boolean) ({ frames := 0, cells := 0, slots := 0, locals := 0 } : Room) #[(.ref s)] h n0 (fun v h' => v = some (.int 1) ∧ h' = h) := by
  refine ConG.of_W (Ls := #[.val (.ref s)]) (plainFor_of_name pn_1) hn (fun m => by first | (simp [entryFrame, mkF, argsToLocals, Value.category]; done) | rfl) ?_
  refine W.getstatic 3 d_jdk_42_method_154_0 rfl (host := "") (Or.inl (wd_14 hw)) Via.refl FS ?_
  refine W.if_eq 17 6 d_jdk_42_method_154_3 rfl rfl (fun hc => absurd hc hkc) (fun _ => ?_)
  refine W.aloadN 7 d_jdk_42_method_154_6 rfl rfl rfl ?_
  refine W.getfield 10 d_jdk_42_method_154_7 rfl (host := "") (Or.inl (wd_26 hw)) Via.refl C0 ?_
  refine W.if_ne 17 13 d_jdk_42_method_154_10 rfl rfl (fun hc => absurd (by decide) hc) (fun _ => ?_)
  refine W.iconst 14 d_jdk_42_method_154_13 rfl (1 : Int32) rfl ?_
  refine W.goto 18 d_jdk_42_method_154_14 rfl ?_
  exact W.ireturnN (t := .boolean) d_jdk_42_method_154_18 rfl (by simp) (1 : Int32) rfl ⟨rfl, rfl⟩ (by decide) (by decide)
theorem c_len (l : Launch) (Z : State) (a0 : Array Value) (hw : HwT Z a0) (s b : Addr) (kc : Int32) (hkc : ¬ kc = 0) (xs : List Int32) (h : Heap) (n0 : Nat) (hn : n0 ≤ h.size) (FS : Sta Z h "java/lang/String" "COMPACT_STRINGS" "Z" (.int kc)) (E0 : Exa Z h s "java/lang/String") (C0 : Fld Z h s "java/lang/String" "coder" "B" (.int 0)) (V0 : Fld Z h s "java/lang/String" "value" "[B" (.ref b)) (A0 : Ary Z h b .byte (iv xs)) : Con l Z (⟨"java/lang/String", "length", "()I"⟩ : MethodName) jdk_42_method_54_code 1 (some .int) ({ frames := 1, cells := 0, slots := 0, locals := 20 } : Room) #[(.ref s)] h n0 (fun v h' => v = some (.int xs.length.toInt32) ∧ h' = h) := by
  refine ConG.of_W (Ls := #[.val (.ref s)]) (plainFor_of_name pn_1) hn (fun m => by first | (simp [entryFrame, mkF, argsToLocals, Value.category]; done) | rfl) ?_
  refine W.aloadN 1 d_jdk_42_method_54_0 rfl rfl rfl ?_
  refine W.getfield 4 d_jdk_42_method_54_1 rfl (host := "") (Or.inl (wd_28 hw)) Via.refl V0 ?_
  refine W.arraylength 5 d_jdk_42_method_54_4 rfl A0 xs.length.toInt32 (by rw [iv_len]) ?_
  refine W.aloadN 6 d_jdk_42_method_54_5 rfl rfl rfl ?_
  refine W.callV (rest := [(.int xs.length.toInt32)]) (argsL := []) (a := s) 9 d_jdk_42_method_54_6 rfl (fun hn => c_cdr l Z a0 hw s b kc hkc xs _ n0 hn FS E0 C0 V0 A0) E0 (wd_109 hw) (wd_110 hw) (wd_112 hw) rfl (wd_111 hw) (wd_3 hw) (wd_113 hw) (by decide) pd_5 rfl rfl rfl (by decide) 1 (Nat.le_of_ble_eq_true rfl) (by decide) (by decide) (by decide) ?_
  rintro v1030 h1030 ⟨rfl, rfl⟩
  show WG _ _ _ _ _ _ _ _ _ _ _ _ 0 0 9 #[.val (.ref s)] [(.int (0 : Int32)), (.int xs.length.toInt32)]
  refine W.ishr 10 d_jdk_42_method_54_9 rfl xs.length.toInt32 (own_shr0 _) ?_
  exact W.ireturn d_jdk_42_method_54_10 rfl ⟨rfl, rfl⟩ (by decide) (by decide)
theorem c_pci_r (l : Launch) (Z : State) (a0 : Array Value) (hw : HwT Z a0) (r0 : Addr) (i n : Nat) (hin : i < n) (h31 : n < 2 ^ 31) (h : Heap) (n0 : Nat) (hn : n0 ≤ h.size) : Con l Z (⟨"jdk/internal/util/Preconditions", "checkIndex", "(IILjava/util/function/BiFunction;)I"⟩ : MethodName) jdk_41_method_11_code 3 (some .int) ({ frames := 0, cells := 0, slots := 0, locals := 0 } : Room) #[(.int i.toInt32), (.int n.toInt32), (.ref r0)] h n0 (fun v h' => v = some (.int i.toInt32) ∧ h' = h) := by
  refine ConG.of_W (Ls := #[.val (.int i.toInt32), .val (.int n.toInt32), .val (.ref r0)]) (plainFor_of_name pn_2) hn (fun m => by first | (simp [entryFrame, mkF, argsToLocals, Value.category]; done) | rfl) ?_
  refine W.iloadN 1 d_jdk_41_method_11_0 rfl rfl ?_
  refine W.if_lt 9 4 d_jdk_41_method_11_1 rfl rfl (fun hc => absurd hc (ki_nn (by omega))) (fun _ => ?_)
  refine W.iloadN 5 d_jdk_41_method_11_4 rfl rfl ?_
  refine W.iloadN 6 d_jdk_41_method_11_5 rfl rfl ?_
  refine W.icmp_lt 16 9 d_jdk_41_method_11_6 rfl rfl (fun _ => ?_) (fun hc => absurd (ki_lt hin h31) hc)
  refine W.iloadN 17 d_jdk_41_method_11_16 rfl rfl ?_
  exact W.ireturn d_jdk_41_method_11_17 rfl ⟨rfl, rfl⟩ (by decide) (by decide)
theorem c_cix_r (l : Launch) (Z : State) (a0 : Array Value) (hw : HwT Z a0) (r0 : Addr) (i n : Nat) (hin : i < n) (h31 : n < 2 ^ 31) (h : Heap) (n0 : Nat) (hn : n0 ≤ h.size) (SF : Sta Z h "jdk/internal/util/Preconditions" "SIOOBE_FORMATTER" "Ljava/util/function/BiFunction;" (.ref r0)) : Con l Z (⟨"java/lang/String", "checkIndex", "(II)V"⟩ : MethodName) jdk_42_method_155_code 2 none ({ frames := 1, cells := 0, slots := 0, locals := 20 } : Room) #[(.int i.toInt32), (.int n.toInt32)] h n0 (fun v h' => v = none ∧ h' = h) := by
  refine ConG.of_W (Ls := #[.val (.int i.toInt32), .val (.int n.toInt32)]) (plainFor_of_name pn_1) hn (fun m => by first | (simp [entryFrame, mkF, argsToLocals, Value.category]; done) | rfl) ?_
  refine W.iloadN 1 d_jdk_42_method_155_0 rfl rfl ?_
  refine W.iloadN 2 d_jdk_42_method_155_1 rfl rfl ?_
  refine W.getstatic 5 d_jdk_42_method_155_2 rfl (host := "") (Or.inl (wd_117 hw)) Via.refl SF ?_
  refine W.callS (rest := []) (argsL := [(.int i.toInt32), (.int n.toInt32), (.ref r0)]) 8 d_jdk_42_method_155_5 rfl (fun hn => c_pci_r l Z a0 hw r0 i n hin h31 _ n0 hn) (wd_183 hw) (wd_184 hw) (wd_118 hw) (wd_185 hw) (by decide) pd_6 rfl rfl rfl (by decide) 0 (Nat.le_of_ble_eq_true rfl) (by decide) (by decide) (by decide) ?_
  rintro v1031 h1031 ⟨rfl, rfl⟩
  show WG _ _ _ _ _ _ _ _ _ _ _ _ 0 0 8 #[.val (.int i.toInt32), .val (.int n.toInt32)] [(.int i.toInt32)]
  refine W.pop1 9 d_jdk_42_method_155_8 rfl rfl ?_
  exact W.return_ d_jdk_42_method_155_9 rfl ⟨rfl, rfl⟩ (by decide) (by decide)
theorem c_pci_n (l : Launch) (Z : State) (a0 : Array Value) (hw : HwT Z a0) (i n : Nat) (hin : i < n) (h31 : n < 2 ^ 31) (h : Heap) (n0 : Nat) (hn : n0 ≤ h.size) : Con l Z (⟨"jdk/internal/util/Preconditions", "checkIndex", "(IILjava/util/function/BiFunction;)I"⟩ : MethodName) jdk_41_method_11_code 3 (some .int) ({ frames := 0, cells := 0, slots := 0, locals := 0 } : Room) #[(.int i.toInt32), (.int n.toInt32), .null] h n0 (fun v h' => v = some (.int i.toInt32) ∧ h' = h) := by
  refine ConG.of_W (Ls := #[.val (.int i.toInt32), .val (.int n.toInt32), .val .null]) (plainFor_of_name pn_2) hn (fun m => by first | (simp [entryFrame, mkF, argsToLocals, Value.category]; done) | rfl) ?_
  refine W.iloadN 1 d_jdk_41_method_11_0 rfl rfl ?_
  refine W.if_lt 9 4 d_jdk_41_method_11_1 rfl rfl (fun hc => absurd hc (ki_nn (by omega))) (fun _ => ?_)
  refine W.iloadN 5 d_jdk_41_method_11_4 rfl rfl ?_
  refine W.iloadN 6 d_jdk_41_method_11_5 rfl rfl ?_
  refine W.icmp_lt 16 9 d_jdk_41_method_11_6 rfl rfl (fun _ => ?_) (fun hc => absurd (ki_lt hin h31) hc)
  refine W.iloadN 17 d_jdk_41_method_11_16 rfl rfl ?_
  exact W.ireturn d_jdk_41_method_11_17 rfl ⟨rfl, rfl⟩ (by decide) (by decide)
theorem c_cix_n (l : Launch) (Z : State) (a0 : Array Value) (hw : HwT Z a0) (i n : Nat) (hin : i < n) (h31 : n < 2 ^ 31) (h : Heap) (n0 : Nat) (hn : n0 ≤ h.size) (SF : Sta Z h "jdk/internal/util/Preconditions" "SIOOBE_FORMATTER" "Ljava/util/function/BiFunction;" .null) : Con l Z (⟨"java/lang/String", "checkIndex", "(II)V"⟩ : MethodName) jdk_42_method_155_code 2 none ({ frames := 1, cells := 0, slots := 0, locals := 20 } : Room) #[(.int i.toInt32), (.int n.toInt32)] h n0 (fun v h' => v = none ∧ h' = h) := by
  refine ConG.of_W (Ls := #[.val (.int i.toInt32), .val (.int n.toInt32)]) (plainFor_of_name pn_1) hn (fun m => by first | (simp [entryFrame, mkF, argsToLocals, Value.category]; done) | rfl) ?_
  refine W.iloadN 1 d_jdk_42_method_155_0 rfl rfl ?_
  refine W.iloadN 2 d_jdk_42_method_155_1 rfl rfl ?_
  refine W.getstatic 5 d_jdk_42_method_155_2 rfl (host := "") (Or.inl (wd_117 hw)) Via.refl SF ?_
  refine W.callS (rest := []) (argsL := [(.int i.toInt32), (.int n.toInt32), .null]) 8 d_jdk_42_method_155_5 rfl (fun hn => c_pci_n l Z a0 hw i n hin h31 _ n0 hn) (wd_183 hw) (wd_184 hw) (wd_118 hw) (wd_185 hw) (by decide) pd_6 rfl rfl rfl (by decide) 0 (Nat.le_of_ble_eq_true rfl) (by decide) (by decide) (by decide) ?_
  rintro v1032 h1032 ⟨rfl, rfl⟩
  show WG _ _ _ _ _ _ _ _ _ _ _ _ 0 0 8 #[.val (.int i.toInt32), .val (.int n.toInt32)] [(.int i.toInt32)]
  refine W.pop1 9 d_jdk_42_method_155_8 rfl rfl ?_
  exact W.return_ d_jdk_42_method_155_9 rfl ⟨rfl, rfl⟩ (by decide) (by decide)
theorem c_cix (l : Launch) (Z : State) (a0 : Array Value) (hw : HwT Z a0) (r0 : RV) (i n : Nat) (hin : i < n) (h31 : n < 2 ^ 31) (h : Heap) (n0 : Nat) (hn : n0 ≤ h.size) (SF : Sta Z h "jdk/internal/util/Preconditions" "SIOOBE_FORMATTER" "Ljava/util/function/BiFunction;" r0.1) : Con l Z (⟨"java/lang/String", "checkIndex", "(II)V"⟩ : MethodName) jdk_42_method_155_code 2 none ({ frames := 1, cells := 0, slots := 0, locals := 20 } : Room) #[(.int i.toInt32), (.int n.toInt32)] h n0 (fun v h' => v = none ∧ h' = h) := by
  obtain ⟨v, rfl | ⟨r, rfl⟩⟩ := r0
  · exact c_cix_n l Z a0 hw i n hin h31 h n0 hn SF
  · exact c_cix_r l Z a0 hw r i n hin h31 h n0 hn SF
theorem c_lch (l : Launch) (Z : State) (a0 : Array Value) (hw : HwT Z a0) (r0 : RV) (b : Addr) (xs : List Int32) (i : Nat) (hi : i < xs.length) (h : Heap) (n0 : Nat) (hn : n0 ≤ h.size) (SF : Sta Z h "jdk/internal/util/Preconditions" "SIOOBE_FORMATTER" "Ljava/util/function/BiFunction;" r0.1) (A0 : Ary Z h b .byte (iv xs)) : Con l Z (⟨"java/lang/StringLatin1", "charAt", "([BI)C"⟩ : MethodName) jdk_43_method_2_code 2 (some .char) ({ frames := 2, cells := 0, slots := 0, locals := 40 } : Room) #[(.ref b), (.int i.toInt32)] h n0 (fun v h' => v = some (.int ((xs.getD i 0) &&& (255 : Int32))) ∧ h' = h) := by
  refine ConG.of_W (Ls := #[.val (.ref b), .val (.int i.toInt32)]) (plainFor_of_name pn_3) hn (fun m => by first | (simp [entryFrame, mkF, argsToLocals, Value.category]; done) | rfl) ?_
  refine W.iloadN 1 d_jdk_43_method_2_0 rfl rfl ?_
  refine W.aloadN 2 d_jdk_43_method_2_1 rfl rfl rfl ?_
  refine W.arraylength 3 d_jdk_43_method_2_2 rfl A0 xs.length.toInt32 (by rw [iv_len]) ?_
  refine W.callS (rest := []) (argsL := [(.int i.toInt32), (.int xs.length.toInt32)]) 6 d_jdk_43_method_2_3 rfl (fun hn => c_cix l Z a0 hw r0 i xs.length hi (iv_31 A0) _ n0 hn SF) (wd_180 hw) (wd_181 hw) (wd_3 hw) (wd_182 hw) (by decide) pd_7 rfl rfl rfl (by decide) 0 (Nat.le_of_ble_eq_true rfl) (by decide) (by decide) (by decide) ?_
  rintro v1033 h1033 ⟨rfl, rfl⟩
  show WG _ _ _ _ _ _ _ _ _ _ _ _ 0 0 6 #[.val (.ref b), .val (.int i.toInt32)] []
  refine W.aloadN 7 d_jdk_43_method_2_6 rfl rfl rfl ?_
  refine W.iloadN 8 d_jdk_43_method_2_7 rfl rfl ?_
  refine W.baload 9 d_jdk_43_method_2_8 rfl A0 i (ki_idx (Nat.lt_trans hi (iv_31 A0))) (ki_nn (Nat.lt_trans hi (iv_31 A0))) (.int (xs.getD i 0)) (iv_at hi) ?_
  refine W.sipush 12 d_jdk_43_method_2_9 rfl (255 : Int32) rfl ?_
  refine W.iand 13 d_jdk_43_method_2_12 rfl ((xs.getD i 0) &&& (255 : Int32)) rfl ?_
  refine W.i2c 14 d_jdk_43_method_2_13 rfl ((xs.getD i 0) &&& (255 : Int32)) (ch_nar (own_m _)) ?_
  exact W.ireturnN (t := .char) d_jdk_43_method_2_14 rfl (by simp) ((xs.getD i 0) &&& (255 : Int32)) (ch_nar (own_m _)) ⟨rfl, rfl⟩ (by decide) (by decide)
theorem c_cat (l : Launch) (Z : State) (a0 : Array Value) (hw : HwT Z a0) (s b : Addr) (r0 : RV) (kc : Int32) (hkc : ¬ kc = 0) (xs : List Int32) (i : Nat) (hi : i < xs.length) (h : Heap) (n0 : Nat) (hn : n0 ≤ h.size) (FS : Sta Z h "java/lang/String" "COMPACT_STRINGS" "Z" (.int kc)) (SF : Sta Z h "jdk/internal/util/Preconditions" "SIOOBE_FORMATTER" "Ljava/util/function/BiFunction;" r0.1) (E0 : Exa Z h s "java/lang/String") (C0 : Fld Z h s "java/lang/String" "coder" "B" (.int 0)) (V0 : Fld Z h s "java/lang/String" "value" "[B" (.ref b)) (A0 : Ary Z h b .byte (iv xs)) : Con l Z (⟨"java/lang/String", "charAt", "(I)C"⟩ : MethodName) jdk_42_method_56_code 2 (some .char) ({ frames := 3, cells := 0, slots := 0, locals := 60 } : Room) #[(.ref s), (.int i.toInt32)] h n0 (fun v h' => v = some (.int ((xs.getD i 0) &&& (255 : Int32))) ∧ h' = h) := by
  refine ConG.of_W (Ls := #[.val (.ref s), .val (.int i.toInt32)]) (plainFor_of_name pn_1) hn (fun m => by first | (simp [entryFrame, mkF, argsToLocals, Value.category]; done) | rfl) ?_
  refine W.aloadN 1 d_jdk_42_method_56_0 rfl rfl rfl ?_
  refine W.callV (rest := []) (argsL := []) (a := s) 4 d_jdk_42_method_56_1 rfl (fun hn => c_isl l Z a0 hw s b kc hkc xs _ n0 hn FS E0 C0 V0 A0) E0 (wd_122 hw) (wd_123 hw) (wd_125 hw) rfl (wd_124 hw) (wd_3 hw) (wd_126 hw) (by decide) pd_8 rfl rfl rfl (by decide) 0 (Nat.le_of_ble_eq_true rfl) (by decide) (by decide) (by decide) ?_
  rintro v1034 h1034 ⟨rfl, rfl⟩
  show WG _ _ _ _ _ _ _ _ _ _ _ _ 0 0 4 #[.val (.ref s), .val (.int i.toInt32)] [(.int (1 : Int32))]
  refine W.if_eq 16 7 d_jdk_42_method_56_4 rfl rfl (fun hc => absurd hc (by decide)) (fun _ => ?_)
  refine W.aloadN 8 d_jdk_42_method_56_7 rfl rfl rfl ?_
  refine W.getfield 11 d_jdk_42_method_56_8 rfl (host := "") (Or.inl (wd_28 hw)) Via.refl V0 ?_
  refine W.iloadN 12 d_jdk_42_method_56_11 rfl rfl ?_
  refine W.callS (rest := []) (argsL := [(.ref b), (.int i.toInt32)]) 15 d_jdk_42_method_56_12 rfl (fun hn => c_lch l Z a0 hw r0 b xs i hi _ n0 hn SF A0) (wd_177 hw) (wd_178 hw) (wd_35 hw) (wd_179 hw) (by decide) pd_9 rfl rfl rfl (by decide) 0 (Nat.le_of_ble_eq_true rfl) (by decide) (by decide) (by decide) ?_
  rintro v1035 h1035 ⟨rfl, rfl⟩
  show WG _ _ _ _ _ _ _ _ _ _ _ _ 0 0 15 #[.val (.ref s), .val (.int i.toInt32)] [(.int ((xs.getD i 0) &&& (255 : Int32)))]
  exact W.ireturnN (t := .char) d_jdk_42_method_56_15 rfl (by simp) ((xs.getD i 0) &&& (255 : Int32)) (ch_nar (own_m _)) ⟨rfl, rfl⟩ (by decide) (by decide)
theorem own_cp (xs : List Int32) (f t : Nat) (h : t ≤ xs.length) (hft : f ≤ t) : (List.replicate (t - f) (Value.int 0)).take 0 ++ ((iv xs).drop f).take (t - f) ++ (List.replicate (t - f) (Value.int 0)).drop (0 + (t - f)) = iv (sl xs f t) := by
  simp [iv, sl, List.map_drop, List.map_take]
theorem own_sl0 {xs : List Int32} {f t : Nat} (h : t - f = 0) : iv (sl xs f t) = [] := by simp [iv, sl, h]
theorem own_slA {xs : List Int32} {f t : Nat} (h : f = 0) (h2 : t = xs.length) : sl xs f t = xs := by subst h h2; simp [sl]
theorem c_min (l : Launch) (Z : State) (a0 : Array Value) (hw : HwT Z a0) (a b : Nat) (hab : b ≤ a) (h31 : a < 2 ^ 31) (h : Heap) (n0 : Nat) (hn : n0 ≤ h.size) : Con l Z (⟨"java/lang/Math", "min", "(II)I"⟩ : MethodName) jdk_29_method_69_code 2 (some .int) ({ frames := 0, cells := 0, slots := 0, locals := 0 } : Room) #[(.int a.toInt32), (.int b.toInt32)] h n0 (fun v h' => v = some (.int b.toInt32) ∧ h' = h) := by
  refine ConG.of_W (Ls := #[.val (.int a.toInt32), .val (.int b.toInt32)]) (Jvm.Free.JP.mathPlain rfl (by decide +kernel)) hn (fun m => by first | (simp [entryFrame, mkF, argsToLocals, Value.category]; done) | rfl) ?_
  refine W.iloadN 1 d_jdk_29_method_69_0 rfl rfl ?_
  refine W.iloadN 2 d_jdk_29_method_69_1 rfl rfl ?_
  refine W.icmp_gt 9 5 d_jdk_29_method_69_2 rfl rfl ?_ ?_
  · intro hc1036
    refine W.iloadN 10 d_jdk_29_method_69_9 rfl rfl ?_
    exact W.ireturn d_jdk_29_method_69_10 rfl ⟨rfl, rfl⟩ (by decide) (by decide)
  · intro hc1036
    refine W.iloadN 6 d_jdk_29_method_69_5 rfl rfl ?_
    refine W.goto 10 d_jdk_29_method_69_6 rfl ?_
    exact W.ireturn d_jdk_29_method_69_10 rfl ⟨by rw [show a = b from Classical.byContradiction fun q => hc1036 (ki_lt (by omega) h31)], rfl⟩ (by decide) (by decide)
theorem c_chk (l : Launch) (Z : State) (a0 : Array Value) (hw : HwT Z a0) (f t : Nat) (hft : f ≤ t) (h31 : t < 2 ^ 31) (h : Heap) (n0 : Nat) (hn : n0 ≤ h.size) : Con l Z (⟨"java/util/Arrays", "checkLength", "(II)V"⟩ : MethodName) jdk_65_method_131_code 2 none ({ frames := 0, cells := 0, slots := 0, locals := 0 } : Room) #[(.int f.toInt32), (.int t.toInt32)] h n0 (fun v h' => v = none ∧ h' = h) := by
  refine ConG.of_W (Ls := #[.val (.int f.toInt32), .val (.int t.toInt32)]) (plainFor_of_name pn_4) hn (fun m => by first | (simp [entryFrame, mkF, argsToLocals, Value.category]; done) | rfl) ?_
  refine W.iloadN 1 d_jdk_65_method_131_0 rfl rfl ?_
  refine W.iloadN 2 d_jdk_65_method_131_1 rfl rfl ?_
  refine W.icmp_ge 37 5 d_jdk_65_method_131_2 rfl rfl (fun _ => ?_) (fun hc => absurd hc (ki_le hft h31))
  exact W.return_ d_jdk_65_method_131_37 rfl ⟨rfl, rfl⟩ (by decide) (by decide)
theorem c_corb (l : Launch) (Z : State) (a0 : Array Value) (hw : HwT Z a0) (b : Addr) (xs : List Int32) (f t : Nat) (hft : f ≤ t) (htn : t ≤ xs.length) (hcap : xs.length ≤ 16) (h : Heap) (n0 : Nat) (hn : n0 ≤ h.size) (A0 : Ary Z h b .byte (iv xs)) : Con l Z (⟨"java/util/Arrays", "copyOfRangeByte", "([BII)[B"⟩ : MethodName) jdk_65_method_133_code 5 (some (.array .byte)) ({ frames := 1, cells := 1, slots := 16, locals := 40 } : Room) #[(.ref b), (.int f.toInt32), (.int t.toInt32)] h n0 (fun v h' => ∃ d, v = some (.ref d) ∧ h.size ≤ d ∧ n0 ≤ d ∧ Keep h h' [] ∧ Ary Z h' d .byte (iv (sl xs f t))) := by
  refine ConG.of_W (Ls := #[.val (.ref b), .val (.int f.toInt32), .val (.int t.toInt32), .unset, .unset]) (plainFor_of_name pn_4) hn (fun m => by first | (simp [entryFrame, mkF, argsToLocals, Value.category]; done) | rfl) ?_
  refine W.iloadN 1 d_jdk_65_method_133_0 rfl rfl ?_
  refine W.iloadN 2 d_jdk_65_method_133_1 rfl rfl ?_
  refine W.callS (rest := []) (argsL := [(.int f.toInt32), (.int t.toInt32)]) 5 d_jdk_65_method_133_2 rfl (fun hn => c_chk l Z a0 hw f t hft (by omega) _ n0 hn) (wd_194 hw) (wd_195 hw) (wd_189 hw) (wd_196 hw) (by decide) pd_7 rfl rfl rfl (by decide) 0 (Nat.le_of_ble_eq_true rfl) (by decide) (by decide) (by decide) ?_
  rintro v1037 h1037 ⟨rfl, rfl⟩
  show WG _ _ _ _ _ _ _ _ _ _ _ _ 0 0 5 #[.val (.ref b), .val (.int f.toInt32), .val (.int t.toInt32), .unset, .unset] []
  refine W.iloadN 6 d_jdk_65_method_133_5 rfl rfl ?_
  refine W.iloadN 7 d_jdk_65_method_133_6 rfl rfl ?_
  refine W.isub 8 d_jdk_65_method_133_7 rfl (t - f).toInt32 (ki_sub hft (by omega)) ?_
  refine W.istoreN 9 d_jdk_65_method_133_8 rfl #[.val (.ref b), .val (.int f.toInt32), .val (.int t.toInt32), .val (.int (t - f).toInt32), .unset] rfl ?_
  refine W.iloadN 10 d_jdk_65_method_133_9 rfl rfl ?_
  refine W.newarray 12 d_jdk_65_method_133_10 rfl (wd_19 hw) rfl (ki_nn (by omega)) (t - f) 16 (ki_idx (by omega)) (by omega) (by decide) (by decide) (by decide) rfl ?_
  intro h1038 b1038 g1038 ge1038 X1038 K1038 A1038
  have ne1039 : b ≠ b1038 := Nat.ne_of_lt (Nat.lt_of_lt_of_eq A0.lt g1038.symm)
  have sz1040 := Nat.le_trans (Keep.refl _ []).1 (Nat.le_of_eq g1038.symm)
  have kc1041 := Keep.trans (ws := []) (Keep.refl _ []) K1038 all0
  show WG _ _ _ _ _ _ _ _ _ _ _ _ 1 16 12 #[.val (.ref b), .val (.int f.toInt32), .val (.int t.toInt32), .val (.int (t - f).toInt32), .unset] [(.ref b1038)]
  refine W.astore 14 d_jdk_65_method_133_12 rfl rfl #[.val (.ref b), .val (.int f.toInt32), .val (.int t.toInt32), .val (.int (t - f).toInt32), .val (.ref b1038)] rfl ?_
  refine W.aloadN 15 d_jdk_65_method_133_14 rfl rfl rfl ?_
  refine W.iloadN 16 d_jdk_65_method_133_15 rfl rfl ?_
  refine W.aload 18 d_jdk_65_method_133_16 rfl rfl rfl ?_
  refine W.iconst 19 d_jdk_65_method_133_18 rfl (0 : Int32) rfl ?_
  refine W.aloadN 20 d_jdk_65_method_133_19 rfl rfl rfl ?_
  have q1042 := (A0.keep K1038 nin0)
  refine W.arraylength 21 d_jdk_65_method_133_20 rfl q1042 xs.length.toInt32 (by rw [iv_len]) ?_
  refine W.iloadN 22 d_jdk_65_method_133_21 rfl rfl ?_
  refine W.isub 23 d_jdk_65_method_133_22 rfl (xs.length - f).toInt32 (ki_sub (Nat.le_trans hft htn) (by omega)) ?_
  refine W.iloadN 24 d_jdk_65_method_133_23 rfl rfl ?_
  refine W.callS (rest := [(.int (0 : Int32)), (.ref b1038), (.int f.toInt32), (.ref b)]) (argsL := [(.int (xs.length - f).toInt32), (.int (t - f).toInt32)]) 27 d_jdk_65_method_133_24 rfl (fun hn => c_min l Z a0 hw (xs.length - f) (t - f) (by omega) (by omega) _ n0 hn) (wd_197 hw) (wd_198 hw) (wd_199 hw) (wd_200 hw) (by decide) pd_10 rfl rfl rfl (by decide) 4 (Nat.le_of_ble_eq_true rfl) (by decide) (by decide) (by decide) ?_
  rintro v1043 h1043 ⟨rfl, rfl⟩
  show WG _ _ _ _ _ _ _ _ _ _ _ _ 1 16 27 #[.val (.ref b), .val (.int f.toInt32), .val (.int t.toInt32), .val (.int (t - f).toInt32), .val (.ref b1038)] [(.int (t - f).toInt32), (.int (0 : Int32)), (.ref b1038), (.int f.toInt32), (.ref b)]
  refine W.arraycopy 30 d_jdk_65_method_133_27 rfl (wd_201 hw) (wd_204 hw) (wd_202 hw) (wd_203 hw) q1042 A1038 rfl f 0 (t - f) (ki_idx (by omega)) (ki_nn (by omega)) (by decide) (by decide) (ki_idx (by omega)) (ki_nn (by omega)) (by rw [iv_len]; omega) (by rw [List.length_replicate]; omega) ge1038 rfl (by decide) 0 (Nat.le_of_ble_eq_true rfl) (by decide) ?_
  intro h1044 K1044 A1044
  have kc1045 := Keep.trans (ws := []) kc1041 K1044 (allS (Or.inr sz1040) all0)
  refine W.aload 32 d_jdk_65_method_133_30 rfl rfl rfl ?_
  exact W.areturn d_jdk_65_method_133_32 rfl rfl rfl rfl ⟨_, rfl, sz1040, ge1038, kc1045, own_cp xs f t htn hft ▸ A1044⟩ (by decide) (by decide)
theorem c_cor (l : Launch) (Z : State) (a0 : Array Value) (hw : HwT Z a0) (b : Addr) (xs : List Int32) (f t : Nat) (hft : f ≤ t) (htn : t ≤ xs.length) (hcap : xs.length ≤ 16) (h : Heap) (n0 : Nat) (hn : n0 ≤ h.size) (hne : ¬ (f = 0 ∧ t = xs.length)) (A0 : Ary Z h b .byte (iv xs)) : Con l Z (⟨"java/util/Arrays", "copyOfRange", "([BII)[B"⟩ : MethodName) jdk_65_method_132_code 3 (some (.array .byte)) ({ frames := 2, cells := 1, slots := 16, locals := 64 } : Room) #[(.ref b), (.int f.toInt32), (.int t.toInt32)] h n0 (fun v h' => ∃ d, v = some (.ref d) ∧ h.size ≤ d ∧ n0 ≤ d ∧ Keep h h' [] ∧ Ary Z h' d .byte (iv (sl xs f t))) := by
  refine ConG.of_W (Ls := #[.val (.ref b), .val (.int f.toInt32), .val (.int t.toInt32)]) (plainFor_of_name pn_4) hn (fun m => by first | (simp [entryFrame, mkF, argsToLocals, Value.category]; done) | rfl) ?_
  refine W.iloadN 1 d_jdk_65_method_132_0 rfl rfl ?_
  refine W.if_ne 10 4 d_jdk_65_method_132_1 rfl rfl ?_ ?_
  · intro hc1046
    refine W.aloadN 11 d_jdk_65_method_132_10 rfl rfl rfl ?_
    refine W.iloadN 12 d_jdk_65_method_132_11 rfl rfl ?_
    refine W.iloadN 13 d_jdk_65_method_132_12 rfl rfl ?_
    refine W.callS (rest := []) (argsL := [(.ref b), (.int f.toInt32), (.int t.toInt32)]) 16 d_jdk_65_method_132_13 rfl (fun hn => c_corb l Z a0 hw b xs f t hft htn hcap _ n0 hn A0) (wd_191 hw) (wd_192 hw) (wd_189 hw) (wd_193 hw) (by decide) pd_11 rfl rfl rfl (by decide) 0 (Nat.le_of_ble_eq_true rfl) (by decide) (by decide) (by decide) ?_
    rintro v1047 h1047 ⟨d1047, rfl, sz1047, gd1047, K1047, A1047⟩
    have ne1048 : b ≠ d1047 := Nat.ne_of_lt (Nat.lt_of_lt_of_le A0.lt sz1047)
    have sz1049 := Nat.le_trans (Keep.refl _ []).1 sz1047
    have kc1050 := Keep.trans (ws := []) (Keep.refl _ []) K1047 all0
    show WG _ _ _ _ _ _ _ _ _ _ _ _ 1 16 16 #[.val (.ref b), .val (.int f.toInt32), .val (.int t.toInt32)] [(.ref d1047)]
    exact W.areturn d_jdk_65_method_132_16 rfl rfl rfl rfl ⟨_, rfl, sz1049, gd1047, kc1050, A1047⟩ (by decide) (by decide)
  · intro hc1046
    refine W.iloadN 5 d_jdk_65_method_132_4 rfl rfl ?_
    refine W.aloadN 6 d_jdk_65_method_132_5 rfl rfl rfl ?_
    refine W.arraylength 7 d_jdk_65_method_132_6 rfl A0 xs.length.toInt32 (by rw [iv_len]) ?_
    refine W.icmp_eq 17 10 d_jdk_65_method_132_7 rfl rfl (fun hc => absurd hc (ki_ne (fun q => hne ⟨ki_eq0 (by omega) hc1046, q⟩) (by omega) (by omega))) (fun _ => ?_)
    refine W.aloadN 11 d_jdk_65_method_132_10 rfl rfl rfl ?_
    refine W.iloadN 12 d_jdk_65_method_132_11 rfl rfl ?_
    refine W.iloadN 13 d_jdk_65_method_132_12 rfl rfl ?_
    refine W.callS (rest := []) (argsL := [(.ref b), (.int f.toInt32), (.int t.toInt32)]) 16 d_jdk_65_method_132_13 rfl (fun hn => c_corb l Z a0 hw b xs f t hft htn hcap _ n0 hn A0) (wd_191 hw) (wd_192 hw) (wd_189 hw) (wd_193 hw) (by decide) pd_11 rfl rfl rfl (by decide) 0 (Nat.le_of_ble_eq_true rfl) (by decide) (by decide) (by decide) ?_
    rintro v1051 h1051 ⟨d1051, rfl, sz1051, gd1051, K1051, A1051⟩
    have ne1052 : b ≠ d1051 := Nat.ne_of_lt (Nat.lt_of_lt_of_le A0.lt sz1051)
    have sz1053 := Nat.le_trans (Keep.refl _ []).1 sz1051
    have kc1054 := Keep.trans (ws := []) (Keep.refl _ []) K1051 all0
    show WG _ _ _ _ _ _ _ _ _ _ _ _ 1 16 16 #[.val (.ref b), .val (.int f.toInt32), .val (.int t.toInt32)] [(.ref d1051)]
    exact W.areturn d_jdk_65_method_132_16 rfl rfl rfl rfl ⟨_, rfl, sz1053, gd1051, kc1054, A1051⟩ (by decide) (by decide)
theorem c_ce (l : Launch) (Z : State) (a0 : Array Value) (hw : HwT Z a0) (ch : Int32) (h : Heap) (n0 : Nat) (hn : n0 ≤ h.size) (Hch : ChOk ch) : Con l Z (⟨"java/lang/StringLatin1", "canEncode", "(C)Z"⟩ : MethodName) jdk_43_method_3_code 1 (some .boolean) ({ frames := 0, cells := 0, slots := 0, locals := 0 } : Room) #[(.int ch)] h n0 (fun v h' => v = some (.int 1) ∧ h' = h) := by
  refine ConG.of_W (Ls := #[.val (.int ch)]) (plainFor_of_name pn_3) hn (fun m => by first | (simp [entryFrame, mkF, argsToLocals, Value.category]; done) | rfl) ?_
  refine W.iloadN 1 d_jdk_43_method_3_0 rfl rfl ?_
  refine W.sipush 4 d_jdk_43_method_3_1 rfl (255 : Int32) rfl ?_
  refine W.icmp_gt 11 7 d_jdk_43_method_3_4 rfl rfl (fun hc => absurd hc (ch_le Hch)) (fun _ => ?_)
  refine W.iconst 8 d_jdk_43_method_3_7 rfl (1 : Int32) rfl ?_
  refine W.goto 12 d_jdk_43_method_3_8 rfl ?_
  exact W.ireturnN (t := .boolean) d_jdk_43_method_3_12 rfl (by simp) (1 : Int32) rfl ⟨rfl, rfl⟩ (by decide) (by decide)
theorem c_tb (l : Launch) (Z : State) (a0 : Array Value) (hw : HwT Z a0) (ch : Int32) (h : Heap) (n0 : Nat) (hn : n0 ≤ h.size) : Con l Z (⟨"java/lang/StringLatin1", "toBytes", "(C)[B"⟩ : MethodName) jdk_43_method_46_code 1 (some (.array .byte)) ({ frames := 0, cells := 1, slots := 1, locals := 0 } : Room) #[(.int ch)] h n0 (fun v h' => ∃ d, v = some (.ref d) ∧ h.size ≤ d ∧ n0 ≤ d ∧ Keep h h' [] ∧ Ary Z h' d .byte [(.int (ch.toInt8.toInt32))]) := by
  refine ConG.of_W (Ls := #[.val (.int ch)]) (plainFor_of_name pn_3) hn (fun m => by first | (simp [entryFrame, mkF, argsToLocals, Value.category]; done) | rfl) ?_
  refine W.iconst 1 d_jdk_43_method_46_0 rfl (1 : Int32) rfl ?_
  refine W.newarray 3 d_jdk_43_method_46_1 rfl (wd_19 hw) rfl (by decide) 1 1 (by decide) (by decide) (by decide) (by decide) (by decide) rfl ?_
  intro h1055 b1055 g1055 ge1055 X1055 K1055 A1055
  have sz1056 := Nat.le_trans (Keep.refl _ []).1 (Nat.le_of_eq g1055.symm)
  have kc1057 := Keep.trans (ws := []) (Keep.refl _ []) K1055 all0
  have A1055 : Ary _ _ b1055 .byte [(.int (0 : Int32))] := A1055
  show WG _ _ _ _ _ _ _ _ _ _ _ _ 1 1 3 #[.val (.int ch)] [(.ref b1055)]
  refine W.dup 4 d_jdk_43_method_46_3 rfl rfl ?_
  refine W.iconst 5 d_jdk_43_method_46_4 rfl (0 : Int32) rfl ?_
  refine W.iloadN 6 d_jdk_43_method_46_5 rfl rfl ?_
  refine W.i2b 7 d_jdk_43_method_46_6 rfl (ch.toInt8.toInt32) rfl ?_
  refine W.bastore 8 d_jdk_43_method_46_7 rfl A1055 0 (by decide) (by decide) (Nat.le_of_ble_eq_true rfl) (ch.toInt8.toInt32) (nar_b ch) ge1055 ?_
  intro h1058 W1058 K1058 A1058
  have kc1059 := Keep.trans (ws := []) kc1057 K1058 (allS (Or.inr sz1056) all0)
  have A1058 : Ary _ _ b1055 .byte [(.int (ch.toInt8.toInt32))] := A1058
  exact W.areturn d_jdk_43_method_46_8 rfl rfl rfl rfl ⟨_, rfl, sz1056, ge1055, kc1059, A1058⟩ (by decide) (by decide)
theorem c_ib (l : Launch) (Z : State) (a0 : Array Value) (hw : HwT Z a0) (a b : Addr) (h : Heap) (n0 : Nat) (hn : n0 ≤ h.size) (ga : n0 ≤ a) (E : Exa Z h a "java/lang/String") (C : Fld Z h a "java/lang/String" "coder" "B" (.int 0)) (V : Fld Z h a "java/lang/String" "value" "[B" .null) : Con l Z (⟨"java/lang/String", "<init>", "([BB)V"⟩ : MethodName) jdk_42_method_151_code 3 none ({ frames := 1, cells := 0, slots := 0, locals := 14 } : Room) #[(.ref a), (.ref b), (.int (0 : Int32))] h n0 (fun v h' => v = none ∧ Keep h h' [a] ∧ Fld Z h' a "java/lang/String" "coder" "B" (.int 0) ∧ Fld Z h' a "java/lang/String" "value" "[B" (.ref b)) := by
  refine ConG.of_W (Ls := #[.val (.ref a), .val (.ref b), .val (.int (0 : Int32))]) (plainFor_of_name pn_1) hn (fun m => by first | (simp [entryFrame, mkF, argsToLocals, Value.category]; done) | rfl) ?_
  refine W.aloadN 1 d_jdk_42_method_151_0 rfl rfl rfl ?_
  refine W.initObj 4 d_jdk_42_method_151_1 rfl (wd_11 hw) (wd_12 hw) (wd_13 hw) rfl (by decide) 0 (Nat.le_of_ble_eq_true rfl) (by decide) ?_
  refine W.aloadN 5 d_jdk_42_method_151_4 rfl rfl rfl ?_
  refine W.aloadN 6 d_jdk_42_method_151_5 rfl rfl rfl ?_
  refine W.putfield 9 d_jdk_42_method_151_6 rfl (host := "") (Or.inl (wd_28 hw)) Via.refl V E (Or.inr ⟨(wd_29 hw), rfl, rfl⟩) (wd_2 hw) (ty := (.array .byte)) (by decide) rfl rfl ga ?_
  intro h1060 W1060 F1060 E1060 K1060
  have kc1061 := Keep.trans (ws := [a]) (Keep.refl _ [a]) K1060 (allS (Or.inl (List.mem_of_getElem? (i := 0) rfl)) all0)
  refine W.aloadN 10 d_jdk_42_method_151_9 rfl rfl rfl ?_
  refine W.iloadN 11 d_jdk_42_method_151_10 rfl rfl ?_
  have q1062 := (C.other W1060 (Or.inr (sne_1 hw)))
  refine W.putfieldN 14 d_jdk_42_method_151_11 rfl (wd_26 hw) Via.refl q1062 E1060 (Or.inr ⟨(wd_27 hw), rfl, rfl⟩) (wd_2 hw) (ty := .byte) (by decide) (.int (0 : Int32)) rfl rfl ga ?_
  intro h1063 W1063 F1063 E1063 K1063
  have kc1064 := Keep.trans (ws := [a]) kc1061 K1063 (allS (Or.inl (List.mem_of_getElem? (i := 0) rfl)) all0)
  have q1065 := (F1060.other W1063 (Or.inr (sne_0 hw)))
  exact W.return_ d_jdk_42_method_151_14 rfl ⟨rfl, kc1064, F1063, q1065⟩ (by decide) (by decide)
theorem c_vo (l : Launch) (Z : State) (a0 : Array Value) (hw : HwT Z a0) (ch : Int32) (kc : Int32) (hkc : ¬ kc = 0) (h : Heap) (n0 : Nat) (hn : n0 ≤ h.size) (Hch : ChOk ch) (FS : Sta Z h "java/lang/String" "COMPACT_STRINGS" "Z" (.int kc)) : Con l Z (⟨"java/lang/String", "valueOf", "(C)Ljava/lang/String;"⟩ : MethodName) jdk_42_method_139_code 1 (some (.object "java/lang/String")) ({ frames := 2, cells := 2, slots := 5, locals := 48 } : Room) #[(.int ch)] h n0 (fun v h' => ∃ r b, v = some (.ref r) ∧ Keep h h' [] ∧ Exa Z h' r "java/lang/String" ∧ Fld Z h' r "java/lang/String" "coder" "B" (.int 0) ∧ Fld Z h' r "java/lang/String" "value" "[B" (.ref b) ∧ Ary Z h' b .byte [(.int (ch.toInt8.toInt32))]) := by
  refine ConG.of_W (Ls := #[.val (.int ch)]) (plainFor_of_name pn_1) hn (fun m => by first | (simp [entryFrame, mkF, argsToLocals, Value.category]; done) | rfl) ?_
  refine W.getstatic 3 d_jdk_42_method_139_0 rfl (host := "") (Or.inl (wd_14 hw)) Via.refl (Sta.keep0 (Keep.refl _ []) FS) ?_
  refine W.if_eq 26 6 d_jdk_42_method_139_3 rfl rfl (fun hc => absurd hc hkc) (fun _ => ?_)
  refine W.iloadN 7 d_jdk_42_method_139_6 rfl rfl ?_
  refine W.callS (rest := []) (argsL := [(.int ch)]) 10 d_jdk_42_method_139_7 rfl (fun hn => c_ce l Z a0 hw ch _ n0 hn Hch) (wd_33 hw) (wd_34 hw) (wd_35 hw) (wd_36 hw) (by decide) pd_12 rfl rfl rfl (by decide) 0 (Nat.le_of_ble_eq_true rfl) (by decide) (by decide) (by decide) ?_
  rintro v1066 h1066 ⟨rfl, rfl⟩
  show WG _ _ _ _ _ _ _ _ _ _ _ _ 0 0 10 #[.val (.int ch)] [(.int (1 : Int32))]
  refine W.if_eq 26 13 d_jdk_42_method_139_10 rfl rfl (fun hc => absurd hc (by decide)) (fun _ => ?_)
  refine W.new 16 d_jdk_42_method_139_13 rfl (wd_37 hw) (wd_2 hw) (wd_3 hw) (by decide) (by decide) ?_
  intro h1067 o1067 g1067 ge1067 X1067 K1067 E1067 D1067
  have sz1068 := Nat.le_trans (Keep.refl _ []).1 (Nat.le_of_eq g1067.symm)
  have kc1069 := Keep.trans (ws := []) (Keep.refl _ []) K1067 all0
  have f1070 : Fld _ _ o1067 "java/lang/String" "coder" "B" (.int (0 : Int32)) := D1067 (Or.inr (wd_27 hw)) (ty := .byte) (by decide)
  have f1071 : Fld _ _ o1067 "java/lang/String" "value" "[B" .null := D1067 (Or.inr (wd_29 hw)) (ty := (.array .byte)) (by decide)
  show WG _ _ _ _ _ _ _ _ _ _ _ _ 1 4 16 #[.val (.int ch)] [(.ref o1067)]
  refine W.dup 17 d_jdk_42_method_139_16 rfl rfl ?_
  refine W.iloadN 18 d_jdk_42_method_139_17 rfl rfl ?_
  refine W.callS (rest := [(.ref o1067), (.ref o1067)]) (argsL := [(.int ch)]) 21 d_jdk_42_method_139_18 rfl (fun hn => c_tb l Z a0 hw ch _ n0 hn) (wd_38 hw) (wd_39 hw) (wd_35 hw) (wd_40 hw) (by decide) pd_13 rfl rfl rfl (by decide) 2 (Nat.le_of_ble_eq_true rfl) (by decide) (by decide) (by decide) ?_
  rintro v1072 h1072 ⟨d1072, rfl, sz1072, gd1072, K1072, A1072⟩
  have ne1073 : o1067 ≠ d1072 := Nat.ne_of_lt (Nat.lt_of_lt_of_le E1067.lt sz1072)
  have sz1074 := Nat.le_trans kc1069.1 sz1072
  have kc1075 := Keep.trans (ws := []) kc1069 K1072 all0
  show WG _ _ _ _ _ _ _ _ _ _ _ _ 2 5 21 #[.val (.int ch)] [(.ref d1072), (.ref o1067), (.ref o1067)]
  refine W.iconst 22 d_jdk_42_method_139_21 rfl (0 : Int32) rfl ?_
  have q1076 := (E1067.keep K1072)
  have q1077 := (f1070.keep K1072 nin0)
  have q1078 := (f1071.keep K1072 nin0)
  refine W.callInit (rest := [(.ref o1067)]) (argsL := [(.ref d1072), (.int (0 : Int32))]) (a := o1067) 25 d_jdk_42_method_139_22 rfl (fun hn => c_ib l Z a0 hw o1067 d1072 _ n0 hn ge1067 q1076 q1077 q1078) rfl (wd_41 hw) (wd_42 hw) (wd_3 hw) (wd_43 hw) (by decide) pd_14 rfl rfl rfl (by decide) 1 (Nat.le_of_ble_eq_true rfl) (by decide) (by decide) (by decide) ?_
  rintro v1079 h1079 ⟨rfl, K1079, C1079, V1079⟩
  have kc1080 := Keep.trans (ws := []) kc1075 K1079 (allS (Or.inr sz1068) all0)
  show WG _ _ _ _ _ _ _ _ _ _ _ _ 2 5 25 #[.val (.int ch)] [(.ref o1067)]
  have q1081 := (q1076.keep K1079)
  have q1082 := (A1072.keep K1079 (ninS (Ne.symm ne1073) nin0))
  exact W.areturn d_jdk_42_method_139_25 rfl rfl rfl rfl ⟨_, d1072, rfl, kc1080, q1081, C1079, V1079, q1082⟩ (by decide) (by decide)
theorem own_ft {f t : Nat} (h : f ≤ t) : f.toInt32 + (t - f).toInt32 = t.toInt32 := by rw [ki_add, Nat.add_sub_cancel' h]
theorem c_news (l : Launch) (Z : State) (a0 : Array Value) (hw : HwT Z a0) (b : Addr) (xs : List Int32) (f t : Nat) (hft : f ≤ t) (htn : t ≤ xs.length) (hcap : xs.length ≤ 16) (h : Heap) (n0 : Nat) (hn : n0 ≤ h.size) (hne : ¬ (f = 0 ∧ t = xs.length)) (A0 : Ary Z h b .byte (iv xs)) : ConX Z consts_1 [] [] l (⟨"java/lang/StringLatin1", "newString", "([BII)Ljava/lang/String;"⟩ : MethodName) jdk_43_method_47_code 3 (some (.object "java/lang/String")) ({ frames := 3, cells := 3, slots := 24, locals := 96 } : Room) #[(.ref b), (.int f.toInt32), (.int (t - f).toInt32)] h n0 (fun v h' => ∃ r b, v = some (.ref r) ∧ Keep h h' [] ∧ Exa Z h' r "java/lang/String" ∧ Fld Z h' r "java/lang/String" "coder" "B" (.int 0) ∧ Fld Z h' r "java/lang/String" "value" "[B" (.ref b) ∧ Ary Z h' b .byte (iv (sl xs f t))) := by
  refine ConX.of_W (Ls := #[.val (.ref b), .val (.int f.toInt32), .val (.int (t - f).toInt32)]) (plainFor_of_name pn_3) hn (fun m => by first | (simp [entryFrame, mkF, argsToLocals, Value.category]; done) | rfl) ?_
  have hv0 := HV.here (Z := Z) (EL := consts_1) (h := h) (S := [])
  refine W.iloadN 1 d_jdk_43_method_47_0 rfl rfl ?_
  refine W.if_ne 7 4 d_jdk_43_method_47_1 rfl rfl ?_ ?_
  · intro hc1083
    refine W.new 10 d_jdk_43_method_47_7 rfl (wd_186 hw) (wd_2 hw) (wd_3 hw) (by decide) (by decide) ?_
    intro h1084 o1084 g1084 ge1084 X1084 K1084 E1084 D1084
    have ne1085 : b ≠ o1084 := Nat.ne_of_lt (Nat.lt_of_lt_of_eq A0.lt g1084.symm)
    have sz1086 := Nat.le_trans (Keep.refl _ []).1 (Nat.le_of_eq g1084.symm)
    have hv1087 := HV.new hv0 K1084 all0 (Nat.le_of_eq g1084.symm)
    have kc1088 := Keep.trans (ws := []) (Keep.refl _ []) K1084 all0
    have f1089 : Fld _ _ o1084 "java/lang/String" "coder" "B" (.int (0 : Int32)) := D1084 (Or.inr (wd_27 hw)) (ty := .byte) (by decide)
    have f1090 : Fld _ _ o1084 "java/lang/String" "value" "[B" .null := D1084 (Or.inr (wd_29 hw)) (ty := (.array .byte)) (by decide)
    show WG _ _ _ _ _ _ _ _ _ _ _ _ 1 4 10 #[.val (.ref b), .val (.int f.toInt32), .val (.int (t - f).toInt32)] [(.ref o1084)]
    refine W.dup 11 d_jdk_43_method_47_10 rfl rfl ?_
    refine W.aloadN 12 d_jdk_43_method_47_11 rfl rfl rfl ?_
    refine W.iloadN 13 d_jdk_43_method_47_12 rfl rfl ?_
    refine W.iloadN 14 d_jdk_43_method_47_13 rfl rfl ?_
    refine W.iloadN 15 d_jdk_43_method_47_14 rfl rfl ?_
    refine W.iadd 16 d_jdk_43_method_47_15 rfl t.toInt32 (own_ft hft) ?_
    have q1091 := (A0.keep K1084 nin0)
    refine W.callS (rest := [(.ref o1084), (.ref o1084)]) (argsL := [(.ref b), (.int f.toInt32), (.int t.toInt32)]) 19 d_jdk_43_method_47_16 rfl (fun hn => c_cor l Z a0 hw b xs f t hft htn hcap _ n0 hn hne q1091) (wd_187 hw) (wd_188 hw) (wd_189 hw) (wd_190 hw) (by decide) pd_11 rfl rfl rfl (by decide) 2 (Nat.le_of_ble_eq_true rfl) (by decide) (by decide) (by decide) ?_
    rintro v1092 h1092 ⟨d1092, rfl, sz1092, gd1092, K1092, A1092⟩
    have ne1093 : b ≠ d1092 := Nat.ne_of_lt (Nat.lt_of_lt_of_le q1091.lt sz1092)
    have ne1094 : o1084 ≠ d1092 := Nat.ne_of_lt (Nat.lt_of_lt_of_le E1084.lt sz1092)
    have sz1095 := Nat.le_trans kc1088.1 sz1092
    have hv1096 := HV.new hv1087 K1092 all0 sz1092
    have kc1097 := Keep.trans (ws := []) kc1088 K1092 all0
    show WG _ _ _ _ _ _ _ _ _ _ _ _ 2 20 19 #[.val (.ref b), .val (.int f.toInt32), .val (.int (t - f).toInt32)] [(.ref d1092), (.ref o1084), (.ref o1084)]
    refine W.iconst 20 d_jdk_43_method_47_19 rfl (0 : Int32) rfl ?_
    have q1098 := (E1084.keep K1092)
    have q1099 := (f1089.keep K1092 nin0)
    have q1100 := (f1090.keep K1092 nin0)
    refine W.callInit (rest := [(.ref o1084)]) (argsL := [(.ref d1092), (.int (0 : Int32))]) (a := o1084) 23 d_jdk_43_method_47_20 rfl (fun hn => c_ib l Z a0 hw o1084 d1092 _ n0 hn ge1084 q1098 q1099 q1100) rfl (wd_205 hw) (wd_42 hw) (wd_3 hw) (wd_43 hw) (by decide) pd_14 rfl rfl rfl (by decide) 1 (Nat.le_of_ble_eq_true rfl) (by decide) (by decide) (by decide) ?_
    rintro v1101 h1101 ⟨rfl, K1101, C1101, V1101⟩
    have hv1102 := HV.keep hv1096 K1101 (allS (List.mem_of_getElem? (i := 1) rfl) all0)
    have kc1103 := Keep.trans (ws := []) kc1097 K1101 (allS (Or.inr sz1086) all0)
    show WG _ _ _ _ _ _ _ _ _ _ _ _ 2 20 23 #[.val (.ref b), .val (.int f.toInt32), .val (.int (t - f).toInt32)] [(.ref o1084)]
    refine WG.retX (own_EL hw) hv1102 ?_
    have q1104 := (A1092.keep K1101 (ninS (Ne.symm ne1094) nin0))
    have q1105 := (q1098.keep K1101)
    exact W.areturn d_jdk_43_method_47_23 rfl rfl rfl rfl ⟨⟨_, d1092, rfl, kc1103, q1105, C1101, V1101, q1104⟩, rfl⟩ (by decide) (by decide)
  · intro hc1083
    refine W.ldcX 6 d_jdk_43_method_47_4 rfl (wd_130 hw) (own_wS hw) (own_EL hw) (List.mem_of_getElem? (i := 3) rfl) hv0 all0 [] ⟨by decide, rfl⟩ (by decide) 0 (by decide) (by decide) (by decide) (by decide) ?_
    intro h1106 la1106 lb1106 X1106 K1106 E1106 C1106 V1106 A1106 N1106
    have kc1107 := Keep.trans (ws := []) (Keep.refl _ []) K1106 all0
    have hv1106 := HV.here (Z := Z) (EL := consts_1) (h := h1106) (S := [])
    show WG _ _ _ _ _ _ _ _ _ _ _ _ 2 4 6 #[.val (.ref b), .val (.int f.toInt32), .val (.int (t - f).toInt32)] [(.ref la1106)]
    refine WG.retX (own_EL hw) hv1106 ?_
    exact W.areturn d_jdk_43_method_47_6 rfl rfl rfl rfl ⟨⟨_, lb1106, rfl, kc1107, E1106, C1106, V1106, (by rw [own_sl0 (ki_eq0 (by omega) hc1083)]; exact A1106)⟩, rfl⟩ (by decide) (by decide)
theorem c_sub (l : Launch) (Z : State) (a0 : Array Value) (hw : HwT Z a0) (s b : Addr) (r0 : RV) (kc : Int32) (hkc : ¬ kc = 0) (xs : List Int32) (f t : Nat) (hft : f ≤ t) (htn : t ≤ xs.length) (hcap : xs.length ≤ 16) (h : Heap) (n0 : Nat) (hn : n0 ≤ h.size) (FS : Sta Z h "java/lang/String" "COMPACT_STRINGS" "Z" (.int kc)) (SF : Sta Z h "jdk/internal/util/Preconditions" "SIOOBE_FORMATTER" "Ljava/util/function/BiFunction;" r0.1) (E0 : Exa Z h s "java/lang/String") (C0 : Fld Z h s "java/lang/String" "coder" "B" (.int 0)) (V0 : Fld Z h s "java/lang/String" "value" "[B" (.ref b)) (A0 : Ary Z h b .byte (iv xs)) : ConX Z consts_1 [] [] l (⟨"java/lang/String", "substring", "(II)Ljava/lang/String;"⟩ : MethodName) jdk_42_method_92_code 5 (some (.object "java/lang/String")) ({ frames := 4, cells := 3, slots := 24, locals := 128 } : Room) #[(.ref s), (.int f.toInt32), (.int t.toInt32)] h n0 (fun v h' => ∃ r b, v = some (.ref r) ∧ Keep h h' [] ∧ Exa Z h' r "java/lang/String" ∧ Fld Z h' r "java/lang/String" "coder" "B" (.int 0) ∧ Fld Z h' r "java/lang/String" "value" "[B" (.ref b) ∧ Ary Z h' b .byte (iv (sl xs f t))) := by
  refine ConX.of_W (Ls := #[.val (.ref s), .val (.int f.toInt32), .val (.int t.toInt32), .unset, .unset]) (plainFor_of_name pn_1) hn (fun m => by first | (simp [entryFrame, mkF, argsToLocals, Value.category]; done) | rfl) ?_
  have hv0 := HV.here (Z := Z) (EL := consts_1) (h := h) (S := [])
  refine W.aloadN 1 d_jdk_42_method_92_0 rfl rfl rfl ?_
  refine W.callV (rest := []) (argsL := []) (a := s) 4 d_jdk_42_method_92_1 rfl (fun hn => c_len l Z a0 hw s b kc hkc xs _ n0 hn (Sta.keep0 (Keep.refl _ []) FS) E0 C0 V0 A0) E0 (wd_104 hw) (wd_105 hw) (wd_107 hw) rfl (wd_106 hw) (wd_3 hw) (wd_108 hw) (by decide) pd_15 rfl rfl rfl (by decide) 0 (Nat.le_of_ble_eq_true rfl) (by decide) (by decide) (by decide) ?_
  rintro v1108 h1108 ⟨rfl, rfl⟩
  show WG _ _ _ _ _ _ _ _ _ _ _ _ 0 0 4 #[.val (.ref s), .val (.int f.toInt32), .val (.int t.toInt32), .unset, .unset] [(.int xs.length.toInt32)]
  refine W.istoreN 5 d_jdk_42_method_92_4 rfl #[.val (.ref s), .val (.int f.toInt32), .val (.int t.toInt32), .val (.int xs.length.toInt32), .unset] rfl ?_
  refine W.iloadN 6 d_jdk_42_method_92_5 rfl rfl ?_
  refine W.iloadN 7 d_jdk_42_method_92_6 rfl rfl ?_
  refine W.iloadN 8 d_jdk_42_method_92_7 rfl rfl ?_
  refine W.callS (rest := []) (argsL := [(.int f.toInt32), (.int t.toInt32), (.int xs.length.toInt32)]) 11 d_jdk_42_method_92_8 rfl (fun hn => c_cbe l Z a0 hw r0 f t xs.length hft htn (by omega) _ n0 hn (Sta.keep0 (Keep.refl _ []) SF)) (wd_114 hw) (wd_115 hw) (wd_3 hw) (wd_116 hw) (by decide) pd_16 rfl rfl rfl (by decide) 0 (Nat.le_of_ble_eq_true rfl) (by decide) (by decide) (by decide) ?_
  rintro v1109 h1109 ⟨rfl, rfl⟩
  show WG _ _ _ _ _ _ _ _ _ _ _ _ 0 0 11 #[.val (.ref s), .val (.int f.toInt32), .val (.int t.toInt32), .val (.int xs.length.toInt32), .unset] []
  refine W.iloadN 12 d_jdk_42_method_92_11 rfl rfl ?_
  refine W.if_ne 22 15 d_jdk_42_method_92_12 rfl rfl ?_ ?_
  · intro hc1110
    refine W.iloadN 23 d_jdk_42_method_92_22 rfl rfl ?_
    refine W.iloadN 24 d_jdk_42_method_92_23 rfl rfl ?_
    refine W.isub 25 d_jdk_42_method_92_24 rfl (t - f).toInt32 (ki_sub hft (by omega)) ?_
    refine W.istore 27 d_jdk_42_method_92_25 rfl #[.val (.ref s), .val (.int f.toInt32), .val (.int t.toInt32), .val (.int xs.length.toInt32), .val (.int (t - f).toInt32)] rfl ?_
    refine W.aloadN 28 d_jdk_42_method_92_27 rfl rfl rfl ?_
    refine W.callV (rest := []) (argsL := []) (a := s) 31 d_jdk_42_method_92_28 rfl (fun hn => c_isl l Z a0 hw s b kc hkc xs _ n0 hn (Sta.keep0 (Keep.refl _ []) FS) E0 C0 V0 A0) E0 (wd_122 hw) (wd_123 hw) (wd_125 hw) rfl (wd_124 hw) (wd_3 hw) (wd_126 hw) (by decide) pd_8 rfl rfl rfl (by decide) 0 (Nat.le_of_ble_eq_true rfl) (by decide) (by decide) (by decide) ?_
    rintro v1111 h1111 ⟨rfl, rfl⟩
    show WG _ _ _ _ _ _ _ _ _ _ _ _ 0 0 31 #[.val (.ref s), .val (.int f.toInt32), .val (.int t.toInt32), .val (.int xs.length.toInt32), .val (.int (t - f).toInt32)] [(.int (1 : Int32))]
    refine W.if_eq 47 34 d_jdk_42_method_92_31 rfl rfl (fun hc => absurd hc (by decide)) (fun _ => ?_)
    refine W.aloadN 35 d_jdk_42_method_92_34 rfl rfl rfl ?_
    refine W.getfield 38 d_jdk_42_method_92_35 rfl (host := "") (Or.inl (wd_28 hw)) Via.refl V0 ?_
    refine W.iloadN 39 d_jdk_42_method_92_38 rfl rfl ?_
    refine W.iload 41 d_jdk_42_method_92_39 rfl rfl ?_
    refine W.callSX (rest := []) (argsL := [(.ref b), (.int f.toInt32), (.int (t - f).toInt32)]) 44 d_jdk_42_method_92_41 rfl (fun hn => c_news l Z a0 hw b xs f t hft htn hcap _ n0 hn (fun q => hc1110 (by rw [q.1]; rfl)) A0) (wd_127 hw) (wd_128 hw) (wd_35 hw) (wd_129 hw) (by decide) pd_17 rfl rfl rfl (by decide) 0 (Nat.le_of_ble_eq_true rfl) (by decide) (by decide) (by decide) (own_EL hw) hv0 all0 all0 ?_
    rintro v1112 h1112 ⟨r1112, b1112, rfl, K1112, E1112, C1112, V1112, A1112⟩
    have kc1113 := Keep.trans (ws := []) (Keep.refl _ []) K1112 all0
    have hv1112 := HV.here (Z := Z) (EL := consts_1) (h := h1112) (S := [])
    show WG _ _ _ _ _ _ _ _ _ _ _ _ 3 24 44 #[.val (.ref s), .val (.int f.toInt32), .val (.int t.toInt32), .val (.int xs.length.toInt32), .val (.int (t - f).toInt32)] [(.ref r1112)]
    refine W.goto 57 d_jdk_42_method_92_44 rfl ?_
    refine WG.retX (own_EL hw) hv1112 ?_
    exact W.areturn d_jdk_42_method_92_57 rfl rfl rfl rfl ⟨⟨_, b1112, rfl, kc1113, E1112, C1112, V1112, A1112⟩, rfl⟩ (by decide) (by decide)
  · intro hc1110
    refine W.iloadN 16 d_jdk_42_method_92_15 rfl rfl ?_
    refine W.iloadN 17 d_jdk_42_method_92_16 rfl rfl ?_
    refine W.icmp_ne 22 20 d_jdk_42_method_92_17 rfl rfl ?_ ?_
    · intro hc1114
      refine W.iloadN 23 d_jdk_42_method_92_22 rfl rfl ?_
      refine W.iloadN 24 d_jdk_42_method_92_23 rfl rfl ?_
      refine W.isub 25 d_jdk_42_method_92_24 rfl (t - f).toInt32 (ki_sub hft (by omega)) ?_
      refine W.istore 27 d_jdk_42_method_92_25 rfl #[.val (.ref s), .val (.int f.toInt32), .val (.int t.toInt32), .val (.int xs.length.toInt32), .val (.int (t - f).toInt32)] rfl ?_
      refine W.aloadN 28 d_jdk_42_method_92_27 rfl rfl rfl ?_
      refine W.callV (rest := []) (argsL := []) (a := s) 31 d_jdk_42_method_92_28 rfl (fun hn => c_isl l Z a0 hw s b kc hkc xs _ n0 hn (Sta.keep0 (Keep.refl _ []) FS) E0 C0 V0 A0) E0 (wd_122 hw) (wd_123 hw) (wd_125 hw) rfl (wd_124 hw) (wd_3 hw) (wd_126 hw) (by decide) pd_8 rfl rfl rfl (by decide) 0 (Nat.le_of_ble_eq_true rfl) (by decide) (by decide) (by decide) ?_
      rintro v1115 h1115 ⟨rfl, rfl⟩
      show WG _ _ _ _ _ _ _ _ _ _ _ _ 0 0 31 #[.val (.ref s), .val (.int f.toInt32), .val (.int t.toInt32), .val (.int xs.length.toInt32), .val (.int (t - f).toInt32)] [(.int (1 : Int32))]
      refine W.if_eq 47 34 d_jdk_42_method_92_31 rfl rfl (fun hc => absurd hc (by decide)) (fun _ => ?_)
      refine W.aloadN 35 d_jdk_42_method_92_34 rfl rfl rfl ?_
      refine W.getfield 38 d_jdk_42_method_92_35 rfl (host := "") (Or.inl (wd_28 hw)) Via.refl V0 ?_
      refine W.iloadN 39 d_jdk_42_method_92_38 rfl rfl ?_
      refine W.iload 41 d_jdk_42_method_92_39 rfl rfl ?_
      refine W.callSX (rest := []) (argsL := [(.ref b), (.int f.toInt32), (.int (t - f).toInt32)]) 44 d_jdk_42_method_92_41 rfl (fun hn => c_news l Z a0 hw b xs f t hft htn hcap _ n0 hn (fun q => hc1114 (by rw [q.2])) A0) (wd_127 hw) (wd_128 hw) (wd_35 hw) (wd_129 hw) (by decide) pd_17 rfl rfl rfl (by decide) 0 (Nat.le_of_ble_eq_true rfl) (by decide) (by decide) (by decide) (own_EL hw) hv0 all0 all0 ?_
      rintro v1116 h1116 ⟨r1116, b1116, rfl, K1116, E1116, C1116, V1116, A1116⟩
      have kc1117 := Keep.trans (ws := []) (Keep.refl _ []) K1116 all0
      have hv1116 := HV.here (Z := Z) (EL := consts_1) (h := h1116) (S := [])
      show WG _ _ _ _ _ _ _ _ _ _ _ _ 3 24 44 #[.val (.ref s), .val (.int f.toInt32), .val (.int t.toInt32), .val (.int xs.length.toInt32), .val (.int (t - f).toInt32)] [(.ref r1116)]
      refine W.goto 57 d_jdk_42_method_92_44 rfl ?_
      refine WG.retX (own_EL hw) hv1116 ?_
      exact W.areturn d_jdk_42_method_92_57 rfl rfl rfl rfl ⟨⟨_, b1116, rfl, kc1117, E1116, C1116, V1116, A1116⟩, rfl⟩ (by decide) (by decide)
    · intro hc1114
      refine W.aloadN 21 d_jdk_42_method_92_20 rfl rfl rfl ?_
      refine WG.retX (own_EL hw) hv0 ?_
      exact W.areturn d_jdk_42_method_92_21 rfl rfl rfl rfl ⟨⟨_, b, rfl, (Keep.refl _ []), E0, C0, V0, (by rw [own_slA (ki_eq0 (by omega) hc1110) (ki_eq (by omega) (by omega) hc1114)]; exact A0)⟩, rfl⟩ (by decide) (by decide)
theorem ki_gt {k n : Nat} (hn : k < 2 ^ 31) (h : k.toInt32 < n.toInt32) (hn' : n < 2 ^ 31) : k < n := Classical.byContradiction fun q => ki_le (Nat.le_of_not_lt q) hn h
theorem own_neA {Z : State} {h : Heap} {a b : Addr} {C : String} {n : Nat} {ty : FieldType} {vs : List Value} {a0 : Array Value} (E : Exa Z h a C) (A : Ary Z h b ty vs) (w : (Jvm.Cond.instantiable C n).before a0 Z = true) : a ≠ b := by
  obtain ⟨ka, A'⟩ := A.arv .null
  exact Exa.neArv E A' w
theorem own_bc {c : Int32} (H : ChOk c) : c.toInt8.toInt32 &&& 255 = c := by
  apply Int32.toInt_inj.mp
  have h := c_mask c.toInt8.toInt32 255 8 (by decide) (by decide); have h2 := c_i2b c; unfold ChOk at H
  omega
theorem own_mt {cs : List Int32} {f t i : Nat} (hi : i < t - f) (ht : t ≤ cs.length) (hch : ∀ c ∈ cs, ChOk c) : ((sl (cs.map byteOf) f t).getD i 0 &&& 255) = cs.getD (f + i) 0 := by
  have h1 : f + i < cs.length := by omega
  have e : (sl (cs.map byteOf) f t).getD i 0 = byteOf (cs.getD (f + i) 0) := by
    simp [sl, List.getD_eq_getElem?_getD, List.getElem?_take, hi, List.getElem?_drop, List.getElem?_eq_getElem h1]
  rw [e]; exact own_bc (ch_at hch _)
theorem c_hli (l : Launch) (Z : State) (a0 : Array Value) (hw : HwT Z a0) (a : Addr) (h : Heap) (n0 : Nat) (hn : n0 ≤ h.size) : Con l Z (⟨"com/example/tallymark/tallymark/SnapshotJoin$HoldingLine", "<init>", "()V"⟩ : MethodName) prog_110_method_1_code 1 none ({ frames := 1, cells := 0, slots := 0, locals := 14 } : Room) #[(.ref a)] h n0 (fun v h' => v = none ∧ h' = h) := by
  refine ConG.of_W (Ls := #[.val (.ref a)]) (plainFor_of_name pn_5) hn (fun m => by first | (simp [entryFrame, mkF, argsToLocals, Value.category]; done) | rfl) ?_
  refine W.aloadN 1 d_prog_110_method_1_0 rfl rfl rfl ?_
  refine W.initObj 4 d_prog_110_method_1_1 rfl (wd_50 hw) (wd_12 hw) (wd_13 hw) rfl (by decide) 0 (Nat.le_of_ble_eq_true rfl) (by decide) ?_
  exact W.return_ d_prog_110_method_1_4 rfl ⟨rfl, rfl⟩ (by decide) (by decide)
theorem c_set (l : Launch) (Z : State) (a0 : Array Value) (hw : HwT Z a0) (a q0 q5 q6 q7 : Addr) (q1 q2 q3 q4 q9 : Int32) (q8 q10 : Int64) (w0 w1 w2 w3 w4 w5 w6 w7 w8 w9 w10 : Value) (h : Heap) (n0 : Nat) (hn : n0 ≤ h.size) (ga : n0 ≤ a) (E : Exa Z h a "com/example/tallymark/tallymark/SnapshotJoin$HoldingLine") (F0 : Fld Z h a "com/example/tallymark/tallymark/SnapshotJoin$HoldingLine" "text" "Ljava/lang/String;" w0) (F1 : Fld Z h a "com/example/tallymark/tallymark/SnapshotJoin$HoldingLine" "userFrom" "I" w1) (F2 : Fld Z h a "com/example/tallymark/tallymark/SnapshotJoin$HoldingLine" "userTo" "I" w2) (F3 : Fld Z h a "com/example/tallymark/tallymark/SnapshotJoin$HoldingLine" "hostFrom" "I" w3) (F4 : Fld Z h a "com/example/tallymark/tallymark/SnapshotJoin$HoldingLine" "hostTo" "I" w4) (F5 : Fld Z h a "com/example/tallymark/tallymark/SnapshotJoin$HoldingLine" "key" "Ljava/lang/String;" w5) (F6 : Fld Z h a "com/example/tallymark/tallymark/SnapshotJoin$HoldingLine" "feature" "Ljava/lang/String;" w6) (F7 : Fld Z h a "com/example/tallymark/tallymark/SnapshotJoin$HoldingLine" "server" "Ljava/lang/String;" w7) (F8 : Fld Z h a "com/example/tallymark/tallymark/SnapshotJoin$HoldingLine" "line" "J" w8) (F9 : Fld Z h a "com/example/tallymark/tallymark/SnapshotJoin$HoldingLine" "licences" "I" w9) (F10 : Fld Z h a "com/example/tallymark/tallymark/SnapshotJoin$HoldingLine" "start" "J" w10) : Con l Z (⟨"com/example/tallymark/tallymark/SnapshotJoin$HoldingLine", "set", "(Ljava/lang/String;IIIILjava/lang/String;Ljava/lang/String;Ljava/lang/String;JIJ)V"⟩ : MethodName) prog_110_method_2_code 14 none ({ frames := 0, cells := 0, slots := 0, locals := 0 } : Room) #[(.ref a), (.ref q0), (.int q1), (.int q2), (.int q3), (.int q4), (.ref q5), (.ref q6), (.ref q7), (.long q8), (.int q9), (.long q10)] h n0 (fun v h' => v = none ∧ Keep h h' [a] ∧ Fld Z h' a "com/example/tallymark/tallymark/SnapshotJoin$HoldingLine" "text" "Ljava/lang/String;" (.ref q0) ∧ Fld Z h' a "com/example/tallymark/tallymark/SnapshotJoin$HoldingLine" "userFrom" "I" (.int q1) ∧ Fld Z h' a "com/example/tallymark/tallymark/SnapshotJoin$HoldingLine" "userTo" "I" (.int q2) ∧ Fld Z h' a "com/example/tallymark/tallymark/SnapshotJoin$HoldingLine" "hostFrom" "I" (.int q3) ∧ Fld Z h' a "com/example/tallymark/tallymark/SnapshotJoin$HoldingLine" "hostTo" "I" (.int q4) ∧ Fld Z h' a "com/example/tallymark/tallymark/SnapshotJoin$HoldingLine" "key" "Ljava/lang/String;" (.ref q5) ∧ Fld Z h' a "com/example/tallymark/tallymark/SnapshotJoin$HoldingLine" "feature" "Ljava/lang/String;" (.ref q6) ∧ Fld Z h' a "com/example/tallymark/tallymark/SnapshotJoin$HoldingLine" "server" "Ljava/lang/String;" (.ref q7) ∧ Fld Z h' a "com/example/tallymark/tallymark/SnapshotJoin$HoldingLine" "line" "J" (.long q8) ∧ Fld Z h' a "com/example/tallymark/tallymark/SnapshotJoin$HoldingLine" "licences" "I" (.int q9) ∧ Fld Z h' a "com/example/tallymark/tallymark/SnapshotJoin$HoldingLine" "start" "J" (.long q10)) := by
  refine ConG.of_W (Ls := #[.val (.ref a), .val (.ref q0), .val (.int q1), .val (.int q2), .val (.int q3), .val (.int q4), .val (.ref q5), .val (.ref q6), .val (.ref q7), .val (.long q8), .second, .val (.int q9), .val (.long q10), .second]) (plainFor_of_name pn_5) hn (fun m => by first | (simp [entryFrame, mkF, argsToLocals, Value.category]; done) | rfl) ?_
  refine W.aloadN 1 d_prog_110_method_2_0 rfl rfl rfl ?_
  refine W.aloadN 2 d_prog_110_method_2_1 rfl rfl rfl ?_
  refine W.putfield 5 d_prog_110_method_2_2 rfl (host := "") (Or.inl (wd_61 hw)) Via.refl F0 E (Or.inl (wd_62 hw)) (wd_45 hw) (ty := (.object "java/lang/String")) (by decide) rfl rfl ga ?_
  intro h1118 W1118 F1118 E1118 K1118
  have kc1119 := Keep.trans (ws := [a]) (Keep.refl _ [a]) K1118 (allS (Or.inl (List.mem_of_getElem? (i := 0) rfl)) all0)
  refine W.aloadN 6 d_prog_110_method_2_5 rfl rfl rfl ?_
  refine W.iloadN 7 d_prog_110_method_2_6 rfl rfl ?_
  have q1120 := (F1.other W1118 (Or.inr (sne_2 hw)))
  refine W.putfield 10 d_prog_110_method_2_7 rfl (host := "") (Or.inl (wd_63 hw)) Via.refl q1120 E1118 (Or.inl (wd_64 hw)) (wd_45 hw) (ty := .int) (by decide) rfl rfl ga ?_
  intro h1121 W1121 F1121 E1121 K1121
  have kc1122 := Keep.trans (ws := [a]) kc1119 K1121 (allS (Or.inl (List.mem_of_getElem? (i := 0) rfl)) all0)
  refine W.aloadN 11 d_prog_110_method_2_10 rfl rfl rfl ?_
  refine W.iloadN 12 d_prog_110_method_2_11 rfl rfl ?_
  have q1123 := ((F2.other W1118 (Or.inr (sne_3 hw))).other W1121 (Or.inr (sne_4 hw)))
  refine W.putfield 15 d_prog_110_method_2_12 rfl (host := "") (Or.inl (wd_65 hw)) Via.refl q1123 E1121 (Or.inl (wd_66 hw)) (wd_45 hw) (ty := .int) (by decide) rfl rfl ga ?_
  intro h1124 W1124 F1124 E1124 K1124
  have kc1125 := Keep.trans (ws := [a]) kc1122 K1124 (allS (Or.inl (List.mem_of_getElem? (i := 0) rfl)) all0)
  refine W.aloadN 16 d_prog_110_method_2_15 rfl rfl rfl ?_
  refine W.iload 18 d_prog_110_method_2_16 rfl rfl ?_
  have q1126 := (((F3.other W1118 (Or.inr (sne_5 hw))).other W1121 (Or.inr (sne_6 hw))).other W1124 (Or.inr (sne_7 hw)))
  refine W.putfield 21 d_prog_110_method_2_18 rfl (host := "") (Or.inl (wd_67 hw)) Via.refl q1126 E1124 (Or.inl (wd_68 hw)) (wd_45 hw) (ty := .int) (by decide) rfl rfl ga ?_
  intro h1127 W1127 F1127 E1127 K1127
  have kc1128 := Keep.trans (ws := [a]) kc1125 K1127 (allS (Or.inl (List.mem_of_getElem? (i := 0) rfl)) all0)
  refine W.aloadN 22 d_prog_110_method_2_21 rfl rfl rfl ?_
  refine W.iload 24 d_prog_110_method_2_22 rfl rfl ?_
  have q1129 := ((((F4.other W1118 (Or.inr (sne_8 hw))).other W1121 (Or.inr (sne_9 hw))).other W1124 (Or.inr (sne_10 hw))).other W1127 (Or.inr (sne_11 hw)))
  refine W.putfield 27 d_prog_110_method_2_24 rfl (host := "") (Or.inl (wd_69 hw)) Via.refl q1129 E1127 (Or.inl (wd_70 hw)) (wd_45 hw) (ty := .int) (by decide) rfl rfl ga ?_
  intro h1130 W1130 F1130 E1130 K1130
  have kc1131 := Keep.trans (ws := [a]) kc1128 K1130 (allS (Or.inl (List.mem_of_getElem? (i := 0) rfl)) all0)
  refine W.aloadN 28 d_prog_110_method_2_27 rfl rfl rfl ?_
  refine W.aload 30 d_prog_110_method_2_28 rfl rfl rfl ?_
  have q1132 := (((((F5.other W1118 (Or.inr (sne_12 hw))).other W1121 (Or.inr (sne_13 hw))).other W1124 (Or.inr (sne_14 hw))).other W1127 (Or.inr (sne_15 hw))).other W1130 (Or.inr (sne_16 hw)))
  refine W.putfield 33 d_prog_110_method_2_30 rfl (host := "") (Or.inl (wd_71 hw)) Via.refl q1132 E1130 (Or.inl (wd_72 hw)) (wd_45 hw) (ty := (.object "java/lang/String")) (by decide) rfl rfl ga ?_
  intro h1133 W1133 F1133 E1133 K1133
  have kc1134 := Keep.trans (ws := [a]) kc1131 K1133 (allS (Or.inl (List.mem_of_getElem? (i := 0) rfl)) all0)
  refine W.aloadN 34 d_prog_110_method_2_33 rfl rfl rfl ?_
  refine W.aload 36 d_prog_110_method_2_34 rfl rfl rfl ?_
  have q1135 := ((((((F6.other W1118 (Or.inr (sne_17 hw))).other W1121 (Or.inr (sne_18 hw))).other W1124 (Or.inr (sne_19 hw))).other W1127 (Or.inr (sne_20 hw))).other W1130 (Or.inr (sne_21 hw))).other W1133 (Or.inr (sne_22 hw)))
  refine W.putfield 39 d_prog_110_method_2_36 rfl (host := "") (Or.inl (wd_73 hw)) Via.refl q1135 E1133 (Or.inl (wd_74 hw)) (wd_45 hw) (ty := (.object "java/lang/String")) (by decide) rfl rfl ga ?_
  intro h1136 W1136 F1136 E1136 K1136
  have kc1137 := Keep.trans (ws := [a]) kc1134 K1136 (allS (Or.inl (List.mem_of_getElem? (i := 0) rfl)) all0)
  refine W.aloadN 40 d_prog_110_method_2_39 rfl rfl rfl ?_
  refine W.aload 42 d_prog_110_method_2_40 rfl rfl rfl ?_
  have q1138 := (((((((F7.other W1118 (Or.inr (sne_23 hw))).other W1121 (Or.inr (sne_24 hw))).other W1124 (Or.inr (sne_25 hw))).other W1127 (Or.inr (sne_26 hw))).other W1130 (Or.inr (sne_27 hw))).other W1133 (Or.inr (sne_28 hw))).other W1136 (Or.inr (sne_29 hw)))
  refine W.putfield 45 d_prog_110_method_2_42 rfl (host := "") (Or.inl (wd_75 hw)) Via.refl q1138 E1136 (Or.inl (wd_76 hw)) (wd_45 hw) (ty := (.object "java/lang/String")) (by decide) rfl rfl ga ?_
  intro h1139 W1139 F1139 E1139 K1139
  have kc1140 := Keep.trans (ws := [a]) kc1137 K1139 (allS (Or.inl (List.mem_of_getElem? (i := 0) rfl)) all0)
  refine W.aloadN 46 d_prog_110_method_2_45 rfl rfl rfl ?_
  refine W.lload 48 d_prog_110_method_2_46 rfl rfl ?_
  have q1141 := ((((((((F8.other W1118 (Or.inr (sne_30 hw))).other W1121 (Or.inr (sne_31 hw))).other W1124 (Or.inr (sne_32 hw))).other W1127 (Or.inr (sne_33 hw))).other W1130 (Or.inr (sne_34 hw))).other W1133 (Or.inr (sne_35 hw))).other W1136 (Or.inr (sne_36 hw))).other W1139 (Or.inr (sne_37 hw)))
  refine W.putfield 51 d_prog_110_method_2_48 rfl (host := "") (Or.inl (wd_77 hw)) Via.refl q1141 E1139 (Or.inl (wd_78 hw)) (wd_45 hw) (ty := .long) (by decide) rfl rfl ga ?_
  intro h1142 W1142 F1142 E1142 K1142
  have kc1143 := Keep.trans (ws := [a]) kc1140 K1142 (allS (Or.inl (List.mem_of_getElem? (i := 0) rfl)) all0)
  refine W.aloadN 52 d_prog_110_method_2_51 rfl rfl rfl ?_
  refine W.iload 54 d_prog_110_method_2_52 rfl rfl ?_
  have q1144 := (((((((((F9.other W1118 (Or.inr (sne_38 hw))).other W1121 (Or.inr (sne_39 hw))).other W1124 (Or.inr (sne_40 hw))).other W1127 (Or.inr (sne_41 hw))).other W1130 (Or.inr (sne_42 hw))).other W1133 (Or.inr (sne_43 hw))).other W1136 (Or.inr (sne_44 hw))).other W1139 (Or.inr (sne_45 hw))).other W1142 (Or.inr (sne_46 hw)))
  refine W.putfield 57 d_prog_110_method_2_54 rfl (host := "") (Or.inl (wd_79 hw)) Via.refl q1144 E1142 (Or.inl (wd_80 hw)) (wd_45 hw) (ty := .int) (by decide) rfl rfl ga ?_
  intro h1145 W1145 F1145 E1145 K1145
  have kc1146 := Keep.trans (ws := [a]) kc1143 K1145 (allS (Or.inl (List.mem_of_getElem? (i := 0) rfl)) all0)
  refine W.aloadN 58 d_prog_110_method_2_57 rfl rfl rfl ?_
  refine W.lload 60 d_prog_110_method_2_58 rfl rfl ?_
  have q1147 := ((((((((((F10.other W1118 (Or.inr (sne_47 hw))).other W1121 (Or.inr (sne_48 hw))).other W1124 (Or.inr (sne_49 hw))).other W1127 (Or.inr (sne_50 hw))).other W1130 (Or.inr (sne_51 hw))).other W1133 (Or.inr (sne_52 hw))).other W1136 (Or.inr (sne_53 hw))).other W1139 (Or.inr (sne_54 hw))).other W1142 (Or.inr (sne_55 hw))).other W1145 (Or.inr (sne_56 hw)))
  refine W.putfield 63 d_prog_110_method_2_60 rfl (host := "") (Or.inl (wd_81 hw)) Via.refl q1147 E1145 (Or.inl (wd_82 hw)) (wd_45 hw) (ty := .long) (by decide) rfl rfl ga ?_
  intro h1148 W1148 F1148 E1148 K1148
  have kc1149 := Keep.trans (ws := [a]) kc1146 K1148 (allS (Or.inl (List.mem_of_getElem? (i := 0) rfl)) all0)
  have q1150 := ((((((((((F1118.other W1121 (Or.inr (sne_57 hw))).other W1124 (Or.inr (sne_58 hw))).other W1127 (Or.inr (sne_59 hw))).other W1130 (Or.inr (sne_60 hw))).other W1133 (Or.inr (sne_61 hw))).other W1136 (Or.inr (sne_62 hw))).other W1139 (Or.inr (sne_63 hw))).other W1142 (Or.inr (sne_64 hw))).other W1145 (Or.inr (sne_65 hw))).other W1148 (Or.inr (sne_66 hw)))
  have q1151 := (((((((((F1121.other W1124 (Or.inr (sne_67 hw))).other W1127 (Or.inr (sne_68 hw))).other W1130 (Or.inr (sne_69 hw))).other W1133 (Or.inr (sne_70 hw))).other W1136 (Or.inr (sne_71 hw))).other W1139 (Or.inr (sne_72 hw))).other W1142 (Or.inr (sne_73 hw))).other W1145 (Or.inr (sne_74 hw))).other W1148 (Or.inr (sne_75 hw)))
  have q1152 := ((((((((F1124.other W1127 (Or.inr (sne_76 hw))).other W1130 (Or.inr (sne_77 hw))).other W1133 (Or.inr (sne_78 hw))).other W1136 (Or.inr (sne_79 hw))).other W1139 (Or.inr (sne_80 hw))).other W1142 (Or.inr (sne_81 hw))).other W1145 (Or.inr (sne_82 hw))).other W1148 (Or.inr (sne_83 hw)))
  have q1153 := (((((((F1127.other W1130 (Or.inr (sne_84 hw))).other W1133 (Or.inr (sne_85 hw))).other W1136 (Or.inr (sne_86 hw))).other W1139 (Or.inr (sne_87 hw))).other W1142 (Or.inr (sne_88 hw))).other W1145 (Or.inr (sne_89 hw))).other W1148 (Or.inr (sne_90 hw)))
  have q1154 := ((((((F1130.other W1133 (Or.inr (sne_91 hw))).other W1136 (Or.inr (sne_92 hw))).other W1139 (Or.inr (sne_93 hw))).other W1142 (Or.inr (sne_94 hw))).other W1145 (Or.inr (sne_95 hw))).other W1148 (Or.inr (sne_96 hw)))
  have q1155 := (((((F1133.other W1136 (Or.inr (sne_97 hw))).other W1139 (Or.inr (sne_98 hw))).other W1142 (Or.inr (sne_99 hw))).other W1145 (Or.inr (sne_100 hw))).other W1148 (Or.inr (sne_101 hw)))
  have q1156 := ((((F1136.other W1139 (Or.inr (sne_102 hw))).other W1142 (Or.inr (sne_103 hw))).other W1145 (Or.inr (sne_104 hw))).other W1148 (Or.inr (sne_105 hw)))
  have q1157 := (((F1139.other W1142 (Or.inr (sne_106 hw))).other W1145 (Or.inr (sne_107 hw))).other W1148 (Or.inr (sne_108 hw)))
  have q1158 := ((F1142.other W1145 (Or.inr (sne_109 hw))).other W1148 (Or.inr (sne_110 hw)))
  have q1159 := (F1145.other W1148 (Or.inr (sne_111 hw)))
  exact W.return_ d_prog_110_method_2_63 rfl ⟨rfl, kc1149, q1150, q1151, q1152, q1153, q1154, q1155, q1156, q1157, q1158, q1159, F1148⟩ (by decide) (by decide)
theorem c_user (l : Launch) (Z : State) (a0 : Array Value) (hw : HwT Z a0) (a s b : Addr) (r0 : RV) (kc : Int32) (hkc : ¬ kc = 0) (xs : List Int32) (f t : Nat) (hft : f ≤ t) (htn : t ≤ xs.length) (hcap : xs.length ≤ 16) (h : Heap) (n0 : Nat) (hn : n0 ≤ h.size) (FS : Sta Z h "java/lang/String" "COMPACT_STRINGS" "Z" (.int kc)) (SF : Sta Z h "jdk/internal/util/Preconditions" "SIOOBE_FORMATTER" "Ljava/util/function/BiFunction;" r0.1) (G0 : Fld Z h a "com/example/tallymark/tallymark/SnapshotJoin$HoldingLine" "text" "Ljava/lang/String;" (.ref s)) (G1 : Fld Z h a "com/example/tallymark/tallymark/SnapshotJoin$HoldingLine" "userFrom" "I" (.int f.toInt32)) (G2 : Fld Z h a "com/example/tallymark/tallymark/SnapshotJoin$HoldingLine" "userTo" "I" (.int t.toInt32)) (E0 : Exa Z h s "java/lang/String") (C0 : Fld Z h s "java/lang/String" "coder" "B" (.int 0)) (V0 : Fld Z h s "java/lang/String" "value" "[B" (.ref b)) (A0 : Ary Z h b .byte (iv xs)) : ConX Z consts_1 [] [] l (⟨"com/example/tallymark/tallymark/SnapshotJoin$HoldingLine", "user", "()Ljava/lang/String;"⟩ : MethodName) prog_110_method_3_code 1 (some (.object "java/lang/String")) ({ frames := 5, cells := 3, slots := 24, locals := 160 } : Room) #[(.ref a)] h n0 (fun v h' => ∃ r b, v = some (.ref r) ∧ Keep h h' [] ∧ Exa Z h' r "java/lang/String" ∧ Fld Z h' r "java/lang/String" "coder" "B" (.int 0) ∧ Fld Z h' r "java/lang/String" "value" "[B" (.ref b) ∧ Ary Z h' b .byte (iv (sl xs f t))) := by
  refine ConX.of_W (Ls := #[.val (.ref a)]) (plainFor_of_name pn_5) hn (fun m => by first | (simp [entryFrame, mkF, argsToLocals, Value.category]; done) | rfl) ?_
  have hv0 := HV.here (Z := Z) (EL := consts_1) (h := h) (S := [])
  refine W.aloadN 1 d_prog_110_method_3_0 rfl rfl rfl ?_
  refine W.getfield 4 d_prog_110_method_3_1 rfl (host := "") (Or.inl (wd_61 hw)) Via.refl G0 ?_
  refine W.aloadN 5 d_prog_110_method_3_4 rfl rfl rfl ?_
  refine W.getfield 8 d_prog_110_method_3_5 rfl (host := "") (Or.inl (wd_63 hw)) Via.refl G1 ?_
  refine W.aloadN 9 d_prog_110_method_3_8 rfl rfl rfl ?_
  refine W.getfield 12 d_prog_110_method_3_9 rfl (host := "") (Or.inl (wd_65 hw)) Via.refl G2 ?_
  refine W.callVX (rest := []) (argsL := [(.int f.toInt32), (.int t.toInt32)]) (a := s) 15 d_prog_110_method_3_12 rfl (fun hn => c_sub l Z a0 hw s b r0 kc hkc xs f t hft htn hcap _ n0 hn (Sta.keep0 (Keep.refl _ []) FS) (Sta.keep0 (Keep.refl _ []) SF) E0 C0 V0 A0) E0 (wd_99 hw) (wd_100 hw) (wd_102 hw) rfl (wd_101 hw) (wd_3 hw) (wd_103 hw) (by decide) pd_18 rfl rfl rfl (by decide) 0 (Nat.le_of_ble_eq_true rfl) (by decide) (by decide) (by decide) (own_EL hw) hv0 all0 all0 ?_
  rintro v1160 h1160 ⟨r1160, b1160, rfl, K1160, E1160, C1160, V1160, A1160⟩
  have kc1161 := Keep.trans (ws := []) (Keep.refl _ []) K1160 all0
  have hv1160 := HV.here (Z := Z) (EL := consts_1) (h := h1160) (S := [])
  show WG _ _ _ _ _ _ _ _ _ _ _ _ 3 24 15 #[.val (.ref a)] [(.ref r1160)]
  refine WG.retX (own_EL hw) hv1160 ?_
  exact W.areturn d_prog_110_method_3_15 rfl rfl rfl rfl ⟨⟨_, b1160, rfl, kc1161, E1160, C1160, V1160, A1160⟩, rfl⟩ (by decide) (by decide)
theorem c_host (l : Launch) (Z : State) (a0 : Array Value) (hw : HwT Z a0) (a s b : Addr) (r0 : RV) (kc : Int32) (hkc : ¬ kc = 0) (xs : List Int32) (f t : Nat) (hft : f ≤ t) (htn : t ≤ xs.length) (hcap : xs.length ≤ 16) (h : Heap) (n0 : Nat) (hn : n0 ≤ h.size) (FS : Sta Z h "java/lang/String" "COMPACT_STRINGS" "Z" (.int kc)) (SF : Sta Z h "jdk/internal/util/Preconditions" "SIOOBE_FORMATTER" "Ljava/util/function/BiFunction;" r0.1) (G0 : Fld Z h a "com/example/tallymark/tallymark/SnapshotJoin$HoldingLine" "text" "Ljava/lang/String;" (.ref s)) (G1 : Fld Z h a "com/example/tallymark/tallymark/SnapshotJoin$HoldingLine" "hostFrom" "I" (.int f.toInt32)) (G2 : Fld Z h a "com/example/tallymark/tallymark/SnapshotJoin$HoldingLine" "hostTo" "I" (.int t.toInt32)) (E0 : Exa Z h s "java/lang/String") (C0 : Fld Z h s "java/lang/String" "coder" "B" (.int 0)) (V0 : Fld Z h s "java/lang/String" "value" "[B" (.ref b)) (A0 : Ary Z h b .byte (iv xs)) : ConX Z consts_1 [] [] l (⟨"com/example/tallymark/tallymark/SnapshotJoin$HoldingLine", "host", "()Ljava/lang/String;"⟩ : MethodName) prog_110_method_4_code 1 (some (.object "java/lang/String")) ({ frames := 5, cells := 3, slots := 24, locals := 160 } : Room) #[(.ref a)] h n0 (fun v h' => ∃ r b, v = some (.ref r) ∧ Keep h h' [] ∧ Exa Z h' r "java/lang/String" ∧ Fld Z h' r "java/lang/String" "coder" "B" (.int 0) ∧ Fld Z h' r "java/lang/String" "value" "[B" (.ref b) ∧ Ary Z h' b .byte (iv (sl xs f t))) := by
  refine ConX.of_W (Ls := #[.val (.ref a)]) (plainFor_of_name pn_5) hn (fun m => by first | (simp [entryFrame, mkF, argsToLocals, Value.category]; done) | rfl) ?_
  have hv0 := HV.here (Z := Z) (EL := consts_1) (h := h) (S := [])
  refine W.aloadN 1 d_prog_110_method_4_0 rfl rfl rfl ?_
  refine W.getfield 4 d_prog_110_method_4_1 rfl (host := "") (Or.inl (wd_61 hw)) Via.refl G0 ?_
  refine W.aloadN 5 d_prog_110_method_4_4 rfl rfl rfl ?_
  refine W.getfield 8 d_prog_110_method_4_5 rfl (host := "") (Or.inl (wd_67 hw)) Via.refl G1 ?_
  refine W.aloadN 9 d_prog_110_method_4_8 rfl rfl rfl ?_
  refine W.getfield 12 d_prog_110_method_4_9 rfl (host := "") (Or.inl (wd_69 hw)) Via.refl G2 ?_
  refine W.callVX (rest := []) (argsL := [(.int f.toInt32), (.int t.toInt32)]) (a := s) 15 d_prog_110_method_4_12 rfl (fun hn => c_sub l Z a0 hw s b r0 kc hkc xs f t hft htn hcap _ n0 hn (Sta.keep0 (Keep.refl _ []) FS) (Sta.keep0 (Keep.refl _ []) SF) E0 C0 V0 A0) E0 (wd_99 hw) (wd_100 hw) (wd_102 hw) rfl (wd_101 hw) (wd_3 hw) (wd_103 hw) (by decide) pd_18 rfl rfl rfl (by decide) 0 (Nat.le_of_ble_eq_true rfl) (by decide) (by decide) (by decide) (own_EL hw) hv0 all0 all0 ?_
  rintro v1162 h1162 ⟨r1162, b1162, rfl, K1162, E1162, C1162, V1162, A1162⟩
  have kc1163 := Keep.trans (ws := []) (Keep.refl _ []) K1162 all0
  have hv1162 := HV.here (Z := Z) (EL := consts_1) (h := h1162) (S := [])
  show WG _ _ _ _ _ _ _ _ _ _ _ _ 3 24 15 #[.val (.ref a)] [(.ref r1162)]
  refine WG.retX (own_EL hw) hv1162 ?_
  exact W.areturn d_prog_110_method_4_15 rfl rfl rfl rfl ⟨⟨_, b1162, rfl, kc1163, E1162, C1162, V1162, A1162⟩, rfl⟩ (by decide) (by decide)
theorem c_mt (l : Launch) (Z : State) (a0 : Array Value) (hw : HwT Z a0) (s b c : Addr) (r0 : RV) (kc : Int32) (hkc : ¬ kc = 0) (cs : List Int32) (f t : Nat) (hft : f ≤ t) (htn : t ≤ cs.length) (hcap : cs.length ≤ 16) (hch : ∀ c ∈ cs, ChOk c) (h : Heap) (n0 : Nat) (hn : n0 ≤ h.size) (FS : Sta Z h "java/lang/String" "COMPACT_STRINGS" "Z" (.int kc)) (SF : Sta Z h "jdk/internal/util/Preconditions" "SIOOBE_FORMATTER" "Ljava/util/function/BiFunction;" r0.1) (E0 : Exa Z h s "java/lang/String") (C0 : Fld Z h s "java/lang/String" "coder" "B" (.int 0)) (V0 : Fld Z h s "java/lang/String" "value" "[B" (.ref b)) (A0 : Ary Z h b .byte (iv (sl (cs.map byteOf) f t))) (Ac : Ary Z h c .char (iv cs)) : Con l Z (⟨"com/example/tallymark/tallymark/HoldingLineSetPinLaw", "matches", "(Ljava/lang/String;[CII)Z"⟩ : MethodName) method_3_code 5 (some .boolean) ({ frames := 4, cells := 0, slots := 0, locals := 90 } : Room) #[(.ref s), (.ref c), (.int f.toInt32), (.int t.toInt32)] h n0 (fun v h' => v = some (.int 1) ∧ h' = h) := by
  refine ConG.of_W (Ls := #[.val (.ref s), .val (.ref c), .val (.int f.toInt32), .val (.int t.toInt32), .unset]) (plainFor_of_name pn_6) hn (fun m => by first | (simp [entryFrame, mkF, argsToLocals, Value.category]; done) | rfl) ?_
  refine W.iloadN 1 d_method_3_0 rfl rfl ?_
  refine W.iloadN 2 d_method_3_1 rfl rfl ?_
  refine W.isub 3 d_method_3_2 rfl (t - f).toInt32 (ki_sub hft (by omega)) ?_
  refine W.istore 5 d_method_3_3 rfl #[.val (.ref s), .val (.ref c), .val (.int f.toInt32), .val (.int t.toInt32), .val (.int (t - f).toInt32)] rfl ?_
  refine W.aloadN 6 d_method_3_5 rfl rfl rfl ?_
  refine W.ifnull_ref 9 d_method_3_6 rfl ?_
  refine W.aloadN 10 d_method_3_9 rfl rfl rfl ?_
  refine W.callV (rest := []) (argsL := []) (a := s) 13 d_method_3_10 rfl (fun hn => c_len l Z a0 hw s b kc hkc (sl (cs.map byteOf) f t) _ n0 hn FS E0 C0 V0 A0) E0 (wd_166 hw) (wd_105 hw) (wd_107 hw) rfl (wd_106 hw) (wd_3 hw) (wd_108 hw) (by decide) pd_15 rfl rfl rfl (by decide) 0 (Nat.le_of_ble_eq_true rfl) (by decide) (by decide) (by decide) ?_
  rintro v1164 h1164 ⟨rfl, rfl⟩
  show WG _ _ _ _ _ _ _ _ _ _ _ _ 0 0 13 #[.val (.ref s), .val (.ref c), .val (.int f.toInt32), .val (.int t.toInt32), .val (.int (t - f).toInt32)] [(.int (sl (cs.map byteOf) f t).length.toInt32)]
  refine W.iload 15 d_method_3_13 rfl rfl ?_
  refine W.icmp_eq 20 18 d_method_3_15 rfl rfl (fun _ => ?_) (fun hc => absurd (by rw [sl_len (by rw [List.length_map]; exact htn)]) hc)
  refine W.iload 22 d_method_3_20 rfl rfl ?_
  refine W.if_le 38 25 d_method_3_22 rfl rfl ?_ ?_
  · intro hc1165
    refine W.iload 40 d_method_3_38 rfl rfl ?_
    refine W.iconst 41 d_method_3_40 rfl (1 : Int32) rfl ?_
    refine W.icmp_le 59 44 d_method_3_41 rfl rfl ?_ ?_
    · intro hc1166
      refine W.iload 61 d_method_3_59 rfl rfl ?_
      refine W.iconst 62 d_method_3_61 rfl (2 : Int32) rfl ?_
      refine W.icmp_le 80 65 d_method_3_62 rfl rfl ?_ ?_
      · intro hc1167
        refine W.iload 82 d_method_3_80 rfl rfl ?_
        refine W.iconst 83 d_method_3_82 rfl (3 : Int32) rfl ?_
        refine W.icmp_le 101 86 d_method_3_83 rfl rfl ?_ ?_
        · intro hc1168
          refine W.iconst 102 d_method_3_101 rfl (1 : Int32) rfl ?_
          exact W.ireturnN (t := .boolean) d_method_3_102 rfl (by simp) (1 : Int32) rfl ⟨rfl, rfl⟩ (by decide) (by decide)
        · intro hc1168
          have hN3 : 3 < t - f := ki_gt (k := 3) (by decide) hc1168 (by omega)
          refine W.aloadN 87 d_method_3_86 rfl rfl rfl ?_
          refine W.iconst 88 d_method_3_87 rfl (3 : Int32) rfl ?_
          refine W.callV (rest := []) (argsL := [(.int (3 : Int32))]) (a := s) 91 d_method_3_88 rfl (fun hn => c_cat l Z a0 hw s b r0 kc hkc (sl (cs.map byteOf) f t) 3 (by rw [sl_len (by rw [List.length_map]; exact htn)]; exact hN3) _ n0 hn FS SF E0 C0 V0 A0) E0 (wd_172 hw) (wd_173 hw) (wd_175 hw) rfl (wd_174 hw) (wd_3 hw) (wd_176 hw) (by decide) pd_19 rfl rfl rfl (by decide) 0 (Nat.le_of_ble_eq_true rfl) (by decide) (by decide) (by decide) ?_
          rintro v1169 h1169 ⟨rfl, rfl⟩
          show WG _ _ _ _ _ _ _ _ _ _ _ _ 0 0 91 #[.val (.ref s), .val (.ref c), .val (.int f.toInt32), .val (.int t.toInt32), .val (.int (t - f).toInt32)] [(.int ((sl (cs.map byteOf) f t).getD 3 0 &&& (255 : Int32)))]
          refine W.aloadN 92 d_method_3_91 rfl rfl rfl ?_
          refine W.iloadN 93 d_method_3_92 rfl rfl ?_
          refine W.iconst 94 d_method_3_93 rfl (3 : Int32) rfl ?_
          refine W.iadd 95 d_method_3_94 rfl (f + 3).toInt32 (ki_add (t := 3)) ?_
          refine W.caload 96 d_method_3_95 rfl Ac (f + 3) (ki_idx (by omega)) (ki_nn (by omega)) (.int (cs.getD (f + 3) 0)) (iv_at (by omega)) ?_
          refine W.icmp_eq 101 99 d_method_3_96 rfl rfl (fun _ => ?_) (fun hc => absurd (own_mt hN3 htn hch) hc)
          refine W.iconst 102 d_method_3_101 rfl (1 : Int32) rfl ?_
          exact W.ireturnN (t := .boolean) d_method_3_102 rfl (by simp) (1 : Int32) rfl ⟨rfl, rfl⟩ (by decide) (by decide)
      · intro hc1167
        have hN2 : 2 < t - f := ki_gt (k := 2) (by decide) hc1167 (by omega)
        refine W.aloadN 66 d_method_3_65 rfl rfl rfl ?_
        refine W.iconst 67 d_method_3_66 rfl (2 : Int32) rfl ?_
        refine W.callV (rest := []) (argsL := [(.int (2 : Int32))]) (a := s) 70 d_method_3_67 rfl (fun hn => c_cat l Z a0 hw s b r0 kc hkc (sl (cs.map byteOf) f t) 2 (by rw [sl_len (by rw [List.length_map]; exact htn)]; exact hN2) _ n0 hn FS SF E0 C0 V0 A0) E0 (wd_172 hw) (wd_173 hw) (wd_175 hw) rfl (wd_174 hw) (wd_3 hw) (wd_176 hw) (by decide) pd_19 rfl rfl rfl (by decide) 0 (Nat.le_of_ble_eq_true rfl) (by decide) (by decide) (by decide) ?_
        rintro v1170 h1170 ⟨rfl, rfl⟩
        show WG _ _ _ _ _ _ _ _ _ _ _ _ 0 0 70 #[.val (.ref s), .val (.ref c), .val (.int f.toInt32), .val (.int t.toInt32), .val (.int (t - f).toInt32)] [(.int ((sl (cs.map byteOf) f t).getD 2 0 &&& (255 : Int32)))]
        refine W.aloadN 71 d_method_3_70 rfl rfl rfl ?_
        refine W.iloadN 72 d_method_3_71 rfl rfl ?_
        refine W.iconst 73 d_method_3_72 rfl (2 : Int32) rfl ?_
        refine W.iadd 74 d_method_3_73 rfl (f + 2).toInt32 (ki_add (t := 2)) ?_
        refine W.caload 75 d_method_3_74 rfl Ac (f + 2) (ki_idx (by omega)) (ki_nn (by omega)) (.int (cs.getD (f + 2) 0)) (iv_at (by omega)) ?_
        refine W.icmp_eq 80 78 d_method_3_75 rfl rfl (fun _ => ?_) (fun hc => absurd (own_mt hN2 htn hch) hc)
        refine W.iload 82 d_method_3_80 rfl rfl ?_
        refine W.iconst 83 d_method_3_82 rfl (3 : Int32) rfl ?_
        refine W.icmp_le 101 86 d_method_3_83 rfl rfl ?_ ?_
        · intro hc1171
          refine W.iconst 102 d_method_3_101 rfl (1 : Int32) rfl ?_
          exact W.ireturnN (t := .boolean) d_method_3_102 rfl (by simp) (1 : Int32) rfl ⟨rfl, rfl⟩ (by decide) (by decide)
        · intro hc1171
          have hN3 : 3 < t - f := ki_gt (k := 3) (by decide) hc1171 (by omega)
          refine W.aloadN 87 d_method_3_86 rfl rfl rfl ?_
          refine W.iconst 88 d_method_3_87 rfl (3 : Int32) rfl ?_
          refine W.callV (rest := []) (argsL := [(.int (3 : Int32))]) (a := s) 91 d_method_3_88 rfl (fun hn => c_cat l Z a0 hw s b r0 kc hkc (sl (cs.map byteOf) f t) 3 (by rw [sl_len (by rw [List.length_map]; exact htn)]; exact hN3) _ n0 hn FS SF E0 C0 V0 A0) E0 (wd_172 hw) (wd_173 hw) (wd_175 hw) rfl (wd_174 hw) (wd_3 hw) (wd_176 hw) (by decide) pd_19 rfl rfl rfl (by decide) 0 (Nat.le_of_ble_eq_true rfl) (by decide) (by decide) (by decide) ?_
          rintro v1172 h1172 ⟨rfl, rfl⟩
          show WG _ _ _ _ _ _ _ _ _ _ _ _ 0 0 91 #[.val (.ref s), .val (.ref c), .val (.int f.toInt32), .val (.int t.toInt32), .val (.int (t - f).toInt32)] [(.int ((sl (cs.map byteOf) f t).getD 3 0 &&& (255 : Int32)))]
          refine W.aloadN 92 d_method_3_91 rfl rfl rfl ?_
          refine W.iloadN 93 d_method_3_92 rfl rfl ?_
          refine W.iconst 94 d_method_3_93 rfl (3 : Int32) rfl ?_
          refine W.iadd 95 d_method_3_94 rfl (f + 3).toInt32 (ki_add (t := 3)) ?_
          refine W.caload 96 d_method_3_95 rfl Ac (f + 3) (ki_idx (by omega)) (ki_nn (by omega)) (.int (cs.getD (f + 3) 0)) (iv_at (by omega)) ?_
          refine W.icmp_eq 101 99 d_method_3_96 rfl rfl (fun _ => ?_) (fun hc => absurd (own_mt hN3 htn hch) hc)
          refine W.iconst 102 d_method_3_101 rfl (1 : Int32) rfl ?_
          exact W.ireturnN (t := .boolean) d_method_3_102 rfl (by simp) (1 : Int32) rfl ⟨rfl, rfl⟩ (by decide) (by decide)
    · intro hc1166
      have hN1 : 1 < t - f := ki_gt (k := 1) (by decide) hc1166 (by omega)
      refine W.aloadN 45 d_method_3_44 rfl rfl rfl ?_
      refine W.iconst 46 d_method_3_45 rfl (1 : Int32) rfl ?_
      refine W.callV (rest := []) (argsL := [(.int (1 : Int32))]) (a := s) 49 d_method_3_46 rfl (fun hn => c_cat l Z a0 hw s b r0 kc hkc (sl (cs.map byteOf) f t) 1 (by rw [sl_len (by rw [List.length_map]; exact htn)]; exact hN1) _ n0 hn FS SF E0 C0 V0 A0) E0 (wd_172 hw) (wd_173 hw) (wd_175 hw) rfl (wd_174 hw) (wd_3 hw) (wd_176 hw) (by decide) pd_19 rfl rfl rfl (by decide) 0 (Nat.le_of_ble_eq_true rfl) (by decide) (by decide) (by decide) ?_
      rintro v1173 h1173 ⟨rfl, rfl⟩
      show WG _ _ _ _ _ _ _ _ _ _ _ _ 0 0 49 #[.val (.ref s), .val (.ref c), .val (.int f.toInt32), .val (.int t.toInt32), .val (.int (t - f).toInt32)] [(.int ((sl (cs.map byteOf) f t).getD 1 0 &&& (255 : Int32)))]
      refine W.aloadN 50 d_method_3_49 rfl rfl rfl ?_
      refine W.iloadN 51 d_method_3_50 rfl rfl ?_
      refine W.iconst 52 d_method_3_51 rfl (1 : Int32) rfl ?_
      refine W.iadd 53 d_method_3_52 rfl (f + 1).toInt32 (ki_succ f) ?_
      refine W.caload 54 d_method_3_53 rfl Ac (f + 1) (ki_idx (by omega)) (ki_nn (by omega)) (.int (cs.getD (f + 1) 0)) (iv_at (by omega)) ?_
      refine W.icmp_eq 59 57 d_method_3_54 rfl rfl (fun _ => ?_) (fun hc => absurd (own_mt hN1 htn hch) hc)
      refine W.iload 61 d_method_3_59 rfl rfl ?_
      refine W.iconst 62 d_method_3_61 rfl (2 : Int32) rfl ?_
      refine W.icmp_le 80 65 d_method_3_62 rfl rfl ?_ ?_
      · intro hc1174
        refine W.iload 82 d_method_3_80 rfl rfl ?_
        refine W.iconst 83 d_method_3_82 rfl (3 : Int32) rfl ?_
        refine W.icmp_le 101 86 d_method_3_83 rfl rfl ?_ ?_
        · intro hc1175
          refine W.iconst 102 d_method_3_101 rfl (1 : Int32) rfl ?_
          exact W.ireturnN (t := .boolean) d_method_3_102 rfl (by simp) (1 : Int32) rfl ⟨rfl, rfl⟩ (by decide) (by decide)
        · intro hc1175
          have hN3 : 3 < t - f := ki_gt (k := 3) (by decide) hc1175 (by omega)
          refine W.aloadN 87 d_method_3_86 rfl rfl rfl ?_
          refine W.iconst 88 d_method_3_87 rfl (3 : Int32) rfl ?_
          refine W.callV (rest := []) (argsL := [(.int (3 : Int32))]) (a := s) 91 d_method_3_88 rfl (fun hn => c_cat l Z a0 hw s b r0 kc hkc (sl (cs.map byteOf) f t) 3 (by rw [sl_len (by rw [List.length_map]; exact htn)]; exact hN3) _ n0 hn FS SF E0 C0 V0 A0) E0 (wd_172 hw) (wd_173 hw) (wd_175 hw) rfl (wd_174 hw) (wd_3 hw) (wd_176 hw) (by decide) pd_19 rfl rfl rfl (by decide) 0 (Nat.le_of_ble_eq_true rfl) (by decide) (by decide) (by decide) ?_
          rintro v1176 h1176 ⟨rfl, rfl⟩
          show WG _ _ _ _ _ _ _ _ _ _ _ _ 0 0 91 #[.val (.ref s), .val (.ref c), .val (.int f.toInt32), .val (.int t.toInt32), .val (.int (t - f).toInt32)] [(.int ((sl (cs.map byteOf) f t).getD 3 0 &&& (255 : Int32)))]
          refine W.aloadN 92 d_method_3_91 rfl rfl rfl ?_
          refine W.iloadN 93 d_method_3_92 rfl rfl ?_
          refine W.iconst 94 d_method_3_93 rfl (3 : Int32) rfl ?_
          refine W.iadd 95 d_method_3_94 rfl (f + 3).toInt32 (ki_add (t := 3)) ?_
          refine W.caload 96 d_method_3_95 rfl Ac (f + 3) (ki_idx (by omega)) (ki_nn (by omega)) (.int (cs.getD (f + 3) 0)) (iv_at (by omega)) ?_
          refine W.icmp_eq 101 99 d_method_3_96 rfl rfl (fun _ => ?_) (fun hc => absurd (own_mt hN3 htn hch) hc)
          refine W.iconst 102 d_method_3_101 rfl (1 : Int32) rfl ?_
          exact W.ireturnN (t := .boolean) d_method_3_102 rfl (by simp) (1 : Int32) rfl ⟨rfl, rfl⟩ (by decide) (by decide)
      · intro hc1174
        have hN2 : 2 < t - f := ki_gt (k := 2) (by decide) hc1174 (by omega)
        refine W.aloadN 66 d_method_3_65 rfl rfl rfl ?_
        refine W.iconst 67 d_method_3_66 rfl (2 : Int32) rfl ?_
        refine W.callV (rest := []) (argsL := [(.int (2 : Int32))]) (a := s) 70 d_method_3_67 rfl (fun hn => c_cat l Z a0 hw s b r0 kc hkc (sl (cs.map byteOf) f t) 2 (by rw [sl_len (by rw [List.length_map]; exact htn)]; exact hN2) _ n0 hn FS SF E0 C0 V0 A0) E0 (wd_172 hw) (wd_173 hw) (wd_175 hw) rfl (wd_174 hw) (wd_3 hw) (wd_176 hw) (by decide) pd_19 rfl rfl rfl (by decide) 0 (Nat.le_of_ble_eq_true rfl) (by decide) (by decide) (by decide) ?_
        rintro v1177 h1177 ⟨rfl, rfl⟩
        show WG _ _ _ _ _ _ _ _ _ _ _ _ 0 0 70 #[.val (.ref s), .val (.ref c), .val (.int f.toInt32), .val (.int t.toInt32), .val (.int (t - f).toInt32)] [(.int ((sl (cs.map byteOf) f t).getD 2 0 &&& (255 : Int32)))]
        refine W.aloadN 71 d_method_3_70 rfl rfl rfl ?_
        refine W.iloadN 72 d_method_3_71 rfl rfl ?_
        refine W.iconst 73 d_method_3_72 rfl (2 : Int32) rfl ?_
        refine W.iadd 74 d_method_3_73 rfl (f + 2).toInt32 (ki_add (t := 2)) ?_
        refine W.caload 75 d_method_3_74 rfl Ac (f + 2) (ki_idx (by omega)) (ki_nn (by omega)) (.int (cs.getD (f + 2) 0)) (iv_at (by omega)) ?_
        refine W.icmp_eq 80 78 d_method_3_75 rfl rfl (fun _ => ?_) (fun hc => absurd (own_mt hN2 htn hch) hc)
        refine W.iload 82 d_method_3_80 rfl rfl ?_
        refine W.iconst 83 d_method_3_82 rfl (3 : Int32) rfl ?_
        refine W.icmp_le 101 86 d_method_3_83 rfl rfl ?_ ?_
        · intro hc1178
          refine W.iconst 102 d_method_3_101 rfl (1 : Int32) rfl ?_
          exact W.ireturnN (t := .boolean) d_method_3_102 rfl (by simp) (1 : Int32) rfl ⟨rfl, rfl⟩ (by decide) (by decide)
        · intro hc1178
          have hN3 : 3 < t - f := ki_gt (k := 3) (by decide) hc1178 (by omega)
          refine W.aloadN 87 d_method_3_86 rfl rfl rfl ?_
          refine W.iconst 88 d_method_3_87 rfl (3 : Int32) rfl ?_
          refine W.callV (rest := []) (argsL := [(.int (3 : Int32))]) (a := s) 91 d_method_3_88 rfl (fun hn => c_cat l Z a0 hw s b r0 kc hkc (sl (cs.map byteOf) f t) 3 (by rw [sl_len (by rw [List.length_map]; exact htn)]; exact hN3) _ n0 hn FS SF E0 C0 V0 A0) E0 (wd_172 hw) (wd_173 hw) (wd_175 hw) rfl (wd_174 hw) (wd_3 hw) (wd_176 hw) (by decide) pd_19 rfl rfl rfl (by decide) 0 (Nat.le_of_ble_eq_true rfl) (by decide) (by decide) (by decide) ?_
          rintro v1179 h1179 ⟨rfl, rfl⟩
          show WG _ _ _ _ _ _ _ _ _ _ _ _ 0 0 91 #[.val (.ref s), .val (.ref c), .val (.int f.toInt32), .val (.int t.toInt32), .val (.int (t - f).toInt32)] [(.int ((sl (cs.map byteOf) f t).getD 3 0 &&& (255 : Int32)))]
          refine W.aloadN 92 d_method_3_91 rfl rfl rfl ?_
          refine W.iloadN 93 d_method_3_92 rfl rfl ?_
          refine W.iconst 94 d_method_3_93 rfl (3 : Int32) rfl ?_
          refine W.iadd 95 d_method_3_94 rfl (f + 3).toInt32 (ki_add (t := 3)) ?_
          refine W.caload 96 d_method_3_95 rfl Ac (f + 3) (ki_idx (by omega)) (ki_nn (by omega)) (.int (cs.getD (f + 3) 0)) (iv_at (by omega)) ?_
          refine W.icmp_eq 101 99 d_method_3_96 rfl rfl (fun _ => ?_) (fun hc => absurd (own_mt hN3 htn hch) hc)
          refine W.iconst 102 d_method_3_101 rfl (1 : Int32) rfl ?_
          exact W.ireturnN (t := .boolean) d_method_3_102 rfl (by simp) (1 : Int32) rfl ⟨rfl, rfl⟩ (by decide) (by decide)
  · intro hc1165
    have hN0 : 0 < t - f := ki_gt (k := 0) (by decide) hc1165 (by omega)
    refine W.aloadN 26 d_method_3_25 rfl rfl rfl ?_
    refine W.iconst 27 d_method_3_26 rfl (0 : Int32) rfl ?_
    refine W.callV (rest := []) (argsL := [(.int (0 : Int32))]) (a := s) 30 d_method_3_27 rfl (fun hn => c_cat l Z a0 hw s b r0 kc hkc (sl (cs.map byteOf) f t) 0 (by rw [sl_len (by rw [List.length_map]; exact htn)]; exact hN0) _ n0 hn FS SF E0 C0 V0 A0) E0 (wd_172 hw) (wd_173 hw) (wd_175 hw) rfl (wd_174 hw) (wd_3 hw) (wd_176 hw) (by decide) pd_19 rfl rfl rfl (by decide) 0 (Nat.le_of_ble_eq_true rfl) (by decide) (by decide) (by decide) ?_
    rintro v1180 h1180 ⟨rfl, rfl⟩
    show WG _ _ _ _ _ _ _ _ _ _ _ _ 0 0 30 #[.val (.ref s), .val (.ref c), .val (.int f.toInt32), .val (.int t.toInt32), .val (.int (t - f).toInt32)] [(.int ((sl (cs.map byteOf) f t).getD 0 0 &&& (255 : Int32)))]
    refine W.aloadN 31 d_method_3_30 rfl rfl rfl ?_
    refine W.iloadN 32 d_method_3_31 rfl rfl ?_
    refine W.caload 33 d_method_3_32 rfl Ac f (ki_idx (by omega)) (ki_nn (by omega)) (.int (cs.getD f 0)) (iv_at (by omega)) ?_
    refine W.icmp_eq 38 36 d_method_3_33 rfl rfl (fun _ => ?_) (fun hc => absurd (own_mt hN0 htn hch) hc)
    refine W.iload 40 d_method_3_38 rfl rfl ?_
    refine W.iconst 41 d_method_3_40 rfl (1 : Int32) rfl ?_
    refine W.icmp_le 59 44 d_method_3_41 rfl rfl ?_ ?_
    · intro hc1181
      refine W.iload 61 d_method_3_59 rfl rfl ?_
      refine W.iconst 62 d_method_3_61 rfl (2 : Int32) rfl ?_
      refine W.icmp_le 80 65 d_method_3_62 rfl rfl ?_ ?_
      · intro hc1182
        refine W.iload 82 d_method_3_80 rfl rfl ?_
        refine W.iconst 83 d_method_3_82 rfl (3 : Int32) rfl ?_
        refine W.icmp_le 101 86 d_method_3_83 rfl rfl ?_ ?_
        · intro hc1183
          refine W.iconst 102 d_method_3_101 rfl (1 : Int32) rfl ?_
          exact W.ireturnN (t := .boolean) d_method_3_102 rfl (by simp) (1 : Int32) rfl ⟨rfl, rfl⟩ (by decide) (by decide)
        · intro hc1183
          have hN3 : 3 < t - f := ki_gt (k := 3) (by decide) hc1183 (by omega)
          refine W.aloadN 87 d_method_3_86 rfl rfl rfl ?_
          refine W.iconst 88 d_method_3_87 rfl (3 : Int32) rfl ?_
          refine W.callV (rest := []) (argsL := [(.int (3 : Int32))]) (a := s) 91 d_method_3_88 rfl (fun hn => c_cat l Z a0 hw s b r0 kc hkc (sl (cs.map byteOf) f t) 3 (by rw [sl_len (by rw [List.length_map]; exact htn)]; exact hN3) _ n0 hn FS SF E0 C0 V0 A0) E0 (wd_172 hw) (wd_173 hw) (wd_175 hw) rfl (wd_174 hw) (wd_3 hw) (wd_176 hw) (by decide) pd_19 rfl rfl rfl (by decide) 0 (Nat.le_of_ble_eq_true rfl) (by decide) (by decide) (by decide) ?_
          rintro v1184 h1184 ⟨rfl, rfl⟩
          show WG _ _ _ _ _ _ _ _ _ _ _ _ 0 0 91 #[.val (.ref s), .val (.ref c), .val (.int f.toInt32), .val (.int t.toInt32), .val (.int (t - f).toInt32)] [(.int ((sl (cs.map byteOf) f t).getD 3 0 &&& (255 : Int32)))]
          refine W.aloadN 92 d_method_3_91 rfl rfl rfl ?_
          refine W.iloadN 93 d_method_3_92 rfl rfl ?_
          refine W.iconst 94 d_method_3_93 rfl (3 : Int32) rfl ?_
          refine W.iadd 95 d_method_3_94 rfl (f + 3).toInt32 (ki_add (t := 3)) ?_
          refine W.caload 96 d_method_3_95 rfl Ac (f + 3) (ki_idx (by omega)) (ki_nn (by omega)) (.int (cs.getD (f + 3) 0)) (iv_at (by omega)) ?_
          refine W.icmp_eq 101 99 d_method_3_96 rfl rfl (fun _ => ?_) (fun hc => absurd (own_mt hN3 htn hch) hc)
          refine W.iconst 102 d_method_3_101 rfl (1 : Int32) rfl ?_
          exact W.ireturnN (t := .boolean) d_method_3_102 rfl (by simp) (1 : Int32) rfl ⟨rfl, rfl⟩ (by decide) (by decide)
      · intro hc1182
        have hN2 : 2 < t - f := ki_gt (k := 2) (by decide) hc1182 (by omega)
        refine W.aloadN 66 d_method_3_65 rfl rfl rfl ?_
        refine W.iconst 67 d_method_3_66 rfl (2 : Int32) rfl ?_
        refine W.callV (rest := []) (argsL := [(.int (2 : Int32))]) (a := s) 70 d_method_3_67 rfl (fun hn => c_cat l Z a0 hw s b r0 kc hkc (sl (cs.map byteOf) f t) 2 (by rw [sl_len (by rw [List.length_map]; exact htn)]; exact hN2) _ n0 hn FS SF E0 C0 V0 A0) E0 (wd_172 hw) (wd_173 hw) (wd_175 hw) rfl (wd_174 hw) (wd_3 hw) (wd_176 hw) (by decide) pd_19 rfl rfl rfl (by decide) 0 (Nat.le_of_ble_eq_true rfl) (by decide) (by decide) (by decide) ?_
        rintro v1185 h1185 ⟨rfl, rfl⟩
        show WG _ _ _ _ _ _ _ _ _ _ _ _ 0 0 70 #[.val (.ref s), .val (.ref c), .val (.int f.toInt32), .val (.int t.toInt32), .val (.int (t - f).toInt32)] [(.int ((sl (cs.map byteOf) f t).getD 2 0 &&& (255 : Int32)))]
        refine W.aloadN 71 d_method_3_70 rfl rfl rfl ?_
        refine W.iloadN 72 d_method_3_71 rfl rfl ?_
        refine W.iconst 73 d_method_3_72 rfl (2 : Int32) rfl ?_
        refine W.iadd 74 d_method_3_73 rfl (f + 2).toInt32 (ki_add (t := 2)) ?_
        refine W.caload 75 d_method_3_74 rfl Ac (f + 2) (ki_idx (by omega)) (ki_nn (by omega)) (.int (cs.getD (f + 2) 0)) (iv_at (by omega)) ?_
        refine W.icmp_eq 80 78 d_method_3_75 rfl rfl (fun _ => ?_) (fun hc => absurd (own_mt hN2 htn hch) hc)
        refine W.iload 82 d_method_3_80 rfl rfl ?_
        refine W.iconst 83 d_method_3_82 rfl (3 : Int32) rfl ?_
        refine W.icmp_le 101 86 d_method_3_83 rfl rfl ?_ ?_
        · intro hc1186
          refine W.iconst 102 d_method_3_101 rfl (1 : Int32) rfl ?_
          exact W.ireturnN (t := .boolean) d_method_3_102 rfl (by simp) (1 : Int32) rfl ⟨rfl, rfl⟩ (by decide) (by decide)
        · intro hc1186
          have hN3 : 3 < t - f := ki_gt (k := 3) (by decide) hc1186 (by omega)
          refine W.aloadN 87 d_method_3_86 rfl rfl rfl ?_
          refine W.iconst 88 d_method_3_87 rfl (3 : Int32) rfl ?_
          refine W.callV (rest := []) (argsL := [(.int (3 : Int32))]) (a := s) 91 d_method_3_88 rfl (fun hn => c_cat l Z a0 hw s b r0 kc hkc (sl (cs.map byteOf) f t) 3 (by rw [sl_len (by rw [List.length_map]; exact htn)]; exact hN3) _ n0 hn FS SF E0 C0 V0 A0) E0 (wd_172 hw) (wd_173 hw) (wd_175 hw) rfl (wd_174 hw) (wd_3 hw) (wd_176 hw) (by decide) pd_19 rfl rfl rfl (by decide) 0 (Nat.le_of_ble_eq_true rfl) (by decide) (by decide) (by decide) ?_
          rintro v1187 h1187 ⟨rfl, rfl⟩
          show WG _ _ _ _ _ _ _ _ _ _ _ _ 0 0 91 #[.val (.ref s), .val (.ref c), .val (.int f.toInt32), .val (.int t.toInt32), .val (.int (t - f).toInt32)] [(.int ((sl (cs.map byteOf) f t).getD 3 0 &&& (255 : Int32)))]
          refine W.aloadN 92 d_method_3_91 rfl rfl rfl ?_
          refine W.iloadN 93 d_method_3_92 rfl rfl ?_
          refine W.iconst 94 d_method_3_93 rfl (3 : Int32) rfl ?_
          refine W.iadd 95 d_method_3_94 rfl (f + 3).toInt32 (ki_add (t := 3)) ?_
          refine W.caload 96 d_method_3_95 rfl Ac (f + 3) (ki_idx (by omega)) (ki_nn (by omega)) (.int (cs.getD (f + 3) 0)) (iv_at (by omega)) ?_
          refine W.icmp_eq 101 99 d_method_3_96 rfl rfl (fun _ => ?_) (fun hc => absurd (own_mt hN3 htn hch) hc)
          refine W.iconst 102 d_method_3_101 rfl (1 : Int32) rfl ?_
          exact W.ireturnN (t := .boolean) d_method_3_102 rfl (by simp) (1 : Int32) rfl ⟨rfl, rfl⟩ (by decide) (by decide)
    · intro hc1181
      have hN1 : 1 < t - f := ki_gt (k := 1) (by decide) hc1181 (by omega)
      refine W.aloadN 45 d_method_3_44 rfl rfl rfl ?_
      refine W.iconst 46 d_method_3_45 rfl (1 : Int32) rfl ?_
      refine W.callV (rest := []) (argsL := [(.int (1 : Int32))]) (a := s) 49 d_method_3_46 rfl (fun hn => c_cat l Z a0 hw s b r0 kc hkc (sl (cs.map byteOf) f t) 1 (by rw [sl_len (by rw [List.length_map]; exact htn)]; exact hN1) _ n0 hn FS SF E0 C0 V0 A0) E0 (wd_172 hw) (wd_173 hw) (wd_175 hw) rfl (wd_174 hw) (wd_3 hw) (wd_176 hw) (by decide) pd_19 rfl rfl rfl (by decide) 0 (Nat.le_of_ble_eq_true rfl) (by decide) (by decide) (by decide) ?_
      rintro v1188 h1188 ⟨rfl, rfl⟩
      show WG _ _ _ _ _ _ _ _ _ _ _ _ 0 0 49 #[.val (.ref s), .val (.ref c), .val (.int f.toInt32), .val (.int t.toInt32), .val (.int (t - f).toInt32)] [(.int ((sl (cs.map byteOf) f t).getD 1 0 &&& (255 : Int32)))]
      refine W.aloadN 50 d_method_3_49 rfl rfl rfl ?_
      refine W.iloadN 51 d_method_3_50 rfl rfl ?_
      refine W.iconst 52 d_method_3_51 rfl (1 : Int32) rfl ?_
      refine W.iadd 53 d_method_3_52 rfl (f + 1).toInt32 (ki_succ f) ?_
      refine W.caload 54 d_method_3_53 rfl Ac (f + 1) (ki_idx (by omega)) (ki_nn (by omega)) (.int (cs.getD (f + 1) 0)) (iv_at (by omega)) ?_
      refine W.icmp_eq 59 57 d_method_3_54 rfl rfl (fun _ => ?_) (fun hc => absurd (own_mt hN1 htn hch) hc)
      refine W.iload 61 d_method_3_59 rfl rfl ?_
      refine W.iconst 62 d_method_3_61 rfl (2 : Int32) rfl ?_
      refine W.icmp_le 80 65 d_method_3_62 rfl rfl ?_ ?_
      · intro hc1189
        refine W.iload 82 d_method_3_80 rfl rfl ?_
        refine W.iconst 83 d_method_3_82 rfl (3 : Int32) rfl ?_
        refine W.icmp_le 101 86 d_method_3_83 rfl rfl ?_ ?_
        · intro hc1190
          refine W.iconst 102 d_method_3_101 rfl (1 : Int32) rfl ?_
          exact W.ireturnN (t := .boolean) d_method_3_102 rfl (by simp) (1 : Int32) rfl ⟨rfl, rfl⟩ (by decide) (by decide)
        · intro hc1190
          have hN3 : 3 < t - f := ki_gt (k := 3) (by decide) hc1190 (by omega)
          refine W.aloadN 87 d_method_3_86 rfl rfl rfl ?_
          refine W.iconst 88 d_method_3_87 rfl (3 : Int32) rfl ?_
          refine W.callV (rest := []) (argsL := [(.int (3 : Int32))]) (a := s) 91 d_method_3_88 rfl (fun hn => c_cat l Z a0 hw s b r0 kc hkc (sl (cs.map byteOf) f t) 3 (by rw [sl_len (by rw [List.length_map]; exact htn)]; exact hN3) _ n0 hn FS SF E0 C0 V0 A0) E0 (wd_172 hw) (wd_173 hw) (wd_175 hw) rfl (wd_174 hw) (wd_3 hw) (wd_176 hw) (by decide) pd_19 rfl rfl rfl (by decide) 0 (Nat.le_of_ble_eq_true rfl) (by decide) (by decide) (by decide) ?_
          rintro v1191 h1191 ⟨rfl, rfl⟩
          show WG _ _ _ _ _ _ _ _ _ _ _ _ 0 0 91 #[.val (.ref s), .val (.ref c), .val (.int f.toInt32), .val (.int t.toInt32), .val (.int (t - f).toInt32)] [(.int ((sl (cs.map byteOf) f t).getD 3 0 &&& (255 : Int32)))]
          refine W.aloadN 92 d_method_3_91 rfl rfl rfl ?_
          refine W.iloadN 93 d_method_3_92 rfl rfl ?_
          refine W.iconst 94 d_method_3_93 rfl (3 : Int32) rfl ?_
          refine W.iadd 95 d_method_3_94 rfl (f + 3).toInt32 (ki_add (t := 3)) ?_
          refine W.caload 96 d_method_3_95 rfl Ac (f + 3) (ki_idx (by omega)) (ki_nn (by omega)) (.int (cs.getD (f + 3) 0)) (iv_at (by omega)) ?_
          refine W.icmp_eq 101 99 d_method_3_96 rfl rfl (fun _ => ?_) (fun hc => absurd (own_mt hN3 htn hch) hc)
          refine W.iconst 102 d_method_3_101 rfl (1 : Int32) rfl ?_
          exact W.ireturnN (t := .boolean) d_method_3_102 rfl (by simp) (1 : Int32) rfl ⟨rfl, rfl⟩ (by decide) (by decide)
      · intro hc1189
        have hN2 : 2 < t - f := ki_gt (k := 2) (by decide) hc1189 (by omega)
        refine W.aloadN 66 d_method_3_65 rfl rfl rfl ?_
        refine W.iconst 67 d_method_3_66 rfl (2 : Int32) rfl ?_
        refine W.callV (rest := []) (argsL := [(.int (2 : Int32))]) (a := s) 70 d_method_3_67 rfl (fun hn => c_cat l Z a0 hw s b r0 kc hkc (sl (cs.map byteOf) f t) 2 (by rw [sl_len (by rw [List.length_map]; exact htn)]; exact hN2) _ n0 hn FS SF E0 C0 V0 A0) E0 (wd_172 hw) (wd_173 hw) (wd_175 hw) rfl (wd_174 hw) (wd_3 hw) (wd_176 hw) (by decide) pd_19 rfl rfl rfl (by decide) 0 (Nat.le_of_ble_eq_true rfl) (by decide) (by decide) (by decide) ?_
        rintro v1192 h1192 ⟨rfl, rfl⟩
        show WG _ _ _ _ _ _ _ _ _ _ _ _ 0 0 70 #[.val (.ref s), .val (.ref c), .val (.int f.toInt32), .val (.int t.toInt32), .val (.int (t - f).toInt32)] [(.int ((sl (cs.map byteOf) f t).getD 2 0 &&& (255 : Int32)))]
        refine W.aloadN 71 d_method_3_70 rfl rfl rfl ?_
        refine W.iloadN 72 d_method_3_71 rfl rfl ?_
        refine W.iconst 73 d_method_3_72 rfl (2 : Int32) rfl ?_
        refine W.iadd 74 d_method_3_73 rfl (f + 2).toInt32 (ki_add (t := 2)) ?_
        refine W.caload 75 d_method_3_74 rfl Ac (f + 2) (ki_idx (by omega)) (ki_nn (by omega)) (.int (cs.getD (f + 2) 0)) (iv_at (by omega)) ?_
        refine W.icmp_eq 80 78 d_method_3_75 rfl rfl (fun _ => ?_) (fun hc => absurd (own_mt hN2 htn hch) hc)
        refine W.iload 82 d_method_3_80 rfl rfl ?_
        refine W.iconst 83 d_method_3_82 rfl (3 : Int32) rfl ?_
        refine W.icmp_le 101 86 d_method_3_83 rfl rfl ?_ ?_
        · intro hc1193
          refine W.iconst 102 d_method_3_101 rfl (1 : Int32) rfl ?_
          exact W.ireturnN (t := .boolean) d_method_3_102 rfl (by simp) (1 : Int32) rfl ⟨rfl, rfl⟩ (by decide) (by decide)
        · intro hc1193
          have hN3 : 3 < t - f := ki_gt (k := 3) (by decide) hc1193 (by omega)
          refine W.aloadN 87 d_method_3_86 rfl rfl rfl ?_
          refine W.iconst 88 d_method_3_87 rfl (3 : Int32) rfl ?_
          refine W.callV (rest := []) (argsL := [(.int (3 : Int32))]) (a := s) 91 d_method_3_88 rfl (fun hn => c_cat l Z a0 hw s b r0 kc hkc (sl (cs.map byteOf) f t) 3 (by rw [sl_len (by rw [List.length_map]; exact htn)]; exact hN3) _ n0 hn FS SF E0 C0 V0 A0) E0 (wd_172 hw) (wd_173 hw) (wd_175 hw) rfl (wd_174 hw) (wd_3 hw) (wd_176 hw) (by decide) pd_19 rfl rfl rfl (by decide) 0 (Nat.le_of_ble_eq_true rfl) (by decide) (by decide) (by decide) ?_
          rintro v1194 h1194 ⟨rfl, rfl⟩
          show WG _ _ _ _ _ _ _ _ _ _ _ _ 0 0 91 #[.val (.ref s), .val (.ref c), .val (.int f.toInt32), .val (.int t.toInt32), .val (.int (t - f).toInt32)] [(.int ((sl (cs.map byteOf) f t).getD 3 0 &&& (255 : Int32)))]
          refine W.aloadN 92 d_method_3_91 rfl rfl rfl ?_
          refine W.iloadN 93 d_method_3_92 rfl rfl ?_
          refine W.iconst 94 d_method_3_93 rfl (3 : Int32) rfl ?_
          refine W.iadd 95 d_method_3_94 rfl (f + 3).toInt32 (ki_add (t := 3)) ?_
          refine W.caload 96 d_method_3_95 rfl Ac (f + 3) (ki_idx (by omega)) (ki_nn (by omega)) (.int (cs.getD (f + 3) 0)) (iv_at (by omega)) ?_
          refine W.icmp_eq 101 99 d_method_3_96 rfl rfl (fun _ => ?_) (fun hc => absurd (own_mt hN3 htn hch) hc)
          refine W.iconst 102 d_method_3_101 rfl (1 : Int32) rfl ?_
          exact W.ireturnN (t := .boolean) d_method_3_102 rfl (by simp) (1 : Int32) rfl ⟨rfl, rfl⟩ (by decide) (by decide)
theorem c_ho (l : Launch) (Z : State) (a0 : Array Value) (hw : HwT Z a0) (o a s b : Addr) (r0 : RV) (ky ft sv fl : Addr) (ln st sh : Int64) (lc : Int32) (kc : Int32) (hkc : ¬ kc = 0) (xs : List Int32) (f t g u : Nat) (hft : f ≤ t) (htn : t ≤ xs.length) (hgu : g ≤ u) (hun : u ≤ xs.length) (hcap : xs.length ≤ 16) (h : Heap) (n0 : Nat) (hn : n0 ≤ h.size) (nea : o ≠ a) (nes : o ≠ s) (neb : o ≠ b) (go : n0 ≤ o) (FS : Sta Z h "java/lang/String" "COMPACT_STRINGS" "Z" (.int kc)) (SF : Sta Z h "jdk/internal/util/Preconditions" "SIOOBE_FORMATTER" "Ljava/util/function/BiFunction;" r0.1) (Eo : Exa Z h o "com/example/tallymark/tallymark/SnapshotJoin$Holding") (Ea : Exa Z h a "com/example/tallymark/tallymark/SnapshotJoin$HoldingLine") (F0 : Fld Z h o "com/example/tallymark/tallymark/SnapshotJoin$Holding" "feature" "Ljava/lang/String;" .null) (F1 : Fld Z h o "com/example/tallymark/tallymark/SnapshotJoin$Holding" "user" "Ljava/lang/String;" .null) (F2 : Fld Z h o "com/example/tallymark/tallymark/SnapshotJoin$Holding" "host" "Ljava/lang/String;" .null) (F3 : Fld Z h o "com/example/tallymark/tallymark/SnapshotJoin$Holding" "start" "J" (.long 0)) (F4 : Fld Z h o "com/example/tallymark/tallymark/SnapshotJoin$Holding" "file" "Ljava/lang/String;" .null) (F5 : Fld Z h o "com/example/tallymark/tallymark/SnapshotJoin$Holding" "line" "J" (.long 0)) (F6 : Fld Z h o "com/example/tallymark/tallymark/SnapshotJoin$Holding" "licences" "I" (.int 0)) (F7 : Fld Z h o "com/example/tallymark/tallymark/SnapshotJoin$Holding" "from" "J" (.long 0)) (F8 : Fld Z h o "com/example/tallymark/tallymark/SnapshotJoin$Holding" "shown" "J" (.long 0)) (G0 : Fld Z h a "com/example/tallymark/tallymark/SnapshotJoin$HoldingLine" "text" "Ljava/lang/String;" (.ref s)) (G1 : Fld Z h a "com/example/tallymark/tallymark/SnapshotJoin$HoldingLine" "userFrom" "I" (.int f.toInt32)) (G2 : Fld Z h a "com/example/tallymark/tallymark/SnapshotJoin$HoldingLine" "userTo" "I" (.int t.toInt32)) (G3 : Fld Z h a "com/example/tallymark/tallymark/SnapshotJoin$HoldingLine" "hostFrom" "I" (.int g.toInt32)) (G4 : Fld Z h a "com/example/tallymark/tallymark/SnapshotJoin$HoldingLine" "hostTo" "I" (.int u.toInt32)) (G5 : Fld Z h a "com/example/tallymark/tallymark/SnapshotJoin$HoldingLine" "key" "Ljava/lang/String;" (.ref ky)) (G6 : Fld Z h a "com/example/tallymark/tallymark/SnapshotJoin$HoldingLine" "feature" "Ljava/lang/String;" (.ref ft)) (G7 : Fld Z h a "com/example/tallymark/tallymark/SnapshotJoin$HoldingLine" "server" "Ljava/lang/String;" (.ref sv)) (G8 : Fld Z h a "com/example/tallymark/tallymark/SnapshotJoin$HoldingLine" "line" "J" (.long ln)) (G9 : Fld Z h a "com/example/tallymark/tallymark/SnapshotJoin$HoldingLine" "licences" "I" (.int lc)) (G10 : Fld Z h a "com/example/tallymark/tallymark/SnapshotJoin$HoldingLine" "start" "J" (.long st)) (E0 : Exa Z h s "java/lang/String") (C0 : Fld Z h s "java/lang/String" "coder" "B" (.int 0)) (V0 : Fld Z h s "java/lang/String" "value" "[B" (.ref b)) (A0 : Ary Z h b .byte (iv xs)) : ConX Z consts_1 [o] [] l (⟨"com/example/tallymark/tallymark/SnapshotJoin$Holding", "<init>", "(Lcom/example/tallymark/tallymark/SnapshotJoin$HoldingLine;Ljava/lang/String;J)V"⟩ : MethodName) prog_109_method_1_code 5 none ({ frames := 6, cells := 6, slots := 48, locals := 200 } : Room) #[(.ref o), (.ref a), (.ref fl), (.long sh)] h n0 (fun v h' => v = none ∧ Keep h h' [o] ∧ ∃ r1 b1 r2 b2, (Exa Z h' r1 "java/lang/String" ∧ Fld Z h' r1 "java/lang/String" "coder" "B" (.int 0) ∧ Fld Z h' r1 "java/lang/String" "value" "[B" (.ref b1) ∧ Ary Z h' b1 .byte (iv (sl xs f t))) ∧ (Exa Z h' r2 "java/lang/String" ∧ Fld Z h' r2 "java/lang/String" "coder" "B" (.int 0) ∧ Fld Z h' r2 "java/lang/String" "value" "[B" (.ref b2) ∧ Ary Z h' b2 .byte (iv (sl xs g u))) ∧ Fld Z h' o "com/example/tallymark/tallymark/SnapshotJoin$Holding" "feature" "Ljava/lang/String;" (.ref ft) ∧ Fld Z h' o "com/example/tallymark/tallymark/SnapshotJoin$Holding" "user" "Ljava/lang/String;" (.ref r1) ∧ Fld Z h' o "com/example/tallymark/tallymark/SnapshotJoin$Holding" "host" "Ljava/lang/String;" (.ref r2) ∧ Fld Z h' o "com/example/tallymark/tallymark/SnapshotJoin$Holding" "start" "J" (.long st) ∧ Fld Z h' o "com/example/tallymark/tallymark/SnapshotJoin$Holding" "line" "J" (.long ln) ∧ Fld Z h' o "com/example/tallymark/tallymark/SnapshotJoin$Holding" "licences" "I" (.int lc) ∧ Fld Z h' o "com/example/tallymark/tallymark/SnapshotJoin$Holding" "from" "J" (.long st)) := by
  refine ConX.of_W (Ls := #[.val (.ref o), .val (.ref a), .val (.ref fl), .val (.long sh), .second]) (plainFor_of_name pn_7) hn (fun m => by first | (simp [entryFrame, mkF, argsToLocals, Value.category]; done) | rfl) ?_
  have hv0 := HV.here (Z := Z) (EL := consts_1) (h := h) (S := [o])
  refine W.aloadN 1 d_prog_109_method_1_0 rfl rfl rfl ?_
  refine W.initObj 4 d_prog_109_method_1_1 rfl (wd_90 hw) (wd_12 hw) (wd_13 hw) rfl (by decide) 0 (Nat.le_of_ble_eq_true rfl) (by decide) ?_
  refine W.aloadN 5 d_prog_109_method_1_4 rfl rfl rfl ?_
  refine W.aloadN 6 d_prog_109_method_1_5 rfl rfl rfl ?_
  refine W.getfield 9 d_prog_109_method_1_6 rfl (Or.inr (wd_91 hw)) Via.refl G6 ?_
  refine W.putfield 12 d_prog_109_method_1_9 rfl (host := "") (Or.inl (wd_92 hw)) Via.refl F0 Eo (Or.inr ⟨(wd_93 hw), rfl, rfl⟩) (wd_84 hw) (ty := (.object "java/lang/String")) (by decide) rfl rfl go ?_
  intro h1195 W1195 F1195 E1195 K1195
  have hv1196 := HV.keep hv0 K1195 (allS (List.mem_of_getElem? (i := 0) rfl) all0)
  have kc1197 := Keep.trans (ws := [o]) (Keep.refl _ [o]) K1195 (allS (Or.inl (List.mem_of_getElem? (i := 0) rfl)) all0)
  refine W.aloadN 13 d_prog_109_method_1_12 rfl rfl rfl ?_
  refine W.aloadN 14 d_prog_109_method_1_13 rfl rfl rfl ?_
  have q1198 := (FS.wr W1195)
  have q1199 := (SF.wr W1195)
  have q1200 := (G0.keep K1195 (ninS (Ne.symm nea) nin0))
  have q1201 := (G1.keep K1195 (ninS (Ne.symm nea) nin0))
  have q1202 := (G2.keep K1195 (ninS (Ne.symm nea) nin0))
  have q1203 := (E0.keep K1195)
  have q1204 := (C0.keep K1195 (ninS (Ne.symm nes) nin0))
  have q1205 := (V0.keep K1195 (ninS (Ne.symm nes) nin0))
  have q1206 := (A0.keep K1195 (ninS (Ne.symm neb) nin0))
  have q1208 := (Ea.keep K1195)
  refine W.callVX (rest := [(.ref o)]) (argsL := []) (a := a) 17 d_prog_109_method_1_14 rfl (fun hn => c_user l Z a0 hw a s b r0 kc hkc xs f t hft htn hcap _ n0 hn q1198 q1199 q1200 q1201 q1202 q1203 q1204 q1205 q1206) q1208 (wd_94 hw) (wd_95 hw) (wd_97 hw) rfl (wd_96 hw) (wd_46 hw) (wd_98 hw) (by decide) pd_20 rfl rfl rfl (by decide) 1 (Nat.le_of_ble_eq_true rfl) (by decide) (by decide) (by decide) (own_EL hw) hv1196 (allS E1195.lt all0) all0 ?_
  rintro v1207 h1207 ⟨r1207, b1207, rfl, K1207, E1207, C1207, V1207, A1207⟩
  have kc1209 := Keep.trans (ws := [o]) kc1197 K1207 all0
  have hv1207 := HV.here (Z := Z) (EL := consts_1) (h := h1207) (S := [o])
  show WG _ _ _ _ _ _ _ _ _ _ _ _ 3 24 17 #[.val (.ref o), .val (.ref a), .val (.ref fl), .val (.long sh), .second] [(.ref r1207), (.ref o)]
  have q1210 := (E1195.keep K1207)
  have nr1207 := RoadKit.Exa.ne q1210 E1207 (by decide)
  have nb1207 := own_neA q1210 A1207 (wd_84 hw)
  have q1211 := ((F1.other W1195 (Or.inr (sne_112 hw))).keep K1207 nin0)
  refine W.putfield 20 d_prog_109_method_1_17 rfl (host := "") (Or.inl (wd_131 hw)) Via.refl q1211 q1210 (Or.inr ⟨(wd_132 hw), rfl, rfl⟩) (wd_84 hw) (ty := (.object "java/lang/String")) (by decide) rfl rfl go ?_
  intro h1212 W1212 F1212 E1212 K1212
  have hv1213 := HV.keep hv1207 K1212 (allS (List.mem_of_getElem? (i := 0) rfl) all0)
  have kc1214 := Keep.trans (ws := [o]) kc1209 K1212 (allS (Or.inl (List.mem_of_getElem? (i := 0) rfl)) all0)
  refine W.aloadN 21 d_prog_109_method_1_20 rfl rfl rfl ?_
  refine W.aloadN 22 d_prog_109_method_1_21 rfl rfl rfl ?_
  have q1215 := ((Sta.keepN K1207 all0 q1198).wr W1212)
  have q1216 := ((Sta.keepN K1207 all0 q1199).wr W1212)
  have q1217 := ((q1200.keep K1207 nin0).keep K1212 (ninS (Ne.symm nea) nin0))
  have q1218 := (((G3.keep K1195 (ninS (Ne.symm nea) nin0)).keep K1207 nin0).keep K1212 (ninS (Ne.symm nea) nin0))
  have q1219 := (((G4.keep K1195 (ninS (Ne.symm nea) nin0)).keep K1207 nin0).keep K1212 (ninS (Ne.symm nea) nin0))
  have q1220 := ((q1203.keep K1207).keep K1212)
  have q1221 := ((q1204.keep K1207 nin0).keep K1212 (ninS (Ne.symm nes) nin0))
  have q1222 := ((q1205.keep K1207 nin0).keep K1212 (ninS (Ne.symm nes) nin0))
  have q1223 := ((q1206.keep K1207 nin0).keep K1212 (ninS (Ne.symm neb) nin0))
  have q1225 := ((q1208.keep K1207).keep K1212)
  refine W.callVX (rest := [(.ref o)]) (argsL := []) (a := a) 25 d_prog_109_method_1_22 rfl (fun hn => c_host l Z a0 hw a s b r0 kc hkc xs g u hgu hun hcap _ n0 hn q1215 q1216 q1217 q1218 q1219 q1220 q1221 q1222 q1223) q1225 (wd_133 hw) (wd_134 hw) (wd_136 hw) rfl (wd_135 hw) (wd_46 hw) (wd_137 hw) (by decide) pd_20 rfl rfl rfl (by decide) 1 (Nat.le_of_ble_eq_true rfl) (by decide) (by decide) (by decide) (own_EL hw) hv1213 (allS E1212.lt all0) all0 ?_
  rintro v1224 h1224 ⟨r1224, b1224, rfl, K1224, E1224, C1224, V1224, A1224⟩
  have kc1226 := Keep.trans (ws := [o]) kc1214 K1224 all0
  have hv1224 := HV.here (Z := Z) (EL := consts_1) (h := h1224) (S := [o])
  show WG _ _ _ _ _ _ _ _ _ _ _ _ 6 48 25 #[.val (.ref o), .val (.ref a), .val (.ref fl), .val (.long sh), .second] [(.ref r1224), (.ref o)]
  have q1227 := (E1212.keep K1224)
  have nr1224 := RoadKit.Exa.ne q1227 E1224 (by decide)
  have nb1224 := own_neA q1227 A1224 (wd_84 hw)
  have q1228 := ((((F2.other W1195 (Or.inr (sne_113 hw))).keep K1207 nin0).other W1212 (Or.inr (sne_114 hw))).keep K1224 nin0)
  refine W.putfield 28 d_prog_109_method_1_25 rfl (host := "") (Or.inl (wd_138 hw)) Via.refl q1228 q1227 (Or.inr ⟨(wd_139 hw), rfl, rfl⟩) (wd_84 hw) (ty := (.object "java/lang/String")) (by decide) rfl rfl go ?_
  intro h1229 W1229 F1229 E1229 K1229
  have hv1230 := HV.keep hv1224 K1229 (allS (List.mem_of_getElem? (i := 0) rfl) all0)
  have kc1231 := Keep.trans (ws := [o]) kc1226 K1229 (allS (Or.inl (List.mem_of_getElem? (i := 0) rfl)) all0)
  refine W.aloadN 29 d_prog_109_method_1_28 rfl rfl rfl ?_
  refine W.aloadN 30 d_prog_109_method_1_29 rfl rfl rfl ?_
  have q1232 := (((((G10.keep K1195 (ninS (Ne.symm nea) nin0)).keep K1207 nin0).keep K1212 (ninS (Ne.symm nea) nin0)).keep K1224 nin0).keep K1229 (ninS (Ne.symm nea) nin0))
  refine W.getfield 33 d_prog_109_method_1_30 rfl (Or.inr (wd_140 hw)) Via.refl q1232 ?_
  have q1233 := (((((F3.other W1195 (Or.inr (sne_115 hw))).keep K1207 nin0).other W1212 (Or.inr (sne_116 hw))).keep K1224 nin0).other W1229 (Or.inr (sne_117 hw)))
  refine W.putfield 36 d_prog_109_method_1_33 rfl (host := "") (Or.inl (wd_141 hw)) Via.refl q1233 E1229 (Or.inr ⟨(wd_142 hw), rfl, rfl⟩) (wd_84 hw) (ty := .long) (by decide) rfl rfl go ?_
  intro h1234 W1234 F1234 E1234 K1234
  have hv1235 := HV.keep hv1230 K1234 (allS (List.mem_of_getElem? (i := 0) rfl) all0)
  have kc1236 := Keep.trans (ws := [o]) kc1231 K1234 (allS (Or.inl (List.mem_of_getElem? (i := 0) rfl)) all0)
  refine W.aloadN 37 d_prog_109_method_1_36 rfl rfl rfl ?_
  refine W.aloadN 38 d_prog_109_method_1_37 rfl rfl rfl ?_
  have q1237 := ((((((F4.other W1195 (Or.inr (sne_118 hw))).keep K1207 nin0).other W1212 (Or.inr (sne_119 hw))).keep K1224 nin0).other W1229 (Or.inr (sne_120 hw))).other W1234 (Or.inr (sne_121 hw)))
  refine W.putfield 41 d_prog_109_method_1_38 rfl (host := "") (Or.inl (wd_143 hw)) Via.refl q1237 E1234 (Or.inl (wd_144 hw)) (wd_84 hw) (ty := (.object "java/lang/String")) (by decide) rfl rfl go ?_
  intro h1238 W1238 F1238 E1238 K1238
  have hv1239 := HV.keep hv1235 K1238 (allS (List.mem_of_getElem? (i := 0) rfl) all0)
  have kc1240 := Keep.trans (ws := [o]) kc1236 K1238 (allS (Or.inl (List.mem_of_getElem? (i := 0) rfl)) all0)
  refine W.aloadN 42 d_prog_109_method_1_41 rfl rfl rfl ?_
  refine W.aloadN 43 d_prog_109_method_1_42 rfl rfl rfl ?_
  have q1241 := (((((((G8.keep K1195 (ninS (Ne.symm nea) nin0)).keep K1207 nin0).keep K1212 (ninS (Ne.symm nea) nin0)).keep K1224 nin0).keep K1229 (ninS (Ne.symm nea) nin0)).keep K1234 (ninS (Ne.symm nea) nin0)).keep K1238 (ninS (Ne.symm nea) nin0))
  refine W.getfield 46 d_prog_109_method_1_43 rfl (Or.inr (wd_145 hw)) Via.refl q1241 ?_
  have q1242 := (((((((F5.other W1195 (Or.inr (sne_122 hw))).keep K1207 nin0).other W1212 (Or.inr (sne_123 hw))).keep K1224 nin0).other W1229 (Or.inr (sne_124 hw))).other W1234 (Or.inr (sne_125 hw))).other W1238 (Or.inr (sne_126 hw)))
  refine W.putfield 49 d_prog_109_method_1_46 rfl (host := "") (Or.inl (wd_146 hw)) Via.refl q1242 E1238 (Or.inl (wd_147 hw)) (wd_84 hw) (ty := .long) (by decide) rfl rfl go ?_
  intro h1243 W1243 F1243 E1243 K1243
  have hv1244 := HV.keep hv1239 K1243 (allS (List.mem_of_getElem? (i := 0) rfl) all0)
  have kc1245 := Keep.trans (ws := [o]) kc1240 K1243 (allS (Or.inl (List.mem_of_getElem? (i := 0) rfl)) all0)
  refine W.aloadN 50 d_prog_109_method_1_49 rfl rfl rfl ?_
  refine W.aloadN 51 d_prog_109_method_1_50 rfl rfl rfl ?_
  have q1246 := ((((((((G9.keep K1195 (ninS (Ne.symm nea) nin0)).keep K1207 nin0).keep K1212 (ninS (Ne.symm nea) nin0)).keep K1224 nin0).keep K1229 (ninS (Ne.symm nea) nin0)).keep K1234 (ninS (Ne.symm nea) nin0)).keep K1238 (ninS (Ne.symm nea) nin0)).keep K1243 (ninS (Ne.symm nea) nin0))
  refine W.getfield 54 d_prog_109_method_1_51 rfl (Or.inr (wd_148 hw)) Via.refl q1246 ?_
  have q1247 := ((((((((F6.other W1195 (Or.inr (sne_127 hw))).keep K1207 nin0).other W1212 (Or.inr (sne_128 hw))).keep K1224 nin0).other W1229 (Or.inr (sne_129 hw))).other W1234 (Or.inr (sne_130 hw))).other W1238 (Or.inr (sne_131 hw))).other W1243 (Or.inr (sne_132 hw)))
  refine W.putfield 57 d_prog_109_method_1_54 rfl (host := "") (Or.inl (wd_149 hw)) Via.refl q1247 E1243 (Or.inl (wd_150 hw)) (wd_84 hw) (ty := .int) (by decide) rfl rfl go ?_
  intro h1248 W1248 F1248 E1248 K1248
  have hv1249 := HV.keep hv1244 K1248 (allS (List.mem_of_getElem? (i := 0) rfl) all0)
  have kc1250 := Keep.trans (ws := [o]) kc1245 K1248 (allS (Or.inl (List.mem_of_getElem? (i := 0) rfl)) all0)
  refine W.aloadN 58 d_prog_109_method_1_57 rfl rfl rfl ?_
  refine W.aloadN 59 d_prog_109_method_1_58 rfl rfl rfl ?_
  have q1251 := ((((q1232.keep K1234 (ninS (Ne.symm nea) nin0)).keep K1238 (ninS (Ne.symm nea) nin0)).keep K1243 (ninS (Ne.symm nea) nin0)).keep K1248 (ninS (Ne.symm nea) nin0))
  refine W.getfield 62 d_prog_109_method_1_59 rfl (Or.inr (wd_140 hw)) Via.refl q1251 ?_
  have q1252 := (((((((((F7.other W1195 (Or.inr (sne_133 hw))).keep K1207 nin0).other W1212 (Or.inr (sne_134 hw))).keep K1224 nin0).other W1229 (Or.inr (sne_135 hw))).other W1234 (Or.inr (sne_136 hw))).other W1238 (Or.inr (sne_137 hw))).other W1243 (Or.inr (sne_138 hw))).other W1248 (Or.inr (sne_139 hw)))
  refine W.putfield 65 d_prog_109_method_1_62 rfl (host := "") (Or.inl (wd_151 hw)) Via.refl q1252 E1248 (Or.inl (wd_152 hw)) (wd_84 hw) (ty := .long) (by decide) rfl rfl go ?_
  intro h1253 W1253 F1253 E1253 K1253
  have hv1254 := HV.keep hv1249 K1253 (allS (List.mem_of_getElem? (i := 0) rfl) all0)
  have kc1255 := Keep.trans (ws := [o]) kc1250 K1253 (allS (Or.inl (List.mem_of_getElem? (i := 0) rfl)) all0)
  refine W.aloadN 66 d_prog_109_method_1_65 rfl rfl rfl ?_
  refine W.lloadN 67 d_prog_109_method_1_66 rfl rfl ?_
  have q1256 := ((((((((((F8.other W1195 (Or.inr (sne_140 hw))).keep K1207 nin0).other W1212 (Or.inr (sne_141 hw))).keep K1224 nin0).other W1229 (Or.inr (sne_142 hw))).other W1234 (Or.inr (sne_143 hw))).other W1238 (Or.inr (sne_144 hw))).other W1243 (Or.inr (sne_145 hw))).other W1248 (Or.inr (sne_146 hw))).other W1253 (Or.inr (sne_147 hw)))
  refine W.putfield 70 d_prog_109_method_1_67 rfl (host := "") (Or.inl (wd_153 hw)) Via.refl q1256 E1253 (Or.inl (wd_154 hw)) (wd_84 hw) (ty := .long) (by decide) rfl rfl go ?_
  intro h1257 W1257 F1257 E1257 K1257
  have hv1258 := HV.keep hv1254 K1257 (allS (List.mem_of_getElem? (i := 0) rfl) all0)
  have kc1259 := Keep.trans (ws := [o]) kc1255 K1257 (allS (Or.inl (List.mem_of_getElem? (i := 0) rfl)) all0)
  refine WG.retX (own_EL hw) hv1258 ?_
  have q1260 := (((((((((E1207.keep K1212).keep K1224).keep K1229).keep K1234).keep K1238).keep K1243).keep K1248).keep K1253).keep K1257)
  have q1261 := (((((((((C1207.keep K1212 (ninS (Ne.symm nr1207) nin0)).keep K1224 nin0).keep K1229 (ninS (Ne.symm nr1207) nin0)).keep K1234 (ninS (Ne.symm nr1207) nin0)).keep K1238 (ninS (Ne.symm nr1207) nin0)).keep K1243 (ninS (Ne.symm nr1207) nin0)).keep K1248 (ninS (Ne.symm nr1207) nin0)).keep K1253 (ninS (Ne.symm nr1207) nin0)).keep K1257 (ninS (Ne.symm nr1207) nin0))
  have q1262 := (((((((((V1207.keep K1212 (ninS (Ne.symm nr1207) nin0)).keep K1224 nin0).keep K1229 (ninS (Ne.symm nr1207) nin0)).keep K1234 (ninS (Ne.symm nr1207) nin0)).keep K1238 (ninS (Ne.symm nr1207) nin0)).keep K1243 (ninS (Ne.symm nr1207) nin0)).keep K1248 (ninS (Ne.symm nr1207) nin0)).keep K1253 (ninS (Ne.symm nr1207) nin0)).keep K1257 (ninS (Ne.symm nr1207) nin0))
  have q1263 := (((((((((A1207.keep K1212 (ninS (Ne.symm nb1207) nin0)).keep K1224 nin0).keep K1229 (ninS (Ne.symm nb1207) nin0)).keep K1234 (ninS (Ne.symm nb1207) nin0)).keep K1238 (ninS (Ne.symm nb1207) nin0)).keep K1243 (ninS (Ne.symm nb1207) nin0)).keep K1248 (ninS (Ne.symm nb1207) nin0)).keep K1253 (ninS (Ne.symm nb1207) nin0)).keep K1257 (ninS (Ne.symm nb1207) nin0))
  have q1264 := (((((((E1224.keep K1229).keep K1234).keep K1238).keep K1243).keep K1248).keep K1253).keep K1257)
  have q1265 := (((((((C1224.keep K1229 (ninS (Ne.symm nr1224) nin0)).keep K1234 (ninS (Ne.symm nr1224) nin0)).keep K1238 (ninS (Ne.symm nr1224) nin0)).keep K1243 (ninS (Ne.symm nr1224) nin0)).keep K1248 (ninS (Ne.symm nr1224) nin0)).keep K1253 (ninS (Ne.symm nr1224) nin0)).keep K1257 (ninS (Ne.symm nr1224) nin0))
  have q1266 := (((((((V1224.keep K1229 (ninS (Ne.symm nr1224) nin0)).keep K1234 (ninS (Ne.symm nr1224) nin0)).keep K1238 (ninS (Ne.symm nr1224) nin0)).keep K1243 (ninS (Ne.symm nr1224) nin0)).keep K1248 (ninS (Ne.symm nr1224) nin0)).keep K1253 (ninS (Ne.symm nr1224) nin0)).keep K1257 (ninS (Ne.symm nr1224) nin0))
  have q1267 := (((((((A1224.keep K1229 (ninS (Ne.symm nb1224) nin0)).keep K1234 (ninS (Ne.symm nb1224) nin0)).keep K1238 (ninS (Ne.symm nb1224) nin0)).keep K1243 (ninS (Ne.symm nb1224) nin0)).keep K1248 (ninS (Ne.symm nb1224) nin0)).keep K1253 (ninS (Ne.symm nb1224) nin0)).keep K1257 (ninS (Ne.symm nb1224) nin0))
  have q1268 := ((((((((((F1195.keep K1207 nin0).other W1212 (Or.inr (sne_148 hw))).keep K1224 nin0).other W1229 (Or.inr (sne_149 hw))).other W1234 (Or.inr (sne_150 hw))).other W1238 (Or.inr (sne_151 hw))).other W1243 (Or.inr (sne_152 hw))).other W1248 (Or.inr (sne_153 hw))).other W1253 (Or.inr (sne_154 hw))).other W1257 (Or.inr (sne_155 hw)))
  have q1269 := ((((((((F1212.keep K1224 nin0).other W1229 (Or.inr (sne_156 hw))).other W1234 (Or.inr (sne_157 hw))).other W1238 (Or.inr (sne_158 hw))).other W1243 (Or.inr (sne_159 hw))).other W1248 (Or.inr (sne_160 hw))).other W1253 (Or.inr (sne_161 hw))).other W1257 (Or.inr (sne_162 hw)))
  have q1270 := ((((((F1229.other W1234 (Or.inr (sne_163 hw))).other W1238 (Or.inr (sne_164 hw))).other W1243 (Or.inr (sne_165 hw))).other W1248 (Or.inr (sne_166 hw))).other W1253 (Or.inr (sne_167 hw))).other W1257 (Or.inr (sne_168 hw)))
  have q1271 := (((((F1234.other W1238 (Or.inr (sne_169 hw))).other W1243 (Or.inr (sne_170 hw))).other W1248 (Or.inr (sne_171 hw))).other W1253 (Or.inr (sne_172 hw))).other W1257 (Or.inr (sne_173 hw)))
  have q1272 := (((F1243.other W1248 (Or.inr (sne_174 hw))).other W1253 (Or.inr (sne_175 hw))).other W1257 (Or.inr (sne_176 hw)))
  have q1273 := ((F1248.other W1253 (Or.inr (sne_177 hw))).other W1257 (Or.inr (sne_178 hw)))
  have q1274 := (F1253.other W1257 (Or.inr (sne_179 hw)))
  exact W.return_ d_prog_109_method_1_70 rfl ⟨⟨rfl, kc1259, r1207, b1207, r1224, b1224, ⟨q1260, q1261, q1262, q1263⟩, ⟨q1264, q1265, q1266, q1267⟩, q1268, q1269, q1270, q1271, q1272, q1273, q1274⟩, rfl⟩ (by decide) (by decide)
theorem own_5 (x y : Int32) : ∃ f t : Nat, (x &&& 255) % 5 = f.toInt32 ∧ ¬ (5 : Int32) - f.toInt32 = 0 ∧ f.toInt32 + (y &&& 255) % ((5 : Int32) - f.toInt32) = t.toInt32 ∧ f ≤ t ∧ t ≤ 4 := by
  have h1 := c_mask x 255 8 (by decide) (by decide)
  have h2 := (c_irem (x &&& 255) 5 5 rfl).1 (by omega)
  have h3 := c_mask y 255 8 (by decide) (by decide)
  have hf : (((x &&& 255) % 5).toInt.toNat : Int) = ((x &&& 255) % 5).toInt := by omega
  generalize ((x &&& 255) % 5).toInt.toNat = f at hf
  have hf4 : f ≤ 4 := by omega
  have ef : (x &&& 255) % 5 = f.toInt32 := Int32.toInt_inj.mp (by rw [ki_int (by omega)]; exact hf.symm)
  have e5 : (5 : Int32) - f.toInt32 = (5 - f).toInt32 := ki_sub (t := 5) (by omega) (by decide)
  have h4 := (c_irem (y &&& 255) (5 - f).toInt32 ((5 - f : Nat) : Int) (ki_int (by omega))).1 (by omega)
  have h5 : 0 ≤ (y &&& 255).toInt % ((5 - f : Nat) : Int) ∧ (y &&& 255).toInt % ((5 - f : Nat) : Int) < ((5 - f : Nat) : Int) := ⟨Int.emod_nonneg _ (by omega), Int.emod_lt_of_pos _ (by omega)⟩
  refine ⟨f, f + ((y &&& 255) % (5 - f).toInt32).toInt.toNat, ef, by rw [e5]; exact ki_ne (n := 0) (by omega) (by omega) (by decide), ?_, by omega, by omega⟩
  rw [e5, ← ki_add]
  congr 1
  exact Int32.toInt_inj.mp (by rw [ki_int (by omega)]; omega)
theorem own_lc (x : Int64) : lcmpW x x = 0 := Int32.toInt_inj.mp (((c_lcmp x x).2.1 rfl).trans rfl)
theorem law_w (l : Launch) (Z : State) (a0 : Array Value) (hw : HwT Z a0) (p0 p1 p2 : Int32) (p3 p4 : Int64) (p5 : Int32) (f t g u : Nat) (r0 : RV) (kc : Int32) (hkc : ¬ kc = 0) (h : Heap) (n0 : Nat) (hn : n0 ≤ h.size) (FS : Sta Z h "java/lang/String" "COMPACT_STRINGS" "Z" (.int kc)) (SF : Sta Z h "jdk/internal/util/Preconditions" "SIOOBE_FORMATTER" "Ljava/util/function/BiFunction;" r0.1) (ef : (p1 &&& (255 : Int32)) % 5 = f.toInt32) (zf : ¬ (5 : Int32) - f.toInt32 = 0) (et : f.toInt32 + (((p1.toUInt32 >>> ((8 : Int32) &&& 31).toUInt32).toInt32) &&& (255 : Int32)) % ((5 : Int32) - f.toInt32) = t.toInt32) (eg : (((p1.toUInt32 >>> ((16 : Int32) &&& 31).toUInt32).toInt32) &&& (255 : Int32)) % 5 = g.toInt32) (zg : ¬ (5 : Int32) - g.toInt32 = 0) (eu : g.toInt32 + (((p1.toUInt32 >>> ((24 : Int32) &&& 31).toUInt32).toInt32) &&& (255 : Int32)) % ((5 : Int32) - g.toInt32) = u.toInt32) (hft : f ≤ t) (htn : t ≤ 4) (hgu : g ≤ u) (hun : u ≤ 4) : ConX Z consts_1 [] tables_1 l x code maxLocals ret room_1 #[(.int p0), (.int p1), (.int p2), (.long p3), (.long p4), (.int p5)] h n0 (fun v _ => v = some (.int 1)) := by
  refine ConX.of_W (Ls := #[.val (.int p0), .val (.int p1), .val (.int p2), .val (.long p3), .second, .val (.long p4), .second, .val (.int p5), .unset, .unset, .unset, .unset, .unset, .unset, .unset, .unset, .unset, .unset, .unset]) (plainFor_of_name pn_6) hn (fun m => by first | (simp [entryFrame, mkF, argsToLocals, Value.category, maxLocals]; done) | rfl) ?_
  have hv0 := HV.here (Z := Z) (EL := consts_1) (h := h) (S := [])
  refine W.iconst 1 at_0 rfl (4 : Int32) rfl ?_
  refine W.newarray 3 at_1 rfl (wd_0 hw) rfl (by decide) 4 4 (by decide) (by decide) (by decide) (by decide) (by decide) rfl ?_
  intro h1275 b1275 g1275 ge1275 X1275 K1275 A1275
  have hv1276 := HV.new hv0 K1275 all0 (Nat.le_of_eq g1275.symm)
  have A1275 : Ary _ _ b1275 .char [(.int (0 : Int32)), (.int (0 : Int32)), (.int (0 : Int32)), (.int (0 : Int32))] := A1275
  show WG _ _ _ _ _ _ _ _ _ _ _ _ 1 4 3 #[.val (.int p0), .val (.int p1), .val (.int p2), .val (.long p3), .second, .val (.long p4), .second, .val (.int p5), .unset, .unset, .unset, .unset, .unset, .unset, .unset, .unset, .unset, .unset, .unset] [(.ref b1275)]
  refine W.astore 5 at_3 rfl rfl #[.val (.int p0), .val (.int p1), .val (.int p2), .val (.long p3), .second, .val (.long p4), .second, .val (.int p5), .val (.ref b1275), .unset, .unset, .unset, .unset, .unset, .unset, .unset, .unset, .unset, .unset] rfl ?_
  refine W.aload 7 at_5 rfl rfl rfl ?_
  refine W.iconst 8 at_7 rfl (0 : Int32) rfl ?_
  refine W.iloadN 9 at_8 rfl rfl ?_
  refine W.sipush 12 at_9 rfl (255 : Int32) rfl ?_
  refine W.iand 13 at_12 rfl (p0 &&& (255 : Int32)) rfl ?_
  refine W.i2c 14 at_13 rfl (p0 &&& (255 : Int32)) (ch_nar (own_m _)) ?_
  refine W.castore 15 at_14 rfl A1275 0 (by decide) (by decide) (Nat.le_of_ble_eq_true rfl) (p0 &&& (255 : Int32)) (ch_nar (own_m p0)) ge1275 ?_
  intro h1277 W1277 K1277 A1277
  have hv1278 := HV.keep hv1276 K1277 (allS (List.mem_of_getElem? (i := 0) rfl) all0)
  have A1277 : Ary _ _ b1275 .char [(.int (p0 &&& (255 : Int32))), (.int (0 : Int32)), (.int (0 : Int32)), (.int (0 : Int32))] := A1277
  refine W.aload 17 at_15 rfl rfl rfl ?_
  refine W.iconst 18 at_17 rfl (1 : Int32) rfl ?_
  refine W.iloadN 19 at_18 rfl rfl ?_
  refine W.bipush 21 at_19 rfl (8 : Int32) rfl ?_
  refine W.iushr 22 at_21 rfl ((p0.toUInt32 >>> ((8 : Int32) &&& 31).toUInt32).toInt32) rfl ?_
  refine W.sipush 25 at_22 rfl (255 : Int32) rfl ?_
  refine W.iand 26 at_25 rfl (((p0.toUInt32 >>> ((8 : Int32) &&& 31).toUInt32).toInt32) &&& (255 : Int32)) rfl ?_
  refine W.i2c 27 at_26 rfl (((p0.toUInt32 >>> ((8 : Int32) &&& 31).toUInt32).toInt32) &&& (255 : Int32)) (ch_nar (own_m _)) ?_
  refine W.castore 28 at_27 rfl A1277 1 (by decide) (by decide) (Nat.le_of_ble_eq_true rfl) (((p0.toUInt32 >>> ((8 : Int32) &&& 31).toUInt32).toInt32) &&& (255 : Int32)) (ch_nar (own_m ((p0.toUInt32 >>> ((8 : Int32) &&& 31).toUInt32).toInt32))) ge1275 ?_
  intro h1279 W1279 K1279 A1279
  have hv1280 := HV.keep hv1278 K1279 (allS (List.mem_of_getElem? (i := 0) rfl) all0)
  have A1279 : Ary _ _ b1275 .char [(.int (p0 &&& (255 : Int32))), (.int (((p0.toUInt32 >>> ((8 : Int32) &&& 31).toUInt32).toInt32) &&& (255 : Int32))), (.int (0 : Int32)), (.int (0 : Int32))] := A1279
  refine W.aload 30 at_28 rfl rfl rfl ?_
  refine W.iconst 31 at_30 rfl (2 : Int32) rfl ?_
  refine W.iloadN 32 at_31 rfl rfl ?_
  refine W.bipush 34 at_32 rfl (16 : Int32) rfl ?_
  refine W.iushr 35 at_34 rfl ((p0.toUInt32 >>> ((16 : Int32) &&& 31).toUInt32).toInt32) rfl ?_
  refine W.sipush 38 at_35 rfl (255 : Int32) rfl ?_
  refine W.iand 39 at_38 rfl (((p0.toUInt32 >>> ((16 : Int32) &&& 31).toUInt32).toInt32) &&& (255 : Int32)) rfl ?_
  refine W.i2c 40 at_39 rfl (((p0.toUInt32 >>> ((16 : Int32) &&& 31).toUInt32).toInt32) &&& (255 : Int32)) (ch_nar (own_m _)) ?_
  refine W.castore 41 at_40 rfl A1279 2 (by decide) (by decide) (Nat.le_of_ble_eq_true rfl) (((p0.toUInt32 >>> ((16 : Int32) &&& 31).toUInt32).toInt32) &&& (255 : Int32)) (ch_nar (own_m ((p0.toUInt32 >>> ((16 : Int32) &&& 31).toUInt32).toInt32))) ge1275 ?_
  intro h1281 W1281 K1281 A1281
  have hv1282 := HV.keep hv1280 K1281 (allS (List.mem_of_getElem? (i := 0) rfl) all0)
  have A1281 : Ary _ _ b1275 .char [(.int (p0 &&& (255 : Int32))), (.int (((p0.toUInt32 >>> ((8 : Int32) &&& 31).toUInt32).toInt32) &&& (255 : Int32))), (.int (((p0.toUInt32 >>> ((16 : Int32) &&& 31).toUInt32).toInt32) &&& (255 : Int32))), (.int (0 : Int32))] := A1281
  refine W.aload 43 at_41 rfl rfl rfl ?_
  refine W.iconst 44 at_43 rfl (3 : Int32) rfl ?_
  refine W.iloadN 45 at_44 rfl rfl ?_
  refine W.bipush 47 at_45 rfl (24 : Int32) rfl ?_
  refine W.iushr 48 at_47 rfl ((p0.toUInt32 >>> ((24 : Int32) &&& 31).toUInt32).toInt32) rfl ?_
  refine W.sipush 51 at_48 rfl (255 : Int32) rfl ?_
  refine W.iand 52 at_51 rfl (((p0.toUInt32 >>> ((24 : Int32) &&& 31).toUInt32).toInt32) &&& (255 : Int32)) rfl ?_
  refine W.i2c 53 at_52 rfl (((p0.toUInt32 >>> ((24 : Int32) &&& 31).toUInt32).toInt32) &&& (255 : Int32)) (ch_nar (own_m _)) ?_
  refine W.castore 54 at_53 rfl A1281 3 (by decide) (by decide) (Nat.le_of_ble_eq_true rfl) (((p0.toUInt32 >>> ((24 : Int32) &&& 31).toUInt32).toInt32) &&& (255 : Int32)) (ch_nar (own_m ((p0.toUInt32 >>> ((24 : Int32) &&& 31).toUInt32).toInt32))) ge1275 ?_
  intro h1283 W1283 K1283 A1283
  have hv1284 := HV.keep hv1282 K1283 (allS (List.mem_of_getElem? (i := 0) rfl) all0)
  have A1283 : Ary _ _ b1275 .char [(.int (p0 &&& (255 : Int32))), (.int (((p0.toUInt32 >>> ((8 : Int32) &&& 31).toUInt32).toInt32) &&& (255 : Int32))), (.int (((p0.toUInt32 >>> ((16 : Int32) &&& 31).toUInt32).toInt32) &&& (255 : Int32))), (.int (((p0.toUInt32 >>> ((24 : Int32) &&& 31).toUInt32).toInt32) &&& (255 : Int32)))] := A1283
  refine W.new 57 at_54 rfl (wd_1 hw) (wd_2 hw) (wd_3 hw) (by decide) (by decide) ?_
  intro h1285 o1285 g1285 ge1285 X1285 K1285 E1285 D1285
  have ne1286 : b1275 ≠ o1285 := Nat.ne_of_lt (Nat.lt_of_lt_of_eq A1283.lt g1285.symm)
  have hv1287 := HV.new hv1284 K1285 all0 (Nat.le_of_eq g1285.symm)
  have f1288 : Fld _ _ o1285 "java/lang/String" "coder" "B" (.int (0 : Int32)) := D1285 (Or.inr (wd_27 hw)) (ty := .byte) (by decide)
  have f1289 : Fld _ _ o1285 "java/lang/String" "value" "[B" .null := D1285 (Or.inr (wd_29 hw)) (ty := (.array .byte)) (by decide)
  show WG _ _ _ _ _ _ _ _ _ _ _ _ 2 8 57 #[.val (.int p0), .val (.int p1), .val (.int p2), .val (.long p3), .second, .val (.long p4), .second, .val (.int p5), .val (.ref b1275), .unset, .unset, .unset, .unset, .unset, .unset, .unset, .unset, .unset, .unset] [(.ref o1285)]
  refine W.dup 58 at_57 rfl rfl ?_
  refine W.aload 60 at_58 rfl rfl rfl ?_
  have q1290 := (A1283.keep K1285 nin0)
  have q1291 := (Sta.ext X1285 (Sta.wr W1283 (Sta.wr W1281 (Sta.wr W1279 (Sta.wr W1277 (Sta.ext X1275 FS))))))
  refine W.callInit (rest := [(.ref o1285)]) (argsL := [(.ref b1275)]) (a := o1285) 63 at_60 rfl (fun hn => c_i1g l Z a0 hw o1285 b1275 kc hkc [(p0 &&& (255 : Int32)), (((p0.toUInt32 >>> ((8 : Int32) &&& 31).toUInt32).toInt32) &&& (255 : Int32)), (((p0.toUInt32 >>> ((16 : Int32) &&& 31).toUInt32).toInt32) &&& (255 : Int32)), (((p0.toUInt32 >>> ((24 : Int32) &&& 31).toUInt32).toInt32) &&& (255 : Int32))] _ n0 hn (Ne.symm ne1286) ge1285 (chC (own_m p0) (chC (own_m ((p0.toUInt32 >>> ((8 : Int32) &&& 31).toUInt32).toInt32)) (chC (own_m ((p0.toUInt32 >>> ((16 : Int32) &&& 31).toUInt32).toInt32)) (chC (own_m ((p0.toUInt32 >>> ((24 : Int32) &&& 31).toUInt32).toInt32)) chN)))) (Nat.le_of_ble_eq_true rfl) (show ¬ (4 : Nat).toInt32 = 0 by decide) q1291 E1285 f1288 f1289 q1290) rfl (wd_4 hw) (wd_5 hw) (wd_3 hw) (wd_6 hw) (by decide) pd_21 rfl rfl rfl (by decide) 1 (Nat.le_of_ble_eq_true rfl) (by decide) (by decide) (by decide) ?_
  rintro v1292 h1292 ⟨rfl, K1292, b1292, C1292, V1292, A1292⟩
  have hv1293 := HV.keep hv1287 K1292 (allS (List.mem_of_getElem? (i := 0) rfl) all0)
  show WG _ _ _ _ _ _ _ _ _ _ _ _ 3 24 63 #[.val (.int p0), .val (.int p1), .val (.int p2), .val (.long p3), .second, .val (.long p4), .second, .val (.int p5), .val (.ref b1275), .unset, .unset, .unset, .unset, .unset, .unset, .unset, .unset, .unset, .unset] [(.ref o1285)]
  refine W.astore 65 at_63 rfl rfl #[.val (.int p0), .val (.int p1), .val (.int p2), .val (.long p3), .second, .val (.long p4), .second, .val (.int p5), .val (.ref b1275), .val (.ref o1285), .unset, .unset, .unset, .unset, .unset, .unset, .unset, .unset, .unset] rfl ?_
  refine W.iloadN 66 at_65 rfl rfl ?_
  refine W.sipush 69 at_66 rfl (255 : Int32) rfl ?_
  refine W.iand 70 at_69 rfl (p1 &&& (255 : Int32)) rfl ?_
  refine W.iconst 71 at_70 rfl (5 : Int32) rfl ?_
  refine W.irem 72 at_71 rfl (by decide) f.toInt32 ef ?_
  refine W.istore 74 at_72 rfl #[.val (.int p0), .val (.int p1), .val (.int p2), .val (.long p3), .second, .val (.long p4), .second, .val (.int p5), .val (.ref b1275), .val (.ref o1285), .val (.int f.toInt32), .unset, .unset, .unset, .unset, .unset, .unset, .unset, .unset] rfl ?_
  refine W.iload 76 at_74 rfl rfl ?_
  refine W.iloadN 77 at_76 rfl rfl ?_
  refine W.bipush 79 at_77 rfl (8 : Int32) rfl ?_
  refine W.iushr 80 at_79 rfl ((p1.toUInt32 >>> ((8 : Int32) &&& 31).toUInt32).toInt32) rfl ?_
  refine W.sipush 83 at_80 rfl (255 : Int32) rfl ?_
  refine W.iand 84 at_83 rfl (((p1.toUInt32 >>> ((8 : Int32) &&& 31).toUInt32).toInt32) &&& (255 : Int32)) rfl ?_
  refine W.iconst 85 at_84 rfl (5 : Int32) rfl ?_
  refine W.iload 87 at_85 rfl rfl ?_
  refine W.isub 88 at_87 rfl ((5 : Int32) - f.toInt32) rfl ?_
  refine W.irem 89 at_88 rfl zf ((((p1.toUInt32 >>> ((8 : Int32) &&& 31).toUInt32).toInt32) &&& (255 : Int32)) % ((5 : Int32) - f.toInt32)) rfl ?_
  refine W.iadd 90 at_89 rfl t.toInt32 et ?_
  refine W.istore 92 at_90 rfl #[.val (.int p0), .val (.int p1), .val (.int p2), .val (.long p3), .second, .val (.long p4), .second, .val (.int p5), .val (.ref b1275), .val (.ref o1285), .val (.int f.toInt32), .val (.int t.toInt32), .unset, .unset, .unset, .unset, .unset, .unset, .unset] rfl ?_
  refine W.iloadN 93 at_92 rfl rfl ?_
  refine W.bipush 95 at_93 rfl (16 : Int32) rfl ?_
  refine W.iushr 96 at_95 rfl ((p1.toUInt32 >>> ((16 : Int32) &&& 31).toUInt32).toInt32) rfl ?_
  refine W.sipush 99 at_96 rfl (255 : Int32) rfl ?_
  refine W.iand 100 at_99 rfl (((p1.toUInt32 >>> ((16 : Int32) &&& 31).toUInt32).toInt32) &&& (255 : Int32)) rfl ?_
  refine W.iconst 101 at_100 rfl (5 : Int32) rfl ?_
  refine W.irem 102 at_101 rfl (by decide) g.toInt32 eg ?_
  refine W.istore 104 at_102 rfl #[.val (.int p0), .val (.int p1), .val (.int p2), .val (.long p3), .second, .val (.long p4), .second, .val (.int p5), .val (.ref b1275), .val (.ref o1285), .val (.int f.toInt32), .val (.int t.toInt32), .val (.int g.toInt32), .unset, .unset, .unset, .unset, .unset, .unset] rfl ?_
  refine W.iload 106 at_104 rfl rfl ?_
  refine W.iloadN 107 at_106 rfl rfl ?_
  refine W.bipush 109 at_107 rfl (24 : Int32) rfl ?_
  refine W.iushr 110 at_109 rfl ((p1.toUInt32 >>> ((24 : Int32) &&& 31).toUInt32).toInt32) rfl ?_
  refine W.sipush 113 at_110 rfl (255 : Int32) rfl ?_
  refine W.iand 114 at_113 rfl (((p1.toUInt32 >>> ((24 : Int32) &&& 31).toUInt32).toInt32) &&& (255 : Int32)) rfl ?_
  refine W.iconst 115 at_114 rfl (5 : Int32) rfl ?_
  refine W.iload 117 at_115 rfl rfl ?_
  refine W.isub 118 at_117 rfl ((5 : Int32) - g.toInt32) rfl ?_
  refine W.irem 119 at_118 rfl zg ((((p1.toUInt32 >>> ((24 : Int32) &&& 31).toUInt32).toInt32) &&& (255 : Int32)) % ((5 : Int32) - g.toInt32)) rfl ?_
  refine W.iadd 120 at_119 rfl u.toInt32 eu ?_
  refine W.istore 122 at_120 rfl #[.val (.int p0), .val (.int p1), .val (.int p2), .val (.long p3), .second, .val (.long p4), .second, .val (.int p5), .val (.ref b1275), .val (.ref o1285), .val (.int f.toInt32), .val (.int t.toInt32), .val (.int g.toInt32), .val (.int u.toInt32), .unset, .unset, .unset, .unset, .unset] rfl ?_
  refine W.iload 124 at_122 rfl rfl ?_
  refine W.sipush 127 at_124 rfl (255 : Int32) rfl ?_
  refine W.iand 128 at_127 rfl (p5 &&& (255 : Int32)) rfl ?_
  refine W.i2c 129 at_128 rfl (p5 &&& (255 : Int32)) (ch_nar (own_m _)) ?_
  have q1294 := (Sta.keepN K1292 (allS E1285.nostat all0) q1291)
  refine W.callS (rest := []) (argsL := [(.int (p5 &&& (255 : Int32)))]) 132 at_129 rfl (fun hn => c_vo l Z a0 hw (p5 &&& (255 : Int32)) kc hkc _ n0 hn (own_m p5) q1294) (wd_30 hw) (wd_31 hw) (wd_3 hw) (wd_32 hw) (by decide) pd_22 rfl rfl rfl (by decide) 0 (Nat.le_of_ble_eq_true rfl) (by decide) (by decide) (by decide) ?_
  rintro v1295 h1295 ⟨r1295, b1295, rfl, K1295, E1295, C1295, V1295, A1295⟩
  have hv1296 := HV.keep hv1293 K1295 all0
  show WG _ _ _ _ _ _ _ _ _ _ _ _ 5 29 132 #[.val (.int p0), .val (.int p1), .val (.int p2), .val (.long p3), .second, .val (.long p4), .second, .val (.int p5), .val (.ref b1275), .val (.ref o1285), .val (.int f.toInt32), .val (.int t.toInt32), .val (.int g.toInt32), .val (.int u.toInt32), .unset, .unset, .unset, .unset, .unset] [(.ref r1295)]
  refine W.astore 134 at_132 rfl rfl #[.val (.int p0), .val (.int p1), .val (.int p2), .val (.long p3), .second, .val (.long p4), .second, .val (.int p5), .val (.ref b1275), .val (.ref o1285), .val (.int f.toInt32), .val (.int t.toInt32), .val (.int g.toInt32), .val (.int u.toInt32), .val (.ref r1295), .unset, .unset, .unset, .unset] rfl ?_
  refine W.iload 136 at_134 rfl rfl ?_
  refine W.bipush 138 at_136 rfl (8 : Int32) rfl ?_
  refine W.iushr 139 at_138 rfl ((p5.toUInt32 >>> ((8 : Int32) &&& 31).toUInt32).toInt32) rfl ?_
  refine W.sipush 142 at_139 rfl (255 : Int32) rfl ?_
  refine W.iand 143 at_142 rfl (((p5.toUInt32 >>> ((8 : Int32) &&& 31).toUInt32).toInt32) &&& (255 : Int32)) rfl ?_
  refine W.i2c 144 at_143 rfl (((p5.toUInt32 >>> ((8 : Int32) &&& 31).toUInt32).toInt32) &&& (255 : Int32)) (ch_nar (own_m _)) ?_
  have q1297 := (Sta.keepN K1295 all0 q1294)
  refine W.callS (rest := []) (argsL := [(.int (((p5.toUInt32 >>> ((8 : Int32) &&& 31).toUInt32).toInt32) &&& (255 : Int32)))]) 147 at_144 rfl (fun hn => c_vo l Z a0 hw (((p5.toUInt32 >>> ((8 : Int32) &&& 31).toUInt32).toInt32) &&& (255 : Int32)) kc hkc _ n0 hn (own_m ((p5.toUInt32 >>> ((8 : Int32) &&& 31).toUInt32).toInt32)) q1297) (wd_30 hw) (wd_31 hw) (wd_3 hw) (wd_32 hw) (by decide) pd_22 rfl rfl rfl (by decide) 0 (Nat.le_of_ble_eq_true rfl) (by decide) (by decide) (by decide) ?_
  rintro v1298 h1298 ⟨r1298, b1298, rfl, K1298, E1298, C1298, V1298, A1298⟩
  have hv1299 := HV.keep hv1296 K1298 all0
  show WG _ _ _ _ _ _ _ _ _ _ _ _ 7 34 147 #[.val (.int p0), .val (.int p1), .val (.int p2), .val (.long p3), .second, .val (.long p4), .second, .val (.int p5), .val (.ref b1275), .val (.ref o1285), .val (.int f.toInt32), .val (.int t.toInt32), .val (.int g.toInt32), .val (.int u.toInt32), .val (.ref r1295), .unset, .unset, .unset, .unset] [(.ref r1298)]
  refine W.astore 149 at_147 rfl rfl #[.val (.int p0), .val (.int p1), .val (.int p2), .val (.long p3), .second, .val (.long p4), .second, .val (.int p5), .val (.ref b1275), .val (.ref o1285), .val (.int f.toInt32), .val (.int t.toInt32), .val (.int g.toInt32), .val (.int u.toInt32), .val (.ref r1295), .val (.ref r1298), .unset, .unset, .unset] rfl ?_
  refine W.iload 151 at_149 rfl rfl ?_
  refine W.bipush 153 at_151 rfl (16 : Int32) rfl ?_
  refine W.iushr 154 at_153 rfl ((p5.toUInt32 >>> ((16 : Int32) &&& 31).toUInt32).toInt32) rfl ?_
  refine W.sipush 157 at_154 rfl (255 : Int32) rfl ?_
  refine W.iand 158 at_157 rfl (((p5.toUInt32 >>> ((16 : Int32) &&& 31).toUInt32).toInt32) &&& (255 : Int32)) rfl ?_
  refine W.i2c 159 at_158 rfl (((p5.toUInt32 >>> ((16 : Int32) &&& 31).toUInt32).toInt32) &&& (255 : Int32)) (ch_nar (own_m _)) ?_
  have q1300 := (Sta.keepN K1298 all0 q1297)
  refine W.callS (rest := []) (argsL := [(.int (((p5.toUInt32 >>> ((16 : Int32) &&& 31).toUInt32).toInt32) &&& (255 : Int32)))]) 162 at_159 rfl (fun hn => c_vo l Z a0 hw (((p5.toUInt32 >>> ((16 : Int32) &&& 31).toUInt32).toInt32) &&& (255 : Int32)) kc hkc _ n0 hn (own_m ((p5.toUInt32 >>> ((16 : Int32) &&& 31).toUInt32).toInt32)) q1300) (wd_30 hw) (wd_31 hw) (wd_3 hw) (wd_32 hw) (by decide) pd_22 rfl rfl rfl (by decide) 0 (Nat.le_of_ble_eq_true rfl) (by decide) (by decide) (by decide) ?_
  rintro v1301 h1301 ⟨r1301, b1301, rfl, K1301, E1301, C1301, V1301, A1301⟩
  have hv1302 := HV.keep hv1299 K1301 all0
  show WG _ _ _ _ _ _ _ _ _ _ _ _ 9 39 162 #[.val (.int p0), .val (.int p1), .val (.int p2), .val (.long p3), .second, .val (.long p4), .second, .val (.int p5), .val (.ref b1275), .val (.ref o1285), .val (.int f.toInt32), .val (.int t.toInt32), .val (.int g.toInt32), .val (.int u.toInt32), .val (.ref r1295), .val (.ref r1298), .unset, .unset, .unset] [(.ref r1301)]
  refine W.astore 164 at_162 rfl rfl #[.val (.int p0), .val (.int p1), .val (.int p2), .val (.long p3), .second, .val (.long p4), .second, .val (.int p5), .val (.ref b1275), .val (.ref o1285), .val (.int f.toInt32), .val (.int t.toInt32), .val (.int g.toInt32), .val (.int u.toInt32), .val (.ref r1295), .val (.ref r1298), .val (.ref r1301), .unset, .unset] rfl ?_
  refine W.new 167 at_164 rfl (wd_44 hw) (wd_45 hw) (wd_46 hw) (by decide) (by decide) ?_
  intro h1303 o1303 g1303 ge1303 X1303 K1303 E1303 D1303
  have q1304 := ((((q1290.keep K1292 (ninS ne1286 nin0)).keep K1295 nin0).keep K1298 nin0).keep K1301 nin0)
  have ne1305 : b1275 ≠ o1303 := Nat.ne_of_lt (Nat.lt_of_lt_of_eq q1304.lt g1303.symm)
  have q1306 := (((A1292.keep K1295 nin0).keep K1298 nin0).keep K1301 nin0)
  have ne1307 : b1292 ≠ o1303 := Nat.ne_of_lt (Nat.lt_of_lt_of_eq q1306.lt g1303.symm)
  have q1308 := ((A1295.keep K1298 nin0).keep K1301 nin0)
  have ne1309 : b1295 ≠ o1303 := Nat.ne_of_lt (Nat.lt_of_lt_of_eq q1308.lt g1303.symm)
  have q1310 := (A1298.keep K1301 nin0)
  have ne1311 : b1298 ≠ o1303 := Nat.ne_of_lt (Nat.lt_of_lt_of_eq q1310.lt g1303.symm)
  have ne1312 : b1301 ≠ o1303 := Nat.ne_of_lt (Nat.lt_of_lt_of_eq A1301.lt g1303.symm)
  have q1313 := ((((E1285.keep K1292).keep K1295).keep K1298).keep K1301)
  have ne1314 : o1285 ≠ o1303 := Nat.ne_of_lt (Nat.lt_of_lt_of_eq q1313.lt g1303.symm)
  have q1315 := ((E1295.keep K1298).keep K1301)
  have ne1316 : r1295 ≠ o1303 := Nat.ne_of_lt (Nat.lt_of_lt_of_eq q1315.lt g1303.symm)
  have q1317 := (E1298.keep K1301)
  have ne1318 : r1298 ≠ o1303 := Nat.ne_of_lt (Nat.lt_of_lt_of_eq q1317.lt g1303.symm)
  have ne1319 : r1301 ≠ o1303 := Nat.ne_of_lt (Nat.lt_of_lt_of_eq E1301.lt g1303.symm)
  have hv1320 := HV.new hv1302 K1303 all0 (Nat.le_of_eq g1303.symm)
  have f1321 : Fld _ _ o1303 "com/example/tallymark/tallymark/SnapshotJoin$HoldingLine" "text" "Ljava/lang/String;" .null := D1303 (Or.inl (wd_62 hw)) (ty := (.object "java/lang/String")) (by decide)
  have f1322 : Fld _ _ o1303 "com/example/tallymark/tallymark/SnapshotJoin$HoldingLine" "userFrom" "I" (.int (0 : Int32)) := D1303 (Or.inl (wd_64 hw)) (ty := .int) (by decide)
  have f1323 : Fld _ _ o1303 "com/example/tallymark/tallymark/SnapshotJoin$HoldingLine" "userTo" "I" (.int (0 : Int32)) := D1303 (Or.inl (wd_66 hw)) (ty := .int) (by decide)
  have f1324 : Fld _ _ o1303 "com/example/tallymark/tallymark/SnapshotJoin$HoldingLine" "hostFrom" "I" (.int (0 : Int32)) := D1303 (Or.inl (wd_68 hw)) (ty := .int) (by decide)
  have f1325 : Fld _ _ o1303 "com/example/tallymark/tallymark/SnapshotJoin$HoldingLine" "hostTo" "I" (.int (0 : Int32)) := D1303 (Or.inl (wd_70 hw)) (ty := .int) (by decide)
  have f1326 : Fld _ _ o1303 "com/example/tallymark/tallymark/SnapshotJoin$HoldingLine" "key" "Ljava/lang/String;" .null := D1303 (Or.inl (wd_72 hw)) (ty := (.object "java/lang/String")) (by decide)
  have f1327 : Fld _ _ o1303 "com/example/tallymark/tallymark/SnapshotJoin$HoldingLine" "feature" "Ljava/lang/String;" .null := D1303 (Or.inl (wd_74 hw)) (ty := (.object "java/lang/String")) (by decide)
  have f1328 : Fld _ _ o1303 "com/example/tallymark/tallymark/SnapshotJoin$HoldingLine" "server" "Ljava/lang/String;" .null := D1303 (Or.inl (wd_76 hw)) (ty := (.object "java/lang/String")) (by decide)
  have f1329 : Fld _ _ o1303 "com/example/tallymark/tallymark/SnapshotJoin$HoldingLine" "line" "J" (.long (0 : Int64)) := D1303 (Or.inl (wd_78 hw)) (ty := .long) (by decide)
  have f1330 : Fld _ _ o1303 "com/example/tallymark/tallymark/SnapshotJoin$HoldingLine" "licences" "I" (.int (0 : Int32)) := D1303 (Or.inl (wd_80 hw)) (ty := .int) (by decide)
  have f1331 : Fld _ _ o1303 "com/example/tallymark/tallymark/SnapshotJoin$HoldingLine" "start" "J" (.long (0 : Int64)) := D1303 (Or.inl (wd_82 hw)) (ty := .long) (by decide)
  show WG _ _ _ _ _ _ _ _ _ _ _ _ 10 50 167 #[.val (.int p0), .val (.int p1), .val (.int p2), .val (.long p3), .second, .val (.long p4), .second, .val (.int p5), .val (.ref b1275), .val (.ref o1285), .val (.int f.toInt32), .val (.int t.toInt32), .val (.int g.toInt32), .val (.int u.toInt32), .val (.ref r1295), .val (.ref r1298), .val (.ref r1301), .unset, .unset] [(.ref o1303)]
  refine W.dup 168 at_167 rfl rfl ?_
  refine W.callInit (rest := [(.ref o1303)]) (argsL := []) (a := o1303) 171 at_168 rfl (fun hn => c_hli l Z a0 hw o1303 _ n0 hn) rfl (wd_47 hw) (wd_48 hw) (wd_46 hw) (wd_49 hw) (by decide) pd_23 rfl rfl rfl (by decide) 1 (Nat.le_of_ble_eq_true rfl) (by decide) (by decide) (by decide) ?_
  rintro v1332 h1332 ⟨rfl, rfl⟩
  show WG _ _ _ _ _ _ _ _ _ _ _ _ 10 50 171 #[.val (.int p0), .val (.int p1), .val (.int p2), .val (.long p3), .second, .val (.long p4), .second, .val (.int p5), .val (.ref b1275), .val (.ref o1285), .val (.int f.toInt32), .val (.int t.toInt32), .val (.int g.toInt32), .val (.int u.toInt32), .val (.ref r1295), .val (.ref r1298), .val (.ref r1301), .unset, .unset] [(.ref o1303)]
  refine W.astore 173 at_171 rfl rfl #[.val (.int p0), .val (.int p1), .val (.int p2), .val (.long p3), .second, .val (.long p4), .second, .val (.int p5), .val (.ref b1275), .val (.ref o1285), .val (.int f.toInt32), .val (.int t.toInt32), .val (.int g.toInt32), .val (.int u.toInt32), .val (.ref r1295), .val (.ref r1298), .val (.ref r1301), .val (.ref o1303), .unset] rfl ?_
  refine W.aload 175 at_173 rfl rfl rfl ?_
  have q1334 := (q1313.keep K1303)
  have q1335 := (q1304.keep K1303 nin0)
  refine W.ldcX 177 at_175 rfl (wd_51 hw) (own_wS hw) (own_EL hw) (List.mem_of_getElem? (i := 0) rfl) hv1320 (allS E1303.lt (allS q1334.lt (allS q1335.lt all0))) [(.int (113 : Int32)), (.int (114 : Int32))] ⟨by decide, rfl⟩ (by decide) 8 (by decide) (by decide) (by decide) (by decide) ?_
  intro h1333 la1333 lb1333 X1333 K1333 E1333 C1333 V1333 A1333 N1333
  have hv1333 := HV.here (Z := Z) (EL := consts_1) (h := h1333) (S := [o1303, o1285, b1275])
  show WG _ _ _ _ _ _ _ _ _ _ _ _ 12 62 177 #[.val (.int p0), .val (.int p1), .val (.int p2), .val (.long p3), .second, .val (.long p4), .second, .val (.int p5), .val (.ref b1275), .val (.ref o1285), .val (.int f.toInt32), .val (.int t.toInt32), .val (.int g.toInt32), .val (.int u.toInt32), .val (.ref r1295), .val (.ref r1298), .val (.ref r1301), .val (.ref o1303), .unset] [(.ref la1333), (.ref o1303)]
  refine W.iconst 178 at_177 rfl (0 : Int32) rfl ?_
  refine W.iconst 179 at_178 rfl (1 : Int32) rfl ?_
  refine W.iconst 180 at_179 rfl (1 : Int32) rfl ?_
  refine W.iconst 181 at_180 rfl (2 : Int32) rfl ?_
  have q1337 := (E1303.keep K1333)
  have q1338 := (q1334.keep K1333)
  have q1339 := (q1335.keep K1333 nin0)
  refine W.ldcX 183 at_181 rfl (wd_54 hw) (own_wS hw) (own_EL hw) (List.mem_of_getElem? (i := 1) rfl) hv1333 (allS q1337.lt (allS q1338.lt (allS q1339.lt all0))) [] ⟨by decide, rfl⟩ (by decide) 0 (by decide) (by decide) (by decide) (by decide) ?_
  intro h1336 la1336 lb1336 X1336 K1336 E1336 C1336 V1336 A1336 N1336
  have hv1336 := HV.here (Z := Z) (EL := consts_1) (h := h1336) (S := [o1303, o1285, b1275])
  show WG _ _ _ _ _ _ _ _ _ _ _ _ 14 66 183 #[.val (.int p0), .val (.int p1), .val (.int p2), .val (.long p3), .second, .val (.long p4), .second, .val (.int p5), .val (.ref b1275), .val (.ref o1285), .val (.int f.toInt32), .val (.int t.toInt32), .val (.int g.toInt32), .val (.int u.toInt32), .val (.ref r1295), .val (.ref r1298), .val (.ref r1301), .val (.ref o1303), .unset] [(.ref la1336), (.int (2 : Int32)), (.int (1 : Int32)), (.int (1 : Int32)), (.int (0 : Int32)), (.ref la1333), (.ref o1303)]
  have q1341 := (q1337.keep K1336)
  have q1342 := (q1338.keep K1336)
  have q1343 := (q1339.keep K1336 nin0)
  refine W.ldcX 185 at_183 rfl (wd_54 hw) (own_wS hw) (own_EL hw) (List.mem_of_getElem? (i := 1) rfl) hv1336 (allS q1341.lt (allS q1342.lt (allS q1343.lt all0))) [] ⟨by decide, rfl⟩ (by decide) 0 (by decide) (by decide) (by decide) (by decide) ?_
  intro h1340 la1340 lb1340 X1340 K1340 E1340 C1340 V1340 A1340 N1340
  have hv1340 := HV.here (Z := Z) (EL := consts_1) (h := h1340) (S := [o1303, o1285, b1275])
  show WG _ _ _ _ _ _ _ _ _ _ _ _ 16 70 185 #[.val (.int p0), .val (.int p1), .val (.int p2), .val (.long p3), .second, .val (.long p4), .second, .val (.int p5), .val (.ref b1275), .val (.ref o1285), .val (.int f.toInt32), .val (.int t.toInt32), .val (.int g.toInt32), .val (.int u.toInt32), .val (.ref r1295), .val (.ref r1298), .val (.ref r1301), .val (.ref o1303), .unset] [(.ref la1340), (.ref la1336), (.int (2 : Int32)), (.int (1 : Int32)), (.int (1 : Int32)), (.int (0 : Int32)), (.ref la1333), (.ref o1303)]
  have q1345 := (q1341.keep K1340)
  have q1346 := (q1342.keep K1340)
  have q1347 := (q1343.keep K1340 nin0)
  refine W.ldcX 187 at_185 rfl (wd_54 hw) (own_wS hw) (own_EL hw) (List.mem_of_getElem? (i := 1) rfl) hv1340 (allS q1345.lt (allS q1346.lt (allS q1347.lt all0))) [] ⟨by decide, rfl⟩ (by decide) 0 (by decide) (by decide) (by decide) (by decide) ?_
  intro h1344 la1344 lb1344 X1344 K1344 E1344 C1344 V1344 A1344 N1344
  have hv1344 := HV.here (Z := Z) (EL := consts_1) (h := h1344) (S := [o1303, o1285, b1275])
  show WG _ _ _ _ _ _ _ _ _ _ _ _ 18 74 187 #[.val (.int p0), .val (.int p1), .val (.int p2), .val (.long p3), .second, .val (.long p4), .second, .val (.int p5), .val (.ref b1275), .val (.ref o1285), .val (.int f.toInt32), .val (.int t.toInt32), .val (.int g.toInt32), .val (.int u.toInt32), .val (.ref r1295), .val (.ref r1298), .val (.ref r1301), .val (.ref o1303), .unset] [(.ref la1344), (.ref la1340), (.ref la1336), (.int (2 : Int32)), (.int (1 : Int32)), (.int (1 : Int32)), (.int (0 : Int32)), (.ref la1333), (.ref o1303)]
  refine W.lloadN 188 at_187 rfl rfl ?_
  refine W.ldc2J 191 at_188 rfl (wd_55 hw) ?_
  refine W.lxor 192 at_191 rfl (p3 ^^^ (-1 : Int64)) rfl ?_
  refine W.iloadN 193 at_192 rfl rfl ?_
  refine W.iconst 194 at_193 rfl (-1 : Int32) rfl ?_
  refine W.ixor 195 at_194 rfl (p2 ^^^ (-1 : Int32)) rfl ?_
  refine W.lload 197 at_195 rfl rfl ?_
  refine W.ldc2J 200 at_197 rfl (wd_55 hw) ?_
  refine W.lxor 201 at_200 rfl (p4 ^^^ (-1 : Int64)) rfl ?_
  have q1348 := (q1345.keep K1344)
  have q1349 := ((((f1321.keep K1333 nin0).keep K1336 nin0).keep K1340 nin0).keep K1344 nin0)
  have q1350 := ((((f1322.keep K1333 nin0).keep K1336 nin0).keep K1340 nin0).keep K1344 nin0)
  have q1351 := ((((f1323.keep K1333 nin0).keep K1336 nin0).keep K1340 nin0).keep K1344 nin0)
  have q1352 := ((((f1324.keep K1333 nin0).keep K1336 nin0).keep K1340 nin0).keep K1344 nin0)
  have q1353 := ((((f1325.keep K1333 nin0).keep K1336 nin0).keep K1340 nin0).keep K1344 nin0)
  have q1354 := ((((f1326.keep K1333 nin0).keep K1336 nin0).keep K1340 nin0).keep K1344 nin0)
  have q1355 := ((((f1327.keep K1333 nin0).keep K1336 nin0).keep K1340 nin0).keep K1344 nin0)
  have q1356 := ((((f1328.keep K1333 nin0).keep K1336 nin0).keep K1340 nin0).keep K1344 nin0)
  have q1357 := ((((f1329.keep K1333 nin0).keep K1336 nin0).keep K1340 nin0).keep K1344 nin0)
  have q1358 := ((((f1330.keep K1333 nin0).keep K1336 nin0).keep K1340 nin0).keep K1344 nin0)
  have q1359 := ((((f1331.keep K1333 nin0).keep K1336 nin0).keep K1340 nin0).keep K1344 nin0)
  refine W.callV (rest := []) (argsL := [(.ref la1333), (.int (0 : Int32)), (.int (1 : Int32)), (.int (1 : Int32)), (.int (2 : Int32)), (.ref la1336), (.ref la1340), (.ref la1344), (.long (p3 ^^^ (-1 : Int64))), (.int (p2 ^^^ (-1 : Int32))), (.long (p4 ^^^ (-1 : Int64)))]) (a := o1303) 204 at_201 rfl (fun hn => c_set l Z a0 hw o1303 la1333 la1336 la1340 la1344 (0 : Int32) (1 : Int32) (1 : Int32) (2 : Int32) (p2 ^^^ (-1 : Int32)) (p3 ^^^ (-1 : Int64)) (p4 ^^^ (-1 : Int64)) _ _ _ _ _ _ _ _ _ _ _ _ n0 hn ge1303 q1348 q1349 q1350 q1351 q1352 q1353 q1354 q1355 q1356 q1357 q1358 q1359) q1348 (wd_56 hw) (wd_57 hw) (wd_59 hw) rfl (wd_58 hw) (wd_46 hw) (wd_60 hw) (by decide) pd_24 rfl rfl rfl (by decide) 0 (Nat.le_of_ble_eq_true rfl) (by decide) (by decide) (by decide) ?_
  rintro v1360 h1360 ⟨rfl, K1360, F0_1360, F1_1360, F2_1360, F3_1360, F4_1360, F5_1360, F6_1360, F7_1360, F8_1360, F9_1360, F10_1360⟩
  have hv1361 := HV.keep hv1344 K1360 (allS (List.mem_of_getElem? (i := 0) rfl) all0)
  show WG _ _ _ _ _ _ _ _ _ _ _ _ 18 74 204 #[.val (.int p0), .val (.int p1), .val (.int p2), .val (.long p3), .second, .val (.long p4), .second, .val (.int p5), .val (.ref b1275), .val (.ref o1285), .val (.int f.toInt32), .val (.int t.toInt32), .val (.int g.toInt32), .val (.int u.toInt32), .val (.ref r1295), .val (.ref r1298), .val (.ref r1301), .val (.ref o1303), .unset] []
  refine W.aload 206 at_204 rfl rfl rfl ?_
  refine W.aload 208 at_206 rfl rfl rfl ?_
  refine W.iload 210 at_208 rfl rfl ?_
  refine W.iload 212 at_210 rfl rfl ?_
  refine W.iload 214 at_212 rfl rfl ?_
  refine W.iload 216 at_214 rfl rfl ?_
  refine W.aload 218 at_216 rfl rfl rfl ?_
  refine W.aload 220 at_218 rfl rfl rfl ?_
  refine W.aload 222 at_220 rfl rfl rfl ?_
  refine W.lloadN 223 at_222 rfl rfl ?_
  refine W.iloadN 224 at_223 rfl rfl ?_
  refine W.lload 226 at_224 rfl rfl ?_
  have q1362 := (q1348.keep K1360)
  refine W.callV (rest := []) (argsL := [(.ref o1285), (.int f.toInt32), (.int t.toInt32), (.int g.toInt32), (.int u.toInt32), (.ref r1298), (.ref r1295), (.ref r1301), (.long p3), (.int p2), (.long p4)]) (a := o1303) 229 at_226 rfl (fun hn => c_set l Z a0 hw o1303 o1285 r1298 r1295 r1301 f.toInt32 t.toInt32 g.toInt32 u.toInt32 p2 p3 p4 _ _ _ _ _ _ _ _ _ _ _ _ n0 hn ge1303 q1362 F0_1360 F1_1360 F2_1360 F3_1360 F4_1360 F5_1360 F6_1360 F7_1360 F8_1360 F9_1360 F10_1360) q1362 (wd_56 hw) (wd_57 hw) (wd_59 hw) rfl (wd_58 hw) (wd_46 hw) (wd_60 hw) (by decide) pd_24 rfl rfl rfl (by decide) 0 (Nat.le_of_ble_eq_true rfl) (by decide) (by decide) (by decide) ?_
  rintro v1363 h1363 ⟨rfl, K1363, F0_1363, F1_1363, F2_1363, F3_1363, F4_1363, F5_1363, F6_1363, F7_1363, F8_1363, F9_1363, F10_1363⟩
  have hv1364 := HV.keep hv1361 K1363 (allS (List.mem_of_getElem? (i := 0) rfl) all0)
  show WG _ _ _ _ _ _ _ _ _ _ _ _ 18 74 229 #[.val (.int p0), .val (.int p1), .val (.int p2), .val (.long p3), .second, .val (.long p4), .second, .val (.int p5), .val (.ref b1275), .val (.ref o1285), .val (.int f.toInt32), .val (.int t.toInt32), .val (.int g.toInt32), .val (.int u.toInt32), .val (.ref r1295), .val (.ref r1298), .val (.ref r1301), .val (.ref o1303), .unset] []
  refine W.new 232 at_229 rfl (wd_83 hw) (wd_84 hw) (wd_85 hw) (by decide) (by decide) ?_
  intro h1365 o1365 g1365 ge1365 X1365 K1365 E1365 D1365
  have q1366 := (((q1347.keep K1344 nin0).keep K1360 (ninS ne1305 nin0)).keep K1363 (ninS ne1305 nin0))
  have ne1367 : b1275 ≠ o1365 := Nat.ne_of_lt (Nat.lt_of_lt_of_eq q1366.lt g1365.symm)
  have q1368 := (((((((q1306.keep K1303 nin0).keep K1333 nin0).keep K1336 nin0).keep K1340 nin0).keep K1344 nin0).keep K1360 (ninS ne1307 nin0)).keep K1363 (ninS ne1307 nin0))
  have ne1369 : b1292 ≠ o1365 := Nat.ne_of_lt (Nat.lt_of_lt_of_eq q1368.lt g1365.symm)
  have q1370 := (((((((q1308.keep K1303 nin0).keep K1333 nin0).keep K1336 nin0).keep K1340 nin0).keep K1344 nin0).keep K1360 (ninS ne1309 nin0)).keep K1363 (ninS ne1309 nin0))
  have ne1371 : b1295 ≠ o1365 := Nat.ne_of_lt (Nat.lt_of_lt_of_eq q1370.lt g1365.symm)
  have q1372 := (((((((q1310.keep K1303 nin0).keep K1333 nin0).keep K1336 nin0).keep K1340 nin0).keep K1344 nin0).keep K1360 (ninS ne1311 nin0)).keep K1363 (ninS ne1311 nin0))
  have ne1373 : b1298 ≠ o1365 := Nat.ne_of_lt (Nat.lt_of_lt_of_eq q1372.lt g1365.symm)
  have q1374 := (((((((A1301.keep K1303 nin0).keep K1333 nin0).keep K1336 nin0).keep K1340 nin0).keep K1344 nin0).keep K1360 (ninS ne1312 nin0)).keep K1363 (ninS ne1312 nin0))
  have ne1375 : b1301 ≠ o1365 := Nat.ne_of_lt (Nat.lt_of_lt_of_eq q1374.lt g1365.symm)
  have q1376 := (((((E1333.keep K1336).keep K1340).keep K1344).keep K1360).keep K1363)
  have ne1377 : la1333 ≠ o1365 := Nat.ne_of_lt (Nat.lt_of_lt_of_eq q1376.lt g1365.symm)
  have q1378 := ((((E1336.keep K1340).keep K1344).keep K1360).keep K1363)
  have ne1379 : la1336 ≠ o1365 := Nat.ne_of_lt (Nat.lt_of_lt_of_eq q1378.lt g1365.symm)
  have q1380 := (((E1340.keep K1344).keep K1360).keep K1363)
  have ne1381 : la1340 ≠ o1365 := Nat.ne_of_lt (Nat.lt_of_lt_of_eq q1380.lt g1365.symm)
  have q1382 := ((E1344.keep K1360).keep K1363)
  have ne1383 : la1344 ≠ o1365 := Nat.ne_of_lt (Nat.lt_of_lt_of_eq q1382.lt g1365.symm)
  have q1384 := (((((A1333.keep K1336 nin0).keep K1340 nin0).keep K1344 nin0).keep K1360 (ninS (Ne.symm (N1333 o1303 (List.mem_of_getElem? (i := 0) rfl)).2) nin0)).keep K1363 (ninS (Ne.symm (N1333 o1303 (List.mem_of_getElem? (i := 0) rfl)).2) nin0))
  have ne1385 : lb1333 ≠ o1365 := Nat.ne_of_lt (Nat.lt_of_lt_of_eq q1384.lt g1365.symm)
  have q1386 := ((((A1336.keep K1340 nin0).keep K1344 nin0).keep K1360 (ninS (Ne.symm (N1336 o1303 (List.mem_of_getElem? (i := 0) rfl)).2) nin0)).keep K1363 (ninS (Ne.symm (N1336 o1303 (List.mem_of_getElem? (i := 0) rfl)).2) nin0))
  have ne1387 : lb1336 ≠ o1365 := Nat.ne_of_lt (Nat.lt_of_lt_of_eq q1386.lt g1365.symm)
  have q1388 := (((A1340.keep K1344 nin0).keep K1360 (ninS (Ne.symm (N1340 o1303 (List.mem_of_getElem? (i := 0) rfl)).2) nin0)).keep K1363 (ninS (Ne.symm (N1340 o1303 (List.mem_of_getElem? (i := 0) rfl)).2) nin0))
  have ne1389 : lb1340 ≠ o1365 := Nat.ne_of_lt (Nat.lt_of_lt_of_eq q1388.lt g1365.symm)
  have q1390 := ((A1344.keep K1360 (ninS (Ne.symm (N1344 o1303 (List.mem_of_getElem? (i := 0) rfl)).2) nin0)).keep K1363 (ninS (Ne.symm (N1344 o1303 (List.mem_of_getElem? (i := 0) rfl)).2) nin0))
  have ne1391 : lb1344 ≠ o1365 := Nat.ne_of_lt (Nat.lt_of_lt_of_eq q1390.lt g1365.symm)
  have q1392 := (((q1346.keep K1344).keep K1360).keep K1363)
  have ne1393 : o1285 ≠ o1365 := Nat.ne_of_lt (Nat.lt_of_lt_of_eq q1392.lt g1365.symm)
  have q1394 := (q1362.keep K1363)
  have ne1395 : o1303 ≠ o1365 := Nat.ne_of_lt (Nat.lt_of_lt_of_eq q1394.lt g1365.symm)
  have q1396 := (((((((q1315.keep K1303).keep K1333).keep K1336).keep K1340).keep K1344).keep K1360).keep K1363)
  have ne1397 : r1295 ≠ o1365 := Nat.ne_of_lt (Nat.lt_of_lt_of_eq q1396.lt g1365.symm)
  have q1398 := (((((((q1317.keep K1303).keep K1333).keep K1336).keep K1340).keep K1344).keep K1360).keep K1363)
  have ne1399 : r1298 ≠ o1365 := Nat.ne_of_lt (Nat.lt_of_lt_of_eq q1398.lt g1365.symm)
  have q1400 := (((((((E1301.keep K1303).keep K1333).keep K1336).keep K1340).keep K1344).keep K1360).keep K1363)
  have ne1401 : r1301 ≠ o1365 := Nat.ne_of_lt (Nat.lt_of_lt_of_eq q1400.lt g1365.symm)
  have hv1402 := HV.new hv1364 K1365 all0 (Nat.le_of_eq g1365.symm)
  have f1403 : Fld _ _ o1365 "com/example/tallymark/tallymark/SnapshotJoin$Holding" "feature" "Ljava/lang/String;" .null := D1365 (Or.inr (wd_93 hw)) (ty := (.object "java/lang/String")) (by decide)
  have f1404 : Fld _ _ o1365 "com/example/tallymark/tallymark/SnapshotJoin$Holding" "user" "Ljava/lang/String;" .null := D1365 (Or.inr (wd_132 hw)) (ty := (.object "java/lang/String")) (by decide)
  have f1405 : Fld _ _ o1365 "com/example/tallymark/tallymark/SnapshotJoin$Holding" "host" "Ljava/lang/String;" .null := D1365 (Or.inr (wd_139 hw)) (ty := (.object "java/lang/String")) (by decide)
  have f1406 : Fld _ _ o1365 "com/example/tallymark/tallymark/SnapshotJoin$Holding" "start" "J" (.long (0 : Int64)) := D1365 (Or.inr (wd_142 hw)) (ty := .long) (by decide)
  have f1407 : Fld _ _ o1365 "com/example/tallymark/tallymark/SnapshotJoin$Holding" "file" "Ljava/lang/String;" .null := D1365 (Or.inl (wd_144 hw)) (ty := (.object "java/lang/String")) (by decide)
  have f1408 : Fld _ _ o1365 "com/example/tallymark/tallymark/SnapshotJoin$Holding" "line" "J" (.long (0 : Int64)) := D1365 (Or.inl (wd_147 hw)) (ty := .long) (by decide)
  have f1409 : Fld _ _ o1365 "com/example/tallymark/tallymark/SnapshotJoin$Holding" "licences" "I" (.int (0 : Int32)) := D1365 (Or.inl (wd_150 hw)) (ty := .int) (by decide)
  have f1410 : Fld _ _ o1365 "com/example/tallymark/tallymark/SnapshotJoin$Holding" "from" "J" (.long (0 : Int64)) := D1365 (Or.inl (wd_152 hw)) (ty := .long) (by decide)
  have f1411 : Fld _ _ o1365 "com/example/tallymark/tallymark/SnapshotJoin$Holding" "shown" "J" (.long (0 : Int64)) := D1365 (Or.inl (wd_154 hw)) (ty := .long) (by decide)
  show WG _ _ _ _ _ _ _ _ _ _ _ _ 19 83 232 #[.val (.int p0), .val (.int p1), .val (.int p2), .val (.long p3), .second, .val (.long p4), .second, .val (.int p5), .val (.ref b1275), .val (.ref o1285), .val (.int f.toInt32), .val (.int t.toInt32), .val (.int g.toInt32), .val (.int u.toInt32), .val (.ref r1295), .val (.ref r1298), .val (.ref r1301), .val (.ref o1303), .unset] [(.ref o1365)]
  refine W.dup 233 at_232 rfl rfl ?_
  refine W.aload 235 at_233 rfl rfl rfl ?_
  have q1413 := (q1394.keep K1365)
  have q1414 := (q1392.keep K1365)
  have q1415 := (q1366.keep K1365 nin0)
  refine W.ldcX 237 at_235 rfl (wd_86 hw) (own_wS hw) (own_EL hw) (List.mem_of_getElem? (i := 2) rfl) hv1402 (allS E1365.lt (allS q1413.lt (allS q1414.lt (allS q1415.lt all0)))) [(.int (102 : Int32))] ⟨by decide, rfl⟩ (by decide) 4 (by decide) (by decide) (by decide) (by decide) ?_
  intro h1412 la1412 lb1412 X1412 K1412 E1412 C1412 V1412 A1412 N1412
  have hv1412 := HV.here (Z := Z) (EL := consts_1) (h := h1412) (S := [o1365, o1303, o1285, b1275])
  show WG _ _ _ _ _ _ _ _ _ _ _ _ 21 91 237 #[.val (.int p0), .val (.int p1), .val (.int p2), .val (.long p3), .second, .val (.long p4), .second, .val (.int p5), .val (.ref b1275), .val (.ref o1285), .val (.int f.toInt32), .val (.int t.toInt32), .val (.int g.toInt32), .val (.int u.toInt32), .val (.ref r1295), .val (.ref r1298), .val (.ref r1301), .val (.ref o1303), .unset] [(.ref la1412), (.ref o1303), (.ref o1365), (.ref o1365)]
  refine W.lconst 238 at_237 rfl (0 : Int64) rfl ?_
  have q1416 := (Sta.ext X1412 (Sta.ext X1365 (Sta.keepN K1363 (allS q1362.nostat all0) (Sta.keepN K1360 (allS q1348.nostat all0) (Sta.ext X1344 (Sta.ext X1340 (Sta.ext X1336 (Sta.ext X1333 (Sta.ext X1303 (Sta.keepN K1301 all0 q1300))))))))))
  have q1417 := (Sta.ext X1412 (Sta.ext X1365 (Sta.keepN K1363 (allS q1362.nostat all0) (Sta.keepN K1360 (allS q1348.nostat all0) (Sta.ext X1344 (Sta.ext X1340 (Sta.ext X1336 (Sta.ext X1333 (Sta.ext X1303 (Sta.keepN K1301 all0 (Sta.keepN K1298 all0 (Sta.keepN K1295 all0 (Sta.keepN K1292 (allS E1285.nostat all0) (Sta.ext X1285 (Sta.wr W1283 (Sta.wr W1281 (Sta.wr W1279 (Sta.wr W1277 (Sta.ext X1275 SF)))))))))))))))))))
  have q1418 := (E1365.keep K1412)
  have q1419 := (q1413.keep K1412)
  have q1420 := (f1403.keep K1412 nin0)
  have q1421 := (f1404.keep K1412 nin0)
  have q1422 := (f1405.keep K1412 nin0)
  have q1423 := (f1406.keep K1412 nin0)
  have q1424 := (f1407.keep K1412 nin0)
  have q1425 := (f1408.keep K1412 nin0)
  have q1426 := (f1409.keep K1412 nin0)
  have q1427 := (f1410.keep K1412 nin0)
  have q1428 := (f1411.keep K1412 nin0)
  have q1429 := ((F0_1363.keep K1365 nin0).keep K1412 nin0)
  have q1430 := ((F1_1363.keep K1365 nin0).keep K1412 nin0)
  have q1431 := ((F2_1363.keep K1365 nin0).keep K1412 nin0)
  have q1432 := ((F3_1363.keep K1365 nin0).keep K1412 nin0)
  have q1433 := ((F4_1363.keep K1365 nin0).keep K1412 nin0)
  have q1434 := ((F5_1363.keep K1365 nin0).keep K1412 nin0)
  have q1435 := ((F6_1363.keep K1365 nin0).keep K1412 nin0)
  have q1436 := ((F7_1363.keep K1365 nin0).keep K1412 nin0)
  have q1437 := ((F8_1363.keep K1365 nin0).keep K1412 nin0)
  have q1438 := ((F9_1363.keep K1365 nin0).keep K1412 nin0)
  have q1439 := ((F10_1363.keep K1365 nin0).keep K1412 nin0)
  have q1440 := (q1414.keep K1412)
  have q1441 := ((((((((((((C1292.keep K1295 nin0).keep K1298 nin0).keep K1301 nin0).keep K1303 nin0).keep K1333 nin0).keep K1336 nin0).keep K1340 nin0).keep K1344 nin0).keep K1360 (ninS ne1314 nin0)).keep K1363 (ninS ne1314 nin0)).keep K1365 nin0).keep K1412 nin0)
  have q1442 := ((((((((((((V1292.keep K1295 nin0).keep K1298 nin0).keep K1301 nin0).keep K1303 nin0).keep K1333 nin0).keep K1336 nin0).keep K1340 nin0).keep K1344 nin0).keep K1360 (ninS ne1314 nin0)).keep K1363 (ninS ne1314 nin0)).keep K1365 nin0).keep K1412 nin0)
  have q1443 := ((q1368.keep K1365 nin0).keep K1412 nin0)
  have q1445 := (q1415.keep K1412 nin0)
  refine W.callInitX (rest := [(.ref o1365)]) (argsL := [(.ref o1303), (.ref la1412), (.long (0 : Int64))]) (a := o1365) 241 at_238 rfl (fun hn => c_ho l Z a0 hw o1365 o1303 o1285 b1292 r0 r1298 r1295 r1301 la1412 p3 p4 (0 : Int64) p2 kc hkc ([(p0 &&& (255 : Int32)), (((p0.toUInt32 >>> ((8 : Int32) &&& 31).toUInt32).toInt32) &&& (255 : Int32)), (((p0.toUInt32 >>> ((16 : Int32) &&& 31).toUInt32).toInt32) &&& (255 : Int32)), (((p0.toUInt32 >>> ((24 : Int32) &&& 31).toUInt32).toInt32) &&& (255 : Int32))].map byteOf) f t g u hft htn hgu hun (Nat.le_of_ble_eq_true rfl) _ n0 hn (Ne.symm ne1395) (Ne.symm ne1393) (Ne.symm ne1369) ge1365 q1416 q1417 q1418 q1419 q1420 q1421 q1422 q1423 q1424 q1425 q1426 q1427 q1428 q1429 q1430 q1431 q1432 q1433 q1434 q1435 q1436 q1437 q1438 q1439 q1440 q1441 q1442 q1443) rfl (wd_87 hw) (wd_88 hw) (wd_85 hw) (wd_89 hw) (by decide) pd_25 rfl rfl rfl (by decide) 1 (Nat.le_of_ble_eq_true rfl) (by decide) (by decide) (by decide) (own_EL hw) hv1412 (allS q1418.lt (allS q1419.lt (allS q1440.lt (allS q1445.lt all0)))) (allS (List.mem_of_getElem? (i := 0) rfl) all0) ?_
  rintro v1444 h1444 ⟨rfl, K1444, r11444, b11444, r21444, b21444, ⟨E11444, C11444, V11444, A11444⟩, ⟨E21444, C21444, V21444, A21444⟩, O01444, O11444, O21444, O31444, O41444, O51444, O61444⟩
  have hv1444 := HV.here (Z := Z) (EL := consts_1) (h := h1444) (S := [o1365, o1303, o1285, b1275])
  show WG _ _ _ _ _ _ _ _ _ _ _ _ 27 139 241 #[.val (.int p0), .val (.int p1), .val (.int p2), .val (.long p3), .second, .val (.long p4), .second, .val (.int p5), .val (.ref b1275), .val (.ref o1285), .val (.int f.toInt32), .val (.int t.toInt32), .val (.int g.toInt32), .val (.int u.toInt32), .val (.ref r1295), .val (.ref r1298), .val (.ref r1301), .val (.ref o1303), .unset] [(.ref o1365)]
  refine W.astore 243 at_241 rfl rfl #[.val (.int p0), .val (.int p1), .val (.int p2), .val (.long p3), .second, .val (.long p4), .second, .val (.int p5), .val (.ref b1275), .val (.ref o1285), .val (.int f.toInt32), .val (.int t.toInt32), .val (.int g.toInt32), .val (.int u.toInt32), .val (.ref r1295), .val (.ref r1298), .val (.ref r1301), .val (.ref o1303), .val (.ref o1365)] rfl ?_
  refine W.aload 245 at_243 rfl rfl rfl ?_
  refine W.aload 247 at_245 rfl rfl rfl ?_
  refine W.getfield 250 at_247 rfl (host := "") (Or.inl (wd_155 hw)) Via.refl O01444 ?_
  have q1447 := (((q1396.keep K1365).keep K1412).keep K1444)
  refine W.callV (rest := []) (argsL := [(.ref r1295)]) (a := r1295) 253 at_250 rfl (fun hn => c_eqs l Z a0 hw r1295 _ n0 hn) q1447 (wd_156 hw) (wd_157 hw) (wd_159 hw) rfl (wd_158 hw) (wd_3 hw) (wd_160 hw) (by decide) pd_26 rfl rfl rfl (by decide) 0 (Nat.le_of_ble_eq_true rfl) (by decide) (by decide) (by decide) ?_
  rintro v1446 h1446 ⟨rfl, rfl⟩
  show WG _ _ _ _ _ _ _ _ _ _ _ _ 27 139 253 #[.val (.int p0), .val (.int p1), .val (.int p2), .val (.long p3), .second, .val (.long p4), .second, .val (.int p5), .val (.ref b1275), .val (.ref o1285), .val (.int f.toInt32), .val (.int t.toInt32), .val (.int g.toInt32), .val (.int u.toInt32), .val (.ref r1295), .val (.ref r1298), .val (.ref r1301), .val (.ref o1303), .val (.ref o1365)] [(.int (1 : Int32))]
  refine W.if_eq 335 256 at_253 rfl rfl (fun hc => absurd hc (by decide)) (fun _ => ?_)
  refine W.aload 258 at_256 rfl rfl rfl ?_
  refine W.getfield 261 at_258 rfl (host := "") (Or.inl (wd_161 hw)) Via.refl O11444 ?_
  refine W.aload 263 at_261 rfl rfl rfl ?_
  refine W.iload 265 at_263 rfl rfl ?_
  refine W.iload 267 at_265 rfl rfl ?_
  have q1448 := (Sta.keepN K1444 (allS q1418.nostat all0) q1416)
  have q1449 := (Sta.keepN K1444 (allS q1418.nostat all0) q1417)
  have q1450 := (q1445.keep K1444 (ninS ne1367 nin0))
  refine W.callS (rest := []) (argsL := [(.ref r11444), (.ref b1275), (.int f.toInt32), (.int t.toInt32)]) 270 at_267 rfl (fun hn => c_mt l Z a0 hw r11444 b11444 b1275 r0 kc hkc [(p0 &&& (255 : Int32)), (((p0.toUInt32 >>> ((8 : Int32) &&& 31).toUInt32).toInt32) &&& (255 : Int32)), (((p0.toUInt32 >>> ((16 : Int32) &&& 31).toUInt32).toInt32) &&& (255 : Int32)), (((p0.toUInt32 >>> ((24 : Int32) &&& 31).toUInt32).toInt32) &&& (255 : Int32))] f t hft htn (Nat.le_of_ble_eq_true rfl) (chC (own_m _) (chC (own_m _) (chC (own_m _) (chC (own_m _) chN)))) _ n0 hn q1448 q1449 E11444 C11444 V11444 A11444 q1450) (wd_162 hw) (wd_163 hw) (wd_164 hw) (wd_165 hw) (by decide) pd_27 rfl rfl rfl (by decide) 0 (Nat.le_of_ble_eq_true rfl) (by decide) (by decide) (by decide) ?_
  rintro v1451 h1451 ⟨rfl, rfl⟩
  show WG _ _ _ _ _ _ _ _ _ _ _ _ 27 139 270 #[.val (.int p0), .val (.int p1), .val (.int p2), .val (.long p3), .second, .val (.long p4), .second, .val (.int p5), .val (.ref b1275), .val (.ref o1285), .val (.int f.toInt32), .val (.int t.toInt32), .val (.int g.toInt32), .val (.int u.toInt32), .val (.ref r1295), .val (.ref r1298), .val (.ref r1301), .val (.ref o1303), .val (.ref o1365)] [(.int (1 : Int32))]
  refine W.if_eq 335 273 at_270 rfl rfl (fun hc => absurd hc (by decide)) (fun _ => ?_)
  refine W.aload 275 at_273 rfl rfl rfl ?_
  refine W.getfield 278 at_275 rfl (host := "") (Or.inl (wd_167 hw)) Via.refl O21444 ?_
  refine W.aload 280 at_278 rfl rfl rfl ?_
  refine W.iload 282 at_280 rfl rfl ?_
  refine W.iload 284 at_282 rfl rfl ?_
  refine W.callS (rest := []) (argsL := [(.ref r21444), (.ref b1275), (.int g.toInt32), (.int u.toInt32)]) 287 at_284 rfl (fun hn => c_mt l Z a0 hw r21444 b21444 b1275 r0 kc hkc [(p0 &&& (255 : Int32)), (((p0.toUInt32 >>> ((8 : Int32) &&& 31).toUInt32).toInt32) &&& (255 : Int32)), (((p0.toUInt32 >>> ((16 : Int32) &&& 31).toUInt32).toInt32) &&& (255 : Int32)), (((p0.toUInt32 >>> ((24 : Int32) &&& 31).toUInt32).toInt32) &&& (255 : Int32))] g u hgu hun (Nat.le_of_ble_eq_true rfl) (chC (own_m _) (chC (own_m _) (chC (own_m _) (chC (own_m _) chN)))) _ n0 hn q1448 q1449 E21444 C21444 V21444 A21444 q1450) (wd_162 hw) (wd_163 hw) (wd_164 hw) (wd_165 hw) (by decide) pd_27 rfl rfl rfl (by decide) 0 (Nat.le_of_ble_eq_true rfl) (by decide) (by decide) (by decide) ?_
  rintro v1452 h1452 ⟨rfl, rfl⟩
  show WG _ _ _ _ _ _ _ _ _ _ _ _ 27 139 287 #[.val (.int p0), .val (.int p1), .val (.int p2), .val (.long p3), .second, .val (.long p4), .second, .val (.int p5), .val (.ref b1275), .val (.ref o1285), .val (.int f.toInt32), .val (.int t.toInt32), .val (.int g.toInt32), .val (.int u.toInt32), .val (.ref r1295), .val (.ref r1298), .val (.ref r1301), .val (.ref o1303), .val (.ref o1365)] [(.int (1 : Int32))]
  refine W.if_eq 335 290 at_287 rfl rfl (fun hc => absurd hc (by decide)) (fun _ => ?_)
  refine W.aload 292 at_290 rfl rfl rfl ?_
  refine W.getfield 295 at_292 rfl (host := "") (Or.inl (wd_168 hw)) Via.refl O31444 ?_
  refine W.lload 297 at_295 rfl rfl ?_
  refine W.lcmp 298 at_297 rfl (0 : Int32) (own_lc _) ?_
  refine W.if_ne 335 301 at_298 rfl rfl (fun hc => absurd (by decide) hc) (fun _ => ?_)
  refine W.aload 303 at_301 rfl rfl rfl ?_
  refine W.getfield 306 at_303 rfl (host := "") (Or.inl (wd_169 hw)) Via.refl O61444 ?_
  refine W.lload 308 at_306 rfl rfl ?_
  refine W.lcmp 309 at_308 rfl (0 : Int32) (own_lc _) ?_
  refine W.if_ne 335 312 at_309 rfl rfl (fun hc => absurd (by decide) hc) (fun _ => ?_)
  refine W.aload 314 at_312 rfl rfl rfl ?_
  refine W.getfield 317 at_314 rfl (host := "") (Or.inl (wd_170 hw)) Via.refl O41444 ?_
  refine W.lloadN 318 at_317 rfl rfl ?_
  refine W.lcmp 319 at_318 rfl (0 : Int32) (own_lc _) ?_
  refine W.if_ne 335 322 at_319 rfl rfl (fun hc => absurd (by decide) hc) (fun _ => ?_)
  refine W.aload 324 at_322 rfl rfl rfl ?_
  refine W.getfield 327 at_324 rfl (host := "") (Or.inl (wd_171 hw)) Via.refl O51444 ?_
  refine W.iloadN 328 at_327 rfl rfl ?_
  refine W.icmp_ne 335 331 at_328 rfl rfl (fun hc => absurd rfl hc) (fun _ => ?_)
  refine W.iconst 332 at_331 rfl (1 : Int32) rfl ?_
  refine W.goto 336 at_332 rfl ?_
  refine WG.retX (own_EL hw) hv1444 ?_
  exact W.ireturnN (t := .boolean) at_336 rfl (by simp) (1 : Int32) rfl ⟨rfl, rfl⟩ (by decide) (by decide)
theorem law_ok (l : Launch) (Z : State) (a0 : Array Value) (hw : HwT Z a0) (p0 p1 p2 : Int32) (p3 p4 : Int64) (p5 : Int32) (r0 : RV) (kc : Int32) (hkc : ¬ kc = 0) (h : Heap) (n0 : Nat) (hn : n0 ≤ h.size) (FS : Sta Z h "java/lang/String" "COMPACT_STRINGS" "Z" (.int kc)) (SF : Sta Z h "jdk/internal/util/Preconditions" "SIOOBE_FORMATTER" "Ljava/util/function/BiFunction;" r0.1) : ConX Z consts_1 [] tables_1 l x code maxLocals ret room_1 #[(.int p0), (.int p1), (.int p2), (.long p3), (.long p4), (.int p5)] h n0 (fun v _ => v = some (.int 1)) := by
  obtain ⟨f, t, ef, zf, et, hft, htn⟩ := own_5 p1 ((p1.toUInt32 >>> ((8 : Int32) &&& 31).toUInt32).toInt32)
  obtain ⟨g, u, eg, zg, eu, hgu, hun⟩ := own_5 ((p1.toUInt32 >>> ((16 : Int32) &&& 31).toUInt32).toInt32) ((p1.toUInt32 >>> ((24 : Int32) &&& 31).toUInt32).toInt32)
  exact law_w l Z a0 hw p0 p1 p2 p3 p4 p5 f t g u r0 kc hkc h n0 hn FS SF ef zf et eg zg eu hft htn hgu hun
theorem own_isR {t : Term} {args : Array Value} {Z : State} (h : (Jvm.Cond.isRef t).value args Z none Z [] = some true) : ∃ x : RV, t.eval args Z none [] Z = some x.1 := by
  simp only [Cond.value] at h
  cases q : t.eval args Z none [] Z with
  | none => simp [q] at h
  | some v =>
    cases v with
    | null => exact ⟨⟨.null, Or.inl rfl⟩, rfl⟩
    | ref a => exact ⟨⟨.ref a, Or.inr ⟨a, rfl⟩⟩, rfl⟩
    | _ => simp [q] at h
theorem comes_1 {Post : Tables → Env → Array Value → State → Outcome → State → Prop} (hpost : ∀ tb e args s v u, (limb_1_1.after args s (.returned v) u = true ∧ limb_1_2.after args s (.returned v) u = true ∧ True) → ReturnedEndW s (.returned v) u (Jvm.fieldLocs frame_1_writes args s ++ Jvm.arrayLocs frame_1_arrays args s ++ Jvm.staticLocs frame_1_statics s) 48 4352 → Post tb e args s (.returned v) u) :
    ArmFor flags0 classFile x code maxLocals ret World_1 tables_1 room_1 Calls_1 rest_1 Pre_1 Post := by
  intro l hfl _ _ p e ha hc hk s m args below hf hA hF happ hP
  obtain ⟨hcalls, hrest, hpre⟩ := hP
  obtain ⟨-, -, -, hnamed, -, -, -, hat⟩ := (Spec.applies_iff hf).mp happ
  obtain ⟨hg, hn⟩ := and_e (Cond.before_iff.mp (show (Jvm.Cond.and given_1 narrow_1).before args s = true from hpre))
  obtain ⟨hcnt, hg1⟩ := and_e hg
  obtain ⟨k0, hh0⟩ := and_e hg1
  obtain ⟨k1, hh1⟩ := and_e hh0
  obtain ⟨k2, hh2⟩ := and_e hh1
  obtain ⟨k3, hh3⟩ := and_e hh2
  obtain ⟨k4, hh4⟩ := and_e hh3
  have k5 := hh4
  obtain ⟨w0, w1, w2, w3, w4, w5, rfl⟩ : ∃ w0 w1 w2 w3 w4 w5 : Value, args = #[w0, w1, w2, w3, w4, w5] := by
    have hs : args.size = 6 := by simpa [Cond.value, given_1] using hcnt
    obtain ⟨L⟩ := args
    match L, hs with
    | [w0, w1, w2, w3, w4, w5], _ => exact ⟨w0, w1, w2, w3, w4, w5, rfl⟩
  have hw := fun d (hd : d ∈ tables_1) => atoms_spec (ws := Jvm.Cond.code x code maxLocals ret :: tables_1) hat d (List.mem_cons_of_mem _ hd)
  have hfit : Fit s := fun {y c} hc i hi => by
    obtain ⟨ha, rfl⟩ := Array.getElem?_eq_some_iff.mp hc
    have q := List.all_eq_true.mp ((Array.all_eq_true_iff_forall_mem.mp hF) _ (Array.getElem_mem ha)) i (List.mem_range.mpr hi)
    simpa [Array.getElem?_eq_getElem hi] using q
  obtain ⟨i0, ei0⟩ := is_v k0
  obtain rfl : w0 = (.int i0) := Option.some.inj ei0
  obtain ⟨i1, ei1⟩ := is_v k1
  obtain rfl : w1 = (.int i1) := Option.some.inj ei1
  obtain ⟨i2, ei2⟩ := is_v k2
  obtain rfl : w2 = (.int i2) := Option.some.inj ei2
  obtain ⟨i3, ei3⟩ := isL_v k3
  obtain rfl : w3 = (.long i3) := Option.some.inj ei3
  obtain ⟨i4, ei4⟩ := isL_v k4
  obtain rfl : w4 = (.long i4) := Option.some.inj ei4
  obtain ⟨i5, ei5⟩ := is_v k5
  obtain rfl : w5 = (.int i5) := Option.some.inj ei5
  obtain ⟨hsets, hown0⟩ := atoms_of _ (rest_1_c_eq ▸ (show rest_1_c.before _ s = true from hrest))
  have c0 := hsets _ (List.mem_of_getElem? (i := 0) rfl)
  have c1 := hsets _ (List.mem_of_getElem? (i := 1) rfl)
  have c2 := hsets _ (List.mem_of_getElem? (i := 2) rfl)
  have c7 := hsets _ (List.mem_of_getElem? (i := 7) rfl)
  have c8 := hsets _ (List.mem_of_getElem? (i := 8) rfl)
  obtain ⟨kc, ekc⟩ := is_v (Cond.before_iff.mp c1)
  obtain ⟨r0, er0⟩ := own_isR (Cond.before_iff.mp c8)
  have FS := Sta.start ekc (Or.inl c0)
  have SF := Sta.start er0 (Or.inl c7)
  have hkc : ¬ kc = 0 := fun q => by
    have q2 := Cond.before_iff.mp c2
    have q3 := Cond.eq_ints ekc (Term.int_eval (0 : Int32))
    rw [show decide (kc = 0) = true from decide_eq_true q] at q3
    simp only [Cond.value] at q2 q3
    rw [q3] at q2
    cases q2
  have hCH : CHv s consts_1 s.vm s.heap := CHv.start (own_EL hw) (fun p hp => hcalls.1 p hp) c2 (own_wS hw _ (by simp [Bundle.stringAtoms])) (own_wS hw _ (by simp [Bundle.stringAtoms, Bundle.sN]))
  obtain ⟨n, o, h1, h2, h3, _, L, rfl, ⟨rfl, N⟩, hq⟩ := law_ok l s _ hw i0 i1 i2 i3 i4 i5 r0 kc hkc s.heap s.heap.size (Nat.le_refl _) FS SF p e ha hc hk s m _ below hf ((Spec.applies_iff_loose hf).mp happ).1 ⟨rfl, State.Warmed39.refl s, rfl, hCH, all0⟩ trivial
  refine ⟨n, _, h1, h2, h3, hpost _ _ _ _ _ _ ⟨Cond.after_iff.mpr rfl, Cond.after_iff.mpr (eq_i res_at (Term.int_eval (1)) rfl), trivial⟩ ⟨hq.1.1, hq.1.2.1, hq.1.2.2.1, (hq.1.2.2.2.sift fun y hy => Or.inr (N y hy)).mono (by decide) (by decide)⟩⟩
theorem main_1_1 : Claimed_1_1 := comes_1 fun _ _ _ _ _ _ h hF => ⟨h.1, hF⟩
theorem main_1_2 : Claimed_1_2 := comes_1 fun _ _ _ _ _ _ h hF => ⟨h.2.1, hF⟩
end Jvm.Pilot.@@N@@
namespace Jvm.Pilot.@@N@@
open Jvm Jvm.ClassFile Sem Op Lib Jvm.Free Jvm.Stand Jvm.Pilot.@@N@@.Jvm.D
/-! MADE BY PROGRAM (witnessworld.py) out of the Statement's table words and the real class files: 26 classes; the members and pool entries that the words name. The judged class is class 1, her method 1. -/
namespace start1
open Jvm.ClassFile
def u (s : String) : CpInfo := .utf8 (stringToUtf16 s)
/-- a pool by its gaps: so many unusable entries, then the entry; so many at the end -/
def gap : Nat → List CpInfo → List CpInfo
  | 0, r => r
  | n + 1, r => .unusable :: gap n r
def poolList (es : List (Nat × CpInfo)) (last : Nat) : List CpInfo := es.foldr (fun e r => gap e.1 (e.2 :: r)) (gap last [])
def pool (es : List (Nat × CpInfo)) (last : Nat) : Array CpInfo := ⟨poolList es last⟩
def fileOf (pool : Array CpInfo) (this : Nat) (attrs : Array Attribute := #[]) (ms : Array MethodInfo := #[]) (fl : Nat := 33) (sup : Nat := 0) (ifs : Array Nat := #[]) (fds : Array FieldInfo := #[]) : ClassFile where
  minorVersion := 0
  majorVersion := 65
  constantPool := pool
  accessFlags := fl
  thisClass := this
  superClass := sup
  interfaces := ifs
  fields := fds
  methods := ms
  attributes := attrs
def plain (name : String) (sup : Option ClassId) : Class where
  name := name
  kind := .ordinary
  loader := none
  accessFlags := 33
  super := sup
  interfaces := #[]
  cf := none
  fields := #[]
  methods := #[]
  instanceTypes := #[]
  staticTypes := #[]
  resolved := #[]
  callSites := []
  init := .initialized
  statics := none
  mirror := none

def pool0 : Array CpInfo := pool [(5, u "<init>"), (0, u "()V"), (1, .class_ 10), (1, u "java/lang/Object")] 113

def k0c0 : Code := { maxStack := 0, maxLocals := 1, code := object_method_1_code, exceptionTable := #[], attributes := #[] }
def k0m0 : Method := { name := "<init>", desc := "()V", sig := { parameters := [], returnType := none }, accessFlags := 1, code := some k0c0 }
/-- java/lang/Object -/
def k0 : Class := { plain "java/lang/Object" none with
  accessFlags := 33
  interfaces := #[]
  cf := some (fileOf pool0 8 #[] #[{ accessFlags := 1, nameIndex := 5, descriptorIndex := 6, attributes := #[] }] 33 0 #[] #[])
  fields := #[]
  methods := #[k0m0]
  instanceTypes := #[]
  staticTypes := #[]
  resolved := Array.replicate 124 none
  statics := none }

def pool1 : Array CpInfo := pool [(2, .class_ 4), (0, .nameAndType 5 6), (0, u "java/lang/Object"), (0, u "<init>"), (0, u "()V"), (0, .class_ 8), (0, u "java/lang/String"), (0, .methodref 7 10), (0, .nameAndType 5 11), (0, u "([C)V"), (0, .methodref 7 13), (0, .nameAndType 14 15), (0, u "valueOf"), (0, u "(C)Ljava/lang/String;"), (0, .class_ 17), (0, u "com/example/tallymark/tallymark/SnapshotJoin$HoldingLine"), (0, .methodref 16 3), (0, .string 20), (0, u "qr"), (0, .string 22), (0, u ""), (0, .long 18446744073709551615), (1, .methodref 16 26), (0, .nameAndType 27 28), (0, u "set"), (0, u "(Ljava/lang/String;IIIILjava/lang/String;Ljava/lang/String;Ljava/lang/String;JIJ)V"), (0, .class_ 30), (0, u "com/example/tallymark/tallymark/SnapshotJoin$Holding"), (0, .string 32), (0, u "f"), (0, .methodref 29 34), (0, .nameAndType 5 35), (0, u "(Lcom/example/tallymark/tallymark/SnapshotJoin$HoldingLine;Ljava/lang/String;J)V"), (0, .fieldref 29 37), (0, .nameAndType 38 39), (0, u "feature"), (0, u "Ljava/lang/String;"), (0, .methodref 7 41), (0, .nameAndType 42 43), (0, u "equals"), (0, u "(Ljava/lang/Object;)Z"), (0, .fieldref 29 45), (0, .nameAndType 46 39), (0, u "user"), (0, .methodref 48 49), (0, .class_ 50), (0, .nameAndType 51 52), (0, u "com/example/tallymark/tallymark/HoldingLineSetPinLaw"), (0, u "matches"), (0, u "(Ljava/lang/String;[CII)Z"), (0, .fieldref 29 54), (0, .nameAndType 55 39), (0, u "host"), (0, .fieldref 29 57), (0, .nameAndType 58 59), (0, u "start"), (0, u "J"), (0, .fieldref 29 61), (0, .nameAndType 62 59), (0, u "from"), (0, .fieldref 29 64), (0, .nameAndType 65 59), (0, u "line"), (0, .fieldref 29 67), (0, .nameAndType 68 69), (0, u "licences"), (0, u "I"), (0, .methodref 7 71), (0, .nameAndType 72 73), (0, u "length"), (0, u "()I"), (0, .methodref 7 75), (0, .nameAndType 76 77), (0, u "charAt"), (0, u "(I)C"), (2, u "law"), (0, u "(IIIJJI)Z")] 10

def k1m0 : Method := { name := "<init>", desc := "()V", sig := { parameters := [], returnType := none }, accessFlags := 2, code := none }
def k1c1 : Code := { maxStack := 16, maxLocals := 19, code := code, exceptionTable := #[], attributes := #[] }
def k1m1 : Method := { name := "law", desc := "(IIIJJI)Z", sig := { parameters := [.int, .int, .int, .long, .long, .int], returnType := some .boolean }, accessFlags := 9, code := some k1c1 }
def k1c2 : Code := { maxStack := 4, maxLocals := 5, code := method_3_code, exceptionTable := #[], attributes := #[] }
def k1m2 : Method := { name := "matches", desc := "(Ljava/lang/String;[CII)Z", sig := { parameters := [(.object "java/lang/String"), (.array .char), .int, .int], returnType := some .boolean }, accessFlags := 10, code := some k1c2 }
/-- com/example/tallymark/tallymark/HoldingLineSetPinLaw -/
def k1 : Class := { plain "com/example/tallymark/tallymark/HoldingLineSetPinLaw" (some 0) with
  accessFlags := 49
  interfaces := #[]
  cf := some (fileOf pool1 48 #[] #[{ accessFlags := 2, nameIndex := 5, descriptorIndex := 6, attributes := #[] }, { accessFlags := 9, nameIndex := 80, descriptorIndex := 81, attributes := #[] }, { accessFlags := 10, nameIndex := 51, descriptorIndex := 52, attributes := #[] }] 49 2 #[] #[])
  fields := #[]
  methods := #[k1m0, k1m1, k1m2]
  instanceTypes := #[]
  staticTypes := #[]
  resolved := Array.replicate 92 none
  statics := none }

def pool2 : Array CpInfo := pool [(1, .class_ 2), (0, u "java/io/Serializable"), (0, .class_ 4), (0, u "java/lang/Object")] 2

/-- java/io/Serializable -/
def k2 : Class := { plain "java/io/Serializable" (some 0) with
  accessFlags := 1537
  interfaces := #[]
  cf := some (fileOf pool2 1 #[] #[] 1537 3 #[] #[])
  fields := #[]
  methods := #[]
  instanceTypes := #[]
  staticTypes := #[]
  resolved := Array.replicate 7 none
  statics := none }

def pool3 : Array CpInfo := pool [(1, .class_ 2), (0, u "java/lang/Comparable"), (0, .class_ 4), (0, u "java/lang/Object")] 7

/-- java/lang/Comparable -/
def k3 : Class := { plain "java/lang/Comparable" (some 0) with
  accessFlags := 1537
  interfaces := #[]
  cf := some (fileOf pool3 1 #[] #[] 1537 3 #[] #[])
  fields := #[]
  methods := #[]
  instanceTypes := #[]
  staticTypes := #[]
  resolved := Array.replicate 12 none
  statics := none }

def pool4 : Array CpInfo := pool [(2, .class_ 4), (1, u "java/lang/CharSequence"), (42, .class_ 48), (0, u "java/lang/CharSequence$1CodePointIterator"), (10, .class_ 60), (0, u "java/lang/CharSequence$1CharIterator"), (5, .class_ 67), (0, u "java/lang/Object")] 63

/-- java/lang/CharSequence -/
def k4 : Class := { plain "java/lang/CharSequence" (some 0) with
  accessFlags := 1537
  interfaces := #[]
  cf := some (fileOf pool4 2 #[.nestMembers #[47, 59]] #[] 1537 66 #[] #[])
  fields := #[]
  methods := #[]
  instanceTypes := #[]
  staticTypes := #[]
  resolved := Array.replicate 131 none
  statics := none }

def pool5 : Array CpInfo := pool [(1, .class_ 2), (0, u "java/lang/constant/Constable"), (0, .class_ 4), (0, u "java/lang/Object")] 6

/-- java/lang/constant/Constable -/
def k5 : Class := { plain "java/lang/constant/Constable" (some 0) with
  accessFlags := 1537
  interfaces := #[]
  cf := some (fileOf pool5 1 #[] #[] 1537 3 #[] #[])
  fields := #[]
  methods := #[]
  instanceTypes := #[]
  staticTypes := #[]
  resolved := Array.replicate 11 none
  statics := none }

def pool6 : Array CpInfo := pool [(1, .class_ 2), (0, u "java/lang/constant/ConstantDesc"), (0, .class_ 4), (0, u "java/lang/Object")] 32

/-- java/lang/constant/ConstantDesc -/
def k6 : Class := { plain "java/lang/constant/ConstantDesc" (some 0) with
  accessFlags := 1537
  interfaces := #[]
  cf := some (fileOf pool6 1 #[] #[] 1537 3 #[] #[])
  fields := #[]
  methods := #[]
  instanceTypes := #[]
  staticTypes := #[]
  resolved := Array.replicate 37 none
  statics := none }

def pool7 : Array CpInfo := pool [(1, .methodref 2 3), (0, .class_ 4), (0, .nameAndType 5 6), (0, u "java/lang/Object"), (0, u "<init>"), (0, u "()V"), (2, .fieldref 10 11), (0, .class_ 12), (0, .nameAndType 13 14), (0, u "java/lang/String"), (0, u "value"), (0, u "[B"), (0, .fieldref 10 16), (0, .nameAndType 17 18), (0, u "coder"), (0, u "B"), (2, u "hash"), (0, u "I"), (2, u "hashIsZero"), (0, u "Z"), (0, .methodref 10 28), (0, .nameAndType 5 29), (0, u "([CIILjava/lang/Void;)V"), (8, .fieldref 10 39), (0, .nameAndType 40 26), (0, u "COMPACT_STRINGS"), (1, .class_ 44), (1, u "java/lang/StringUTF16"), (0, u "compress"), (1, .methodref 42 48), (0, .nameAndType 49 50), (0, u "coderFromArrayLen"), (0, u "([BI)B"), (2, u "toBytes"), (53, .class_ 109), (1, u "java/lang/StringLatin1"), (32, u "()Z"), (34, .methodref 42 178), (0, .nameAndType 45 179), (0, u "([CII)[B"), (29, .methodref 10 210), (0, .nameAndType 5 211), (0, u "([BB)V"), (122, u "()I"), (0, .methodref 10 336), (0, .nameAndType 17 337), (0, u "()B"), (25, u "([BI)C"), (5, u "(C)Z"), (21, u "(II)V"), (35, u "(I)C"), (64, .methodref 10 493), (0, .nameAndType 494 142), (0, u "isLatin1"), (0, .methodref 107 496), (0, .nameAndType 497 363), (0, u "charAt"), (3, u "checkIndex"), (3, .methodref 10 506), (0, .nameAndType 507 334), (0, u "length"), (5, u "checkFromToIndex"), (7, .methodref 10 522), (0, .nameAndType 523 524), (0, u "checkBoundsBeginEnd"), (0, u "(III)V"), (18, u "equals"), (29, u "(Ljava/lang/Object;)Z"), (1, .class_ 576), (0, u "java/lang/CharSequence"), (22, u "CASE_INSENSITIVE_ORDER"), (0, u "Ljava/util/Comparator;"), (82, u "substring"), (0, u "(II)Ljava/lang/String;"), (0, .methodref 107 686), (0, .nameAndType 687 688), (0, u "newString"), (0, u "([BII)Ljava/lang/String;"), (93, u "valueOf"), (0, u "(C)Ljava/lang/String;"), (226, u "([C)V"), (4, .methodref 107 1016), (0, .nameAndType 1017 369), (0, u "canEncode"), (0, .methodref 107 1019), (0, .nameAndType 53 1020), (0, u "(C)[B"), (32, .fieldref 1054 1055), (0, .class_ 1056), (0, .nameAndType 1057 1058), (0, u "jdk/internal/util/Preconditions"), (0, u "SIOOBE_FORMATTER"), (0, u "Ljava/util/function/BiFunction;"), (0, .methodref 1054 1060), (0, .nameAndType 501 1061), (0, u "(IILjava/util/function/BiFunction;)I"), (0, .methodref 1054 1063), (0, .nameAndType 513 1064), (0, u "(IIILjava/util/function/BiFunction;)I"), (36, u "serialPersistentFields"), (0, u "[Ljava/io/ObjectStreamField;"), (0, .class_ 1104), (0, u "java/lang/String$CaseInsensitiveComparator"), (1, .class_ 1107), (0, u "java/io/Serializable"), (0, .class_ 1109), (0, u "java/lang/Comparable"), (0, .class_ 1111), (0, u "java/lang/constant/Constable"), (0, .class_ 1113), (0, u "java/lang/constant/ConstantDesc"), (2, u "serialVersionUID"), (0, u "J"), (3, u "REPL"), (0, u "C"), (2, u "LATIN1"), (1, u "UTF16")] 323

def k7m0 : Method := { name := "<init>", desc := "()V", sig := { parameters := [], returnType := none }, accessFlags := 1, code := none }
def k7c1 : Code := { maxStack := 5, maxLocals := 2, code := jdk_42_method_3_code, exceptionTable := #[], attributes := #[] }
def k7m1 : Method := { name := "<init>", desc := "([C)V", sig := { parameters := [(.array .char)], returnType := none }, accessFlags := 1, code := some k7c1 }
def k7c2 : Code := { maxStack := 2, maxLocals := 1, code := jdk_42_method_54_code, exceptionTable := #[], attributes := #[] }
def k7m2 : Method := { name := "length", desc := "()I", sig := { parameters := [], returnType := some .int }, accessFlags := 1, code := some k7c2 }
def k7c3 : Code := { maxStack := 2, maxLocals := 2, code := jdk_42_method_56_code, exceptionTable := #[], attributes := #[] }
def k7m3 : Method := { name := "charAt", desc := "(I)C", sig := { parameters := [.int], returnType := some .char }, accessFlags := 1, code := some k7c3 }
def k7c4 : Code := { maxStack := 2, maxLocals := 3, code := jdk_42_method_66_code, exceptionTable := #[], attributes := #[] }
def k7m4 : Method := { name := "equals", desc := "(Ljava/lang/Object;)Z", sig := { parameters := [(.object "java/lang/Object")], returnType := some .boolean }, accessFlags := 1, code := some k7c4 }
def k7c5 : Code := { maxStack := 3, maxLocals := 5, code := jdk_42_method_92_code, exceptionTable := #[], attributes := #[] }
def k7m5 : Method := { name := "substring", desc := "(II)Ljava/lang/String;", sig := { parameters := [.int, .int], returnType := some (.object "java/lang/String") }, accessFlags := 1, code := some k7c5 }
def k7c6 : Code := { maxStack := 4, maxLocals := 1, code := jdk_42_method_139_code, exceptionTable := #[], attributes := #[] }
def k7m6 : Method := { name := "valueOf", desc := "(C)Ljava/lang/String;", sig := { parameters := [.char], returnType := some (.object "java/lang/String") }, accessFlags := 9, code := some k7c6 }
def k7c7 : Code := { maxStack := 4, maxLocals := 6, code := jdk_42_method_149_code, exceptionTable := #[], attributes := #[] }
def k7m7 : Method := { name := "<init>", desc := "([CIILjava/lang/Void;)V", sig := { parameters := [(.array .char), .int, .int, (.object "java/lang/Void")], returnType := none }, accessFlags := 2, code := some k7c7 }
def k7c8 : Code := { maxStack := 2, maxLocals := 3, code := jdk_42_method_151_code, exceptionTable := #[], attributes := #[] }
def k7m8 : Method := { name := "<init>", desc := "([BB)V", sig := { parameters := [(.array .byte), .byte], returnType := none }, accessFlags := 0, code := some k7c8 }
def k7c9 : Code := { maxStack := 1, maxLocals := 1, code := jdk_42_method_152_code, exceptionTable := #[], attributes := #[] }
def k7m9 : Method := { name := "coder", desc := "()B", sig := { parameters := [], returnType := some .byte }, accessFlags := 0, code := some k7c9 }
def k7c10 : Code := { maxStack := 1, maxLocals := 1, code := jdk_42_method_154_code, exceptionTable := #[], attributes := #[] }
def k7m10 : Method := { name := "isLatin1", desc := "()Z", sig := { parameters := [], returnType := some .boolean }, accessFlags := 0, code := some k7c10 }
def k7c11 : Code := { maxStack := 3, maxLocals := 2, code := jdk_42_method_155_code, exceptionTable := #[], attributes := #[] }
def k7m11 : Method := { name := "checkIndex", desc := "(II)V", sig := { parameters := [.int, .int], returnType := none }, accessFlags := 8, code := some k7c11 }
def k7c12 : Code := { maxStack := 4, maxLocals := 3, code := jdk_42_method_158_code, exceptionTable := #[], attributes := #[] }
def k7m12 : Method := { name := "checkBoundsBeginEnd", desc := "(III)V", sig := { parameters := [.int, .int, .int], returnType := none }, accessFlags := 8, code := some k7c12 }
/-- java/lang/String -/
def k7 : Class := { plain "java/lang/String" (some 0) with
  accessFlags := 49
  interfaces := #[2, 3, 4, 5, 6]
  cf := some (fileOf pool7 10 #[.nestMembers #[1103]] #[{ accessFlags := 1, nameIndex := 5, descriptorIndex := 6, attributes := #[] }, { accessFlags := 1, nameIndex := 5, descriptorIndex := 1010, attributes := #[] }, { accessFlags := 1, nameIndex := 507, descriptorIndex := 334, attributes := #[] }, { accessFlags := 1, nameIndex := 497, descriptorIndex := 427, attributes := #[] }, { accessFlags := 1, nameIndex := 543, descriptorIndex := 573, attributes := #[] }, { accessFlags := 1, nameIndex := 683, descriptorIndex := 684, attributes := #[] }, { accessFlags := 9, nameIndex := 782, descriptorIndex := 783, attributes := #[] }, { accessFlags := 2, nameIndex := 5, descriptorIndex := 29, attributes := #[] }, { accessFlags := 0, nameIndex := 5, descriptorIndex := 211, attributes := #[] }, { accessFlags := 0, nameIndex := 17, descriptorIndex := 337, attributes := #[] }, { accessFlags := 0, nameIndex := 494, descriptorIndex := 142, attributes := #[] }, { accessFlags := 8, nameIndex := 501, descriptorIndex := 391, attributes := #[] }, { accessFlags := 8, nameIndex := 523, descriptorIndex := 524, attributes := #[] }] 49 2 #[1106, 1108, 575, 1110, 1112] #[{ accessFlags := 18, nameIndex := 13, descriptorIndex := 14, attributes := #[] }, { accessFlags := 18, nameIndex := 17, descriptorIndex := 18, attributes := #[] }, { accessFlags := 2, nameIndex := 21, descriptorIndex := 22, attributes := #[] }, { accessFlags := 2, nameIndex := 25, descriptorIndex := 26, attributes := #[] }, { accessFlags := 26, nameIndex := 1116, descriptorIndex := 1117, attributes := #[] }, { accessFlags := 24, nameIndex := 40, descriptorIndex := 26, attributes := #[] }, { accessFlags := 26, nameIndex := 1101, descriptorIndex := 1102, attributes := #[] }, { accessFlags := 26, nameIndex := 1121, descriptorIndex := 1122, attributes := #[] }, { accessFlags := 25, nameIndex := 599, descriptorIndex := 600, attributes := #[] }, { accessFlags := 24, nameIndex := 1125, descriptorIndex := 18, attributes := #[] }, { accessFlags := 24, nameIndex := 1127, descriptorIndex := 18, attributes := #[] }])
  fields := #[{ name := "value", type := (.array .byte), accessFlags := 18, slot := 0, constantValue := 0 }, { name := "coder", type := .byte, accessFlags := 18, slot := 1, constantValue := 0 }, { name := "hash", type := .int, accessFlags := 2, slot := 2, constantValue := 0 }, { name := "hashIsZero", type := .boolean, accessFlags := 2, slot := 3, constantValue := 0 }, { name := "serialVersionUID", type := .long, accessFlags := 26, slot := 0, constantValue := 0 }, { name := "COMPACT_STRINGS", type := .boolean, accessFlags := 24, slot := 1, constantValue := 0 }, { name := "serialPersistentFields", type := (.array (.object "java/io/ObjectStreamField")), accessFlags := 26, slot := 2, constantValue := 0 }, { name := "REPL", type := .char, accessFlags := 26, slot := 3, constantValue := 0 }, { name := "CASE_INSENSITIVE_ORDER", type := (.object "java/util/Comparator"), accessFlags := 25, slot := 4, constantValue := 0 }, { name := "LATIN1", type := .byte, accessFlags := 24, slot := 5, constantValue := 0 }, { name := "UTF16", type := .byte, accessFlags := 24, slot := 6, constantValue := 0 }]
  methods := #[k7m0, k7m1, k7m2, k7m3, k7m4, k7m5, k7m6, k7m7, k7m8, k7m9, k7m10, k7m11, k7m12]
  instanceTypes := #[(.array .byte), .byte, .int, .boolean]
  staticTypes := #[.long, .boolean, (.array (.object "java/io/ObjectStreamField")), .char, (.object "java/util/Comparator"), .byte, .byte]
  resolved := Array.replicate 1451 none
  statics := some 0 }

def pool8 : Array CpInfo := pool [(6, .class_ 8), (1, u "java/lang/Object"), (0, u "<init>"), (0, u "()V"), (1, .class_ 14), (1, u "java/lang/StringUTF16"), (31, u "$assertionsDisabled"), (0, u "Z"), (13, u "HI_BYTE_SHIFT"), (0, u "I"), (2, u "LO_BYTE_SHIFT"), (49, .methodref 12 116), (0, .nameAndType 117 118), (0, u "compress"), (0, u "([CI[BII)I"), (3, u "([CII)[B"), (138, u "coderFromArrayLen"), (0, u "([BI)B"), (106, .class_ 371), (1, u "java/lang/StringUTF16$LinesSpliterator"), (58, u "MAX_LENGTH"), (196, .class_ 628), (0, u "java/lang/StringUTF16$CodePointsSpliterator"), (0, .class_ 630), (0, u "java/lang/StringUTF16$CharsSpliterator")] 4

def k8m0 : Method := { name := "<init>", desc := "()V", sig := { parameters := [], returnType := none }, accessFlags := 0, code := none }
def k8c1 : Code := { maxStack := 2, maxLocals := 2, code := jdk_52_method_15_code, exceptionTable := #[], attributes := #[] }
def k8m1 : Method := { name := "coderFromArrayLen", desc := "([BI)B", sig := { parameters := [(.array .byte), .int], returnType := some .byte }, accessFlags := 8, code := some k8c1 }
def k8c2 : Code := { maxStack := 5, maxLocals := 6, code := jdk_52_method_16_code, exceptionTable := #[], attributes := #[] }
def k8m2 : Method := { name := "compress", desc := "([CII)[B", sig := { parameters := [(.array .char), .int, .int], returnType := some (.array .byte) }, accessFlags := 9, code := some k8c2 }
def k8c3 : Code := { maxStack := 3, maxLocals := 7, code := jdk_52_method_21_code, exceptionTable := #[], attributes := #[] }
def k8m3 : Method := { name := "compress", desc := "([CI[BII)I", sig := { parameters := [(.array .char), .int, (.array .byte), .int, .int], returnType := some .int }, accessFlags := 9, code := some k8c3 }
/-- java/lang/StringUTF16 -/
def k8 : Class := { plain "java/lang/StringUTF16" (some 0) with
  accessFlags := 48
  interfaces := #[]
  cf := some (fileOf pool8 12 #[.nestMembers #[627, 629, 369]] #[{ accessFlags := 0, nameIndex := 9, descriptorIndex := 10, attributes := #[] }, { accessFlags := 8, nameIndex := 261, descriptorIndex := 262, attributes := #[] }, { accessFlags := 9, nameIndex := 117, descriptorIndex := 122, attributes := #[] }, { accessFlags := 9, nameIndex := 117, descriptorIndex := 118, attributes := #[] }] 48 6 #[] #[{ accessFlags := 26, nameIndex := 61, descriptorIndex := 62, attributes := #[] }, { accessFlags := 26, nameIndex := 65, descriptorIndex := 62, attributes := #[] }, { accessFlags := 24, nameIndex := 430, descriptorIndex := 62, attributes := #[] }, { accessFlags := 4120, nameIndex := 46, descriptorIndex := 47, attributes := #[] }])
  fields := #[{ name := "HI_BYTE_SHIFT", type := .int, accessFlags := 26, slot := 0, constantValue := 0 }, { name := "LO_BYTE_SHIFT", type := .int, accessFlags := 26, slot := 1, constantValue := 0 }, { name := "MAX_LENGTH", type := .int, accessFlags := 24, slot := 2, constantValue := 0 }, { name := "$assertionsDisabled", type := .boolean, accessFlags := 4120, slot := 3, constantValue := 0 }]
  methods := #[k8m0, k8m1, k8m2, k8m3]
  instanceTypes := #[]
  staticTypes := #[.int, .int, .int, .boolean]
  resolved := Array.replicate 635 none
  statics := none }

def pool9 : Array CpInfo := pool [(1, .class_ 2), (0, u "java/lang/String"), (1, .class_ 6), (1, u "java/lang/Object"), (0, u "<init>"), (0, u "()V"), (0, .methodref 1 10), (0, .nameAndType 11 12), (0, u "checkIndex"), (0, u "(II)V"), (1, .class_ 16), (1, u "java/lang/StringLatin1"), (36, u "([BI)C"), (36, u "canEncode"), (14, u "(C)Z"), (6, .methodref 1 113), (0, .nameAndType 7 114), (0, u "([BB)V"), (6, u "$assertionsDisabled"), (0, u "Z"), (8, .class_ 133), (1, u "java/util/Arrays"), (17, .string 152), (0, u ""), (43, u "newString"), (0, u "([BII)Ljava/lang/String;"), (23, .class_ 223), (1, u "java/lang/StringLatin1$LinesSpliterator"), (8, .methodref 131 233), (0, .nameAndType 234 235), (0, u "copyOfRange"), (0, u "([BII)[B"), (16, u "charAt"), (127, u "toBytes"), (1, u "(C)[B"), (7, .class_ 391), (0, u "java/lang/StringLatin1$CharsSpliterator")] 3

def k9m0 : Method := { name := "<init>", desc := "()V", sig := { parameters := [], returnType := none }, accessFlags := 0, code := none }
def k9c1 : Code := { maxStack := 2, maxLocals := 2, code := jdk_43_method_2_code, exceptionTable := #[], attributes := #[] }
def k9m1 : Method := { name := "charAt", desc := "([BI)C", sig := { parameters := [(.array .byte), .int], returnType := some .char }, accessFlags := 9, code := some k9c1 }
def k9c2 : Code := { maxStack := 2, maxLocals := 1, code := jdk_43_method_3_code, exceptionTable := #[], attributes := #[] }
def k9m2 : Method := { name := "canEncode", desc := "(C)Z", sig := { parameters := [.char], returnType := some .boolean }, accessFlags := 9, code := some k9c2 }
def k9c3 : Code := { maxStack := 4, maxLocals := 1, code := jdk_43_method_46_code, exceptionTable := #[], attributes := #[] }
def k9m3 : Method := { name := "toBytes", desc := "(C)[B", sig := { parameters := [.char], returnType := some (.array .byte) }, accessFlags := 9, code := some k9c3 }
def k9c4 : Code := { maxStack := 6, maxLocals := 3, code := jdk_43_method_47_code, exceptionTable := #[], attributes := #[] }
def k9m4 : Method := { name := "newString", desc := "([BII)Ljava/lang/String;", sig := { parameters := [(.array .byte), .int, .int], returnType := some (.object "java/lang/String") }, accessFlags := 9, code := some k9c4 }
/-- java/lang/StringLatin1 -/
def k9 : Class := { plain "java/lang/StringLatin1" (some 0) with
  accessFlags := 48
  interfaces := #[]
  cf := some (fileOf pool9 14 #[.nestMembers #[390, 221]] #[{ accessFlags := 0, nameIndex := 7, descriptorIndex := 8, attributes := #[] }, { accessFlags := 9, nameIndex := 252, descriptorIndex := 53, attributes := #[] }, { accessFlags := 9, nameIndex := 90, descriptorIndex := 105, attributes := #[] }, { accessFlags := 9, nameIndex := 380, descriptorIndex := 382, attributes := #[] }, { accessFlags := 9, nameIndex := 196, descriptorIndex := 197, attributes := #[] }] 48 4 #[] #[{ accessFlags := 4120, nameIndex := 121, descriptorIndex := 122, attributes := #[] }])
  fields := #[{ name := "$assertionsDisabled", type := .boolean, accessFlags := 4120, slot := 0, constantValue := 0 }]
  methods := #[k9m0, k9m1, k9m2, k9m3, k9m4]
  instanceTypes := #[]
  staticTypes := #[.boolean]
  resolved := Array.replicate 395 none
  statics := none }

def pool10 : Array CpInfo := pool [(1, .methodref 2 3), (0, .class_ 4), (0, .nameAndType 5 6), (0, u "java/lang/Object"), (0, u "<init>"), (0, u "()V"), (0, .fieldref 8 9), (0, .class_ 10), (0, .nameAndType 11 12), (0, u "com/example/tallymark/tallymark/SnapshotJoin$HoldingLine"), (0, u "text"), (0, u "Ljava/lang/String;"), (0, .fieldref 8 14), (0, .nameAndType 15 16), (0, u "userFrom"), (0, u "I"), (0, .fieldref 8 18), (0, .nameAndType 19 16), (0, u "userTo"), (0, .fieldref 8 21), (0, .nameAndType 22 16), (0, u "hostFrom"), (0, .fieldref 8 24), (0, .nameAndType 25 16), (0, u "hostTo"), (0, .fieldref 8 27), (0, .nameAndType 28 12), (0, u "key"), (0, .fieldref 8 30), (0, .nameAndType 31 12), (0, u "feature"), (0, .fieldref 8 33), (0, .nameAndType 34 12), (0, u "server"), (0, .fieldref 8 36), (0, .nameAndType 37 38), (0, u "line"), (0, u "J"), (0, .fieldref 8 40), (0, .nameAndType 41 16), (0, u "licences"), (0, .fieldref 8 43), (0, .nameAndType 44 38), (0, u "start"), (0, .methodref 46 47), (0, .class_ 48), (0, .nameAndType 49 50), (0, u "java/lang/String"), (0, u "substring"), (0, u "(II)Ljava/lang/String;"), (2, u "set"), (0, u "(Ljava/lang/String;IIIILjava/lang/String;Ljava/lang/String;Ljava/lang/String;JIJ)V"), (0, u "user"), (0, u "()Ljava/lang/String;"), (0, u "host"), (3, .class_ 62), (0, u "com/example/tallymark/tallymark/SnapshotJoin")] 2

def k10c0 : Code := { maxStack := 1, maxLocals := 1, code := prog_110_method_1_code, exceptionTable := #[], attributes := #[] }
def k10m0 : Method := { name := "<init>", desc := "()V", sig := { parameters := [], returnType := none }, accessFlags := 0, code := some k10c0 }
def k10c1 : Code := { maxStack := 3, maxLocals := 14, code := prog_110_method_2_code, exceptionTable := #[], attributes := #[] }
def k10m1 : Method := { name := "set", desc := "(Ljava/lang/String;IIIILjava/lang/String;Ljava/lang/String;Ljava/lang/String;JIJ)V", sig := { parameters := [(.object "java/lang/String"), .int, .int, .int, .int, (.object "java/lang/String"), (.object "java/lang/String"), (.object "java/lang/String"), .long, .int, .long], returnType := none }, accessFlags := 0, code := some k10c1 }
def k10c2 : Code := { maxStack := 3, maxLocals := 1, code := prog_110_method_3_code, exceptionTable := #[], attributes := #[] }
def k10m2 : Method := { name := "user", desc := "()Ljava/lang/String;", sig := { parameters := [], returnType := some (.object "java/lang/String") }, accessFlags := 0, code := some k10c2 }
def k10c3 : Code := { maxStack := 3, maxLocals := 1, code := prog_110_method_4_code, exceptionTable := #[], attributes := #[] }
def k10m3 : Method := { name := "host", desc := "()Ljava/lang/String;", sig := { parameters := [], returnType := some (.object "java/lang/String") }, accessFlags := 0, code := some k10c3 }
/-- com/example/tallymark/tallymark/SnapshotJoin$HoldingLine -/
def k10 : Class := { plain "com/example/tallymark/tallymark/SnapshotJoin$HoldingLine" (some 0) with
  accessFlags := 32
  interfaces := #[]
  cf := some (fileOf pool10 8 #[.nestHost 61] #[{ accessFlags := 0, nameIndex := 5, descriptorIndex := 6, attributes := #[] }, { accessFlags := 0, nameIndex := 53, descriptorIndex := 54, attributes := #[] }, { accessFlags := 0, nameIndex := 55, descriptorIndex := 56, attributes := #[] }, { accessFlags := 0, nameIndex := 57, descriptorIndex := 56, attributes := #[] }] 32 2 #[] #[{ accessFlags := 2, nameIndex := 11, descriptorIndex := 12, attributes := #[] }, { accessFlags := 2, nameIndex := 15, descriptorIndex := 16, attributes := #[] }, { accessFlags := 2, nameIndex := 19, descriptorIndex := 16, attributes := #[] }, { accessFlags := 2, nameIndex := 22, descriptorIndex := 16, attributes := #[] }, { accessFlags := 2, nameIndex := 25, descriptorIndex := 16, attributes := #[] }, { accessFlags := 2, nameIndex := 28, descriptorIndex := 12, attributes := #[] }, { accessFlags := 2, nameIndex := 31, descriptorIndex := 12, attributes := #[] }, { accessFlags := 2, nameIndex := 34, descriptorIndex := 12, attributes := #[] }, { accessFlags := 2, nameIndex := 37, descriptorIndex := 38, attributes := #[] }, { accessFlags := 2, nameIndex := 41, descriptorIndex := 16, attributes := #[] }, { accessFlags := 2, nameIndex := 44, descriptorIndex := 38, attributes := #[] }])
  fields := #[{ name := "text", type := (.object "java/lang/String"), accessFlags := 2, slot := 0, constantValue := 0 }, { name := "userFrom", type := .int, accessFlags := 2, slot := 1, constantValue := 0 }, { name := "userTo", type := .int, accessFlags := 2, slot := 2, constantValue := 0 }, { name := "hostFrom", type := .int, accessFlags := 2, slot := 3, constantValue := 0 }, { name := "hostTo", type := .int, accessFlags := 2, slot := 4, constantValue := 0 }, { name := "key", type := (.object "java/lang/String"), accessFlags := 2, slot := 5, constantValue := 0 }, { name := "feature", type := (.object "java/lang/String"), accessFlags := 2, slot := 6, constantValue := 0 }, { name := "server", type := (.object "java/lang/String"), accessFlags := 2, slot := 7, constantValue := 0 }, { name := "line", type := .long, accessFlags := 2, slot := 8, constantValue := 0 }, { name := "licences", type := .int, accessFlags := 2, slot := 9, constantValue := 0 }, { name := "start", type := .long, accessFlags := 2, slot := 10, constantValue := 0 }]
  methods := #[k10m0, k10m1, k10m2, k10m3]
  instanceTypes := #[(.object "java/lang/String"), .int, .int, .int, .int, (.object "java/lang/String"), (.object "java/lang/String"), (.object "java/lang/String"), .long, .int, .long]
  staticTypes := #[]
  resolved := Array.replicate 65 none
  statics := none }

def pool11 : Array CpInfo := pool [(1, .methodref 2 3), (0, .class_ 4), (0, .nameAndType 5 6), (0, u "java/lang/Object"), (0, u "<init>"), (0, u "()V"), (0, .fieldref 8 9), (0, .class_ 10), (0, .nameAndType 11 12), (0, u "com/example/tallymark/tallymark/SnapshotJoin$HoldingLine"), (0, u "feature"), (0, u "Ljava/lang/String;"), (0, .fieldref 14 9), (0, .class_ 15), (0, u "com/example/tallymark/tallymark/SnapshotJoin$Holding"), (0, .methodref 8 17), (0, .nameAndType 18 19), (0, u "user"), (0, u "()Ljava/lang/String;"), (0, .fieldref 14 21), (0, .nameAndType 18 12), (0, .methodref 8 23), (0, .nameAndType 24 19), (0, u "host"), (0, .fieldref 14 26), (0, .nameAndType 24 12), (0, .fieldref 8 28), (0, .nameAndType 29 30), (0, u "start"), (0, u "J"), (0, .fieldref 14 28), (0, .fieldref 14 33), (0, .nameAndType 34 12), (0, u "file"), (0, .fieldref 8 36), (0, .nameAndType 37 30), (0, u "line"), (0, .fieldref 14 36), (0, .fieldref 8 40), (0, .nameAndType 41 42), (0, u "licences"), (0, u "I"), (0, .fieldref 14 40), (0, .fieldref 14 45), (0, .nameAndType 46 30), (0, u "from"), (0, .fieldref 14 48), (0, .nameAndType 49 30), (0, u "shown"), (0, u "(Lcom/example/tallymark/tallymark/SnapshotJoin$HoldingLine;Ljava/lang/String;J)V"), (5, .class_ 57), (0, u "com/example/tallymark/tallymark/SnapshotJoin")] 3

def k11c0 : Code := { maxStack := 3, maxLocals := 5, code := prog_109_method_1_code, exceptionTable := #[], attributes := #[] }
def k11m0 : Method := { name := "<init>", desc := "(Lcom/example/tallymark/tallymark/SnapshotJoin$HoldingLine;Ljava/lang/String;J)V", sig := { parameters := [(.object "com/example/tallymark/tallymark/SnapshotJoin$HoldingLine"), (.object "java/lang/String"), .long], returnType := none }, accessFlags := 0, code := some k11c0 }
/-- com/example/tallymark/tallymark/SnapshotJoin$Holding -/
def k11 : Class := { plain "com/example/tallymark/tallymark/SnapshotJoin$Holding" (some 0) with
  accessFlags := 32
  interfaces := #[]
  cf := some (fileOf pool11 14 #[.nestHost 56] #[{ accessFlags := 0, nameIndex := 5, descriptorIndex := 50, attributes := #[] }] 32 2 #[] #[{ accessFlags := 16, nameIndex := 11, descriptorIndex := 12, attributes := #[] }, { accessFlags := 16, nameIndex := 18, descriptorIndex := 12, attributes := #[] }, { accessFlags := 16, nameIndex := 24, descriptorIndex := 12, attributes := #[] }, { accessFlags := 16, nameIndex := 29, descriptorIndex := 30, attributes := #[] }, { accessFlags := 0, nameIndex := 34, descriptorIndex := 12, attributes := #[] }, { accessFlags := 0, nameIndex := 37, descriptorIndex := 30, attributes := #[] }, { accessFlags := 0, nameIndex := 41, descriptorIndex := 42, attributes := #[] }, { accessFlags := 0, nameIndex := 46, descriptorIndex := 30, attributes := #[] }, { accessFlags := 0, nameIndex := 49, descriptorIndex := 30, attributes := #[] }])
  fields := #[{ name := "feature", type := (.object "java/lang/String"), accessFlags := 16, slot := 0, constantValue := 0 }, { name := "user", type := (.object "java/lang/String"), accessFlags := 16, slot := 1, constantValue := 0 }, { name := "host", type := (.object "java/lang/String"), accessFlags := 16, slot := 2, constantValue := 0 }, { name := "start", type := .long, accessFlags := 16, slot := 3, constantValue := 0 }, { name := "file", type := (.object "java/lang/String"), accessFlags := 0, slot := 4, constantValue := 0 }, { name := "line", type := .long, accessFlags := 0, slot := 5, constantValue := 0 }, { name := "licences", type := .int, accessFlags := 0, slot := 6, constantValue := 0 }, { name := "from", type := .long, accessFlags := 0, slot := 7, constantValue := 0 }, { name := "shown", type := .long, accessFlags := 0, slot := 8, constantValue := 0 }]
  methods := #[k11m0]
  instanceTypes := #[(.object "java/lang/String"), (.object "java/lang/String"), (.object "java/lang/String"), .long, (.object "java/lang/String"), .long, .int, .long, .long]
  staticTypes := #[]
  resolved := Array.replicate 61 none
  statics := none }

def pool12 : Array CpInfo := pool [(2, .class_ 4), (1, u "java/lang/Object"), (0, u "<init>"), (0, u "()V"), (17, .class_ 26), (1, u "jdk/internal/util/Preconditions"), (6, u "checkIndex"), (13, u "checkFromToIndex"), (7, .class_ 56), (0, u "jdk/internal/util/Preconditions$4"), (57, .class_ 115), (0, u "jdk/internal/util/Preconditions$1"), (7, u "SIOOBE_FORMATTER"), (0, u "Ljava/util/function/BiFunction;"), (0, .class_ 126), (0, u "jdk/internal/util/Preconditions$2"), (3, u "AIOOBE_FORMATTER"), (0, .class_ 132), (0, u "jdk/internal/util/Preconditions$3"), (3, u "IOOBE_FORMATTER"), (41, u "(IILjava/util/function/BiFunction;)I"), (4, u "(IIILjava/util/function/BiFunction;)I")] 10

def k12m0 : Method := { name := "<init>", desc := "()V", sig := { parameters := [], returnType := none }, accessFlags := 1, code := none }
def k12c1 : Code := { maxStack := 3, maxLocals := 3, code := jdk_41_method_11_code, exceptionTable := #[], attributes := #[] }
def k12m1 : Method := { name := "checkIndex", desc := "(IILjava/util/function/BiFunction;)I", sig := { parameters := [.int, .int, (.object "java/util/function/BiFunction")], returnType := some .int }, accessFlags := 9, code := some k12c1 }
def k12c2 : Code := { maxStack := 4, maxLocals := 4, code := jdk_41_method_12_code, exceptionTable := #[], attributes := #[] }
def k12m2 : Method := { name := "checkFromToIndex", desc := "(IIILjava/util/function/BiFunction;)I", sig := { parameters := [.int, .int, .int, (.object "java/util/function/BiFunction")], returnType := some .int }, accessFlags := 9, code := some k12c2 }
/-- jdk/internal/util/Preconditions -/
def k12 : Class := { plain "jdk/internal/util/Preconditions" (some 0) with
  accessFlags := 33
  interfaces := #[]
  cf := some (fileOf pool12 24 #[.nestMembers #[55, 131, 125, 114]] #[{ accessFlags := 1, nameIndex := 5, descriptorIndex := 6, attributes := #[] }, { accessFlags := 9, nameIndex := 33, descriptorIndex := 178, attributes := #[] }, { accessFlags := 9, nameIndex := 47, descriptorIndex := 183, attributes := #[] }] 33 2 #[] #[{ accessFlags := 25, nameIndex := 123, descriptorIndex := 124, attributes := #[] }, { accessFlags := 25, nameIndex := 130, descriptorIndex := 124, attributes := #[] }, { accessFlags := 25, nameIndex := 136, descriptorIndex := 124, attributes := #[] }])
  fields := #[{ name := "SIOOBE_FORMATTER", type := (.object "java/util/function/BiFunction"), accessFlags := 25, slot := 0, constantValue := 0 }, { name := "AIOOBE_FORMATTER", type := (.object "java/util/function/BiFunction"), accessFlags := 25, slot := 1, constantValue := 0 }, { name := "IOOBE_FORMATTER", type := (.object "java/util/function/BiFunction"), accessFlags := 25, slot := 2, constantValue := 0 }]
  methods := #[k12m0, k12m1, k12m2]
  instanceTypes := #[]
  staticTypes := #[(.object "java/util/function/BiFunction"), (.object "java/util/function/BiFunction"), (.object "java/util/function/BiFunction")]
  resolved := Array.replicate 194 none
  statics := some 1 }

def pool13 : Array CpInfo := pool [(2, .class_ 4), (1, u "java/lang/Object"), (0, u "<init>"), (0, u "()V"), (7, .class_ 16), (1, u "java/util/Arrays"), (57, .class_ 76), (1, u "java/util/Arrays$NaturalOrder"), (36, .class_ 115), (1, u "java/util/Arrays$LegacyMergeSort"), (1, u "Z"), (21, u "copyOfRange"), (10, .methodref 151 152), (0, .class_ 153), (0, .nameAndType 154 155), (0, u "java/lang/System"), (0, u "arraycopy"), (0, u "(Ljava/lang/Object;ILjava/lang/Object;II)V"), (148, .methodref 305 306), (0, .class_ 307), (0, .nameAndType 308 309), (0, u "java/lang/Math"), (0, u "min"), (0, u "(II)I"), (29, .methodref 14 340), (0, .nameAndType 341 342), (0, u "copyOfRangeByte"), (0, u "([BII)[B"), (0, .methodref 14 344), (0, .nameAndType 345 346), (0, u "checkLength"), (0, u "(II)V"), (28, .class_ 376), (0, u "java/util/Arrays$ArrayList"), (68, u "$assertionsDisabled"), (269, u "MIN_ARRAY_SORT_GRAN"), (0, u "I"), (2, u "INSERTIONSORT_THRESHOLD"), (255, .class_ 976), (0, u "java/util/Arrays$ArrayItr")] 52

def k13m0 : Method := { name := "<init>", desc := "()V", sig := { parameters := [], returnType := none }, accessFlags := 2, code := none }
def k13c1 : Code := { maxStack := 4, maxLocals := 2, code := jdk_65_method_131_code, exceptionTable := #[], attributes := #[] }
def k13m1 : Method := { name := "checkLength", desc := "(II)V", sig := { parameters := [.int, .int], returnType := none }, accessFlags := 10, code := some k13c1 }
def k13c2 : Code := { maxStack := 3, maxLocals := 3, code := jdk_65_method_132_code, exceptionTable := #[], attributes := #[] }
def k13m2 : Method := { name := "copyOfRange", desc := "([BII)[B", sig := { parameters := [(.array .byte), .int, .int], returnType := some (.array .byte) }, accessFlags := 9, code := some k13c2 }
def k13c3 : Code := { maxStack := 6, maxLocals := 5, code := jdk_65_method_133_code, exceptionTable := #[], attributes := #[] }
def k13m3 : Method := { name := "copyOfRangeByte", desc := "([BII)[B", sig := { parameters := [(.array .byte), .int, .int], returnType := some (.array .byte) }, accessFlags := 10, code := some k13c3 }
/-- java/util/Arrays -/
def k13 : Class := { plain "java/util/Arrays" (some 0) with
  accessFlags := 49
  interfaces := #[]
  cf := some (fileOf pool13 14 #[.nestMembers #[975, 375, 113, 74]] #[{ accessFlags := 2, nameIndex := 5, descriptorIndex := 6, attributes := #[] }, { accessFlags := 10, nameIndex := 345, descriptorIndex := 346, attributes := #[] }, { accessFlags := 9, nameIndex := 139, descriptorIndex := 342, attributes := #[] }, { accessFlags := 10, nameIndex := 341, descriptorIndex := 342, attributes := #[] }] 49 2 #[] #[{ accessFlags := 26, nameIndex := 715, descriptorIndex := 716, attributes := #[] }, { accessFlags := 26, nameIndex := 719, descriptorIndex := 716, attributes := #[] }, { accessFlags := 4120, nameIndex := 445, descriptorIndex := 117, attributes := #[] }])
  fields := #[{ name := "MIN_ARRAY_SORT_GRAN", type := .int, accessFlags := 26, slot := 0, constantValue := 0 }, { name := "INSERTIONSORT_THRESHOLD", type := .int, accessFlags := 26, slot := 1, constantValue := 0 }, { name := "$assertionsDisabled", type := .boolean, accessFlags := 4120, slot := 2, constantValue := 0 }]
  methods := #[k13m0, k13m1, k13m2, k13m3]
  instanceTypes := #[]
  staticTypes := #[.int, .int, .boolean]
  resolved := Array.replicate 1029 none
  statics := none }

def pool14 : Array CpInfo := pool [(1, .class_ 2), (0, u "java/lang/Math"), (1, .class_ 6), (1, u "java/lang/Object"), (0, u "<init>"), (0, u "()V"), (89, .class_ 100), (1, u "java/lang/Math$RandomNumberGeneratorHolder"), (71, u "negativeZeroFloatBits"), (0, u "J"), (2, u "negativeZeroDoubleBits"), (24, u "min"), (43, u "$assertionsDisabled"), (0, u "Z"), (88, u "(II)I"), (2, u "twoToTheDoubleScaleDown"), (0, u "D"), (4, u "twoToTheDoubleScaleUp"), (9, u "E"), (3, u "PI"), (2, u "TAU"), (2, u "DEGREES_TO_RADIANS"), (0, u "RADIANS_TO_DEGREES")] 94

def k14m0 : Method := { name := "<init>", desc := "()V", sig := { parameters := [], returnType := none }, accessFlags := 2, code := none }
def k14c1 : Code := { maxStack := 2, maxLocals := 2, code := jdk_29_method_69_code, exceptionTable := #[], attributes := #[] }
def k14m1 : Method := { name := "min", desc := "(II)I", sig := { parameters := [.int, .int], returnType := some .int }, accessFlags := 9, code := some k14c1 }
/-- java/lang/Math -/
def k14 : Class := { plain "java/lang/Math" (some 0) with
  accessFlags := 49
  interfaces := #[]
  cf := some (fileOf pool14 1 #[.nestMembers #[98]] #[{ accessFlags := 2, nameIndex := 7, descriptorIndex := 8, attributes := #[] }, { accessFlags := 9, nameIndex := 201, descriptorIndex := 335, attributes := #[] }] 49 4 #[] #[{ accessFlags := 25, nameIndex := 354, descriptorIndex := 339, attributes := #[] }, { accessFlags := 25, nameIndex := 358, descriptorIndex := 339, attributes := #[] }, { accessFlags := 25, nameIndex := 361, descriptorIndex := 339, attributes := #[] }, { accessFlags := 26, nameIndex := 364, descriptorIndex := 339, attributes := #[] }, { accessFlags := 26, nameIndex := 365, descriptorIndex := 339, attributes := #[] }, { accessFlags := 26, nameIndex := 172, descriptorIndex := 173, attributes := #[] }, { accessFlags := 26, nameIndex := 176, descriptorIndex := 173, attributes := #[] }, { accessFlags := 8, nameIndex := 344, descriptorIndex := 339, attributes := #[] }, { accessFlags := 8, nameIndex := 338, descriptorIndex := 339, attributes := #[] }, { accessFlags := 4120, nameIndex := 245, descriptorIndex := 246, attributes := #[] }])
  fields := #[{ name := "E", type := .double, accessFlags := 25, slot := 0, constantValue := 0 }, { name := "PI", type := .double, accessFlags := 25, slot := 1, constantValue := 0 }, { name := "TAU", type := .double, accessFlags := 25, slot := 2, constantValue := 0 }, { name := "DEGREES_TO_RADIANS", type := .double, accessFlags := 26, slot := 3, constantValue := 0 }, { name := "RADIANS_TO_DEGREES", type := .double, accessFlags := 26, slot := 4, constantValue := 0 }, { name := "negativeZeroFloatBits", type := .long, accessFlags := 26, slot := 5, constantValue := 0 }, { name := "negativeZeroDoubleBits", type := .long, accessFlags := 26, slot := 6, constantValue := 0 }, { name := "twoToTheDoubleScaleUp", type := .double, accessFlags := 8, slot := 7, constantValue := 0 }, { name := "twoToTheDoubleScaleDown", type := .double, accessFlags := 8, slot := 8, constantValue := 0 }, { name := "$assertionsDisabled", type := .boolean, accessFlags := 4120, slot := 9, constantValue := 0 }]
  methods := #[k14m0, k14m1]
  instanceTypes := #[]
  staticTypes := #[.double, .double, .double, .double, .double, .long, .long, .double, .double, .boolean]
  resolved := Array.replicate 460 none
  statics := none }

def pool15 : Array CpInfo := pool [(2, .class_ 4), (1, u "java/lang/Object"), (0, u "<init>"), (0, u "()V"), (1, .class_ 10), (1, u "java/lang/System"), (0, u "allowSecurityManager"), (0, u "I"), (16, u "cons"), (0, u "Ljava/io/Console;"), (77, .class_ 110), (1, u "java/lang/System$CallersHolder"), (43, u "initialErrStream"), (0, u "Ljava/io/PrintStream;"), (19, u "security"), (0, u "Ljava/lang/SecurityManager;"), (31, .class_ 209), (0, u "java/lang/System$1"), (7, u "props"), (0, u "Ljava/util/Properties;"), (2, u "lineSeparator"), (0, u "Ljava/lang/String;"), (96, .class_ 321), (1, u "java/lang/System$LoggerFinder"), (5, .class_ 328), (0, u "java/lang/System$Logger"), (67, u "err"), (2, u "out"), (91, u "notSupportedJnuEncoding"), (15, u "in"), (17, u "initialIn"), (0, u "Ljava/io/InputStream;"), (35, u "bootLayer"), (0, u "Ljava/lang/ModuleLayer;"), (99, .class_ 664), (0, u "java/lang/System$2"), (9, u "NEVER"), (2, u "MAYBE"), (49, u "arraycopy"), (0, u "(Ljava/lang/Object;ILjava/lang/Object;II)V"), (72, .class_ 802), (0, u "java/lang/System$Logger$Level")] 31

def k15m0 : Method := { name := "<init>", desc := "()V", sig := { parameters := [], returnType := none }, accessFlags := 2, code := none }
def k15m1 : Method := { name := "arraycopy", desc := "(Ljava/lang/Object;ILjava/lang/Object;II)V", sig := { parameters := [(.object "java/lang/Object"), .int, (.object "java/lang/Object"), .int, .int], returnType := none }, accessFlags := 265, code := none }
/-- java/lang/System -/
def k15 : Class := { plain "java/lang/System" (some 0) with
  accessFlags := 49
  interfaces := #[]
  cf := some (fileOf pool15 8 #[.nestMembers #[319, 327, 801, 108, 663, 208]] #[{ accessFlags := 2, nameIndex := 5, descriptorIndex := 6, attributes := #[] }, { accessFlags := 265, nameIndex := 727, descriptorIndex := 728, attributes := #[] }] 49 2 #[] #[{ accessFlags := 25, nameIndex := 507, descriptorIndex := 526, attributes := #[] }, { accessFlags := 25, nameIndex := 399, descriptorIndex := 155, attributes := #[] }, { accessFlags := 25, nameIndex := 396, descriptorIndex := 155, attributes := #[] }, { accessFlags := 10, nameIndex := 525, descriptorIndex := 526, attributes := #[] }, { accessFlags := 26, nameIndex := 674, descriptorIndex := 12, attributes := #[] }, { accessFlags := 26, nameIndex := 677, descriptorIndex := 12, attributes := #[] }, { accessFlags := 10, nameIndex := 11, descriptorIndex := 12, attributes := #[] }, { accessFlags := 74, nameIndex := 175, descriptorIndex := 176, attributes := #[] }, { accessFlags := 10, nameIndex := 491, descriptorIndex := 222, attributes := #[] }, { accessFlags := 74, nameIndex := 29, descriptorIndex := 30, attributes := #[] }, { accessFlags := 74, nameIndex := 154, descriptorIndex := 155, attributes := #[] }, { accessFlags := 10, nameIndex := 217, descriptorIndex := 218, attributes := #[] }, { accessFlags := 10, nameIndex := 221, descriptorIndex := 222, attributes := #[] }, { accessFlags := 8, nameIndex := 562, descriptorIndex := 563, attributes := #[] }])
  fields := #[{ name := "in", type := (.object "java/io/InputStream"), accessFlags := 25, slot := 0, constantValue := 0 }, { name := "out", type := (.object "java/io/PrintStream"), accessFlags := 25, slot := 1, constantValue := 0 }, { name := "err", type := (.object "java/io/PrintStream"), accessFlags := 25, slot := 2, constantValue := 0 }, { name := "initialIn", type := (.object "java/io/InputStream"), accessFlags := 10, slot := 3, constantValue := 0 }, { name := "NEVER", type := .int, accessFlags := 26, slot := 4, constantValue := 0 }, { name := "MAYBE", type := .int, accessFlags := 26, slot := 5, constantValue := 0 }, { name := "allowSecurityManager", type := .int, accessFlags := 10, slot := 6, constantValue := 0 }, { name := "security", type := (.object "java/lang/SecurityManager"), accessFlags := 74, slot := 7, constantValue := 0 }, { name := "notSupportedJnuEncoding", type := (.object "java/lang/String"), accessFlags := 10, slot := 8, constantValue := 0 }, { name := "cons", type := (.object "java/io/Console"), accessFlags := 74, slot := 9, constantValue := 0 }, { name := "initialErrStream", type := (.object "java/io/PrintStream"), accessFlags := 74, slot := 10, constantValue := 0 }, { name := "props", type := (.object "java/util/Properties"), accessFlags := 10, slot := 11, constantValue := 0 }, { name := "lineSeparator", type := (.object "java/lang/String"), accessFlags := 10, slot := 12, constantValue := 0 }, { name := "bootLayer", type := (.object "java/lang/ModuleLayer"), accessFlags := 8, slot := 13, constantValue := 0 }]
  methods := #[k15m0, k15m1]
  instanceTypes := #[]
  staticTypes := #[(.object "java/io/InputStream"), (.object "java/io/PrintStream"), (.object "java/io/PrintStream"), (.object "java/io/InputStream"), .int, .int, .int, (.object "java/lang/SecurityManager"), (.object "java/lang/String"), (.object "java/io/Console"), (.object "java/io/PrintStream"), (.object "java/util/Properties"), (.object "java/lang/String"), (.object "java/lang/ModuleLayer")]
  resolved := Array.replicate 834 none
  statics := none }

def pool16 : Array CpInfo := pool [(9, u "<init>"), (6, .class_ 18), (1, u "java/lang/Object"), (0, u "()V"), (1, .class_ 23), (1, u "jdk/internal/util/ArraysSupport"), (0, u "LOG2_ARRAY_LONG_INDEX_SCALE"), (0, u "I"), (2, u "U"), (0, u "Ljdk/internal/misc/Unsafe;"), (8, u "BIG_ENDIAN"), (0, u "Z"), (8, u "LOG2_BYTE_BIT_SIZE"), (4, u "LOG2_ARRAY_INT_INDEX_SCALE"), (54, u "JLA"), (0, u "Ljdk/internal/access/JavaLangAccess;"), (11, u "LOG2_ARRAY_BOOLEAN_INDEX_SCALE"), (9, u "LOG2_ARRAY_BYTE_INDEX_SCALE"), (5, u "LOG2_ARRAY_CHAR_INDEX_SCALE"), (5, u "LOG2_ARRAY_SHORT_INDEX_SCALE"), (18, u "LOG2_ARRAY_FLOAT_INDEX_SCALE"), (24, u "LOG2_ARRAY_DOUBLE_INDEX_SCALE"), (89, u "T_BOOLEAN"), (2, u "T_CHAR"), (1, u "T_FLOAT"), (1, u "T_DOUBLE"), (1, u "T_BYTE"), (1, u "T_SHORT"), (1, u "T_INT"), (1, u "T_LONG"), (1, u "SOFT_MAX_ARRAY_LENGTH")] 83

def k16m0 : Method := { name := "<init>", desc := "()V", sig := { parameters := [], returnType := none }, accessFlags := 2, code := none }
/-- jdk/internal/util/ArraysSupport -/
def k16 : Class := { plain "jdk/internal/util/ArraysSupport" (some 0) with
  accessFlags := 33
  interfaces := #[]
  cf := some (fileOf pool16 21 #[] #[{ accessFlags := 2, nameIndex := 9, descriptorIndex := 19, attributes := #[] }] 33 16 #[] #[{ accessFlags := 24, nameIndex := 28, descriptorIndex := 29, attributes := #[] }, { accessFlags := 26, nameIndex := 38, descriptorIndex := 39, attributes := #[] }, { accessFlags := 25, nameIndex := 121, descriptorIndex := 25, attributes := #[] }, { accessFlags := 25, nameIndex := 131, descriptorIndex := 25, attributes := #[] }, { accessFlags := 25, nameIndex := 137, descriptorIndex := 25, attributes := #[] }, { accessFlags := 25, nameIndex := 143, descriptorIndex := 25, attributes := #[] }, { accessFlags := 25, nameIndex := 53, descriptorIndex := 25, attributes := #[] }, { accessFlags := 25, nameIndex := 24, descriptorIndex := 25, attributes := #[] }, { accessFlags := 25, nameIndex := 162, descriptorIndex := 25, attributes := #[] }, { accessFlags := 25, nameIndex := 187, descriptorIndex := 25, attributes := #[] }, { accessFlags := 26, nameIndex := 48, descriptorIndex := 25, attributes := #[] }, { accessFlags := 25, nameIndex := 277, descriptorIndex := 25, attributes := #[] }, { accessFlags := 25, nameIndex := 280, descriptorIndex := 25, attributes := #[] }, { accessFlags := 25, nameIndex := 282, descriptorIndex := 25, attributes := #[] }, { accessFlags := 25, nameIndex := 284, descriptorIndex := 25, attributes := #[] }, { accessFlags := 25, nameIndex := 286, descriptorIndex := 25, attributes := #[] }, { accessFlags := 25, nameIndex := 288, descriptorIndex := 25, attributes := #[] }, { accessFlags := 25, nameIndex := 290, descriptorIndex := 25, attributes := #[] }, { accessFlags := 25, nameIndex := 292, descriptorIndex := 25, attributes := #[] }, { accessFlags := 26, nameIndex := 108, descriptorIndex := 109, attributes := #[] }, { accessFlags := 25, nameIndex := 294, descriptorIndex := 25, attributes := #[] }])
  fields := #[{ name := "U", type := (.object "jdk/internal/misc/Unsafe"), accessFlags := 24, slot := 0, constantValue := 0 }, { name := "BIG_ENDIAN", type := .boolean, accessFlags := 26, slot := 1, constantValue := 0 }, { name := "LOG2_ARRAY_BOOLEAN_INDEX_SCALE", type := .int, accessFlags := 25, slot := 2, constantValue := 0 }, { name := "LOG2_ARRAY_BYTE_INDEX_SCALE", type := .int, accessFlags := 25, slot := 3, constantValue := 0 }, { name := "LOG2_ARRAY_CHAR_INDEX_SCALE", type := .int, accessFlags := 25, slot := 4, constantValue := 0 }, { name := "LOG2_ARRAY_SHORT_INDEX_SCALE", type := .int, accessFlags := 25, slot := 5, constantValue := 0 }, { name := "LOG2_ARRAY_INT_INDEX_SCALE", type := .int, accessFlags := 25, slot := 6, constantValue := 0 }, { name := "LOG2_ARRAY_LONG_INDEX_SCALE", type := .int, accessFlags := 25, slot := 7, constantValue := 0 }, { name := "LOG2_ARRAY_FLOAT_INDEX_SCALE", type := .int, accessFlags := 25, slot := 8, constantValue := 0 }, { name := "LOG2_ARRAY_DOUBLE_INDEX_SCALE", type := .int, accessFlags := 25, slot := 9, constantValue := 0 }, { name := "LOG2_BYTE_BIT_SIZE", type := .int, accessFlags := 26, slot := 10, constantValue := 0 }, { name := "T_BOOLEAN", type := .int, accessFlags := 25, slot := 11, constantValue := 0 }, { name := "T_CHAR", type := .int, accessFlags := 25, slot := 12, constantValue := 0 }, { name := "T_FLOAT", type := .int, accessFlags := 25, slot := 13, constantValue := 0 }, { name := "T_DOUBLE", type := .int, accessFlags := 25, slot := 14, constantValue := 0 }, { name := "T_BYTE", type := .int, accessFlags := 25, slot := 15, constantValue := 0 }, { name := "T_SHORT", type := .int, accessFlags := 25, slot := 16, constantValue := 0 }, { name := "T_INT", type := .int, accessFlags := 25, slot := 17, constantValue := 0 }, { name := "T_LONG", type := .int, accessFlags := 25, slot := 18, constantValue := 0 }, { name := "JLA", type := (.object "jdk/internal/access/JavaLangAccess"), accessFlags := 26, slot := 19, constantValue := 0 }, { name := "SOFT_MAX_ARRAY_LENGTH", type := .int, accessFlags := 25, slot := 20, constantValue := 0 }]
  methods := #[k16m0]
  instanceTypes := #[]
  staticTypes := #[(.object "jdk/internal/misc/Unsafe"), .boolean, .int, .int, .int, .int, .int, .int, .int, .int, .int, .int, .int, .int, .int, .int, .int, .int, .int, (.object "jdk/internal/access/JavaLangAccess"), .int]
  resolved := Array.replicate 378 none
  statics := none }

def pool17 : Array CpInfo := pool [(2, .class_ 4), (1, u "java/lang/Object"), (6, .class_ 13), (1, u "com/example/tallymark/tallymark/SnapshotJoin"), (0, u "session"), (0, u "Lcom/example/tallymark/tallymark/InputSession;"), (2, u "sink"), (0, u "Ljava/util/function/Consumer;"), (5, .class_ 27), (1, u "com/example/tallymark/tallymark/SnapshotJoin$Holding"), (59, .class_ 88), (0, u "com/example/tallymark/tallymark/SnapshotJoin$None"), (3, u "NONE"), (0, u "Lcom/example/tallymark/tallymark/SnapshotJoin;"), (20, .class_ 115), (0, u "com/example/tallymark/tallymark/SnapshotJoin$Backward"), (0, .class_ 117), (0, u "com/example/tallymark/tallymark/SnapshotJoin$Backward$Seen"), (0, .class_ 119), (0, u "com/example/tallymark/tallymark/SnapshotJoin$Forward"), (0, .class_ 121), (0, u "com/example/tallymark/tallymark/SnapshotJoin$Forward$Open"), (0, .class_ 123), (0, u "com/example/tallymark/tallymark/SnapshotJoin$HoldingLine")] 25

/-- com/example/tallymark/tallymark/SnapshotJoin -/
def k17 : Class := { plain "com/example/tallymark/tallymark/SnapshotJoin" (some 0) with
  accessFlags := 1056
  interfaces := #[]
  cf := some (fileOf pool17 11 #[.nestMembers #[114, 116, 118, 120, 87, 25, 122]] #[] 1056 2 #[] #[{ accessFlags := 18, nameIndex := 18, descriptorIndex := 19, attributes := #[] }, { accessFlags := 18, nameIndex := 14, descriptorIndex := 15, attributes := #[] }, { accessFlags := 24, nameIndex := 92, descriptorIndex := 93, attributes := #[] }])
  fields := #[{ name := "sink", type := (.object "java/util/function/Consumer"), accessFlags := 18, slot := 0, constantValue := 0 }, { name := "session", type := (.object "com/example/tallymark/tallymark/InputSession"), accessFlags := 18, slot := 1, constantValue := 0 }, { name := "NONE", type := (.object "com/example/tallymark/tallymark/SnapshotJoin"), accessFlags := 24, slot := 0, constantValue := 0 }]
  methods := #[]
  instanceTypes := #[(.object "java/util/function/Consumer"), (.object "com/example/tallymark/tallymark/InputSession")]
  staticTypes := #[(.object "com/example/tallymark/tallymark/SnapshotJoin")]
  resolved := Array.replicate 149 none
  statics := none }

def pool18 : Array CpInfo := pool [(1, u "java/lang/Cloneable"), (0, .class_ 1), (0, u "java/lang/Object"), (0, .class_ 3)] 3

/-- java/lang/Cloneable -/
def k18 : Class := { plain "java/lang/Cloneable" (some 0) with
  accessFlags := 1537
  interfaces := #[]
  cf := some (fileOf pool18 2 #[] #[] 1537 4 #[] #[])
  fields := #[]
  methods := #[]
  instanceTypes := #[]
  staticTypes := #[]
  resolved := Array.replicate 8 none
  statics := none }

/-- the primitive byte -/
def k19 : Class := { plain "byte" none with kind := .primitive 'B', accessFlags := 0x411 }
/-- [B -/
def k20 : Class := { plain "[B" (some 0) with kind := .array 19 .byte, interfaces := #[18, 2], accessFlags := 1041 }

/-- the primitive char -/
def k21 : Class := { plain "char" none with kind := .primitive 'C', accessFlags := 0x411 }
/-- [C -/
def k22 : Class := { plain "[C" (some 0) with kind := .array 21 .char, interfaces := #[18, 2], accessFlags := 1041 }

/-- the primitive int -/
def k23 : Class := { plain "int" none with kind := .primitive 'I', accessFlags := 0x411 }
/-- [I -/
def k24 : Class := { plain "[I" (some 0) with kind := .array 23 .int, interfaces := #[18, 2], accessFlags := 1041 }

/-- [Lcom/example/tallymark/tallymark/SnapshotJoin; -/
def k25 : Class := { plain "[Lcom/example/tallymark/tallymark/SnapshotJoin;" (some 0) with kind := .array 17 (.object "com/example/tallymark/tallymark/SnapshotJoin"), interfaces := #[18, 2], accessFlags := 1041 }

def heap : Heap := #[{ cls := 7, slots := #[.long 0, .int 1, .null, .int 0, .null, .int 0, .int 0], vm := .statics 7 },
  { cls := 12, slots := #[.null, .null, .null], vm := .statics 12 },
  { cls := 25, slots := #[], vm := .none }]
def classes : Array Class := #[k0, k1, k2, k3, k4, k5, k6, k7, k8, k9, k10, k11, k12, k13, k14, k15, k16, k17, k18, k19, k20, k21, k22, k23, k24, k25]
def interned : List (Array UInt16 × Addr) := []
def slotsUsed : Nat := 10
def theMethod : MethodId := ⟨1, 1⟩
def args0 : Array Value := #[.int 1, .int 2, .int 3, .long 4, .long 5, .int 6]
def aboutOver (below : List Frame) : State where
  vm := { classes := classes, interned := interned.toArray }
  heap := heap
  slotsUsed := slotsUsed
  threads := #[{ frames := .invoking theMethod args0 :: below }]
def below0 : List Frame := [.native { method := ⟨0, 0⟩, args := #[] }]
def about1 : State := aboutOver below0
def p0 : Program := .bare "" "" ""
def e0 : Env := launch0.env 0 0 0
theorem w_frames : about1.frames = Frame.invoking theMethod args0 :: below0 := rfl
set_option maxRecDepth 65536 in
theorem w_args : argsFit about1.vm theMethod args0 = true := by decide +kernel
set_option maxRecDepth 65536 in
theorem w_heap : heapFits about1 = true := by decide +kernel
set_option maxRecDepth 65536 in
theorem w_runnable : about1.curStatus? = some .runnable := by decide +kernel
set_option maxRecDepth 65536 in
theorem w_alone : about1.alone = true := by decide +kernel
set_option maxRecDepth 65536 in
theorem w_named : about1.methodNamed? x = some theMethod := by decide +kernel
set_option maxRecDepth 65536 in
theorem w_hears : about1.hears theMethod below0 = true := by decide +kernel
set_option maxRecDepth 65536 in
theorem w_ripe : about1.ripe theMethod args0 below0 = true := by decide +kernel
theorem w_running : about1.status = .running := rfl
set_option maxRecDepth 65536 in
theorem w_room : about1.hasRoom e0.platform room_1 = true :=
  launch0.hasRoom_least _ room_1 (by decide +kernel) (by decide +kernel) (by decide +kernel) (by decide +kernel) (by decide +kernel) (by decide +kernel)
theorem allAtoms_all (ts : List Jvm.Cond) (a : Array Jvm.Value) (st : Jvm.State) : (allAtoms ts).before a st = ts.all (fun c => c.before a st) := by
  induction ts with
  | nil => rfl
  | cons c t ih =>
    show (Jvm.Cond.and c (allAtoms t)).before a st = _
    rw [Jvm.Cond.before_and, ih, List.all_cons]
def words1 : List Jvm.Cond := Jvm.Cond.code x code maxLocals ret :: tables_1
/-- a 'code' word, met by the world's own term for the bytes: nothing is compared byte by byte -/
theorem code_word {y : MethodName} {bytes : ByteArray} {mx : Nat} {rt : Option FieldType} {a : Array Value} {s : State} {m : MethodId} {meth : Method} {c : Code} (h1 : s.methodNamed? y = some m) (h2 : s.vm.method? m = some meth) (h3 : meth.code = some c) (h4 : c.code = bytes)
    (h5 : (c.maxLocals == mx && c.exceptionTable.isEmpty && decide (c.maxStack ≤ mostOperands) && decide (meth.sig.returnType = rt) && !meth.locks && decide (parseMethodDescriptor y.desc = some meth.sig)) = true) : (Jvm.Cond.code y bytes mx rt).before a s = true := by
  simp only [Bool.and_eq_true, beq_iff_eq, Bool.not_eq_true', decide_eq_true_eq] at h5
  obtain ⟨⟨⟨⟨⟨g1, g2⟩, g3⟩, g4⟩, g5⟩, g6⟩ := h5
  simp [Cond.before, Cond.holds, Cond.value, h1, h2, h3, h4, g1, g2, g3, g4, g5, g6]
def isCode : Jvm.Cond → Bool
  | .code _ _ _ _ => true
  | _ => false
theorem all_split {L : List Jvm.Cond} {P : Jvm.Cond → Bool} (h1 : L.all (fun c => isCode c || P c) = true) (h2 : ∀ c ∈ L.filter isCode, P c = true) : L.all P = true := by
  refine List.all_eq_true.mpr fun c hc => ?_
  have h := List.all_eq_true.mp h1 c hc
  rcases Bool.eq_false_or_eq_true (isCode c) with hi | hi
  · exact h2 c (List.mem_filter.mpr ⟨hc, hi⟩)
  · simpa [hi] using h
set_option maxRecDepth 65536 in
theorem w_c0 : (Jvm.Cond.code x code maxLocals ret).before args0 about1 = true := code_word (m := ⟨1, 1⟩) (meth := k1m1) (c := k1c1) (by decide +kernel) rfl rfl rfl (by decide +kernel)
set_option maxRecDepth 65536 in
theorem w_c1 : (Jvm.Cond.code ({ cls := "java/lang/String", name := "<init>", desc := "([C)V" } : Jvm.MethodName) jdk_42_method_3_code (2 : Nat) (Option.none : Option Jvm.ClassFile.FieldType)).before args0 about1 = true := code_word (m := ⟨7, 1⟩) (meth := k7m1) (c := k7c1) (by decide +kernel) rfl rfl rfl (by decide +kernel)
set_option maxRecDepth 65536 in
theorem w_c2 : (Jvm.Cond.code ({ cls := "java/lang/String", name := "<init>", desc := "([CIILjava/lang/Void;)V" } : Jvm.MethodName) jdk_42_method_149_code (6 : Nat) (Option.none : Option Jvm.ClassFile.FieldType)).before args0 about1 = true := code_word (m := ⟨7, 7⟩) (meth := k7m7) (c := k7c7) (by decide +kernel) rfl rfl rfl (by decide +kernel)
set_option maxRecDepth 65536 in
theorem w_c3 : (Jvm.Cond.code ({ cls := "java/lang/Object", name := "<init>", desc := "()V" } : Jvm.MethodName) object_method_1_code (1 : Nat) (Option.none : Option Jvm.ClassFile.FieldType)).before args0 about1 = true := code_word (m := ⟨0, 0⟩) (meth := k0m0) (c := k0c0) (by decide +kernel) rfl rfl rfl (by decide +kernel)
set_option maxRecDepth 65536 in
theorem w_c4 : (Jvm.Cond.code ({ cls := "java/lang/StringUTF16", name := "compress", desc := "([CII)[B" } : Jvm.MethodName) jdk_52_method_16_code (6 : Nat) (Option.some (Jvm.ClassFile.FieldType.array Jvm.ClassFile.FieldType.byte))).before args0 about1 = true := code_word (m := ⟨8, 2⟩) (meth := k8m2) (c := k8c2) (by decide +kernel) rfl rfl rfl (by decide +kernel)
set_option maxRecDepth 65536 in
theorem w_c5 : (Jvm.Cond.code ({ cls := "java/lang/StringUTF16", name := "compress", desc := "([CI[BII)I" } : Jvm.MethodName) jdk_52_method_21_code (7 : Nat) (Option.some Jvm.ClassFile.FieldType.int)).before args0 about1 = true := code_word (m := ⟨8, 3⟩) (meth := k8m3) (c := k8c3) (by decide +kernel) rfl rfl rfl (by decide +kernel)
set_option maxRecDepth 65536 in
theorem w_c6 : (Jvm.Cond.code ({ cls := "java/lang/StringUTF16", name := "coderFromArrayLen", desc := "([BI)B" } : Jvm.MethodName) jdk_52_method_15_code (2 : Nat) (Option.some Jvm.ClassFile.FieldType.byte)).before args0 about1 = true := code_word (m := ⟨8, 1⟩) (meth := k8m1) (c := k8c1) (by decide +kernel) rfl rfl rfl (by decide +kernel)
set_option maxRecDepth 65536 in
theorem w_c7 : (Jvm.Cond.code ({ cls := "java/lang/String", name := "valueOf", desc := "(C)Ljava/lang/String;" } : Jvm.MethodName) jdk_42_method_139_code (1 : Nat) (Option.some (Jvm.ClassFile.FieldType.object "java/lang/String"))).before args0 about1 = true := code_word (m := ⟨7, 6⟩) (meth := k7m6) (c := k7c6) (by decide +kernel) rfl rfl rfl (by decide +kernel)
set_option maxRecDepth 65536 in
theorem w_c8 : (Jvm.Cond.code ({ cls := "java/lang/StringLatin1", name := "canEncode", desc := "(C)Z" } : Jvm.MethodName) jdk_43_method_3_code (1 : Nat) (Option.some Jvm.ClassFile.FieldType.boolean)).before args0 about1 = true := code_word (m := ⟨9, 2⟩) (meth := k9m2) (c := k9c2) (by decide +kernel) rfl rfl rfl (by decide +kernel)
set_option maxRecDepth 65536 in
theorem w_c9 : (Jvm.Cond.code ({ cls := "java/lang/StringLatin1", name := "toBytes", desc := "(C)[B" } : Jvm.MethodName) jdk_43_method_46_code (1 : Nat) (Option.some (Jvm.ClassFile.FieldType.array Jvm.ClassFile.FieldType.byte))).before args0 about1 = true := code_word (m := ⟨9, 3⟩) (meth := k9m3) (c := k9c3) (by decide +kernel) rfl rfl rfl (by decide +kernel)
set_option maxRecDepth 65536 in
theorem w_c10 : (Jvm.Cond.code ({ cls := "java/lang/String", name := "<init>", desc := "([BB)V" } : Jvm.MethodName) jdk_42_method_151_code (3 : Nat) (Option.none : Option Jvm.ClassFile.FieldType)).before args0 about1 = true := code_word (m := ⟨7, 8⟩) (meth := k7m8) (c := k7c8) (by decide +kernel) rfl rfl rfl (by decide +kernel)
set_option maxRecDepth 65536 in
theorem w_c11 : (Jvm.Cond.code ({ cls := "com/example/tallymark/tallymark/SnapshotJoin$HoldingLine", name := "<init>", desc := "()V" } : Jvm.MethodName) prog_110_method_1_code (1 : Nat) (Option.none : Option Jvm.ClassFile.FieldType)).before args0 about1 = true := code_word (m := ⟨10, 0⟩) (meth := k10m0) (c := k10c0) (by decide +kernel) rfl rfl rfl (by decide +kernel)
set_option maxRecDepth 65536 in
theorem w_c12 : (Jvm.Cond.code ({ cls := "com/example/tallymark/tallymark/SnapshotJoin$HoldingLine", name := "set", desc := "(Ljava/lang/String;IIIILjava/lang/String;Ljava/lang/String;Ljava/lang/String;JIJ)V" } : Jvm.MethodName) prog_110_method_2_code (14 : Nat) (Option.none : Option Jvm.ClassFile.FieldType)).before args0 about1 = true := code_word (m := ⟨10, 1⟩) (meth := k10m1) (c := k10c1) (by decide +kernel) rfl rfl rfl (by decide +kernel)
set_option maxRecDepth 65536 in
theorem w_c13 : (Jvm.Cond.code ({ cls := "com/example/tallymark/tallymark/SnapshotJoin$Holding", name := "<init>", desc := "(Lcom/example/tallymark/tallymark/SnapshotJoin$HoldingLine;Ljava/lang/String;J)V" } : Jvm.MethodName) prog_109_method_1_code (5 : Nat) (Option.none : Option Jvm.ClassFile.FieldType)).before args0 about1 = true := code_word (m := ⟨11, 0⟩) (meth := k11m0) (c := k11c0) (by decide +kernel) rfl rfl rfl (by decide +kernel)
set_option maxRecDepth 65536 in
theorem w_c14 : (Jvm.Cond.code ({ cls := "com/example/tallymark/tallymark/SnapshotJoin$HoldingLine", name := "user", desc := "()Ljava/lang/String;" } : Jvm.MethodName) prog_110_method_3_code (1 : Nat) (Option.some (Jvm.ClassFile.FieldType.object "java/lang/String"))).before args0 about1 = true := code_word (m := ⟨10, 2⟩) (meth := k10m2) (c := k10c2) (by decide +kernel) rfl rfl rfl (by decide +kernel)
set_option maxRecDepth 65536 in
theorem w_c15 : (Jvm.Cond.code ({ cls := "java/lang/String", name := "substring", desc := "(II)Ljava/lang/String;" } : Jvm.MethodName) jdk_42_method_92_code (5 : Nat) (Option.some (Jvm.ClassFile.FieldType.object "java/lang/String"))).before args0 about1 = true := code_word (m := ⟨7, 5⟩) (meth := k7m5) (c := k7c5) (by decide +kernel) rfl rfl rfl (by decide +kernel)
set_option maxRecDepth 65536 in
theorem w_c16 : (Jvm.Cond.code ({ cls := "java/lang/String", name := "length", desc := "()I" } : Jvm.MethodName) jdk_42_method_54_code (1 : Nat) (Option.some Jvm.ClassFile.FieldType.int)).before args0 about1 = true := code_word (m := ⟨7, 2⟩) (meth := k7m2) (c := k7c2) (by decide +kernel) rfl rfl rfl (by decide +kernel)
set_option maxRecDepth 65536 in
theorem w_c17 : (Jvm.Cond.code ({ cls := "java/lang/String", name := "coder", desc := "()B" } : Jvm.MethodName) jdk_42_method_152_code (1 : Nat) (Option.some Jvm.ClassFile.FieldType.byte)).before args0 about1 = true := code_word (m := ⟨7, 9⟩) (meth := k7m9) (c := k7c9) (by decide +kernel) rfl rfl rfl (by decide +kernel)
set_option maxRecDepth 65536 in
theorem w_c18 : (Jvm.Cond.code ({ cls := "java/lang/String", name := "checkBoundsBeginEnd", desc := "(III)V" } : Jvm.MethodName) jdk_42_method_158_code (3 : Nat) (Option.none : Option Jvm.ClassFile.FieldType)).before args0 about1 = true := code_word (m := ⟨7, 12⟩) (meth := k7m12) (c := k7c12) (by decide +kernel) rfl rfl rfl (by decide +kernel)
set_option maxRecDepth 65536 in
theorem w_c19 : (Jvm.Cond.code ({ cls := "jdk/internal/util/Preconditions", name := "checkFromToIndex", desc := "(IIILjava/util/function/BiFunction;)I" } : Jvm.MethodName) jdk_41_method_12_code (4 : Nat) (Option.some Jvm.ClassFile.FieldType.int)).before args0 about1 = true := code_word (m := ⟨12, 2⟩) (meth := k12m2) (c := k12c2) (by decide +kernel) rfl rfl rfl (by decide +kernel)
set_option maxRecDepth 65536 in
theorem w_c20 : (Jvm.Cond.code ({ cls := "java/lang/String", name := "isLatin1", desc := "()Z" } : Jvm.MethodName) jdk_42_method_154_code (1 : Nat) (Option.some Jvm.ClassFile.FieldType.boolean)).before args0 about1 = true := code_word (m := ⟨7, 10⟩) (meth := k7m10) (c := k7c10) (by decide +kernel) rfl rfl rfl (by decide +kernel)
set_option maxRecDepth 65536 in
theorem w_c21 : (Jvm.Cond.code ({ cls := "java/lang/StringLatin1", name := "newString", desc := "([BII)Ljava/lang/String;" } : Jvm.MethodName) jdk_43_method_47_code (3 : Nat) (Option.some (Jvm.ClassFile.FieldType.object "java/lang/String"))).before args0 about1 = true := code_word (m := ⟨9, 4⟩) (meth := k9m4) (c := k9c4) (by decide +kernel) rfl rfl rfl (by decide +kernel)
set_option maxRecDepth 65536 in
theorem w_c22 : (Jvm.Cond.code ({ cls := "com/example/tallymark/tallymark/SnapshotJoin$HoldingLine", name := "host", desc := "()Ljava/lang/String;" } : Jvm.MethodName) prog_110_method_4_code (1 : Nat) (Option.some (Jvm.ClassFile.FieldType.object "java/lang/String"))).before args0 about1 = true := code_word (m := ⟨10, 3⟩) (meth := k10m3) (c := k10c3) (by decide +kernel) rfl rfl rfl (by decide +kernel)
set_option maxRecDepth 65536 in
theorem w_c23 : (Jvm.Cond.code ({ cls := "java/lang/String", name := "equals", desc := "(Ljava/lang/Object;)Z" } : Jvm.MethodName) jdk_42_method_66_code (3 : Nat) (Option.some Jvm.ClassFile.FieldType.boolean)).before args0 about1 = true := code_word (m := ⟨7, 4⟩) (meth := k7m4) (c := k7c4) (by decide +kernel) rfl rfl rfl (by decide +kernel)
set_option maxRecDepth 65536 in
theorem w_c24 : (Jvm.Cond.code ({ cls := "com/example/tallymark/tallymark/HoldingLineSetPinLaw", name := "matches", desc := "(Ljava/lang/String;[CII)Z" } : Jvm.MethodName) method_3_code (5 : Nat) (Option.some Jvm.ClassFile.FieldType.boolean)).before args0 about1 = true := code_word (m := ⟨1, 2⟩) (meth := k1m2) (c := k1c2) (by decide +kernel) rfl rfl rfl (by decide +kernel)
set_option maxRecDepth 65536 in
theorem w_c25 : (Jvm.Cond.code ({ cls := "java/lang/String", name := "charAt", desc := "(I)C" } : Jvm.MethodName) jdk_42_method_56_code (2 : Nat) (Option.some Jvm.ClassFile.FieldType.char)).before args0 about1 = true := code_word (m := ⟨7, 3⟩) (meth := k7m3) (c := k7c3) (by decide +kernel) rfl rfl rfl (by decide +kernel)
set_option maxRecDepth 65536 in
theorem w_c26 : (Jvm.Cond.code ({ cls := "java/lang/StringLatin1", name := "charAt", desc := "([BI)C" } : Jvm.MethodName) jdk_43_method_2_code (2 : Nat) (Option.some Jvm.ClassFile.FieldType.char)).before args0 about1 = true := code_word (m := ⟨9, 1⟩) (meth := k9m1) (c := k9c1) (by decide +kernel) rfl rfl rfl (by decide +kernel)
set_option maxRecDepth 65536 in
theorem w_c27 : (Jvm.Cond.code ({ cls := "java/lang/String", name := "checkIndex", desc := "(II)V" } : Jvm.MethodName) jdk_42_method_155_code (2 : Nat) (Option.none : Option Jvm.ClassFile.FieldType)).before args0 about1 = true := code_word (m := ⟨7, 11⟩) (meth := k7m11) (c := k7c11) (by decide +kernel) rfl rfl rfl (by decide +kernel)
set_option maxRecDepth 65536 in
theorem w_c28 : (Jvm.Cond.code ({ cls := "jdk/internal/util/Preconditions", name := "checkIndex", desc := "(IILjava/util/function/BiFunction;)I" } : Jvm.MethodName) jdk_41_method_11_code (3 : Nat) (Option.some Jvm.ClassFile.FieldType.int)).before args0 about1 = true := code_word (m := ⟨12, 1⟩) (meth := k12m1) (c := k12c1) (by decide +kernel) rfl rfl rfl (by decide +kernel)
set_option maxRecDepth 65536 in
theorem w_c29 : (Jvm.Cond.code ({ cls := "java/util/Arrays", name := "copyOfRange", desc := "([BII)[B" } : Jvm.MethodName) jdk_65_method_132_code (3 : Nat) (Option.some (Jvm.ClassFile.FieldType.array Jvm.ClassFile.FieldType.byte))).before args0 about1 = true := code_word (m := ⟨13, 2⟩) (meth := k13m2) (c := k13c2) (by decide +kernel) rfl rfl rfl (by decide +kernel)
set_option maxRecDepth 65536 in
theorem w_c30 : (Jvm.Cond.code ({ cls := "java/util/Arrays", name := "copyOfRangeByte", desc := "([BII)[B" } : Jvm.MethodName) jdk_65_method_133_code (5 : Nat) (Option.some (Jvm.ClassFile.FieldType.array Jvm.ClassFile.FieldType.byte))).before args0 about1 = true := code_word (m := ⟨13, 3⟩) (meth := k13m3) (c := k13c3) (by decide +kernel) rfl rfl rfl (by decide +kernel)
set_option maxRecDepth 65536 in
theorem w_c31 : (Jvm.Cond.code ({ cls := "java/util/Arrays", name := "checkLength", desc := "(II)V" } : Jvm.MethodName) jdk_65_method_131_code (2 : Nat) (Option.none : Option Jvm.ClassFile.FieldType)).before args0 about1 = true := code_word (m := ⟨13, 1⟩) (meth := k13m1) (c := k13c1) (by decide +kernel) rfl rfl rfl (by decide +kernel)
set_option maxRecDepth 65536 in
theorem w_c32 : (Jvm.Cond.code ({ cls := "java/lang/Math", name := "min", desc := "(II)I" } : Jvm.MethodName) jdk_29_method_69_code (2 : Nat) (Option.some Jvm.ClassFile.FieldType.int)).before args0 about1 = true := code_word (m := ⟨14, 1⟩) (meth := k14m1) (c := k14c1) (by decide +kernel) rfl rfl rfl (by decide +kernel)
def codes1 : List Jvm.Cond := [Jvm.Cond.code x code maxLocals ret, Jvm.Cond.code ({ cls := "java/lang/String", name := "<init>", desc := "([C)V" } : Jvm.MethodName) jdk_42_method_3_code (2 : Nat) (Option.none : Option Jvm.ClassFile.FieldType), Jvm.Cond.code ({ cls := "java/lang/String", name := "<init>", desc := "([CIILjava/lang/Void;)V" } : Jvm.MethodName) jdk_42_method_149_code (6 : Nat) (Option.none : Option Jvm.ClassFile.FieldType), Jvm.Cond.code ({ cls := "java/lang/Object", name := "<init>", desc := "()V" } : Jvm.MethodName) object_method_1_code (1 : Nat) (Option.none : Option Jvm.ClassFile.FieldType), Jvm.Cond.code ({ cls := "java/lang/StringUTF16", name := "compress", desc := "([CII)[B" } : Jvm.MethodName) jdk_52_method_16_code (6 : Nat) (Option.some (Jvm.ClassFile.FieldType.array Jvm.ClassFile.FieldType.byte)), Jvm.Cond.code ({ cls := "java/lang/StringUTF16", name := "compress", desc := "([CI[BII)I" } : Jvm.MethodName) jdk_52_method_21_code (7 : Nat) (Option.some Jvm.ClassFile.FieldType.int), Jvm.Cond.code ({ cls := "java/lang/StringUTF16", name := "coderFromArrayLen", desc := "([BI)B" } : Jvm.MethodName) jdk_52_method_15_code (2 : Nat) (Option.some Jvm.ClassFile.FieldType.byte), Jvm.Cond.code ({ cls := "java/lang/String", name := "valueOf", desc := "(C)Ljava/lang/String;" } : Jvm.MethodName) jdk_42_method_139_code (1 : Nat) (Option.some (Jvm.ClassFile.FieldType.object "java/lang/String")), Jvm.Cond.code ({ cls := "java/lang/StringLatin1", name := "canEncode", desc := "(C)Z" } : Jvm.MethodName) jdk_43_method_3_code (1 : Nat) (Option.some Jvm.ClassFile.FieldType.boolean), Jvm.Cond.code ({ cls := "java/lang/StringLatin1", name := "toBytes", desc := "(C)[B" } : Jvm.MethodName) jdk_43_method_46_code (1 : Nat) (Option.some (Jvm.ClassFile.FieldType.array Jvm.ClassFile.FieldType.byte)), Jvm.Cond.code ({ cls := "java/lang/String", name := "<init>", desc := "([BB)V" } : Jvm.MethodName) jdk_42_method_151_code (3 : Nat) (Option.none : Option Jvm.ClassFile.FieldType), Jvm.Cond.code ({ cls := "com/example/tallymark/tallymark/SnapshotJoin$HoldingLine", name := "<init>", desc := "()V" } : Jvm.MethodName) prog_110_method_1_code (1 : Nat) (Option.none : Option Jvm.ClassFile.FieldType), Jvm.Cond.code ({ cls := "com/example/tallymark/tallymark/SnapshotJoin$HoldingLine", name := "set", desc := "(Ljava/lang/String;IIIILjava/lang/String;Ljava/lang/String;Ljava/lang/String;JIJ)V" } : Jvm.MethodName) prog_110_method_2_code (14 : Nat) (Option.none : Option Jvm.ClassFile.FieldType), Jvm.Cond.code ({ cls := "com/example/tallymark/tallymark/SnapshotJoin$Holding", name := "<init>", desc := "(Lcom/example/tallymark/tallymark/SnapshotJoin$HoldingLine;Ljava/lang/String;J)V" } : Jvm.MethodName) prog_109_method_1_code (5 : Nat) (Option.none : Option Jvm.ClassFile.FieldType), Jvm.Cond.code ({ cls := "com/example/tallymark/tallymark/SnapshotJoin$HoldingLine", name := "user", desc := "()Ljava/lang/String;" } : Jvm.MethodName) prog_110_method_3_code (1 : Nat) (Option.some (Jvm.ClassFile.FieldType.object "java/lang/String")), Jvm.Cond.code ({ cls := "java/lang/String", name := "substring", desc := "(II)Ljava/lang/String;" } : Jvm.MethodName) jdk_42_method_92_code (5 : Nat) (Option.some (Jvm.ClassFile.FieldType.object "java/lang/String")), Jvm.Cond.code ({ cls := "java/lang/String", name := "length", desc := "()I" } : Jvm.MethodName) jdk_42_method_54_code (1 : Nat) (Option.some Jvm.ClassFile.FieldType.int), Jvm.Cond.code ({ cls := "java/lang/String", name := "coder", desc := "()B" } : Jvm.MethodName) jdk_42_method_152_code (1 : Nat) (Option.some Jvm.ClassFile.FieldType.byte), Jvm.Cond.code ({ cls := "java/lang/String", name := "checkBoundsBeginEnd", desc := "(III)V" } : Jvm.MethodName) jdk_42_method_158_code (3 : Nat) (Option.none : Option Jvm.ClassFile.FieldType), Jvm.Cond.code ({ cls := "jdk/internal/util/Preconditions", name := "checkFromToIndex", desc := "(IIILjava/util/function/BiFunction;)I" } : Jvm.MethodName) jdk_41_method_12_code (4 : Nat) (Option.some Jvm.ClassFile.FieldType.int), Jvm.Cond.code ({ cls := "java/lang/String", name := "isLatin1", desc := "()Z" } : Jvm.MethodName) jdk_42_method_154_code (1 : Nat) (Option.some Jvm.ClassFile.FieldType.boolean), Jvm.Cond.code ({ cls := "java/lang/StringLatin1", name := "newString", desc := "([BII)Ljava/lang/String;" } : Jvm.MethodName) jdk_43_method_47_code (3 : Nat) (Option.some (Jvm.ClassFile.FieldType.object "java/lang/String")), Jvm.Cond.code ({ cls := "com/example/tallymark/tallymark/SnapshotJoin$HoldingLine", name := "host", desc := "()Ljava/lang/String;" } : Jvm.MethodName) prog_110_method_4_code (1 : Nat) (Option.some (Jvm.ClassFile.FieldType.object "java/lang/String")), Jvm.Cond.code ({ cls := "java/lang/String", name := "equals", desc := "(Ljava/lang/Object;)Z" } : Jvm.MethodName) jdk_42_method_66_code (3 : Nat) (Option.some Jvm.ClassFile.FieldType.boolean), Jvm.Cond.code ({ cls := "com/example/tallymark/tallymark/HoldingLineSetPinLaw", name := "matches", desc := "(Ljava/lang/String;[CII)Z" } : Jvm.MethodName) method_3_code (5 : Nat) (Option.some Jvm.ClassFile.FieldType.boolean), Jvm.Cond.code ({ cls := "java/lang/String", name := "charAt", desc := "(I)C" } : Jvm.MethodName) jdk_42_method_56_code (2 : Nat) (Option.some Jvm.ClassFile.FieldType.char), Jvm.Cond.code ({ cls := "java/lang/StringLatin1", name := "charAt", desc := "([BI)C" } : Jvm.MethodName) jdk_43_method_2_code (2 : Nat) (Option.some Jvm.ClassFile.FieldType.char), Jvm.Cond.code ({ cls := "java/lang/String", name := "checkIndex", desc := "(II)V" } : Jvm.MethodName) jdk_42_method_155_code (2 : Nat) (Option.none : Option Jvm.ClassFile.FieldType), Jvm.Cond.code ({ cls := "jdk/internal/util/Preconditions", name := "checkIndex", desc := "(IILjava/util/function/BiFunction;)I" } : Jvm.MethodName) jdk_41_method_11_code (3 : Nat) (Option.some Jvm.ClassFile.FieldType.int), Jvm.Cond.code ({ cls := "java/util/Arrays", name := "copyOfRange", desc := "([BII)[B" } : Jvm.MethodName) jdk_65_method_132_code (3 : Nat) (Option.some (Jvm.ClassFile.FieldType.array Jvm.ClassFile.FieldType.byte)), Jvm.Cond.code ({ cls := "java/util/Arrays", name := "copyOfRangeByte", desc := "([BII)[B" } : Jvm.MethodName) jdk_65_method_133_code (5 : Nat) (Option.some (Jvm.ClassFile.FieldType.array Jvm.ClassFile.FieldType.byte)), Jvm.Cond.code ({ cls := "java/util/Arrays", name := "checkLength", desc := "(II)V" } : Jvm.MethodName) jdk_65_method_131_code (2 : Nat) (Option.none : Option Jvm.ClassFile.FieldType), Jvm.Cond.code ({ cls := "java/lang/Math", name := "min", desc := "(II)I" } : Jvm.MethodName) jdk_29_method_69_code (2 : Nat) (Option.some Jvm.ClassFile.FieldType.int)]
set_option maxRecDepth 65536 in
theorem codes_eq : words1.filter isCode = codes1 := rfl
theorem w_codes : ∀ c ∈ words1.filter isCode, c.before args0 about1 = true := by
  rw [codes_eq]
  intro c hc
  simp only [codes1, List.mem_cons, List.not_mem_nil, or_false] at hc
  rcases hc with rfl | rfl | rfl | rfl | rfl | rfl | rfl | rfl | rfl | rfl | rfl | rfl | rfl | rfl | rfl | rfl | rfl | rfl | rfl | rfl | rfl | rfl | rfl | rfl | rfl | rfl | rfl | rfl | rfl | rfl | rfl | rfl | rfl
  · exact w_c0
  · exact w_c1
  · exact w_c2
  · exact w_c3
  · exact w_c4
  · exact w_c5
  · exact w_c6
  · exact w_c7
  · exact w_c8
  · exact w_c9
  · exact w_c10
  · exact w_c11
  · exact w_c12
  · exact w_c13
  · exact w_c14
  · exact w_c15
  · exact w_c16
  · exact w_c17
  · exact w_c18
  · exact w_c19
  · exact w_c20
  · exact w_c21
  · exact w_c22
  · exact w_c23
  · exact w_c24
  · exact w_c25
  · exact w_c26
  · exact w_c27
  · exact w_c28
  · exact w_c29
  · exact w_c30
  · exact w_c31
  · exact w_c32
set_option maxRecDepth 65536 in
theorem w_t1 : (words1.take 24).all (fun c => isCode c || c.before args0 about1) = true := by decide +kernel
set_option maxRecDepth 65536 in
theorem w_t2 : ((words1.drop 24).take 24).all (fun c => isCode c || c.before args0 about1) = true := by decide +kernel
set_option maxRecDepth 65536 in
theorem w_t3 : (((words1.drop 24).drop 24).take 24).all (fun c => isCode c || c.before args0 about1) = true := by decide +kernel
set_option maxRecDepth 65536 in
theorem w_t4 : ((((words1.drop 24).drop 24).drop 24).take 24).all (fun c => isCode c || c.before args0 about1) = true := by decide +kernel
set_option maxRecDepth 65536 in
theorem w_t5 : (((((words1.drop 24).drop 24).drop 24).drop 24).take 24).all (fun c => isCode c || c.before args0 about1) = true := by decide +kernel
set_option maxRecDepth 65536 in
theorem w_t6 : ((((((words1.drop 24).drop 24).drop 24).drop 24).drop 24).take 24).all (fun c => isCode c || c.before args0 about1) = true := by decide +kernel
set_option maxRecDepth 65536 in
theorem w_t7 : (((((((words1.drop 24).drop 24).drop 24).drop 24).drop 24).drop 24).take 24).all (fun c => isCode c || c.before args0 about1) = true := by decide +kernel
set_option maxRecDepth 65536 in
theorem w_t8 : ((((((((words1.drop 24).drop 24).drop 24).drop 24).drop 24).drop 24).drop 24).take 24).all (fun c => isCode c || c.before args0 about1) = true := by decide +kernel
set_option maxRecDepth 65536 in
theorem w_t9 : ((((((((words1.drop 24).drop 24).drop 24).drop 24).drop 24).drop 24).drop 24).drop 24).all (fun c => isCode c || c.before args0 about1) = true := by decide +kernel
theorem w_tables : (allAtoms (Jvm.Cond.code x code maxLocals ret :: tables_1)).before args0 about1 = true := by
  rw [allAtoms_all]
  show words1.all (fun c => c.before args0 about1) = true
  refine all_split ?_ w_codes
  rw [← List.take_append_drop 24 words1, List.all_append, w_t1, ← List.take_append_drop 24 (words1.drop 24), List.all_append, w_t2, ← List.take_append_drop 24 ((words1.drop 24).drop 24), List.all_append, w_t3, ← List.take_append_drop 24 (((words1.drop 24).drop 24).drop 24), List.all_append, w_t4, ← List.take_append_drop 24 ((((words1.drop 24).drop 24).drop 24).drop 24), List.all_append, w_t5, ← List.take_append_drop 24 (((((words1.drop 24).drop 24).drop 24).drop 24).drop 24), List.all_append, w_t6, ← List.take_append_drop 24 ((((((words1.drop 24).drop 24).drop 24).drop 24).drop 24).drop 24), List.all_append, w_t7, ← List.take_append_drop 24 (((((((words1.drop 24).drop 24).drop 24).drop 24).drop 24).drop 24).drop 24), List.all_append, w_t8, w_t9]
  rfl
set_option maxRecDepth 65536 in
theorem w_rest : rest_1_c.before args0 about1 = true := by decide +kernel
set_option maxRecDepth 65536 in
theorem w_case : (Jvm.Cond.and given_1 narrow_1).before args0 about1 = true := by decide +kernel
set_option maxRecDepth 65536 in
theorem w_consts : constsHeld consts_1 about1 := Jvm.Lit.constsHeldB_iff.mp (by decide +kernel)
theorem w_applies : (headSpec (Jvm.Cond.code x code maxLocals ret :: tables_1) room_1).applies x e0.platform about1 = true :=
  (Spec.applies_iff w_frames).mpr ⟨w_running, w_runnable, w_alone, w_named, w_hears, w_ripe, w_room, w_tables⟩
theorem atStart : AtStart classFile x code maxLocals ret World_1 tables_1 room_1 Calls_1 rest_1 Pre_1 launch0 p0 e0 about1 theMethod args0 below0 :=
  ⟨lists_1, trivial, launch0.admits_env _ _ _, launch0.least_env, fairChoices_fair.cas, fairChoices_fair.clock, w_frames, w_args, w_heap, w_applies, ⟨w_consts, trivial⟩, w_rest, w_case⟩
end start1
theorem witness_1 : WitnessClaimed_1 := ⟨start1.p0, start1.e0, start1.about1, start1.theMethod, start1.args0, start1.below0, start1.atStart⟩
end Jvm.Pilot.@@N@@
