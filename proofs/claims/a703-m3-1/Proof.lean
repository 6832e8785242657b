import JvmDerived
import JvmDerived.Pilot.@@N@@Statement
import JvmDerived.Pilot.@@N@@Code
set_option linter.unusedVariables false
set_option linter.unusedSimpArgs false
namespace Jvm.Wk
abbrev F4 := Fin 4
abbrev F2 := Fin 2
open Sem ClassFile Op Lib Jvm.Stand Jvm.Free Jvm.LawKit Jvm.RoadKit
/-- the array at a holds just these values -/
def Ary (Z : State) (h : Heap) (a : Addr) (ty : FieldType) (vs : List Value) : Prop :=
  ∃ c : Cell, Arr Z h a c ty ∧ c.slots.toList = vs ∧ (∀ v ∈ vs, fits ty v = true) ∧ vs.length < 2 ^ 31
def Endz (p : Program) (e : Env) (below : List Frame) (s : State) (R : Room) (n0 : Nat) (P : Option Value → Heap → Prop) (T : State) (g : JFrame) : Prop :=
  ∃ s₂ o, Steps p.tables e below (T.setTop g) s₂ ∧ s₂.status = .running ∧ Ended s₂ below o ∧ ∃ v L, o = .returned v ∧ (P v s₂.heap ∧ Fr n0 L) ∧ FrameEnd s o s₂ L R.cells R.slots
/-- from pc, with these locals, this stack and this heap, the body comes to its end, and P holds there -/
def W (l : Launch) (R : Room) (Z : State) (own nm : String) (bytes : ByteArray) (maxL : Nat) (ret : Option FieldType) (n0 : Nat) (P : Option Value → Heap → Prop) (h : Heap) (cells slots pc : Nat) (Ls : Array Slot) (st : List Value) : Prop :=
  ∀ (p : Program) (e : Env) (s : State) (m : MethodId) (args : Array Value) (below : List Frame) (meth : Method) (c : Code) (T : State) (locs : List Loc),
    p.tables.exec = Jvm.exec → Z.Warmed39 s.vm → c.code = bytes → c.maxLocals = maxL → s.vm.findClass own = some m.cls → meth.sig.returnType = ret → meth.locks = false → meth.name = nm → n0 ≤ s.heap.size →
    Stand p l e R s m args below meth c T locs cells slots → T.heap = h → Fr n0 locs → Endz p e below s R n0 P T (mkF m pc Ls st)
/-- a method's contract where it is called with these arguments over this heap -/
def ConW (ws : List Jvm.Cond) (l : Launch) (Z : State) (y : MethodName) (bytes : ByteArray) (maxL : Nat) (ret : Option FieldType) (rm : Room) (as : Array Value) (h : Heap) (n0 : Nat) (P : Option Value → Heap → Prop) : Prop :=
  MetFree l y (head1 (Jvm.Cond.code y bytes maxL ret :: ws) rm) (fun a U => a = as ∧ Z.Warmed39 U.vm ∧ U.heap = h) (fun _ _ _ _ _ => True) (fun _ U o U' => ∃ v L, o = .returned v ∧ (P v U'.heap ∧ Fr n0 L) ∧ FrameEnd U o U' L rm.cells rm.slots)
abbrev Con := ConW []
section Rules
variable {l : Launch} {R : Room} {Z : State} {own nm : String} {bytes : ByteArray} {maxL : Nat} {ret : Option FieldType} {n0 : Nat} {P : Option Value → Heap → Prop} {h : Heap} {cells slots pc : Nat} {Ls : Array Slot} {st : List Value} {a0 : Array Value}
theorem Endz.step {p : Program} {e : Env} {below : List Frame} {s : State} {T T' : State} {g g' : JFrame} (k : Endz p e below s R n0 P T' g') (f : ∀ t, Steps p.tables e below (T'.setTop g') t → Steps p.tables e below (T.setTop g) t) : Endz p e below s R n0 P T g := by
  obtain ⟨s₂, o, h1, h2⟩ := k
  exact ⟨s₂, o, f _ h1, h2⟩
theorem W.step {pc' : Nat} {Ls' : Array Slot} {st' : List Value} (k : W l R Z own nm bytes maxL ret n0 P h cells slots pc' Ls' st')
    (f : ∀ (p : Program) (e : Env) (s : State) (m : MethodId) (args : Array Value) (below : List Frame) (meth : Method) (c : Code) (T : State) (locs : List Loc), p.tables.exec = Jvm.exec → Z.Warmed39 s.vm → c.code = bytes → s.vm.findClass own = some m.cls → Stand p l e R s m args below meth c T locs cells slots → T.heap = h →
      ∀ t, Steps p.tables e below (T.setTop (mkF m pc' Ls' st')) t → Steps p.tables e below (T.setTop (mkF m pc Ls st)) t) : W l R Z own nm bytes maxL ret n0 P h cells slots pc Ls st := by
  intro p e s m args below meth c T locs hx hZ hby hml hown hret hlk hnm hn0 X eT N
  exact (k p e s m args below meth c T locs hx hZ hby hml hown hret hlk hnm hn0 X eT N).step (f p e s m args below meth c T locs hx hZ hby hown X eT)
theorem W.post {P' : Option Value → Heap → Prop} (k : W l R Z own nm bytes maxL ret n0 P' h cells slots pc Ls st) (f : ∀ v h', P' v h' → P v h') : W l R Z own nm bytes maxL ret n0 P h cells slots pc Ls st := by
  intro p e s m args below meth c T locs hx hZ hby hml hown hret hlk hnm hn0 X eT N
  obtain ⟨s₂, o, h1, h2, h3, v, L, h4, h5, h6⟩ := k p e s m args below meth c T locs hx hZ hby hml hown hret hlk hnm hn0 X eT N
  exact ⟨s₂, o, h1, h2, h3, v, L, h4, ⟨f _ _ h5.1, h5.2⟩, h6⟩
theorem W.mono {cells' slots' : Nat} (k : W l R Z own nm bytes maxL ret n0 P h cells' slots' pc Ls st) (hc : cells ≤ cells') (hs : slots ≤ slots') : W l R Z own nm bytes maxL ret n0 P h cells slots pc Ls st := by
  intro p e s m args below meth c T locs hx hZ hby hml hown hret hlk hnm hn0 X eT N
  exact k p e s m args below meth c T locs hx hZ hby hml hown hret hlk hnm hn0 { X with same := X.same.mono hc hs } eT N
theorem ConW.post {ws : List Jvm.Cond} {y : MethodName} {rm : Room} {as : Array Value} {P' : Option Value → Heap → Prop} (k : ConW ws l Z y bytes maxL ret rm as h n0 P') (f : ∀ v h', P' v h' → P v h') : ConW ws l Z y bytes maxL ret rm as h n0 P := by
  intro p e ha hc hk s m args below hf happ hP hK
  obtain ⟨n, o, h1, h2, h3, v, L, h4, h5, h6⟩ := k p e ha hc hk s m args below hf happ hP hK
  exact ⟨n, o, h1, h2, h3, v, L, h4, ⟨f _ _ h5.1, h5.2⟩, h6⟩
theorem ConW.of_W {ws : List Jvm.Cond} {y : MethodName} {rm : Room} {as : Array Value} (hy : plainFor y = true) (hn : n0 ≤ h.size) (hef : ∀ m, entryFrame m as maxL = mkF m 0 Ls []) (k : W l rm Z y.cls y.name bytes maxL ret n0 P h 0 0 0 Ls []) : ConW ws l Z y bytes maxL ret rm as h n0 P := by
  refine MetFree.of_bodySF hy hisR ?_
  intro p e s m args below meth c s₁ Bd hml0 hP hK
  obtain ⟨rfl, hZ, hh⟩ := hP
  have hown : s.vm.findClass y.cls = some m.cls := findClass_of_methodNamed Bd.named
  have hnm := (name_of_methodNamed Bd.named Bd.method).1
  have X0 : Stand p l e rm s m _ below meth c s₁ [] 0 0 := Stand.of_body Bd
  have e0 : s₁.heap = h := by rw [← hh, Bd.state]; rfl
  obtain ⟨s₂, o, h1, h2⟩ := k p e s m _ below meth c s₁ [] Bd.exec hZ Bd.bytes hml0 hown Bd.returns (BodyLoose.notSynchronized Bd) hnm (by rw [hh]; exact hn) X0 e0 (Fr.nil n0)
  exact ⟨s₂, o, castTop (hef m) h1, h2⟩
/-! pure steps -/
theorem W.iadd {x y : Int32} (n : Nat) (hd : decode bytes pc = .ok (.iadd, 1)) (hn : pc + 1 = n) (v : Int32) (hv : x + y = v) (k : W l R Z own nm bytes maxL ret n0 P h cells slots n Ls (.int v :: st)) : W l R Z own nm bytes maxL ret n0 P h cells slots pc Ls (.int y :: .int x :: st) := by
  subst hn
  exact k.step fun p e s m args below meth c T locs hx hZ hby hown X eT t q => XS.iadd X.here hx rfl (hb hby hd) rfl (hv ▸ q)
theorem W.ladd {x y : Int64} (n : Nat) (hd : decode bytes pc = .ok (.ladd, 1)) (hn : pc + 1 = n) (v : Int64) (hv : x + y = v) (k : W l R Z own nm bytes maxL ret n0 P h cells slots n Ls (.long v :: st)) : W l R Z own nm bytes maxL ret n0 P h cells slots pc Ls (.long y :: .long x :: st) := by
  subst hn
  exact k.step fun p e s m args below meth c T locs hx hZ hby hown X eT t q => XS.ladd X.here hx rfl (hb hby hd) rfl (hv ▸ q)
theorem W.isub {x y : Int32} (n : Nat) (hd : decode bytes pc = .ok (.isub, 1)) (hn : pc + 1 = n) (v : Int32) (hv : x - y = v) (k : W l R Z own nm bytes maxL ret n0 P h cells slots n Ls (.int v :: st)) : W l R Z own nm bytes maxL ret n0 P h cells slots pc Ls (.int y :: .int x :: st) := by
  subst hn
  exact k.step fun p e s m args below meth c T locs hx hZ hby hown X eT t q => XS.isub X.here hx rfl (hb hby hd) rfl (hv ▸ q)
theorem W.lsub {x y : Int64} (n : Nat) (hd : decode bytes pc = .ok (.lsub, 1)) (hn : pc + 1 = n) (v : Int64) (hv : x - y = v) (k : W l R Z own nm bytes maxL ret n0 P h cells slots n Ls (.long v :: st)) : W l R Z own nm bytes maxL ret n0 P h cells slots pc Ls (.long y :: .long x :: st) := by
  subst hn
  exact k.step fun p e s m args below meth c T locs hx hZ hby hown X eT t q => XS.lsub X.here hx rfl (hb hby hd) rfl (hv ▸ q)
theorem W.imul {x y : Int32} (n : Nat) (hd : decode bytes pc = .ok (.imul, 1)) (hn : pc + 1 = n) (v : Int32) (hv : x * y = v) (k : W l R Z own nm bytes maxL ret n0 P h cells slots n Ls (.int v :: st)) : W l R Z own nm bytes maxL ret n0 P h cells slots pc Ls (.int y :: .int x :: st) := by
  subst hn
  exact k.step fun p e s m args below meth c T locs hx hZ hby hown X eT t q => XS.imul X.here hx rfl (hb hby hd) rfl (hv ▸ q)
theorem W.lmul {x y : Int64} (n : Nat) (hd : decode bytes pc = .ok (.lmul, 1)) (hn : pc + 1 = n) (v : Int64) (hv : x * y = v) (k : W l R Z own nm bytes maxL ret n0 P h cells slots n Ls (.long v :: st)) : W l R Z own nm bytes maxL ret n0 P h cells slots pc Ls (.long y :: .long x :: st) := by
  subst hn
  exact k.step fun p e s m args below meth c T locs hx hZ hby hown X eT t q => XS.lmul X.here hx rfl (hb hby hd) rfl (hv ▸ q)
theorem W.iand {x y : Int32} (n : Nat) (hd : decode bytes pc = .ok (.iand, 1)) (hn : pc + 1 = n) (v : Int32) (hv : x &&& y = v) (k : W l R Z own nm bytes maxL ret n0 P h cells slots n Ls (.int v :: st)) : W l R Z own nm bytes maxL ret n0 P h cells slots pc Ls (.int y :: .int x :: st) := by
  subst hn
  exact k.step fun p e s m args below meth c T locs hx hZ hby hown X eT t q => XS.iand X.here hx rfl (hb hby hd) rfl (hv ▸ q)
theorem W.land {x y : Int64} (n : Nat) (hd : decode bytes pc = .ok (.land, 1)) (hn : pc + 1 = n) (v : Int64) (hv : x &&& y = v) (k : W l R Z own nm bytes maxL ret n0 P h cells slots n Ls (.long v :: st)) : W l R Z own nm bytes maxL ret n0 P h cells slots pc Ls (.long y :: .long x :: st) := by
  subst hn
  exact k.step fun p e s m args below meth c T locs hx hZ hby hown X eT t q => XS.land X.here hx rfl (hb hby hd) rfl (hv ▸ q)
theorem W.ior {x y : Int32} (n : Nat) (hd : decode bytes pc = .ok (.ior, 1)) (hn : pc + 1 = n) (v : Int32) (hv : x ||| y = v) (k : W l R Z own nm bytes maxL ret n0 P h cells slots n Ls (.int v :: st)) : W l R Z own nm bytes maxL ret n0 P h cells slots pc Ls (.int y :: .int x :: st) := by
  subst hn
  exact k.step fun p e s m args below meth c T locs hx hZ hby hown X eT t q => XS.ior X.here hx rfl (hb hby hd) rfl (hv ▸ q)
theorem W.lor {x y : Int64} (n : Nat) (hd : decode bytes pc = .ok (.lor, 1)) (hn : pc + 1 = n) (v : Int64) (hv : x ||| y = v) (k : W l R Z own nm bytes maxL ret n0 P h cells slots n Ls (.long v :: st)) : W l R Z own nm bytes maxL ret n0 P h cells slots pc Ls (.long y :: .long x :: st) := by
  subst hn
  exact k.step fun p e s m args below meth c T locs hx hZ hby hown X eT t q => XS.lor X.here hx rfl (hb hby hd) rfl (hv ▸ q)
theorem W.ixor {x y : Int32} (n : Nat) (hd : decode bytes pc = .ok (.ixor, 1)) (hn : pc + 1 = n) (v : Int32) (hv : x ^^^ y = v) (k : W l R Z own nm bytes maxL ret n0 P h cells slots n Ls (.int v :: st)) : W l R Z own nm bytes maxL ret n0 P h cells slots pc Ls (.int y :: .int x :: st) := by
  subst hn
  exact k.step fun p e s m args below meth c T locs hx hZ hby hown X eT t q => XS.ixor X.here hx rfl (hb hby hd) rfl (hv ▸ q)
theorem W.lxor {x y : Int64} (n : Nat) (hd : decode bytes pc = .ok (.lxor, 1)) (hn : pc + 1 = n) (v : Int64) (hv : x ^^^ y = v) (k : W l R Z own nm bytes maxL ret n0 P h cells slots n Ls (.long v :: st)) : W l R Z own nm bytes maxL ret n0 P h cells slots pc Ls (.long y :: .long x :: st) := by
  subst hn
  exact k.step fun p e s m args below meth c T locs hx hZ hby hown X eT t q => XS.lxor X.here hx rfl (hb hby hd) rfl (hv ▸ q)
theorem W.idiv {x y : Int32} (n : Nat) (hd : decode bytes pc = .ok (.idiv, 1)) (hn : pc + 1 = n) (hy : y ≠ 0) (v : Int32) (hv : x / y = v) (k : W l R Z own nm bytes maxL ret n0 P h cells slots n Ls (.int v :: st)) : W l R Z own nm bytes maxL ret n0 P h cells slots pc Ls (.int y :: .int x :: st) := by
  subst hn
  exact k.step fun p e s m args below meth c T locs hx hZ hby hown X eT t q => XS.idiv X.here hx rfl (hb hby hd) rfl hy (hv ▸ q)
theorem W.irem {x y : Int32} (n : Nat) (hd : decode bytes pc = .ok (.irem, 1)) (hn : pc + 1 = n) (hy : y ≠ 0) (v : Int32) (hv : x % y = v) (k : W l R Z own nm bytes maxL ret n0 P h cells slots n Ls (.int v :: st)) : W l R Z own nm bytes maxL ret n0 P h cells slots pc Ls (.int y :: .int x :: st) := by
  subst hn
  exact k.step fun p e s m args below meth c T locs hx hZ hby hown X eT t q => iremM X hx rfl (hb hby hd) rfl hy (hv ▸ q)
theorem W.ldiv {x y : Int64} (n : Nat) (hd : decode bytes pc = .ok (.ldiv, 1)) (hn : pc + 1 = n) (hy : y ≠ 0) (v : Int64) (hv : x / y = v) (k : W l R Z own nm bytes maxL ret n0 P h cells slots n Ls (.long v :: st)) : W l R Z own nm bytes maxL ret n0 P h cells slots pc Ls (.long y :: .long x :: st) := by
  subst hn
  exact k.step fun p e s m args below meth c T locs hx hZ hby hown X eT t q => XS.ldiv X.here hx rfl (hb hby hd) rfl hy (hv ▸ q)
theorem W.lrem {x y : Int64} (n : Nat) (hd : decode bytes pc = .ok (.lrem, 1)) (hn : pc + 1 = n) (hy : y ≠ 0) (v : Int64) (hv : x % y = v) (k : W l R Z own nm bytes maxL ret n0 P h cells slots n Ls (.long v :: st)) : W l R Z own nm bytes maxL ret n0 P h cells slots pc Ls (.long y :: .long x :: st) := by
  subst hn
  exact k.step fun p e s m args below meth c T locs hx hZ hby hown X eT t q => XS.lrem X.here hx rfl (hb hby hd) rfl hy ((lrem_mod x y).trans hv ▸ q)
theorem W.ishl {x y : Int32} (n : Nat) (hd : decode bytes pc = .ok (.ishl, 1)) (hn : pc + 1 = n) (v : Int32) (hv : x <<< (y &&& 31) = v) (k : W l R Z own nm bytes maxL ret n0 P h cells slots n Ls (.int v :: st)) : W l R Z own nm bytes maxL ret n0 P h cells slots pc Ls (.int y :: .int x :: st) := by
  subst hn
  exact k.step fun p e s m args below meth c T locs hx hZ hby hown X eT t q => XS.ishl X.here hx rfl (hb hby hd) rfl (hv ▸ q)
theorem W.ishr {x y : Int32} (n : Nat) (hd : decode bytes pc = .ok (.ishr, 1)) (hn : pc + 1 = n) (v : Int32) (hv : x >>> (y &&& 31) = v) (k : W l R Z own nm bytes maxL ret n0 P h cells slots n Ls (.int v :: st)) : W l R Z own nm bytes maxL ret n0 P h cells slots pc Ls (.int y :: .int x :: st) := by
  subst hn
  exact k.step fun p e s m args below meth c T locs hx hZ hby hown X eT t q => XS.ishr X.here hx rfl (hb hby hd) rfl (hv ▸ q)
theorem W.iushr {x y : Int32} (n : Nat) (hd : decode bytes pc = .ok (.iushr, 1)) (hn : pc + 1 = n) (v : Int32) (hv : (x.toUInt32 >>> (y &&& 31).toUInt32).toInt32 = v) (k : W l R Z own nm bytes maxL ret n0 P h cells slots n Ls (.int v :: st)) : W l R Z own nm bytes maxL ret n0 P h cells slots pc Ls (.int y :: .int x :: st) := by
  subst hn
  exact k.step fun p e s m args below meth c T locs hx hZ hby hown X eT t q => XS.iushr X.here hx rfl (hb hby hd) rfl (hv ▸ q)
theorem W.lshl {x : Int64} {y : Int32} (n : Nat) (hd : decode bytes pc = .ok (.lshl, 1)) (hn : pc + 1 = n) (v : Int64) (hv : x <<< (y &&& 0x3f).toInt64 = v) (k : W l R Z own nm bytes maxL ret n0 P h cells slots n Ls (.long v :: st)) : W l R Z own nm bytes maxL ret n0 P h cells slots pc Ls (.int y :: .long x :: st) := by
  subst hn
  exact k.step fun p e s m args below meth c T locs hx hZ hby hown X eT t q => XS.lshl X.here hx rfl (hb hby hd) rfl (hv ▸ q)
theorem W.lshr {x : Int64} {y : Int32} (n : Nat) (hd : decode bytes pc = .ok (.lshr, 1)) (hn : pc + 1 = n) (v : Int64) (hv : x >>> (y &&& 0x3f).toInt64 = v) (k : W l R Z own nm bytes maxL ret n0 P h cells slots n Ls (.long v :: st)) : W l R Z own nm bytes maxL ret n0 P h cells slots pc Ls (.int y :: .long x :: st) := by
  subst hn
  exact k.step fun p e s m args below meth c T locs hx hZ hby hown X eT t q => XS.lshr X.here hx rfl (hb hby hd) rfl (hv ▸ q)
theorem W.lushr {x : Int64} {y : Int32} (n : Nat) (hd : decode bytes pc = .ok (.lushr, 1)) (hn : pc + 1 = n) (v : Int64) (hv : (x.toUInt64 >>> (y &&& 0x3f).toInt64.toUInt64).toInt64 = v) (k : W l R Z own nm bytes maxL ret n0 P h cells slots n Ls (.long v :: st)) : W l R Z own nm bytes maxL ret n0 P h cells slots pc Ls (.int y :: .long x :: st) := by
  subst hn
  exact k.step fun p e s m args below meth c T locs hx hZ hby hown X eT t q => XS.lushr X.here hx rfl (hb hby hd) rfl (hv ▸ q)
theorem W.ineg {x : Int32} (n : Nat) (hd : decode bytes pc = .ok (.ineg, 1)) (hn : pc + 1 = n) (v : Int32) (hv : -x = v) (k : W l R Z own nm bytes maxL ret n0 P h cells slots n Ls (.int v :: st)) : W l R Z own nm bytes maxL ret n0 P h cells slots pc Ls (.int x :: st) := by
  subst hn
  exact k.step fun p e s m args below meth c T locs hx hZ hby hown X eT t q => XS.ineg X.here hx rfl (hb hby hd) rfl (hv ▸ q)
theorem W.lneg {x : Int64} (n : Nat) (hd : decode bytes pc = .ok (.lneg, 1)) (hn : pc + 1 = n) (v : Int64) (hv : -x = v) (k : W l R Z own nm bytes maxL ret n0 P h cells slots n Ls (.long v :: st)) : W l R Z own nm bytes maxL ret n0 P h cells slots pc Ls (.long x :: st) := by
  subst hn
  exact k.step fun p e s m args below meth c T locs hx hZ hby hown X eT t q => XS.lneg X.here hx rfl (hb hby hd) rfl (hv ▸ q)
theorem W.i2l {x : Int32} (n : Nat) (hd : decode bytes pc = .ok (.i2l, 1)) (hn : pc + 1 = n) (v : Int64) (hv : x.toInt64 = v) (k : W l R Z own nm bytes maxL ret n0 P h cells slots n Ls (.long v :: st)) : W l R Z own nm bytes maxL ret n0 P h cells slots pc Ls (.int x :: st) := by
  subst hn
  exact k.step fun p e s m args below meth c T locs hx hZ hby hown X eT t q => XS.i2l X.here hx rfl (hb hby hd) rfl (hv ▸ q)
theorem W.l2i {x : Int64} (n : Nat) (hd : decode bytes pc = .ok (.l2i, 1)) (hn : pc + 1 = n) (v : Int32) (hv : x.toInt32 = v) (k : W l R Z own nm bytes maxL ret n0 P h cells slots n Ls (.int v :: st)) : W l R Z own nm bytes maxL ret n0 P h cells slots pc Ls (.long x :: st) := by
  subst hn
  exact k.step fun p e s m args below meth c T locs hx hZ hby hown X eT t q => XS.l2i X.here hx rfl (hb hby hd) rfl (hv ▸ q)
theorem W.i2b {x : Int32} (n : Nat) (hd : decode bytes pc = .ok (.i2b, 1)) (hn : pc + 1 = n) (v : Int32) (hv : x.toInt8.toInt32 = v) (k : W l R Z own nm bytes maxL ret n0 P h cells slots n Ls (.int v :: st)) : W l R Z own nm bytes maxL ret n0 P h cells slots pc Ls (.int x :: st) := by
  subst hn
  exact k.step fun p e s m args below meth c T locs hx hZ hby hown X eT t q => XS.i2b X.here hx rfl (hb hby hd) rfl (hv ▸ q)
theorem W.i2s {x : Int32} (n : Nat) (hd : decode bytes pc = .ok (.i2s, 1)) (hn : pc + 1 = n) (v : Int32) (hv : x.toInt16.toInt32 = v) (k : W l R Z own nm bytes maxL ret n0 P h cells slots n Ls (.int v :: st)) : W l R Z own nm bytes maxL ret n0 P h cells slots pc Ls (.int x :: st) := by
  subst hn
  exact k.step fun p e s m args below meth c T locs hx hZ hby hown X eT t q => XS.i2s X.here hx rfl (hb hby hd) rfl (hv ▸ q)
theorem W.i2c {x : Int32} (n : Nat) (hd : decode bytes pc = .ok (.i2c, 1)) (hn : pc + 1 = n) (v : Int32) (hv : x.toUInt32.toUInt16.toUInt32.toInt32 = v) (k : W l R Z own nm bytes maxL ret n0 P h cells slots n Ls (.int v :: st)) : W l R Z own nm bytes maxL ret n0 P h cells slots pc Ls (.int x :: st) := by
  subst hn
  exact k.step fun p e s m args below meth c T locs hx hZ hby hown X eT t q => XS.i2c X.here hx rfl (hb hby hd) rfl (hv ▸ q)
theorem W.lcmp {x y : Int64} (n : Nat) (hd : decode bytes pc = .ok (.lcmp, 1)) (hn : pc + 1 = n) (v : Int32) (hv : lcmpW x y = v) (k : W l R Z own nm bytes maxL ret n0 P h cells slots n Ls (.int v :: st)) : W l R Z own nm bytes maxL ret n0 P h cells slots pc Ls (.long y :: .long x :: st) := by
  subst hn
  exact k.step fun p e s m args below meth c T locs hx hZ hby hown X eT t q => XS.lcmp X.here hx rfl (hb hby hd) rfl ((show (if x > y then 1 else if x = y then 0 else -1) = v from hv) ▸ q)
theorem W.iconst {i : Int} (n : Nat) (hd : decode bytes pc = .ok (.iconst i, 1)) (hn : pc + 1 = n) (v : Int32) (hv : Int32.ofInt i = v) (k : W l R Z own nm bytes maxL ret n0 P h cells slots n Ls (.int v :: st)) : W l R Z own nm bytes maxL ret n0 P h cells slots pc Ls st := by
  subst hn
  exact k.step fun p e s m args below meth c T locs hx hZ hby hown X eT t q => XS.iconst X.here hx rfl (hb hby hd) (hv ▸ q)
theorem W.bipush {i : Int} (n : Nat) (hd : decode bytes pc = .ok (.bipush i, 2)) (hn : pc + 2 = n) (v : Int32) (hv : (Int8.ofInt i).toInt32 = v) (k : W l R Z own nm bytes maxL ret n0 P h cells slots n Ls (.int v :: st)) : W l R Z own nm bytes maxL ret n0 P h cells slots pc Ls st := by
  subst hn
  exact k.step fun p e s m args below meth c T locs hx hZ hby hown X eT t q => XS.bipush X.here hx rfl (hb hby hd) (hv ▸ q)
theorem W.sipush {i : Int} (n : Nat) (hd : decode bytes pc = .ok (.sipush i, 3)) (hn : pc + 3 = n) (v : Int32) (hv : (Int16.ofInt i).toInt32 = v) (k : W l R Z own nm bytes maxL ret n0 P h cells slots n Ls (.int v :: st)) : W l R Z own nm bytes maxL ret n0 P h cells slots pc Ls st := by
  subst hn
  exact k.step fun p e s m args below meth c T locs hx hZ hby hown X eT t q => XS.sipush X.here hx rfl (hb hby hd) (hv ▸ q)
theorem W.lconst {i : F2} (n : Nat) (hd : decode bytes pc = .ok (.lconst i, 1)) (hn : pc + 1 = n) (v : Int64) (hv : Int64.ofNat i = v) (k : W l R Z own nm bytes maxL ret n0 P h cells slots n Ls (.long v :: st)) : W l R Z own nm bytes maxL ret n0 P h cells slots pc Ls st := by
  subst hn
  exact k.step fun p e s m args below meth c T locs hx hZ hby hown X eT t q => XS.lconst X.here hx rfl (hb hby hd) (hv ▸ q)
theorem W.aconst_null (n : Nat) (hd : decode bytes pc = .ok (.aconst_null, 1)) (hn : pc + 1 = n) (k : W l R Z own nm bytes maxL ret n0 P h cells slots n Ls (.null :: st)) : W l R Z own nm bytes maxL ret n0 P h cells slots pc Ls st := by
  subst hn
  exact k.step fun p e s m args below meth c T locs hx hZ hby hown X eT t q => XS.aconstNull X.here hx rfl (hb hby hd) q
theorem W.ldcI {i : Nat} {v : Int32} (n : Nat) (hd : decode bytes pc = .ok (.ldc i, 2)) (hn : pc + 2 = n) (w : (Jvm.Cond.constant own i v).before a0 Z = true) (k : W l R Z own nm bytes maxL ret n0 P h cells slots n Ls (.int v :: st)) : W l R Z own nm bytes maxL ret n0 P h cells slots pc Ls st := by
  subst hn
  exact k.step fun p e s m args below meth c T locs hx hZ hby hown X eT t q => X.ldcI hx hown (mvT hZ w) rfl (hb hby hd) q
theorem W.ldcWI {i : Nat} {v : Int32} (n : Nat) (hd : decode bytes pc = .ok (.ldc_w i, 3)) (hn : pc + 3 = n) (w : (Jvm.Cond.constant own i v).before a0 Z = true) (k : W l R Z own nm bytes maxL ret n0 P h cells slots n Ls (.int v :: st)) : W l R Z own nm bytes maxL ret n0 P h cells slots pc Ls st := by
  subst hn
  exact k.step fun p e s m args below meth c T locs hx hZ hby hown X eT t q => X.ldcWI hx hown (mvT hZ w) rfl (hb hby hd) q
theorem W.ldc2J {i : Nat} {v : Int64} (n : Nat) (hd : decode bytes pc = .ok (.ldc2_w i, 3)) (hn : pc + 3 = n) (w : (Jvm.Cond.constantLong own i v).before a0 Z = true) (k : W l R Z own nm bytes maxL ret n0 P h cells slots n Ls (.long v :: st)) : W l R Z own nm bytes maxL ret n0 P h cells slots pc Ls st := by
  subst hn
  exact k.step fun p e s m args below meth c T locs hx hZ hby hown X eT t q => X.ldc2J hx hown (mvT hZ w) rfl (hb hby hd) q
theorem W.ldcR {i : Nat} {text : String} {a : Addr} (n : Nat) (hd : decode bytes pc = .ok (.ldc i, 2)) (hn : pc + 2 = n) (w : (Jvm.Cond.stringRef own i text).before a0 Z = true) (L : RoadKit.Lit Z own i a) (k : W l R Z own nm bytes maxL ret n0 P h cells slots n Ls (.ref a :: st)) : W l R Z own nm bytes maxL ret n0 P h cells slots pc Ls st := by
  subst hn
  exact k.step fun p e s m args below meth c T locs hx hZ hby hown X eT t q => RoadKit.ldcR X hx hZ hown w L (g := mkF m pc Ls st) rfl (hb hby hd) t q
theorem W.iload {i : Nat} {v : Int32} (n : Nat) (hd : decode bytes pc = .ok (.iload i, 2)) (hn : pc + 2 = n) (hl : Ls[i]? = some (.val (.int v))) (k : W l R Z own nm bytes maxL ret n0 P h cells slots n Ls (.int v :: st)) : W l R Z own nm bytes maxL ret n0 P h cells slots pc Ls st := by
  subst hn
  exact k.step fun p e s m args below meth c T locs hx hZ hby hown X eT t q => XS.iload X.here hx rfl (hb hby hd) hl q
theorem W.iloadN {i : F4} {v : Int32} (n : Nat) (hd : decode bytes pc = .ok (.iload_n i, 1)) (hn : pc + 1 = n) (hl : Ls[i.val]? = some (.val (.int v))) (k : W l R Z own nm bytes maxL ret n0 P h cells slots n Ls (.int v :: st)) : W l R Z own nm bytes maxL ret n0 P h cells slots pc Ls st := by
  subst hn
  exact k.step fun p e s m args below meth c T locs hx hZ hby hown X eT t q => XS.iloadN X.here hx rfl (hb hby hd) hl q
theorem W.lload {i : Nat} {v : Int64} (n : Nat) (hd : decode bytes pc = .ok (.lload i, 2)) (hn : pc + 2 = n) (hl : Ls[i]? = some (.val (.long v))) (k : W l R Z own nm bytes maxL ret n0 P h cells slots n Ls (.long v :: st)) : W l R Z own nm bytes maxL ret n0 P h cells slots pc Ls st := by
  subst hn
  exact k.step fun p e s m args below meth c T locs hx hZ hby hown X eT t q => XS.lload X.here hx rfl (hb hby hd) hl q
theorem W.lloadN {i : F4} {v : Int64} (n : Nat) (hd : decode bytes pc = .ok (.lload_n i, 1)) (hn : pc + 1 = n) (hl : Ls[i.val]? = some (.val (.long v))) (k : W l R Z own nm bytes maxL ret n0 P h cells slots n Ls (.long v :: st)) : W l R Z own nm bytes maxL ret n0 P h cells slots pc Ls st := by
  subst hn
  exact k.step fun p e s m args below meth c T locs hx hZ hby hown X eT t q => XS.lloadN X.here hx rfl (hb hby hd) hl q
theorem W.aload {i : Nat} {v : Value} (n : Nat) (hd : decode bytes pc = .ok (.aload i, 2)) (hn : pc + 2 = n) (hl : Ls[i]? = some (.val v)) (hv : v.isRef = true) (k : W l R Z own nm bytes maxL ret n0 P h cells slots n Ls (v :: st)) : W l R Z own nm bytes maxL ret n0 P h cells slots pc Ls st := by
  subst hn
  exact k.step fun p e s m args below meth c T locs hx hZ hby hown X eT t q => XS.aload X.here hx rfl (hb hby hd) hl hv q
theorem W.aloadN {i : F4} {v : Value} (n : Nat) (hd : decode bytes pc = .ok (.aload_n i, 1)) (hn : pc + 1 = n) (hl : Ls[i.val]? = some (.val v)) (hv : v.isRef = true) (k : W l R Z own nm bytes maxL ret n0 P h cells slots n Ls (v :: st)) : W l R Z own nm bytes maxL ret n0 P h cells slots pc Ls st := by
  subst hn
  exact k.step fun p e s m args below meth c T locs hx hZ hby hown X eT t q => XS.aloadN X.here hx rfl (hb hby hd) hl hv q
theorem W.istore {i : Nat} {v : Int32} (n : Nat) (hd : decode bytes pc = .ok (.istore i, 2)) (hn : pc + 2 = n) (Ls' : Array Slot) (hl : storeLocals Ls i (.int v) = some Ls') (k : W l R Z own nm bytes maxL ret n0 P h cells slots n Ls' st) : W l R Z own nm bytes maxL ret n0 P h cells slots pc Ls (.int v :: st) := by
  subst hn
  exact k.step fun p e s m args below meth c T locs hx hZ hby hown X eT t q => XS.istore X.here hx rfl (hb hby hd) rfl hl q
theorem W.istoreN {i : F4} {v : Int32} (n : Nat) (hd : decode bytes pc = .ok (.istore_n i, 1)) (hn : pc + 1 = n) (Ls' : Array Slot) (hl : storeLocals Ls i.val (.int v) = some Ls') (k : W l R Z own nm bytes maxL ret n0 P h cells slots n Ls' st) : W l R Z own nm bytes maxL ret n0 P h cells slots pc Ls (.int v :: st) := by
  subst hn
  exact k.step fun p e s m args below meth c T locs hx hZ hby hown X eT t q => XS.istoreN X.here hx rfl (hb hby hd) rfl hl q
theorem W.lstore {i : Nat} {v : Int64} (n : Nat) (hd : decode bytes pc = .ok (.lstore i, 2)) (hn : pc + 2 = n) (Ls' : Array Slot) (hl : storeLocals Ls i (.long v) = some Ls') (k : W l R Z own nm bytes maxL ret n0 P h cells slots n Ls' st) : W l R Z own nm bytes maxL ret n0 P h cells slots pc Ls (.long v :: st) := by
  subst hn
  exact k.step fun p e s m args below meth c T locs hx hZ hby hown X eT t q => XS.lstore X.here hx rfl (hb hby hd) rfl hl q
theorem W.lstoreN {i : F4} {v : Int64} (n : Nat) (hd : decode bytes pc = .ok (.lstore_n i, 1)) (hn : pc + 1 = n) (Ls' : Array Slot) (hl : storeLocals Ls i.val (.long v) = some Ls') (k : W l R Z own nm bytes maxL ret n0 P h cells slots n Ls' st) : W l R Z own nm bytes maxL ret n0 P h cells slots pc Ls (.long v :: st) := by
  subst hn
  exact k.step fun p e s m args below meth c T locs hx hZ hby hown X eT t q => XS.lstoreN X.here hx rfl (hb hby hd) rfl hl q
theorem W.astore {i : Nat} {v : Value} (n : Nat) (hd : decode bytes pc = .ok (.astore i, 2)) (hn : pc + 2 = n) (hv : v.isRef = true) (Ls' : Array Slot) (hl : storeLocals Ls i v = some Ls') (k : W l R Z own nm bytes maxL ret n0 P h cells slots n Ls' st) : W l R Z own nm bytes maxL ret n0 P h cells slots pc Ls (v :: st) := by
  subst hn
  exact k.step fun p e s m args below meth c T locs hx hZ hby hown X eT t q => XS.astore X.here hx rfl (hb hby hd) rfl hv hl q
theorem W.astoreN {i : F4} {v : Value} (n : Nat) (hd : decode bytes pc = .ok (.astore_n i, 1)) (hn : pc + 1 = n) (hv : v.isRef = true) (Ls' : Array Slot) (hl : storeLocals Ls i.val v = some Ls') (k : W l R Z own nm bytes maxL ret n0 P h cells slots n Ls' st) : W l R Z own nm bytes maxL ret n0 P h cells slots pc Ls (v :: st) := by
  subst hn
  exact k.step fun p e s m args below meth c T locs hx hZ hby hown X eT t q => XS.astoreN X.here hx rfl (hb hby hd) rfl hv hl q
theorem W.iinc {i : Nat} {cst : Int} {x : Int32} (n : Nat) (hd : decode bytes pc = .ok (.iinc i cst, 3)) (hn : pc + 3 = n) (hx0 : Ls[i]? = some (.val (.int x))) (v : Int32) (hv : x + Int32.ofInt cst = v) (Ls' : Array Slot) (hl : storeLocals Ls i (.int v) = some Ls') (k : W l R Z own nm bytes maxL ret n0 P h cells slots n Ls' st) : W l R Z own nm bytes maxL ret n0 P h cells slots pc Ls st := by
  subst hn
  exact k.step fun p e s m args below meth c T locs hx hZ hby hown X eT t q => XS.iinc X.here hx rfl (hb hby hd) hx0 (hv ▸ hl) q
theorem W.dup {v : Value} (n : Nat) (hd : decode bytes pc = .ok (.dup, 1)) (hn : pc + 1 = n) (hc : v.category = 1) (k : W l R Z own nm bytes maxL ret n0 P h cells slots n Ls (v :: v :: st)) : W l R Z own nm bytes maxL ret n0 P h cells slots pc Ls (v :: st) := by
  subst hn
  exact k.step fun p e s m args below meth c T locs hx hZ hby hown X eT t q => XS.dup X.here hx rfl (hb hby hd) rfl hc q
theorem W.pop {v : Value} (n : Nat) (hd : decode bytes pc = .ok (.pop, 1)) (hn : pc + 1 = n) (hc : v.category = 1) (k : W l R Z own nm bytes maxL ret n0 P h cells slots n Ls st) : W l R Z own nm bytes maxL ret n0 P h cells slots pc Ls (v :: st) := by
  subst hn
  exact k.step fun p e s m args below meth c T locs hx hZ hby hown X eT t q => XS.pop X.here hx rfl (hb hby hd) rfl hc q
theorem W.dup_x1 {v w : Value} (n : Nat) (hd : decode bytes pc = .ok (.dup_x1, 1)) (hn : pc + 1 = n) (hc : v.category = 1) (hc' : w.category = 1) (k : W l R Z own nm bytes maxL ret n0 P h cells slots n Ls (v :: w :: v :: st)) : W l R Z own nm bytes maxL ret n0 P h cells slots pc Ls (v :: w :: st) := by
  subst hn
  exact k.step fun p e s m args below meth c T locs hx hZ hby hown X eT t q => XS.dupX1 X.here hx rfl (hb hby hd) rfl hc hc' q
theorem W.dup2 {v w : Value} (n : Nat) (hd : decode bytes pc = .ok (.dup2, 1)) (hn : pc + 1 = n) (hc : v.category = 1) (hc' : w.category = 1) (k : W l R Z own nm bytes maxL ret n0 P h cells slots n Ls (v :: w :: v :: w :: st)) : W l R Z own nm bytes maxL ret n0 P h cells slots pc Ls (v :: w :: st) := by
  subst hn
  exact k.step fun p e s m args below meth c T locs hx hZ hby hown X eT t q => XT.dup2 X.here hx rfl (hb hby hd) rfl hc hc' q
theorem W.goto {o : Int} (n : Nat) (hd : decode bytes pc = .ok (.goto o, 3)) (hn : (pc : Int) + o = (n : Int)) (k : W l R Z own nm bytes maxL ret n0 P h cells slots n Ls st) : W l R Z own nm bytes maxL ret n0 P h cells slots pc Ls st :=
  k.step fun p e s m args below meth c T locs hx hZ hby hown X eT t q => XS.goto X.here hx rfl (pc0 := pc) (pc' := n) rfl (hb hby hd) (by omega) (by omega) q
theorem W.icmp_lt {x y : Int32} {o : Int} (n n' : Nat) (hd : decode bytes pc = .ok (.if_icmp .lt o, 3)) (hn : (pc : Int) + o = (n : Int)) (hn' : pc + 3 = n') (k : x < y → W l R Z own nm bytes maxL ret n0 P h cells slots n Ls st) (k' : ¬ x < y → W l R Z own nm bytes maxL ret n0 P h cells slots n' Ls st) : W l R Z own nm bytes maxL ret n0 P h cells slots pc Ls (.int y :: .int x :: st) := by
  subst hn'
  by_cases hc : x < y
  · exact (k hc).step fun p e s m args below meth c T locs hx hZ hby hown X eT t q => XS.icmpYes X.here hx rfl (pc0 := pc) (pc' := n) rfl (hb hby hd) rfl (tlt hc).1 (by omega) (by omega) q
  · exact (k' hc).step fun p e s m args below meth c T locs hx hZ hby hown X eT t q => XS.icmpNo X.here hx rfl (hb hby hd) rfl (flt hc).1 q
theorem W.if_lt {x : Int32} {o : Int} (n n' : Nat) (hd : decode bytes pc = .ok (.ifCond .lt o, 3)) (hn : (pc : Int) + o = (n : Int)) (hn' : pc + 3 = n') (k : x < (0 : Int32) → W l R Z own nm bytes maxL ret n0 P h cells slots n Ls st) (k' : ¬ x < (0 : Int32) → W l R Z own nm bytes maxL ret n0 P h cells slots n' Ls st) : W l R Z own nm bytes maxL ret n0 P h cells slots pc Ls (.int x :: st) := by
  subst hn'
  by_cases hc : x < (0 : Int32)
  · exact (k hc).step fun p e s m args below meth c T locs hx hZ hby hown X eT t q => XS.ifYes X.here hx rfl (pc0 := pc) (pc' := n) rfl (hb hby hd) rfl ((if0 _ _).trans (tlt hc).1) (by omega) (by omega) q
  · exact (k' hc).step fun p e s m args below meth c T locs hx hZ hby hown X eT t q => XS.ifNo X.here hx rfl (hb hby hd) rfl ((if0 _ _).trans (flt hc).1) q
theorem W.icmp_ge {x y : Int32} {o : Int} (n n' : Nat) (hd : decode bytes pc = .ok (.if_icmp .ge o, 3)) (hn : (pc : Int) + o = (n : Int)) (hn' : pc + 3 = n') (k : ¬ x < y → W l R Z own nm bytes maxL ret n0 P h cells slots n Ls st) (k' : x < y → W l R Z own nm bytes maxL ret n0 P h cells slots n' Ls st) : W l R Z own nm bytes maxL ret n0 P h cells slots pc Ls (.int y :: .int x :: st) := by
  subst hn'
  by_cases hc : x < y
  · exact (k' hc).step fun p e s m args below meth c T locs hx hZ hby hown X eT t q => XS.icmpNo X.here hx rfl (hb hby hd) rfl (tlt hc).2.1 q
  · exact (k hc).step fun p e s m args below meth c T locs hx hZ hby hown X eT t q => XS.icmpYes X.here hx rfl (pc0 := pc) (pc' := n) rfl (hb hby hd) rfl (flt hc).2.1 (by omega) (by omega) q
theorem W.if_ge {x : Int32} {o : Int} (n n' : Nat) (hd : decode bytes pc = .ok (.ifCond .ge o, 3)) (hn : (pc : Int) + o = (n : Int)) (hn' : pc + 3 = n') (k : ¬ x < (0 : Int32) → W l R Z own nm bytes maxL ret n0 P h cells slots n Ls st) (k' : x < (0 : Int32) → W l R Z own nm bytes maxL ret n0 P h cells slots n' Ls st) : W l R Z own nm bytes maxL ret n0 P h cells slots pc Ls (.int x :: st) := by
  subst hn'
  by_cases hc : x < (0 : Int32)
  · exact (k' hc).step fun p e s m args below meth c T locs hx hZ hby hown X eT t q => XS.ifNo X.here hx rfl (hb hby hd) rfl ((if0 _ _).trans (tlt hc).2.1) q
  · exact (k hc).step fun p e s m args below meth c T locs hx hZ hby hown X eT t q => XS.ifYes X.here hx rfl (pc0 := pc) (pc' := n) rfl (hb hby hd) rfl ((if0 _ _).trans (flt hc).2.1) (by omega) (by omega) q
theorem W.icmp_gt {x y : Int32} {o : Int} (n n' : Nat) (hd : decode bytes pc = .ok (.if_icmp .gt o, 3)) (hn : (pc : Int) + o = (n : Int)) (hn' : pc + 3 = n') (k : y < x → W l R Z own nm bytes maxL ret n0 P h cells slots n Ls st) (k' : ¬ y < x → W l R Z own nm bytes maxL ret n0 P h cells slots n' Ls st) : W l R Z own nm bytes maxL ret n0 P h cells slots pc Ls (.int y :: .int x :: st) := by
  subst hn'
  by_cases hc : y < x
  · exact (k hc).step fun p e s m args below meth c T locs hx hZ hby hown X eT t q => XS.icmpYes X.here hx rfl (pc0 := pc) (pc' := n) rfl (hb hby hd) rfl (tlt hc).2.2.1 (by omega) (by omega) q
  · exact (k' hc).step fun p e s m args below meth c T locs hx hZ hby hown X eT t q => XS.icmpNo X.here hx rfl (hb hby hd) rfl (flt hc).2.2.1 q
theorem W.if_gt {x : Int32} {o : Int} (n n' : Nat) (hd : decode bytes pc = .ok (.ifCond .gt o, 3)) (hn : (pc : Int) + o = (n : Int)) (hn' : pc + 3 = n') (k : (0 : Int32) < x → W l R Z own nm bytes maxL ret n0 P h cells slots n Ls st) (k' : ¬ (0 : Int32) < x → W l R Z own nm bytes maxL ret n0 P h cells slots n' Ls st) : W l R Z own nm bytes maxL ret n0 P h cells slots pc Ls (.int x :: st) := by
  subst hn'
  by_cases hc : (0 : Int32) < x
  · exact (k hc).step fun p e s m args below meth c T locs hx hZ hby hown X eT t q => XS.ifYes X.here hx rfl (pc0 := pc) (pc' := n) rfl (hb hby hd) rfl ((if0 _ _).trans (tlt hc).2.2.1) (by omega) (by omega) q
  · exact (k' hc).step fun p e s m args below meth c T locs hx hZ hby hown X eT t q => XS.ifNo X.here hx rfl (hb hby hd) rfl ((if0 _ _).trans (flt hc).2.2.1) q
theorem W.icmp_le {x y : Int32} {o : Int} (n n' : Nat) (hd : decode bytes pc = .ok (.if_icmp .le o, 3)) (hn : (pc : Int) + o = (n : Int)) (hn' : pc + 3 = n') (k : ¬ y < x → W l R Z own nm bytes maxL ret n0 P h cells slots n Ls st) (k' : y < x → W l R Z own nm bytes maxL ret n0 P h cells slots n' Ls st) : W l R Z own nm bytes maxL ret n0 P h cells slots pc Ls (.int y :: .int x :: st) := by
  subst hn'
  by_cases hc : y < x
  · exact (k' hc).step fun p e s m args below meth c T locs hx hZ hby hown X eT t q => XS.icmpNo X.here hx rfl (hb hby hd) rfl (tlt hc).2.2.2 q
  · exact (k hc).step fun p e s m args below meth c T locs hx hZ hby hown X eT t q => XS.icmpYes X.here hx rfl (pc0 := pc) (pc' := n) rfl (hb hby hd) rfl (flt hc).2.2.2 (by omega) (by omega) q
theorem W.if_le {x : Int32} {o : Int} (n n' : Nat) (hd : decode bytes pc = .ok (.ifCond .le o, 3)) (hn : (pc : Int) + o = (n : Int)) (hn' : pc + 3 = n') (k : ¬ (0 : Int32) < x → W l R Z own nm bytes maxL ret n0 P h cells slots n Ls st) (k' : (0 : Int32) < x → W l R Z own nm bytes maxL ret n0 P h cells slots n' Ls st) : W l R Z own nm bytes maxL ret n0 P h cells slots pc Ls (.int x :: st) := by
  subst hn'
  by_cases hc : (0 : Int32) < x
  · exact (k' hc).step fun p e s m args below meth c T locs hx hZ hby hown X eT t q => XS.ifNo X.here hx rfl (hb hby hd) rfl ((if0 _ _).trans (tlt hc).2.2.2) q
  · exact (k hc).step fun p e s m args below meth c T locs hx hZ hby hown X eT t q => XS.ifYes X.here hx rfl (pc0 := pc) (pc' := n) rfl (hb hby hd) rfl ((if0 _ _).trans (flt hc).2.2.2) (by omega) (by omega) q
theorem W.icmp_eq {x y : Int32} {o : Int} (n n' : Nat) (hd : decode bytes pc = .ok (.if_icmp .eq o, 3)) (hn : (pc : Int) + o = (n : Int)) (hn' : pc + 3 = n') (k : x = y → W l R Z own nm bytes maxL ret n0 P h cells slots n Ls st) (k' : ¬ x = y → W l R Z own nm bytes maxL ret n0 P h cells slots n' Ls st) : W l R Z own nm bytes maxL ret n0 P h cells slots pc Ls (.int y :: .int x :: st) := by
  subst hn'
  by_cases hc : x = y
  · exact (k hc).step fun p e s m args below meth c T locs hx hZ hby hown X eT t q => XS.icmpYes X.here hx rfl (pc0 := pc) (pc' := n) rfl (hb hby hd) rfl (teq hc).1 (by omega) (by omega) q
  · exact (k' hc).step fun p e s m args below meth c T locs hx hZ hby hown X eT t q => XS.icmpNo X.here hx rfl (hb hby hd) rfl (feq hc).1 q
theorem W.if_eq {x : Int32} {o : Int} (n n' : Nat) (hd : decode bytes pc = .ok (.ifCond .eq o, 3)) (hn : (pc : Int) + o = (n : Int)) (hn' : pc + 3 = n') (k : x = (0 : Int32) → W l R Z own nm bytes maxL ret n0 P h cells slots n Ls st) (k' : ¬ x = (0 : Int32) → W l R Z own nm bytes maxL ret n0 P h cells slots n' Ls st) : W l R Z own nm bytes maxL ret n0 P h cells slots pc Ls (.int x :: st) := by
  subst hn'
  by_cases hc : x = (0 : Int32)
  · exact (k hc).step fun p e s m args below meth c T locs hx hZ hby hown X eT t q => XS.ifYes X.here hx rfl (pc0 := pc) (pc' := n) rfl (hb hby hd) rfl ((if0 _ _).trans (teq hc).1) (by omega) (by omega) q
  · exact (k' hc).step fun p e s m args below meth c T locs hx hZ hby hown X eT t q => XS.ifNo X.here hx rfl (hb hby hd) rfl ((if0 _ _).trans (feq hc).1) q
theorem W.icmp_ne {x y : Int32} {o : Int} (n n' : Nat) (hd : decode bytes pc = .ok (.if_icmp .ne o, 3)) (hn : (pc : Int) + o = (n : Int)) (hn' : pc + 3 = n') (k : ¬ x = y → W l R Z own nm bytes maxL ret n0 P h cells slots n Ls st) (k' : x = y → W l R Z own nm bytes maxL ret n0 P h cells slots n' Ls st) : W l R Z own nm bytes maxL ret n0 P h cells slots pc Ls (.int y :: .int x :: st) := by
  subst hn'
  by_cases hc : x = y
  · exact (k' hc).step fun p e s m args below meth c T locs hx hZ hby hown X eT t q => XS.icmpNo X.here hx rfl (hb hby hd) rfl (teq hc).2 q
  · exact (k hc).step fun p e s m args below meth c T locs hx hZ hby hown X eT t q => XS.icmpYes X.here hx rfl (pc0 := pc) (pc' := n) rfl (hb hby hd) rfl (feq hc).2 (by omega) (by omega) q
theorem W.if_ne {x : Int32} {o : Int} (n n' : Nat) (hd : decode bytes pc = .ok (.ifCond .ne o, 3)) (hn : (pc : Int) + o = (n : Int)) (hn' : pc + 3 = n') (k : ¬ x = (0 : Int32) → W l R Z own nm bytes maxL ret n0 P h cells slots n Ls st) (k' : x = (0 : Int32) → W l R Z own nm bytes maxL ret n0 P h cells slots n' Ls st) : W l R Z own nm bytes maxL ret n0 P h cells slots pc Ls (.int x :: st) := by
  subst hn'
  by_cases hc : x = (0 : Int32)
  · exact (k' hc).step fun p e s m args below meth c T locs hx hZ hby hown X eT t q => XS.ifNo X.here hx rfl (hb hby hd) rfl ((if0 _ _).trans (teq hc).2) q
  · exact (k hc).step fun p e s m args below meth c T locs hx hZ hby hown X eT t q => XS.ifYes X.here hx rfl (pc0 := pc) (pc' := n) rfl (hb hby hd) rfl ((if0 _ _).trans (feq hc).2) (by omega) (by omega) q
theorem W.ifnull_null {o : Int} (n : Nat) (hd : decode bytes pc = .ok (.ifnull o, 3)) (hn : (pc : Int) + o = (n : Int)) (k : W l R Z own nm bytes maxL ret n0 P h cells slots n Ls st) : W l R Z own nm bytes maxL ret n0 P h cells slots pc Ls (.null :: st) := by
  exact k.step fun p e s m args below meth c T locs hx hZ hby hown X eT t q => XS.ifnullYes X.here hx rfl (pc0 := pc) (pc' := n) rfl (hb hby hd) rfl (by omega) (by omega) q
theorem W.ifnull_ref {o : Int} {a : Addr} (n : Nat) (hd : decode bytes pc = .ok (.ifnull o, 3)) (hn : pc + 3 = n) (k : W l R Z own nm bytes maxL ret n0 P h cells slots n Ls st) : W l R Z own nm bytes maxL ret n0 P h cells slots pc Ls (.ref a :: st) := by
  subst hn
  exact k.step fun p e s m args below meth c T locs hx hZ hby hown X eT t q => XS.ifnullNo X.here hx rfl (hb hby hd) rfl q
theorem W.ifnonnull_null {o : Int} (n : Nat) (hd : decode bytes pc = .ok (.ifnonnull o, 3)) (hn : pc + 3 = n) (k : W l R Z own nm bytes maxL ret n0 P h cells slots n Ls st) : W l R Z own nm bytes maxL ret n0 P h cells slots pc Ls (.null :: st) := by
  subst hn
  exact k.step fun p e s m args below meth c T locs hx hZ hby hown X eT t q => XS.ifnonnullNo X.here hx rfl (hb hby hd) rfl q
theorem W.ifnonnull_ref {o : Int} {a : Addr} (n : Nat) (hd : decode bytes pc = .ok (.ifnonnull o, 3)) (hn : (pc : Int) + o = (n : Int)) (k : W l R Z own nm bytes maxL ret n0 P h cells slots n Ls st) : W l R Z own nm bytes maxL ret n0 P h cells slots pc Ls (.ref a :: st) := by
  exact k.step fun p e s m args below meth c T locs hx hZ hby hown X eT t q => XS.ifnonnullYes X.here hx rfl (pc0 := pc) (pc' := n) rfl (hb hby hd) rfl (by omega) (by omega) q
theorem W.acmp_eq {x y : Value} {o : Int} (n n' : Nat) (hd : decode bytes pc = .ok (.if_acmp .eq o, 3)) (hn : (pc : Int) + o = (n : Int)) (hn' : pc + 3 = n') (h1 : x.isRef = true) (h2 : y.isRef = true) (k : x = y → W l R Z own nm bytes maxL ret n0 P h cells slots n Ls st) (k' : ¬ x = y → W l R Z own nm bytes maxL ret n0 P h cells slots n' Ls st) : W l R Z own nm bytes maxL ret n0 P h cells slots pc Ls (y :: x :: st) := by
  subst hn'
  by_cases hc : x = y
  · exact (k hc).step fun p e s m args below meth c T locs hx hZ hby hown X eT t q => RoadKit.acmp X hx rfl h1 h2 (pc0 := pc) (pc' := n) (same := true) rfl (hb hby hd) rfl (decide_eq_true hc) (by omega) (by simp [acV]; try omega) q
  · exact (k' hc).step fun p e s m args below meth c T locs hx hZ hby hown X eT t q => RoadKit.acmp X hx rfl h1 h2 (pc0 := pc) (pc' := pc + 3) (same := false) rfl (hb hby hd) rfl (decide_eq_false hc) (by omega) (by simp [acV]; try omega) q
theorem W.acmp_ne {x y : Value} {o : Int} (n n' : Nat) (hd : decode bytes pc = .ok (.if_acmp .ne o, 3)) (hn : (pc : Int) + o = (n : Int)) (hn' : pc + 3 = n') (h1 : x.isRef = true) (h2 : y.isRef = true) (k : ¬ x = y → W l R Z own nm bytes maxL ret n0 P h cells slots n Ls st) (k' : x = y → W l R Z own nm bytes maxL ret n0 P h cells slots n' Ls st) : W l R Z own nm bytes maxL ret n0 P h cells slots pc Ls (y :: x :: st) := by
  subst hn'
  by_cases hc : x = y
  · exact (k' hc).step fun p e s m args below meth c T locs hx hZ hby hown X eT t q => RoadKit.acmp X hx rfl h1 h2 (pc0 := pc) (pc' := pc + 3) (same := true) rfl (hb hby hd) rfl (decide_eq_true hc) (by omega) (by simp [acV]; try omega) q
  · exact (k hc).step fun p e s m args below meth c T locs hx hZ hby hown X eT t q => RoadKit.acmp X hx rfl h1 h2 (pc0 := pc) (pc' := n) (same := false) rfl (hb hby hd) rfl (decide_eq_false hc) (by omega) (by simp [acV]; try omega) q
theorem W.lookup {d : Int} {ps : Array (Int × Int)} {len : Nat} {x : Int32} (o : Int) (n : Nat) (hd : decode bytes pc = .ok (.lookupswitch d ps, len)) (hsort : (ps.toList.zip (ps.toList.drop 1)).all (fun (a, next) => a.1 < next.1) = true) (ho : Op.lookupswitch.offset ps.toList d x.toInt = o) (hn : (pc : Int) + o = (n : Int)) (k : W l R Z own nm bytes maxL ret n0 P h cells slots n Ls st) : W l R Z own nm bytes maxL ret n0 P h cells slots pc Ls (.int x :: st) := by
  refine k.step fun p e s m args below meth c T locs hx hZ hby hown X eT t q => ?_
  have hd' := hb hby hd
  have ho' : 0 ≤ (pc : Int) + o := by omega
  have hp : ((pc : Int) + o).toNat = n := by omega
  jvm_step X.here [X.here.top, hx, hd', Op.lookupswitch.wp_chain, hsort, ho, ho', hp]
  exact ⟨by simpa using hsort, q⟩
/-! the heap -/
theorem Fr.one {k : Nat} {L : List Loc} {a : Addr} {sl : Nat} (N : Fr k L) (q : k ≤ a) : Fr k (L ++ [⟨a, sl⟩]) := N.app fun y hy => by cases List.mem_singleton.mp hy; exact q
theorem Keep.of_ext {h h' : Heap} (E : Ext h h') : Keep h h' [] := (Keep.refl h []).ext E
theorem size_le {p : Program} {e : Env} {s : State} {m : MethodId} {args : Array Value} {below : List Frame} {meth : Method} {c : Code} {T : State} {locs : List Loc} (X : Stand p l e R s m args below meth c T locs cells slots) : s.heap.size ≤ T.heap.size := X.same.2.1
theorem W.getfield {i : Nat} {R0 O f d host : String} {a : Addr} {v : Value} (n : Nat) (hd : decode bytes pc = .ok (.getfield i, 3)) (hn : pc + 3 = n) (w : (Jvm.Cond.fieldLink own i R0 f d).before a0 Z = true ∨ (Jvm.Cond.fieldLinkNest own i R0 f d host).before a0 Z = true) (via : Via Z R0 O f d) (F : Fld Z h a O f d v) (k : W l R Z own nm bytes maxL ret n0 P h cells slots n Ls (v :: st)) : W l R Z own nm bytes maxL ret n0 P h cells slots pc Ls (.ref a :: st) := by
  subst hn
  intro p e s m args below meth c T locs hx hZ hby hml hown hret hlk hnm hn0 X eT N
  obtain ⟨T', X', e', st'⟩ := getF X hx hZ hown w via eT F (g := mkF m pc Ls (.ref a :: st)) rfl rfl (hb hby hd)
  exact (k p e s m args below meth c T' locs hx hZ hby hml hown hret hlk hnm hn0 X' e' N).step st'
theorem W.getstatic {i : Nat} {R0 O f d host : String} {v : Value} (n : Nat) (hd : decode bytes pc = .ok (.getstatic i, 3)) (hn : pc + 3 = n) (w : (Jvm.Cond.fieldLink own i R0 f d).before a0 Z = true ∨ (Jvm.Cond.fieldLinkNest own i R0 f d host).before a0 Z = true) (via : Via Z R0 O f d) (F : Sta Z h O f d v) (k : W l R Z own nm bytes maxL ret n0 P h cells slots n Ls (v :: st)) : W l R Z own nm bytes maxL ret n0 P h cells slots pc Ls st := by
  subst hn
  intro p e s m args below meth c T locs hx hZ hby hml hown hret hlk hnm hn0 X eT N
  obtain ⟨T', X', e', st'⟩ := getS2 X hx hZ hown w via eT F (g := mkF m pc Ls st) rfl (hb hby hd)
  exact (k p e s m args below meth c T' locs hx hZ hby hml hown hret hlk hnm hn0 X' e' N).step st'
theorem W.putfield {i kk : Nat} {R0 O f d host C : String} {ty : FieldType} {a : Addr} {v old : Value} (n : Nat) (hd : decode bytes pc = .ok (.putfield i, 3)) (hn : pc + 3 = n) (w : (Jvm.Cond.fieldLink own i R0 f d).before a0 Z = true ∨ (Jvm.Cond.fieldLinkNest own i R0 f d host).before a0 Z = true) (via : Via Z R0 O f d) (F : Fld Z h a O f d old) (E : Exa Z h a C)
    (L : (Jvm.Cond.lays C O f d).before a0 Z = true ∨ ((Jvm.Cond.laysFinal C O f d).before a0 Z = true ∧ own = O ∧ nm = "<init>")) (wi : (Jvm.Cond.instantiable C kk).before a0 Z = true) (hty : parseFieldDescriptor d = some ty) (hv : narrow ty v = v) (hf : fits ty v = true) (ge : n0 ≤ a)
    (k : ∀ h', Wr h h' a (RoadKit.slotOf Z O f d) v → Fld Z h' a O f d v → Exa Z h' a C → Keep h h' [a] → W l R Z own nm bytes maxL ret n0 P h' cells slots n Ls st) : W l R Z own nm bytes maxL ret n0 P h cells slots pc Ls (v :: .ref a :: st) := by
  subst hn
  intro p e s m args below meth c T locs hx hZ hby hml hown hret hlk hnm hn0 X eT N
  obtain ⟨T', h', X', e', W', st'⟩ := putF X hx hZ hown w via eT F E (L.imp id fun q => ⟨q.1, q.2.1, hnm.trans q.2.2⟩) wi hty hv hf (g := mkF m pc Ls (v :: .ref a :: st)) rfl rfl (hb hby hd)
  exact (k h' W' (F.same W') (E.wr W') (Keep.of_wr W') p e s m args below meth c T' _ hx hZ hby hml hown hret hlk hnm hn0 X' e' (Fr.one N ge)).step st'
theorem W.putfieldN {i kk : Nat} {R0 O f d C : String} {ty : FieldType} {a : Addr} {v old : Value} (n : Nat) (hd : decode bytes pc = .ok (.putfield i, 3)) (hn : pc + 3 = n) (w : (Jvm.Cond.fieldLink own i R0 f d).before a0 Z = true) (via : Via Z R0 O f d) (F : Fld Z h a O f d old) (E : Exa Z h a C)
    (L : (Jvm.Cond.lays C O f d).before a0 Z = true ∨ ((Jvm.Cond.laysFinal C O f d).before a0 Z = true ∧ own = O ∧ nm = "<init>")) (wi : (Jvm.Cond.instantiable C kk).before a0 Z = true) (hty : parseFieldDescriptor d = some ty) (v' : Value) (hv : narrow ty v = v') (hf : fits ty v' = true) (ge : n0 ≤ a)
    (k : ∀ h', Wr h h' a (RoadKit.slotOf Z O f d) v' → Fld Z h' a O f d v' → Exa Z h' a C → Keep h h' [a] → W l R Z own nm bytes maxL ret n0 P h' cells slots n Ls st) : W l R Z own nm bytes maxL ret n0 P h cells slots pc Ls (v :: .ref a :: st) := by
  subst hn
  intro p e s m args below meth c T locs hx hZ hby hml hown hret hlk hnm hn0 X eT N
  obtain ⟨T', h', X', e', W', st'⟩ := putFN X hx hZ hown w via eT F E (L.imp id fun q => ⟨q.1, q.2.1, hnm.trans q.2.2⟩) wi hty hv hf (g := mkF m pc Ls (v :: .ref a :: st)) rfl rfl (hb hby hd)
  exact (k h' W' (F.same W') (E.wr W') (Keep.of_wr W') p e s m args below meth c T' _ hx hZ hby hml hown hret hlk hnm hn0 X' e' (Fr.one N ge)).step st'
theorem W.new {i ns : Nat} {C : String} (n : Nat) (hd : decode bytes pc = .ok (.new i, 3)) (hn : pc + 3 = n) (w : (Jvm.Cond.classLink own i C).before a0 Z = true) (wi : (Jvm.Cond.instantiable C ns).before a0 Z = true) (wz : (Jvm.Cond.initialized C).before a0 Z = true) (hc : cells + 1 ≤ R.cells) (hs : slots + ns ≤ R.slots)
    (k : ∀ h' b, b = h.size → n0 ≤ b → Ext h h' → Keep h h' [] → Exa Z h' b C → (∀ {O f d : String} {ty : FieldType}, Laid Z a0 C O f d → parseFieldDescriptor d = some ty → Fld Z h' b O f d (defaultValue ty)) → W l R Z own nm bytes maxL ret n0 P h' (cells + 1) (slots + ns) n Ls (.ref b :: st)) : W l R Z own nm bytes maxL ret n0 P h cells slots pc Ls st := by
  subst hn
  intro p e s m args below meth c T locs hx hZ hby hml hown hret hlk hnm hn0 X eT N
  obtain ⟨T', h', X', e', E', A', D', -, st'⟩ := newO X hx hZ hown w wi wz eT (g := mkF m pc Ls st) rfl (hb hby hd) hc hs
  have hb0 : n0 ≤ h.size := Nat.le_trans hn0 (eT ▸ size_le X)
  exact (k h' h.size rfl hb0 E' (Keep.of_ext E') A' D' p e s m args below meth c T' _ hx hZ hby hml hown hret hlk hnm hn0 X' e' N).step st'
theorem Ary.lt {a : Addr} {ty : FieldType} {vs : List Value} (A : Ary Z h a ty vs) : a < h.size := by obtain ⟨c, A, -⟩ := A; exact A.lt
theorem Ary.keep {h' : Heap} {ws : List Addr} {a : Addr} {ty : FieldType} {vs : List Value} (A : Ary Z h a ty vs) (K : Keep h h' ws) (q : a ∉ ws) : Ary Z h' a ty vs := by obtain ⟨c, A, r⟩ := A; exact ⟨c, ⟨K.2.1 a c A.1 q, A.2⟩, r⟩
theorem Ary.new {k : ClassId} {a : Addr} {ty : FieldType} {z : Int32} (A : Arr Z h a (newA k ty z) ty) (hf : fits ty (defaultValue ty) = true) : Ary Z h a ty (List.replicate z.toNatClampNeg (defaultValue ty)) :=
  ⟨_, A, by simp [newA], fun v hv => by rw [(List.mem_replicate.mp hv).2]; exact hf, by rw [List.length_replicate]; have := Int32.toInt_lt z; simp only [Int32.toNatClampNeg]; omega⟩
theorem Ary.set {h' : Heap} {a : Addr} {ty : FieldType} {vs : List Value} {i : Nat} {v : Value} (A : Ary Z h a ty vs) (W' : Wr h h' a i v) (hf : fits ty v = true) : Ary Z h' a ty (vs.set i v) := by
  obtain ⟨c, A, rfl, F, S⟩ := A
  exact ⟨_, A.same W', by simp [Cell.setSlot], fun w hw => (List.mem_or_eq_of_mem_set hw).elim (fun q => F w q) (fun q => q ▸ hf), by simpa using S⟩
theorem Ary.arv {a : Addr} {ty : FieldType} {vs : List Value} (A : Ary Z h a ty vs) (d : Value) : ∃ k, Arv Z h a k ty vs.length.toInt32 vs d := by
  obtain ⟨c, A, rfl, F, S⟩ := A
  have hz : (c.slots.toList.length.toInt32).toInt = c.slots.toList.length := Int32.toInt_ofNat_small S
  have hn : (c.slots.toList.length.toInt32).toNatClampNeg = c.slots.size := by simp only [Int32.toNatClampNeg]; rw [hz]; simp
  refine ⟨c.cls, c, A, rfl, hn.symm, fun q => ?_, fun i hi => ?_, fun i hi => ?_⟩
  · have := Int32.lt_iff_toInt_lt.mp q; rw [hz] at this; have e0 : (0 : Int32).toInt = 0 := rfl; omega
  · rw [List.getD_eq_getElem?_getD]; simp [hi]
  · rw [List.getD_eq_getElem?_getD]; exact F _ (by simp [hi])
theorem Ary.of_arv {a : Addr} {k : ClassId} {ty : FieldType} {vs : List Value} {z : Int32} {d : Value} (A : Arv Z h a k ty z vs d) (hz : z.toNatClampNeg = vs.length) : Ary Z h a ty vs := by
  obtain ⟨c, A, q1, q2, q3, H, G⟩ := A
  have hl : c.slots.toList = vs := by
    apply List.ext_getElem?
    intro i
    by_cases hi : i < c.slots.size
    · have := H i hi
      rw [List.getD_eq_getElem?_getD, List.getElem?_eq_getElem (by omega)] at this
      rw [List.getElem?_eq_getElem (l := vs) (by omega)]
      simpa using this
    · rw [List.getElem?_eq_none (by simpa using hi), List.getElem?_eq_none (by omega)]
  refine ⟨c, A, hl, fun v hv => ?_, ?_⟩
  · obtain ⟨i, hi, rfl⟩ := List.getElem_of_mem hv
    have := G i (by omega)
    rwa [List.getD_eq_getElem?_getD, List.getElem?_eq_getElem hi] at this
  · have := Int32.toInt_lt z; simp only [Int32.toNatClampNeg] at hz; omega
theorem W.newarray {aty : ArrayType} {ty : FieldType} {x : Int32} (n : Nat) (hd : decode bytes pc = .ok (.newarray aty, 2)) (hn : pc + 2 = n) (w : (Jvm.Cond.arrayClass ty).before a0 Z = true) (hty : newarray.typeOf aty = ty) (hx0 : ¬ x < 0) (len cap : Nat) (hlen : x.toNatClampNeg = len) (hcap : len ≤ cap) (hb8 : cap * 8 ≤ 536870912) (hc : cells + 1 ≤ R.cells) (hs : slots + cap ≤ R.slots) (hfd : fits ty (defaultValue ty) = true)
    (k : ∀ h' b, b = h.size → n0 ≤ b → Ext h h' → Keep h h' [] → Ary Z h' b ty (List.replicate len (defaultValue ty)) → W l R Z own nm bytes maxL ret n0 P h' (cells + 1) (slots + cap) n Ls (.ref b :: st)) : W l R Z own nm bytes maxL ret n0 P h cells slots pc Ls (.int x :: st) := by
  subst hn hty hlen
  intro p e s m args below meth c T locs hx hZ hby hml hown hret hlk hnm hn0 X eT N
  obtain ⟨T', h', cA, X', e', E', A', st'⟩ := newP X hx hZ w eT (g := mkF m pc Ls (.int x :: st)) rfl (hb hby hd) rfl hx0 hcap hb8 hc hs
  have hb0 : n0 ≤ h.size := Nat.le_trans hn0 (eT ▸ size_le X)
  exact (k h' h.size rfl hb0 E' (Keep.of_ext E') (Ary.new A' hfd) p e s m args below meth c T' _ hx hZ hby hml hown hret hlk hnm hn0 X' e' N).step st'
theorem W.newarrayE {aty : ArrayType} {ty : FieldType} {x : Int32} {ad : String} (n : Nat) (hd : decode bytes pc = .ok (.newarray aty, 2)) (hn : pc + 2 = n) (w : (Jvm.Cond.arrayClass ty).before a0 Z = true) (hty : newarray.typeOf aty = ty) (had : "[" ++ ty.toString = ad) (hx0 : ¬ x < 0) (len cap : Nat) (hlen : x.toNatClampNeg = len) (hcap : len ≤ cap) (hb8 : cap * 8 ≤ 536870912) (hc : cells + 1 ≤ R.cells) (hs : slots + cap ≤ R.slots) (hfd : fits ty (defaultValue ty) = true)
    (k : ∀ h' b, b = h.size → n0 ≤ b → Ext h h' → Keep h h' [] → Ary Z h' b ty (List.replicate len (defaultValue ty)) → Exa Z h' b ad → W l R Z own nm bytes maxL ret n0 P h' (cells + 1) (slots + cap) n Ls (.ref b :: st)) : W l R Z own nm bytes maxL ret n0 P h cells slots pc Ls (.int x :: st) := by
  subst hn hty hlen
  intro p e s m args below meth c T locs hx hZ hby hml hown hret hlk hnm hn0 X eT N
  obtain ⟨T', h', cA, X', e', E', A', B', st'⟩ := newPE X hx hZ w eT (g := mkF m pc Ls (.int x :: st)) rfl (hb hby hd) rfl hx0 hcap hb8 hc hs had
  have hb0 : n0 ≤ h.size := Nat.le_trans hn0 (eT ▸ size_le X)
  exact (k h' h.size rfl hb0 E' (Keep.of_ext E') (Ary.new A' hfd) B' p e s m args below meth c T' _ hx hZ hby hml hown hret hlk hnm hn0 X' e' N).step st'
theorem ary_in {c : Cell} {vs : List Value} {j : Int32} {i : Nat} (hc : c.slots.toList = vs) (hj : j.toNatClampNeg = i) (h0 : ¬ j < 0) (hi : i < vs.length) : ¬ (j < 0 ∨ c.slots.size ≤ j.toNatClampNeg) := by
  subst hc hj; rintro (q | q)
  · exact h0 q
  · exact absurd hi (by simpa using q)
theorem W.arraylength {a : Addr} {ty : FieldType} {vs : List Value} (n : Nat) (hd : decode bytes pc = .ok (.arraylength, 1)) (hn : pc + 1 = n) (A : Ary Z h a ty vs) (v : Int32) (hv : vs.length.toInt32 = v) (k : W l R Z own nm bytes maxL ret n0 P h cells slots n Ls (.int v :: st)) : W l R Z own nm bytes maxL ret n0 P h cells slots pc Ls (.ref a :: st) := by
  subst hn
  obtain ⟨c, A, rfl, F, S⟩ := A
  have e : c.slots.size.toInt32 = v := by rw [← hv]; simp
  exact k.step fun p e' s m args below meth c' T locs hx hZ hby hown X eT t q => X.arraylength hx (by rw [eT]; exact A.1) (State.isArrayOf_alike hZ.alike A.2.1) (g := mkF m pc Ls (.ref a :: st)) rfl rfl (hb hby hd) t (e ▸ q)

theorem W.iaload {a : Addr} {vs : List Value} {j : Int32} (n : Nat) (hd : decode bytes pc = .ok (.iaload, 1)) (hn : pc + 1 = n) (A : Ary Z h a .int vs) (i : Nat) (hj : j.toNatClampNeg = i) (h0 : ¬ j < 0) (v : Value) (hv : vs[i]? = some v) (k : W l R Z own nm bytes maxL ret n0 P h cells slots n Ls (v :: st)) : W l R Z own nm bytes maxL ret n0 P h cells slots pc Ls (.int j :: .ref a :: st) := by
  subst hn
  obtain ⟨c, A, hc, F, S⟩ := A
  have hi : i < vs.length := (List.getElem?_eq_some_iff.mp hv).1
  have hin := ary_in hc hj h0 hi
  have hat : c.slots[j.toNatClampNeg]? = some v := by rw [hj, ← hv, ← hc]; simp
  exact k.step fun p e' s m args below meth c' T locs hx hZ hby hown X eT t q => X.iaload hx (j := j) (v := v) (by rw [eT]; exact A.1) (State.isArrayOf_alike hZ.alike A.2.1) A.2.2 hin hat (g := mkF m pc Ls (.int j :: .ref a :: st)) rfl rfl (hb hby hd) t q
theorem W.laload {a : Addr} {vs : List Value} {j : Int32} (n : Nat) (hd : decode bytes pc = .ok (.laload, 1)) (hn : pc + 1 = n) (A : Ary Z h a .long vs) (i : Nat) (hj : j.toNatClampNeg = i) (h0 : ¬ j < 0) (v : Value) (hv : vs[i]? = some v) (k : W l R Z own nm bytes maxL ret n0 P h cells slots n Ls (v :: st)) : W l R Z own nm bytes maxL ret n0 P h cells slots pc Ls (.int j :: .ref a :: st) := by
  subst hn
  obtain ⟨c, A, hc, F, S⟩ := A
  have hi : i < vs.length := (List.getElem?_eq_some_iff.mp hv).1
  have hin := ary_in hc hj h0 hi
  have hat : c.slots[j.toNatClampNeg]? = some v := by rw [hj, ← hv, ← hc]; simp
  exact k.step fun p e' s m args below meth c' T locs hx hZ hby hown X eT t q => X.laload hx (j := j) (v := v) (by rw [eT]; exact A.1) (State.isArrayOf_alike hZ.alike A.2.1) A.2.2 hin hat (g := mkF m pc Ls (.int j :: .ref a :: st)) rfl rfl (hb hby hd) t q
theorem W.caload {a : Addr} {vs : List Value} {j : Int32} (n : Nat) (hd : decode bytes pc = .ok (.caload, 1)) (hn : pc + 1 = n) (A : Ary Z h a .char vs) (i : Nat) (hj : j.toNatClampNeg = i) (h0 : ¬ j < 0) (v : Value) (hv : vs[i]? = some v) (k : W l R Z own nm bytes maxL ret n0 P h cells slots n Ls (v :: st)) : W l R Z own nm bytes maxL ret n0 P h cells slots pc Ls (.int j :: .ref a :: st) := by
  subst hn
  obtain ⟨c, A, hc, F, S⟩ := A
  have hi : i < vs.length := (List.getElem?_eq_some_iff.mp hv).1
  have hin := ary_in hc hj h0 hi
  have hat : c.slots[j.toNatClampNeg]? = some v := by rw [hj, ← hv, ← hc]; simp
  exact k.step fun p e' s m args below meth c' T locs hx hZ hby hown X eT t q => X.caload hx (j := j) (v := v) (by rw [eT]; exact A.1) (State.isArrayOf_alike hZ.alike A.2.1) A.2.2 hin hat (g := mkF m pc Ls (.int j :: .ref a :: st)) rfl rfl (hb hby hd) t q
theorem W.baload {a : Addr} {vs : List Value} {j : Int32} (n : Nat) (hd : decode bytes pc = .ok (.baload, 1)) (hn : pc + 1 = n) (A : Ary Z h a .byte vs) (i : Nat) (hj : j.toNatClampNeg = i) (h0 : ¬ j < 0) (v : Value) (hv : vs[i]? = some v) (k : W l R Z own nm bytes maxL ret n0 P h cells slots n Ls (v :: st)) : W l R Z own nm bytes maxL ret n0 P h cells slots pc Ls (.int j :: .ref a :: st) := by
  subst hn
  obtain ⟨c, A, hc, F, S⟩ := A
  have hi : i < vs.length := (List.getElem?_eq_some_iff.mp hv).1
  have hin := ary_in hc hj h0 hi
  have hat : c.slots[j.toNatClampNeg]? = some v := by rw [hj, ← hv, ← hc]; simp
  exact k.step fun p e' s m args below meth c' T locs hx hZ hby hown X eT t q => X.baloadBytes hx (j := j) (v := v) (by rw [eT]; exact A.1) (State.isArrayOf_alike hZ.alike A.2.1) A.2.2 hin hat (g := mkF m pc Ls (.int j :: .ref a :: st)) rfl rfl (hb hby hd) t q
theorem W.aaload {a : Addr} {vs : List Value} {j : Int32} {ty : FieldType} (n : Nat) (hd : decode bytes pc = .ok (.aaload, 1)) (hn : pc + 1 = n) (A : Ary Z h a ty vs) (hty : ty.isReference = true) (i : Nat) (hj : j.toNatClampNeg = i) (h0 : ¬ j < 0) (v : Value) (hv : vs[i]? = some v) (k : W l R Z own nm bytes maxL ret n0 P h cells slots n Ls (v :: st)) : W l R Z own nm bytes maxL ret n0 P h cells slots pc Ls (.int j :: .ref a :: st) := by
  subst hn
  obtain ⟨c, A, hc, F, S⟩ := A
  have hi : i < vs.length := (List.getElem?_eq_some_iff.mp hv).1
  have hin := ary_in hc hj h0 hi
  have hat : c.slots[j.toNatClampNeg]? = some v := by rw [hj, ← hv, ← hc]; simp
  exact k.step fun p e' s m args below meth c' T locs hx hZ hby hown X eT t q => X.aaload hx (j := j) (v := v) (by rw [eT]; exact A.1) (State.isArrayOf_alike hZ.alike A.2.1) hty A.2.2 hin hat (g := mkF m pc Ls (.int j :: .ref a :: st)) rfl rfl (hb hby hd) t q
theorem W.iastore {a : Addr} {vs : List Value} {j : Int32} {x : Int32} (n : Nat) (hd : decode bytes pc = .ok (.iastore, 1)) (hn : pc + 1 = n) (A : Ary Z h a .int vs) (i : Nat) (hj : j.toNatClampNeg = i) (h0 : ¬ j < 0) (hi : i < vs.length) (ge : n0 ≤ a)
    (k : ∀ h', Wr h h' a i (.int x) → Keep h h' [a] → Ary Z h' a .int (vs.set i (.int x)) → W l R Z own nm bytes maxL ret n0 P h' cells slots n Ls st) : W l R Z own nm bytes maxL ret n0 P h cells slots pc Ls (.int x :: .int j :: .ref a :: st) := by
  subst hn
  intro p e s m args below meth c T locs hx hZ hby hml hown hret hlk hnm hn0 X eT N
  have A0 := A
  obtain ⟨cl, A, hc, F, S⟩ := A
  obtain ⟨T', h', X', e', W', st'⟩ := stI X hx hZ eT A (ary_in hc hj h0 hi) (g := mkF m pc Ls (.int x :: .int j :: .ref a :: st)) rfl rfl (hb hby hd)
  subst hj
  exact (k h' W' (Keep.of_wr W') (A0.set W' rfl) p e s m args below meth c T' _ hx hZ hby hml hown hret hlk hnm hn0 X' e' (Fr.one N ge)).step st'

theorem W.lastore {a : Addr} {vs : List Value} {j : Int32} {x : Int64} (n : Nat) (hd : decode bytes pc = .ok (.lastore, 1)) (hn : pc + 1 = n) (A : Ary Z h a .long vs) (i : Nat) (hj : j.toNatClampNeg = i) (h0 : ¬ j < 0) (hi : i < vs.length) (ge : n0 ≤ a)
    (k : ∀ h', Wr h h' a i (.long x) → Keep h h' [a] → Ary Z h' a .long (vs.set i (.long x)) → W l R Z own nm bytes maxL ret n0 P h' cells slots n Ls st) : W l R Z own nm bytes maxL ret n0 P h cells slots pc Ls (.long x :: .int j :: .ref a :: st) := by
  subst hn
  intro p e s m args below meth c T locs hx hZ hby hml hown hret hlk hnm hn0 X eT N
  have A0 := A
  obtain ⟨cl, A, hc, F, S⟩ := A
  obtain ⟨T', h', X', e', W', st'⟩ := stJ X hx hZ eT A (ary_in hc hj h0 hi) (g := mkF m pc Ls (.long x :: .int j :: .ref a :: st)) rfl rfl (hb hby hd)
  subst hj
  exact (k h' W' (Keep.of_wr W') (A0.set W' rfl) p e s m args below meth c T' _ hx hZ hby hml hown hret hlk hnm hn0 X' e' (Fr.one N ge)).step st'

theorem W.castore {a : Addr} {vs : List Value} {j : Int32} {x : Int32} (n : Nat) (hd : decode bytes pc = .ok (.castore, 1)) (hn : pc + 1 = n) (A : Ary Z h a .char vs) (i : Nat) (hj : j.toNatClampNeg = i) (h0 : ¬ j < 0) (hi : i < vs.length) (x' : Int32) (hx' : nar .char x = x') (ge : n0 ≤ a)
    (k : ∀ h', Wr h h' a i (.int x') → Keep h h' [a] → Ary Z h' a .char (vs.set i (.int x')) → W l R Z own nm bytes maxL ret n0 P h' cells slots n Ls st) : W l R Z own nm bytes maxL ret n0 P h cells slots pc Ls (.int x :: .int j :: .ref a :: st) := by
  subst hn hx'
  intro p e s m args below meth c T locs hx hZ hby hml hown hret hlk hnm hn0 X eT N
  have A0 := A
  obtain ⟨cl, A, hc, F, S⟩ := A
  obtain ⟨T', h', X', e', W', st'⟩ := stC X hx hZ eT A (ary_in hc hj h0 hi) (g := mkF m pc Ls (.int x :: .int j :: .ref a :: st)) rfl rfl (hb hby hd)
  subst hj
  exact (k h' W' (Keep.of_wr W') (A0.set W' (fits_nar_char _)) p e s m args below meth c T' _ hx hZ hby hml hown hret hlk hnm hn0 X' e' (Fr.one N ge)).step st'

theorem W.bastore {a : Addr} {vs : List Value} {j : Int32} {x : Int32} (n : Nat) (hd : decode bytes pc = .ok (.bastore, 1)) (hn : pc + 1 = n) (A : Ary Z h a .byte vs) (i : Nat) (hj : j.toNatClampNeg = i) (h0 : ¬ j < 0) (hi : i < vs.length) (x' : Int32) (hx' : nar .byte x = x') (ge : n0 ≤ a)
    (k : ∀ h', Wr h h' a i (.int x') → Keep h h' [a] → Ary Z h' a .byte (vs.set i (.int x')) → W l R Z own nm bytes maxL ret n0 P h' cells slots n Ls st) : W l R Z own nm bytes maxL ret n0 P h cells slots pc Ls (.int x :: .int j :: .ref a :: st) := by
  subst hn hx'
  intro p e s m args below meth c T locs hx hZ hby hml hown hret hlk hnm hn0 X eT N
  have A0 := A
  obtain ⟨cl, A, hc, F, S⟩ := A
  obtain ⟨T', h', X', e', W', st'⟩ := stB X hx hZ eT A (ary_in hc hj h0 hi) (g := mkF m pc Ls (.int x :: .int j :: .ref a :: st)) rfl rfl (hb hby hd)
  subst hj
  exact (k h' W' (Keep.of_wr W') (A0.set W' (fits_nar_byte _)) p e s m args below meth c T' _ hx hZ hby hml hown hret hlk hnm hn0 X' e' (Fr.one N ge)).step st'

theorem W.bastoreZ {a : Addr} {vs : List Value} {j : Int32} {x : Int32} (n : Nat) (hd : decode bytes pc = .ok (.bastore, 1)) (hn : pc + 1 = n) (A : Ary Z h a .boolean vs) (i : Nat) (hj : j.toNatClampNeg = i) (h0 : ¬ j < 0) (hi : i < vs.length) (x' : Int32) (hx' : nar .boolean x = x') (ge : n0 ≤ a)
    (k : ∀ h', Wr h h' a i (.int x') → Keep h h' [a] → Ary Z h' a .boolean (vs.set i (.int x')) → W l R Z own nm bytes maxL ret n0 P h' cells slots n Ls st) : W l R Z own nm bytes maxL ret n0 P h cells slots pc Ls (.int x :: .int j :: .ref a :: st) := by
  subst hn hx'
  intro p e s m args below meth c T locs hx hZ hby hml hown hret hlk hnm hn0 X eT N
  have A0 := A
  obtain ⟨cl, A, hc, F, S⟩ := A
  obtain ⟨T', h', X', e', W', st'⟩ := stZ X hx hZ eT A (ary_in hc hj h0 hi) (g := mkF m pc Ls (.int x :: .int j :: .ref a :: st)) rfl rfl (hb hby hd)
  subst hj
  exact (k h' W' (Keep.of_wr W') (A0.set W' (fits_nar_bool _)) p e s m args below meth c T' _ hx hZ hby hml hown hret hlk hnm hn0 X' e' (Fr.one N ge)).step st'

/-! calls and returns -/
theorem W.initObj {i : Nat} {a : Addr} (n : Nat) (hd : decode bytes pc = .ok (.invokespecial i, 3)) (hn : pc + 3 = n) (w1 : (Jvm.Cond.methodLink own i Lib.objectInit).before a0 Z = true) (w2 : (Jvm.Cond.instanceMethod Lib.objectInit).before a0 Z = true) (w3 : (Jvm.Cond.code Lib.objectInit ⟨#[0xb1]⟩ 1 none).before a0 Z = true) (hsz : Ls.size = maxL) (hf : 1 ≤ R.frames) (W0 : Nat) (hW : (st.map fun v => v.category).sum ≤ W0) (hl : W0 + 12 ≤ R.locals)
    (k : W l R Z own nm bytes maxL ret n0 P h cells slots n Ls st) : W l R Z own nm bytes maxL ret n0 P h cells slots pc Ls (.ref a :: st) := by
  subst hn
  intro p e s m args below meth c T locs hx hZ hby hml hown hret hlk hnm hn0 X eT N
  obtain ⟨T', X', e', st'⟩ := initO X hx hZ hown w1 w2 w3 eT (g := mkF m pc Ls (.ref a :: st)) rfl (by rw [hml]; exact hsz) rfl (hb hby hd) hf (W := W0) (by show 2 * 0 + _ ≤ _; omega) hl
  exact (k p e s m args below meth c T' locs hx hZ hby hml hown hret hlk hnm hn0 X' e' N).step st'
section Calls
variable {y : MethodName} {bytes' : ByteArray} {maxL' : Nat} {ret' : Option FieldType} {rm : Room} {P' : Option Value → Heap → Prop} {rest argsL : List Value} {i : Nat}
theorem W.callS (n : Nat) (hd : decode bytes pc = .ok (.invokestatic i, 3)) (hn : pc + 3 = n) (C : n0 ≤ h.size → Con l Z y bytes' maxL' ret' rm argsL.toArray h n0 P') (w1 : (Jvm.Cond.methodLink own i y).before a0 Z = true) (w2 : (Jvm.Cond.static y).before a0 Z = true) (w3 : (Jvm.Cond.initialized y.cls).before a0 Z = true) (w4 : (Jvm.Cond.code y bytes' maxL' ret').before a0 Z = true)
    (hy : y.cls ≠ "java/lang/invoke/MethodHandle" ∧ y.cls ≠ "java/lang/invoke/VarHandle") {ps : List FieldType} {r : Option FieldType} (hpd : parseMethodDescriptor y.desc = some ⟨ps, r⟩) (hlen : argsL.length = ps.length) (hst : st = argsL.reverse ++ rest) (hsz : Ls.size = maxL) (hf : rm.frames + 1 ≤ R.frames) (W0 : Nat) (hW : (rest.map fun v => v.category).sum ≤ W0) (hl : W0 + (maxL' + 11) + rm.locals ≤ R.locals) (hc : cells + rm.cells ≤ R.cells) (hs : slots + rm.slots ≤ R.slots)
    (k : ∀ v h', P' v h' → W l R Z own nm bytes maxL ret n0 P h' (cells + rm.cells) (slots + rm.slots) n Ls (v.toList ++ rest)) : W l R Z own nm bytes maxL ret n0 P h cells slots pc Ls st := by
  subst hn hst
  intro p e s m args below meth c T locs hx hZ hby hml hown hret hlk hnm hn0 X eT N
  obtain ⟨v, _, ⟨T', L', c', n'⟩, -, X', ⟨Lc, hQ, l', y', z'⟩, st'⟩ := Jvm.LawKit.callS X hx (y := y) hown (mvT hZ w1) (mvT hZ w2) (mvT hZ w3) (mvT hZ w4) hy (backOf (W := W0) (Z := Z) (h := h) (bytes := bytes') (maxL := maxL') (rm := rm) (Q := fun v h' L => P' v h' ∧ Fr n0 L) (C (Nat.le_trans hn0 (eT ▸ size_le X))) hZ w4 w3 hf hl) (g := mkF m pc Ls (argsL.reverse ++ rest)) rfl (by rw [hml]; exact hsz) (argsL := argsL) (rest := rest) (lenOf hpd hlen) rfl (by show 2 * 0 + _ ≤ _; omega) (hb hby hd) (fun _ _ => ⟨rfl, eT, hc, hs⟩)
  dsimp only [Pt.U, Pt.locs, Pt.cells, Pt.slots] at X' l' y' z' st' hQ
  subst l' y' z'
  exact (k v T'.heap hQ.1 p e s m args below meth c T' _ hx hZ hby hml hown hret hlk hnm hn0 X' rfl (Fr.app N hQ.2)).step st'
theorem W.callInit {a : Addr} (n : Nat) (hd : decode bytes pc = .ok (.invokespecial i, 3)) (hn : pc + 3 = n) (C : n0 ≤ h.size → Con l Z y bytes' maxL' none rm (.ref a :: argsL).toArray h n0 P') (hi : y.name = "<init>") (w1 : (Jvm.Cond.methodLink own i y).before a0 Z = true) (w2 : (Jvm.Cond.instanceMethod y).before a0 Z = true) (w3 : (Jvm.Cond.initialized y.cls).before a0 Z = true) (w4 : (Jvm.Cond.code y bytes' maxL' none).before a0 Z = true)
    (hy : y.cls ≠ "java/lang/invoke/MethodHandle" ∧ y.cls ≠ "java/lang/invoke/VarHandle") {ps : List FieldType} {r : Option FieldType} (hpd : parseMethodDescriptor y.desc = some ⟨ps, r⟩) (hlen : argsL.length = ps.length) (hst : st = argsL.reverse ++ .ref a :: rest) (hsz : Ls.size = maxL) (hf : rm.frames + 1 ≤ R.frames) (W0 : Nat) (hW : (rest.map fun v => v.category).sum ≤ W0) (hl : W0 + (maxL' + 11) + rm.locals ≤ R.locals) (hc : cells + rm.cells ≤ R.cells) (hs : slots + rm.slots ≤ R.slots)
    (k : ∀ v h', P' v h' → W l R Z own nm bytes maxL ret n0 P h' (cells + rm.cells) (slots + rm.slots) n Ls (v.toList ++ rest)) : W l R Z own nm bytes maxL ret n0 P h cells slots pc Ls st := by
  subst hn hst
  intro p e s m args below meth c T locs hx hZ hby hml hown hret hlk hnm hn0 X eT N
  obtain ⟨v, _, ⟨T', L', c', n'⟩, -, X', ⟨Lc, hQ, l', y', z'⟩, st'⟩ := X.specialBack hx (y := y) hi hown (mvT hZ w1) (mvT hZ w2) (mvT hZ w4) hy (backOf (W := W0) (Z := Z) (h := h) (bytes := bytes') (maxL := maxL') (rm := rm) (Q := fun v h' L => P' v h' ∧ Fr n0 L) (C (Nat.le_trans hn0 (eT ▸ size_le X))) hZ w4 w3 hf hl) (g := mkF m pc Ls (argsL.reverse ++ .ref a :: rest)) rfl (by rw [hml]; exact hsz) (Steps.refl _) (a := a) (argsL := argsL) (rest := rest) (lenOf hpd hlen) rfl (by show 2 * 0 + _ ≤ _; omega) (hb hby hd) (fun _ _ => ⟨rfl, eT, hc, hs⟩)
  dsimp only [Pt.U, Pt.locs, Pt.cells, Pt.slots] at X' l' y' z' st' hQ
  subst l' y' z'
  exact (k v T'.heap hQ.1 p e s m args below meth c T' _ hx hZ hby hml hown hret hlk hnm hn0 X' rfl (Fr.app N hQ.2)).step fun t q => st'.trans q
theorem W.callV {C0 : String} {a : Addr} (n : Nat) (hd : decode bytes pc = .ok (.invokevirtual i, 3)) (hn : pc + 3 = n) (C : n0 ≤ h.size → Con l Z y bytes' maxL' ret' rm (.ref a :: argsL).toArray h n0 P') (E : Exa Z h a C0) (w1 : (Jvm.Cond.methodLink own i y).before a0 Z = true) (w2 : (Jvm.Cond.declares y).before a0 Z = true) (w5 : (Jvm.Cond.selects C0 y y).before a0 Z = true) (hcy : C0 = y.cls) (w6 : (Jvm.Cond.instanceMethod y).before a0 Z = true) (w3 : (Jvm.Cond.initialized y.cls).before a0 Z = true) (w4 : (Jvm.Cond.code y bytes' maxL' ret').before a0 Z = true)
    (hy : y.cls ≠ "java/lang/invoke/MethodHandle" ∧ y.cls ≠ "java/lang/invoke/VarHandle") {ps : List FieldType} {r : Option FieldType} (hpd : parseMethodDescriptor y.desc = some ⟨ps, r⟩) (hlen : argsL.length = ps.length) (hst : st = argsL.reverse ++ .ref a :: rest) (hsz : Ls.size = maxL) (hf : rm.frames + 1 ≤ R.frames) (W0 : Nat) (hW : (rest.map fun v => v.category).sum ≤ W0) (hl : W0 + (maxL' + 11) + rm.locals ≤ R.locals) (hc : cells + rm.cells ≤ R.cells) (hs : slots + rm.slots ≤ R.slots)
    (k : ∀ v h', P' v h' → W l R Z own nm bytes maxL ret n0 P h' (cells + rm.cells) (slots + rm.slots) n Ls (v.toList ++ rest)) : W l R Z own nm bytes maxL ret n0 P h cells slots pc Ls st := by
  subst hn hst hcy
  intro p e s m args below meth c T locs hx hZ hby hml hown hret hlk hnm hn0 X eT N
  obtain ⟨cq, kq, qa, qb, qc⟩ := isOf hZ eT E
  obtain ⟨v, _, ⟨T', L', c', n'⟩, -, X', ⟨Lc, hQ, l', y', z'⟩, st'⟩ := X.virtualBack hx (y := y) (z := y) hown (mvT hZ w1) (mvT hZ w2) (notFace_of_selects (args := #[]) (mvT hZ w5)) (mvT hZ w5) (mvT hZ w6) hy (backOf (W := W0) (Z := Z) (h := h) (bytes := bytes') (maxL := maxL') (rm := rm) (Q := fun v h' L => P' v h' ∧ Fr n0 L) (C (Nat.le_trans hn0 (eT ▸ size_le X))) hZ w4 w3 hf hl) qa qc (g := mkF m pc Ls (argsL.reverse ++ .ref a :: rest)) rfl (by rw [hml]; exact hsz) (Steps.refl _) (argsL := argsL) (rest := rest) (lenOf hpd hlen) rfl (by show 2 * 0 + _ ≤ _; omega) (hb hby hd) (fun _ _ => ⟨rfl, eT, hc, hs⟩)
  dsimp only [Pt.U, Pt.locs, Pt.cells, Pt.slots] at X' l' y' z' st' hQ
  subst l' y' z'
  exact (k v T'.heap hQ.1 p e s m args below meth c T' _ hx hZ hby hml hown hret hlk hnm hn0 X' rfl (Fr.app N hQ.2)).step fun t q => st'.trans q
end Calls
theorem W.checkcast {i : Nat} {K : String} {a : Addr} (n : Nat) (hd : decode bytes pc = .ok (.checkcast i, 3)) (hn : pc + 3 = n) (w : (Jvm.Cond.classLink own i K).before a0 Z = true) (F : Ins Z h a K true) (k : W l R Z own nm bytes maxL ret n0 P h cells slots n Ls (.ref a :: st)) : W l R Z own nm bytes maxL ret n0 P h cells slots pc Ls (.ref a :: st) := by
  subst hn
  intro p e s m args below meth c T locs hx hZ hby hml hown hret hlk hnm hn0 X eT N
  obtain ⟨T', X', e', st'⟩ := castY X hx hZ hown w eT F (g := mkF m pc Ls (.ref a :: st)) rfl rfl (hb hby hd)
  exact (k p e s m args below meth c T' locs hx hZ hby hml hown hret hlk hnm hn0 X' e' N).step st'
theorem W.instYes {i : Nat} {K : String} {a : Addr} (n : Nat) (hd : decode bytes pc = .ok (.instanceof i, 3)) (hn : pc + 3 = n) (w : (Jvm.Cond.classLink own i K).before a0 Z = true) (F : Ins Z h a K true) (k : W l R Z own nm bytes maxL ret n0 P h cells slots n Ls (.int 1 :: st)) : W l R Z own nm bytes maxL ret n0 P h cells slots pc Ls (.ref a :: st) := by
  subst hn
  intro p e s m args below meth c T locs hx hZ hby hml hown hret hlk hnm hn0 X eT N
  obtain ⟨T', X', e', st'⟩ := instY X hx hZ hown w eT F (g := mkF m pc Ls (.ref a :: st)) rfl rfl (hb hby hd)
  exact (k p e s m args below meth c T' locs hx hZ hby hml hown hret hlk hnm hn0 X' e' N).step st'
theorem W.instNo {i : Nat} {K C : String} {a : Addr} (n : Nat) (hd : decode bytes pc = .ok (.instanceof i, 3)) (hn : pc + 3 = n) (w : (Jvm.Cond.classLink own i K).before a0 Z = true) (E : Exa Z h a C) (F : ∃ c t, Z.vm.findClass C = some c ∧ Z.vm.findClass K = some t ∧ Z.vm.assignable c t = false) (k : W l R Z own nm bytes maxL ret n0 P h cells slots n Ls (.int 0 :: st)) : W l R Z own nm bytes maxL ret n0 P h cells slots pc Ls (.ref a :: st) := by
  subst hn
  intro p e s m args below meth c T locs hx hZ hby hml hown hret hlk hnm hn0 X eT N
  obtain ⟨T', X', e', st'⟩ := RoadKit.instNo X hx hZ hown w eT E F (g := mkF m pc Ls (.ref a :: st)) rfl rfl (hb hby hd)
  exact (k p e s m args below meth c T' locs hx hZ hby hml hown hret hlk hnm hn0 X' e' N).step st'
theorem W.instNull {i : Nat} (n : Nat) (hd : decode bytes pc = .ok (.instanceof i, 3)) (hn : pc + 3 = n) (k : W l R Z own nm bytes maxL ret n0 P h cells slots n Ls (.int 0 :: st)) : W l R Z own nm bytes maxL ret n0 P h cells slots pc Ls (.null :: st) := by
  subst hn
  exact k.step fun p e s m args below meth c T locs hx hZ hby hown X eT t q => X.instanceofNull hx (g := mkF m pc Ls (.null :: st)) rfl rfl (hb hby hd) t q
theorem ary_us {vs : List Value} {d : Value} (i k : Nat) (hs : i + k ≤ vs.length) : (List.range k).map (fun j => vs.getD (i + j) d) = (vs.drop i).take k := by
  apply List.ext_getElem?
  intro j
  by_cases hj : j < k
  · simp [hj, List.getD_eq_getElem?_getD, List.getElem?_eq_getElem (show i + j < vs.length by omega)]
  · simp [hj]; omega
theorem W.arraycopy {i : Nat} {a b : Addr} {ty : FieldType} {vs vd : List Value} {sp dp nn : Int32} (n : Nat) (hd : decode bytes pc = .ok (.invokestatic i, 3)) (hn : pc + 3 = n) (w1 : (Jvm.Cond.methodLink own i Jvm.Stand.acN).before a0 Z = true) (w2 : (Jvm.Cond.native Jvm.Stand.acN).before a0 Z = true) (w3 : (Jvm.Cond.static Jvm.Stand.acN).before a0 Z = true) (w4 : (Jvm.Cond.initialized "java/lang/System").before a0 Z = true)
    (A : Ary Z h a ty vs) (B : Ary Z h b ty vd) (hk : refKind ty = false) (si di ni : Nat) (h1 : sp.toNatClampNeg = si) (h1' : ¬ sp < 0) (h2 : dp.toNatClampNeg = di) (h2' : ¬ dp < 0) (h3 : nn.toNatClampNeg = ni) (h3' : ¬ nn < 0) (hs : si + ni ≤ vs.length) (hdl : di + ni ≤ vd.length) (ge : n0 ≤ b) (hsz : Ls.size = maxL) (hf : 1 ≤ R.frames) (W0 : Nat) (hW : (st.map fun v => v.category).sum ≤ W0) (hl : W0 + (nativeFrameWords "java/lang/System" "arraycopy" 5 + 11) ≤ R.locals)
    (k : ∀ h', Keep h h' [b] → Ary Z h' b ty (vd.take di ++ (vs.drop si).take ni ++ vd.drop (di + ni)) → W l R Z own nm bytes maxL ret n0 P h' cells slots n Ls st) : W l R Z own nm bytes maxL ret n0 P h cells slots pc Ls (.int nn :: .int dp :: .ref b :: .int sp :: .ref a :: st) := by
  subst hn h1 h2 h3
  intro p e s m args below meth c T locs hx hZ hby hml hown hret hlk hnm hn0 X eT N
  have za : vs.length.toInt32.toNatClampNeg = vs.length := by
    have S : vs.length < 2 ^ 31 := by obtain ⟨_, _, _, _, S⟩ := A; exact S
    have hz : (vs.length.toInt32).toInt = vs.length := Int32.toInt_ofNat_small S
    simp only [Int32.toNatClampNeg]; rw [hz]; simp
  have zb : vd.length.toInt32.toNatClampNeg = vd.length := by
    have S : vd.length < 2 ^ 31 := by obtain ⟨_, _, _, _, S⟩ := B; exact S
    have hz : (vd.length.toInt32).toInt = vd.length := Int32.toInt_ofNat_small S
    simp only [Int32.toNatClampNeg]; rw [hz]; simp
  obtain ⟨ka, A'⟩ := A.arv .null
  obtain ⟨kb, B'⟩ := B.arv .null
  obtain ⟨T', h', L', X', e', N', K', C', st'⟩ := cpA X hx hZ hown w1 w2 w3 w4 eT A' B' (Or.inl ⟨rfl, hk⟩) h1' h2' h3' (by rw [za]; exact hs) (by rw [zb]; exact hdl) rfl hdl N ge (g := mkF m pc Ls (.int nn :: .int dp :: .ref b :: .int sp :: .ref a :: st)) rfl (by rw [hml]; exact hsz) rfl (hb hby hd) hf (W := W0) (by show 2 * 0 + _ ≤ _; omega) hl
  rw [ary_us _ _ hs] at C'
  have hlen : vd.length.toInt32.toNatClampNeg = (vd.take dp.toNatClampNeg ++ (vs.drop sp.toNatClampNeg).take nn.toNatClampNeg ++ vd.drop (dp.toNatClampNeg + nn.toNatClampNeg)).length := by
    rw [zb]; simp only [List.length_append, List.length_take, List.length_drop]; omega
  exact (k h' K' (Ary.of_arv C' hlen) p e s m args below meth c T' L' hx hZ hby hml hown hret hlk hnm hn0 X' e' N').step st'
theorem W.cloneArr {i : Nat} {a : Addr} {ty : FieldType} {vs : List Value} {ad : String} (n : Nat) (hd : decode bytes pc = .ok (.invokevirtual i, 3)) (hn : pc + 3 = n) (w1 : (Jvm.Cond.methodLink own i ⟨ad, "clone", "()Ljava/lang/Object;"⟩).before a0 Z = true) (w2 : (Jvm.Cond.sameMethod ad "java/lang/Object" "clone" "()Ljava/lang/Object;").before a0 Z = true) (w3 : (Jvm.Cond.native ⟨"java/lang/Object", "clone", "()Ljava/lang/Object;"⟩).before a0 Z = true)
    (w4 : (Jvm.Cond.instanceMethod ⟨"java/lang/Object", "clone", "()Ljava/lang/Object;"⟩).before a0 Z = true) (w5 : (Jvm.Cond.selects ad ⟨ad, "clone", "()Ljava/lang/Object;"⟩ ⟨"java/lang/Object", "clone", "()Ljava/lang/Object;"⟩).before a0 Z = true) (w6 : (Jvm.Cond.castable ad "java/lang/Cloneable").before a0 Z = true)
    (A : Ary Z h a ty vs) (E : Exa Z h a ad) (hsz : Ls.size = maxL) (hf : 1 ≤ R.frames) (W0 cap : Nat) (hW : (st.map fun v => v.category).sum ≤ W0) (hl : W0 + 14 ≤ R.locals) (hcap : vs.length ≤ cap) (hc : cells + 1 ≤ R.cells) (hs : slots + cap ≤ R.slots)
    (k : ∀ h' b, b = h.size → n0 ≤ b → Ext h h' → Keep h h' [] → Ary Z h' b ty vs → Exa Z h' b ad → W l R Z own nm bytes maxL ret n0 P h' (cells + 1) (slots + cap) n Ls (.ref b :: st)) : W l R Z own nm bytes maxL ret n0 P h cells slots pc Ls (.ref a :: st) := by
  subst hn
  intro p e s m args below meth c T locs hx hZ hby hml hown hret hlk hnm hn0 X eT N
  have za : vs.length.toInt32.toNatClampNeg = vs.length := by
    have S : vs.length < 2 ^ 31 := by obtain ⟨_, _, _, _, S⟩ := A; exact S
    have hz : (vs.length.toInt32).toInt = vs.length := Int32.toInt_ofNat_small S
    simp only [Int32.toNatClampNeg]; rw [hz]; simp
  obtain ⟨ka, A'⟩ := A.arv .null
  obtain ⟨T', h', X', e', E', B', C', st'⟩ := cloneH X hx hZ hown w1 w2 w3 w4 w5 w6 eT A'.arh E (g := mkF m pc Ls (.ref a :: st)) rfl (by rw [hml]; exact hsz) rfl (hb hby hd) hf (W := W0) (cap := cap) (by show 2 * 0 + _ ≤ _; omega) hl (by rw [za]; exact hcap) hc hs
  have hb0 : n0 ≤ h.size := Nat.le_trans hn0 (eT ▸ size_le X)
  exact (k h' h.size rfl hb0 E' (Keep.of_ext E') (Ary.of_arv (show Arv Z h' h.size ka ty vs.length.toInt32 vs .null from B') za) C' p e s m args below meth c T' _ hx hZ hby hml hown hret hlk hnm hn0 X' e' N).step st'
theorem W.ireturn {x : Int32} (hd : decode bytes pc = .ok (.ireturn, 1)) (hr : ret = some .int) (hp : P (some (.int x)) h) (hc : cells ≤ R.cells) (hs : slots ≤ R.slots) : W l R Z own nm bytes maxL ret n0 P h cells slots pc Ls (.int x :: st) := by
  intro p e s m args below meth c T locs hx hZ hby hml hown hret hlk hnm hn0 X eT N
  obtain ⟨fs, hr', hrun, hended, hW, hsame⟩ := X.leave (v := some (.int x)) (fun q => by rw [hret, hr] at q; cases q) hlk
  exact ⟨_, _, retOut X hx (t := .int) (i := .ireturn) (hret.trans hr) rfl (Or.inl ⟨rfl, Or.inl rfl, _, rfl⟩) (hb hby hd) hr', hrun, hended, _, _, rfl, ⟨by show P _ T.heap; rw [eT]; exact hp, N⟩, ⟨_, rfl⟩, hW, hsame.mono hc hs⟩
theorem W.ireturnN {x : Int32} {t : FieldType} (hd : decode bytes pc = .ok (.ireturn, 1)) (hr : ret = some t) (ht : t = .boolean ∨ t = .byte ∨ t = .char ∨ t = .short) (x' : Int32) (hx' : nar t x = x') (hp : P (some (.int x')) h) (hc : cells ≤ R.cells) (hs : slots ≤ R.slots) : W l R Z own nm bytes maxL ret n0 P h cells slots pc Ls (.int x :: st) := by
  subst hx'
  intro p e s m args below meth c T locs hx hZ hby hml hown hret hlk hnm hn0 X eT N
  obtain ⟨fs, hr', hrun, hended, hW, hsame⟩ := X.leave (v := some (.int (nar t x))) (fun q => by rw [hret, hr] at q; cases q) hlk
  exact ⟨_, _, retN X hx (hret.trans hr) ht (hb hby hd) hr', hrun, hended, _, _, rfl, ⟨by show P _ T.heap; rw [eT]; exact hp, N⟩, ⟨_, rfl⟩, hW, hsame.mono hc hs⟩
theorem W.lreturn {x : Int64} (hd : decode bytes pc = .ok (.lreturn, 1)) (hr : ret = some .long) (hp : P (some (.long x)) h) (hc : cells ≤ R.cells) (hs : slots ≤ R.slots) : W l R Z own nm bytes maxL ret n0 P h cells slots pc Ls (.long x :: st) := by
  intro p e s m args below meth c T locs hx hZ hby hml hown hret hlk hnm hn0 X eT N
  obtain ⟨fs, hr', hrun, hended, hW, hsame⟩ := X.leave (v := some (.long x)) (fun q => by rw [hret, hr] at q; cases q) hlk
  exact ⟨_, _, retOut X hx (t := .long) (i := .lreturn) (hret.trans hr) rfl (Or.inr (Or.inl ⟨rfl, rfl, _, rfl⟩)) (hb hby hd) hr', hrun, hended, _, _, rfl, ⟨by show P _ T.heap; rw [eT]; exact hp, N⟩, ⟨_, rfl⟩, hW, hsame.mono hc hs⟩
theorem W.areturn {v : Value} {t : FieldType} (hd : decode bytes pc = .ok (.areturn, 1)) (hr : ret = some t) (ht : t.isReference = true) (hv : v.isRef = true) (hn : narrow t v = v) (hp : P (some v) h) (hc : cells ≤ R.cells) (hs : slots ≤ R.slots) : W l R Z own nm bytes maxL ret n0 P h cells slots pc Ls (v :: st) := by
  intro p e s m args below meth c T locs hx hZ hby hml hown hret hlk hnm hn0 X eT N
  obtain ⟨fs, hr', hrun, hended, hW, hsame⟩ := X.leave (v := some v) (fun q => by rw [hret, hr] at q; cases q) hlk
  exact ⟨_, _, retOut X hx (t := t) (i := .areturn) (hret.trans hr) hn (Or.inr (Or.inr (Or.inr (Or.inr ⟨rfl, ht, hv⟩)))) (hb hby hd) hr', hrun, hended, _, _, rfl, ⟨by show P _ T.heap; rw [eT]; exact hp, N⟩, ⟨_, rfl⟩, hW, hsame.mono hc hs⟩
theorem W.return_ (hd : decode bytes pc = .ok (.return_, 1)) (hr : ret = none) (hp : P none h) (hc : cells ≤ R.cells) (hs : slots ≤ R.slots) : W l R Z own nm bytes maxL ret n0 P h cells slots pc Ls [] := by
  intro p e s m args below meth c T locs hx hZ hby hml hown hret hlk hnm hn0 X eT N
  obtain ⟨fs, hr', hrun, hended, hW, hsame⟩ := X.leave (v := none) (fun q => rfl) hlk
  exact ⟨_, _, X.returnOut hx (hret.trans hr) (hb hby hd) hr', hrun, hended, _, _, rfl, ⟨by show P _ T.heap; rw [eT]; exact hp, N⟩, ⟨_, rfl⟩, hW, hsame.mono hc hs⟩
end Rules
end Jvm.Wk

namespace Jvm.Pilot.@@N@@
open Jvm Jvm.ClassFile Sem Op Lib Jvm.Free Jvm.Stand Jvm.LawKit Jvm.RoadKit Jvm.Wk Bundle Jvm.Pilot.@@N@@.Jvm.D
theorem d_jdk_29_method_69_0 : decode jdk_29_method_69_code 0 = .ok (.iload_n 0, 1) := by decide +kernel
theorem d_jdk_29_method_69_1 : decode jdk_29_method_69_code 1 = .ok (.iload_n 1, 1) := by decide +kernel
theorem d_jdk_29_method_69_2 : decode jdk_29_method_69_code 2 = .ok (.if_icmp .gt 7, 3) := by decide +kernel
theorem d_jdk_29_method_69_9 : decode jdk_29_method_69_code 9 = .ok (.iload_n 1, 1) := by decide +kernel
theorem d_jdk_29_method_69_10 : decode jdk_29_method_69_code 10 = .ok (.ireturn, 1) := by decide +kernel
theorem d_jdk_29_method_69_5 : decode jdk_29_method_69_code 5 = .ok (.iload_n 0, 1) := by decide +kernel
theorem d_jdk_29_method_69_6 : decode jdk_29_method_69_code 6 = .ok (.goto 4, 3) := by decide +kernel
theorem d_jdk_65_method_123_0 : decode jdk_65_method_123_code 0 = .ok (.iload_n 1, 1) := by decide +kernel
theorem d_jdk_65_method_123_1 : decode jdk_65_method_123_code 1 = .ok (.aload_n 0, 1) := by decide +kernel
theorem d_jdk_65_method_123_2 : decode jdk_65_method_123_code 2 = .ok (.arraylength, 1) := by decide +kernel
theorem d_jdk_65_method_123_3 : decode jdk_65_method_123_code 3 = .ok (.if_icmp .ne 11, 3) := by decide +kernel
theorem d_jdk_65_method_123_14 : decode jdk_65_method_123_code 14 = .ok (.iload_n 1, 1) := by decide +kernel
theorem d_jdk_65_method_123_15 : decode jdk_65_method_123_code 15 = .ok (.newarray .int, 2) := by decide +kernel
theorem wd_1 {Z : State} {a0 : Array Value} (hw : ∀ d ∈ tables_1, d.before a0 Z = true) : (Jvm.Cond.arrayClass Jvm.ClassFile.FieldType.int).before a0 Z = true := hw _ (List.mem_of_getElem? (i := 1) rfl)
theorem d_jdk_65_method_123_17 : decode jdk_65_method_123_code 17 = .ok (.astore_n 2, 1) := by decide +kernel
theorem d_jdk_65_method_123_18 : decode jdk_65_method_123_code 18 = .ok (.aload_n 0, 1) := by decide +kernel
theorem d_jdk_65_method_123_19 : decode jdk_65_method_123_code 19 = .ok (.iconst 0, 1) := by decide +kernel
theorem d_jdk_65_method_123_20 : decode jdk_65_method_123_code 20 = .ok (.aload_n 2, 1) := by decide +kernel
theorem d_jdk_65_method_123_21 : decode jdk_65_method_123_code 21 = .ok (.iconst 0, 1) := by decide +kernel
theorem d_jdk_65_method_123_22 : decode jdk_65_method_123_code 22 = .ok (.aload_n 0, 1) := by decide +kernel
theorem d_jdk_65_method_123_23 : decode jdk_65_method_123_code 23 = .ok (.arraylength, 1) := by decide +kernel
theorem d_jdk_65_method_123_24 : decode jdk_65_method_123_code 24 = .ok (.iload_n 1, 1) := by decide +kernel
theorem d_jdk_65_method_123_25 : decode jdk_65_method_123_code 25 = .ok (.invokestatic 304, 3) := by decide +kernel
theorem wd_29 {Z : State} {a0 : Array Value} (hw : ∀ d ∈ tables_1, d.before a0 Z = true) : (Jvm.Cond.methodLink "java/util/Arrays" (304 : Nat) ({ cls := "java/lang/Math", name := "min", desc := "(II)I" } : Jvm.MethodName)).before a0 Z = true := hw _ (List.mem_of_getElem? (i := 29) rfl)
theorem wd_32 {Z : State} {a0 : Array Value} (hw : ∀ d ∈ tables_1, d.before a0 Z = true) : (Jvm.Cond.code ({ cls := "java/lang/Math", name := "min", desc := "(II)I" } : Jvm.MethodName) jdk_29_method_69_code (2 : Nat) (Option.some Jvm.ClassFile.FieldType.int)).before a0 Z = true := hw _ (List.mem_of_getElem? (i := 32) rfl)
theorem pd_0 : parseMethodDescriptor "(II)I" = some ⟨[.int, .int], some .int⟩ := by decide +kernel
theorem wd_30 {Z : State} {a0 : Array Value} (hw : ∀ d ∈ tables_1, d.before a0 Z = true) : (Jvm.Cond.static ({ cls := "java/lang/Math", name := "min", desc := "(II)I" } : Jvm.MethodName)).before a0 Z = true := hw _ (List.mem_of_getElem? (i := 30) rfl)
theorem wd_31 {Z : State} {a0 : Array Value} (hw : ∀ d ∈ tables_1, d.before a0 Z = true) : (Jvm.Cond.initialized "java/lang/Math").before a0 Z = true := hw _ (List.mem_of_getElem? (i := 31) rfl)
theorem d_jdk_65_method_123_28 : decode jdk_65_method_123_code 28 = .ok (.invokestatic 150, 3) := by decide +kernel
theorem wd_33 {Z : State} {a0 : Array Value} (hw : ∀ d ∈ tables_1, d.before a0 Z = true) : (Jvm.Cond.methodLink "java/util/Arrays" (150 : Nat) ({ cls := "java/lang/System", name := "arraycopy", desc := "(Ljava/lang/Object;ILjava/lang/Object;II)V" } : Jvm.MethodName)).before a0 Z = true := hw _ (List.mem_of_getElem? (i := 33) rfl)
theorem wd_36 {Z : State} {a0 : Array Value} (hw : ∀ d ∈ tables_1, d.before a0 Z = true) : (Jvm.Cond.native ({ cls := "java/lang/System", name := "arraycopy", desc := "(Ljava/lang/Object;ILjava/lang/Object;II)V" } : Jvm.MethodName)).before a0 Z = true := hw _ (List.mem_of_getElem? (i := 36) rfl)
theorem wd_34 {Z : State} {a0 : Array Value} (hw : ∀ d ∈ tables_1, d.before a0 Z = true) : (Jvm.Cond.static ({ cls := "java/lang/System", name := "arraycopy", desc := "(Ljava/lang/Object;ILjava/lang/Object;II)V" } : Jvm.MethodName)).before a0 Z = true := hw _ (List.mem_of_getElem? (i := 34) rfl)
theorem wd_35 {Z : State} {a0 : Array Value} (hw : ∀ d ∈ tables_1, d.before a0 Z = true) : (Jvm.Cond.initialized "java/lang/System").before a0 Z = true := hw _ (List.mem_of_getElem? (i := 35) rfl)
theorem d_jdk_65_method_123_31 : decode jdk_65_method_123_code 31 = .ok (.aload_n 2, 1) := by decide +kernel
theorem d_jdk_65_method_123_32 : decode jdk_65_method_123_code 32 = .ok (.areturn, 1) := by decide +kernel
theorem pn_0 : plainName "java/util/Arrays" = true := by first | (simp [plainName, overriddenIn]; done) | decide +kernel
theorem d_jdk_65_method_123_6 : decode jdk_65_method_123_code 6 = .ok (.aload_n 0, 1) := by decide +kernel
theorem d_jdk_65_method_123_7 : decode jdk_65_method_123_code 7 = .ok (.invokevirtual 316, 3) := by decide +kernel
theorem wd_42 {Z : State} {a0 : Array Value} (hw : ∀ d ∈ tables_1, d.before a0 Z = true) : (Jvm.Cond.methodLink "java/util/Arrays" (316 : Nat) ({ cls := "[I", name := "clone", desc := "()Ljava/lang/Object;" } : Jvm.MethodName)).before a0 Z = true := hw _ (List.mem_of_getElem? (i := 42) rfl)
theorem wd_43 {Z : State} {a0 : Array Value} (hw : ∀ d ∈ tables_1, d.before a0 Z = true) : (Jvm.Cond.sameMethod "[I" "java/lang/Object" "clone" "()Ljava/lang/Object;").before a0 Z = true := hw _ (List.mem_of_getElem? (i := 43) rfl)
theorem wd_47 {Z : State} {a0 : Array Value} (hw : ∀ d ∈ tables_1, d.before a0 Z = true) : (Jvm.Cond.native ({ cls := "java/lang/Object", name := "clone", desc := "()Ljava/lang/Object;" } : Jvm.MethodName)).before a0 Z = true := hw _ (List.mem_of_getElem? (i := 47) rfl)
theorem wd_45 {Z : State} {a0 : Array Value} (hw : ∀ d ∈ tables_1, d.before a0 Z = true) : (Jvm.Cond.instanceMethod ({ cls := "java/lang/Object", name := "clone", desc := "()Ljava/lang/Object;" } : Jvm.MethodName)).before a0 Z = true := hw _ (List.mem_of_getElem? (i := 45) rfl)
theorem wd_46 {Z : State} {a0 : Array Value} (hw : ∀ d ∈ tables_1, d.before a0 Z = true) : (Jvm.Cond.selects "[I" ({ cls := "[I", name := "clone", desc := "()Ljava/lang/Object;" } : Jvm.MethodName) ({ cls := "java/lang/Object", name := "clone", desc := "()Ljava/lang/Object;" } : Jvm.MethodName)).before a0 Z = true := hw _ (List.mem_of_getElem? (i := 46) rfl)
theorem wd_48 {Z : State} {a0 : Array Value} (hw : ∀ d ∈ tables_1, d.before a0 Z = true) : (Jvm.Cond.castable "[I" "java/lang/Cloneable").before a0 Z = true := hw _ (List.mem_of_getElem? (i := 48) rfl)
theorem d_jdk_65_method_123_10 : decode jdk_65_method_123_code 10 = .ok (.checkcast 317, 3) := by decide +kernel
theorem wd_49 {Z : State} {a0 : Array Value} (hw : ∀ d ∈ tables_1, d.before a0 Z = true) : (Jvm.Cond.classLink "java/util/Arrays" (317 : Nat) "[I").before a0 Z = true := hw _ (List.mem_of_getElem? (i := 49) rfl)
theorem d_jdk_65_method_123_13 : decode jdk_65_method_123_code 13 = .ok (.areturn, 1) := by decide +kernel
theorem d_prog_21_method_1_0 : decode prog_21_method_1_code 0 = .ok (.aload_n 0, 1) := by decide +kernel
theorem d_prog_21_method_1_1 : decode prog_21_method_1_code 1 = .ok (.invokespecial 1, 3) := by decide +kernel
theorem wd_8 {Z : State} {a0 : Array Value} (hw : ∀ d ∈ tables_1, d.before a0 Z = true) : (Jvm.Cond.methodLink "com/example/pathweave/pathweave/eval/IntList" (1 : Nat) ({ cls := "java/lang/Object", name := "<init>", desc := "()V" } : Jvm.MethodName)).before a0 Z = true := hw _ (List.mem_of_getElem? (i := 8) rfl)
theorem wd_10 {Z : State} {a0 : Array Value} (hw : ∀ d ∈ tables_1, d.before a0 Z = true) : (Jvm.Cond.code ({ cls := "java/lang/Object", name := "<init>", desc := "()V" } : Jvm.MethodName) object_method_1_code (1 : Nat) (Option.none : Option Jvm.ClassFile.FieldType)).before a0 Z = true := hw _ (List.mem_of_getElem? (i := 10) rfl)
theorem wd_9 {Z : State} {a0 : Array Value} (hw : ∀ d ∈ tables_1, d.before a0 Z = true) : (Jvm.Cond.instanceMethod ({ cls := "java/lang/Object", name := "<init>", desc := "()V" } : Jvm.MethodName)).before a0 Z = true := hw _ (List.mem_of_getElem? (i := 9) rfl)
theorem d_prog_21_method_1_4 : decode prog_21_method_1_code 4 = .ok (.aload_n 0, 1) := by decide +kernel
theorem d_prog_21_method_1_5 : decode prog_21_method_1_code 5 = .ok (.bipush 8, 2) := by decide +kernel
theorem d_prog_21_method_1_7 : decode prog_21_method_1_code 7 = .ok (.newarray .int, 2) := by decide +kernel
theorem d_prog_21_method_1_9 : decode prog_21_method_1_code 9 = .ok (.putfield 7, 3) := by decide +kernel
theorem wd_11 {Z : State} {a0 : Array Value} (hw : ∀ d ∈ tables_1, d.before a0 Z = true) : (Jvm.Cond.fieldLink "com/example/pathweave/pathweave/eval/IntList" (7 : Nat) "com/example/pathweave/pathweave/eval/IntList" "values" "[I").before a0 Z = true := hw _ (List.mem_of_getElem? (i := 11) rfl)
theorem wd_12 {Z : State} {a0 : Array Value} (hw : ∀ d ∈ tables_1, d.before a0 Z = true) : (Jvm.Cond.lays "com/example/pathweave/pathweave/eval/IntList" "com/example/pathweave/pathweave/eval/IntList" "values" "[I").before a0 Z = true := hw _ (List.mem_of_getElem? (i := 12) rfl)
theorem wd_3 {Z : State} {a0 : Array Value} (hw : ∀ d ∈ tables_1, d.before a0 Z = true) : (Jvm.Cond.instantiable "com/example/pathweave/pathweave/eval/IntList" (2 : Nat)).before a0 Z = true := hw _ (List.mem_of_getElem? (i := 3) rfl)
theorem d_prog_21_method_1_12 : decode prog_21_method_1_code 12 = .ok (.return_, 1) := by decide +kernel
theorem wd_19 {Z : State} {a0 : Array Value} (hw : ∀ d ∈ tables_1, d.before a0 Z = true) : (Jvm.Cond.lays "com/example/pathweave/pathweave/eval/IntList" "com/example/pathweave/pathweave/eval/IntList" "size" "I").before a0 Z = true := hw _ (List.mem_of_getElem? (i := 19) rfl)
theorem sne_0 {Z : State} {a0 : Array Value} (hw : ∀ d ∈ tables_1, d.before a0 Z = true) : RoadKit.slotOf Z "com/example/pathweave/pathweave/eval/IntList" "size" "I" ≠ RoadKit.slotOf Z "com/example/pathweave/pathweave/eval/IntList" "values" "[I" := slot_ne (C := "com/example/pathweave/pathweave/eval/IntList") (Or.inl (wd_19 hw)) (Or.inl (wd_12 hw)) (by decide) (t := .int) (t' := (.array .int)) (by decide) (by decide)
theorem pn_1 : plainName "com/example/pathweave/pathweave/eval/IntList" = true := by first | (simp [plainName, overriddenIn]; done) | decide +kernel
theorem d_prog_21_method_2_0 : decode prog_21_method_2_code 0 = .ok (.aload_n 0, 1) := by decide +kernel
theorem d_prog_21_method_2_1 : decode prog_21_method_2_code 1 = .ok (.getfield 13, 3) := by decide +kernel
theorem wd_18 {Z : State} {a0 : Array Value} (hw : ∀ d ∈ tables_1, d.before a0 Z = true) : (Jvm.Cond.fieldLink "com/example/pathweave/pathweave/eval/IntList" (13 : Nat) "com/example/pathweave/pathweave/eval/IntList" "size" "I").before a0 Z = true := hw _ (List.mem_of_getElem? (i := 18) rfl)
theorem d_prog_21_method_2_4 : decode prog_21_method_2_code 4 = .ok (.aload_n 0, 1) := by decide +kernel
theorem d_prog_21_method_2_5 : decode prog_21_method_2_code 5 = .ok (.getfield 7, 3) := by decide +kernel
theorem d_prog_21_method_2_8 : decode prog_21_method_2_code 8 = .ok (.arraylength, 1) := by decide +kernel
theorem d_prog_21_method_2_9 : decode prog_21_method_2_code 9 = .ok (.if_icmp .ne 20, 3) := by decide +kernel
theorem d_prog_21_method_2_29 : decode prog_21_method_2_code 29 = .ok (.aload_n 0, 1) := by decide +kernel
theorem d_prog_21_method_2_30 : decode prog_21_method_2_code 30 = .ok (.getfield 7, 3) := by decide +kernel
theorem d_prog_21_method_2_33 : decode prog_21_method_2_code 33 = .ok (.aload_n 0, 1) := by decide +kernel
theorem d_prog_21_method_2_34 : decode prog_21_method_2_code 34 = .ok (.dup, 1) := by decide +kernel
theorem d_prog_21_method_2_35 : decode prog_21_method_2_code 35 = .ok (.getfield 13, 3) := by decide +kernel
theorem d_prog_21_method_2_38 : decode prog_21_method_2_code 38 = .ok (.dup_x1, 1) := by decide +kernel
theorem d_prog_21_method_2_39 : decode prog_21_method_2_code 39 = .ok (.iconst 1, 1) := by decide +kernel
theorem d_prog_21_method_2_40 : decode prog_21_method_2_code 40 = .ok (.iadd, 1) := by decide +kernel
theorem d_prog_21_method_2_41 : decode prog_21_method_2_code 41 = .ok (.putfield 13, 3) := by decide +kernel
theorem d_prog_21_method_2_44 : decode prog_21_method_2_code 44 = .ok (.iload_n 1, 1) := by decide +kernel
theorem d_prog_21_method_2_45 : decode prog_21_method_2_code 45 = .ok (.iastore, 1) := by decide +kernel
theorem d_prog_21_method_2_46 : decode prog_21_method_2_code 46 = .ok (.return_, 1) := by decide +kernel
theorem sne_1 {Z : State} {a0 : Array Value} (hw : ∀ d ∈ tables_1, d.before a0 Z = true) : RoadKit.slotOf Z "com/example/pathweave/pathweave/eval/IntList" "values" "[I" ≠ RoadKit.slotOf Z "com/example/pathweave/pathweave/eval/IntList" "size" "I" := slot_ne (C := "com/example/pathweave/pathweave/eval/IntList") (Or.inl (wd_12 hw)) (Or.inl (wd_19 hw)) (by decide) (t := (.array .int)) (t' := .int) (by decide) (by decide)
theorem d_prog_21_method_2_12 : decode prog_21_method_2_code 12 = .ok (.aload_n 0, 1) := by decide +kernel
theorem d_prog_21_method_2_13 : decode prog_21_method_2_code 13 = .ok (.aload_n 0, 1) := by decide +kernel
theorem d_prog_21_method_2_14 : decode prog_21_method_2_code 14 = .ok (.getfield 7, 3) := by decide +kernel
theorem d_prog_21_method_2_17 : decode prog_21_method_2_code 17 = .ok (.iconst 2, 1) := by decide +kernel
theorem d_prog_21_method_2_18 : decode prog_21_method_2_code 18 = .ok (.aload_n 0, 1) := by decide +kernel
theorem d_prog_21_method_2_19 : decode prog_21_method_2_code 19 = .ok (.getfield 13, 3) := by decide +kernel
theorem d_prog_21_method_2_22 : decode prog_21_method_2_code 22 = .ok (.imul, 1) := by decide +kernel
theorem d_prog_21_method_2_23 : decode prog_21_method_2_code 23 = .ok (.invokestatic 17, 3) := by decide +kernel
theorem wd_25 {Z : State} {a0 : Array Value} (hw : ∀ d ∈ tables_1, d.before a0 Z = true) : (Jvm.Cond.methodLink "com/example/pathweave/pathweave/eval/IntList" (17 : Nat) ({ cls := "java/util/Arrays", name := "copyOf", desc := "([II)[I" } : Jvm.MethodName)).before a0 Z = true := hw _ (List.mem_of_getElem? (i := 25) rfl)
theorem wd_28 {Z : State} {a0 : Array Value} (hw : ∀ d ∈ tables_1, d.before a0 Z = true) : (Jvm.Cond.code ({ cls := "java/util/Arrays", name := "copyOf", desc := "([II)[I" } : Jvm.MethodName) jdk_65_method_123_code (3 : Nat) (Option.some (Jvm.ClassFile.FieldType.array Jvm.ClassFile.FieldType.int))).before a0 Z = true := hw _ (List.mem_of_getElem? (i := 28) rfl)
theorem pd_1 : parseMethodDescriptor "([II)[I" = some ⟨[(.array .int), .int], some (.array .int)⟩ := by decide +kernel
theorem wd_26 {Z : State} {a0 : Array Value} (hw : ∀ d ∈ tables_1, d.before a0 Z = true) : (Jvm.Cond.static ({ cls := "java/util/Arrays", name := "copyOf", desc := "([II)[I" } : Jvm.MethodName)).before a0 Z = true := hw _ (List.mem_of_getElem? (i := 26) rfl)
theorem wd_27 {Z : State} {a0 : Array Value} (hw : ∀ d ∈ tables_1, d.before a0 Z = true) : (Jvm.Cond.initialized "java/util/Arrays").before a0 Z = true := hw _ (List.mem_of_getElem? (i := 27) rfl)
theorem d_prog_21_method_2_26 : decode prog_21_method_2_code 26 = .ok (.putfield 7, 3) := by decide +kernel
theorem d_prog_21_method_3_0 : decode prog_21_method_3_code 0 = .ok (.aload_n 0, 1) := by decide +kernel
theorem d_prog_21_method_3_1 : decode prog_21_method_3_code 1 = .ok (.getfield 13, 3) := by decide +kernel
theorem d_prog_21_method_3_4 : decode prog_21_method_3_code 4 = .ok (.ireturn, 1) := by decide +kernel
theorem d_prog_21_method_5_0 : decode prog_21_method_5_code 0 = .ok (.aload_n 0, 1) := by decide +kernel
theorem d_prog_21_method_5_1 : decode prog_21_method_5_code 1 = .ok (.getfield 7, 3) := by decide +kernel
theorem d_prog_21_method_5_4 : decode prog_21_method_5_code 4 = .ok (.aload_n 0, 1) := by decide +kernel
theorem d_prog_21_method_5_5 : decode prog_21_method_5_code 5 = .ok (.getfield 13, 3) := by decide +kernel
theorem d_prog_21_method_5_8 : decode prog_21_method_5_code 8 = .ok (.invokestatic 17, 3) := by decide +kernel
theorem d_prog_21_method_5_11 : decode prog_21_method_5_code 11 = .ok (.areturn, 1) := by decide +kernel
theorem wd_0 {Z : State} {a0 : Array Value} (hw : ∀ d ∈ tables_1, d.before a0 Z = true) : (Jvm.Cond.constant "com/example/pathweave/pathweave/eval/IntListAddPinLaw" (7 : Nat) (2147483647 : Int32)).before a0 Z = true := hw _ (List.mem_of_getElem? (i := 0) rfl)
theorem wd_2 {Z : State} {a0 : Array Value} (hw : ∀ d ∈ tables_1, d.before a0 Z = true) : (Jvm.Cond.classLink "com/example/pathweave/pathweave/eval/IntListAddPinLaw" (8 : Nat) "com/example/pathweave/pathweave/eval/IntList").before a0 Z = true := hw _ (List.mem_of_getElem? (i := 2) rfl)
theorem wd_4 {Z : State} {a0 : Array Value} (hw : ∀ d ∈ tables_1, d.before a0 Z = true) : (Jvm.Cond.initialized "com/example/pathweave/pathweave/eval/IntList").before a0 Z = true := hw _ (List.mem_of_getElem? (i := 4) rfl)
theorem wd_5 {Z : State} {a0 : Array Value} (hw : ∀ d ∈ tables_1, d.before a0 Z = true) : (Jvm.Cond.methodLink "com/example/pathweave/pathweave/eval/IntListAddPinLaw" (10 : Nat) ({ cls := "com/example/pathweave/pathweave/eval/IntList", name := "<init>", desc := "()V" } : Jvm.MethodName)).before a0 Z = true := hw _ (List.mem_of_getElem? (i := 5) rfl)
theorem wd_7 {Z : State} {a0 : Array Value} (hw : ∀ d ∈ tables_1, d.before a0 Z = true) : (Jvm.Cond.code ({ cls := "com/example/pathweave/pathweave/eval/IntList", name := "<init>", desc := "()V" } : Jvm.MethodName) prog_21_method_1_code (1 : Nat) (Option.none : Option Jvm.ClassFile.FieldType)).before a0 Z = true := hw _ (List.mem_of_getElem? (i := 7) rfl)
theorem pd_2 : parseMethodDescriptor "()V" = some ⟨[], none⟩ := by decide +kernel
theorem wd_6 {Z : State} {a0 : Array Value} (hw : ∀ d ∈ tables_1, d.before a0 Z = true) : (Jvm.Cond.instanceMethod ({ cls := "com/example/pathweave/pathweave/eval/IntList", name := "<init>", desc := "()V" } : Jvm.MethodName)).before a0 Z = true := hw _ (List.mem_of_getElem? (i := 6) rfl)
theorem wd_13 {Z : State} {a0 : Array Value} (hw : ∀ d ∈ tables_1, d.before a0 Z = true) : (Jvm.Cond.methodLink "com/example/pathweave/pathweave/eval/IntListAddPinLaw" (15 : Nat) ({ cls := "com/example/pathweave/pathweave/eval/IntList", name := "size", desc := "()I" } : Jvm.MethodName)).before a0 Z = true := hw _ (List.mem_of_getElem? (i := 13) rfl)
theorem wd_16 {Z : State} {a0 : Array Value} (hw : ∀ d ∈ tables_1, d.before a0 Z = true) : (Jvm.Cond.selects "com/example/pathweave/pathweave/eval/IntList" ({ cls := "com/example/pathweave/pathweave/eval/IntList", name := "size", desc := "()I" } : Jvm.MethodName) ({ cls := "com/example/pathweave/pathweave/eval/IntList", name := "size", desc := "()I" } : Jvm.MethodName)).before a0 Z = true := hw _ (List.mem_of_getElem? (i := 16) rfl)
theorem wd_17 {Z : State} {a0 : Array Value} (hw : ∀ d ∈ tables_1, d.before a0 Z = true) : (Jvm.Cond.code ({ cls := "com/example/pathweave/pathweave/eval/IntList", name := "size", desc := "()I" } : Jvm.MethodName) prog_21_method_3_code (1 : Nat) (Option.some Jvm.ClassFile.FieldType.int)).before a0 Z = true := hw _ (List.mem_of_getElem? (i := 17) rfl)
theorem pd_3 : parseMethodDescriptor "()I" = some ⟨[], some .int⟩ := by decide +kernel
theorem wd_14 {Z : State} {a0 : Array Value} (hw : ∀ d ∈ tables_1, d.before a0 Z = true) : (Jvm.Cond.declares ({ cls := "com/example/pathweave/pathweave/eval/IntList", name := "size", desc := "()I" } : Jvm.MethodName)).before a0 Z = true := hw _ (List.mem_of_getElem? (i := 14) rfl)
theorem wd_15 {Z : State} {a0 : Array Value} (hw : ∀ d ∈ tables_1, d.before a0 Z = true) : (Jvm.Cond.instanceMethod ({ cls := "com/example/pathweave/pathweave/eval/IntList", name := "size", desc := "()I" } : Jvm.MethodName)).before a0 Z = true := hw _ (List.mem_of_getElem? (i := 15) rfl)
theorem wd_20 {Z : State} {a0 : Array Value} (hw : ∀ d ∈ tables_1, d.before a0 Z = true) : (Jvm.Cond.methodLink "com/example/pathweave/pathweave/eval/IntListAddPinLaw" (19 : Nat) ({ cls := "com/example/pathweave/pathweave/eval/IntList", name := "toArray", desc := "()[I" } : Jvm.MethodName)).before a0 Z = true := hw _ (List.mem_of_getElem? (i := 20) rfl)
theorem wd_23 {Z : State} {a0 : Array Value} (hw : ∀ d ∈ tables_1, d.before a0 Z = true) : (Jvm.Cond.selects "com/example/pathweave/pathweave/eval/IntList" ({ cls := "com/example/pathweave/pathweave/eval/IntList", name := "toArray", desc := "()[I" } : Jvm.MethodName) ({ cls := "com/example/pathweave/pathweave/eval/IntList", name := "toArray", desc := "()[I" } : Jvm.MethodName)).before a0 Z = true := hw _ (List.mem_of_getElem? (i := 23) rfl)
theorem wd_24 {Z : State} {a0 : Array Value} (hw : ∀ d ∈ tables_1, d.before a0 Z = true) : (Jvm.Cond.code ({ cls := "com/example/pathweave/pathweave/eval/IntList", name := "toArray", desc := "()[I" } : Jvm.MethodName) prog_21_method_5_code (1 : Nat) (Option.some (Jvm.ClassFile.FieldType.array Jvm.ClassFile.FieldType.int))).before a0 Z = true := hw _ (List.mem_of_getElem? (i := 24) rfl)
theorem pd_4 : parseMethodDescriptor "()[I" = some ⟨[], some (.array .int)⟩ := by decide +kernel
theorem wd_21 {Z : State} {a0 : Array Value} (hw : ∀ d ∈ tables_1, d.before a0 Z = true) : (Jvm.Cond.declares ({ cls := "com/example/pathweave/pathweave/eval/IntList", name := "toArray", desc := "()[I" } : Jvm.MethodName)).before a0 Z = true := hw _ (List.mem_of_getElem? (i := 21) rfl)
theorem wd_22 {Z : State} {a0 : Array Value} (hw : ∀ d ∈ tables_1, d.before a0 Z = true) : (Jvm.Cond.instanceMethod ({ cls := "com/example/pathweave/pathweave/eval/IntList", name := "toArray", desc := "()[I" } : Jvm.MethodName)).before a0 Z = true := hw _ (List.mem_of_getElem? (i := 22) rfl)
theorem pn_2 : plainName "com/example/pathweave/pathweave/eval/IntListAddPinLaw" = true := by first | (simp [plainName, overriddenIn]; done) | decide +kernel
theorem wd_37 {Z : State} {a0 : Array Value} (hw : ∀ d ∈ tables_1, d.before a0 Z = true) : (Jvm.Cond.methodLink "com/example/pathweave/pathweave/eval/IntListAddPinLaw" (11 : Nat) ({ cls := "com/example/pathweave/pathweave/eval/IntList", name := "add", desc := "(I)V" } : Jvm.MethodName)).before a0 Z = true := hw _ (List.mem_of_getElem? (i := 37) rfl)
theorem wd_40 {Z : State} {a0 : Array Value} (hw : ∀ d ∈ tables_1, d.before a0 Z = true) : (Jvm.Cond.selects "com/example/pathweave/pathweave/eval/IntList" ({ cls := "com/example/pathweave/pathweave/eval/IntList", name := "add", desc := "(I)V" } : Jvm.MethodName) ({ cls := "com/example/pathweave/pathweave/eval/IntList", name := "add", desc := "(I)V" } : Jvm.MethodName)).before a0 Z = true := hw _ (List.mem_of_getElem? (i := 40) rfl)
theorem wd_41 {Z : State} {a0 : Array Value} (hw : ∀ d ∈ tables_1, d.before a0 Z = true) : (Jvm.Cond.code ({ cls := "com/example/pathweave/pathweave/eval/IntList", name := "add", desc := "(I)V" } : Jvm.MethodName) prog_21_method_2_code (2 : Nat) (Option.none : Option Jvm.ClassFile.FieldType)).before a0 Z = true := hw _ (List.mem_of_getElem? (i := 41) rfl)
theorem pd_5 : parseMethodDescriptor "(I)V" = some ⟨[.int], none⟩ := by decide +kernel
theorem wd_38 {Z : State} {a0 : Array Value} (hw : ∀ d ∈ tables_1, d.before a0 Z = true) : (Jvm.Cond.declares ({ cls := "com/example/pathweave/pathweave/eval/IntList", name := "add", desc := "(I)V" } : Jvm.MethodName)).before a0 Z = true := hw _ (List.mem_of_getElem? (i := 38) rfl)
theorem wd_39 {Z : State} {a0 : Array Value} (hw : ∀ d ∈ tables_1, d.before a0 Z = true) : (Jvm.Cond.instanceMethod ({ cls := "com/example/pathweave/pathweave/eval/IntList", name := "add", desc := "(I)V" } : Jvm.MethodName)).before a0 Z = true := hw _ (List.mem_of_getElem? (i := 39) rfl)
def own_min (x y : Int32) : Int32 := if y < x then y else x
theorem own_min_def (x y : Int32) : own_min x y = if y < x then y else x := rfl
set_option maxRecDepth 65536 in
set_option maxHeartbeats 40000000 in
theorem c_min (l : Launch) (Z : State) (a0 : Array Value) (hw : ∀ d ∈ tables_1, d.before a0 Z = true) (x y : Int32) (h : Heap) (n0 : Nat) (hn : n0 ≤ h.size) : Con l Z (⟨"java/lang/Math", "min", "(II)I"⟩ : MethodName) jdk_29_method_69_code 2 (some .int) ({ frames := 0, cells := 0, slots := 0, locals := 0 } : Room) #[(.int x), (.int y)] h n0 (fun r h' => r = some (.int (own_min x y)) ∧ h' = h) := by
  refine ConW.of_W (Ls := #[.val (.int x), .val (.int y)]) (Jvm.Free.JP.mathPlain rfl (by decide +kernel)) hn (fun m => by first | (simp [entryFrame, mkF, argsToLocals, Value.category]; done) | rfl) ?_
  refine W.iloadN 1 d_jdk_29_method_69_0 rfl rfl ?_
  refine W.iloadN 2 d_jdk_29_method_69_1 rfl rfl ?_
  refine W.icmp_gt 9 5 d_jdk_29_method_69_2 rfl rfl ?_ ?_
  · intro hc1001
    refine W.iloadN 10 d_jdk_29_method_69_9 rfl rfl ?_
    exact W.ireturn d_jdk_29_method_69_10 rfl ⟨by rw [own_min_def]; simp [hc1001], rfl⟩ (by decide) (by decide)
  · intro hc1001
    refine W.iloadN 6 d_jdk_29_method_69_5 rfl rfl ?_
    refine W.goto 10 d_jdk_29_method_69_6 rfl ?_
    exact W.ireturn d_jdk_29_method_69_10 rfl ⟨by rw [own_min_def]; simp [hc1001], rfl⟩ (by decide) (by decide)
set_option maxRecDepth 65536 in
set_option maxHeartbeats 40000000 in
theorem c_copy (l : Launch) (Z : State) (a0 : Array Value) (hw : ∀ d ∈ tables_1, d.before a0 Z = true) (a : Addr) (nl len mn : Int32) (vs : List Value) (k km : Nat) (h : Heap) (n0 : Nat) (hn : n0 ≤ h.size) (A : Ary Z h a .int vs) (hlen : vs.length.toInt32 = len) (hne : ¬ nl = len) (hnl : nl.toNatClampNeg = k) (hnn : ¬ nl < 0) (hk : k ≤ 16) (hmn : own_min len nl = mn) (hkm : mn.toNatClampNeg = km) (hmn0 : ¬ mn < 0) (h1 : km ≤ vs.length) (h2 : km ≤ k) : Con l Z (⟨"java/util/Arrays", "copyOf", "([II)[I"⟩ : MethodName) jdk_65_method_123_code 3 (some (.array .int)) ({ frames := 1, cells := 1, slots := 16, locals := 90 } : Room) #[(.ref a), (.int nl)] h n0 (fun r h' => ∃ b, r = some (.ref b) ∧ h.size ≤ b ∧ n0 ≤ b ∧ Keep h h' [] ∧ Ary Z h' b .int ((List.replicate k (.int (0 : Int32))).take 0 ++ (vs.drop 0).take km ++ (List.replicate k (.int (0 : Int32))).drop (0 + km)) ∧ Exa Z h' b "[I") := by
  refine ConW.of_W (Ls := #[.val (.ref a), .val (.int nl), .unset]) (plainFor_of_name pn_0) hn (fun m => by first | (simp [entryFrame, mkF, argsToLocals, Value.category]; done) | rfl) ?_
  refine W.iloadN 1 d_jdk_65_method_123_0 rfl rfl ?_
  refine W.aloadN 2 d_jdk_65_method_123_1 rfl rfl rfl ?_
  refine W.arraylength 3 d_jdk_65_method_123_2 rfl A len hlen ?_
  refine W.icmp_ne 14 6 d_jdk_65_method_123_3 rfl rfl (fun _ => ?_) (fun hc => absurd hc hne)
  refine W.iloadN 15 d_jdk_65_method_123_14 rfl rfl ?_
  refine W.newarrayE 17 d_jdk_65_method_123_15 rfl (wd_1 hw) rfl (ad := "[I") (by decide) hnn k 16 hnl hk (by decide) (by decide) (by decide) rfl ?_
  intro h1002 b1002 g1002 ge1002 X1002 K1002 A1002 E1002
  have ne1003 : a ≠ b1002 := Nat.ne_of_lt (Nat.lt_of_lt_of_eq A.lt g1002.symm)
  have sz1004 := Nat.le_trans (Keep.refl _ []).1 (Nat.le_of_eq g1002.symm)
  have kc1005 := Keep.trans (ws := []) (Keep.refl _ []) K1002 all0
  show W _ _ _ _ _ _ _ _ _ _ _ 1 16 17 #[.val (.ref a), .val (.int nl), .unset] [(.ref b1002)]
  refine W.astoreN 18 d_jdk_65_method_123_17 rfl rfl #[.val (.ref a), .val (.int nl), .val (.ref b1002)] rfl ?_
  refine W.aloadN 19 d_jdk_65_method_123_18 rfl rfl rfl ?_
  refine W.iconst 20 d_jdk_65_method_123_19 rfl (0 : Int32) rfl ?_
  refine W.aloadN 21 d_jdk_65_method_123_20 rfl rfl rfl ?_
  refine W.iconst 22 d_jdk_65_method_123_21 rfl (0 : Int32) rfl ?_
  refine W.aloadN 23 d_jdk_65_method_123_22 rfl rfl rfl ?_
  have q1006 := (A.keep K1002 nin0)
  refine W.arraylength 24 d_jdk_65_method_123_23 rfl q1006 len hlen ?_
  refine W.iloadN 25 d_jdk_65_method_123_24 rfl rfl ?_
  refine W.callS (rest := [(.int (0 : Int32)), (.ref b1002), (.int (0 : Int32)), (.ref a)]) (argsL := [(.int len), (.int nl)]) 28 d_jdk_65_method_123_25 rfl (fun hn => c_min l Z a0 hw len nl _ n0 hn) (wd_29 hw) (wd_30 hw) (wd_31 hw) (wd_32 hw) (by decide) pd_0 rfl rfl rfl (by decide) 4 (Nat.le_of_ble_eq_true rfl) (by decide) (by decide) (by decide) ?_
  rintro v1007 h1007 ⟨rfl, rfl⟩
  show W _ _ _ _ _ _ _ _ _ _ _ 1 16 28 #[.val (.ref a), .val (.int nl), .val (.ref b1002)] [(.int (own_min len nl)), (.int (0 : Int32)), (.ref b1002), (.int (0 : Int32)), (.ref a)]
  rw [hmn]
  show W _ _ _ _ _ _ _ _ _ _ _ 1 16 28 #[.val (.ref a), .val (.int nl), .val (.ref b1002)] [(.int mn), (.int (0 : Int32)), (.ref b1002), (.int (0 : Int32)), (.ref a)]
  refine W.arraycopy 31 d_jdk_65_method_123_28 rfl (wd_33 hw) (wd_36 hw) (wd_34 hw) (wd_35 hw) q1006 A1002 rfl 0 0 km (by decide) (by decide) (by decide) (by decide) hkm hmn0 (by rw [Nat.zero_add]; exact h1) (by rw [Nat.zero_add, List.length_replicate]; exact h2) ge1002 rfl (by decide) 0 (Nat.le_of_ble_eq_true rfl) (by decide) ?_
  intro h1008 K1008 A1008
  have kc1009 := Keep.trans (ws := []) kc1005 K1008 (allS (Or.inr sz1004) all0)
  refine W.aloadN 32 d_jdk_65_method_123_31 rfl rfl rfl ?_
  have q1010 := (E1002.keep K1008)
  exact W.areturn d_jdk_65_method_123_32 rfl rfl rfl rfl ⟨_, rfl, sz1004, ge1002, kc1009, A1008, q1010⟩ (by decide) (by decide)
set_option maxRecDepth 65536 in
set_option maxHeartbeats 40000000 in
theorem c_copyE (l : Launch) (Z : State) (a0 : Array Value) (hw : ∀ d ∈ tables_1, d.before a0 Z = true) (a : Addr) (len : Int32) (vs : List Value) (h : Heap) (n0 : Nat) (hn : n0 ≤ h.size) (A : Ary Z h a .int vs) (E : Exa Z h a "[I") (hlen : vs.length.toInt32 = len) (hcap : vs.length ≤ 16) : Con l Z (⟨"java/util/Arrays", "copyOf", "([II)[I"⟩ : MethodName) jdk_65_method_123_code 3 (some (.array .int)) ({ frames := 1, cells := 1, slots := 16, locals := 90 } : Room) #[(.ref a), (.int len)] h n0 (fun r h' => ∃ b, r = some (.ref b) ∧ h.size ≤ b ∧ n0 ≤ b ∧ Keep h h' [] ∧ Ary Z h' b .int vs ∧ Exa Z h' b "[I") := by
  refine ConW.of_W (Ls := #[.val (.ref a), .val (.int len), .unset]) (plainFor_of_name pn_0) hn (fun m => by first | (simp [entryFrame, mkF, argsToLocals, Value.category]; done) | rfl) ?_
  refine W.iloadN 1 d_jdk_65_method_123_0 rfl rfl ?_
  refine W.aloadN 2 d_jdk_65_method_123_1 rfl rfl rfl ?_
  refine W.arraylength 3 d_jdk_65_method_123_2 rfl A len hlen ?_
  refine W.icmp_ne 14 6 d_jdk_65_method_123_3 rfl rfl (fun hc => absurd rfl hc) (fun _ => ?_)
  refine W.aloadN 7 d_jdk_65_method_123_6 rfl rfl rfl ?_
  refine W.cloneArr 10 d_jdk_65_method_123_7 rfl (wd_42 hw) (wd_43 hw) (wd_47 hw) (wd_45 hw) (wd_46 hw) (wd_48 hw) A E rfl (by decide) 0 16 (Nat.le_of_ble_eq_true rfl) (by decide) hcap (by decide) (by decide) ?_
  intro h1011 b1011 g1011 ge1011 X1011 K1011 A1011 E1011
  have ne1012 : a ≠ b1011 := Nat.ne_of_lt (Nat.lt_of_lt_of_eq A.lt g1011.symm)
  have sz1013 := Nat.le_trans (Keep.refl _ []).1 (Nat.le_of_eq g1011.symm)
  have kc1014 := Keep.trans (ws := []) (Keep.refl _ []) K1011 all0
  show W _ _ _ _ _ _ _ _ _ _ _ 1 16 10 #[.val (.ref a), .val (.int len), .unset] [(.ref b1011)]
  refine W.checkcast 13 d_jdk_65_method_123_10 rfl (wd_49 hw) (Ins.self E1011) ?_
  exact W.areturn d_jdk_65_method_123_13 rfl rfl rfl rfl ⟨_, rfl, sz1013, ge1011, kc1014, A1011, E1011⟩ (by decide) (by decide)
set_option maxRecDepth 65536 in
set_option maxHeartbeats 40000000 in
theorem c_init (l : Launch) (Z : State) (a0 : Array Value) (hw : ∀ d ∈ tables_1, d.before a0 Z = true) (a : Addr) (h : Heap) (n0 : Nat) (hn : n0 ≤ h.size) (ga : n0 ≤ a) (E : Exa Z h a "com/example/pathweave/pathweave/eval/IntList") (F1 : Fld Z h a "com/example/pathweave/pathweave/eval/IntList" "values" "[I" .null) (F2 : Fld Z h a "com/example/pathweave/pathweave/eval/IntList" "size" "I" (.int (0 : Int32))) : Con l Z (⟨"com/example/pathweave/pathweave/eval/IntList", "<init>", "()V"⟩ : MethodName) prog_21_method_1_code 1 none ({ frames := 1, cells := 1, slots := 8, locals := 14 } : Room) #[(.ref a)] h n0 (fun r h' => r = none ∧ ∃ b, h.size ≤ b ∧ n0 ≤ b ∧ a ≠ b ∧ Exa Z h' a "com/example/pathweave/pathweave/eval/IntList" ∧ Fld Z h' a "com/example/pathweave/pathweave/eval/IntList" "values" "[I" (.ref b) ∧ Fld Z h' a "com/example/pathweave/pathweave/eval/IntList" "size" "I" (.int (0 : Int32)) ∧ Ary Z h' b .int [(.int (0 : Int32)), (.int (0 : Int32)), (.int (0 : Int32)), (.int (0 : Int32)), (.int (0 : Int32)), (.int (0 : Int32)), (.int (0 : Int32)), (.int (0 : Int32))] ∧ Keep h h' [a] ∧ Exa Z h' b "[I") := by
  refine ConW.of_W (Ls := #[.val (.ref a)]) (plainFor_of_name pn_1) hn (fun m => by first | (simp [entryFrame, mkF, argsToLocals, Value.category]; done) | rfl) ?_
  refine W.aloadN 1 d_prog_21_method_1_0 rfl rfl rfl ?_
  refine W.initObj 4 d_prog_21_method_1_1 rfl (wd_8 hw) (wd_9 hw) (wd_10 hw) rfl (by decide) 0 (Nat.le_of_ble_eq_true rfl) (by decide) ?_
  refine W.aloadN 5 d_prog_21_method_1_4 rfl rfl rfl ?_
  refine W.bipush 7 d_prog_21_method_1_5 rfl (8 : Int32) rfl ?_
  refine W.newarrayE 9 d_prog_21_method_1_7 rfl (wd_1 hw) rfl (ad := "[I") (by decide) (by decide) 8 8 (by decide) (by decide) (by decide) (by decide) (by decide) rfl ?_
  intro h1015 b1015 g1015 ge1015 X1015 K1015 A1015 E1015
  have ne1016 : a ≠ b1015 := Nat.ne_of_lt (Nat.lt_of_lt_of_eq E.lt g1015.symm)
  have sz1017 := Nat.le_trans (Keep.refl _ [a]).1 (Nat.le_of_eq g1015.symm)
  have kc1018 := Keep.trans (ws := [a]) (Keep.refl _ [a]) K1015 all0
  have A1015 : Ary _ _ b1015 .int [(.int (0 : Int32)), (.int (0 : Int32)), (.int (0 : Int32)), (.int (0 : Int32)), (.int (0 : Int32)), (.int (0 : Int32)), (.int (0 : Int32)), (.int (0 : Int32))] := A1015
  show W _ _ _ _ _ _ _ _ _ _ _ 1 8 9 #[.val (.ref a)] [(.ref b1015), (.ref a)]
  have q1019 := (F1.keep K1015 nin0)
  have q1020 := (E.keep K1015)
  refine W.putfield 12 d_prog_21_method_1_9 rfl (host := "") (Or.inl (wd_11 hw)) Via.refl q1019 q1020 (Or.inl (wd_12 hw)) (wd_3 hw) (ty := (.array .int)) (by decide) rfl rfl ga ?_
  intro h1021 W1021 F1021 E1021 K1021
  have kc1022 := Keep.trans (ws := [a]) kc1018 K1021 (allS (Or.inl (List.mem_of_getElem? (i := 0) rfl)) all0)
  have q1023 := ((F2.keep K1015 nin0).other W1021 (Or.inr (sne_0 hw)))
  have q1024 := (A1015.keep K1021 (ninS (Ne.symm ne1016) nin0))
  have q1025 := (E1015.keep K1021)
  exact W.return_ d_prog_21_method_1_12 rfl ⟨rfl, _, sz1017, ge1015, ne1016, E1021, F1021, q1023, q1024, kc1022, q1025⟩ (by decide) (by decide)
set_option maxRecDepth 65536 in
set_option maxHeartbeats 40000000 in
theorem c_add (l : Launch) (Z : State) (a0 : Array Value) (hw : ∀ d ∈ tables_1, d.before a0 Z = true) (a b : Addr) (x s len : Int32) (vs : List Value) (k : Nat) (h : Heap) (n0 : Nat) (hn : n0 ≤ h.size) (ga : n0 ≤ a) (gb : n0 ≤ b) (ne : a ≠ b) (E : Exa Z h a "com/example/pathweave/pathweave/eval/IntList") (F1 : Fld Z h a "com/example/pathweave/pathweave/eval/IntList" "values" "[I" (.ref b)) (F2 : Fld Z h a "com/example/pathweave/pathweave/eval/IntList" "size" "I" (.int s)) (A : Ary Z h b .int vs) (hlen : vs.length.toInt32 = len) (hne : ¬ s = len) (hk : s.toNatClampNeg = k) (hs0 : ¬ s < 0) (hkl : k < vs.length) : Con l Z (⟨"com/example/pathweave/pathweave/eval/IntList", "add", "(I)V"⟩ : MethodName) prog_21_method_2_code 2 none ({ frames := 0, cells := 0, slots := 0, locals := 0 } : Room) #[(.ref a), (.int x)] h n0 (fun r h' => r = none ∧ Exa Z h' a "com/example/pathweave/pathweave/eval/IntList" ∧ Fld Z h' a "com/example/pathweave/pathweave/eval/IntList" "values" "[I" (.ref b) ∧ Fld Z h' a "com/example/pathweave/pathweave/eval/IntList" "size" "I" (.int (s + (1 : Int32))) ∧ Ary Z h' b .int (vs.set k (.int x)) ∧ Keep h h' [a, b]) := by
  refine ConW.of_W (Ls := #[.val (.ref a), .val (.int x)]) (plainFor_of_name pn_1) hn (fun m => by first | (simp [entryFrame, mkF, argsToLocals, Value.category]; done) | rfl) ?_
  refine W.aloadN 1 d_prog_21_method_2_0 rfl rfl rfl ?_
  refine W.getfield 4 d_prog_21_method_2_1 rfl (host := "") (Or.inl (wd_18 hw)) Via.refl F2 ?_
  refine W.aloadN 5 d_prog_21_method_2_4 rfl rfl rfl ?_
  refine W.getfield 8 d_prog_21_method_2_5 rfl (host := "") (Or.inl (wd_11 hw)) Via.refl F1 ?_
  refine W.arraylength 9 d_prog_21_method_2_8 rfl A len hlen ?_
  refine W.icmp_ne 29 12 d_prog_21_method_2_9 rfl rfl (fun _ => ?_) (fun hc => absurd hc hne)
  refine W.aloadN 30 d_prog_21_method_2_29 rfl rfl rfl ?_
  refine W.getfield 33 d_prog_21_method_2_30 rfl (host := "") (Or.inl (wd_11 hw)) Via.refl F1 ?_
  refine W.aloadN 34 d_prog_21_method_2_33 rfl rfl rfl ?_
  refine W.dup 35 d_prog_21_method_2_34 rfl rfl ?_
  refine W.getfield 38 d_prog_21_method_2_35 rfl (host := "") (Or.inl (wd_18 hw)) Via.refl F2 ?_
  refine W.dup_x1 39 d_prog_21_method_2_38 rfl rfl rfl ?_
  refine W.iconst 40 d_prog_21_method_2_39 rfl (1 : Int32) rfl ?_
  refine W.iadd 41 d_prog_21_method_2_40 rfl (s + (1 : Int32)) rfl ?_
  refine W.putfield 44 d_prog_21_method_2_41 rfl (host := "") (Or.inl (wd_18 hw)) Via.refl F2 E (Or.inl (wd_19 hw)) (wd_3 hw) (ty := .int) (by decide) rfl rfl ga ?_
  intro h1026 W1026 F1026 E1026 K1026
  have kc1027 := Keep.trans (ws := [a, b]) (Keep.refl _ [a, b]) K1026 (allS (Or.inl (List.mem_of_getElem? (i := 0) rfl)) all0)
  refine W.iloadN 45 d_prog_21_method_2_44 rfl rfl ?_
  have q1028 := (A.keep K1026 (ninS (Ne.symm ne) nin0))
  refine W.iastore 46 d_prog_21_method_2_45 rfl q1028 k hk hs0 hkl gb ?_
  intro h1029 W1029 K1029 A1029
  have kc1030 := Keep.trans (ws := [a, b]) kc1027 K1029 (allS (Or.inl (List.mem_of_getElem? (i := 1) rfl)) all0)
  have q1031 := (E1026.keep K1029)
  have q1032 := ((F1.other W1026 (Or.inr (sne_1 hw))).keep K1029 (ninS ne nin0))
  have q1033 := (F1026.keep K1029 (ninS ne nin0))
  exact W.return_ d_prog_21_method_2_46 rfl ⟨rfl, q1031, q1032, q1033, A1029, kc1030⟩ (by decide) (by decide)
set_option maxRecDepth 65536 in
set_option maxHeartbeats 40000000 in
theorem c_addG (l : Launch) (Z : State) (a0 : Array Value) (hw : ∀ d ∈ tables_1, d.before a0 Z = true) (a b : Addr) (x y0 y1 y2 y3 y4 y5 y6 y7 : Int32) (h : Heap) (n0 : Nat) (hn : n0 ≤ h.size) (ga : n0 ≤ a) (gb : n0 ≤ b) (ne : a ≠ b) (E : Exa Z h a "com/example/pathweave/pathweave/eval/IntList") (F1 : Fld Z h a "com/example/pathweave/pathweave/eval/IntList" "values" "[I" (.ref b)) (F2 : Fld Z h a "com/example/pathweave/pathweave/eval/IntList" "size" "I" (.int (8 : Int32))) (A : Ary Z h b .int [(.int y0), (.int y1), (.int y2), (.int y3), (.int y4), (.int y5), (.int y6), (.int y7)]) : Con l Z (⟨"com/example/pathweave/pathweave/eval/IntList", "add", "(I)V"⟩ : MethodName) prog_21_method_2_code 2 none ({ frames := 2, cells := 1, slots := 16, locals := 130 } : Room) #[(.ref a), (.int x)] h n0 (fun r h' => r = none ∧ ∃ b', h.size ≤ b' ∧ n0 ≤ b' ∧ a ≠ b' ∧ Exa Z h' a "com/example/pathweave/pathweave/eval/IntList" ∧ Fld Z h' a "com/example/pathweave/pathweave/eval/IntList" "values" "[I" (.ref b') ∧ Fld Z h' a "com/example/pathweave/pathweave/eval/IntList" "size" "I" (.int (9 : Int32)) ∧ Ary Z h' b' .int [(.int y0), (.int y1), (.int y2), (.int y3), (.int y4), (.int y5), (.int y6), (.int y7), (.int x), (.int (0 : Int32)), (.int (0 : Int32)), (.int (0 : Int32)), (.int (0 : Int32)), (.int (0 : Int32)), (.int (0 : Int32)), (.int (0 : Int32))] ∧ Keep h h' [a] ∧ Exa Z h' b' "[I") := by
  refine ConW.of_W (Ls := #[.val (.ref a), .val (.int x)]) (plainFor_of_name pn_1) hn (fun m => by first | (simp [entryFrame, mkF, argsToLocals, Value.category]; done) | rfl) ?_
  refine W.aloadN 1 d_prog_21_method_2_0 rfl rfl rfl ?_
  refine W.getfield 4 d_prog_21_method_2_1 rfl (host := "") (Or.inl (wd_18 hw)) Via.refl F2 ?_
  refine W.aloadN 5 d_prog_21_method_2_4 rfl rfl rfl ?_
  refine W.getfield 8 d_prog_21_method_2_5 rfl (host := "") (Or.inl (wd_11 hw)) Via.refl F1 ?_
  refine W.arraylength 9 d_prog_21_method_2_8 rfl A (8 : Int32) rfl ?_
  refine W.icmp_ne 29 12 d_prog_21_method_2_9 rfl rfl (fun hc => absurd (by decide) hc) (fun _ => ?_)
  refine W.aloadN 13 d_prog_21_method_2_12 rfl rfl rfl ?_
  refine W.aloadN 14 d_prog_21_method_2_13 rfl rfl rfl ?_
  refine W.getfield 17 d_prog_21_method_2_14 rfl (host := "") (Or.inl (wd_11 hw)) Via.refl F1 ?_
  refine W.iconst 18 d_prog_21_method_2_17 rfl (2 : Int32) rfl ?_
  refine W.aloadN 19 d_prog_21_method_2_18 rfl rfl rfl ?_
  refine W.getfield 22 d_prog_21_method_2_19 rfl (host := "") (Or.inl (wd_18 hw)) Via.refl F2 ?_
  refine W.imul 23 d_prog_21_method_2_22 rfl (16 : Int32) (by decide) ?_
  refine W.callS (rest := [(.ref a)]) (argsL := [(.ref b), (.int (16 : Int32))]) 26 d_prog_21_method_2_23 rfl (fun hn => c_copy l Z a0 hw b (16 : Int32) (8 : Int32) (8 : Int32) _ 16 8 _ n0 hn A rfl (by decide) (by decide) (by decide) (by decide) (by decide) (by decide) (by decide) (Nat.le_of_ble_eq_true rfl) (by decide)) (wd_25 hw) (wd_26 hw) (wd_27 hw) (wd_28 hw) (by decide) pd_1 rfl rfl rfl (by decide) 1 (Nat.le_of_ble_eq_true rfl) (by decide) (by decide) (by decide) ?_
  rintro v1034 h1034 ⟨b1034, rfl, sz1034, gb1034, K1034, A1034, B1034⟩
  have ne1035 : a ≠ b1034 := Nat.ne_of_lt (Nat.lt_of_lt_of_le E.lt sz1034)
  have ne1036 : b ≠ b1034 := Nat.ne_of_lt (Nat.lt_of_lt_of_le A.lt sz1034)
  have sz1037 := Nat.le_trans (Keep.refl _ [a]).1 sz1034
  have kc1038 := Keep.trans (ws := [a]) (Keep.refl _ [a]) K1034 all0
  show W _ _ _ _ _ _ _ _ _ _ _ 1 16 26 #[.val (.ref a), .val (.int x)] [(.ref b1034), (.ref a)]
  have q1039 := (F1.keep K1034 nin0)
  have q1040 := (E.keep K1034)
  refine W.putfield 29 d_prog_21_method_2_26 rfl (host := "") (Or.inl (wd_11 hw)) Via.refl q1039 q1040 (Or.inl (wd_12 hw)) (wd_3 hw) (ty := (.array .int)) (by decide) rfl rfl ga ?_
  intro h1041 W1041 F1041 E1041 K1041
  have kc1042 := Keep.trans (ws := [a]) kc1038 K1041 (allS (Or.inl (List.mem_of_getElem? (i := 0) rfl)) all0)
  refine W.aloadN 30 d_prog_21_method_2_29 rfl rfl rfl ?_
  refine W.getfield 33 d_prog_21_method_2_30 rfl (host := "") (Or.inl (wd_11 hw)) Via.refl F1041 ?_
  refine W.aloadN 34 d_prog_21_method_2_33 rfl rfl rfl ?_
  refine W.dup 35 d_prog_21_method_2_34 rfl rfl ?_
  have q1043 := ((F2.keep K1034 nin0).other W1041 (Or.inr (sne_0 hw)))
  refine W.getfield 38 d_prog_21_method_2_35 rfl (host := "") (Or.inl (wd_18 hw)) Via.refl q1043 ?_
  refine W.dup_x1 39 d_prog_21_method_2_38 rfl rfl rfl ?_
  refine W.iconst 40 d_prog_21_method_2_39 rfl (1 : Int32) rfl ?_
  refine W.iadd 41 d_prog_21_method_2_40 rfl (9 : Int32) (by decide) ?_
  refine W.putfield 44 d_prog_21_method_2_41 rfl (host := "") (Or.inl (wd_18 hw)) Via.refl q1043 E1041 (Or.inl (wd_19 hw)) (wd_3 hw) (ty := .int) (by decide) rfl rfl ga ?_
  intro h1044 W1044 F1044 E1044 K1044
  have kc1045 := Keep.trans (ws := [a]) kc1042 K1044 (allS (Or.inl (List.mem_of_getElem? (i := 0) rfl)) all0)
  refine W.iloadN 45 d_prog_21_method_2_44 rfl rfl ?_
  have q1046 := (((show Ary _ _ _ .int [(.int y0), (.int y1), (.int y2), (.int y3), (.int y4), (.int y5), (.int y6), (.int y7), (.int (0 : Int32)), (.int (0 : Int32)), (.int (0 : Int32)), (.int (0 : Int32)), (.int (0 : Int32)), (.int (0 : Int32)), (.int (0 : Int32)), (.int (0 : Int32))] from A1034).keep K1041 (ninS (Ne.symm ne1035) nin0)).keep K1044 (ninS (Ne.symm ne1035) nin0))
  refine W.iastore 46 d_prog_21_method_2_45 rfl q1046 8 (by decide) (by decide) (Nat.le_of_ble_eq_true rfl) gb1034 ?_
  intro h1047 W1047 K1047 A1047
  have kc1048 := Keep.trans (ws := [a]) kc1045 K1047 (allS (Or.inr sz1037) all0)
  have A1047 : Ary _ _ b1034 .int [(.int y0), (.int y1), (.int y2), (.int y3), (.int y4), (.int y5), (.int y6), (.int y7), (.int x), (.int (0 : Int32)), (.int (0 : Int32)), (.int (0 : Int32)), (.int (0 : Int32)), (.int (0 : Int32)), (.int (0 : Int32)), (.int (0 : Int32))] := A1047
  have q1049 := (E1044.keep K1047)
  have q1050 := ((F1041.other W1044 (Or.inr (sne_1 hw))).keep K1047 (ninS ne1035 nin0))
  have q1051 := (F1044.keep K1047 (ninS ne1035 nin0))
  have q1052 := (((B1034.keep K1041).keep K1044).keep K1047)
  exact W.return_ d_prog_21_method_2_46 rfl ⟨rfl, _, sz1037, gb1034, ne1035, q1049, q1050, q1051, A1047, kc1048, q1052⟩ (by decide) (by decide)
set_option maxRecDepth 65536 in
set_option maxHeartbeats 40000000 in
theorem c_size (l : Launch) (Z : State) (a0 : Array Value) (hw : ∀ d ∈ tables_1, d.before a0 Z = true) (a : Addr) (s : Int32) (h : Heap) (n0 : Nat) (hn : n0 ≤ h.size) (F2 : Fld Z h a "com/example/pathweave/pathweave/eval/IntList" "size" "I" (.int s)) : Con l Z (⟨"com/example/pathweave/pathweave/eval/IntList", "size", "()I"⟩ : MethodName) prog_21_method_3_code 1 (some .int) ({ frames := 0, cells := 0, slots := 0, locals := 0 } : Room) #[(.ref a)] h n0 (fun r h' => r = some (.int s) ∧ h' = h) := by
  refine ConW.of_W (Ls := #[.val (.ref a)]) (plainFor_of_name pn_1) hn (fun m => by first | (simp [entryFrame, mkF, argsToLocals, Value.category]; done) | rfl) ?_
  refine W.aloadN 1 d_prog_21_method_3_0 rfl rfl rfl ?_
  refine W.getfield 4 d_prog_21_method_3_1 rfl (host := "") (Or.inl (wd_18 hw)) Via.refl F2 ?_
  exact W.ireturn d_prog_21_method_3_4 rfl ⟨rfl, rfl⟩ (by decide) (by decide)
set_option maxRecDepth 65536 in
set_option maxHeartbeats 40000000 in
theorem c_ta0 (l : Launch) (Z : State) (a0 : Array Value) (hw : ∀ d ∈ tables_1, d.before a0 Z = true) (a b : Addr) (y0 y1 y2 y3 y4 y5 y6 y7 : Int32) (h : Heap) (n0 : Nat) (hn : n0 ≤ h.size) (F1 : Fld Z h a "com/example/pathweave/pathweave/eval/IntList" "values" "[I" (.ref b)) (F2 : Fld Z h a "com/example/pathweave/pathweave/eval/IntList" "size" "I" (.int (0 : Int32))) (A : Ary Z h b .int [(.int y0), (.int y1), (.int y2), (.int y3), (.int y4), (.int y5), (.int y6), (.int y7)]) (B : Exa Z h b "[I") : Con l Z (⟨"com/example/pathweave/pathweave/eval/IntList", "toArray", "()[I"⟩ : MethodName) prog_21_method_5_code 1 (some (.array .int)) ({ frames := 2, cells := 1, slots := 16, locals := 130 } : Room) #[(.ref a)] h n0 (fun r h' => ∃ c, r = some (.ref c) ∧ h.size ≤ c ∧ n0 ≤ c ∧ Keep h h' [] ∧ Ary Z h' c .int []) := by
  refine ConW.of_W (Ls := #[.val (.ref a)]) (plainFor_of_name pn_1) hn (fun m => by first | (simp [entryFrame, mkF, argsToLocals, Value.category]; done) | rfl) ?_
  refine W.aloadN 1 d_prog_21_method_5_0 rfl rfl rfl ?_
  refine W.getfield 4 d_prog_21_method_5_1 rfl (host := "") (Or.inl (wd_11 hw)) Via.refl F1 ?_
  refine W.aloadN 5 d_prog_21_method_5_4 rfl rfl rfl ?_
  refine W.getfield 8 d_prog_21_method_5_5 rfl (host := "") (Or.inl (wd_18 hw)) Via.refl F2 ?_
  refine W.callS (rest := []) (argsL := [(.ref b), (.int (0 : Int32))]) 11 d_prog_21_method_5_8 rfl (fun hn => c_copy l Z a0 hw b (0 : Int32) (8 : Int32) (0 : Int32) _ 0 0 _ n0 hn A rfl (by decide) (by decide) (by decide) (by decide) (by decide) (by decide) (by decide) (Nat.le_of_ble_eq_true rfl) (by decide)) (wd_25 hw) (wd_26 hw) (wd_27 hw) (wd_28 hw) (by decide) pd_1 rfl rfl rfl (by decide) 0 (Nat.le_of_ble_eq_true rfl) (by decide) (by decide) (by decide) ?_
  rintro v1053 h1053 ⟨b1053, rfl, sz1053, gb1053, K1053, A1053, B1053⟩
  have ne1054 : a ≠ b1053 := Nat.ne_of_lt (Nat.lt_of_lt_of_le F2.lt sz1053)
  have ne1055 : b ≠ b1053 := Nat.ne_of_lt (Nat.lt_of_lt_of_le A.lt sz1053)
  have sz1056 := Nat.le_trans (Keep.refl _ []).1 sz1053
  have kc1057 := Keep.trans (ws := []) (Keep.refl _ []) K1053 all0
  show W _ _ _ _ _ _ _ _ _ _ _ 1 16 11 #[.val (.ref a)] [(.ref b1053)]
  exact W.areturn d_prog_21_method_5_11 rfl rfl rfl rfl ⟨_, rfl, sz1056, gb1053, kc1057, (show Ary _ _ _ .int [] from A1053)⟩ (by decide) (by decide)
set_option maxRecDepth 65536 in
set_option maxHeartbeats 40000000 in
theorem c_ta1 (l : Launch) (Z : State) (a0 : Array Value) (hw : ∀ d ∈ tables_1, d.before a0 Z = true) (a b : Addr) (y0 y1 y2 y3 y4 y5 y6 y7 : Int32) (h : Heap) (n0 : Nat) (hn : n0 ≤ h.size) (F1 : Fld Z h a "com/example/pathweave/pathweave/eval/IntList" "values" "[I" (.ref b)) (F2 : Fld Z h a "com/example/pathweave/pathweave/eval/IntList" "size" "I" (.int (1 : Int32))) (A : Ary Z h b .int [(.int y0), (.int y1), (.int y2), (.int y3), (.int y4), (.int y5), (.int y6), (.int y7)]) (B : Exa Z h b "[I") : Con l Z (⟨"com/example/pathweave/pathweave/eval/IntList", "toArray", "()[I"⟩ : MethodName) prog_21_method_5_code 1 (some (.array .int)) ({ frames := 2, cells := 1, slots := 16, locals := 130 } : Room) #[(.ref a)] h n0 (fun r h' => ∃ c, r = some (.ref c) ∧ h.size ≤ c ∧ n0 ≤ c ∧ Keep h h' [] ∧ Ary Z h' c .int [(.int y0)]) := by
  refine ConW.of_W (Ls := #[.val (.ref a)]) (plainFor_of_name pn_1) hn (fun m => by first | (simp [entryFrame, mkF, argsToLocals, Value.category]; done) | rfl) ?_
  refine W.aloadN 1 d_prog_21_method_5_0 rfl rfl rfl ?_
  refine W.getfield 4 d_prog_21_method_5_1 rfl (host := "") (Or.inl (wd_11 hw)) Via.refl F1 ?_
  refine W.aloadN 5 d_prog_21_method_5_4 rfl rfl rfl ?_
  refine W.getfield 8 d_prog_21_method_5_5 rfl (host := "") (Or.inl (wd_18 hw)) Via.refl F2 ?_
  refine W.callS (rest := []) (argsL := [(.ref b), (.int (1 : Int32))]) 11 d_prog_21_method_5_8 rfl (fun hn => c_copy l Z a0 hw b (1 : Int32) (8 : Int32) (1 : Int32) _ 1 1 _ n0 hn A rfl (by decide) (by decide) (by decide) (by decide) (by decide) (by decide) (by decide) (Nat.le_of_ble_eq_true rfl) (by decide)) (wd_25 hw) (wd_26 hw) (wd_27 hw) (wd_28 hw) (by decide) pd_1 rfl rfl rfl (by decide) 0 (Nat.le_of_ble_eq_true rfl) (by decide) (by decide) (by decide) ?_
  rintro v1058 h1058 ⟨b1058, rfl, sz1058, gb1058, K1058, A1058, B1058⟩
  have ne1059 : a ≠ b1058 := Nat.ne_of_lt (Nat.lt_of_lt_of_le F2.lt sz1058)
  have ne1060 : b ≠ b1058 := Nat.ne_of_lt (Nat.lt_of_lt_of_le A.lt sz1058)
  have sz1061 := Nat.le_trans (Keep.refl _ []).1 sz1058
  have kc1062 := Keep.trans (ws := []) (Keep.refl _ []) K1058 all0
  show W _ _ _ _ _ _ _ _ _ _ _ 1 16 11 #[.val (.ref a)] [(.ref b1058)]
  exact W.areturn d_prog_21_method_5_11 rfl rfl rfl rfl ⟨_, rfl, sz1061, gb1058, kc1062, (show Ary _ _ _ .int [(.int y0)] from A1058)⟩ (by decide) (by decide)
set_option maxRecDepth 65536 in
set_option maxHeartbeats 40000000 in
theorem c_ta2 (l : Launch) (Z : State) (a0 : Array Value) (hw : ∀ d ∈ tables_1, d.before a0 Z = true) (a b : Addr) (y0 y1 y2 y3 y4 y5 y6 y7 : Int32) (h : Heap) (n0 : Nat) (hn : n0 ≤ h.size) (F1 : Fld Z h a "com/example/pathweave/pathweave/eval/IntList" "values" "[I" (.ref b)) (F2 : Fld Z h a "com/example/pathweave/pathweave/eval/IntList" "size" "I" (.int (2 : Int32))) (A : Ary Z h b .int [(.int y0), (.int y1), (.int y2), (.int y3), (.int y4), (.int y5), (.int y6), (.int y7)]) (B : Exa Z h b "[I") : Con l Z (⟨"com/example/pathweave/pathweave/eval/IntList", "toArray", "()[I"⟩ : MethodName) prog_21_method_5_code 1 (some (.array .int)) ({ frames := 2, cells := 1, slots := 16, locals := 130 } : Room) #[(.ref a)] h n0 (fun r h' => ∃ c, r = some (.ref c) ∧ h.size ≤ c ∧ n0 ≤ c ∧ Keep h h' [] ∧ Ary Z h' c .int [(.int y0), (.int y1)]) := by
  refine ConW.of_W (Ls := #[.val (.ref a)]) (plainFor_of_name pn_1) hn (fun m => by first | (simp [entryFrame, mkF, argsToLocals, Value.category]; done) | rfl) ?_
  refine W.aloadN 1 d_prog_21_method_5_0 rfl rfl rfl ?_
  refine W.getfield 4 d_prog_21_method_5_1 rfl (host := "") (Or.inl (wd_11 hw)) Via.refl F1 ?_
  refine W.aloadN 5 d_prog_21_method_5_4 rfl rfl rfl ?_
  refine W.getfield 8 d_prog_21_method_5_5 rfl (host := "") (Or.inl (wd_18 hw)) Via.refl F2 ?_
  refine W.callS (rest := []) (argsL := [(.ref b), (.int (2 : Int32))]) 11 d_prog_21_method_5_8 rfl (fun hn => c_copy l Z a0 hw b (2 : Int32) (8 : Int32) (2 : Int32) _ 2 2 _ n0 hn A rfl (by decide) (by decide) (by decide) (by decide) (by decide) (by decide) (by decide) (Nat.le_of_ble_eq_true rfl) (by decide)) (wd_25 hw) (wd_26 hw) (wd_27 hw) (wd_28 hw) (by decide) pd_1 rfl rfl rfl (by decide) 0 (Nat.le_of_ble_eq_true rfl) (by decide) (by decide) (by decide) ?_
  rintro v1063 h1063 ⟨b1063, rfl, sz1063, gb1063, K1063, A1063, B1063⟩
  have ne1064 : a ≠ b1063 := Nat.ne_of_lt (Nat.lt_of_lt_of_le F2.lt sz1063)
  have ne1065 : b ≠ b1063 := Nat.ne_of_lt (Nat.lt_of_lt_of_le A.lt sz1063)
  have sz1066 := Nat.le_trans (Keep.refl _ []).1 sz1063
  have kc1067 := Keep.trans (ws := []) (Keep.refl _ []) K1063 all0
  show W _ _ _ _ _ _ _ _ _ _ _ 1 16 11 #[.val (.ref a)] [(.ref b1063)]
  exact W.areturn d_prog_21_method_5_11 rfl rfl rfl rfl ⟨_, rfl, sz1066, gb1063, kc1067, (show Ary _ _ _ .int [(.int y0), (.int y1)] from A1063)⟩ (by decide) (by decide)
set_option maxRecDepth 65536 in
set_option maxHeartbeats 40000000 in
theorem c_ta3 (l : Launch) (Z : State) (a0 : Array Value) (hw : ∀ d ∈ tables_1, d.before a0 Z = true) (a b : Addr) (y0 y1 y2 y3 y4 y5 y6 y7 : Int32) (h : Heap) (n0 : Nat) (hn : n0 ≤ h.size) (F1 : Fld Z h a "com/example/pathweave/pathweave/eval/IntList" "values" "[I" (.ref b)) (F2 : Fld Z h a "com/example/pathweave/pathweave/eval/IntList" "size" "I" (.int (3 : Int32))) (A : Ary Z h b .int [(.int y0), (.int y1), (.int y2), (.int y3), (.int y4), (.int y5), (.int y6), (.int y7)]) (B : Exa Z h b "[I") : Con l Z (⟨"com/example/pathweave/pathweave/eval/IntList", "toArray", "()[I"⟩ : MethodName) prog_21_method_5_code 1 (some (.array .int)) ({ frames := 2, cells := 1, slots := 16, locals := 130 } : Room) #[(.ref a)] h n0 (fun r h' => ∃ c, r = some (.ref c) ∧ h.size ≤ c ∧ n0 ≤ c ∧ Keep h h' [] ∧ Ary Z h' c .int [(.int y0), (.int y1), (.int y2)]) := by
  refine ConW.of_W (Ls := #[.val (.ref a)]) (plainFor_of_name pn_1) hn (fun m => by first | (simp [entryFrame, mkF, argsToLocals, Value.category]; done) | rfl) ?_
  refine W.aloadN 1 d_prog_21_method_5_0 rfl rfl rfl ?_
  refine W.getfield 4 d_prog_21_method_5_1 rfl (host := "") (Or.inl (wd_11 hw)) Via.refl F1 ?_
  refine W.aloadN 5 d_prog_21_method_5_4 rfl rfl rfl ?_
  refine W.getfield 8 d_prog_21_method_5_5 rfl (host := "") (Or.inl (wd_18 hw)) Via.refl F2 ?_
  refine W.callS (rest := []) (argsL := [(.ref b), (.int (3 : Int32))]) 11 d_prog_21_method_5_8 rfl (fun hn => c_copy l Z a0 hw b (3 : Int32) (8 : Int32) (3 : Int32) _ 3 3 _ n0 hn A rfl (by decide) (by decide) (by decide) (by decide) (by decide) (by decide) (by decide) (Nat.le_of_ble_eq_true rfl) (by decide)) (wd_25 hw) (wd_26 hw) (wd_27 hw) (wd_28 hw) (by decide) pd_1 rfl rfl rfl (by decide) 0 (Nat.le_of_ble_eq_true rfl) (by decide) (by decide) (by decide) ?_
  rintro v1068 h1068 ⟨b1068, rfl, sz1068, gb1068, K1068, A1068, B1068⟩
  have ne1069 : a ≠ b1068 := Nat.ne_of_lt (Nat.lt_of_lt_of_le F2.lt sz1068)
  have ne1070 : b ≠ b1068 := Nat.ne_of_lt (Nat.lt_of_lt_of_le A.lt sz1068)
  have sz1071 := Nat.le_trans (Keep.refl _ []).1 sz1068
  have kc1072 := Keep.trans (ws := []) (Keep.refl _ []) K1068 all0
  show W _ _ _ _ _ _ _ _ _ _ _ 1 16 11 #[.val (.ref a)] [(.ref b1068)]
  exact W.areturn d_prog_21_method_5_11 rfl rfl rfl rfl ⟨_, rfl, sz1071, gb1068, kc1072, (show Ary _ _ _ .int [(.int y0), (.int y1), (.int y2)] from A1068)⟩ (by decide) (by decide)
set_option maxRecDepth 65536 in
set_option maxHeartbeats 40000000 in
theorem c_ta4 (l : Launch) (Z : State) (a0 : Array Value) (hw : ∀ d ∈ tables_1, d.before a0 Z = true) (a b : Addr) (y0 y1 y2 y3 y4 y5 y6 y7 : Int32) (h : Heap) (n0 : Nat) (hn : n0 ≤ h.size) (F1 : Fld Z h a "com/example/pathweave/pathweave/eval/IntList" "values" "[I" (.ref b)) (F2 : Fld Z h a "com/example/pathweave/pathweave/eval/IntList" "size" "I" (.int (4 : Int32))) (A : Ary Z h b .int [(.int y0), (.int y1), (.int y2), (.int y3), (.int y4), (.int y5), (.int y6), (.int y7)]) (B : Exa Z h b "[I") : Con l Z (⟨"com/example/pathweave/pathweave/eval/IntList", "toArray", "()[I"⟩ : MethodName) prog_21_method_5_code 1 (some (.array .int)) ({ frames := 2, cells := 1, slots := 16, locals := 130 } : Room) #[(.ref a)] h n0 (fun r h' => ∃ c, r = some (.ref c) ∧ h.size ≤ c ∧ n0 ≤ c ∧ Keep h h' [] ∧ Ary Z h' c .int [(.int y0), (.int y1), (.int y2), (.int y3)]) := by
  refine ConW.of_W (Ls := #[.val (.ref a)]) (plainFor_of_name pn_1) hn (fun m => by first | (simp [entryFrame, mkF, argsToLocals, Value.category]; done) | rfl) ?_
  refine W.aloadN 1 d_prog_21_method_5_0 rfl rfl rfl ?_
  refine W.getfield 4 d_prog_21_method_5_1 rfl (host := "") (Or.inl (wd_11 hw)) Via.refl F1 ?_
  refine W.aloadN 5 d_prog_21_method_5_4 rfl rfl rfl ?_
  refine W.getfield 8 d_prog_21_method_5_5 rfl (host := "") (Or.inl (wd_18 hw)) Via.refl F2 ?_
  refine W.callS (rest := []) (argsL := [(.ref b), (.int (4 : Int32))]) 11 d_prog_21_method_5_8 rfl (fun hn => c_copy l Z a0 hw b (4 : Int32) (8 : Int32) (4 : Int32) _ 4 4 _ n0 hn A rfl (by decide) (by decide) (by decide) (by decide) (by decide) (by decide) (by decide) (Nat.le_of_ble_eq_true rfl) (by decide)) (wd_25 hw) (wd_26 hw) (wd_27 hw) (wd_28 hw) (by decide) pd_1 rfl rfl rfl (by decide) 0 (Nat.le_of_ble_eq_true rfl) (by decide) (by decide) (by decide) ?_
  rintro v1073 h1073 ⟨b1073, rfl, sz1073, gb1073, K1073, A1073, B1073⟩
  have ne1074 : a ≠ b1073 := Nat.ne_of_lt (Nat.lt_of_lt_of_le F2.lt sz1073)
  have ne1075 : b ≠ b1073 := Nat.ne_of_lt (Nat.lt_of_lt_of_le A.lt sz1073)
  have sz1076 := Nat.le_trans (Keep.refl _ []).1 sz1073
  have kc1077 := Keep.trans (ws := []) (Keep.refl _ []) K1073 all0
  show W _ _ _ _ _ _ _ _ _ _ _ 1 16 11 #[.val (.ref a)] [(.ref b1073)]
  exact W.areturn d_prog_21_method_5_11 rfl rfl rfl rfl ⟨_, rfl, sz1076, gb1073, kc1077, (show Ary _ _ _ .int [(.int y0), (.int y1), (.int y2), (.int y3)] from A1073)⟩ (by decide) (by decide)
set_option maxRecDepth 65536 in
set_option maxHeartbeats 40000000 in
theorem c_ta5 (l : Launch) (Z : State) (a0 : Array Value) (hw : ∀ d ∈ tables_1, d.before a0 Z = true) (a b : Addr) (y0 y1 y2 y3 y4 y5 y6 y7 : Int32) (h : Heap) (n0 : Nat) (hn : n0 ≤ h.size) (F1 : Fld Z h a "com/example/pathweave/pathweave/eval/IntList" "values" "[I" (.ref b)) (F2 : Fld Z h a "com/example/pathweave/pathweave/eval/IntList" "size" "I" (.int (5 : Int32))) (A : Ary Z h b .int [(.int y0), (.int y1), (.int y2), (.int y3), (.int y4), (.int y5), (.int y6), (.int y7)]) (B : Exa Z h b "[I") : Con l Z (⟨"com/example/pathweave/pathweave/eval/IntList", "toArray", "()[I"⟩ : MethodName) prog_21_method_5_code 1 (some (.array .int)) ({ frames := 2, cells := 1, slots := 16, locals := 130 } : Room) #[(.ref a)] h n0 (fun r h' => ∃ c, r = some (.ref c) ∧ h.size ≤ c ∧ n0 ≤ c ∧ Keep h h' [] ∧ Ary Z h' c .int [(.int y0), (.int y1), (.int y2), (.int y3), (.int y4)]) := by
  refine ConW.of_W (Ls := #[.val (.ref a)]) (plainFor_of_name pn_1) hn (fun m => by first | (simp [entryFrame, mkF, argsToLocals, Value.category]; done) | rfl) ?_
  refine W.aloadN 1 d_prog_21_method_5_0 rfl rfl rfl ?_
  refine W.getfield 4 d_prog_21_method_5_1 rfl (host := "") (Or.inl (wd_11 hw)) Via.refl F1 ?_
  refine W.aloadN 5 d_prog_21_method_5_4 rfl rfl rfl ?_
  refine W.getfield 8 d_prog_21_method_5_5 rfl (host := "") (Or.inl (wd_18 hw)) Via.refl F2 ?_
  refine W.callS (rest := []) (argsL := [(.ref b), (.int (5 : Int32))]) 11 d_prog_21_method_5_8 rfl (fun hn => c_copy l Z a0 hw b (5 : Int32) (8 : Int32) (5 : Int32) _ 5 5 _ n0 hn A rfl (by decide) (by decide) (by decide) (by decide) (by decide) (by decide) (by decide) (Nat.le_of_ble_eq_true rfl) (by decide)) (wd_25 hw) (wd_26 hw) (wd_27 hw) (wd_28 hw) (by decide) pd_1 rfl rfl rfl (by decide) 0 (Nat.le_of_ble_eq_true rfl) (by decide) (by decide) (by decide) ?_
  rintro v1078 h1078 ⟨b1078, rfl, sz1078, gb1078, K1078, A1078, B1078⟩
  have ne1079 : a ≠ b1078 := Nat.ne_of_lt (Nat.lt_of_lt_of_le F2.lt sz1078)
  have ne1080 : b ≠ b1078 := Nat.ne_of_lt (Nat.lt_of_lt_of_le A.lt sz1078)
  have sz1081 := Nat.le_trans (Keep.refl _ []).1 sz1078
  have kc1082 := Keep.trans (ws := []) (Keep.refl _ []) K1078 all0
  show W _ _ _ _ _ _ _ _ _ _ _ 1 16 11 #[.val (.ref a)] [(.ref b1078)]
  exact W.areturn d_prog_21_method_5_11 rfl rfl rfl rfl ⟨_, rfl, sz1081, gb1078, kc1082, (show Ary _ _ _ .int [(.int y0), (.int y1), (.int y2), (.int y3), (.int y4)] from A1078)⟩ (by decide) (by decide)
set_option maxRecDepth 65536 in
set_option maxHeartbeats 40000000 in
theorem c_ta6 (l : Launch) (Z : State) (a0 : Array Value) (hw : ∀ d ∈ tables_1, d.before a0 Z = true) (a b : Addr) (y0 y1 y2 y3 y4 y5 y6 y7 : Int32) (h : Heap) (n0 : Nat) (hn : n0 ≤ h.size) (F1 : Fld Z h a "com/example/pathweave/pathweave/eval/IntList" "values" "[I" (.ref b)) (F2 : Fld Z h a "com/example/pathweave/pathweave/eval/IntList" "size" "I" (.int (6 : Int32))) (A : Ary Z h b .int [(.int y0), (.int y1), (.int y2), (.int y3), (.int y4), (.int y5), (.int y6), (.int y7)]) (B : Exa Z h b "[I") : Con l Z (⟨"com/example/pathweave/pathweave/eval/IntList", "toArray", "()[I"⟩ : MethodName) prog_21_method_5_code 1 (some (.array .int)) ({ frames := 2, cells := 1, slots := 16, locals := 130 } : Room) #[(.ref a)] h n0 (fun r h' => ∃ c, r = some (.ref c) ∧ h.size ≤ c ∧ n0 ≤ c ∧ Keep h h' [] ∧ Ary Z h' c .int [(.int y0), (.int y1), (.int y2), (.int y3), (.int y4), (.int y5)]) := by
  refine ConW.of_W (Ls := #[.val (.ref a)]) (plainFor_of_name pn_1) hn (fun m => by first | (simp [entryFrame, mkF, argsToLocals, Value.category]; done) | rfl) ?_
  refine W.aloadN 1 d_prog_21_method_5_0 rfl rfl rfl ?_
  refine W.getfield 4 d_prog_21_method_5_1 rfl (host := "") (Or.inl (wd_11 hw)) Via.refl F1 ?_
  refine W.aloadN 5 d_prog_21_method_5_4 rfl rfl rfl ?_
  refine W.getfield 8 d_prog_21_method_5_5 rfl (host := "") (Or.inl (wd_18 hw)) Via.refl F2 ?_
  refine W.callS (rest := []) (argsL := [(.ref b), (.int (6 : Int32))]) 11 d_prog_21_method_5_8 rfl (fun hn => c_copy l Z a0 hw b (6 : Int32) (8 : Int32) (6 : Int32) _ 6 6 _ n0 hn A rfl (by decide) (by decide) (by decide) (by decide) (by decide) (by decide) (by decide) (Nat.le_of_ble_eq_true rfl) (by decide)) (wd_25 hw) (wd_26 hw) (wd_27 hw) (wd_28 hw) (by decide) pd_1 rfl rfl rfl (by decide) 0 (Nat.le_of_ble_eq_true rfl) (by decide) (by decide) (by decide) ?_
  rintro v1083 h1083 ⟨b1083, rfl, sz1083, gb1083, K1083, A1083, B1083⟩
  have ne1084 : a ≠ b1083 := Nat.ne_of_lt (Nat.lt_of_lt_of_le F2.lt sz1083)
  have ne1085 : b ≠ b1083 := Nat.ne_of_lt (Nat.lt_of_lt_of_le A.lt sz1083)
  have sz1086 := Nat.le_trans (Keep.refl _ []).1 sz1083
  have kc1087 := Keep.trans (ws := []) (Keep.refl _ []) K1083 all0
  show W _ _ _ _ _ _ _ _ _ _ _ 1 16 11 #[.val (.ref a)] [(.ref b1083)]
  exact W.areturn d_prog_21_method_5_11 rfl rfl rfl rfl ⟨_, rfl, sz1086, gb1083, kc1087, (show Ary _ _ _ .int [(.int y0), (.int y1), (.int y2), (.int y3), (.int y4), (.int y5)] from A1083)⟩ (by decide) (by decide)
set_option maxRecDepth 65536 in
set_option maxHeartbeats 40000000 in
theorem c_ta7 (l : Launch) (Z : State) (a0 : Array Value) (hw : ∀ d ∈ tables_1, d.before a0 Z = true) (a b : Addr) (y0 y1 y2 y3 y4 y5 y6 y7 : Int32) (h : Heap) (n0 : Nat) (hn : n0 ≤ h.size) (F1 : Fld Z h a "com/example/pathweave/pathweave/eval/IntList" "values" "[I" (.ref b)) (F2 : Fld Z h a "com/example/pathweave/pathweave/eval/IntList" "size" "I" (.int (7 : Int32))) (A : Ary Z h b .int [(.int y0), (.int y1), (.int y2), (.int y3), (.int y4), (.int y5), (.int y6), (.int y7)]) (B : Exa Z h b "[I") : Con l Z (⟨"com/example/pathweave/pathweave/eval/IntList", "toArray", "()[I"⟩ : MethodName) prog_21_method_5_code 1 (some (.array .int)) ({ frames := 2, cells := 1, slots := 16, locals := 130 } : Room) #[(.ref a)] h n0 (fun r h' => ∃ c, r = some (.ref c) ∧ h.size ≤ c ∧ n0 ≤ c ∧ Keep h h' [] ∧ Ary Z h' c .int [(.int y0), (.int y1), (.int y2), (.int y3), (.int y4), (.int y5), (.int y6)]) := by
  refine ConW.of_W (Ls := #[.val (.ref a)]) (plainFor_of_name pn_1) hn (fun m => by first | (simp [entryFrame, mkF, argsToLocals, Value.category]; done) | rfl) ?_
  refine W.aloadN 1 d_prog_21_method_5_0 rfl rfl rfl ?_
  refine W.getfield 4 d_prog_21_method_5_1 rfl (host := "") (Or.inl (wd_11 hw)) Via.refl F1 ?_
  refine W.aloadN 5 d_prog_21_method_5_4 rfl rfl rfl ?_
  refine W.getfield 8 d_prog_21_method_5_5 rfl (host := "") (Or.inl (wd_18 hw)) Via.refl F2 ?_
  refine W.callS (rest := []) (argsL := [(.ref b), (.int (7 : Int32))]) 11 d_prog_21_method_5_8 rfl (fun hn => c_copy l Z a0 hw b (7 : Int32) (8 : Int32) (7 : Int32) _ 7 7 _ n0 hn A rfl (by decide) (by decide) (by decide) (by decide) (by decide) (by decide) (by decide) (Nat.le_of_ble_eq_true rfl) (by decide)) (wd_25 hw) (wd_26 hw) (wd_27 hw) (wd_28 hw) (by decide) pd_1 rfl rfl rfl (by decide) 0 (Nat.le_of_ble_eq_true rfl) (by decide) (by decide) (by decide) ?_
  rintro v1088 h1088 ⟨b1088, rfl, sz1088, gb1088, K1088, A1088, B1088⟩
  have ne1089 : a ≠ b1088 := Nat.ne_of_lt (Nat.lt_of_lt_of_le F2.lt sz1088)
  have ne1090 : b ≠ b1088 := Nat.ne_of_lt (Nat.lt_of_lt_of_le A.lt sz1088)
  have sz1091 := Nat.le_trans (Keep.refl _ []).1 sz1088
  have kc1092 := Keep.trans (ws := []) (Keep.refl _ []) K1088 all0
  show W _ _ _ _ _ _ _ _ _ _ _ 1 16 11 #[.val (.ref a)] [(.ref b1088)]
  exact W.areturn d_prog_21_method_5_11 rfl rfl rfl rfl ⟨_, rfl, sz1091, gb1088, kc1092, (show Ary _ _ _ .int [(.int y0), (.int y1), (.int y2), (.int y3), (.int y4), (.int y5), (.int y6)] from A1088)⟩ (by decide) (by decide)
set_option maxRecDepth 65536 in
set_option maxHeartbeats 40000000 in
theorem c_ta8 (l : Launch) (Z : State) (a0 : Array Value) (hw : ∀ d ∈ tables_1, d.before a0 Z = true) (a b : Addr) (y0 y1 y2 y3 y4 y5 y6 y7 : Int32) (h : Heap) (n0 : Nat) (hn : n0 ≤ h.size) (F1 : Fld Z h a "com/example/pathweave/pathweave/eval/IntList" "values" "[I" (.ref b)) (F2 : Fld Z h a "com/example/pathweave/pathweave/eval/IntList" "size" "I" (.int (8 : Int32))) (A : Ary Z h b .int [(.int y0), (.int y1), (.int y2), (.int y3), (.int y4), (.int y5), (.int y6), (.int y7)]) (B : Exa Z h b "[I") : Con l Z (⟨"com/example/pathweave/pathweave/eval/IntList", "toArray", "()[I"⟩ : MethodName) prog_21_method_5_code 1 (some (.array .int)) ({ frames := 2, cells := 1, slots := 16, locals := 130 } : Room) #[(.ref a)] h n0 (fun r h' => ∃ c, r = some (.ref c) ∧ h.size ≤ c ∧ n0 ≤ c ∧ Keep h h' [] ∧ Ary Z h' c .int [(.int y0), (.int y1), (.int y2), (.int y3), (.int y4), (.int y5), (.int y6), (.int y7)]) := by
  refine ConW.of_W (Ls := #[.val (.ref a)]) (plainFor_of_name pn_1) hn (fun m => by first | (simp [entryFrame, mkF, argsToLocals, Value.category]; done) | rfl) ?_
  refine W.aloadN 1 d_prog_21_method_5_0 rfl rfl rfl ?_
  refine W.getfield 4 d_prog_21_method_5_1 rfl (host := "") (Or.inl (wd_11 hw)) Via.refl F1 ?_
  refine W.aloadN 5 d_prog_21_method_5_4 rfl rfl rfl ?_
  refine W.getfield 8 d_prog_21_method_5_5 rfl (host := "") (Or.inl (wd_18 hw)) Via.refl F2 ?_
  refine W.callS (rest := []) (argsL := [(.ref b), (.int (8 : Int32))]) 11 d_prog_21_method_5_8 rfl (fun hn => c_copyE l Z a0 hw b (8 : Int32) _ _ n0 hn A B rfl (Nat.le_of_ble_eq_true rfl)) (wd_25 hw) (wd_26 hw) (wd_27 hw) (wd_28 hw) (by decide) pd_1 rfl rfl rfl (by decide) 0 (Nat.le_of_ble_eq_true rfl) (by decide) (by decide) (by decide) ?_
  rintro v1093 h1093 ⟨b1093, rfl, sz1093, gb1093, K1093, A1093, B1093⟩
  have ne1094 : a ≠ b1093 := Nat.ne_of_lt (Nat.lt_of_lt_of_le F2.lt sz1093)
  have ne1095 : b ≠ b1093 := Nat.ne_of_lt (Nat.lt_of_lt_of_le A.lt sz1093)
  have sz1096 := Nat.le_trans (Keep.refl _ []).1 sz1093
  have kc1097 := Keep.trans (ws := []) (Keep.refl _ []) K1093 all0
  show W _ _ _ _ _ _ _ _ _ _ _ 1 16 11 #[.val (.ref a)] [(.ref b1093)]
  exact W.areturn d_prog_21_method_5_11 rfl rfl rfl rfl ⟨_, rfl, sz1096, gb1093, kc1097, (show Ary _ _ _ .int [(.int y0), (.int y1), (.int y2), (.int y3), (.int y4), (.int y5), (.int y6), (.int y7)] from A1093)⟩ (by decide) (by decide)
set_option maxRecDepth 65536 in
set_option maxHeartbeats 40000000 in
theorem c_ta9 (l : Launch) (Z : State) (a0 : Array Value) (hw : ∀ d ∈ tables_1, d.before a0 Z = true) (a b : Addr) (y0 y1 y2 y3 y4 y5 y6 y7 y8 y9 y10 y11 y12 y13 y14 y15 : Int32) (h : Heap) (n0 : Nat) (hn : n0 ≤ h.size) (F1 : Fld Z h a "com/example/pathweave/pathweave/eval/IntList" "values" "[I" (.ref b)) (F2 : Fld Z h a "com/example/pathweave/pathweave/eval/IntList" "size" "I" (.int (9 : Int32))) (A : Ary Z h b .int [(.int y0), (.int y1), (.int y2), (.int y3), (.int y4), (.int y5), (.int y6), (.int y7), (.int y8), (.int y9), (.int y10), (.int y11), (.int y12), (.int y13), (.int y14), (.int y15)]) (B : Exa Z h b "[I") : Con l Z (⟨"com/example/pathweave/pathweave/eval/IntList", "toArray", "()[I"⟩ : MethodName) prog_21_method_5_code 1 (some (.array .int)) ({ frames := 2, cells := 1, slots := 16, locals := 130 } : Room) #[(.ref a)] h n0 (fun r h' => ∃ c, r = some (.ref c) ∧ h.size ≤ c ∧ n0 ≤ c ∧ Keep h h' [] ∧ Ary Z h' c .int [(.int y0), (.int y1), (.int y2), (.int y3), (.int y4), (.int y5), (.int y6), (.int y7), (.int y8)]) := by
  refine ConW.of_W (Ls := #[.val (.ref a)]) (plainFor_of_name pn_1) hn (fun m => by first | (simp [entryFrame, mkF, argsToLocals, Value.category]; done) | rfl) ?_
  refine W.aloadN 1 d_prog_21_method_5_0 rfl rfl rfl ?_
  refine W.getfield 4 d_prog_21_method_5_1 rfl (host := "") (Or.inl (wd_11 hw)) Via.refl F1 ?_
  refine W.aloadN 5 d_prog_21_method_5_4 rfl rfl rfl ?_
  refine W.getfield 8 d_prog_21_method_5_5 rfl (host := "") (Or.inl (wd_18 hw)) Via.refl F2 ?_
  refine W.callS (rest := []) (argsL := [(.ref b), (.int (9 : Int32))]) 11 d_prog_21_method_5_8 rfl (fun hn => c_copy l Z a0 hw b (9 : Int32) (16 : Int32) (9 : Int32) _ 9 9 _ n0 hn A rfl (by decide) (by decide) (by decide) (by decide) (by decide) (by decide) (by decide) (Nat.le_of_ble_eq_true rfl) (by decide)) (wd_25 hw) (wd_26 hw) (wd_27 hw) (wd_28 hw) (by decide) pd_1 rfl rfl rfl (by decide) 0 (Nat.le_of_ble_eq_true rfl) (by decide) (by decide) (by decide) ?_
  rintro v1098 h1098 ⟨b1098, rfl, sz1098, gb1098, K1098, A1098, B1098⟩
  have ne1099 : a ≠ b1098 := Nat.ne_of_lt (Nat.lt_of_lt_of_le F2.lt sz1098)
  have ne1100 : b ≠ b1098 := Nat.ne_of_lt (Nat.lt_of_lt_of_le A.lt sz1098)
  have sz1101 := Nat.le_trans (Keep.refl _ []).1 sz1098
  have kc1102 := Keep.trans (ws := []) (Keep.refl _ []) K1098 all0
  show W _ _ _ _ _ _ _ _ _ _ _ 1 16 11 #[.val (.ref a)] [(.ref b1098)]
  exact W.areturn d_prog_21_method_5_11 rfl rfl rfl rfl ⟨_, rfl, sz1101, gb1098, kc1102, (show Ary _ _ _ .int [(.int y0), (.int y1), (.int y2), (.int y3), (.int y4), (.int y5), (.int y6), (.int y7), (.int y8)] from A1098)⟩ (by decide) (by decide)
theorem own_mod10 (x : Int32) : (x &&& 2147483647) % 10 = 0 ∨ (x &&& 2147483647) % 10 = 1 ∨ (x &&& 2147483647) % 10 = 2 ∨ (x &&& 2147483647) % 10 = 3 ∨ (x &&& 2147483647) % 10 = 4 ∨ (x &&& 2147483647) % 10 = 5 ∨ (x &&& 2147483647) % 10 = 6 ∨ (x &&& 2147483647) % 10 = 7 ∨ (x &&& 2147483647) % 10 = 8 ∨ (x &&& 2147483647) % 10 = 9 := by
  have h1 := c_mask x 2147483647 31 (by decide) (by decide)
  have h2 := (c_irem (x &&& 2147483647) 10 10 rfl).1 (by omega)
  have e0 : (0 : Int32).toInt = 0 := rfl
  have e1 : (1 : Int32).toInt = 1 := rfl
  have e2 : (2 : Int32).toInt = 2 := rfl
  have e3 : (3 : Int32).toInt = 3 := rfl
  have e4 : (4 : Int32).toInt = 4 := rfl
  have e5 : (5 : Int32).toInt = 5 := rfl
  have e6 : (6 : Int32).toInt = 6 := rfl
  have e7 : (7 : Int32).toInt = 7 := rfl
  have e8 : (8 : Int32).toInt = 8 := rfl
  have e9 : (9 : Int32).toInt = 9 := rfl
  simp only [← Int32.toInt_inj]
  omega
set_option maxRecDepth 65536 in
set_option maxHeartbeats 40000000 in
theorem law_0 (l : Launch) (Z : State) (a0 : Array Value) (hw : ∀ d ∈ tables_1, d.before a0 Z = true) (p0 p1 p2 p3 p4 p5 : Int32) (h : Heap) (n0 : Nat) (hn : n0 ≤ h.size) (hN : ((p0 &&& (2147483647 : Int32)) % (10 : Int32)) = (0 : Int32)) : ConW tables_1 l Z x code maxLocals ret room_1 #[(.int p0), (.int p1), (.int p2), (.int p3), (.int p4), (.int p5)] h n0 (fun r _ => r = some (.int 1)) := by
  refine ConW.of_W (Ls := #[.val (.int p0), .val (.int p1), .val (.int p2), .val (.int p3), .val (.int p4), .val (.int p5), .unset, .unset, .unset, .unset]) (plainFor_of_name pn_2) hn (fun m => by first | (simp [entryFrame, mkF, argsToLocals, Value.category, maxLocals]; done) | rfl) ?_
  refine W.iloadN 1 at_0 rfl rfl ?_
  refine W.ldcI 3 at_1 rfl (wd_0 hw) ?_
  refine W.iand 4 at_3 rfl (p0 &&& (2147483647 : Int32)) rfl ?_
  refine W.bipush 6 at_4 rfl (10 : Int32) rfl ?_
  refine W.irem 7 at_6 rfl (by decide) (0 : Int32) hN ?_
  refine W.istore 9 at_7 rfl #[.val (.int p0), .val (.int p1), .val (.int p2), .val (.int p3), .val (.int p4), .val (.int p5), .val (.int (0 : Int32)), .unset, .unset, .unset] rfl ?_
  refine W.bipush 11 at_9 rfl (9 : Int32) rfl ?_
  refine W.newarray 13 at_11 rfl (wd_1 hw) rfl (by decide) 9 9 (by decide) (by decide) (by decide) (by decide) (by decide) rfl ?_
  intro h1103 b1103 g1103 ge1103 X1103 K1103 A1103
  have A1103 : Ary _ _ b1103 .int [(.int (0 : Int32)), (.int (0 : Int32)), (.int (0 : Int32)), (.int (0 : Int32)), (.int (0 : Int32)), (.int (0 : Int32)), (.int (0 : Int32)), (.int (0 : Int32)), (.int (0 : Int32))] := A1103
  show W _ _ _ _ _ _ _ _ _ _ _ 1 9 13 #[.val (.int p0), .val (.int p1), .val (.int p2), .val (.int p3), .val (.int p4), .val (.int p5), .val (.int (0 : Int32)), .unset, .unset, .unset] [(.ref b1103)]
  refine W.astore 15 at_13 rfl rfl #[.val (.int p0), .val (.int p1), .val (.int p2), .val (.int p3), .val (.int p4), .val (.int p5), .val (.int (0 : Int32)), .val (.ref b1103), .unset, .unset] rfl ?_
  refine W.aload 17 at_15 rfl rfl rfl ?_
  refine W.iconst 18 at_17 rfl (0 : Int32) rfl ?_
  refine W.iloadN 19 at_18 rfl rfl ?_
  refine W.iastore 20 at_19 rfl A1103 0 (by decide) (by decide) (Nat.le_of_ble_eq_true rfl) ge1103 ?_
  intro h1104 W1104 K1104 A1104
  have A1104 : Ary _ _ b1103 .int [(.int p1), (.int (0 : Int32)), (.int (0 : Int32)), (.int (0 : Int32)), (.int (0 : Int32)), (.int (0 : Int32)), (.int (0 : Int32)), (.int (0 : Int32)), (.int (0 : Int32))] := A1104
  refine W.aload 22 at_20 rfl rfl rfl ?_
  refine W.iconst 23 at_22 rfl (1 : Int32) rfl ?_
  refine W.iloadN 24 at_23 rfl rfl ?_
  refine W.iastore 25 at_24 rfl A1104 1 (by decide) (by decide) (Nat.le_of_ble_eq_true rfl) ge1103 ?_
  intro h1105 W1105 K1105 A1105
  have A1105 : Ary _ _ b1103 .int [(.int p1), (.int p2), (.int (0 : Int32)), (.int (0 : Int32)), (.int (0 : Int32)), (.int (0 : Int32)), (.int (0 : Int32)), (.int (0 : Int32)), (.int (0 : Int32))] := A1105
  refine W.aload 27 at_25 rfl rfl rfl ?_
  refine W.iconst 28 at_27 rfl (2 : Int32) rfl ?_
  refine W.iloadN 29 at_28 rfl rfl ?_
  refine W.iastore 30 at_29 rfl A1105 2 (by decide) (by decide) (Nat.le_of_ble_eq_true rfl) ge1103 ?_
  intro h1106 W1106 K1106 A1106
  have A1106 : Ary _ _ b1103 .int [(.int p1), (.int p2), (.int p3), (.int (0 : Int32)), (.int (0 : Int32)), (.int (0 : Int32)), (.int (0 : Int32)), (.int (0 : Int32)), (.int (0 : Int32))] := A1106
  refine W.aload 32 at_30 rfl rfl rfl ?_
  refine W.iconst 33 at_32 rfl (3 : Int32) rfl ?_
  refine W.iload 35 at_33 rfl rfl ?_
  refine W.iastore 36 at_35 rfl A1106 3 (by decide) (by decide) (Nat.le_of_ble_eq_true rfl) ge1103 ?_
  intro h1107 W1107 K1107 A1107
  have A1107 : Ary _ _ b1103 .int [(.int p1), (.int p2), (.int p3), (.int p4), (.int (0 : Int32)), (.int (0 : Int32)), (.int (0 : Int32)), (.int (0 : Int32)), (.int (0 : Int32))] := A1107
  refine W.aload 38 at_36 rfl rfl rfl ?_
  refine W.iconst 39 at_38 rfl (4 : Int32) rfl ?_
  refine W.iload 41 at_39 rfl rfl ?_
  refine W.iastore 42 at_41 rfl A1107 4 (by decide) (by decide) (Nat.le_of_ble_eq_true rfl) ge1103 ?_
  intro h1108 W1108 K1108 A1108
  have A1108 : Ary _ _ b1103 .int [(.int p1), (.int p2), (.int p3), (.int p4), (.int p5), (.int (0 : Int32)), (.int (0 : Int32)), (.int (0 : Int32)), (.int (0 : Int32))] := A1108
  refine W.aload 44 at_42 rfl rfl rfl ?_
  refine W.iconst 45 at_44 rfl (5 : Int32) rfl ?_
  refine W.iloadN 46 at_45 rfl rfl ?_
  refine W.iloadN 47 at_46 rfl rfl ?_
  refine W.ixor 48 at_47 rfl (p1 ^^^ p2) rfl ?_
  refine W.iastore 49 at_48 rfl A1108 5 (by decide) (by decide) (Nat.le_of_ble_eq_true rfl) ge1103 ?_
  intro h1109 W1109 K1109 A1109
  have A1109 : Ary _ _ b1103 .int [(.int p1), (.int p2), (.int p3), (.int p4), (.int p5), (.int (p1 ^^^ p2)), (.int (0 : Int32)), (.int (0 : Int32)), (.int (0 : Int32))] := A1109
  refine W.aload 51 at_49 rfl rfl rfl ?_
  refine W.bipush 53 at_51 rfl (6 : Int32) rfl ?_
  refine W.iloadN 54 at_53 rfl rfl ?_
  refine W.iconst 55 at_54 rfl (-1 : Int32) rfl ?_
  refine W.ixor 56 at_55 rfl (p3 ^^^ (-1 : Int32)) rfl ?_
  refine W.iastore 57 at_56 rfl A1109 6 (by decide) (by decide) (Nat.le_of_ble_eq_true rfl) ge1103 ?_
  intro h1110 W1110 K1110 A1110
  have A1110 : Ary _ _ b1103 .int [(.int p1), (.int p2), (.int p3), (.int p4), (.int p5), (.int (p1 ^^^ p2)), (.int (p3 ^^^ (-1 : Int32))), (.int (0 : Int32)), (.int (0 : Int32))] := A1110
  refine W.aload 59 at_57 rfl rfl rfl ?_
  refine W.bipush 61 at_59 rfl (7 : Int32) rfl ?_
  refine W.iload 63 at_61 rfl rfl ?_
  refine W.iload 65 at_63 rfl rfl ?_
  refine W.isub 66 at_65 rfl (p4 - p5) rfl ?_
  refine W.iastore 67 at_66 rfl A1110 7 (by decide) (by decide) (Nat.le_of_ble_eq_true rfl) ge1103 ?_
  intro h1111 W1111 K1111 A1111
  have A1111 : Ary _ _ b1103 .int [(.int p1), (.int p2), (.int p3), (.int p4), (.int p5), (.int (p1 ^^^ p2)), (.int (p3 ^^^ (-1 : Int32))), (.int (p4 - p5)), (.int (0 : Int32))] := A1111
  refine W.aload 69 at_67 rfl rfl rfl ?_
  refine W.bipush 71 at_69 rfl (8 : Int32) rfl ?_
  refine W.iloadN 72 at_71 rfl rfl ?_
  refine W.iload 74 at_72 rfl rfl ?_
  refine W.iadd 75 at_74 rfl (p1 + p5) rfl ?_
  refine W.iastore 76 at_75 rfl A1111 8 (by decide) (by decide) (Nat.le_of_ble_eq_true rfl) ge1103 ?_
  intro h1112 W1112 K1112 A1112
  have A1112 : Ary _ _ b1103 .int [(.int p1), (.int p2), (.int p3), (.int p4), (.int p5), (.int (p1 ^^^ p2)), (.int (p3 ^^^ (-1 : Int32))), (.int (p4 - p5)), (.int (p1 + p5))] := A1112
  refine W.new 79 at_76 rfl (wd_2 hw) (wd_3 hw) (wd_4 hw) (by decide) (by decide) ?_
  intro h1113 o1113 g1113 ge1113 X1113 K1113 E1113 D1113
  have ne1114 : b1103 ≠ o1113 := Nat.ne_of_lt (Nat.lt_of_lt_of_eq A1112.lt g1113.symm)
  have f1115 : Fld _ _ o1113 "com/example/pathweave/pathweave/eval/IntList" "values" "[I" .null := D1113 (Or.inl (wd_12 hw)) (ty := (.array .int)) (by decide)
  have f1116 : Fld _ _ o1113 "com/example/pathweave/pathweave/eval/IntList" "size" "I" (.int (0 : Int32)) := D1113 (Or.inl (wd_19 hw)) (ty := .int) (by decide)
  show W _ _ _ _ _ _ _ _ _ _ _ 2 11 79 #[.val (.int p0), .val (.int p1), .val (.int p2), .val (.int p3), .val (.int p4), .val (.int p5), .val (.int (0 : Int32)), .val (.ref b1103), .unset, .unset] [(.ref o1113)]
  refine W.dup 80 at_79 rfl rfl ?_
  refine W.callInit (rest := [(.ref o1113)]) (argsL := []) (a := o1113) 83 at_80 rfl (fun hn => c_init l Z a0 hw o1113 _ n0 hn ge1113 E1113 f1115 f1116) rfl (wd_5 hw) (wd_6 hw) (wd_4 hw) (wd_7 hw) (by decide) pd_2 rfl rfl rfl (by decide) 1 (Nat.le_of_ble_eq_true rfl) (by decide) (by decide) (by decide) ?_
  rintro v1117 h1117 ⟨rfl, b1117, sz1117, gb1117, ne1117, E1117, F1117, G1117, A1117, K1117, B1117⟩
  have q1118 := (A1112.keep K1113 nin0)
  have ne1119 : b1103 ≠ b1117 := Nat.ne_of_lt (Nat.lt_of_lt_of_le q1118.lt sz1117)
  have ne1120 : o1113 ≠ b1117 := Nat.ne_of_lt (Nat.lt_of_lt_of_le E1113.lt sz1117)
  show W _ _ _ _ _ _ _ _ _ _ _ 3 19 83 #[.val (.int p0), .val (.int p1), .val (.int p2), .val (.int p3), .val (.int p4), .val (.int p5), .val (.int (0 : Int32)), .val (.ref b1103), .unset, .unset] [(.ref o1113)]
  refine W.astore 85 at_83 rfl rfl #[.val (.int p0), .val (.int p1), .val (.int p2), .val (.int p3), .val (.int p4), .val (.int p5), .val (.int (0 : Int32)), .val (.ref b1103), .val (.ref o1113), .unset] rfl ?_
  refine W.iload 87 at_85 rfl rfl ?_
  refine W.if_le 99 90 at_87 rfl rfl (fun _ => ?_) (fun hc => absurd hc (by decide))
  refine W.iload 101 at_99 rfl rfl ?_
  refine W.iconst 102 at_101 rfl (1 : Int32) rfl ?_
  refine W.icmp_le 114 105 at_102 rfl rfl (fun _ => ?_) (fun hc => absurd hc (by decide))
  refine W.iload 116 at_114 rfl rfl ?_
  refine W.iconst 117 at_116 rfl (2 : Int32) rfl ?_
  refine W.icmp_le 129 120 at_117 rfl rfl (fun _ => ?_) (fun hc => absurd hc (by decide))
  refine W.iload 131 at_129 rfl rfl ?_
  refine W.iconst 132 at_131 rfl (3 : Int32) rfl ?_
  refine W.icmp_le 144 135 at_132 rfl rfl (fun _ => ?_) (fun hc => absurd hc (by decide))
  refine W.iload 146 at_144 rfl rfl ?_
  refine W.iconst 147 at_146 rfl (4 : Int32) rfl ?_
  refine W.icmp_le 159 150 at_147 rfl rfl (fun _ => ?_) (fun hc => absurd hc (by decide))
  refine W.iload 161 at_159 rfl rfl ?_
  refine W.iconst 162 at_161 rfl (5 : Int32) rfl ?_
  refine W.icmp_le 174 165 at_162 rfl rfl (fun _ => ?_) (fun hc => absurd hc (by decide))
  refine W.iload 176 at_174 rfl rfl ?_
  refine W.bipush 178 at_176 rfl (6 : Int32) rfl ?_
  refine W.icmp_le 191 181 at_178 rfl rfl (fun _ => ?_) (fun hc => absurd hc (by decide))
  refine W.iload 193 at_191 rfl rfl ?_
  refine W.bipush 195 at_193 rfl (7 : Int32) rfl ?_
  refine W.icmp_le 208 198 at_195 rfl rfl (fun _ => ?_) (fun hc => absurd hc (by decide))
  refine W.iload 210 at_208 rfl rfl ?_
  refine W.bipush 212 at_210 rfl (8 : Int32) rfl ?_
  refine W.icmp_le 225 215 at_212 rfl rfl (fun _ => ?_) (fun hc => absurd hc (by decide))
  refine W.aload 227 at_225 rfl rfl rfl ?_
  refine W.callV (rest := []) (argsL := []) (a := o1113) 230 at_227 rfl (fun hn => c_size l Z a0 hw o1113 (0 : Int32) _ n0 hn G1117) E1117 (wd_13 hw) (wd_14 hw) (wd_16 hw) rfl (wd_15 hw) (wd_4 hw) (wd_17 hw) (by decide) pd_3 rfl rfl rfl (by decide) 0 (Nat.le_of_ble_eq_true rfl) (by decide) (by decide) (by decide) ?_
  rintro v1121 h1121 ⟨rfl, rfl⟩
  show W _ _ _ _ _ _ _ _ _ _ _ 3 19 230 #[.val (.int p0), .val (.int p1), .val (.int p2), .val (.int p3), .val (.int p4), .val (.int p5), .val (.int (0 : Int32)), .val (.ref b1103), .val (.ref o1113), .unset] [(.int (0 : Int32))]
  refine W.iload 232 at_230 rfl rfl ?_
  refine W.icmp_eq 237 235 at_232 rfl rfl (fun _ => ?_) (fun hc => absurd (by decide) hc)
  refine W.aload 239 at_237 rfl rfl rfl ?_
  refine W.callV (rest := []) (argsL := []) (a := o1113) 242 at_239 rfl (fun hn => c_ta0 l Z a0 hw o1113 b1117 (0 : Int32) (0 : Int32) (0 : Int32) (0 : Int32) (0 : Int32) (0 : Int32) (0 : Int32) (0 : Int32) _ n0 hn F1117 G1117 A1117 B1117) E1117 (wd_20 hw) (wd_21 hw) (wd_23 hw) rfl (wd_22 hw) (wd_4 hw) (wd_24 hw) (by decide) pd_4 rfl rfl rfl (by decide) 0 (Nat.le_of_ble_eq_true rfl) (by decide) (by decide) (by decide) ?_
  rintro v1122 h1122 ⟨c1122, rfl, sz1122, gb1122, K1122, A1122⟩
  have q1123 := (q1118.keep K1117 (ninS ne1114 nin0))
  have ne1124 : b1103 ≠ c1122 := Nat.ne_of_lt (Nat.lt_of_lt_of_le q1123.lt sz1122)
  have ne1125 : b1117 ≠ c1122 := Nat.ne_of_lt (Nat.lt_of_lt_of_le A1117.lt sz1122)
  have ne1126 : o1113 ≠ c1122 := Nat.ne_of_lt (Nat.lt_of_lt_of_le E1117.lt sz1122)
  show W _ _ _ _ _ _ _ _ _ _ _ 4 35 242 #[.val (.int p0), .val (.int p1), .val (.int p2), .val (.int p3), .val (.int p4), .val (.int p5), .val (.int (0 : Int32)), .val (.ref b1103), .val (.ref o1113), .unset] [(.ref c1122)]
  refine W.astore 244 at_242 rfl rfl #[.val (.int p0), .val (.int p1), .val (.int p2), .val (.int p3), .val (.int p4), .val (.int p5), .val (.int (0 : Int32)), .val (.ref b1103), .val (.ref o1113), .val (.ref c1122)] rfl ?_
  refine W.aload 246 at_244 rfl rfl rfl ?_
  refine W.arraylength 247 at_246 rfl A1122 (0 : Int32) rfl ?_
  refine W.iload 249 at_247 rfl rfl ?_
  refine W.icmp_eq 254 252 at_249 rfl rfl (fun _ => ?_) (fun hc => absurd (by decide) hc)
  refine W.iload 256 at_254 rfl rfl ?_
  refine W.if_le 272 259 at_256 rfl rfl (fun _ => ?_) (fun hc => absurd hc (by decide))
  refine W.iload 274 at_272 rfl rfl ?_
  refine W.iconst 275 at_274 rfl (1 : Int32) rfl ?_
  refine W.icmp_le 291 278 at_275 rfl rfl (fun _ => ?_) (fun hc => absurd hc (by decide))
  refine W.iload 293 at_291 rfl rfl ?_
  refine W.iconst 294 at_293 rfl (2 : Int32) rfl ?_
  refine W.icmp_le 310 297 at_294 rfl rfl (fun _ => ?_) (fun hc => absurd hc (by decide))
  refine W.iload 312 at_310 rfl rfl ?_
  refine W.iconst 313 at_312 rfl (3 : Int32) rfl ?_
  refine W.icmp_le 329 316 at_313 rfl rfl (fun _ => ?_) (fun hc => absurd hc (by decide))
  refine W.iload 331 at_329 rfl rfl ?_
  refine W.iconst 332 at_331 rfl (4 : Int32) rfl ?_
  refine W.icmp_le 348 335 at_332 rfl rfl (fun _ => ?_) (fun hc => absurd hc (by decide))
  refine W.iload 350 at_348 rfl rfl ?_
  refine W.iconst 351 at_350 rfl (5 : Int32) rfl ?_
  refine W.icmp_le 367 354 at_351 rfl rfl (fun _ => ?_) (fun hc => absurd hc (by decide))
  refine W.iload 369 at_367 rfl rfl ?_
  refine W.bipush 371 at_369 rfl (6 : Int32) rfl ?_
  refine W.icmp_le 389 374 at_371 rfl rfl (fun _ => ?_) (fun hc => absurd hc (by decide))
  refine W.iload 391 at_389 rfl rfl ?_
  refine W.bipush 393 at_391 rfl (7 : Int32) rfl ?_
  refine W.icmp_le 411 396 at_393 rfl rfl (fun _ => ?_) (fun hc => absurd hc (by decide))
  refine W.iload 413 at_411 rfl rfl ?_
  refine W.bipush 415 at_413 rfl (8 : Int32) rfl ?_
  refine W.icmp_le 433 418 at_415 rfl rfl (fun _ => ?_) (fun hc => absurd hc (by decide))
  refine W.iconst 434 at_433 rfl (1 : Int32) rfl ?_
  exact W.ireturnN (t := .boolean) at_434 rfl (by simp) (1 : Int32) rfl rfl (by decide) (by decide)
set_option maxRecDepth 65536 in
set_option maxHeartbeats 40000000 in
theorem law_1 (l : Launch) (Z : State) (a0 : Array Value) (hw : ∀ d ∈ tables_1, d.before a0 Z = true) (p0 p1 p2 p3 p4 p5 : Int32) (h : Heap) (n0 : Nat) (hn : n0 ≤ h.size) (hN : ((p0 &&& (2147483647 : Int32)) % (10 : Int32)) = (1 : Int32)) : ConW tables_1 l Z x code maxLocals ret room_1 #[(.int p0), (.int p1), (.int p2), (.int p3), (.int p4), (.int p5)] h n0 (fun r _ => r = some (.int 1)) := by
  refine ConW.of_W (Ls := #[.val (.int p0), .val (.int p1), .val (.int p2), .val (.int p3), .val (.int p4), .val (.int p5), .unset, .unset, .unset, .unset]) (plainFor_of_name pn_2) hn (fun m => by first | (simp [entryFrame, mkF, argsToLocals, Value.category, maxLocals]; done) | rfl) ?_
  refine W.iloadN 1 at_0 rfl rfl ?_
  refine W.ldcI 3 at_1 rfl (wd_0 hw) ?_
  refine W.iand 4 at_3 rfl (p0 &&& (2147483647 : Int32)) rfl ?_
  refine W.bipush 6 at_4 rfl (10 : Int32) rfl ?_
  refine W.irem 7 at_6 rfl (by decide) (1 : Int32) hN ?_
  refine W.istore 9 at_7 rfl #[.val (.int p0), .val (.int p1), .val (.int p2), .val (.int p3), .val (.int p4), .val (.int p5), .val (.int (1 : Int32)), .unset, .unset, .unset] rfl ?_
  refine W.bipush 11 at_9 rfl (9 : Int32) rfl ?_
  refine W.newarray 13 at_11 rfl (wd_1 hw) rfl (by decide) 9 9 (by decide) (by decide) (by decide) (by decide) (by decide) rfl ?_
  intro h1127 b1127 g1127 ge1127 X1127 K1127 A1127
  have A1127 : Ary _ _ b1127 .int [(.int (0 : Int32)), (.int (0 : Int32)), (.int (0 : Int32)), (.int (0 : Int32)), (.int (0 : Int32)), (.int (0 : Int32)), (.int (0 : Int32)), (.int (0 : Int32)), (.int (0 : Int32))] := A1127
  show W _ _ _ _ _ _ _ _ _ _ _ 1 9 13 #[.val (.int p0), .val (.int p1), .val (.int p2), .val (.int p3), .val (.int p4), .val (.int p5), .val (.int (1 : Int32)), .unset, .unset, .unset] [(.ref b1127)]
  refine W.astore 15 at_13 rfl rfl #[.val (.int p0), .val (.int p1), .val (.int p2), .val (.int p3), .val (.int p4), .val (.int p5), .val (.int (1 : Int32)), .val (.ref b1127), .unset, .unset] rfl ?_
  refine W.aload 17 at_15 rfl rfl rfl ?_
  refine W.iconst 18 at_17 rfl (0 : Int32) rfl ?_
  refine W.iloadN 19 at_18 rfl rfl ?_
  refine W.iastore 20 at_19 rfl A1127 0 (by decide) (by decide) (Nat.le_of_ble_eq_true rfl) ge1127 ?_
  intro h1128 W1128 K1128 A1128
  have A1128 : Ary _ _ b1127 .int [(.int p1), (.int (0 : Int32)), (.int (0 : Int32)), (.int (0 : Int32)), (.int (0 : Int32)), (.int (0 : Int32)), (.int (0 : Int32)), (.int (0 : Int32)), (.int (0 : Int32))] := A1128
  refine W.aload 22 at_20 rfl rfl rfl ?_
  refine W.iconst 23 at_22 rfl (1 : Int32) rfl ?_
  refine W.iloadN 24 at_23 rfl rfl ?_
  refine W.iastore 25 at_24 rfl A1128 1 (by decide) (by decide) (Nat.le_of_ble_eq_true rfl) ge1127 ?_
  intro h1129 W1129 K1129 A1129
  have A1129 : Ary _ _ b1127 .int [(.int p1), (.int p2), (.int (0 : Int32)), (.int (0 : Int32)), (.int (0 : Int32)), (.int (0 : Int32)), (.int (0 : Int32)), (.int (0 : Int32)), (.int (0 : Int32))] := A1129
  refine W.aload 27 at_25 rfl rfl rfl ?_
  refine W.iconst 28 at_27 rfl (2 : Int32) rfl ?_
  refine W.iloadN 29 at_28 rfl rfl ?_
  refine W.iastore 30 at_29 rfl A1129 2 (by decide) (by decide) (Nat.le_of_ble_eq_true rfl) ge1127 ?_
  intro h1130 W1130 K1130 A1130
  have A1130 : Ary _ _ b1127 .int [(.int p1), (.int p2), (.int p3), (.int (0 : Int32)), (.int (0 : Int32)), (.int (0 : Int32)), (.int (0 : Int32)), (.int (0 : Int32)), (.int (0 : Int32))] := A1130
  refine W.aload 32 at_30 rfl rfl rfl ?_
  refine W.iconst 33 at_32 rfl (3 : Int32) rfl ?_
  refine W.iload 35 at_33 rfl rfl ?_
  refine W.iastore 36 at_35 rfl A1130 3 (by decide) (by decide) (Nat.le_of_ble_eq_true rfl) ge1127 ?_
  intro h1131 W1131 K1131 A1131
  have A1131 : Ary _ _ b1127 .int [(.int p1), (.int p2), (.int p3), (.int p4), (.int (0 : Int32)), (.int (0 : Int32)), (.int (0 : Int32)), (.int (0 : Int32)), (.int (0 : Int32))] := A1131
  refine W.aload 38 at_36 rfl rfl rfl ?_
  refine W.iconst 39 at_38 rfl (4 : Int32) rfl ?_
  refine W.iload 41 at_39 rfl rfl ?_
  refine W.iastore 42 at_41 rfl A1131 4 (by decide) (by decide) (Nat.le_of_ble_eq_true rfl) ge1127 ?_
  intro h1132 W1132 K1132 A1132
  have A1132 : Ary _ _ b1127 .int [(.int p1), (.int p2), (.int p3), (.int p4), (.int p5), (.int (0 : Int32)), (.int (0 : Int32)), (.int (0 : Int32)), (.int (0 : Int32))] := A1132
  refine W.aload 44 at_42 rfl rfl rfl ?_
  refine W.iconst 45 at_44 rfl (5 : Int32) rfl ?_
  refine W.iloadN 46 at_45 rfl rfl ?_
  refine W.iloadN 47 at_46 rfl rfl ?_
  refine W.ixor 48 at_47 rfl (p1 ^^^ p2) rfl ?_
  refine W.iastore 49 at_48 rfl A1132 5 (by decide) (by decide) (Nat.le_of_ble_eq_true rfl) ge1127 ?_
  intro h1133 W1133 K1133 A1133
  have A1133 : Ary _ _ b1127 .int [(.int p1), (.int p2), (.int p3), (.int p4), (.int p5), (.int (p1 ^^^ p2)), (.int (0 : Int32)), (.int (0 : Int32)), (.int (0 : Int32))] := A1133
  refine W.aload 51 at_49 rfl rfl rfl ?_
  refine W.bipush 53 at_51 rfl (6 : Int32) rfl ?_
  refine W.iloadN 54 at_53 rfl rfl ?_
  refine W.iconst 55 at_54 rfl (-1 : Int32) rfl ?_
  refine W.ixor 56 at_55 rfl (p3 ^^^ (-1 : Int32)) rfl ?_
  refine W.iastore 57 at_56 rfl A1133 6 (by decide) (by decide) (Nat.le_of_ble_eq_true rfl) ge1127 ?_
  intro h1134 W1134 K1134 A1134
  have A1134 : Ary _ _ b1127 .int [(.int p1), (.int p2), (.int p3), (.int p4), (.int p5), (.int (p1 ^^^ p2)), (.int (p3 ^^^ (-1 : Int32))), (.int (0 : Int32)), (.int (0 : Int32))] := A1134
  refine W.aload 59 at_57 rfl rfl rfl ?_
  refine W.bipush 61 at_59 rfl (7 : Int32) rfl ?_
  refine W.iload 63 at_61 rfl rfl ?_
  refine W.iload 65 at_63 rfl rfl ?_
  refine W.isub 66 at_65 rfl (p4 - p5) rfl ?_
  refine W.iastore 67 at_66 rfl A1134 7 (by decide) (by decide) (Nat.le_of_ble_eq_true rfl) ge1127 ?_
  intro h1135 W1135 K1135 A1135
  have A1135 : Ary _ _ b1127 .int [(.int p1), (.int p2), (.int p3), (.int p4), (.int p5), (.int (p1 ^^^ p2)), (.int (p3 ^^^ (-1 : Int32))), (.int (p4 - p5)), (.int (0 : Int32))] := A1135
  refine W.aload 69 at_67 rfl rfl rfl ?_
  refine W.bipush 71 at_69 rfl (8 : Int32) rfl ?_
  refine W.iloadN 72 at_71 rfl rfl ?_
  refine W.iload 74 at_72 rfl rfl ?_
  refine W.iadd 75 at_74 rfl (p1 + p5) rfl ?_
  refine W.iastore 76 at_75 rfl A1135 8 (by decide) (by decide) (Nat.le_of_ble_eq_true rfl) ge1127 ?_
  intro h1136 W1136 K1136 A1136
  have A1136 : Ary _ _ b1127 .int [(.int p1), (.int p2), (.int p3), (.int p4), (.int p5), (.int (p1 ^^^ p2)), (.int (p3 ^^^ (-1 : Int32))), (.int (p4 - p5)), (.int (p1 + p5))] := A1136
  refine W.new 79 at_76 rfl (wd_2 hw) (wd_3 hw) (wd_4 hw) (by decide) (by decide) ?_
  intro h1137 o1137 g1137 ge1137 X1137 K1137 E1137 D1137
  have ne1138 : b1127 ≠ o1137 := Nat.ne_of_lt (Nat.lt_of_lt_of_eq A1136.lt g1137.symm)
  have f1139 : Fld _ _ o1137 "com/example/pathweave/pathweave/eval/IntList" "values" "[I" .null := D1137 (Or.inl (wd_12 hw)) (ty := (.array .int)) (by decide)
  have f1140 : Fld _ _ o1137 "com/example/pathweave/pathweave/eval/IntList" "size" "I" (.int (0 : Int32)) := D1137 (Or.inl (wd_19 hw)) (ty := .int) (by decide)
  show W _ _ _ _ _ _ _ _ _ _ _ 2 11 79 #[.val (.int p0), .val (.int p1), .val (.int p2), .val (.int p3), .val (.int p4), .val (.int p5), .val (.int (1 : Int32)), .val (.ref b1127), .unset, .unset] [(.ref o1137)]
  refine W.dup 80 at_79 rfl rfl ?_
  refine W.callInit (rest := [(.ref o1137)]) (argsL := []) (a := o1137) 83 at_80 rfl (fun hn => c_init l Z a0 hw o1137 _ n0 hn ge1137 E1137 f1139 f1140) rfl (wd_5 hw) (wd_6 hw) (wd_4 hw) (wd_7 hw) (by decide) pd_2 rfl rfl rfl (by decide) 1 (Nat.le_of_ble_eq_true rfl) (by decide) (by decide) (by decide) ?_
  rintro v1141 h1141 ⟨rfl, b1141, sz1141, gb1141, ne1141, E1141, F1141, G1141, A1141, K1141, B1141⟩
  have q1142 := (A1136.keep K1137 nin0)
  have ne1143 : b1127 ≠ b1141 := Nat.ne_of_lt (Nat.lt_of_lt_of_le q1142.lt sz1141)
  have ne1144 : o1137 ≠ b1141 := Nat.ne_of_lt (Nat.lt_of_lt_of_le E1137.lt sz1141)
  show W _ _ _ _ _ _ _ _ _ _ _ 3 19 83 #[.val (.int p0), .val (.int p1), .val (.int p2), .val (.int p3), .val (.int p4), .val (.int p5), .val (.int (1 : Int32)), .val (.ref b1127), .unset, .unset] [(.ref o1137)]
  refine W.astore 85 at_83 rfl rfl #[.val (.int p0), .val (.int p1), .val (.int p2), .val (.int p3), .val (.int p4), .val (.int p5), .val (.int (1 : Int32)), .val (.ref b1127), .val (.ref o1137), .unset] rfl ?_
  refine W.iload 87 at_85 rfl rfl ?_
  refine W.if_le 99 90 at_87 rfl rfl (fun hc => absurd (by decide) hc) (fun _ => ?_)
  refine W.aload 92 at_90 rfl rfl rfl ?_
  refine W.aload 94 at_92 rfl rfl rfl ?_
  refine W.iconst 95 at_94 rfl (0 : Int32) rfl ?_
  have q1145 := (q1142.keep K1141 (ninS ne1138 nin0))
  refine W.iaload 96 at_95 rfl q1145 0 (by decide) (by decide) (.int p1) rfl ?_
  refine W.callV (rest := []) (argsL := [(.int p1)]) (a := o1137) 99 at_96 rfl (fun hn => c_add l Z a0 hw o1137 b1141 p1 (0 : Int32) (8 : Int32) _ 0 _ n0 hn ge1137 gb1141 ne1141 E1141 F1141 G1141 A1141 rfl (by decide) (by decide) (by decide) (Nat.le_of_ble_eq_true rfl)) E1141 (wd_37 hw) (wd_38 hw) (wd_40 hw) rfl (wd_39 hw) (wd_4 hw) (wd_41 hw) (by decide) pd_5 rfl rfl rfl (by decide) 0 (Nat.le_of_ble_eq_true rfl) (by decide) (by decide) (by decide) ?_
  rintro v1146 h1146 ⟨rfl, E1146, F1146, G1146, A1146, K1146⟩
  show W _ _ _ _ _ _ _ _ _ _ _ 3 19 99 #[.val (.int p0), .val (.int p1), .val (.int p2), .val (.int p3), .val (.int p4), .val (.int p5), .val (.int (1 : Int32)), .val (.ref b1127), .val (.ref o1137), .unset] []
  refine W.iload 101 at_99 rfl rfl ?_
  refine W.iconst 102 at_101 rfl (1 : Int32) rfl ?_
  refine W.icmp_le 114 105 at_102 rfl rfl (fun _ => ?_) (fun hc => absurd hc (by decide))
  refine W.iload 116 at_114 rfl rfl ?_
  refine W.iconst 117 at_116 rfl (2 : Int32) rfl ?_
  refine W.icmp_le 129 120 at_117 rfl rfl (fun _ => ?_) (fun hc => absurd hc (by decide))
  refine W.iload 131 at_129 rfl rfl ?_
  refine W.iconst 132 at_131 rfl (3 : Int32) rfl ?_
  refine W.icmp_le 144 135 at_132 rfl rfl (fun _ => ?_) (fun hc => absurd hc (by decide))
  refine W.iload 146 at_144 rfl rfl ?_
  refine W.iconst 147 at_146 rfl (4 : Int32) rfl ?_
  refine W.icmp_le 159 150 at_147 rfl rfl (fun _ => ?_) (fun hc => absurd hc (by decide))
  refine W.iload 161 at_159 rfl rfl ?_
  refine W.iconst 162 at_161 rfl (5 : Int32) rfl ?_
  refine W.icmp_le 174 165 at_162 rfl rfl (fun _ => ?_) (fun hc => absurd hc (by decide))
  refine W.iload 176 at_174 rfl rfl ?_
  refine W.bipush 178 at_176 rfl (6 : Int32) rfl ?_
  refine W.icmp_le 191 181 at_178 rfl rfl (fun _ => ?_) (fun hc => absurd hc (by decide))
  refine W.iload 193 at_191 rfl rfl ?_
  refine W.bipush 195 at_193 rfl (7 : Int32) rfl ?_
  refine W.icmp_le 208 198 at_195 rfl rfl (fun _ => ?_) (fun hc => absurd hc (by decide))
  refine W.iload 210 at_208 rfl rfl ?_
  refine W.bipush 212 at_210 rfl (8 : Int32) rfl ?_
  refine W.icmp_le 225 215 at_212 rfl rfl (fun _ => ?_) (fun hc => absurd hc (by decide))
  refine W.aload 227 at_225 rfl rfl rfl ?_
  refine W.callV (rest := []) (argsL := []) (a := o1137) 230 at_227 rfl (fun hn => c_size l Z a0 hw o1137 (1 : Int32) _ n0 hn (show Fld _ _ _ _ _ _ (.int (1 : Int32)) from G1146)) E1146 (wd_13 hw) (wd_14 hw) (wd_16 hw) rfl (wd_15 hw) (wd_4 hw) (wd_17 hw) (by decide) pd_3 rfl rfl rfl (by decide) 0 (Nat.le_of_ble_eq_true rfl) (by decide) (by decide) (by decide) ?_
  rintro v1147 h1147 ⟨rfl, rfl⟩
  show W _ _ _ _ _ _ _ _ _ _ _ 3 19 230 #[.val (.int p0), .val (.int p1), .val (.int p2), .val (.int p3), .val (.int p4), .val (.int p5), .val (.int (1 : Int32)), .val (.ref b1127), .val (.ref o1137), .unset] [(.int (1 : Int32))]
  refine W.iload 232 at_230 rfl rfl ?_
  refine W.icmp_eq 237 235 at_232 rfl rfl (fun _ => ?_) (fun hc => absurd (by decide) hc)
  refine W.aload 239 at_237 rfl rfl rfl ?_
  have q1148 := (B1141.keep K1146)
  refine W.callV (rest := []) (argsL := []) (a := o1137) 242 at_239 rfl (fun hn => c_ta1 l Z a0 hw o1137 b1141 p1 (0 : Int32) (0 : Int32) (0 : Int32) (0 : Int32) (0 : Int32) (0 : Int32) (0 : Int32) _ n0 hn F1146 (show Fld _ _ _ _ _ _ (.int (1 : Int32)) from G1146) (show Ary _ _ _ .int [(.int p1), (.int (0 : Int32)), (.int (0 : Int32)), (.int (0 : Int32)), (.int (0 : Int32)), (.int (0 : Int32)), (.int (0 : Int32)), (.int (0 : Int32))] from A1146) q1148) E1146 (wd_20 hw) (wd_21 hw) (wd_23 hw) rfl (wd_22 hw) (wd_4 hw) (wd_24 hw) (by decide) pd_4 rfl rfl rfl (by decide) 0 (Nat.le_of_ble_eq_true rfl) (by decide) (by decide) (by decide) ?_
  rintro v1149 h1149 ⟨c1149, rfl, sz1149, gb1149, K1149, A1149⟩
  have q1150 := (q1145.keep K1146 (ninS ne1138 (ninS ne1143 nin0)))
  have ne1151 : b1127 ≠ c1149 := Nat.ne_of_lt (Nat.lt_of_lt_of_le q1150.lt sz1149)
  have ne1152 : b1141 ≠ c1149 := Nat.ne_of_lt (Nat.lt_of_lt_of_le (show Ary _ _ _ .int [(.int p1), (.int (0 : Int32)), (.int (0 : Int32)), (.int (0 : Int32)), (.int (0 : Int32)), (.int (0 : Int32)), (.int (0 : Int32)), (.int (0 : Int32))] from A1146).lt sz1149)
  have ne1153 : o1137 ≠ c1149 := Nat.ne_of_lt (Nat.lt_of_lt_of_le E1146.lt sz1149)
  show W _ _ _ _ _ _ _ _ _ _ _ 4 35 242 #[.val (.int p0), .val (.int p1), .val (.int p2), .val (.int p3), .val (.int p4), .val (.int p5), .val (.int (1 : Int32)), .val (.ref b1127), .val (.ref o1137), .unset] [(.ref c1149)]
  refine W.astore 244 at_242 rfl rfl #[.val (.int p0), .val (.int p1), .val (.int p2), .val (.int p3), .val (.int p4), .val (.int p5), .val (.int (1 : Int32)), .val (.ref b1127), .val (.ref o1137), .val (.ref c1149)] rfl ?_
  refine W.aload 246 at_244 rfl rfl rfl ?_
  refine W.arraylength 247 at_246 rfl A1149 (1 : Int32) rfl ?_
  refine W.iload 249 at_247 rfl rfl ?_
  refine W.icmp_eq 254 252 at_249 rfl rfl (fun _ => ?_) (fun hc => absurd (by decide) hc)
  refine W.iload 256 at_254 rfl rfl ?_
  refine W.if_le 272 259 at_256 rfl rfl (fun hc => absurd (by decide) hc) (fun _ => ?_)
  refine W.aload 261 at_259 rfl rfl rfl ?_
  refine W.iconst 262 at_261 rfl (0 : Int32) rfl ?_
  refine W.iaload 263 at_262 rfl A1149 0 (by decide) (by decide) (.int p1) rfl ?_
  refine W.aload 265 at_263 rfl rfl rfl ?_
  refine W.iconst 266 at_265 rfl (0 : Int32) rfl ?_
  have q1154 := (q1150.keep K1149 nin0)
  refine W.iaload 267 at_266 rfl q1154 0 (by decide) (by decide) (.int p1) rfl ?_
  refine W.icmp_eq 272 270 at_267 rfl rfl (fun _ => ?_) (fun hc => absurd rfl hc)
  refine W.iload 274 at_272 rfl rfl ?_
  refine W.iconst 275 at_274 rfl (1 : Int32) rfl ?_
  refine W.icmp_le 291 278 at_275 rfl rfl (fun _ => ?_) (fun hc => absurd hc (by decide))
  refine W.iload 293 at_291 rfl rfl ?_
  refine W.iconst 294 at_293 rfl (2 : Int32) rfl ?_
  refine W.icmp_le 310 297 at_294 rfl rfl (fun _ => ?_) (fun hc => absurd hc (by decide))
  refine W.iload 312 at_310 rfl rfl ?_
  refine W.iconst 313 at_312 rfl (3 : Int32) rfl ?_
  refine W.icmp_le 329 316 at_313 rfl rfl (fun _ => ?_) (fun hc => absurd hc (by decide))
  refine W.iload 331 at_329 rfl rfl ?_
  refine W.iconst 332 at_331 rfl (4 : Int32) rfl ?_
  refine W.icmp_le 348 335 at_332 rfl rfl (fun _ => ?_) (fun hc => absurd hc (by decide))
  refine W.iload 350 at_348 rfl rfl ?_
  refine W.iconst 351 at_350 rfl (5 : Int32) rfl ?_
  refine W.icmp_le 367 354 at_351 rfl rfl (fun _ => ?_) (fun hc => absurd hc (by decide))
  refine W.iload 369 at_367 rfl rfl ?_
  refine W.bipush 371 at_369 rfl (6 : Int32) rfl ?_
  refine W.icmp_le 389 374 at_371 rfl rfl (fun _ => ?_) (fun hc => absurd hc (by decide))
  refine W.iload 391 at_389 rfl rfl ?_
  refine W.bipush 393 at_391 rfl (7 : Int32) rfl ?_
  refine W.icmp_le 411 396 at_393 rfl rfl (fun _ => ?_) (fun hc => absurd hc (by decide))
  refine W.iload 413 at_411 rfl rfl ?_
  refine W.bipush 415 at_413 rfl (8 : Int32) rfl ?_
  refine W.icmp_le 433 418 at_415 rfl rfl (fun _ => ?_) (fun hc => absurd hc (by decide))
  refine W.iconst 434 at_433 rfl (1 : Int32) rfl ?_
  exact W.ireturnN (t := .boolean) at_434 rfl (by simp) (1 : Int32) rfl rfl (by decide) (by decide)
set_option maxRecDepth 65536 in
set_option maxHeartbeats 40000000 in
theorem law_2 (l : Launch) (Z : State) (a0 : Array Value) (hw : ∀ d ∈ tables_1, d.before a0 Z = true) (p0 p1 p2 p3 p4 p5 : Int32) (h : Heap) (n0 : Nat) (hn : n0 ≤ h.size) (hN : ((p0 &&& (2147483647 : Int32)) % (10 : Int32)) = (2 : Int32)) : ConW tables_1 l Z x code maxLocals ret room_1 #[(.int p0), (.int p1), (.int p2), (.int p3), (.int p4), (.int p5)] h n0 (fun r _ => r = some (.int 1)) := by
  refine ConW.of_W (Ls := #[.val (.int p0), .val (.int p1), .val (.int p2), .val (.int p3), .val (.int p4), .val (.int p5), .unset, .unset, .unset, .unset]) (plainFor_of_name pn_2) hn (fun m => by first | (simp [entryFrame, mkF, argsToLocals, Value.category, maxLocals]; done) | rfl) ?_
  refine W.iloadN 1 at_0 rfl rfl ?_
  refine W.ldcI 3 at_1 rfl (wd_0 hw) ?_
  refine W.iand 4 at_3 rfl (p0 &&& (2147483647 : Int32)) rfl ?_
  refine W.bipush 6 at_4 rfl (10 : Int32) rfl ?_
  refine W.irem 7 at_6 rfl (by decide) (2 : Int32) hN ?_
  refine W.istore 9 at_7 rfl #[.val (.int p0), .val (.int p1), .val (.int p2), .val (.int p3), .val (.int p4), .val (.int p5), .val (.int (2 : Int32)), .unset, .unset, .unset] rfl ?_
  refine W.bipush 11 at_9 rfl (9 : Int32) rfl ?_
  refine W.newarray 13 at_11 rfl (wd_1 hw) rfl (by decide) 9 9 (by decide) (by decide) (by decide) (by decide) (by decide) rfl ?_
  intro h1155 b1155 g1155 ge1155 X1155 K1155 A1155
  have A1155 : Ary _ _ b1155 .int [(.int (0 : Int32)), (.int (0 : Int32)), (.int (0 : Int32)), (.int (0 : Int32)), (.int (0 : Int32)), (.int (0 : Int32)), (.int (0 : Int32)), (.int (0 : Int32)), (.int (0 : Int32))] := A1155
  show W _ _ _ _ _ _ _ _ _ _ _ 1 9 13 #[.val (.int p0), .val (.int p1), .val (.int p2), .val (.int p3), .val (.int p4), .val (.int p5), .val (.int (2 : Int32)), .unset, .unset, .unset] [(.ref b1155)]
  refine W.astore 15 at_13 rfl rfl #[.val (.int p0), .val (.int p1), .val (.int p2), .val (.int p3), .val (.int p4), .val (.int p5), .val (.int (2 : Int32)), .val (.ref b1155), .unset, .unset] rfl ?_
  refine W.aload 17 at_15 rfl rfl rfl ?_
  refine W.iconst 18 at_17 rfl (0 : Int32) rfl ?_
  refine W.iloadN 19 at_18 rfl rfl ?_
  refine W.iastore 20 at_19 rfl A1155 0 (by decide) (by decide) (Nat.le_of_ble_eq_true rfl) ge1155 ?_
  intro h1156 W1156 K1156 A1156
  have A1156 : Ary _ _ b1155 .int [(.int p1), (.int (0 : Int32)), (.int (0 : Int32)), (.int (0 : Int32)), (.int (0 : Int32)), (.int (0 : Int32)), (.int (0 : Int32)), (.int (0 : Int32)), (.int (0 : Int32))] := A1156
  refine W.aload 22 at_20 rfl rfl rfl ?_
  refine W.iconst 23 at_22 rfl (1 : Int32) rfl ?_
  refine W.iloadN 24 at_23 rfl rfl ?_
  refine W.iastore 25 at_24 rfl A1156 1 (by decide) (by decide) (Nat.le_of_ble_eq_true rfl) ge1155 ?_
  intro h1157 W1157 K1157 A1157
  have A1157 : Ary _ _ b1155 .int [(.int p1), (.int p2), (.int (0 : Int32)), (.int (0 : Int32)), (.int (0 : Int32)), (.int (0 : Int32)), (.int (0 : Int32)), (.int (0 : Int32)), (.int (0 : Int32))] := A1157
  refine W.aload 27 at_25 rfl rfl rfl ?_
  refine W.iconst 28 at_27 rfl (2 : Int32) rfl ?_
  refine W.iloadN 29 at_28 rfl rfl ?_
  refine W.iastore 30 at_29 rfl A1157 2 (by decide) (by decide) (Nat.le_of_ble_eq_true rfl) ge1155 ?_
  intro h1158 W1158 K1158 A1158
  have A1158 : Ary _ _ b1155 .int [(.int p1), (.int p2), (.int p3), (.int (0 : Int32)), (.int (0 : Int32)), (.int (0 : Int32)), (.int (0 : Int32)), (.int (0 : Int32)), (.int (0 : Int32))] := A1158
  refine W.aload 32 at_30 rfl rfl rfl ?_
  refine W.iconst 33 at_32 rfl (3 : Int32) rfl ?_
  refine W.iload 35 at_33 rfl rfl ?_
  refine W.iastore 36 at_35 rfl A1158 3 (by decide) (by decide) (Nat.le_of_ble_eq_true rfl) ge1155 ?_
  intro h1159 W1159 K1159 A1159
  have A1159 : Ary _ _ b1155 .int [(.int p1), (.int p2), (.int p3), (.int p4), (.int (0 : Int32)), (.int (0 : Int32)), (.int (0 : Int32)), (.int (0 : Int32)), (.int (0 : Int32))] := A1159
  refine W.aload 38 at_36 rfl rfl rfl ?_
  refine W.iconst 39 at_38 rfl (4 : Int32) rfl ?_
  refine W.iload 41 at_39 rfl rfl ?_
  refine W.iastore 42 at_41 rfl A1159 4 (by decide) (by decide) (Nat.le_of_ble_eq_true rfl) ge1155 ?_
  intro h1160 W1160 K1160 A1160
  have A1160 : Ary _ _ b1155 .int [(.int p1), (.int p2), (.int p3), (.int p4), (.int p5), (.int (0 : Int32)), (.int (0 : Int32)), (.int (0 : Int32)), (.int (0 : Int32))] := A1160
  refine W.aload 44 at_42 rfl rfl rfl ?_
  refine W.iconst 45 at_44 rfl (5 : Int32) rfl ?_
  refine W.iloadN 46 at_45 rfl rfl ?_
  refine W.iloadN 47 at_46 rfl rfl ?_
  refine W.ixor 48 at_47 rfl (p1 ^^^ p2) rfl ?_
  refine W.iastore 49 at_48 rfl A1160 5 (by decide) (by decide) (Nat.le_of_ble_eq_true rfl) ge1155 ?_
  intro h1161 W1161 K1161 A1161
  have A1161 : Ary _ _ b1155 .int [(.int p1), (.int p2), (.int p3), (.int p4), (.int p5), (.int (p1 ^^^ p2)), (.int (0 : Int32)), (.int (0 : Int32)), (.int (0 : Int32))] := A1161
  refine W.aload 51 at_49 rfl rfl rfl ?_
  refine W.bipush 53 at_51 rfl (6 : Int32) rfl ?_
  refine W.iloadN 54 at_53 rfl rfl ?_
  refine W.iconst 55 at_54 rfl (-1 : Int32) rfl ?_
  refine W.ixor 56 at_55 rfl (p3 ^^^ (-1 : Int32)) rfl ?_
  refine W.iastore 57 at_56 rfl A1161 6 (by decide) (by decide) (Nat.le_of_ble_eq_true rfl) ge1155 ?_
  intro h1162 W1162 K1162 A1162
  have A1162 : Ary _ _ b1155 .int [(.int p1), (.int p2), (.int p3), (.int p4), (.int p5), (.int (p1 ^^^ p2)), (.int (p3 ^^^ (-1 : Int32))), (.int (0 : Int32)), (.int (0 : Int32))] := A1162
  refine W.aload 59 at_57 rfl rfl rfl ?_
  refine W.bipush 61 at_59 rfl (7 : Int32) rfl ?_
  refine W.iload 63 at_61 rfl rfl ?_
  refine W.iload 65 at_63 rfl rfl ?_
  refine W.isub 66 at_65 rfl (p4 - p5) rfl ?_
  refine W.iastore 67 at_66 rfl A1162 7 (by decide) (by decide) (Nat.le_of_ble_eq_true rfl) ge1155 ?_
  intro h1163 W1163 K1163 A1163
  have A1163 : Ary _ _ b1155 .int [(.int p1), (.int p2), (.int p3), (.int p4), (.int p5), (.int (p1 ^^^ p2)), (.int (p3 ^^^ (-1 : Int32))), (.int (p4 - p5)), (.int (0 : Int32))] := A1163
  refine W.aload 69 at_67 rfl rfl rfl ?_
  refine W.bipush 71 at_69 rfl (8 : Int32) rfl ?_
  refine W.iloadN 72 at_71 rfl rfl ?_
  refine W.iload 74 at_72 rfl rfl ?_
  refine W.iadd 75 at_74 rfl (p1 + p5) rfl ?_
  refine W.iastore 76 at_75 rfl A1163 8 (by decide) (by decide) (Nat.le_of_ble_eq_true rfl) ge1155 ?_
  intro h1164 W1164 K1164 A1164
  have A1164 : Ary _ _ b1155 .int [(.int p1), (.int p2), (.int p3), (.int p4), (.int p5), (.int (p1 ^^^ p2)), (.int (p3 ^^^ (-1 : Int32))), (.int (p4 - p5)), (.int (p1 + p5))] := A1164
  refine W.new 79 at_76 rfl (wd_2 hw) (wd_3 hw) (wd_4 hw) (by decide) (by decide) ?_
  intro h1165 o1165 g1165 ge1165 X1165 K1165 E1165 D1165
  have ne1166 : b1155 ≠ o1165 := Nat.ne_of_lt (Nat.lt_of_lt_of_eq A1164.lt g1165.symm)
  have f1167 : Fld _ _ o1165 "com/example/pathweave/pathweave/eval/IntList" "values" "[I" .null := D1165 (Or.inl (wd_12 hw)) (ty := (.array .int)) (by decide)
  have f1168 : Fld _ _ o1165 "com/example/pathweave/pathweave/eval/IntList" "size" "I" (.int (0 : Int32)) := D1165 (Or.inl (wd_19 hw)) (ty := .int) (by decide)
  show W _ _ _ _ _ _ _ _ _ _ _ 2 11 79 #[.val (.int p0), .val (.int p1), .val (.int p2), .val (.int p3), .val (.int p4), .val (.int p5), .val (.int (2 : Int32)), .val (.ref b1155), .unset, .unset] [(.ref o1165)]
  refine W.dup 80 at_79 rfl rfl ?_
  refine W.callInit (rest := [(.ref o1165)]) (argsL := []) (a := o1165) 83 at_80 rfl (fun hn => c_init l Z a0 hw o1165 _ n0 hn ge1165 E1165 f1167 f1168) rfl (wd_5 hw) (wd_6 hw) (wd_4 hw) (wd_7 hw) (by decide) pd_2 rfl rfl rfl (by decide) 1 (Nat.le_of_ble_eq_true rfl) (by decide) (by decide) (by decide) ?_
  rintro v1169 h1169 ⟨rfl, b1169, sz1169, gb1169, ne1169, E1169, F1169, G1169, A1169, K1169, B1169⟩
  have q1170 := (A1164.keep K1165 nin0)
  have ne1171 : b1155 ≠ b1169 := Nat.ne_of_lt (Nat.lt_of_lt_of_le q1170.lt sz1169)
  have ne1172 : o1165 ≠ b1169 := Nat.ne_of_lt (Nat.lt_of_lt_of_le E1165.lt sz1169)
  show W _ _ _ _ _ _ _ _ _ _ _ 3 19 83 #[.val (.int p0), .val (.int p1), .val (.int p2), .val (.int p3), .val (.int p4), .val (.int p5), .val (.int (2 : Int32)), .val (.ref b1155), .unset, .unset] [(.ref o1165)]
  refine W.astore 85 at_83 rfl rfl #[.val (.int p0), .val (.int p1), .val (.int p2), .val (.int p3), .val (.int p4), .val (.int p5), .val (.int (2 : Int32)), .val (.ref b1155), .val (.ref o1165), .unset] rfl ?_
  refine W.iload 87 at_85 rfl rfl ?_
  refine W.if_le 99 90 at_87 rfl rfl (fun hc => absurd (by decide) hc) (fun _ => ?_)
  refine W.aload 92 at_90 rfl rfl rfl ?_
  refine W.aload 94 at_92 rfl rfl rfl ?_
  refine W.iconst 95 at_94 rfl (0 : Int32) rfl ?_
  have q1173 := (q1170.keep K1169 (ninS ne1166 nin0))
  refine W.iaload 96 at_95 rfl q1173 0 (by decide) (by decide) (.int p1) rfl ?_
  refine W.callV (rest := []) (argsL := [(.int p1)]) (a := o1165) 99 at_96 rfl (fun hn => c_add l Z a0 hw o1165 b1169 p1 (0 : Int32) (8 : Int32) _ 0 _ n0 hn ge1165 gb1169 ne1169 E1169 F1169 G1169 A1169 rfl (by decide) (by decide) (by decide) (Nat.le_of_ble_eq_true rfl)) E1169 (wd_37 hw) (wd_38 hw) (wd_40 hw) rfl (wd_39 hw) (wd_4 hw) (wd_41 hw) (by decide) pd_5 rfl rfl rfl (by decide) 0 (Nat.le_of_ble_eq_true rfl) (by decide) (by decide) (by decide) ?_
  rintro v1174 h1174 ⟨rfl, E1174, F1174, G1174, A1174, K1174⟩
  show W _ _ _ _ _ _ _ _ _ _ _ 3 19 99 #[.val (.int p0), .val (.int p1), .val (.int p2), .val (.int p3), .val (.int p4), .val (.int p5), .val (.int (2 : Int32)), .val (.ref b1155), .val (.ref o1165), .unset] []
  refine W.iload 101 at_99 rfl rfl ?_
  refine W.iconst 102 at_101 rfl (1 : Int32) rfl ?_
  refine W.icmp_le 114 105 at_102 rfl rfl (fun hc => absurd (by decide) hc) (fun _ => ?_)
  refine W.aload 107 at_105 rfl rfl rfl ?_
  refine W.aload 109 at_107 rfl rfl rfl ?_
  refine W.iconst 110 at_109 rfl (1 : Int32) rfl ?_
  have q1175 := (q1173.keep K1174 (ninS ne1166 (ninS ne1171 nin0)))
  refine W.iaload 111 at_110 rfl q1175 1 (by decide) (by decide) (.int p2) rfl ?_
  refine W.callV (rest := []) (argsL := [(.int p2)]) (a := o1165) 114 at_111 rfl (fun hn => c_add l Z a0 hw o1165 b1169 p2 (1 : Int32) (8 : Int32) _ 1 _ n0 hn ge1165 gb1169 ne1169 E1174 F1174 (show Fld _ _ _ _ _ _ (.int (1 : Int32)) from G1174) (show Ary _ _ _ .int [(.int p1), (.int (0 : Int32)), (.int (0 : Int32)), (.int (0 : Int32)), (.int (0 : Int32)), (.int (0 : Int32)), (.int (0 : Int32)), (.int (0 : Int32))] from A1174) rfl (by decide) (by decide) (by decide) (Nat.le_of_ble_eq_true rfl)) E1174 (wd_37 hw) (wd_38 hw) (wd_40 hw) rfl (wd_39 hw) (wd_4 hw) (wd_41 hw) (by decide) pd_5 rfl rfl rfl (by decide) 0 (Nat.le_of_ble_eq_true rfl) (by decide) (by decide) (by decide) ?_
  rintro v1176 h1176 ⟨rfl, E1176, F1176, G1176, A1176, K1176⟩
  show W _ _ _ _ _ _ _ _ _ _ _ 3 19 114 #[.val (.int p0), .val (.int p1), .val (.int p2), .val (.int p3), .val (.int p4), .val (.int p5), .val (.int (2 : Int32)), .val (.ref b1155), .val (.ref o1165), .unset] []
  refine W.iload 116 at_114 rfl rfl ?_
  refine W.iconst 117 at_116 rfl (2 : Int32) rfl ?_
  refine W.icmp_le 129 120 at_117 rfl rfl (fun _ => ?_) (fun hc => absurd hc (by decide))
  refine W.iload 131 at_129 rfl rfl ?_
  refine W.iconst 132 at_131 rfl (3 : Int32) rfl ?_
  refine W.icmp_le 144 135 at_132 rfl rfl (fun _ => ?_) (fun hc => absurd hc (by decide))
  refine W.iload 146 at_144 rfl rfl ?_
  refine W.iconst 147 at_146 rfl (4 : Int32) rfl ?_
  refine W.icmp_le 159 150 at_147 rfl rfl (fun _ => ?_) (fun hc => absurd hc (by decide))
  refine W.iload 161 at_159 rfl rfl ?_
  refine W.iconst 162 at_161 rfl (5 : Int32) rfl ?_
  refine W.icmp_le 174 165 at_162 rfl rfl (fun _ => ?_) (fun hc => absurd hc (by decide))
  refine W.iload 176 at_174 rfl rfl ?_
  refine W.bipush 178 at_176 rfl (6 : Int32) rfl ?_
  refine W.icmp_le 191 181 at_178 rfl rfl (fun _ => ?_) (fun hc => absurd hc (by decide))
  refine W.iload 193 at_191 rfl rfl ?_
  refine W.bipush 195 at_193 rfl (7 : Int32) rfl ?_
  refine W.icmp_le 208 198 at_195 rfl rfl (fun _ => ?_) (fun hc => absurd hc (by decide))
  refine W.iload 210 at_208 rfl rfl ?_
  refine W.bipush 212 at_210 rfl (8 : Int32) rfl ?_
  refine W.icmp_le 225 215 at_212 rfl rfl (fun _ => ?_) (fun hc => absurd hc (by decide))
  refine W.aload 227 at_225 rfl rfl rfl ?_
  refine W.callV (rest := []) (argsL := []) (a := o1165) 230 at_227 rfl (fun hn => c_size l Z a0 hw o1165 (2 : Int32) _ n0 hn (show Fld _ _ _ _ _ _ (.int (2 : Int32)) from G1176)) E1176 (wd_13 hw) (wd_14 hw) (wd_16 hw) rfl (wd_15 hw) (wd_4 hw) (wd_17 hw) (by decide) pd_3 rfl rfl rfl (by decide) 0 (Nat.le_of_ble_eq_true rfl) (by decide) (by decide) (by decide) ?_
  rintro v1177 h1177 ⟨rfl, rfl⟩
  show W _ _ _ _ _ _ _ _ _ _ _ 3 19 230 #[.val (.int p0), .val (.int p1), .val (.int p2), .val (.int p3), .val (.int p4), .val (.int p5), .val (.int (2 : Int32)), .val (.ref b1155), .val (.ref o1165), .unset] [(.int (2 : Int32))]
  refine W.iload 232 at_230 rfl rfl ?_
  refine W.icmp_eq 237 235 at_232 rfl rfl (fun _ => ?_) (fun hc => absurd (by decide) hc)
  refine W.aload 239 at_237 rfl rfl rfl ?_
  have q1178 := ((B1169.keep K1174).keep K1176)
  refine W.callV (rest := []) (argsL := []) (a := o1165) 242 at_239 rfl (fun hn => c_ta2 l Z a0 hw o1165 b1169 p1 p2 (0 : Int32) (0 : Int32) (0 : Int32) (0 : Int32) (0 : Int32) (0 : Int32) _ n0 hn F1176 (show Fld _ _ _ _ _ _ (.int (2 : Int32)) from G1176) (show Ary _ _ _ .int [(.int p1), (.int p2), (.int (0 : Int32)), (.int (0 : Int32)), (.int (0 : Int32)), (.int (0 : Int32)), (.int (0 : Int32)), (.int (0 : Int32))] from A1176) q1178) E1176 (wd_20 hw) (wd_21 hw) (wd_23 hw) rfl (wd_22 hw) (wd_4 hw) (wd_24 hw) (by decide) pd_4 rfl rfl rfl (by decide) 0 (Nat.le_of_ble_eq_true rfl) (by decide) (by decide) (by decide) ?_
  rintro v1179 h1179 ⟨c1179, rfl, sz1179, gb1179, K1179, A1179⟩
  have q1180 := (q1175.keep K1176 (ninS ne1166 (ninS ne1171 nin0)))
  have ne1181 : b1155 ≠ c1179 := Nat.ne_of_lt (Nat.lt_of_lt_of_le q1180.lt sz1179)
  have ne1182 : b1169 ≠ c1179 := Nat.ne_of_lt (Nat.lt_of_lt_of_le (show Ary _ _ _ .int [(.int p1), (.int p2), (.int (0 : Int32)), (.int (0 : Int32)), (.int (0 : Int32)), (.int (0 : Int32)), (.int (0 : Int32)), (.int (0 : Int32))] from A1176).lt sz1179)
  have ne1183 : o1165 ≠ c1179 := Nat.ne_of_lt (Nat.lt_of_lt_of_le E1176.lt sz1179)
  show W _ _ _ _ _ _ _ _ _ _ _ 4 35 242 #[.val (.int p0), .val (.int p1), .val (.int p2), .val (.int p3), .val (.int p4), .val (.int p5), .val (.int (2 : Int32)), .val (.ref b1155), .val (.ref o1165), .unset] [(.ref c1179)]
  refine W.astore 244 at_242 rfl rfl #[.val (.int p0), .val (.int p1), .val (.int p2), .val (.int p3), .val (.int p4), .val (.int p5), .val (.int (2 : Int32)), .val (.ref b1155), .val (.ref o1165), .val (.ref c1179)] rfl ?_
  refine W.aload 246 at_244 rfl rfl rfl ?_
  refine W.arraylength 247 at_246 rfl A1179 (2 : Int32) rfl ?_
  refine W.iload 249 at_247 rfl rfl ?_
  refine W.icmp_eq 254 252 at_249 rfl rfl (fun _ => ?_) (fun hc => absurd (by decide) hc)
  refine W.iload 256 at_254 rfl rfl ?_
  refine W.if_le 272 259 at_256 rfl rfl (fun hc => absurd (by decide) hc) (fun _ => ?_)
  refine W.aload 261 at_259 rfl rfl rfl ?_
  refine W.iconst 262 at_261 rfl (0 : Int32) rfl ?_
  refine W.iaload 263 at_262 rfl A1179 0 (by decide) (by decide) (.int p1) rfl ?_
  refine W.aload 265 at_263 rfl rfl rfl ?_
  refine W.iconst 266 at_265 rfl (0 : Int32) rfl ?_
  have q1184 := (q1180.keep K1179 nin0)
  refine W.iaload 267 at_266 rfl q1184 0 (by decide) (by decide) (.int p1) rfl ?_
  refine W.icmp_eq 272 270 at_267 rfl rfl (fun _ => ?_) (fun hc => absurd rfl hc)
  refine W.iload 274 at_272 rfl rfl ?_
  refine W.iconst 275 at_274 rfl (1 : Int32) rfl ?_
  refine W.icmp_le 291 278 at_275 rfl rfl (fun hc => absurd (by decide) hc) (fun _ => ?_)
  refine W.aload 280 at_278 rfl rfl rfl ?_
  refine W.iconst 281 at_280 rfl (1 : Int32) rfl ?_
  refine W.iaload 282 at_281 rfl A1179 1 (by decide) (by decide) (.int p2) rfl ?_
  refine W.aload 284 at_282 rfl rfl rfl ?_
  refine W.iconst 285 at_284 rfl (1 : Int32) rfl ?_
  refine W.iaload 286 at_285 rfl q1184 1 (by decide) (by decide) (.int p2) rfl ?_
  refine W.icmp_eq 291 289 at_286 rfl rfl (fun _ => ?_) (fun hc => absurd rfl hc)
  refine W.iload 293 at_291 rfl rfl ?_
  refine W.iconst 294 at_293 rfl (2 : Int32) rfl ?_
  refine W.icmp_le 310 297 at_294 rfl rfl (fun _ => ?_) (fun hc => absurd hc (by decide))
  refine W.iload 312 at_310 rfl rfl ?_
  refine W.iconst 313 at_312 rfl (3 : Int32) rfl ?_
  refine W.icmp_le 329 316 at_313 rfl rfl (fun _ => ?_) (fun hc => absurd hc (by decide))
  refine W.iload 331 at_329 rfl rfl ?_
  refine W.iconst 332 at_331 rfl (4 : Int32) rfl ?_
  refine W.icmp_le 348 335 at_332 rfl rfl (fun _ => ?_) (fun hc => absurd hc (by decide))
  refine W.iload 350 at_348 rfl rfl ?_
  refine W.iconst 351 at_350 rfl (5 : Int32) rfl ?_
  refine W.icmp_le 367 354 at_351 rfl rfl (fun _ => ?_) (fun hc => absurd hc (by decide))
  refine W.iload 369 at_367 rfl rfl ?_
  refine W.bipush 371 at_369 rfl (6 : Int32) rfl ?_
  refine W.icmp_le 389 374 at_371 rfl rfl (fun _ => ?_) (fun hc => absurd hc (by decide))
  refine W.iload 391 at_389 rfl rfl ?_
  refine W.bipush 393 at_391 rfl (7 : Int32) rfl ?_
  refine W.icmp_le 411 396 at_393 rfl rfl (fun _ => ?_) (fun hc => absurd hc (by decide))
  refine W.iload 413 at_411 rfl rfl ?_
  refine W.bipush 415 at_413 rfl (8 : Int32) rfl ?_
  refine W.icmp_le 433 418 at_415 rfl rfl (fun _ => ?_) (fun hc => absurd hc (by decide))
  refine W.iconst 434 at_433 rfl (1 : Int32) rfl ?_
  exact W.ireturnN (t := .boolean) at_434 rfl (by simp) (1 : Int32) rfl rfl (by decide) (by decide)
set_option maxRecDepth 65536 in
set_option maxHeartbeats 40000000 in
theorem law_3 (l : Launch) (Z : State) (a0 : Array Value) (hw : ∀ d ∈ tables_1, d.before a0 Z = true) (p0 p1 p2 p3 p4 p5 : Int32) (h : Heap) (n0 : Nat) (hn : n0 ≤ h.size) (hN : ((p0 &&& (2147483647 : Int32)) % (10 : Int32)) = (3 : Int32)) : ConW tables_1 l Z x code maxLocals ret room_1 #[(.int p0), (.int p1), (.int p2), (.int p3), (.int p4), (.int p5)] h n0 (fun r _ => r = some (.int 1)) := by
  refine ConW.of_W (Ls := #[.val (.int p0), .val (.int p1), .val (.int p2), .val (.int p3), .val (.int p4), .val (.int p5), .unset, .unset, .unset, .unset]) (plainFor_of_name pn_2) hn (fun m => by first | (simp [entryFrame, mkF, argsToLocals, Value.category, maxLocals]; done) | rfl) ?_
  refine W.iloadN 1 at_0 rfl rfl ?_
  refine W.ldcI 3 at_1 rfl (wd_0 hw) ?_
  refine W.iand 4 at_3 rfl (p0 &&& (2147483647 : Int32)) rfl ?_
  refine W.bipush 6 at_4 rfl (10 : Int32) rfl ?_
  refine W.irem 7 at_6 rfl (by decide) (3 : Int32) hN ?_
  refine W.istore 9 at_7 rfl #[.val (.int p0), .val (.int p1), .val (.int p2), .val (.int p3), .val (.int p4), .val (.int p5), .val (.int (3 : Int32)), .unset, .unset, .unset] rfl ?_
  refine W.bipush 11 at_9 rfl (9 : Int32) rfl ?_
  refine W.newarray 13 at_11 rfl (wd_1 hw) rfl (by decide) 9 9 (by decide) (by decide) (by decide) (by decide) (by decide) rfl ?_
  intro h1185 b1185 g1185 ge1185 X1185 K1185 A1185
  have A1185 : Ary _ _ b1185 .int [(.int (0 : Int32)), (.int (0 : Int32)), (.int (0 : Int32)), (.int (0 : Int32)), (.int (0 : Int32)), (.int (0 : Int32)), (.int (0 : Int32)), (.int (0 : Int32)), (.int (0 : Int32))] := A1185
  show W _ _ _ _ _ _ _ _ _ _ _ 1 9 13 #[.val (.int p0), .val (.int p1), .val (.int p2), .val (.int p3), .val (.int p4), .val (.int p5), .val (.int (3 : Int32)), .unset, .unset, .unset] [(.ref b1185)]
  refine W.astore 15 at_13 rfl rfl #[.val (.int p0), .val (.int p1), .val (.int p2), .val (.int p3), .val (.int p4), .val (.int p5), .val (.int (3 : Int32)), .val (.ref b1185), .unset, .unset] rfl ?_
  refine W.aload 17 at_15 rfl rfl rfl ?_
  refine W.iconst 18 at_17 rfl (0 : Int32) rfl ?_
  refine W.iloadN 19 at_18 rfl rfl ?_
  refine W.iastore 20 at_19 rfl A1185 0 (by decide) (by decide) (Nat.le_of_ble_eq_true rfl) ge1185 ?_
  intro h1186 W1186 K1186 A1186
  have A1186 : Ary _ _ b1185 .int [(.int p1), (.int (0 : Int32)), (.int (0 : Int32)), (.int (0 : Int32)), (.int (0 : Int32)), (.int (0 : Int32)), (.int (0 : Int32)), (.int (0 : Int32)), (.int (0 : Int32))] := A1186
  refine W.aload 22 at_20 rfl rfl rfl ?_
  refine W.iconst 23 at_22 rfl (1 : Int32) rfl ?_
  refine W.iloadN 24 at_23 rfl rfl ?_
  refine W.iastore 25 at_24 rfl A1186 1 (by decide) (by decide) (Nat.le_of_ble_eq_true rfl) ge1185 ?_
  intro h1187 W1187 K1187 A1187
  have A1187 : Ary _ _ b1185 .int [(.int p1), (.int p2), (.int (0 : Int32)), (.int (0 : Int32)), (.int (0 : Int32)), (.int (0 : Int32)), (.int (0 : Int32)), (.int (0 : Int32)), (.int (0 : Int32))] := A1187
  refine W.aload 27 at_25 rfl rfl rfl ?_
  refine W.iconst 28 at_27 rfl (2 : Int32) rfl ?_
  refine W.iloadN 29 at_28 rfl rfl ?_
  refine W.iastore 30 at_29 rfl A1187 2 (by decide) (by decide) (Nat.le_of_ble_eq_true rfl) ge1185 ?_
  intro h1188 W1188 K1188 A1188
  have A1188 : Ary _ _ b1185 .int [(.int p1), (.int p2), (.int p3), (.int (0 : Int32)), (.int (0 : Int32)), (.int (0 : Int32)), (.int (0 : Int32)), (.int (0 : Int32)), (.int (0 : Int32))] := A1188
  refine W.aload 32 at_30 rfl rfl rfl ?_
  refine W.iconst 33 at_32 rfl (3 : Int32) rfl ?_
  refine W.iload 35 at_33 rfl rfl ?_
  refine W.iastore 36 at_35 rfl A1188 3 (by decide) (by decide) (Nat.le_of_ble_eq_true rfl) ge1185 ?_
  intro h1189 W1189 K1189 A1189
  have A1189 : Ary _ _ b1185 .int [(.int p1), (.int p2), (.int p3), (.int p4), (.int (0 : Int32)), (.int (0 : Int32)), (.int (0 : Int32)), (.int (0 : Int32)), (.int (0 : Int32))] := A1189
  refine W.aload 38 at_36 rfl rfl rfl ?_
  refine W.iconst 39 at_38 rfl (4 : Int32) rfl ?_
  refine W.iload 41 at_39 rfl rfl ?_
  refine W.iastore 42 at_41 rfl A1189 4 (by decide) (by decide) (Nat.le_of_ble_eq_true rfl) ge1185 ?_
  intro h1190 W1190 K1190 A1190
  have A1190 : Ary _ _ b1185 .int [(.int p1), (.int p2), (.int p3), (.int p4), (.int p5), (.int (0 : Int32)), (.int (0 : Int32)), (.int (0 : Int32)), (.int (0 : Int32))] := A1190
  refine W.aload 44 at_42 rfl rfl rfl ?_
  refine W.iconst 45 at_44 rfl (5 : Int32) rfl ?_
  refine W.iloadN 46 at_45 rfl rfl ?_
  refine W.iloadN 47 at_46 rfl rfl ?_
  refine W.ixor 48 at_47 rfl (p1 ^^^ p2) rfl ?_
  refine W.iastore 49 at_48 rfl A1190 5 (by decide) (by decide) (Nat.le_of_ble_eq_true rfl) ge1185 ?_
  intro h1191 W1191 K1191 A1191
  have A1191 : Ary _ _ b1185 .int [(.int p1), (.int p2), (.int p3), (.int p4), (.int p5), (.int (p1 ^^^ p2)), (.int (0 : Int32)), (.int (0 : Int32)), (.int (0 : Int32))] := A1191
  refine W.aload 51 at_49 rfl rfl rfl ?_
  refine W.bipush 53 at_51 rfl (6 : Int32) rfl ?_
  refine W.iloadN 54 at_53 rfl rfl ?_
  refine W.iconst 55 at_54 rfl (-1 : Int32) rfl ?_
  refine W.ixor 56 at_55 rfl (p3 ^^^ (-1 : Int32)) rfl ?_
  refine W.iastore 57 at_56 rfl A1191 6 (by decide) (by decide) (Nat.le_of_ble_eq_true rfl) ge1185 ?_
  intro h1192 W1192 K1192 A1192
  have A1192 : Ary _ _ b1185 .int [(.int p1), (.int p2), (.int p3), (.int p4), (.int p5), (.int (p1 ^^^ p2)), (.int (p3 ^^^ (-1 : Int32))), (.int (0 : Int32)), (.int (0 : Int32))] := A1192
  refine W.aload 59 at_57 rfl rfl rfl ?_
  refine W.bipush 61 at_59 rfl (7 : Int32) rfl ?_
  refine W.iload 63 at_61 rfl rfl ?_
  refine W.iload 65 at_63 rfl rfl ?_
  refine W.isub 66 at_65 rfl (p4 - p5) rfl ?_
  refine W.iastore 67 at_66 rfl A1192 7 (by decide) (by decide) (Nat.le_of_ble_eq_true rfl) ge1185 ?_
  intro h1193 W1193 K1193 A1193
  have A1193 : Ary _ _ b1185 .int [(.int p1), (.int p2), (.int p3), (.int p4), (.int p5), (.int (p1 ^^^ p2)), (.int (p3 ^^^ (-1 : Int32))), (.int (p4 - p5)), (.int (0 : Int32))] := A1193
  refine W.aload 69 at_67 rfl rfl rfl ?_
  refine W.bipush 71 at_69 rfl (8 : Int32) rfl ?_
  refine W.iloadN 72 at_71 rfl rfl ?_
  refine W.iload 74 at_72 rfl rfl ?_
  refine W.iadd 75 at_74 rfl (p1 + p5) rfl ?_
  refine W.iastore 76 at_75 rfl A1193 8 (by decide) (by decide) (Nat.le_of_ble_eq_true rfl) ge1185 ?_
  intro h1194 W1194 K1194 A1194
  have A1194 : Ary _ _ b1185 .int [(.int p1), (.int p2), (.int p3), (.int p4), (.int p5), (.int (p1 ^^^ p2)), (.int (p3 ^^^ (-1 : Int32))), (.int (p4 - p5)), (.int (p1 + p5))] := A1194
  refine W.new 79 at_76 rfl (wd_2 hw) (wd_3 hw) (wd_4 hw) (by decide) (by decide) ?_
  intro h1195 o1195 g1195 ge1195 X1195 K1195 E1195 D1195
  have ne1196 : b1185 ≠ o1195 := Nat.ne_of_lt (Nat.lt_of_lt_of_eq A1194.lt g1195.symm)
  have f1197 : Fld _ _ o1195 "com/example/pathweave/pathweave/eval/IntList" "values" "[I" .null := D1195 (Or.inl (wd_12 hw)) (ty := (.array .int)) (by decide)
  have f1198 : Fld _ _ o1195 "com/example/pathweave/pathweave/eval/IntList" "size" "I" (.int (0 : Int32)) := D1195 (Or.inl (wd_19 hw)) (ty := .int) (by decide)
  show W _ _ _ _ _ _ _ _ _ _ _ 2 11 79 #[.val (.int p0), .val (.int p1), .val (.int p2), .val (.int p3), .val (.int p4), .val (.int p5), .val (.int (3 : Int32)), .val (.ref b1185), .unset, .unset] [(.ref o1195)]
  refine W.dup 80 at_79 rfl rfl ?_
  refine W.callInit (rest := [(.ref o1195)]) (argsL := []) (a := o1195) 83 at_80 rfl (fun hn => c_init l Z a0 hw o1195 _ n0 hn ge1195 E1195 f1197 f1198) rfl (wd_5 hw) (wd_6 hw) (wd_4 hw) (wd_7 hw) (by decide) pd_2 rfl rfl rfl (by decide) 1 (Nat.le_of_ble_eq_true rfl) (by decide) (by decide) (by decide) ?_
  rintro v1199 h1199 ⟨rfl, b1199, sz1199, gb1199, ne1199, E1199, F1199, G1199, A1199, K1199, B1199⟩
  have q1200 := (A1194.keep K1195 nin0)
  have ne1201 : b1185 ≠ b1199 := Nat.ne_of_lt (Nat.lt_of_lt_of_le q1200.lt sz1199)
  have ne1202 : o1195 ≠ b1199 := Nat.ne_of_lt (Nat.lt_of_lt_of_le E1195.lt sz1199)
  show W _ _ _ _ _ _ _ _ _ _ _ 3 19 83 #[.val (.int p0), .val (.int p1), .val (.int p2), .val (.int p3), .val (.int p4), .val (.int p5), .val (.int (3 : Int32)), .val (.ref b1185), .unset, .unset] [(.ref o1195)]
  refine W.astore 85 at_83 rfl rfl #[.val (.int p0), .val (.int p1), .val (.int p2), .val (.int p3), .val (.int p4), .val (.int p5), .val (.int (3 : Int32)), .val (.ref b1185), .val (.ref o1195), .unset] rfl ?_
  refine W.iload 87 at_85 rfl rfl ?_
  refine W.if_le 99 90 at_87 rfl rfl (fun hc => absurd (by decide) hc) (fun _ => ?_)
  refine W.aload 92 at_90 rfl rfl rfl ?_
  refine W.aload 94 at_92 rfl rfl rfl ?_
  refine W.iconst 95 at_94 rfl (0 : Int32) rfl ?_
  have q1203 := (q1200.keep K1199 (ninS ne1196 nin0))
  refine W.iaload 96 at_95 rfl q1203 0 (by decide) (by decide) (.int p1) rfl ?_
  refine W.callV (rest := []) (argsL := [(.int p1)]) (a := o1195) 99 at_96 rfl (fun hn => c_add l Z a0 hw o1195 b1199 p1 (0 : Int32) (8 : Int32) _ 0 _ n0 hn ge1195 gb1199 ne1199 E1199 F1199 G1199 A1199 rfl (by decide) (by decide) (by decide) (Nat.le_of_ble_eq_true rfl)) E1199 (wd_37 hw) (wd_38 hw) (wd_40 hw) rfl (wd_39 hw) (wd_4 hw) (wd_41 hw) (by decide) pd_5 rfl rfl rfl (by decide) 0 (Nat.le_of_ble_eq_true rfl) (by decide) (by decide) (by decide) ?_
  rintro v1204 h1204 ⟨rfl, E1204, F1204, G1204, A1204, K1204⟩
  show W _ _ _ _ _ _ _ _ _ _ _ 3 19 99 #[.val (.int p0), .val (.int p1), .val (.int p2), .val (.int p3), .val (.int p4), .val (.int p5), .val (.int (3 : Int32)), .val (.ref b1185), .val (.ref o1195), .unset] []
  refine W.iload 101 at_99 rfl rfl ?_
  refine W.iconst 102 at_101 rfl (1 : Int32) rfl ?_
  refine W.icmp_le 114 105 at_102 rfl rfl (fun hc => absurd (by decide) hc) (fun _ => ?_)
  refine W.aload 107 at_105 rfl rfl rfl ?_
  refine W.aload 109 at_107 rfl rfl rfl ?_
  refine W.iconst 110 at_109 rfl (1 : Int32) rfl ?_
  have q1205 := (q1203.keep K1204 (ninS ne1196 (ninS ne1201 nin0)))
  refine W.iaload 111 at_110 rfl q1205 1 (by decide) (by decide) (.int p2) rfl ?_
  refine W.callV (rest := []) (argsL := [(.int p2)]) (a := o1195) 114 at_111 rfl (fun hn => c_add l Z a0 hw o1195 b1199 p2 (1 : Int32) (8 : Int32) _ 1 _ n0 hn ge1195 gb1199 ne1199 E1204 F1204 (show Fld _ _ _ _ _ _ (.int (1 : Int32)) from G1204) (show Ary _ _ _ .int [(.int p1), (.int (0 : Int32)), (.int (0 : Int32)), (.int (0 : Int32)), (.int (0 : Int32)), (.int (0 : Int32)), (.int (0 : Int32)), (.int (0 : Int32))] from A1204) rfl (by decide) (by decide) (by decide) (Nat.le_of_ble_eq_true rfl)) E1204 (wd_37 hw) (wd_38 hw) (wd_40 hw) rfl (wd_39 hw) (wd_4 hw) (wd_41 hw) (by decide) pd_5 rfl rfl rfl (by decide) 0 (Nat.le_of_ble_eq_true rfl) (by decide) (by decide) (by decide) ?_
  rintro v1206 h1206 ⟨rfl, E1206, F1206, G1206, A1206, K1206⟩
  show W _ _ _ _ _ _ _ _ _ _ _ 3 19 114 #[.val (.int p0), .val (.int p1), .val (.int p2), .val (.int p3), .val (.int p4), .val (.int p5), .val (.int (3 : Int32)), .val (.ref b1185), .val (.ref o1195), .unset] []
  refine W.iload 116 at_114 rfl rfl ?_
  refine W.iconst 117 at_116 rfl (2 : Int32) rfl ?_
  refine W.icmp_le 129 120 at_117 rfl rfl (fun hc => absurd (by decide) hc) (fun _ => ?_)
  refine W.aload 122 at_120 rfl rfl rfl ?_
  refine W.aload 124 at_122 rfl rfl rfl ?_
  refine W.iconst 125 at_124 rfl (2 : Int32) rfl ?_
  have q1207 := (q1205.keep K1206 (ninS ne1196 (ninS ne1201 nin0)))
  refine W.iaload 126 at_125 rfl q1207 2 (by decide) (by decide) (.int p3) rfl ?_
  refine W.callV (rest := []) (argsL := [(.int p3)]) (a := o1195) 129 at_126 rfl (fun hn => c_add l Z a0 hw o1195 b1199 p3 (2 : Int32) (8 : Int32) _ 2 _ n0 hn ge1195 gb1199 ne1199 E1206 F1206 (show Fld _ _ _ _ _ _ (.int (2 : Int32)) from G1206) (show Ary _ _ _ .int [(.int p1), (.int p2), (.int (0 : Int32)), (.int (0 : Int32)), (.int (0 : Int32)), (.int (0 : Int32)), (.int (0 : Int32)), (.int (0 : Int32))] from A1206) rfl (by decide) (by decide) (by decide) (Nat.le_of_ble_eq_true rfl)) E1206 (wd_37 hw) (wd_38 hw) (wd_40 hw) rfl (wd_39 hw) (wd_4 hw) (wd_41 hw) (by decide) pd_5 rfl rfl rfl (by decide) 0 (Nat.le_of_ble_eq_true rfl) (by decide) (by decide) (by decide) ?_
  rintro v1208 h1208 ⟨rfl, E1208, F1208, G1208, A1208, K1208⟩
  show W _ _ _ _ _ _ _ _ _ _ _ 3 19 129 #[.val (.int p0), .val (.int p1), .val (.int p2), .val (.int p3), .val (.int p4), .val (.int p5), .val (.int (3 : Int32)), .val (.ref b1185), .val (.ref o1195), .unset] []
  refine W.iload 131 at_129 rfl rfl ?_
  refine W.iconst 132 at_131 rfl (3 : Int32) rfl ?_
  refine W.icmp_le 144 135 at_132 rfl rfl (fun _ => ?_) (fun hc => absurd hc (by decide))
  refine W.iload 146 at_144 rfl rfl ?_
  refine W.iconst 147 at_146 rfl (4 : Int32) rfl ?_
  refine W.icmp_le 159 150 at_147 rfl rfl (fun _ => ?_) (fun hc => absurd hc (by decide))
  refine W.iload 161 at_159 rfl rfl ?_
  refine W.iconst 162 at_161 rfl (5 : Int32) rfl ?_
  refine W.icmp_le 174 165 at_162 rfl rfl (fun _ => ?_) (fun hc => absurd hc (by decide))
  refine W.iload 176 at_174 rfl rfl ?_
  refine W.bipush 178 at_176 rfl (6 : Int32) rfl ?_
  refine W.icmp_le 191 181 at_178 rfl rfl (fun _ => ?_) (fun hc => absurd hc (by decide))
  refine W.iload 193 at_191 rfl rfl ?_
  refine W.bipush 195 at_193 rfl (7 : Int32) rfl ?_
  refine W.icmp_le 208 198 at_195 rfl rfl (fun _ => ?_) (fun hc => absurd hc (by decide))
  refine W.iload 210 at_208 rfl rfl ?_
  refine W.bipush 212 at_210 rfl (8 : Int32) rfl ?_
  refine W.icmp_le 225 215 at_212 rfl rfl (fun _ => ?_) (fun hc => absurd hc (by decide))
  refine W.aload 227 at_225 rfl rfl rfl ?_
  refine W.callV (rest := []) (argsL := []) (a := o1195) 230 at_227 rfl (fun hn => c_size l Z a0 hw o1195 (3 : Int32) _ n0 hn (show Fld _ _ _ _ _ _ (.int (3 : Int32)) from G1208)) E1208 (wd_13 hw) (wd_14 hw) (wd_16 hw) rfl (wd_15 hw) (wd_4 hw) (wd_17 hw) (by decide) pd_3 rfl rfl rfl (by decide) 0 (Nat.le_of_ble_eq_true rfl) (by decide) (by decide) (by decide) ?_
  rintro v1209 h1209 ⟨rfl, rfl⟩
  show W _ _ _ _ _ _ _ _ _ _ _ 3 19 230 #[.val (.int p0), .val (.int p1), .val (.int p2), .val (.int p3), .val (.int p4), .val (.int p5), .val (.int (3 : Int32)), .val (.ref b1185), .val (.ref o1195), .unset] [(.int (3 : Int32))]
  refine W.iload 232 at_230 rfl rfl ?_
  refine W.icmp_eq 237 235 at_232 rfl rfl (fun _ => ?_) (fun hc => absurd (by decide) hc)
  refine W.aload 239 at_237 rfl rfl rfl ?_
  have q1210 := (((B1199.keep K1204).keep K1206).keep K1208)
  refine W.callV (rest := []) (argsL := []) (a := o1195) 242 at_239 rfl (fun hn => c_ta3 l Z a0 hw o1195 b1199 p1 p2 p3 (0 : Int32) (0 : Int32) (0 : Int32) (0 : Int32) (0 : Int32) _ n0 hn F1208 (show Fld _ _ _ _ _ _ (.int (3 : Int32)) from G1208) (show Ary _ _ _ .int [(.int p1), (.int p2), (.int p3), (.int (0 : Int32)), (.int (0 : Int32)), (.int (0 : Int32)), (.int (0 : Int32)), (.int (0 : Int32))] from A1208) q1210) E1208 (wd_20 hw) (wd_21 hw) (wd_23 hw) rfl (wd_22 hw) (wd_4 hw) (wd_24 hw) (by decide) pd_4 rfl rfl rfl (by decide) 0 (Nat.le_of_ble_eq_true rfl) (by decide) (by decide) (by decide) ?_
  rintro v1211 h1211 ⟨c1211, rfl, sz1211, gb1211, K1211, A1211⟩
  have q1212 := (q1207.keep K1208 (ninS ne1196 (ninS ne1201 nin0)))
  have ne1213 : b1185 ≠ c1211 := Nat.ne_of_lt (Nat.lt_of_lt_of_le q1212.lt sz1211)
  have ne1214 : b1199 ≠ c1211 := Nat.ne_of_lt (Nat.lt_of_lt_of_le (show Ary _ _ _ .int [(.int p1), (.int p2), (.int p3), (.int (0 : Int32)), (.int (0 : Int32)), (.int (0 : Int32)), (.int (0 : Int32)), (.int (0 : Int32))] from A1208).lt sz1211)
  have ne1215 : o1195 ≠ c1211 := Nat.ne_of_lt (Nat.lt_of_lt_of_le E1208.lt sz1211)
  show W _ _ _ _ _ _ _ _ _ _ _ 4 35 242 #[.val (.int p0), .val (.int p1), .val (.int p2), .val (.int p3), .val (.int p4), .val (.int p5), .val (.int (3 : Int32)), .val (.ref b1185), .val (.ref o1195), .unset] [(.ref c1211)]
  refine W.astore 244 at_242 rfl rfl #[.val (.int p0), .val (.int p1), .val (.int p2), .val (.int p3), .val (.int p4), .val (.int p5), .val (.int (3 : Int32)), .val (.ref b1185), .val (.ref o1195), .val (.ref c1211)] rfl ?_
  refine W.aload 246 at_244 rfl rfl rfl ?_
  refine W.arraylength 247 at_246 rfl A1211 (3 : Int32) rfl ?_
  refine W.iload 249 at_247 rfl rfl ?_
  refine W.icmp_eq 254 252 at_249 rfl rfl (fun _ => ?_) (fun hc => absurd (by decide) hc)
  refine W.iload 256 at_254 rfl rfl ?_
  refine W.if_le 272 259 at_256 rfl rfl (fun hc => absurd (by decide) hc) (fun _ => ?_)
  refine W.aload 261 at_259 rfl rfl rfl ?_
  refine W.iconst 262 at_261 rfl (0 : Int32) rfl ?_
  refine W.iaload 263 at_262 rfl A1211 0 (by decide) (by decide) (.int p1) rfl ?_
  refine W.aload 265 at_263 rfl rfl rfl ?_
  refine W.iconst 266 at_265 rfl (0 : Int32) rfl ?_
  have q1216 := (q1212.keep K1211 nin0)
  refine W.iaload 267 at_266 rfl q1216 0 (by decide) (by decide) (.int p1) rfl ?_
  refine W.icmp_eq 272 270 at_267 rfl rfl (fun _ => ?_) (fun hc => absurd rfl hc)
  refine W.iload 274 at_272 rfl rfl ?_
  refine W.iconst 275 at_274 rfl (1 : Int32) rfl ?_
  refine W.icmp_le 291 278 at_275 rfl rfl (fun hc => absurd (by decide) hc) (fun _ => ?_)
  refine W.aload 280 at_278 rfl rfl rfl ?_
  refine W.iconst 281 at_280 rfl (1 : Int32) rfl ?_
  refine W.iaload 282 at_281 rfl A1211 1 (by decide) (by decide) (.int p2) rfl ?_
  refine W.aload 284 at_282 rfl rfl rfl ?_
  refine W.iconst 285 at_284 rfl (1 : Int32) rfl ?_
  refine W.iaload 286 at_285 rfl q1216 1 (by decide) (by decide) (.int p2) rfl ?_
  refine W.icmp_eq 291 289 at_286 rfl rfl (fun _ => ?_) (fun hc => absurd rfl hc)
  refine W.iload 293 at_291 rfl rfl ?_
  refine W.iconst 294 at_293 rfl (2 : Int32) rfl ?_
  refine W.icmp_le 310 297 at_294 rfl rfl (fun hc => absurd (by decide) hc) (fun _ => ?_)
  refine W.aload 299 at_297 rfl rfl rfl ?_
  refine W.iconst 300 at_299 rfl (2 : Int32) rfl ?_
  refine W.iaload 301 at_300 rfl A1211 2 (by decide) (by decide) (.int p3) rfl ?_
  refine W.aload 303 at_301 rfl rfl rfl ?_
  refine W.iconst 304 at_303 rfl (2 : Int32) rfl ?_
  refine W.iaload 305 at_304 rfl q1216 2 (by decide) (by decide) (.int p3) rfl ?_
  refine W.icmp_eq 310 308 at_305 rfl rfl (fun _ => ?_) (fun hc => absurd rfl hc)
  refine W.iload 312 at_310 rfl rfl ?_
  refine W.iconst 313 at_312 rfl (3 : Int32) rfl ?_
  refine W.icmp_le 329 316 at_313 rfl rfl (fun _ => ?_) (fun hc => absurd hc (by decide))
  refine W.iload 331 at_329 rfl rfl ?_
  refine W.iconst 332 at_331 rfl (4 : Int32) rfl ?_
  refine W.icmp_le 348 335 at_332 rfl rfl (fun _ => ?_) (fun hc => absurd hc (by decide))
  refine W.iload 350 at_348 rfl rfl ?_
  refine W.iconst 351 at_350 rfl (5 : Int32) rfl ?_
  refine W.icmp_le 367 354 at_351 rfl rfl (fun _ => ?_) (fun hc => absurd hc (by decide))
  refine W.iload 369 at_367 rfl rfl ?_
  refine W.bipush 371 at_369 rfl (6 : Int32) rfl ?_
  refine W.icmp_le 389 374 at_371 rfl rfl (fun _ => ?_) (fun hc => absurd hc (by decide))
  refine W.iload 391 at_389 rfl rfl ?_
  refine W.bipush 393 at_391 rfl (7 : Int32) rfl ?_
  refine W.icmp_le 411 396 at_393 rfl rfl (fun _ => ?_) (fun hc => absurd hc (by decide))
  refine W.iload 413 at_411 rfl rfl ?_
  refine W.bipush 415 at_413 rfl (8 : Int32) rfl ?_
  refine W.icmp_le 433 418 at_415 rfl rfl (fun _ => ?_) (fun hc => absurd hc (by decide))
  refine W.iconst 434 at_433 rfl (1 : Int32) rfl ?_
  exact W.ireturnN (t := .boolean) at_434 rfl (by simp) (1 : Int32) rfl rfl (by decide) (by decide)
set_option maxRecDepth 65536 in
set_option maxHeartbeats 40000000 in
theorem law_4 (l : Launch) (Z : State) (a0 : Array Value) (hw : ∀ d ∈ tables_1, d.before a0 Z = true) (p0 p1 p2 p3 p4 p5 : Int32) (h : Heap) (n0 : Nat) (hn : n0 ≤ h.size) (hN : ((p0 &&& (2147483647 : Int32)) % (10 : Int32)) = (4 : Int32)) : ConW tables_1 l Z x code maxLocals ret room_1 #[(.int p0), (.int p1), (.int p2), (.int p3), (.int p4), (.int p5)] h n0 (fun r _ => r = some (.int 1)) := by
  refine ConW.of_W (Ls := #[.val (.int p0), .val (.int p1), .val (.int p2), .val (.int p3), .val (.int p4), .val (.int p5), .unset, .unset, .unset, .unset]) (plainFor_of_name pn_2) hn (fun m => by first | (simp [entryFrame, mkF, argsToLocals, Value.category, maxLocals]; done) | rfl) ?_
  refine W.iloadN 1 at_0 rfl rfl ?_
  refine W.ldcI 3 at_1 rfl (wd_0 hw) ?_
  refine W.iand 4 at_3 rfl (p0 &&& (2147483647 : Int32)) rfl ?_
  refine W.bipush 6 at_4 rfl (10 : Int32) rfl ?_
  refine W.irem 7 at_6 rfl (by decide) (4 : Int32) hN ?_
  refine W.istore 9 at_7 rfl #[.val (.int p0), .val (.int p1), .val (.int p2), .val (.int p3), .val (.int p4), .val (.int p5), .val (.int (4 : Int32)), .unset, .unset, .unset] rfl ?_
  refine W.bipush 11 at_9 rfl (9 : Int32) rfl ?_
  refine W.newarray 13 at_11 rfl (wd_1 hw) rfl (by decide) 9 9 (by decide) (by decide) (by decide) (by decide) (by decide) rfl ?_
  intro h1217 b1217 g1217 ge1217 X1217 K1217 A1217
  have A1217 : Ary _ _ b1217 .int [(.int (0 : Int32)), (.int (0 : Int32)), (.int (0 : Int32)), (.int (0 : Int32)), (.int (0 : Int32)), (.int (0 : Int32)), (.int (0 : Int32)), (.int (0 : Int32)), (.int (0 : Int32))] := A1217
  show W _ _ _ _ _ _ _ _ _ _ _ 1 9 13 #[.val (.int p0), .val (.int p1), .val (.int p2), .val (.int p3), .val (.int p4), .val (.int p5), .val (.int (4 : Int32)), .unset, .unset, .unset] [(.ref b1217)]
  refine W.astore 15 at_13 rfl rfl #[.val (.int p0), .val (.int p1), .val (.int p2), .val (.int p3), .val (.int p4), .val (.int p5), .val (.int (4 : Int32)), .val (.ref b1217), .unset, .unset] rfl ?_
  refine W.aload 17 at_15 rfl rfl rfl ?_
  refine W.iconst 18 at_17 rfl (0 : Int32) rfl ?_
  refine W.iloadN 19 at_18 rfl rfl ?_
  refine W.iastore 20 at_19 rfl A1217 0 (by decide) (by decide) (Nat.le_of_ble_eq_true rfl) ge1217 ?_
  intro h1218 W1218 K1218 A1218
  have A1218 : Ary _ _ b1217 .int [(.int p1), (.int (0 : Int32)), (.int (0 : Int32)), (.int (0 : Int32)), (.int (0 : Int32)), (.int (0 : Int32)), (.int (0 : Int32)), (.int (0 : Int32)), (.int (0 : Int32))] := A1218
  refine W.aload 22 at_20 rfl rfl rfl ?_
  refine W.iconst 23 at_22 rfl (1 : Int32) rfl ?_
  refine W.iloadN 24 at_23 rfl rfl ?_
  refine W.iastore 25 at_24 rfl A1218 1 (by decide) (by decide) (Nat.le_of_ble_eq_true rfl) ge1217 ?_
  intro h1219 W1219 K1219 A1219
  have A1219 : Ary _ _ b1217 .int [(.int p1), (.int p2), (.int (0 : Int32)), (.int (0 : Int32)), (.int (0 : Int32)), (.int (0 : Int32)), (.int (0 : Int32)), (.int (0 : Int32)), (.int (0 : Int32))] := A1219
  refine W.aload 27 at_25 rfl rfl rfl ?_
  refine W.iconst 28 at_27 rfl (2 : Int32) rfl ?_
  refine W.iloadN 29 at_28 rfl rfl ?_
  refine W.iastore 30 at_29 rfl A1219 2 (by decide) (by decide) (Nat.le_of_ble_eq_true rfl) ge1217 ?_
  intro h1220 W1220 K1220 A1220
  have A1220 : Ary _ _ b1217 .int [(.int p1), (.int p2), (.int p3), (.int (0 : Int32)), (.int (0 : Int32)), (.int (0 : Int32)), (.int (0 : Int32)), (.int (0 : Int32)), (.int (0 : Int32))] := A1220
  refine W.aload 32 at_30 rfl rfl rfl ?_
  refine W.iconst 33 at_32 rfl (3 : Int32) rfl ?_
  refine W.iload 35 at_33 rfl rfl ?_
  refine W.iastore 36 at_35 rfl A1220 3 (by decide) (by decide) (Nat.le_of_ble_eq_true rfl) ge1217 ?_
  intro h1221 W1221 K1221 A1221
  have A1221 : Ary _ _ b1217 .int [(.int p1), (.int p2), (.int p3), (.int p4), (.int (0 : Int32)), (.int (0 : Int32)), (.int (0 : Int32)), (.int (0 : Int32)), (.int (0 : Int32))] := A1221
  refine W.aload 38 at_36 rfl rfl rfl ?_
  refine W.iconst 39 at_38 rfl (4 : Int32) rfl ?_
  refine W.iload 41 at_39 rfl rfl ?_
  refine W.iastore 42 at_41 rfl A1221 4 (by decide) (by decide) (Nat.le_of_ble_eq_true rfl) ge1217 ?_
  intro h1222 W1222 K1222 A1222
  have A1222 : Ary _ _ b1217 .int [(.int p1), (.int p2), (.int p3), (.int p4), (.int p5), (.int (0 : Int32)), (.int (0 : Int32)), (.int (0 : Int32)), (.int (0 : Int32))] := A1222
  refine W.aload 44 at_42 rfl rfl rfl ?_
  refine W.iconst 45 at_44 rfl (5 : Int32) rfl ?_
  refine W.iloadN 46 at_45 rfl rfl ?_
  refine W.iloadN 47 at_46 rfl rfl ?_
  refine W.ixor 48 at_47 rfl (p1 ^^^ p2) rfl ?_
  refine W.iastore 49 at_48 rfl A1222 5 (by decide) (by decide) (Nat.le_of_ble_eq_true rfl) ge1217 ?_
  intro h1223 W1223 K1223 A1223
  have A1223 : Ary _ _ b1217 .int [(.int p1), (.int p2), (.int p3), (.int p4), (.int p5), (.int (p1 ^^^ p2)), (.int (0 : Int32)), (.int (0 : Int32)), (.int (0 : Int32))] := A1223
  refine W.aload 51 at_49 rfl rfl rfl ?_
  refine W.bipush 53 at_51 rfl (6 : Int32) rfl ?_
  refine W.iloadN 54 at_53 rfl rfl ?_
  refine W.iconst 55 at_54 rfl (-1 : Int32) rfl ?_
  refine W.ixor 56 at_55 rfl (p3 ^^^ (-1 : Int32)) rfl ?_
  refine W.iastore 57 at_56 rfl A1223 6 (by decide) (by decide) (Nat.le_of_ble_eq_true rfl) ge1217 ?_
  intro h1224 W1224 K1224 A1224
  have A1224 : Ary _ _ b1217 .int [(.int p1), (.int p2), (.int p3), (.int p4), (.int p5), (.int (p1 ^^^ p2)), (.int (p3 ^^^ (-1 : Int32))), (.int (0 : Int32)), (.int (0 : Int32))] := A1224
  refine W.aload 59 at_57 rfl rfl rfl ?_
  refine W.bipush 61 at_59 rfl (7 : Int32) rfl ?_
  refine W.iload 63 at_61 rfl rfl ?_
  refine W.iload 65 at_63 rfl rfl ?_
  refine W.isub 66 at_65 rfl (p4 - p5) rfl ?_
  refine W.iastore 67 at_66 rfl A1224 7 (by decide) (by decide) (Nat.le_of_ble_eq_true rfl) ge1217 ?_
  intro h1225 W1225 K1225 A1225
  have A1225 : Ary _ _ b1217 .int [(.int p1), (.int p2), (.int p3), (.int p4), (.int p5), (.int (p1 ^^^ p2)), (.int (p3 ^^^ (-1 : Int32))), (.int (p4 - p5)), (.int (0 : Int32))] := A1225
  refine W.aload 69 at_67 rfl rfl rfl ?_
  refine W.bipush 71 at_69 rfl (8 : Int32) rfl ?_
  refine W.iloadN 72 at_71 rfl rfl ?_
  refine W.iload 74 at_72 rfl rfl ?_
  refine W.iadd 75 at_74 rfl (p1 + p5) rfl ?_
  refine W.iastore 76 at_75 rfl A1225 8 (by decide) (by decide) (Nat.le_of_ble_eq_true rfl) ge1217 ?_
  intro h1226 W1226 K1226 A1226
  have A1226 : Ary _ _ b1217 .int [(.int p1), (.int p2), (.int p3), (.int p4), (.int p5), (.int (p1 ^^^ p2)), (.int (p3 ^^^ (-1 : Int32))), (.int (p4 - p5)), (.int (p1 + p5))] := A1226
  refine W.new 79 at_76 rfl (wd_2 hw) (wd_3 hw) (wd_4 hw) (by decide) (by decide) ?_
  intro h1227 o1227 g1227 ge1227 X1227 K1227 E1227 D1227
  have ne1228 : b1217 ≠ o1227 := Nat.ne_of_lt (Nat.lt_of_lt_of_eq A1226.lt g1227.symm)
  have f1229 : Fld _ _ o1227 "com/example/pathweave/pathweave/eval/IntList" "values" "[I" .null := D1227 (Or.inl (wd_12 hw)) (ty := (.array .int)) (by decide)
  have f1230 : Fld _ _ o1227 "com/example/pathweave/pathweave/eval/IntList" "size" "I" (.int (0 : Int32)) := D1227 (Or.inl (wd_19 hw)) (ty := .int) (by decide)
  show W _ _ _ _ _ _ _ _ _ _ _ 2 11 79 #[.val (.int p0), .val (.int p1), .val (.int p2), .val (.int p3), .val (.int p4), .val (.int p5), .val (.int (4 : Int32)), .val (.ref b1217), .unset, .unset] [(.ref o1227)]
  refine W.dup 80 at_79 rfl rfl ?_
  refine W.callInit (rest := [(.ref o1227)]) (argsL := []) (a := o1227) 83 at_80 rfl (fun hn => c_init l Z a0 hw o1227 _ n0 hn ge1227 E1227 f1229 f1230) rfl (wd_5 hw) (wd_6 hw) (wd_4 hw) (wd_7 hw) (by decide) pd_2 rfl rfl rfl (by decide) 1 (Nat.le_of_ble_eq_true rfl) (by decide) (by decide) (by decide) ?_
  rintro v1231 h1231 ⟨rfl, b1231, sz1231, gb1231, ne1231, E1231, F1231, G1231, A1231, K1231, B1231⟩
  have q1232 := (A1226.keep K1227 nin0)
  have ne1233 : b1217 ≠ b1231 := Nat.ne_of_lt (Nat.lt_of_lt_of_le q1232.lt sz1231)
  have ne1234 : o1227 ≠ b1231 := Nat.ne_of_lt (Nat.lt_of_lt_of_le E1227.lt sz1231)
  show W _ _ _ _ _ _ _ _ _ _ _ 3 19 83 #[.val (.int p0), .val (.int p1), .val (.int p2), .val (.int p3), .val (.int p4), .val (.int p5), .val (.int (4 : Int32)), .val (.ref b1217), .unset, .unset] [(.ref o1227)]
  refine W.astore 85 at_83 rfl rfl #[.val (.int p0), .val (.int p1), .val (.int p2), .val (.int p3), .val (.int p4), .val (.int p5), .val (.int (4 : Int32)), .val (.ref b1217), .val (.ref o1227), .unset] rfl ?_
  refine W.iload 87 at_85 rfl rfl ?_
  refine W.if_le 99 90 at_87 rfl rfl (fun hc => absurd (by decide) hc) (fun _ => ?_)
  refine W.aload 92 at_90 rfl rfl rfl ?_
  refine W.aload 94 at_92 rfl rfl rfl ?_
  refine W.iconst 95 at_94 rfl (0 : Int32) rfl ?_
  have q1235 := (q1232.keep K1231 (ninS ne1228 nin0))
  refine W.iaload 96 at_95 rfl q1235 0 (by decide) (by decide) (.int p1) rfl ?_
  refine W.callV (rest := []) (argsL := [(.int p1)]) (a := o1227) 99 at_96 rfl (fun hn => c_add l Z a0 hw o1227 b1231 p1 (0 : Int32) (8 : Int32) _ 0 _ n0 hn ge1227 gb1231 ne1231 E1231 F1231 G1231 A1231 rfl (by decide) (by decide) (by decide) (Nat.le_of_ble_eq_true rfl)) E1231 (wd_37 hw) (wd_38 hw) (wd_40 hw) rfl (wd_39 hw) (wd_4 hw) (wd_41 hw) (by decide) pd_5 rfl rfl rfl (by decide) 0 (Nat.le_of_ble_eq_true rfl) (by decide) (by decide) (by decide) ?_
  rintro v1236 h1236 ⟨rfl, E1236, F1236, G1236, A1236, K1236⟩
  show W _ _ _ _ _ _ _ _ _ _ _ 3 19 99 #[.val (.int p0), .val (.int p1), .val (.int p2), .val (.int p3), .val (.int p4), .val (.int p5), .val (.int (4 : Int32)), .val (.ref b1217), .val (.ref o1227), .unset] []
  refine W.iload 101 at_99 rfl rfl ?_
  refine W.iconst 102 at_101 rfl (1 : Int32) rfl ?_
  refine W.icmp_le 114 105 at_102 rfl rfl (fun hc => absurd (by decide) hc) (fun _ => ?_)
  refine W.aload 107 at_105 rfl rfl rfl ?_
  refine W.aload 109 at_107 rfl rfl rfl ?_
  refine W.iconst 110 at_109 rfl (1 : Int32) rfl ?_
  have q1237 := (q1235.keep K1236 (ninS ne1228 (ninS ne1233 nin0)))
  refine W.iaload 111 at_110 rfl q1237 1 (by decide) (by decide) (.int p2) rfl ?_
  refine W.callV (rest := []) (argsL := [(.int p2)]) (a := o1227) 114 at_111 rfl (fun hn => c_add l Z a0 hw o1227 b1231 p2 (1 : Int32) (8 : Int32) _ 1 _ n0 hn ge1227 gb1231 ne1231 E1236 F1236 (show Fld _ _ _ _ _ _ (.int (1 : Int32)) from G1236) (show Ary _ _ _ .int [(.int p1), (.int (0 : Int32)), (.int (0 : Int32)), (.int (0 : Int32)), (.int (0 : Int32)), (.int (0 : Int32)), (.int (0 : Int32)), (.int (0 : Int32))] from A1236) rfl (by decide) (by decide) (by decide) (Nat.le_of_ble_eq_true rfl)) E1236 (wd_37 hw) (wd_38 hw) (wd_40 hw) rfl (wd_39 hw) (wd_4 hw) (wd_41 hw) (by decide) pd_5 rfl rfl rfl (by decide) 0 (Nat.le_of_ble_eq_true rfl) (by decide) (by decide) (by decide) ?_
  rintro v1238 h1238 ⟨rfl, E1238, F1238, G1238, A1238, K1238⟩
  show W _ _ _ _ _ _ _ _ _ _ _ 3 19 114 #[.val (.int p0), .val (.int p1), .val (.int p2), .val (.int p3), .val (.int p4), .val (.int p5), .val (.int (4 : Int32)), .val (.ref b1217), .val (.ref o1227), .unset] []
  refine W.iload 116 at_114 rfl rfl ?_
  refine W.iconst 117 at_116 rfl (2 : Int32) rfl ?_
  refine W.icmp_le 129 120 at_117 rfl rfl (fun hc => absurd (by decide) hc) (fun _ => ?_)
  refine W.aload 122 at_120 rfl rfl rfl ?_
  refine W.aload 124 at_122 rfl rfl rfl ?_
  refine W.iconst 125 at_124 rfl (2 : Int32) rfl ?_
  have q1239 := (q1237.keep K1238 (ninS ne1228 (ninS ne1233 nin0)))
  refine W.iaload 126 at_125 rfl q1239 2 (by decide) (by decide) (.int p3) rfl ?_
  refine W.callV (rest := []) (argsL := [(.int p3)]) (a := o1227) 129 at_126 rfl (fun hn => c_add l Z a0 hw o1227 b1231 p3 (2 : Int32) (8 : Int32) _ 2 _ n0 hn ge1227 gb1231 ne1231 E1238 F1238 (show Fld _ _ _ _ _ _ (.int (2 : Int32)) from G1238) (show Ary _ _ _ .int [(.int p1), (.int p2), (.int (0 : Int32)), (.int (0 : Int32)), (.int (0 : Int32)), (.int (0 : Int32)), (.int (0 : Int32)), (.int (0 : Int32))] from A1238) rfl (by decide) (by decide) (by decide) (Nat.le_of_ble_eq_true rfl)) E1238 (wd_37 hw) (wd_38 hw) (wd_40 hw) rfl (wd_39 hw) (wd_4 hw) (wd_41 hw) (by decide) pd_5 rfl rfl rfl (by decide) 0 (Nat.le_of_ble_eq_true rfl) (by decide) (by decide) (by decide) ?_
  rintro v1240 h1240 ⟨rfl, E1240, F1240, G1240, A1240, K1240⟩
  show W _ _ _ _ _ _ _ _ _ _ _ 3 19 129 #[.val (.int p0), .val (.int p1), .val (.int p2), .val (.int p3), .val (.int p4), .val (.int p5), .val (.int (4 : Int32)), .val (.ref b1217), .val (.ref o1227), .unset] []
  refine W.iload 131 at_129 rfl rfl ?_
  refine W.iconst 132 at_131 rfl (3 : Int32) rfl ?_
  refine W.icmp_le 144 135 at_132 rfl rfl (fun hc => absurd (by decide) hc) (fun _ => ?_)
  refine W.aload 137 at_135 rfl rfl rfl ?_
  refine W.aload 139 at_137 rfl rfl rfl ?_
  refine W.iconst 140 at_139 rfl (3 : Int32) rfl ?_
  have q1241 := (q1239.keep K1240 (ninS ne1228 (ninS ne1233 nin0)))
  refine W.iaload 141 at_140 rfl q1241 3 (by decide) (by decide) (.int p4) rfl ?_
  refine W.callV (rest := []) (argsL := [(.int p4)]) (a := o1227) 144 at_141 rfl (fun hn => c_add l Z a0 hw o1227 b1231 p4 (3 : Int32) (8 : Int32) _ 3 _ n0 hn ge1227 gb1231 ne1231 E1240 F1240 (show Fld _ _ _ _ _ _ (.int (3 : Int32)) from G1240) (show Ary _ _ _ .int [(.int p1), (.int p2), (.int p3), (.int (0 : Int32)), (.int (0 : Int32)), (.int (0 : Int32)), (.int (0 : Int32)), (.int (0 : Int32))] from A1240) rfl (by decide) (by decide) (by decide) (Nat.le_of_ble_eq_true rfl)) E1240 (wd_37 hw) (wd_38 hw) (wd_40 hw) rfl (wd_39 hw) (wd_4 hw) (wd_41 hw) (by decide) pd_5 rfl rfl rfl (by decide) 0 (Nat.le_of_ble_eq_true rfl) (by decide) (by decide) (by decide) ?_
  rintro v1242 h1242 ⟨rfl, E1242, F1242, G1242, A1242, K1242⟩
  show W _ _ _ _ _ _ _ _ _ _ _ 3 19 144 #[.val (.int p0), .val (.int p1), .val (.int p2), .val (.int p3), .val (.int p4), .val (.int p5), .val (.int (4 : Int32)), .val (.ref b1217), .val (.ref o1227), .unset] []
  refine W.iload 146 at_144 rfl rfl ?_
  refine W.iconst 147 at_146 rfl (4 : Int32) rfl ?_
  refine W.icmp_le 159 150 at_147 rfl rfl (fun _ => ?_) (fun hc => absurd hc (by decide))
  refine W.iload 161 at_159 rfl rfl ?_
  refine W.iconst 162 at_161 rfl (5 : Int32) rfl ?_
  refine W.icmp_le 174 165 at_162 rfl rfl (fun _ => ?_) (fun hc => absurd hc (by decide))
  refine W.iload 176 at_174 rfl rfl ?_
  refine W.bipush 178 at_176 rfl (6 : Int32) rfl ?_
  refine W.icmp_le 191 181 at_178 rfl rfl (fun _ => ?_) (fun hc => absurd hc (by decide))
  refine W.iload 193 at_191 rfl rfl ?_
  refine W.bipush 195 at_193 rfl (7 : Int32) rfl ?_
  refine W.icmp_le 208 198 at_195 rfl rfl (fun _ => ?_) (fun hc => absurd hc (by decide))
  refine W.iload 210 at_208 rfl rfl ?_
  refine W.bipush 212 at_210 rfl (8 : Int32) rfl ?_
  refine W.icmp_le 225 215 at_212 rfl rfl (fun _ => ?_) (fun hc => absurd hc (by decide))
  refine W.aload 227 at_225 rfl rfl rfl ?_
  refine W.callV (rest := []) (argsL := []) (a := o1227) 230 at_227 rfl (fun hn => c_size l Z a0 hw o1227 (4 : Int32) _ n0 hn (show Fld _ _ _ _ _ _ (.int (4 : Int32)) from G1242)) E1242 (wd_13 hw) (wd_14 hw) (wd_16 hw) rfl (wd_15 hw) (wd_4 hw) (wd_17 hw) (by decide) pd_3 rfl rfl rfl (by decide) 0 (Nat.le_of_ble_eq_true rfl) (by decide) (by decide) (by decide) ?_
  rintro v1243 h1243 ⟨rfl, rfl⟩
  show W _ _ _ _ _ _ _ _ _ _ _ 3 19 230 #[.val (.int p0), .val (.int p1), .val (.int p2), .val (.int p3), .val (.int p4), .val (.int p5), .val (.int (4 : Int32)), .val (.ref b1217), .val (.ref o1227), .unset] [(.int (4 : Int32))]
  refine W.iload 232 at_230 rfl rfl ?_
  refine W.icmp_eq 237 235 at_232 rfl rfl (fun _ => ?_) (fun hc => absurd (by decide) hc)
  refine W.aload 239 at_237 rfl rfl rfl ?_
  have q1244 := ((((B1231.keep K1236).keep K1238).keep K1240).keep K1242)
  refine W.callV (rest := []) (argsL := []) (a := o1227) 242 at_239 rfl (fun hn => c_ta4 l Z a0 hw o1227 b1231 p1 p2 p3 p4 (0 : Int32) (0 : Int32) (0 : Int32) (0 : Int32) _ n0 hn F1242 (show Fld _ _ _ _ _ _ (.int (4 : Int32)) from G1242) (show Ary _ _ _ .int [(.int p1), (.int p2), (.int p3), (.int p4), (.int (0 : Int32)), (.int (0 : Int32)), (.int (0 : Int32)), (.int (0 : Int32))] from A1242) q1244) E1242 (wd_20 hw) (wd_21 hw) (wd_23 hw) rfl (wd_22 hw) (wd_4 hw) (wd_24 hw) (by decide) pd_4 rfl rfl rfl (by decide) 0 (Nat.le_of_ble_eq_true rfl) (by decide) (by decide) (by decide) ?_
  rintro v1245 h1245 ⟨c1245, rfl, sz1245, gb1245, K1245, A1245⟩
  have q1246 := (q1241.keep K1242 (ninS ne1228 (ninS ne1233 nin0)))
  have ne1247 : b1217 ≠ c1245 := Nat.ne_of_lt (Nat.lt_of_lt_of_le q1246.lt sz1245)
  have ne1248 : b1231 ≠ c1245 := Nat.ne_of_lt (Nat.lt_of_lt_of_le (show Ary _ _ _ .int [(.int p1), (.int p2), (.int p3), (.int p4), (.int (0 : Int32)), (.int (0 : Int32)), (.int (0 : Int32)), (.int (0 : Int32))] from A1242).lt sz1245)
  have ne1249 : o1227 ≠ c1245 := Nat.ne_of_lt (Nat.lt_of_lt_of_le E1242.lt sz1245)
  show W _ _ _ _ _ _ _ _ _ _ _ 4 35 242 #[.val (.int p0), .val (.int p1), .val (.int p2), .val (.int p3), .val (.int p4), .val (.int p5), .val (.int (4 : Int32)), .val (.ref b1217), .val (.ref o1227), .unset] [(.ref c1245)]
  refine W.astore 244 at_242 rfl rfl #[.val (.int p0), .val (.int p1), .val (.int p2), .val (.int p3), .val (.int p4), .val (.int p5), .val (.int (4 : Int32)), .val (.ref b1217), .val (.ref o1227), .val (.ref c1245)] rfl ?_
  refine W.aload 246 at_244 rfl rfl rfl ?_
  refine W.arraylength 247 at_246 rfl A1245 (4 : Int32) rfl ?_
  refine W.iload 249 at_247 rfl rfl ?_
  refine W.icmp_eq 254 252 at_249 rfl rfl (fun _ => ?_) (fun hc => absurd (by decide) hc)
  refine W.iload 256 at_254 rfl rfl ?_
  refine W.if_le 272 259 at_256 rfl rfl (fun hc => absurd (by decide) hc) (fun _ => ?_)
  refine W.aload 261 at_259 rfl rfl rfl ?_
  refine W.iconst 262 at_261 rfl (0 : Int32) rfl ?_
  refine W.iaload 263 at_262 rfl A1245 0 (by decide) (by decide) (.int p1) rfl ?_
  refine W.aload 265 at_263 rfl rfl rfl ?_
  refine W.iconst 266 at_265 rfl (0 : Int32) rfl ?_
  have q1250 := (q1246.keep K1245 nin0)
  refine W.iaload 267 at_266 rfl q1250 0 (by decide) (by decide) (.int p1) rfl ?_
  refine W.icmp_eq 272 270 at_267 rfl rfl (fun _ => ?_) (fun hc => absurd rfl hc)
  refine W.iload 274 at_272 rfl rfl ?_
  refine W.iconst 275 at_274 rfl (1 : Int32) rfl ?_
  refine W.icmp_le 291 278 at_275 rfl rfl (fun hc => absurd (by decide) hc) (fun _ => ?_)
  refine W.aload 280 at_278 rfl rfl rfl ?_
  refine W.iconst 281 at_280 rfl (1 : Int32) rfl ?_
  refine W.iaload 282 at_281 rfl A1245 1 (by decide) (by decide) (.int p2) rfl ?_
  refine W.aload 284 at_282 rfl rfl rfl ?_
  refine W.iconst 285 at_284 rfl (1 : Int32) rfl ?_
  refine W.iaload 286 at_285 rfl q1250 1 (by decide) (by decide) (.int p2) rfl ?_
  refine W.icmp_eq 291 289 at_286 rfl rfl (fun _ => ?_) (fun hc => absurd rfl hc)
  refine W.iload 293 at_291 rfl rfl ?_
  refine W.iconst 294 at_293 rfl (2 : Int32) rfl ?_
  refine W.icmp_le 310 297 at_294 rfl rfl (fun hc => absurd (by decide) hc) (fun _ => ?_)
  refine W.aload 299 at_297 rfl rfl rfl ?_
  refine W.iconst 300 at_299 rfl (2 : Int32) rfl ?_
  refine W.iaload 301 at_300 rfl A1245 2 (by decide) (by decide) (.int p3) rfl ?_
  refine W.aload 303 at_301 rfl rfl rfl ?_
  refine W.iconst 304 at_303 rfl (2 : Int32) rfl ?_
  refine W.iaload 305 at_304 rfl q1250 2 (by decide) (by decide) (.int p3) rfl ?_
  refine W.icmp_eq 310 308 at_305 rfl rfl (fun _ => ?_) (fun hc => absurd rfl hc)
  refine W.iload 312 at_310 rfl rfl ?_
  refine W.iconst 313 at_312 rfl (3 : Int32) rfl ?_
  refine W.icmp_le 329 316 at_313 rfl rfl (fun hc => absurd (by decide) hc) (fun _ => ?_)
  refine W.aload 318 at_316 rfl rfl rfl ?_
  refine W.iconst 319 at_318 rfl (3 : Int32) rfl ?_
  refine W.iaload 320 at_319 rfl A1245 3 (by decide) (by decide) (.int p4) rfl ?_
  refine W.aload 322 at_320 rfl rfl rfl ?_
  refine W.iconst 323 at_322 rfl (3 : Int32) rfl ?_
  refine W.iaload 324 at_323 rfl q1250 3 (by decide) (by decide) (.int p4) rfl ?_
  refine W.icmp_eq 329 327 at_324 rfl rfl (fun _ => ?_) (fun hc => absurd rfl hc)
  refine W.iload 331 at_329 rfl rfl ?_
  refine W.iconst 332 at_331 rfl (4 : Int32) rfl ?_
  refine W.icmp_le 348 335 at_332 rfl rfl (fun _ => ?_) (fun hc => absurd hc (by decide))
  refine W.iload 350 at_348 rfl rfl ?_
  refine W.iconst 351 at_350 rfl (5 : Int32) rfl ?_
  refine W.icmp_le 367 354 at_351 rfl rfl (fun _ => ?_) (fun hc => absurd hc (by decide))
  refine W.iload 369 at_367 rfl rfl ?_
  refine W.bipush 371 at_369 rfl (6 : Int32) rfl ?_
  refine W.icmp_le 389 374 at_371 rfl rfl (fun _ => ?_) (fun hc => absurd hc (by decide))
  refine W.iload 391 at_389 rfl rfl ?_
  refine W.bipush 393 at_391 rfl (7 : Int32) rfl ?_
  refine W.icmp_le 411 396 at_393 rfl rfl (fun _ => ?_) (fun hc => absurd hc (by decide))
  refine W.iload 413 at_411 rfl rfl ?_
  refine W.bipush 415 at_413 rfl (8 : Int32) rfl ?_
  refine W.icmp_le 433 418 at_415 rfl rfl (fun _ => ?_) (fun hc => absurd hc (by decide))
  refine W.iconst 434 at_433 rfl (1 : Int32) rfl ?_
  exact W.ireturnN (t := .boolean) at_434 rfl (by simp) (1 : Int32) rfl rfl (by decide) (by decide)
set_option maxRecDepth 65536 in
set_option maxHeartbeats 40000000 in
theorem law_5 (l : Launch) (Z : State) (a0 : Array Value) (hw : ∀ d ∈ tables_1, d.before a0 Z = true) (p0 p1 p2 p3 p4 p5 : Int32) (h : Heap) (n0 : Nat) (hn : n0 ≤ h.size) (hN : ((p0 &&& (2147483647 : Int32)) % (10 : Int32)) = (5 : Int32)) : ConW tables_1 l Z x code maxLocals ret room_1 #[(.int p0), (.int p1), (.int p2), (.int p3), (.int p4), (.int p5)] h n0 (fun r _ => r = some (.int 1)) := by
  refine ConW.of_W (Ls := #[.val (.int p0), .val (.int p1), .val (.int p2), .val (.int p3), .val (.int p4), .val (.int p5), .unset, .unset, .unset, .unset]) (plainFor_of_name pn_2) hn (fun m => by first | (simp [entryFrame, mkF, argsToLocals, Value.category, maxLocals]; done) | rfl) ?_
  refine W.iloadN 1 at_0 rfl rfl ?_
  refine W.ldcI 3 at_1 rfl (wd_0 hw) ?_
  refine W.iand 4 at_3 rfl (p0 &&& (2147483647 : Int32)) rfl ?_
  refine W.bipush 6 at_4 rfl (10 : Int32) rfl ?_
  refine W.irem 7 at_6 rfl (by decide) (5 : Int32) hN ?_
  refine W.istore 9 at_7 rfl #[.val (.int p0), .val (.int p1), .val (.int p2), .val (.int p3), .val (.int p4), .val (.int p5), .val (.int (5 : Int32)), .unset, .unset, .unset] rfl ?_
  refine W.bipush 11 at_9 rfl (9 : Int32) rfl ?_
  refine W.newarray 13 at_11 rfl (wd_1 hw) rfl (by decide) 9 9 (by decide) (by decide) (by decide) (by decide) (by decide) rfl ?_
  intro h1251 b1251 g1251 ge1251 X1251 K1251 A1251
  have A1251 : Ary _ _ b1251 .int [(.int (0 : Int32)), (.int (0 : Int32)), (.int (0 : Int32)), (.int (0 : Int32)), (.int (0 : Int32)), (.int (0 : Int32)), (.int (0 : Int32)), (.int (0 : Int32)), (.int (0 : Int32))] := A1251
  show W _ _ _ _ _ _ _ _ _ _ _ 1 9 13 #[.val (.int p0), .val (.int p1), .val (.int p2), .val (.int p3), .val (.int p4), .val (.int p5), .val (.int (5 : Int32)), .unset, .unset, .unset] [(.ref b1251)]
  refine W.astore 15 at_13 rfl rfl #[.val (.int p0), .val (.int p1), .val (.int p2), .val (.int p3), .val (.int p4), .val (.int p5), .val (.int (5 : Int32)), .val (.ref b1251), .unset, .unset] rfl ?_
  refine W.aload 17 at_15 rfl rfl rfl ?_
  refine W.iconst 18 at_17 rfl (0 : Int32) rfl ?_
  refine W.iloadN 19 at_18 rfl rfl ?_
  refine W.iastore 20 at_19 rfl A1251 0 (by decide) (by decide) (Nat.le_of_ble_eq_true rfl) ge1251 ?_
  intro h1252 W1252 K1252 A1252
  have A1252 : Ary _ _ b1251 .int [(.int p1), (.int (0 : Int32)), (.int (0 : Int32)), (.int (0 : Int32)), (.int (0 : Int32)), (.int (0 : Int32)), (.int (0 : Int32)), (.int (0 : Int32)), (.int (0 : Int32))] := A1252
  refine W.aload 22 at_20 rfl rfl rfl ?_
  refine W.iconst 23 at_22 rfl (1 : Int32) rfl ?_
  refine W.iloadN 24 at_23 rfl rfl ?_
  refine W.iastore 25 at_24 rfl A1252 1 (by decide) (by decide) (Nat.le_of_ble_eq_true rfl) ge1251 ?_
  intro h1253 W1253 K1253 A1253
  have A1253 : Ary _ _ b1251 .int [(.int p1), (.int p2), (.int (0 : Int32)), (.int (0 : Int32)), (.int (0 : Int32)), (.int (0 : Int32)), (.int (0 : Int32)), (.int (0 : Int32)), (.int (0 : Int32))] := A1253
  refine W.aload 27 at_25 rfl rfl rfl ?_
  refine W.iconst 28 at_27 rfl (2 : Int32) rfl ?_
  refine W.iloadN 29 at_28 rfl rfl ?_
  refine W.iastore 30 at_29 rfl A1253 2 (by decide) (by decide) (Nat.le_of_ble_eq_true rfl) ge1251 ?_
  intro h1254 W1254 K1254 A1254
  have A1254 : Ary _ _ b1251 .int [(.int p1), (.int p2), (.int p3), (.int (0 : Int32)), (.int (0 : Int32)), (.int (0 : Int32)), (.int (0 : Int32)), (.int (0 : Int32)), (.int (0 : Int32))] := A1254
  refine W.aload 32 at_30 rfl rfl rfl ?_
  refine W.iconst 33 at_32 rfl (3 : Int32) rfl ?_
  refine W.iload 35 at_33 rfl rfl ?_
  refine W.iastore 36 at_35 rfl A1254 3 (by decide) (by decide) (Nat.le_of_ble_eq_true rfl) ge1251 ?_
  intro h1255 W1255 K1255 A1255
  have A1255 : Ary _ _ b1251 .int [(.int p1), (.int p2), (.int p3), (.int p4), (.int (0 : Int32)), (.int (0 : Int32)), (.int (0 : Int32)), (.int (0 : Int32)), (.int (0 : Int32))] := A1255
  refine W.aload 38 at_36 rfl rfl rfl ?_
  refine W.iconst 39 at_38 rfl (4 : Int32) rfl ?_
  refine W.iload 41 at_39 rfl rfl ?_
  refine W.iastore 42 at_41 rfl A1255 4 (by decide) (by decide) (Nat.le_of_ble_eq_true rfl) ge1251 ?_
  intro h1256 W1256 K1256 A1256
  have A1256 : Ary _ _ b1251 .int [(.int p1), (.int p2), (.int p3), (.int p4), (.int p5), (.int (0 : Int32)), (.int (0 : Int32)), (.int (0 : Int32)), (.int (0 : Int32))] := A1256
  refine W.aload 44 at_42 rfl rfl rfl ?_
  refine W.iconst 45 at_44 rfl (5 : Int32) rfl ?_
  refine W.iloadN 46 at_45 rfl rfl ?_
  refine W.iloadN 47 at_46 rfl rfl ?_
  refine W.ixor 48 at_47 rfl (p1 ^^^ p2) rfl ?_
  refine W.iastore 49 at_48 rfl A1256 5 (by decide) (by decide) (Nat.le_of_ble_eq_true rfl) ge1251 ?_
  intro h1257 W1257 K1257 A1257
  have A1257 : Ary _ _ b1251 .int [(.int p1), (.int p2), (.int p3), (.int p4), (.int p5), (.int (p1 ^^^ p2)), (.int (0 : Int32)), (.int (0 : Int32)), (.int (0 : Int32))] := A1257
  refine W.aload 51 at_49 rfl rfl rfl ?_
  refine W.bipush 53 at_51 rfl (6 : Int32) rfl ?_
  refine W.iloadN 54 at_53 rfl rfl ?_
  refine W.iconst 55 at_54 rfl (-1 : Int32) rfl ?_
  refine W.ixor 56 at_55 rfl (p3 ^^^ (-1 : Int32)) rfl ?_
  refine W.iastore 57 at_56 rfl A1257 6 (by decide) (by decide) (Nat.le_of_ble_eq_true rfl) ge1251 ?_
  intro h1258 W1258 K1258 A1258
  have A1258 : Ary _ _ b1251 .int [(.int p1), (.int p2), (.int p3), (.int p4), (.int p5), (.int (p1 ^^^ p2)), (.int (p3 ^^^ (-1 : Int32))), (.int (0 : Int32)), (.int (0 : Int32))] := A1258
  refine W.aload 59 at_57 rfl rfl rfl ?_
  refine W.bipush 61 at_59 rfl (7 : Int32) rfl ?_
  refine W.iload 63 at_61 rfl rfl ?_
  refine W.iload 65 at_63 rfl rfl ?_
  refine W.isub 66 at_65 rfl (p4 - p5) rfl ?_
  refine W.iastore 67 at_66 rfl A1258 7 (by decide) (by decide) (Nat.le_of_ble_eq_true rfl) ge1251 ?_
  intro h1259 W1259 K1259 A1259
  have A1259 : Ary _ _ b1251 .int [(.int p1), (.int p2), (.int p3), (.int p4), (.int p5), (.int (p1 ^^^ p2)), (.int (p3 ^^^ (-1 : Int32))), (.int (p4 - p5)), (.int (0 : Int32))] := A1259
  refine W.aload 69 at_67 rfl rfl rfl ?_
  refine W.bipush 71 at_69 rfl (8 : Int32) rfl ?_
  refine W.iloadN 72 at_71 rfl rfl ?_
  refine W.iload 74 at_72 rfl rfl ?_
  refine W.iadd 75 at_74 rfl (p1 + p5) rfl ?_
  refine W.iastore 76 at_75 rfl A1259 8 (by decide) (by decide) (Nat.le_of_ble_eq_true rfl) ge1251 ?_
  intro h1260 W1260 K1260 A1260
  have A1260 : Ary _ _ b1251 .int [(.int p1), (.int p2), (.int p3), (.int p4), (.int p5), (.int (p1 ^^^ p2)), (.int (p3 ^^^ (-1 : Int32))), (.int (p4 - p5)), (.int (p1 + p5))] := A1260
  refine W.new 79 at_76 rfl (wd_2 hw) (wd_3 hw) (wd_4 hw) (by decide) (by decide) ?_
  intro h1261 o1261 g1261 ge1261 X1261 K1261 E1261 D1261
  have ne1262 : b1251 ≠ o1261 := Nat.ne_of_lt (Nat.lt_of_lt_of_eq A1260.lt g1261.symm)
  have f1263 : Fld _ _ o1261 "com/example/pathweave/pathweave/eval/IntList" "values" "[I" .null := D1261 (Or.inl (wd_12 hw)) (ty := (.array .int)) (by decide)
  have f1264 : Fld _ _ o1261 "com/example/pathweave/pathweave/eval/IntList" "size" "I" (.int (0 : Int32)) := D1261 (Or.inl (wd_19 hw)) (ty := .int) (by decide)
  show W _ _ _ _ _ _ _ _ _ _ _ 2 11 79 #[.val (.int p0), .val (.int p1), .val (.int p2), .val (.int p3), .val (.int p4), .val (.int p5), .val (.int (5 : Int32)), .val (.ref b1251), .unset, .unset] [(.ref o1261)]
  refine W.dup 80 at_79 rfl rfl ?_
  refine W.callInit (rest := [(.ref o1261)]) (argsL := []) (a := o1261) 83 at_80 rfl (fun hn => c_init l Z a0 hw o1261 _ n0 hn ge1261 E1261 f1263 f1264) rfl (wd_5 hw) (wd_6 hw) (wd_4 hw) (wd_7 hw) (by decide) pd_2 rfl rfl rfl (by decide) 1 (Nat.le_of_ble_eq_true rfl) (by decide) (by decide) (by decide) ?_
  rintro v1265 h1265 ⟨rfl, b1265, sz1265, gb1265, ne1265, E1265, F1265, G1265, A1265, K1265, B1265⟩
  have q1266 := (A1260.keep K1261 nin0)
  have ne1267 : b1251 ≠ b1265 := Nat.ne_of_lt (Nat.lt_of_lt_of_le q1266.lt sz1265)
  have ne1268 : o1261 ≠ b1265 := Nat.ne_of_lt (Nat.lt_of_lt_of_le E1261.lt sz1265)
  show W _ _ _ _ _ _ _ _ _ _ _ 3 19 83 #[.val (.int p0), .val (.int p1), .val (.int p2), .val (.int p3), .val (.int p4), .val (.int p5), .val (.int (5 : Int32)), .val (.ref b1251), .unset, .unset] [(.ref o1261)]
  refine W.astore 85 at_83 rfl rfl #[.val (.int p0), .val (.int p1), .val (.int p2), .val (.int p3), .val (.int p4), .val (.int p5), .val (.int (5 : Int32)), .val (.ref b1251), .val (.ref o1261), .unset] rfl ?_
  refine W.iload 87 at_85 rfl rfl ?_
  refine W.if_le 99 90 at_87 rfl rfl (fun hc => absurd (by decide) hc) (fun _ => ?_)
  refine W.aload 92 at_90 rfl rfl rfl ?_
  refine W.aload 94 at_92 rfl rfl rfl ?_
  refine W.iconst 95 at_94 rfl (0 : Int32) rfl ?_
  have q1269 := (q1266.keep K1265 (ninS ne1262 nin0))
  refine W.iaload 96 at_95 rfl q1269 0 (by decide) (by decide) (.int p1) rfl ?_
  refine W.callV (rest := []) (argsL := [(.int p1)]) (a := o1261) 99 at_96 rfl (fun hn => c_add l Z a0 hw o1261 b1265 p1 (0 : Int32) (8 : Int32) _ 0 _ n0 hn ge1261 gb1265 ne1265 E1265 F1265 G1265 A1265 rfl (by decide) (by decide) (by decide) (Nat.le_of_ble_eq_true rfl)) E1265 (wd_37 hw) (wd_38 hw) (wd_40 hw) rfl (wd_39 hw) (wd_4 hw) (wd_41 hw) (by decide) pd_5 rfl rfl rfl (by decide) 0 (Nat.le_of_ble_eq_true rfl) (by decide) (by decide) (by decide) ?_
  rintro v1270 h1270 ⟨rfl, E1270, F1270, G1270, A1270, K1270⟩
  show W _ _ _ _ _ _ _ _ _ _ _ 3 19 99 #[.val (.int p0), .val (.int p1), .val (.int p2), .val (.int p3), .val (.int p4), .val (.int p5), .val (.int (5 : Int32)), .val (.ref b1251), .val (.ref o1261), .unset] []
  refine W.iload 101 at_99 rfl rfl ?_
  refine W.iconst 102 at_101 rfl (1 : Int32) rfl ?_
  refine W.icmp_le 114 105 at_102 rfl rfl (fun hc => absurd (by decide) hc) (fun _ => ?_)
  refine W.aload 107 at_105 rfl rfl rfl ?_
  refine W.aload 109 at_107 rfl rfl rfl ?_
  refine W.iconst 110 at_109 rfl (1 : Int32) rfl ?_
  have q1271 := (q1269.keep K1270 (ninS ne1262 (ninS ne1267 nin0)))
  refine W.iaload 111 at_110 rfl q1271 1 (by decide) (by decide) (.int p2) rfl ?_
  refine W.callV (rest := []) (argsL := [(.int p2)]) (a := o1261) 114 at_111 rfl (fun hn => c_add l Z a0 hw o1261 b1265 p2 (1 : Int32) (8 : Int32) _ 1 _ n0 hn ge1261 gb1265 ne1265 E1270 F1270 (show Fld _ _ _ _ _ _ (.int (1 : Int32)) from G1270) (show Ary _ _ _ .int [(.int p1), (.int (0 : Int32)), (.int (0 : Int32)), (.int (0 : Int32)), (.int (0 : Int32)), (.int (0 : Int32)), (.int (0 : Int32)), (.int (0 : Int32))] from A1270) rfl (by decide) (by decide) (by decide) (Nat.le_of_ble_eq_true rfl)) E1270 (wd_37 hw) (wd_38 hw) (wd_40 hw) rfl (wd_39 hw) (wd_4 hw) (wd_41 hw) (by decide) pd_5 rfl rfl rfl (by decide) 0 (Nat.le_of_ble_eq_true rfl) (by decide) (by decide) (by decide) ?_
  rintro v1272 h1272 ⟨rfl, E1272, F1272, G1272, A1272, K1272⟩
  show W _ _ _ _ _ _ _ _ _ _ _ 3 19 114 #[.val (.int p0), .val (.int p1), .val (.int p2), .val (.int p3), .val (.int p4), .val (.int p5), .val (.int (5 : Int32)), .val (.ref b1251), .val (.ref o1261), .unset] []
  refine W.iload 116 at_114 rfl rfl ?_
  refine W.iconst 117 at_116 rfl (2 : Int32) rfl ?_
  refine W.icmp_le 129 120 at_117 rfl rfl (fun hc => absurd (by decide) hc) (fun _ => ?_)
  refine W.aload 122 at_120 rfl rfl rfl ?_
  refine W.aload 124 at_122 rfl rfl rfl ?_
  refine W.iconst 125 at_124 rfl (2 : Int32) rfl ?_
  have q1273 := (q1271.keep K1272 (ninS ne1262 (ninS ne1267 nin0)))
  refine W.iaload 126 at_125 rfl q1273 2 (by decide) (by decide) (.int p3) rfl ?_
  refine W.callV (rest := []) (argsL := [(.int p3)]) (a := o1261) 129 at_126 rfl (fun hn => c_add l Z a0 hw o1261 b1265 p3 (2 : Int32) (8 : Int32) _ 2 _ n0 hn ge1261 gb1265 ne1265 E1272 F1272 (show Fld _ _ _ _ _ _ (.int (2 : Int32)) from G1272) (show Ary _ _ _ .int [(.int p1), (.int p2), (.int (0 : Int32)), (.int (0 : Int32)), (.int (0 : Int32)), (.int (0 : Int32)), (.int (0 : Int32)), (.int (0 : Int32))] from A1272) rfl (by decide) (by decide) (by decide) (Nat.le_of_ble_eq_true rfl)) E1272 (wd_37 hw) (wd_38 hw) (wd_40 hw) rfl (wd_39 hw) (wd_4 hw) (wd_41 hw) (by decide) pd_5 rfl rfl rfl (by decide) 0 (Nat.le_of_ble_eq_true rfl) (by decide) (by decide) (by decide) ?_
  rintro v1274 h1274 ⟨rfl, E1274, F1274, G1274, A1274, K1274⟩
  show W _ _ _ _ _ _ _ _ _ _ _ 3 19 129 #[.val (.int p0), .val (.int p1), .val (.int p2), .val (.int p3), .val (.int p4), .val (.int p5), .val (.int (5 : Int32)), .val (.ref b1251), .val (.ref o1261), .unset] []
  refine W.iload 131 at_129 rfl rfl ?_
  refine W.iconst 132 at_131 rfl (3 : Int32) rfl ?_
  refine W.icmp_le 144 135 at_132 rfl rfl (fun hc => absurd (by decide) hc) (fun _ => ?_)
  refine W.aload 137 at_135 rfl rfl rfl ?_
  refine W.aload 139 at_137 rfl rfl rfl ?_
  refine W.iconst 140 at_139 rfl (3 : Int32) rfl ?_
  have q1275 := (q1273.keep K1274 (ninS ne1262 (ninS ne1267 nin0)))
  refine W.iaload 141 at_140 rfl q1275 3 (by decide) (by decide) (.int p4) rfl ?_
  refine W.callV (rest := []) (argsL := [(.int p4)]) (a := o1261) 144 at_141 rfl (fun hn => c_add l Z a0 hw o1261 b1265 p4 (3 : Int32) (8 : Int32) _ 3 _ n0 hn ge1261 gb1265 ne1265 E1274 F1274 (show Fld _ _ _ _ _ _ (.int (3 : Int32)) from G1274) (show Ary _ _ _ .int [(.int p1), (.int p2), (.int p3), (.int (0 : Int32)), (.int (0 : Int32)), (.int (0 : Int32)), (.int (0 : Int32)), (.int (0 : Int32))] from A1274) rfl (by decide) (by decide) (by decide) (Nat.le_of_ble_eq_true rfl)) E1274 (wd_37 hw) (wd_38 hw) (wd_40 hw) rfl (wd_39 hw) (wd_4 hw) (wd_41 hw) (by decide) pd_5 rfl rfl rfl (by decide) 0 (Nat.le_of_ble_eq_true rfl) (by decide) (by decide) (by decide) ?_
  rintro v1276 h1276 ⟨rfl, E1276, F1276, G1276, A1276, K1276⟩
  show W _ _ _ _ _ _ _ _ _ _ _ 3 19 144 #[.val (.int p0), .val (.int p1), .val (.int p2), .val (.int p3), .val (.int p4), .val (.int p5), .val (.int (5 : Int32)), .val (.ref b1251), .val (.ref o1261), .unset] []
  refine W.iload 146 at_144 rfl rfl ?_
  refine W.iconst 147 at_146 rfl (4 : Int32) rfl ?_
  refine W.icmp_le 159 150 at_147 rfl rfl (fun hc => absurd (by decide) hc) (fun _ => ?_)
  refine W.aload 152 at_150 rfl rfl rfl ?_
  refine W.aload 154 at_152 rfl rfl rfl ?_
  refine W.iconst 155 at_154 rfl (4 : Int32) rfl ?_
  have q1277 := (q1275.keep K1276 (ninS ne1262 (ninS ne1267 nin0)))
  refine W.iaload 156 at_155 rfl q1277 4 (by decide) (by decide) (.int p5) rfl ?_
  refine W.callV (rest := []) (argsL := [(.int p5)]) (a := o1261) 159 at_156 rfl (fun hn => c_add l Z a0 hw o1261 b1265 p5 (4 : Int32) (8 : Int32) _ 4 _ n0 hn ge1261 gb1265 ne1265 E1276 F1276 (show Fld _ _ _ _ _ _ (.int (4 : Int32)) from G1276) (show Ary _ _ _ .int [(.int p1), (.int p2), (.int p3), (.int p4), (.int (0 : Int32)), (.int (0 : Int32)), (.int (0 : Int32)), (.int (0 : Int32))] from A1276) rfl (by decide) (by decide) (by decide) (Nat.le_of_ble_eq_true rfl)) E1276 (wd_37 hw) (wd_38 hw) (wd_40 hw) rfl (wd_39 hw) (wd_4 hw) (wd_41 hw) (by decide) pd_5 rfl rfl rfl (by decide) 0 (Nat.le_of_ble_eq_true rfl) (by decide) (by decide) (by decide) ?_
  rintro v1278 h1278 ⟨rfl, E1278, F1278, G1278, A1278, K1278⟩
  show W _ _ _ _ _ _ _ _ _ _ _ 3 19 159 #[.val (.int p0), .val (.int p1), .val (.int p2), .val (.int p3), .val (.int p4), .val (.int p5), .val (.int (5 : Int32)), .val (.ref b1251), .val (.ref o1261), .unset] []
  refine W.iload 161 at_159 rfl rfl ?_
  refine W.iconst 162 at_161 rfl (5 : Int32) rfl ?_
  refine W.icmp_le 174 165 at_162 rfl rfl (fun _ => ?_) (fun hc => absurd hc (by decide))
  refine W.iload 176 at_174 rfl rfl ?_
  refine W.bipush 178 at_176 rfl (6 : Int32) rfl ?_
  refine W.icmp_le 191 181 at_178 rfl rfl (fun _ => ?_) (fun hc => absurd hc (by decide))
  refine W.iload 193 at_191 rfl rfl ?_
  refine W.bipush 195 at_193 rfl (7 : Int32) rfl ?_
  refine W.icmp_le 208 198 at_195 rfl rfl (fun _ => ?_) (fun hc => absurd hc (by decide))
  refine W.iload 210 at_208 rfl rfl ?_
  refine W.bipush 212 at_210 rfl (8 : Int32) rfl ?_
  refine W.icmp_le 225 215 at_212 rfl rfl (fun _ => ?_) (fun hc => absurd hc (by decide))
  refine W.aload 227 at_225 rfl rfl rfl ?_
  refine W.callV (rest := []) (argsL := []) (a := o1261) 230 at_227 rfl (fun hn => c_size l Z a0 hw o1261 (5 : Int32) _ n0 hn (show Fld _ _ _ _ _ _ (.int (5 : Int32)) from G1278)) E1278 (wd_13 hw) (wd_14 hw) (wd_16 hw) rfl (wd_15 hw) (wd_4 hw) (wd_17 hw) (by decide) pd_3 rfl rfl rfl (by decide) 0 (Nat.le_of_ble_eq_true rfl) (by decide) (by decide) (by decide) ?_
  rintro v1279 h1279 ⟨rfl, rfl⟩
  show W _ _ _ _ _ _ _ _ _ _ _ 3 19 230 #[.val (.int p0), .val (.int p1), .val (.int p2), .val (.int p3), .val (.int p4), .val (.int p5), .val (.int (5 : Int32)), .val (.ref b1251), .val (.ref o1261), .unset] [(.int (5 : Int32))]
  refine W.iload 232 at_230 rfl rfl ?_
  refine W.icmp_eq 237 235 at_232 rfl rfl (fun _ => ?_) (fun hc => absurd (by decide) hc)
  refine W.aload 239 at_237 rfl rfl rfl ?_
  have q1280 := (((((B1265.keep K1270).keep K1272).keep K1274).keep K1276).keep K1278)
  refine W.callV (rest := []) (argsL := []) (a := o1261) 242 at_239 rfl (fun hn => c_ta5 l Z a0 hw o1261 b1265 p1 p2 p3 p4 p5 (0 : Int32) (0 : Int32) (0 : Int32) _ n0 hn F1278 (show Fld _ _ _ _ _ _ (.int (5 : Int32)) from G1278) (show Ary _ _ _ .int [(.int p1), (.int p2), (.int p3), (.int p4), (.int p5), (.int (0 : Int32)), (.int (0 : Int32)), (.int (0 : Int32))] from A1278) q1280) E1278 (wd_20 hw) (wd_21 hw) (wd_23 hw) rfl (wd_22 hw) (wd_4 hw) (wd_24 hw) (by decide) pd_4 rfl rfl rfl (by decide) 0 (Nat.le_of_ble_eq_true rfl) (by decide) (by decide) (by decide) ?_
  rintro v1281 h1281 ⟨c1281, rfl, sz1281, gb1281, K1281, A1281⟩
  have q1282 := (q1277.keep K1278 (ninS ne1262 (ninS ne1267 nin0)))
  have ne1283 : b1251 ≠ c1281 := Nat.ne_of_lt (Nat.lt_of_lt_of_le q1282.lt sz1281)
  have ne1284 : b1265 ≠ c1281 := Nat.ne_of_lt (Nat.lt_of_lt_of_le (show Ary _ _ _ .int [(.int p1), (.int p2), (.int p3), (.int p4), (.int p5), (.int (0 : Int32)), (.int (0 : Int32)), (.int (0 : Int32))] from A1278).lt sz1281)
  have ne1285 : o1261 ≠ c1281 := Nat.ne_of_lt (Nat.lt_of_lt_of_le E1278.lt sz1281)
  show W _ _ _ _ _ _ _ _ _ _ _ 4 35 242 #[.val (.int p0), .val (.int p1), .val (.int p2), .val (.int p3), .val (.int p4), .val (.int p5), .val (.int (5 : Int32)), .val (.ref b1251), .val (.ref o1261), .unset] [(.ref c1281)]
  refine W.astore 244 at_242 rfl rfl #[.val (.int p0), .val (.int p1), .val (.int p2), .val (.int p3), .val (.int p4), .val (.int p5), .val (.int (5 : Int32)), .val (.ref b1251), .val (.ref o1261), .val (.ref c1281)] rfl ?_
  refine W.aload 246 at_244 rfl rfl rfl ?_
  refine W.arraylength 247 at_246 rfl A1281 (5 : Int32) rfl ?_
  refine W.iload 249 at_247 rfl rfl ?_
  refine W.icmp_eq 254 252 at_249 rfl rfl (fun _ => ?_) (fun hc => absurd (by decide) hc)
  refine W.iload 256 at_254 rfl rfl ?_
  refine W.if_le 272 259 at_256 rfl rfl (fun hc => absurd (by decide) hc) (fun _ => ?_)
  refine W.aload 261 at_259 rfl rfl rfl ?_
  refine W.iconst 262 at_261 rfl (0 : Int32) rfl ?_
  refine W.iaload 263 at_262 rfl A1281 0 (by decide) (by decide) (.int p1) rfl ?_
  refine W.aload 265 at_263 rfl rfl rfl ?_
  refine W.iconst 266 at_265 rfl (0 : Int32) rfl ?_
  have q1286 := (q1282.keep K1281 nin0)
  refine W.iaload 267 at_266 rfl q1286 0 (by decide) (by decide) (.int p1) rfl ?_
  refine W.icmp_eq 272 270 at_267 rfl rfl (fun _ => ?_) (fun hc => absurd rfl hc)
  refine W.iload 274 at_272 rfl rfl ?_
  refine W.iconst 275 at_274 rfl (1 : Int32) rfl ?_
  refine W.icmp_le 291 278 at_275 rfl rfl (fun hc => absurd (by decide) hc) (fun _ => ?_)
  refine W.aload 280 at_278 rfl rfl rfl ?_
  refine W.iconst 281 at_280 rfl (1 : Int32) rfl ?_
  refine W.iaload 282 at_281 rfl A1281 1 (by decide) (by decide) (.int p2) rfl ?_
  refine W.aload 284 at_282 rfl rfl rfl ?_
  refine W.iconst 285 at_284 rfl (1 : Int32) rfl ?_
  refine W.iaload 286 at_285 rfl q1286 1 (by decide) (by decide) (.int p2) rfl ?_
  refine W.icmp_eq 291 289 at_286 rfl rfl (fun _ => ?_) (fun hc => absurd rfl hc)
  refine W.iload 293 at_291 rfl rfl ?_
  refine W.iconst 294 at_293 rfl (2 : Int32) rfl ?_
  refine W.icmp_le 310 297 at_294 rfl rfl (fun hc => absurd (by decide) hc) (fun _ => ?_)
  refine W.aload 299 at_297 rfl rfl rfl ?_
  refine W.iconst 300 at_299 rfl (2 : Int32) rfl ?_
  refine W.iaload 301 at_300 rfl A1281 2 (by decide) (by decide) (.int p3) rfl ?_
  refine W.aload 303 at_301 rfl rfl rfl ?_
  refine W.iconst 304 at_303 rfl (2 : Int32) rfl ?_
  refine W.iaload 305 at_304 rfl q1286 2 (by decide) (by decide) (.int p3) rfl ?_
  refine W.icmp_eq 310 308 at_305 rfl rfl (fun _ => ?_) (fun hc => absurd rfl hc)
  refine W.iload 312 at_310 rfl rfl ?_
  refine W.iconst 313 at_312 rfl (3 : Int32) rfl ?_
  refine W.icmp_le 329 316 at_313 rfl rfl (fun hc => absurd (by decide) hc) (fun _ => ?_)
  refine W.aload 318 at_316 rfl rfl rfl ?_
  refine W.iconst 319 at_318 rfl (3 : Int32) rfl ?_
  refine W.iaload 320 at_319 rfl A1281 3 (by decide) (by decide) (.int p4) rfl ?_
  refine W.aload 322 at_320 rfl rfl rfl ?_
  refine W.iconst 323 at_322 rfl (3 : Int32) rfl ?_
  refine W.iaload 324 at_323 rfl q1286 3 (by decide) (by decide) (.int p4) rfl ?_
  refine W.icmp_eq 329 327 at_324 rfl rfl (fun _ => ?_) (fun hc => absurd rfl hc)
  refine W.iload 331 at_329 rfl rfl ?_
  refine W.iconst 332 at_331 rfl (4 : Int32) rfl ?_
  refine W.icmp_le 348 335 at_332 rfl rfl (fun hc => absurd (by decide) hc) (fun _ => ?_)
  refine W.aload 337 at_335 rfl rfl rfl ?_
  refine W.iconst 338 at_337 rfl (4 : Int32) rfl ?_
  refine W.iaload 339 at_338 rfl A1281 4 (by decide) (by decide) (.int p5) rfl ?_
  refine W.aload 341 at_339 rfl rfl rfl ?_
  refine W.iconst 342 at_341 rfl (4 : Int32) rfl ?_
  refine W.iaload 343 at_342 rfl q1286 4 (by decide) (by decide) (.int p5) rfl ?_
  refine W.icmp_eq 348 346 at_343 rfl rfl (fun _ => ?_) (fun hc => absurd rfl hc)
  refine W.iload 350 at_348 rfl rfl ?_
  refine W.iconst 351 at_350 rfl (5 : Int32) rfl ?_
  refine W.icmp_le 367 354 at_351 rfl rfl (fun _ => ?_) (fun hc => absurd hc (by decide))
  refine W.iload 369 at_367 rfl rfl ?_
  refine W.bipush 371 at_369 rfl (6 : Int32) rfl ?_
  refine W.icmp_le 389 374 at_371 rfl rfl (fun _ => ?_) (fun hc => absurd hc (by decide))
  refine W.iload 391 at_389 rfl rfl ?_
  refine W.bipush 393 at_391 rfl (7 : Int32) rfl ?_
  refine W.icmp_le 411 396 at_393 rfl rfl (fun _ => ?_) (fun hc => absurd hc (by decide))
  refine W.iload 413 at_411 rfl rfl ?_
  refine W.bipush 415 at_413 rfl (8 : Int32) rfl ?_
  refine W.icmp_le 433 418 at_415 rfl rfl (fun _ => ?_) (fun hc => absurd hc (by decide))
  refine W.iconst 434 at_433 rfl (1 : Int32) rfl ?_
  exact W.ireturnN (t := .boolean) at_434 rfl (by simp) (1 : Int32) rfl rfl (by decide) (by decide)
set_option maxRecDepth 65536 in
set_option maxHeartbeats 40000000 in
theorem law_6 (l : Launch) (Z : State) (a0 : Array Value) (hw : ∀ d ∈ tables_1, d.before a0 Z = true) (p0 p1 p2 p3 p4 p5 : Int32) (h : Heap) (n0 : Nat) (hn : n0 ≤ h.size) (hN : ((p0 &&& (2147483647 : Int32)) % (10 : Int32)) = (6 : Int32)) : ConW tables_1 l Z x code maxLocals ret room_1 #[(.int p0), (.int p1), (.int p2), (.int p3), (.int p4), (.int p5)] h n0 (fun r _ => r = some (.int 1)) := by
  refine ConW.of_W (Ls := #[.val (.int p0), .val (.int p1), .val (.int p2), .val (.int p3), .val (.int p4), .val (.int p5), .unset, .unset, .unset, .unset]) (plainFor_of_name pn_2) hn (fun m => by first | (simp [entryFrame, mkF, argsToLocals, Value.category, maxLocals]; done) | rfl) ?_
  refine W.iloadN 1 at_0 rfl rfl ?_
  refine W.ldcI 3 at_1 rfl (wd_0 hw) ?_
  refine W.iand 4 at_3 rfl (p0 &&& (2147483647 : Int32)) rfl ?_
  refine W.bipush 6 at_4 rfl (10 : Int32) rfl ?_
  refine W.irem 7 at_6 rfl (by decide) (6 : Int32) hN ?_
  refine W.istore 9 at_7 rfl #[.val (.int p0), .val (.int p1), .val (.int p2), .val (.int p3), .val (.int p4), .val (.int p5), .val (.int (6 : Int32)), .unset, .unset, .unset] rfl ?_
  refine W.bipush 11 at_9 rfl (9 : Int32) rfl ?_
  refine W.newarray 13 at_11 rfl (wd_1 hw) rfl (by decide) 9 9 (by decide) (by decide) (by decide) (by decide) (by decide) rfl ?_
  intro h1287 b1287 g1287 ge1287 X1287 K1287 A1287
  have A1287 : Ary _ _ b1287 .int [(.int (0 : Int32)), (.int (0 : Int32)), (.int (0 : Int32)), (.int (0 : Int32)), (.int (0 : Int32)), (.int (0 : Int32)), (.int (0 : Int32)), (.int (0 : Int32)), (.int (0 : Int32))] := A1287
  show W _ _ _ _ _ _ _ _ _ _ _ 1 9 13 #[.val (.int p0), .val (.int p1), .val (.int p2), .val (.int p3), .val (.int p4), .val (.int p5), .val (.int (6 : Int32)), .unset, .unset, .unset] [(.ref b1287)]
  refine W.astore 15 at_13 rfl rfl #[.val (.int p0), .val (.int p1), .val (.int p2), .val (.int p3), .val (.int p4), .val (.int p5), .val (.int (6 : Int32)), .val (.ref b1287), .unset, .unset] rfl ?_
  refine W.aload 17 at_15 rfl rfl rfl ?_
  refine W.iconst 18 at_17 rfl (0 : Int32) rfl ?_
  refine W.iloadN 19 at_18 rfl rfl ?_
  refine W.iastore 20 at_19 rfl A1287 0 (by decide) (by decide) (Nat.le_of_ble_eq_true rfl) ge1287 ?_
  intro h1288 W1288 K1288 A1288
  have A1288 : Ary _ _ b1287 .int [(.int p1), (.int (0 : Int32)), (.int (0 : Int32)), (.int (0 : Int32)), (.int (0 : Int32)), (.int (0 : Int32)), (.int (0 : Int32)), (.int (0 : Int32)), (.int (0 : Int32))] := A1288
  refine W.aload 22 at_20 rfl rfl rfl ?_
  refine W.iconst 23 at_22 rfl (1 : Int32) rfl ?_
  refine W.iloadN 24 at_23 rfl rfl ?_
  refine W.iastore 25 at_24 rfl A1288 1 (by decide) (by decide) (Nat.le_of_ble_eq_true rfl) ge1287 ?_
  intro h1289 W1289 K1289 A1289
  have A1289 : Ary _ _ b1287 .int [(.int p1), (.int p2), (.int (0 : Int32)), (.int (0 : Int32)), (.int (0 : Int32)), (.int (0 : Int32)), (.int (0 : Int32)), (.int (0 : Int32)), (.int (0 : Int32))] := A1289
  refine W.aload 27 at_25 rfl rfl rfl ?_
  refine W.iconst 28 at_27 rfl (2 : Int32) rfl ?_
  refine W.iloadN 29 at_28 rfl rfl ?_
  refine W.iastore 30 at_29 rfl A1289 2 (by decide) (by decide) (Nat.le_of_ble_eq_true rfl) ge1287 ?_
  intro h1290 W1290 K1290 A1290
  have A1290 : Ary _ _ b1287 .int [(.int p1), (.int p2), (.int p3), (.int (0 : Int32)), (.int (0 : Int32)), (.int (0 : Int32)), (.int (0 : Int32)), (.int (0 : Int32)), (.int (0 : Int32))] := A1290
  refine W.aload 32 at_30 rfl rfl rfl ?_
  refine W.iconst 33 at_32 rfl (3 : Int32) rfl ?_
  refine W.iload 35 at_33 rfl rfl ?_
  refine W.iastore 36 at_35 rfl A1290 3 (by decide) (by decide) (Nat.le_of_ble_eq_true rfl) ge1287 ?_
  intro h1291 W1291 K1291 A1291
  have A1291 : Ary _ _ b1287 .int [(.int p1), (.int p2), (.int p3), (.int p4), (.int (0 : Int32)), (.int (0 : Int32)), (.int (0 : Int32)), (.int (0 : Int32)), (.int (0 : Int32))] := A1291
  refine W.aload 38 at_36 rfl rfl rfl ?_
  refine W.iconst 39 at_38 rfl (4 : Int32) rfl ?_
  refine W.iload 41 at_39 rfl rfl ?_
  refine W.iastore 42 at_41 rfl A1291 4 (by decide) (by decide) (Nat.le_of_ble_eq_true rfl) ge1287 ?_
  intro h1292 W1292 K1292 A1292
  have A1292 : Ary _ _ b1287 .int [(.int p1), (.int p2), (.int p3), (.int p4), (.int p5), (.int (0 : Int32)), (.int (0 : Int32)), (.int (0 : Int32)), (.int (0 : Int32))] := A1292
  refine W.aload 44 at_42 rfl rfl rfl ?_
  refine W.iconst 45 at_44 rfl (5 : Int32) rfl ?_
  refine W.iloadN 46 at_45 rfl rfl ?_
  refine W.iloadN 47 at_46 rfl rfl ?_
  refine W.ixor 48 at_47 rfl (p1 ^^^ p2) rfl ?_
  refine W.iastore 49 at_48 rfl A1292 5 (by decide) (by decide) (Nat.le_of_ble_eq_true rfl) ge1287 ?_
  intro h1293 W1293 K1293 A1293
  have A1293 : Ary _ _ b1287 .int [(.int p1), (.int p2), (.int p3), (.int p4), (.int p5), (.int (p1 ^^^ p2)), (.int (0 : Int32)), (.int (0 : Int32)), (.int (0 : Int32))] := A1293
  refine W.aload 51 at_49 rfl rfl rfl ?_
  refine W.bipush 53 at_51 rfl (6 : Int32) rfl ?_
  refine W.iloadN 54 at_53 rfl rfl ?_
  refine W.iconst 55 at_54 rfl (-1 : Int32) rfl ?_
  refine W.ixor 56 at_55 rfl (p3 ^^^ (-1 : Int32)) rfl ?_
  refine W.iastore 57 at_56 rfl A1293 6 (by decide) (by decide) (Nat.le_of_ble_eq_true rfl) ge1287 ?_
  intro h1294 W1294 K1294 A1294
  have A1294 : Ary _ _ b1287 .int [(.int p1), (.int p2), (.int p3), (.int p4), (.int p5), (.int (p1 ^^^ p2)), (.int (p3 ^^^ (-1 : Int32))), (.int (0 : Int32)), (.int (0 : Int32))] := A1294
  refine W.aload 59 at_57 rfl rfl rfl ?_
  refine W.bipush 61 at_59 rfl (7 : Int32) rfl ?_
  refine W.iload 63 at_61 rfl rfl ?_
  refine W.iload 65 at_63 rfl rfl ?_
  refine W.isub 66 at_65 rfl (p4 - p5) rfl ?_
  refine W.iastore 67 at_66 rfl A1294 7 (by decide) (by decide) (Nat.le_of_ble_eq_true rfl) ge1287 ?_
  intro h1295 W1295 K1295 A1295
  have A1295 : Ary _ _ b1287 .int [(.int p1), (.int p2), (.int p3), (.int p4), (.int p5), (.int (p1 ^^^ p2)), (.int (p3 ^^^ (-1 : Int32))), (.int (p4 - p5)), (.int (0 : Int32))] := A1295
  refine W.aload 69 at_67 rfl rfl rfl ?_
  refine W.bipush 71 at_69 rfl (8 : Int32) rfl ?_
  refine W.iloadN 72 at_71 rfl rfl ?_
  refine W.iload 74 at_72 rfl rfl ?_
  refine W.iadd 75 at_74 rfl (p1 + p5) rfl ?_
  refine W.iastore 76 at_75 rfl A1295 8 (by decide) (by decide) (Nat.le_of_ble_eq_true rfl) ge1287 ?_
  intro h1296 W1296 K1296 A1296
  have A1296 : Ary _ _ b1287 .int [(.int p1), (.int p2), (.int p3), (.int p4), (.int p5), (.int (p1 ^^^ p2)), (.int (p3 ^^^ (-1 : Int32))), (.int (p4 - p5)), (.int (p1 + p5))] := A1296
  refine W.new 79 at_76 rfl (wd_2 hw) (wd_3 hw) (wd_4 hw) (by decide) (by decide) ?_
  intro h1297 o1297 g1297 ge1297 X1297 K1297 E1297 D1297
  have ne1298 : b1287 ≠ o1297 := Nat.ne_of_lt (Nat.lt_of_lt_of_eq A1296.lt g1297.symm)
  have f1299 : Fld _ _ o1297 "com/example/pathweave/pathweave/eval/IntList" "values" "[I" .null := D1297 (Or.inl (wd_12 hw)) (ty := (.array .int)) (by decide)
  have f1300 : Fld _ _ o1297 "com/example/pathweave/pathweave/eval/IntList" "size" "I" (.int (0 : Int32)) := D1297 (Or.inl (wd_19 hw)) (ty := .int) (by decide)
  show W _ _ _ _ _ _ _ _ _ _ _ 2 11 79 #[.val (.int p0), .val (.int p1), .val (.int p2), .val (.int p3), .val (.int p4), .val (.int p5), .val (.int (6 : Int32)), .val (.ref b1287), .unset, .unset] [(.ref o1297)]
  refine W.dup 80 at_79 rfl rfl ?_
  refine W.callInit (rest := [(.ref o1297)]) (argsL := []) (a := o1297) 83 at_80 rfl (fun hn => c_init l Z a0 hw o1297 _ n0 hn ge1297 E1297 f1299 f1300) rfl (wd_5 hw) (wd_6 hw) (wd_4 hw) (wd_7 hw) (by decide) pd_2 rfl rfl rfl (by decide) 1 (Nat.le_of_ble_eq_true rfl) (by decide) (by decide) (by decide) ?_
  rintro v1301 h1301 ⟨rfl, b1301, sz1301, gb1301, ne1301, E1301, F1301, G1301, A1301, K1301, B1301⟩
  have q1302 := (A1296.keep K1297 nin0)
  have ne1303 : b1287 ≠ b1301 := Nat.ne_of_lt (Nat.lt_of_lt_of_le q1302.lt sz1301)
  have ne1304 : o1297 ≠ b1301 := Nat.ne_of_lt (Nat.lt_of_lt_of_le E1297.lt sz1301)
  show W _ _ _ _ _ _ _ _ _ _ _ 3 19 83 #[.val (.int p0), .val (.int p1), .val (.int p2), .val (.int p3), .val (.int p4), .val (.int p5), .val (.int (6 : Int32)), .val (.ref b1287), .unset, .unset] [(.ref o1297)]
  refine W.astore 85 at_83 rfl rfl #[.val (.int p0), .val (.int p1), .val (.int p2), .val (.int p3), .val (.int p4), .val (.int p5), .val (.int (6 : Int32)), .val (.ref b1287), .val (.ref o1297), .unset] rfl ?_
  refine W.iload 87 at_85 rfl rfl ?_
  refine W.if_le 99 90 at_87 rfl rfl (fun hc => absurd (by decide) hc) (fun _ => ?_)
  refine W.aload 92 at_90 rfl rfl rfl ?_
  refine W.aload 94 at_92 rfl rfl rfl ?_
  refine W.iconst 95 at_94 rfl (0 : Int32) rfl ?_
  have q1305 := (q1302.keep K1301 (ninS ne1298 nin0))
  refine W.iaload 96 at_95 rfl q1305 0 (by decide) (by decide) (.int p1) rfl ?_
  refine W.callV (rest := []) (argsL := [(.int p1)]) (a := o1297) 99 at_96 rfl (fun hn => c_add l Z a0 hw o1297 b1301 p1 (0 : Int32) (8 : Int32) _ 0 _ n0 hn ge1297 gb1301 ne1301 E1301 F1301 G1301 A1301 rfl (by decide) (by decide) (by decide) (Nat.le_of_ble_eq_true rfl)) E1301 (wd_37 hw) (wd_38 hw) (wd_40 hw) rfl (wd_39 hw) (wd_4 hw) (wd_41 hw) (by decide) pd_5 rfl rfl rfl (by decide) 0 (Nat.le_of_ble_eq_true rfl) (by decide) (by decide) (by decide) ?_
  rintro v1306 h1306 ⟨rfl, E1306, F1306, G1306, A1306, K1306⟩
  show W _ _ _ _ _ _ _ _ _ _ _ 3 19 99 #[.val (.int p0), .val (.int p1), .val (.int p2), .val (.int p3), .val (.int p4), .val (.int p5), .val (.int (6 : Int32)), .val (.ref b1287), .val (.ref o1297), .unset] []
  refine W.iload 101 at_99 rfl rfl ?_
  refine W.iconst 102 at_101 rfl (1 : Int32) rfl ?_
  refine W.icmp_le 114 105 at_102 rfl rfl (fun hc => absurd (by decide) hc) (fun _ => ?_)
  refine W.aload 107 at_105 rfl rfl rfl ?_
  refine W.aload 109 at_107 rfl rfl rfl ?_
  refine W.iconst 110 at_109 rfl (1 : Int32) rfl ?_
  have q1307 := (q1305.keep K1306 (ninS ne1298 (ninS ne1303 nin0)))
  refine W.iaload 111 at_110 rfl q1307 1 (by decide) (by decide) (.int p2) rfl ?_
  refine W.callV (rest := []) (argsL := [(.int p2)]) (a := o1297) 114 at_111 rfl (fun hn => c_add l Z a0 hw o1297 b1301 p2 (1 : Int32) (8 : Int32) _ 1 _ n0 hn ge1297 gb1301 ne1301 E1306 F1306 (show Fld _ _ _ _ _ _ (.int (1 : Int32)) from G1306) (show Ary _ _ _ .int [(.int p1), (.int (0 : Int32)), (.int (0 : Int32)), (.int (0 : Int32)), (.int (0 : Int32)), (.int (0 : Int32)), (.int (0 : Int32)), (.int (0 : Int32))] from A1306) rfl (by decide) (by decide) (by decide) (Nat.le_of_ble_eq_true rfl)) E1306 (wd_37 hw) (wd_38 hw) (wd_40 hw) rfl (wd_39 hw) (wd_4 hw) (wd_41 hw) (by decide) pd_5 rfl rfl rfl (by decide) 0 (Nat.le_of_ble_eq_true rfl) (by decide) (by decide) (by decide) ?_
  rintro v1308 h1308 ⟨rfl, E1308, F1308, G1308, A1308, K1308⟩
  show W _ _ _ _ _ _ _ _ _ _ _ 3 19 114 #[.val (.int p0), .val (.int p1), .val (.int p2), .val (.int p3), .val (.int p4), .val (.int p5), .val (.int (6 : Int32)), .val (.ref b1287), .val (.ref o1297), .unset] []
  refine W.iload 116 at_114 rfl rfl ?_
  refine W.iconst 117 at_116 rfl (2 : Int32) rfl ?_
  refine W.icmp_le 129 120 at_117 rfl rfl (fun hc => absurd (by decide) hc) (fun _ => ?_)
  refine W.aload 122 at_120 rfl rfl rfl ?_
  refine W.aload 124 at_122 rfl rfl rfl ?_
  refine W.iconst 125 at_124 rfl (2 : Int32) rfl ?_
  have q1309 := (q1307.keep K1308 (ninS ne1298 (ninS ne1303 nin0)))
  refine W.iaload 126 at_125 rfl q1309 2 (by decide) (by decide) (.int p3) rfl ?_
  refine W.callV (rest := []) (argsL := [(.int p3)]) (a := o1297) 129 at_126 rfl (fun hn => c_add l Z a0 hw o1297 b1301 p3 (2 : Int32) (8 : Int32) _ 2 _ n0 hn ge1297 gb1301 ne1301 E1308 F1308 (show Fld _ _ _ _ _ _ (.int (2 : Int32)) from G1308) (show Ary _ _ _ .int [(.int p1), (.int p2), (.int (0 : Int32)), (.int (0 : Int32)), (.int (0 : Int32)), (.int (0 : Int32)), (.int (0 : Int32)), (.int (0 : Int32))] from A1308) rfl (by decide) (by decide) (by decide) (Nat.le_of_ble_eq_true rfl)) E1308 (wd_37 hw) (wd_38 hw) (wd_40 hw) rfl (wd_39 hw) (wd_4 hw) (wd_41 hw) (by decide) pd_5 rfl rfl rfl (by decide) 0 (Nat.le_of_ble_eq_true rfl) (by decide) (by decide) (by decide) ?_
  rintro v1310 h1310 ⟨rfl, E1310, F1310, G1310, A1310, K1310⟩
  show W _ _ _ _ _ _ _ _ _ _ _ 3 19 129 #[.val (.int p0), .val (.int p1), .val (.int p2), .val (.int p3), .val (.int p4), .val (.int p5), .val (.int (6 : Int32)), .val (.ref b1287), .val (.ref o1297), .unset] []
  refine W.iload 131 at_129 rfl rfl ?_
  refine W.iconst 132 at_131 rfl (3 : Int32) rfl ?_
  refine W.icmp_le 144 135 at_132 rfl rfl (fun hc => absurd (by decide) hc) (fun _ => ?_)
  refine W.aload 137 at_135 rfl rfl rfl ?_
  refine W.aload 139 at_137 rfl rfl rfl ?_
  refine W.iconst 140 at_139 rfl (3 : Int32) rfl ?_
  have q1311 := (q1309.keep K1310 (ninS ne1298 (ninS ne1303 nin0)))
  refine W.iaload 141 at_140 rfl q1311 3 (by decide) (by decide) (.int p4) rfl ?_
  refine W.callV (rest := []) (argsL := [(.int p4)]) (a := o1297) 144 at_141 rfl (fun hn => c_add l Z a0 hw o1297 b1301 p4 (3 : Int32) (8 : Int32) _ 3 _ n0 hn ge1297 gb1301 ne1301 E1310 F1310 (show Fld _ _ _ _ _ _ (.int (3 : Int32)) from G1310) (show Ary _ _ _ .int [(.int p1), (.int p2), (.int p3), (.int (0 : Int32)), (.int (0 : Int32)), (.int (0 : Int32)), (.int (0 : Int32)), (.int (0 : Int32))] from A1310) rfl (by decide) (by decide) (by decide) (Nat.le_of_ble_eq_true rfl)) E1310 (wd_37 hw) (wd_38 hw) (wd_40 hw) rfl (wd_39 hw) (wd_4 hw) (wd_41 hw) (by decide) pd_5 rfl rfl rfl (by decide) 0 (Nat.le_of_ble_eq_true rfl) (by decide) (by decide) (by decide) ?_
  rintro v1312 h1312 ⟨rfl, E1312, F1312, G1312, A1312, K1312⟩
  show W _ _ _ _ _ _ _ _ _ _ _ 3 19 144 #[.val (.int p0), .val (.int p1), .val (.int p2), .val (.int p3), .val (.int p4), .val (.int p5), .val (.int (6 : Int32)), .val (.ref b1287), .val (.ref o1297), .unset] []
  refine W.iload 146 at_144 rfl rfl ?_
  refine W.iconst 147 at_146 rfl (4 : Int32) rfl ?_
  refine W.icmp_le 159 150 at_147 rfl rfl (fun hc => absurd (by decide) hc) (fun _ => ?_)
  refine W.aload 152 at_150 rfl rfl rfl ?_
  refine W.aload 154 at_152 rfl rfl rfl ?_
  refine W.iconst 155 at_154 rfl (4 : Int32) rfl ?_
  have q1313 := (q1311.keep K1312 (ninS ne1298 (ninS ne1303 nin0)))
  refine W.iaload 156 at_155 rfl q1313 4 (by decide) (by decide) (.int p5) rfl ?_
  refine W.callV (rest := []) (argsL := [(.int p5)]) (a := o1297) 159 at_156 rfl (fun hn => c_add l Z a0 hw o1297 b1301 p5 (4 : Int32) (8 : Int32) _ 4 _ n0 hn ge1297 gb1301 ne1301 E1312 F1312 (show Fld _ _ _ _ _ _ (.int (4 : Int32)) from G1312) (show Ary _ _ _ .int [(.int p1), (.int p2), (.int p3), (.int p4), (.int (0 : Int32)), (.int (0 : Int32)), (.int (0 : Int32)), (.int (0 : Int32))] from A1312) rfl (by decide) (by decide) (by decide) (Nat.le_of_ble_eq_true rfl)) E1312 (wd_37 hw) (wd_38 hw) (wd_40 hw) rfl (wd_39 hw) (wd_4 hw) (wd_41 hw) (by decide) pd_5 rfl rfl rfl (by decide) 0 (Nat.le_of_ble_eq_true rfl) (by decide) (by decide) (by decide) ?_
  rintro v1314 h1314 ⟨rfl, E1314, F1314, G1314, A1314, K1314⟩
  show W _ _ _ _ _ _ _ _ _ _ _ 3 19 159 #[.val (.int p0), .val (.int p1), .val (.int p2), .val (.int p3), .val (.int p4), .val (.int p5), .val (.int (6 : Int32)), .val (.ref b1287), .val (.ref o1297), .unset] []
  refine W.iload 161 at_159 rfl rfl ?_
  refine W.iconst 162 at_161 rfl (5 : Int32) rfl ?_
  refine W.icmp_le 174 165 at_162 rfl rfl (fun hc => absurd (by decide) hc) (fun _ => ?_)
  refine W.aload 167 at_165 rfl rfl rfl ?_
  refine W.aload 169 at_167 rfl rfl rfl ?_
  refine W.iconst 170 at_169 rfl (5 : Int32) rfl ?_
  have q1315 := (q1313.keep K1314 (ninS ne1298 (ninS ne1303 nin0)))
  refine W.iaload 171 at_170 rfl q1315 5 (by decide) (by decide) (.int (p1 ^^^ p2)) rfl ?_
  refine W.callV (rest := []) (argsL := [(.int (p1 ^^^ p2))]) (a := o1297) 174 at_171 rfl (fun hn => c_add l Z a0 hw o1297 b1301 (p1 ^^^ p2) (5 : Int32) (8 : Int32) _ 5 _ n0 hn ge1297 gb1301 ne1301 E1314 F1314 (show Fld _ _ _ _ _ _ (.int (5 : Int32)) from G1314) (show Ary _ _ _ .int [(.int p1), (.int p2), (.int p3), (.int p4), (.int p5), (.int (0 : Int32)), (.int (0 : Int32)), (.int (0 : Int32))] from A1314) rfl (by decide) (by decide) (by decide) (Nat.le_of_ble_eq_true rfl)) E1314 (wd_37 hw) (wd_38 hw) (wd_40 hw) rfl (wd_39 hw) (wd_4 hw) (wd_41 hw) (by decide) pd_5 rfl rfl rfl (by decide) 0 (Nat.le_of_ble_eq_true rfl) (by decide) (by decide) (by decide) ?_
  rintro v1316 h1316 ⟨rfl, E1316, F1316, G1316, A1316, K1316⟩
  show W _ _ _ _ _ _ _ _ _ _ _ 3 19 174 #[.val (.int p0), .val (.int p1), .val (.int p2), .val (.int p3), .val (.int p4), .val (.int p5), .val (.int (6 : Int32)), .val (.ref b1287), .val (.ref o1297), .unset] []
  refine W.iload 176 at_174 rfl rfl ?_
  refine W.bipush 178 at_176 rfl (6 : Int32) rfl ?_
  refine W.icmp_le 191 181 at_178 rfl rfl (fun _ => ?_) (fun hc => absurd hc (by decide))
  refine W.iload 193 at_191 rfl rfl ?_
  refine W.bipush 195 at_193 rfl (7 : Int32) rfl ?_
  refine W.icmp_le 208 198 at_195 rfl rfl (fun _ => ?_) (fun hc => absurd hc (by decide))
  refine W.iload 210 at_208 rfl rfl ?_
  refine W.bipush 212 at_210 rfl (8 : Int32) rfl ?_
  refine W.icmp_le 225 215 at_212 rfl rfl (fun _ => ?_) (fun hc => absurd hc (by decide))
  refine W.aload 227 at_225 rfl rfl rfl ?_
  refine W.callV (rest := []) (argsL := []) (a := o1297) 230 at_227 rfl (fun hn => c_size l Z a0 hw o1297 (6 : Int32) _ n0 hn (show Fld _ _ _ _ _ _ (.int (6 : Int32)) from G1316)) E1316 (wd_13 hw) (wd_14 hw) (wd_16 hw) rfl (wd_15 hw) (wd_4 hw) (wd_17 hw) (by decide) pd_3 rfl rfl rfl (by decide) 0 (Nat.le_of_ble_eq_true rfl) (by decide) (by decide) (by decide) ?_
  rintro v1317 h1317 ⟨rfl, rfl⟩
  show W _ _ _ _ _ _ _ _ _ _ _ 3 19 230 #[.val (.int p0), .val (.int p1), .val (.int p2), .val (.int p3), .val (.int p4), .val (.int p5), .val (.int (6 : Int32)), .val (.ref b1287), .val (.ref o1297), .unset] [(.int (6 : Int32))]
  refine W.iload 232 at_230 rfl rfl ?_
  refine W.icmp_eq 237 235 at_232 rfl rfl (fun _ => ?_) (fun hc => absurd (by decide) hc)
  refine W.aload 239 at_237 rfl rfl rfl ?_
  have q1318 := ((((((B1301.keep K1306).keep K1308).keep K1310).keep K1312).keep K1314).keep K1316)
  refine W.callV (rest := []) (argsL := []) (a := o1297) 242 at_239 rfl (fun hn => c_ta6 l Z a0 hw o1297 b1301 p1 p2 p3 p4 p5 (p1 ^^^ p2) (0 : Int32) (0 : Int32) _ n0 hn F1316 (show Fld _ _ _ _ _ _ (.int (6 : Int32)) from G1316) (show Ary _ _ _ .int [(.int p1), (.int p2), (.int p3), (.int p4), (.int p5), (.int (p1 ^^^ p2)), (.int (0 : Int32)), (.int (0 : Int32))] from A1316) q1318) E1316 (wd_20 hw) (wd_21 hw) (wd_23 hw) rfl (wd_22 hw) (wd_4 hw) (wd_24 hw) (by decide) pd_4 rfl rfl rfl (by decide) 0 (Nat.le_of_ble_eq_true rfl) (by decide) (by decide) (by decide) ?_
  rintro v1319 h1319 ⟨c1319, rfl, sz1319, gb1319, K1319, A1319⟩
  have q1320 := (q1315.keep K1316 (ninS ne1298 (ninS ne1303 nin0)))
  have ne1321 : b1287 ≠ c1319 := Nat.ne_of_lt (Nat.lt_of_lt_of_le q1320.lt sz1319)
  have ne1322 : b1301 ≠ c1319 := Nat.ne_of_lt (Nat.lt_of_lt_of_le (show Ary _ _ _ .int [(.int p1), (.int p2), (.int p3), (.int p4), (.int p5), (.int (p1 ^^^ p2)), (.int (0 : Int32)), (.int (0 : Int32))] from A1316).lt sz1319)
  have ne1323 : o1297 ≠ c1319 := Nat.ne_of_lt (Nat.lt_of_lt_of_le E1316.lt sz1319)
  show W _ _ _ _ _ _ _ _ _ _ _ 4 35 242 #[.val (.int p0), .val (.int p1), .val (.int p2), .val (.int p3), .val (.int p4), .val (.int p5), .val (.int (6 : Int32)), .val (.ref b1287), .val (.ref o1297), .unset] [(.ref c1319)]
  refine W.astore 244 at_242 rfl rfl #[.val (.int p0), .val (.int p1), .val (.int p2), .val (.int p3), .val (.int p4), .val (.int p5), .val (.int (6 : Int32)), .val (.ref b1287), .val (.ref o1297), .val (.ref c1319)] rfl ?_
  refine W.aload 246 at_244 rfl rfl rfl ?_
  refine W.arraylength 247 at_246 rfl A1319 (6 : Int32) rfl ?_
  refine W.iload 249 at_247 rfl rfl ?_
  refine W.icmp_eq 254 252 at_249 rfl rfl (fun _ => ?_) (fun hc => absurd (by decide) hc)
  refine W.iload 256 at_254 rfl rfl ?_
  refine W.if_le 272 259 at_256 rfl rfl (fun hc => absurd (by decide) hc) (fun _ => ?_)
  refine W.aload 261 at_259 rfl rfl rfl ?_
  refine W.iconst 262 at_261 rfl (0 : Int32) rfl ?_
  refine W.iaload 263 at_262 rfl A1319 0 (by decide) (by decide) (.int p1) rfl ?_
  refine W.aload 265 at_263 rfl rfl rfl ?_
  refine W.iconst 266 at_265 rfl (0 : Int32) rfl ?_
  have q1324 := (q1320.keep K1319 nin0)
  refine W.iaload 267 at_266 rfl q1324 0 (by decide) (by decide) (.int p1) rfl ?_
  refine W.icmp_eq 272 270 at_267 rfl rfl (fun _ => ?_) (fun hc => absurd rfl hc)
  refine W.iload 274 at_272 rfl rfl ?_
  refine W.iconst 275 at_274 rfl (1 : Int32) rfl ?_
  refine W.icmp_le 291 278 at_275 rfl rfl (fun hc => absurd (by decide) hc) (fun _ => ?_)
  refine W.aload 280 at_278 rfl rfl rfl ?_
  refine W.iconst 281 at_280 rfl (1 : Int32) rfl ?_
  refine W.iaload 282 at_281 rfl A1319 1 (by decide) (by decide) (.int p2) rfl ?_
  refine W.aload 284 at_282 rfl rfl rfl ?_
  refine W.iconst 285 at_284 rfl (1 : Int32) rfl ?_
  refine W.iaload 286 at_285 rfl q1324 1 (by decide) (by decide) (.int p2) rfl ?_
  refine W.icmp_eq 291 289 at_286 rfl rfl (fun _ => ?_) (fun hc => absurd rfl hc)
  refine W.iload 293 at_291 rfl rfl ?_
  refine W.iconst 294 at_293 rfl (2 : Int32) rfl ?_
  refine W.icmp_le 310 297 at_294 rfl rfl (fun hc => absurd (by decide) hc) (fun _ => ?_)
  refine W.aload 299 at_297 rfl rfl rfl ?_
  refine W.iconst 300 at_299 rfl (2 : Int32) rfl ?_
  refine W.iaload 301 at_300 rfl A1319 2 (by decide) (by decide) (.int p3) rfl ?_
  refine W.aload 303 at_301 rfl rfl rfl ?_
  refine W.iconst 304 at_303 rfl (2 : Int32) rfl ?_
  refine W.iaload 305 at_304 rfl q1324 2 (by decide) (by decide) (.int p3) rfl ?_
  refine W.icmp_eq 310 308 at_305 rfl rfl (fun _ => ?_) (fun hc => absurd rfl hc)
  refine W.iload 312 at_310 rfl rfl ?_
  refine W.iconst 313 at_312 rfl (3 : Int32) rfl ?_
  refine W.icmp_le 329 316 at_313 rfl rfl (fun hc => absurd (by decide) hc) (fun _ => ?_)
  refine W.aload 318 at_316 rfl rfl rfl ?_
  refine W.iconst 319 at_318 rfl (3 : Int32) rfl ?_
  refine W.iaload 320 at_319 rfl A1319 3 (by decide) (by decide) (.int p4) rfl ?_
  refine W.aload 322 at_320 rfl rfl rfl ?_
  refine W.iconst 323 at_322 rfl (3 : Int32) rfl ?_
  refine W.iaload 324 at_323 rfl q1324 3 (by decide) (by decide) (.int p4) rfl ?_
  refine W.icmp_eq 329 327 at_324 rfl rfl (fun _ => ?_) (fun hc => absurd rfl hc)
  refine W.iload 331 at_329 rfl rfl ?_
  refine W.iconst 332 at_331 rfl (4 : Int32) rfl ?_
  refine W.icmp_le 348 335 at_332 rfl rfl (fun hc => absurd (by decide) hc) (fun _ => ?_)
  refine W.aload 337 at_335 rfl rfl rfl ?_
  refine W.iconst 338 at_337 rfl (4 : Int32) rfl ?_
  refine W.iaload 339 at_338 rfl A1319 4 (by decide) (by decide) (.int p5) rfl ?_
  refine W.aload 341 at_339 rfl rfl rfl ?_
  refine W.iconst 342 at_341 rfl (4 : Int32) rfl ?_
  refine W.iaload 343 at_342 rfl q1324 4 (by decide) (by decide) (.int p5) rfl ?_
  refine W.icmp_eq 348 346 at_343 rfl rfl (fun _ => ?_) (fun hc => absurd rfl hc)
  refine W.iload 350 at_348 rfl rfl ?_
  refine W.iconst 351 at_350 rfl (5 : Int32) rfl ?_
  refine W.icmp_le 367 354 at_351 rfl rfl (fun hc => absurd (by decide) hc) (fun _ => ?_)
  refine W.aload 356 at_354 rfl rfl rfl ?_
  refine W.iconst 357 at_356 rfl (5 : Int32) rfl ?_
  refine W.iaload 358 at_357 rfl A1319 5 (by decide) (by decide) (.int (p1 ^^^ p2)) rfl ?_
  refine W.aload 360 at_358 rfl rfl rfl ?_
  refine W.iconst 361 at_360 rfl (5 : Int32) rfl ?_
  refine W.iaload 362 at_361 rfl q1324 5 (by decide) (by decide) (.int (p1 ^^^ p2)) rfl ?_
  refine W.icmp_eq 367 365 at_362 rfl rfl (fun _ => ?_) (fun hc => absurd rfl hc)
  refine W.iload 369 at_367 rfl rfl ?_
  refine W.bipush 371 at_369 rfl (6 : Int32) rfl ?_
  refine W.icmp_le 389 374 at_371 rfl rfl (fun _ => ?_) (fun hc => absurd hc (by decide))
  refine W.iload 391 at_389 rfl rfl ?_
  refine W.bipush 393 at_391 rfl (7 : Int32) rfl ?_
  refine W.icmp_le 411 396 at_393 rfl rfl (fun _ => ?_) (fun hc => absurd hc (by decide))
  refine W.iload 413 at_411 rfl rfl ?_
  refine W.bipush 415 at_413 rfl (8 : Int32) rfl ?_
  refine W.icmp_le 433 418 at_415 rfl rfl (fun _ => ?_) (fun hc => absurd hc (by decide))
  refine W.iconst 434 at_433 rfl (1 : Int32) rfl ?_
  exact W.ireturnN (t := .boolean) at_434 rfl (by simp) (1 : Int32) rfl rfl (by decide) (by decide)
set_option maxRecDepth 65536 in
set_option maxHeartbeats 40000000 in
theorem law_7 (l : Launch) (Z : State) (a0 : Array Value) (hw : ∀ d ∈ tables_1, d.before a0 Z = true) (p0 p1 p2 p3 p4 p5 : Int32) (h : Heap) (n0 : Nat) (hn : n0 ≤ h.size) (hN : ((p0 &&& (2147483647 : Int32)) % (10 : Int32)) = (7 : Int32)) : ConW tables_1 l Z x code maxLocals ret room_1 #[(.int p0), (.int p1), (.int p2), (.int p3), (.int p4), (.int p5)] h n0 (fun r _ => r = some (.int 1)) := by
  refine ConW.of_W (Ls := #[.val (.int p0), .val (.int p1), .val (.int p2), .val (.int p3), .val (.int p4), .val (.int p5), .unset, .unset, .unset, .unset]) (plainFor_of_name pn_2) hn (fun m => by first | (simp [entryFrame, mkF, argsToLocals, Value.category, maxLocals]; done) | rfl) ?_
  refine W.iloadN 1 at_0 rfl rfl ?_
  refine W.ldcI 3 at_1 rfl (wd_0 hw) ?_
  refine W.iand 4 at_3 rfl (p0 &&& (2147483647 : Int32)) rfl ?_
  refine W.bipush 6 at_4 rfl (10 : Int32) rfl ?_
  refine W.irem 7 at_6 rfl (by decide) (7 : Int32) hN ?_
  refine W.istore 9 at_7 rfl #[.val (.int p0), .val (.int p1), .val (.int p2), .val (.int p3), .val (.int p4), .val (.int p5), .val (.int (7 : Int32)), .unset, .unset, .unset] rfl ?_
  refine W.bipush 11 at_9 rfl (9 : Int32) rfl ?_
  refine W.newarray 13 at_11 rfl (wd_1 hw) rfl (by decide) 9 9 (by decide) (by decide) (by decide) (by decide) (by decide) rfl ?_
  intro h1325 b1325 g1325 ge1325 X1325 K1325 A1325
  have A1325 : Ary _ _ b1325 .int [(.int (0 : Int32)), (.int (0 : Int32)), (.int (0 : Int32)), (.int (0 : Int32)), (.int (0 : Int32)), (.int (0 : Int32)), (.int (0 : Int32)), (.int (0 : Int32)), (.int (0 : Int32))] := A1325
  show W _ _ _ _ _ _ _ _ _ _ _ 1 9 13 #[.val (.int p0), .val (.int p1), .val (.int p2), .val (.int p3), .val (.int p4), .val (.int p5), .val (.int (7 : Int32)), .unset, .unset, .unset] [(.ref b1325)]
  refine W.astore 15 at_13 rfl rfl #[.val (.int p0), .val (.int p1), .val (.int p2), .val (.int p3), .val (.int p4), .val (.int p5), .val (.int (7 : Int32)), .val (.ref b1325), .unset, .unset] rfl ?_
  refine W.aload 17 at_15 rfl rfl rfl ?_
  refine W.iconst 18 at_17 rfl (0 : Int32) rfl ?_
  refine W.iloadN 19 at_18 rfl rfl ?_
  refine W.iastore 20 at_19 rfl A1325 0 (by decide) (by decide) (Nat.le_of_ble_eq_true rfl) ge1325 ?_
  intro h1326 W1326 K1326 A1326
  have A1326 : Ary _ _ b1325 .int [(.int p1), (.int (0 : Int32)), (.int (0 : Int32)), (.int (0 : Int32)), (.int (0 : Int32)), (.int (0 : Int32)), (.int (0 : Int32)), (.int (0 : Int32)), (.int (0 : Int32))] := A1326
  refine W.aload 22 at_20 rfl rfl rfl ?_
  refine W.iconst 23 at_22 rfl (1 : Int32) rfl ?_
  refine W.iloadN 24 at_23 rfl rfl ?_
  refine W.iastore 25 at_24 rfl A1326 1 (by decide) (by decide) (Nat.le_of_ble_eq_true rfl) ge1325 ?_
  intro h1327 W1327 K1327 A1327
  have A1327 : Ary _ _ b1325 .int [(.int p1), (.int p2), (.int (0 : Int32)), (.int (0 : Int32)), (.int (0 : Int32)), (.int (0 : Int32)), (.int (0 : Int32)), (.int (0 : Int32)), (.int (0 : Int32))] := A1327
  refine W.aload 27 at_25 rfl rfl rfl ?_
  refine W.iconst 28 at_27 rfl (2 : Int32) rfl ?_
  refine W.iloadN 29 at_28 rfl rfl ?_
  refine W.iastore 30 at_29 rfl A1327 2 (by decide) (by decide) (Nat.le_of_ble_eq_true rfl) ge1325 ?_
  intro h1328 W1328 K1328 A1328
  have A1328 : Ary _ _ b1325 .int [(.int p1), (.int p2), (.int p3), (.int (0 : Int32)), (.int (0 : Int32)), (.int (0 : Int32)), (.int (0 : Int32)), (.int (0 : Int32)), (.int (0 : Int32))] := A1328
  refine W.aload 32 at_30 rfl rfl rfl ?_
  refine W.iconst 33 at_32 rfl (3 : Int32) rfl ?_
  refine W.iload 35 at_33 rfl rfl ?_
  refine W.iastore 36 at_35 rfl A1328 3 (by decide) (by decide) (Nat.le_of_ble_eq_true rfl) ge1325 ?_
  intro h1329 W1329 K1329 A1329
  have A1329 : Ary _ _ b1325 .int [(.int p1), (.int p2), (.int p3), (.int p4), (.int (0 : Int32)), (.int (0 : Int32)), (.int (0 : Int32)), (.int (0 : Int32)), (.int (0 : Int32))] := A1329
  refine W.aload 38 at_36 rfl rfl rfl ?_
  refine W.iconst 39 at_38 rfl (4 : Int32) rfl ?_
  refine W.iload 41 at_39 rfl rfl ?_
  refine W.iastore 42 at_41 rfl A1329 4 (by decide) (by decide) (Nat.le_of_ble_eq_true rfl) ge1325 ?_
  intro h1330 W1330 K1330 A1330
  have A1330 : Ary _ _ b1325 .int [(.int p1), (.int p2), (.int p3), (.int p4), (.int p5), (.int (0 : Int32)), (.int (0 : Int32)), (.int (0 : Int32)), (.int (0 : Int32))] := A1330
  refine W.aload 44 at_42 rfl rfl rfl ?_
  refine W.iconst 45 at_44 rfl (5 : Int32) rfl ?_
  refine W.iloadN 46 at_45 rfl rfl ?_
  refine W.iloadN 47 at_46 rfl rfl ?_
  refine W.ixor 48 at_47 rfl (p1 ^^^ p2) rfl ?_
  refine W.iastore 49 at_48 rfl A1330 5 (by decide) (by decide) (Nat.le_of_ble_eq_true rfl) ge1325 ?_
  intro h1331 W1331 K1331 A1331
  have A1331 : Ary _ _ b1325 .int [(.int p1), (.int p2), (.int p3), (.int p4), (.int p5), (.int (p1 ^^^ p2)), (.int (0 : Int32)), (.int (0 : Int32)), (.int (0 : Int32))] := A1331
  refine W.aload 51 at_49 rfl rfl rfl ?_
  refine W.bipush 53 at_51 rfl (6 : Int32) rfl ?_
  refine W.iloadN 54 at_53 rfl rfl ?_
  refine W.iconst 55 at_54 rfl (-1 : Int32) rfl ?_
  refine W.ixor 56 at_55 rfl (p3 ^^^ (-1 : Int32)) rfl ?_
  refine W.iastore 57 at_56 rfl A1331 6 (by decide) (by decide) (Nat.le_of_ble_eq_true rfl) ge1325 ?_
  intro h1332 W1332 K1332 A1332
  have A1332 : Ary _ _ b1325 .int [(.int p1), (.int p2), (.int p3), (.int p4), (.int p5), (.int (p1 ^^^ p2)), (.int (p3 ^^^ (-1 : Int32))), (.int (0 : Int32)), (.int (0 : Int32))] := A1332
  refine W.aload 59 at_57 rfl rfl rfl ?_
  refine W.bipush 61 at_59 rfl (7 : Int32) rfl ?_
  refine W.iload 63 at_61 rfl rfl ?_
  refine W.iload 65 at_63 rfl rfl ?_
  refine W.isub 66 at_65 rfl (p4 - p5) rfl ?_
  refine W.iastore 67 at_66 rfl A1332 7 (by decide) (by decide) (Nat.le_of_ble_eq_true rfl) ge1325 ?_
  intro h1333 W1333 K1333 A1333
  have A1333 : Ary _ _ b1325 .int [(.int p1), (.int p2), (.int p3), (.int p4), (.int p5), (.int (p1 ^^^ p2)), (.int (p3 ^^^ (-1 : Int32))), (.int (p4 - p5)), (.int (0 : Int32))] := A1333
  refine W.aload 69 at_67 rfl rfl rfl ?_
  refine W.bipush 71 at_69 rfl (8 : Int32) rfl ?_
  refine W.iloadN 72 at_71 rfl rfl ?_
  refine W.iload 74 at_72 rfl rfl ?_
  refine W.iadd 75 at_74 rfl (p1 + p5) rfl ?_
  refine W.iastore 76 at_75 rfl A1333 8 (by decide) (by decide) (Nat.le_of_ble_eq_true rfl) ge1325 ?_
  intro h1334 W1334 K1334 A1334
  have A1334 : Ary _ _ b1325 .int [(.int p1), (.int p2), (.int p3), (.int p4), (.int p5), (.int (p1 ^^^ p2)), (.int (p3 ^^^ (-1 : Int32))), (.int (p4 - p5)), (.int (p1 + p5))] := A1334
  refine W.new 79 at_76 rfl (wd_2 hw) (wd_3 hw) (wd_4 hw) (by decide) (by decide) ?_
  intro h1335 o1335 g1335 ge1335 X1335 K1335 E1335 D1335
  have ne1336 : b1325 ≠ o1335 := Nat.ne_of_lt (Nat.lt_of_lt_of_eq A1334.lt g1335.symm)
  have f1337 : Fld _ _ o1335 "com/example/pathweave/pathweave/eval/IntList" "values" "[I" .null := D1335 (Or.inl (wd_12 hw)) (ty := (.array .int)) (by decide)
  have f1338 : Fld _ _ o1335 "com/example/pathweave/pathweave/eval/IntList" "size" "I" (.int (0 : Int32)) := D1335 (Or.inl (wd_19 hw)) (ty := .int) (by decide)
  show W _ _ _ _ _ _ _ _ _ _ _ 2 11 79 #[.val (.int p0), .val (.int p1), .val (.int p2), .val (.int p3), .val (.int p4), .val (.int p5), .val (.int (7 : Int32)), .val (.ref b1325), .unset, .unset] [(.ref o1335)]
  refine W.dup 80 at_79 rfl rfl ?_
  refine W.callInit (rest := [(.ref o1335)]) (argsL := []) (a := o1335) 83 at_80 rfl (fun hn => c_init l Z a0 hw o1335 _ n0 hn ge1335 E1335 f1337 f1338) rfl (wd_5 hw) (wd_6 hw) (wd_4 hw) (wd_7 hw) (by decide) pd_2 rfl rfl rfl (by decide) 1 (Nat.le_of_ble_eq_true rfl) (by decide) (by decide) (by decide) ?_
  rintro v1339 h1339 ⟨rfl, b1339, sz1339, gb1339, ne1339, E1339, F1339, G1339, A1339, K1339, B1339⟩
  have q1340 := (A1334.keep K1335 nin0)
  have ne1341 : b1325 ≠ b1339 := Nat.ne_of_lt (Nat.lt_of_lt_of_le q1340.lt sz1339)
  have ne1342 : o1335 ≠ b1339 := Nat.ne_of_lt (Nat.lt_of_lt_of_le E1335.lt sz1339)
  show W _ _ _ _ _ _ _ _ _ _ _ 3 19 83 #[.val (.int p0), .val (.int p1), .val (.int p2), .val (.int p3), .val (.int p4), .val (.int p5), .val (.int (7 : Int32)), .val (.ref b1325), .unset, .unset] [(.ref o1335)]
  refine W.astore 85 at_83 rfl rfl #[.val (.int p0), .val (.int p1), .val (.int p2), .val (.int p3), .val (.int p4), .val (.int p5), .val (.int (7 : Int32)), .val (.ref b1325), .val (.ref o1335), .unset] rfl ?_
  refine W.iload 87 at_85 rfl rfl ?_
  refine W.if_le 99 90 at_87 rfl rfl (fun hc => absurd (by decide) hc) (fun _ => ?_)
  refine W.aload 92 at_90 rfl rfl rfl ?_
  refine W.aload 94 at_92 rfl rfl rfl ?_
  refine W.iconst 95 at_94 rfl (0 : Int32) rfl ?_
  have q1343 := (q1340.keep K1339 (ninS ne1336 nin0))
  refine W.iaload 96 at_95 rfl q1343 0 (by decide) (by decide) (.int p1) rfl ?_
  refine W.callV (rest := []) (argsL := [(.int p1)]) (a := o1335) 99 at_96 rfl (fun hn => c_add l Z a0 hw o1335 b1339 p1 (0 : Int32) (8 : Int32) _ 0 _ n0 hn ge1335 gb1339 ne1339 E1339 F1339 G1339 A1339 rfl (by decide) (by decide) (by decide) (Nat.le_of_ble_eq_true rfl)) E1339 (wd_37 hw) (wd_38 hw) (wd_40 hw) rfl (wd_39 hw) (wd_4 hw) (wd_41 hw) (by decide) pd_5 rfl rfl rfl (by decide) 0 (Nat.le_of_ble_eq_true rfl) (by decide) (by decide) (by decide) ?_
  rintro v1344 h1344 ⟨rfl, E1344, F1344, G1344, A1344, K1344⟩
  show W _ _ _ _ _ _ _ _ _ _ _ 3 19 99 #[.val (.int p0), .val (.int p1), .val (.int p2), .val (.int p3), .val (.int p4), .val (.int p5), .val (.int (7 : Int32)), .val (.ref b1325), .val (.ref o1335), .unset] []
  refine W.iload 101 at_99 rfl rfl ?_
  refine W.iconst 102 at_101 rfl (1 : Int32) rfl ?_
  refine W.icmp_le 114 105 at_102 rfl rfl (fun hc => absurd (by decide) hc) (fun _ => ?_)
  refine W.aload 107 at_105 rfl rfl rfl ?_
  refine W.aload 109 at_107 rfl rfl rfl ?_
  refine W.iconst 110 at_109 rfl (1 : Int32) rfl ?_
  have q1345 := (q1343.keep K1344 (ninS ne1336 (ninS ne1341 nin0)))
  refine W.iaload 111 at_110 rfl q1345 1 (by decide) (by decide) (.int p2) rfl ?_
  refine W.callV (rest := []) (argsL := [(.int p2)]) (a := o1335) 114 at_111 rfl (fun hn => c_add l Z a0 hw o1335 b1339 p2 (1 : Int32) (8 : Int32) _ 1 _ n0 hn ge1335 gb1339 ne1339 E1344 F1344 (show Fld _ _ _ _ _ _ (.int (1 : Int32)) from G1344) (show Ary _ _ _ .int [(.int p1), (.int (0 : Int32)), (.int (0 : Int32)), (.int (0 : Int32)), (.int (0 : Int32)), (.int (0 : Int32)), (.int (0 : Int32)), (.int (0 : Int32))] from A1344) rfl (by decide) (by decide) (by decide) (Nat.le_of_ble_eq_true rfl)) E1344 (wd_37 hw) (wd_38 hw) (wd_40 hw) rfl (wd_39 hw) (wd_4 hw) (wd_41 hw) (by decide) pd_5 rfl rfl rfl (by decide) 0 (Nat.le_of_ble_eq_true rfl) (by decide) (by decide) (by decide) ?_
  rintro v1346 h1346 ⟨rfl, E1346, F1346, G1346, A1346, K1346⟩
  show W _ _ _ _ _ _ _ _ _ _ _ 3 19 114 #[.val (.int p0), .val (.int p1), .val (.int p2), .val (.int p3), .val (.int p4), .val (.int p5), .val (.int (7 : Int32)), .val (.ref b1325), .val (.ref o1335), .unset] []
  refine W.iload 116 at_114 rfl rfl ?_
  refine W.iconst 117 at_116 rfl (2 : Int32) rfl ?_
  refine W.icmp_le 129 120 at_117 rfl rfl (fun hc => absurd (by decide) hc) (fun _ => ?_)
  refine W.aload 122 at_120 rfl rfl rfl ?_
  refine W.aload 124 at_122 rfl rfl rfl ?_
  refine W.iconst 125 at_124 rfl (2 : Int32) rfl ?_
  have q1347 := (q1345.keep K1346 (ninS ne1336 (ninS ne1341 nin0)))
  refine W.iaload 126 at_125 rfl q1347 2 (by decide) (by decide) (.int p3) rfl ?_
  refine W.callV (rest := []) (argsL := [(.int p3)]) (a := o1335) 129 at_126 rfl (fun hn => c_add l Z a0 hw o1335 b1339 p3 (2 : Int32) (8 : Int32) _ 2 _ n0 hn ge1335 gb1339 ne1339 E1346 F1346 (show Fld _ _ _ _ _ _ (.int (2 : Int32)) from G1346) (show Ary _ _ _ .int [(.int p1), (.int p2), (.int (0 : Int32)), (.int (0 : Int32)), (.int (0 : Int32)), (.int (0 : Int32)), (.int (0 : Int32)), (.int (0 : Int32))] from A1346) rfl (by decide) (by decide) (by decide) (Nat.le_of_ble_eq_true rfl)) E1346 (wd_37 hw) (wd_38 hw) (wd_40 hw) rfl (wd_39 hw) (wd_4 hw) (wd_41 hw) (by decide) pd_5 rfl rfl rfl (by decide) 0 (Nat.le_of_ble_eq_true rfl) (by decide) (by decide) (by decide) ?_
  rintro v1348 h1348 ⟨rfl, E1348, F1348, G1348, A1348, K1348⟩
  show W _ _ _ _ _ _ _ _ _ _ _ 3 19 129 #[.val (.int p0), .val (.int p1), .val (.int p2), .val (.int p3), .val (.int p4), .val (.int p5), .val (.int (7 : Int32)), .val (.ref b1325), .val (.ref o1335), .unset] []
  refine W.iload 131 at_129 rfl rfl ?_
  refine W.iconst 132 at_131 rfl (3 : Int32) rfl ?_
  refine W.icmp_le 144 135 at_132 rfl rfl (fun hc => absurd (by decide) hc) (fun _ => ?_)
  refine W.aload 137 at_135 rfl rfl rfl ?_
  refine W.aload 139 at_137 rfl rfl rfl ?_
  refine W.iconst 140 at_139 rfl (3 : Int32) rfl ?_
  have q1349 := (q1347.keep K1348 (ninS ne1336 (ninS ne1341 nin0)))
  refine W.iaload 141 at_140 rfl q1349 3 (by decide) (by decide) (.int p4) rfl ?_
  refine W.callV (rest := []) (argsL := [(.int p4)]) (a := o1335) 144 at_141 rfl (fun hn => c_add l Z a0 hw o1335 b1339 p4 (3 : Int32) (8 : Int32) _ 3 _ n0 hn ge1335 gb1339 ne1339 E1348 F1348 (show Fld _ _ _ _ _ _ (.int (3 : Int32)) from G1348) (show Ary _ _ _ .int [(.int p1), (.int p2), (.int p3), (.int (0 : Int32)), (.int (0 : Int32)), (.int (0 : Int32)), (.int (0 : Int32)), (.int (0 : Int32))] from A1348) rfl (by decide) (by decide) (by decide) (Nat.le_of_ble_eq_true rfl)) E1348 (wd_37 hw) (wd_38 hw) (wd_40 hw) rfl (wd_39 hw) (wd_4 hw) (wd_41 hw) (by decide) pd_5 rfl rfl rfl (by decide) 0 (Nat.le_of_ble_eq_true rfl) (by decide) (by decide) (by decide) ?_
  rintro v1350 h1350 ⟨rfl, E1350, F1350, G1350, A1350, K1350⟩
  show W _ _ _ _ _ _ _ _ _ _ _ 3 19 144 #[.val (.int p0), .val (.int p1), .val (.int p2), .val (.int p3), .val (.int p4), .val (.int p5), .val (.int (7 : Int32)), .val (.ref b1325), .val (.ref o1335), .unset] []
  refine W.iload 146 at_144 rfl rfl ?_
  refine W.iconst 147 at_146 rfl (4 : Int32) rfl ?_
  refine W.icmp_le 159 150 at_147 rfl rfl (fun hc => absurd (by decide) hc) (fun _ => ?_)
  refine W.aload 152 at_150 rfl rfl rfl ?_
  refine W.aload 154 at_152 rfl rfl rfl ?_
  refine W.iconst 155 at_154 rfl (4 : Int32) rfl ?_
  have q1351 := (q1349.keep K1350 (ninS ne1336 (ninS ne1341 nin0)))
  refine W.iaload 156 at_155 rfl q1351 4 (by decide) (by decide) (.int p5) rfl ?_
  refine W.callV (rest := []) (argsL := [(.int p5)]) (a := o1335) 159 at_156 rfl (fun hn => c_add l Z a0 hw o1335 b1339 p5 (4 : Int32) (8 : Int32) _ 4 _ n0 hn ge1335 gb1339 ne1339 E1350 F1350 (show Fld _ _ _ _ _ _ (.int (4 : Int32)) from G1350) (show Ary _ _ _ .int [(.int p1), (.int p2), (.int p3), (.int p4), (.int (0 : Int32)), (.int (0 : Int32)), (.int (0 : Int32)), (.int (0 : Int32))] from A1350) rfl (by decide) (by decide) (by decide) (Nat.le_of_ble_eq_true rfl)) E1350 (wd_37 hw) (wd_38 hw) (wd_40 hw) rfl (wd_39 hw) (wd_4 hw) (wd_41 hw) (by decide) pd_5 rfl rfl rfl (by decide) 0 (Nat.le_of_ble_eq_true rfl) (by decide) (by decide) (by decide) ?_
  rintro v1352 h1352 ⟨rfl, E1352, F1352, G1352, A1352, K1352⟩
  show W _ _ _ _ _ _ _ _ _ _ _ 3 19 159 #[.val (.int p0), .val (.int p1), .val (.int p2), .val (.int p3), .val (.int p4), .val (.int p5), .val (.int (7 : Int32)), .val (.ref b1325), .val (.ref o1335), .unset] []
  refine W.iload 161 at_159 rfl rfl ?_
  refine W.iconst 162 at_161 rfl (5 : Int32) rfl ?_
  refine W.icmp_le 174 165 at_162 rfl rfl (fun hc => absurd (by decide) hc) (fun _ => ?_)
  refine W.aload 167 at_165 rfl rfl rfl ?_
  refine W.aload 169 at_167 rfl rfl rfl ?_
  refine W.iconst 170 at_169 rfl (5 : Int32) rfl ?_
  have q1353 := (q1351.keep K1352 (ninS ne1336 (ninS ne1341 nin0)))
  refine W.iaload 171 at_170 rfl q1353 5 (by decide) (by decide) (.int (p1 ^^^ p2)) rfl ?_
  refine W.callV (rest := []) (argsL := [(.int (p1 ^^^ p2))]) (a := o1335) 174 at_171 rfl (fun hn => c_add l Z a0 hw o1335 b1339 (p1 ^^^ p2) (5 : Int32) (8 : Int32) _ 5 _ n0 hn ge1335 gb1339 ne1339 E1352 F1352 (show Fld _ _ _ _ _ _ (.int (5 : Int32)) from G1352) (show Ary _ _ _ .int [(.int p1), (.int p2), (.int p3), (.int p4), (.int p5), (.int (0 : Int32)), (.int (0 : Int32)), (.int (0 : Int32))] from A1352) rfl (by decide) (by decide) (by decide) (Nat.le_of_ble_eq_true rfl)) E1352 (wd_37 hw) (wd_38 hw) (wd_40 hw) rfl (wd_39 hw) (wd_4 hw) (wd_41 hw) (by decide) pd_5 rfl rfl rfl (by decide) 0 (Nat.le_of_ble_eq_true rfl) (by decide) (by decide) (by decide) ?_
  rintro v1354 h1354 ⟨rfl, E1354, F1354, G1354, A1354, K1354⟩
  show W _ _ _ _ _ _ _ _ _ _ _ 3 19 174 #[.val (.int p0), .val (.int p1), .val (.int p2), .val (.int p3), .val (.int p4), .val (.int p5), .val (.int (7 : Int32)), .val (.ref b1325), .val (.ref o1335), .unset] []
  refine W.iload 176 at_174 rfl rfl ?_
  refine W.bipush 178 at_176 rfl (6 : Int32) rfl ?_
  refine W.icmp_le 191 181 at_178 rfl rfl (fun hc => absurd (by decide) hc) (fun _ => ?_)
  refine W.aload 183 at_181 rfl rfl rfl ?_
  refine W.aload 185 at_183 rfl rfl rfl ?_
  refine W.bipush 187 at_185 rfl (6 : Int32) rfl ?_
  have q1355 := (q1353.keep K1354 (ninS ne1336 (ninS ne1341 nin0)))
  refine W.iaload 188 at_187 rfl q1355 6 (by decide) (by decide) (.int (p3 ^^^ (-1 : Int32))) rfl ?_
  refine W.callV (rest := []) (argsL := [(.int (p3 ^^^ (-1 : Int32)))]) (a := o1335) 191 at_188 rfl (fun hn => c_add l Z a0 hw o1335 b1339 (p3 ^^^ (-1 : Int32)) (6 : Int32) (8 : Int32) _ 6 _ n0 hn ge1335 gb1339 ne1339 E1354 F1354 (show Fld _ _ _ _ _ _ (.int (6 : Int32)) from G1354) (show Ary _ _ _ .int [(.int p1), (.int p2), (.int p3), (.int p4), (.int p5), (.int (p1 ^^^ p2)), (.int (0 : Int32)), (.int (0 : Int32))] from A1354) rfl (by decide) (by decide) (by decide) (Nat.le_of_ble_eq_true rfl)) E1354 (wd_37 hw) (wd_38 hw) (wd_40 hw) rfl (wd_39 hw) (wd_4 hw) (wd_41 hw) (by decide) pd_5 rfl rfl rfl (by decide) 0 (Nat.le_of_ble_eq_true rfl) (by decide) (by decide) (by decide) ?_
  rintro v1356 h1356 ⟨rfl, E1356, F1356, G1356, A1356, K1356⟩
  show W _ _ _ _ _ _ _ _ _ _ _ 3 19 191 #[.val (.int p0), .val (.int p1), .val (.int p2), .val (.int p3), .val (.int p4), .val (.int p5), .val (.int (7 : Int32)), .val (.ref b1325), .val (.ref o1335), .unset] []
  refine W.iload 193 at_191 rfl rfl ?_
  refine W.bipush 195 at_193 rfl (7 : Int32) rfl ?_
  refine W.icmp_le 208 198 at_195 rfl rfl (fun _ => ?_) (fun hc => absurd hc (by decide))
  refine W.iload 210 at_208 rfl rfl ?_
  refine W.bipush 212 at_210 rfl (8 : Int32) rfl ?_
  refine W.icmp_le 225 215 at_212 rfl rfl (fun _ => ?_) (fun hc => absurd hc (by decide))
  refine W.aload 227 at_225 rfl rfl rfl ?_
  refine W.callV (rest := []) (argsL := []) (a := o1335) 230 at_227 rfl (fun hn => c_size l Z a0 hw o1335 (7 : Int32) _ n0 hn (show Fld _ _ _ _ _ _ (.int (7 : Int32)) from G1356)) E1356 (wd_13 hw) (wd_14 hw) (wd_16 hw) rfl (wd_15 hw) (wd_4 hw) (wd_17 hw) (by decide) pd_3 rfl rfl rfl (by decide) 0 (Nat.le_of_ble_eq_true rfl) (by decide) (by decide) (by decide) ?_
  rintro v1357 h1357 ⟨rfl, rfl⟩
  show W _ _ _ _ _ _ _ _ _ _ _ 3 19 230 #[.val (.int p0), .val (.int p1), .val (.int p2), .val (.int p3), .val (.int p4), .val (.int p5), .val (.int (7 : Int32)), .val (.ref b1325), .val (.ref o1335), .unset] [(.int (7 : Int32))]
  refine W.iload 232 at_230 rfl rfl ?_
  refine W.icmp_eq 237 235 at_232 rfl rfl (fun _ => ?_) (fun hc => absurd (by decide) hc)
  refine W.aload 239 at_237 rfl rfl rfl ?_
  have q1358 := (((((((B1339.keep K1344).keep K1346).keep K1348).keep K1350).keep K1352).keep K1354).keep K1356)
  refine W.callV (rest := []) (argsL := []) (a := o1335) 242 at_239 rfl (fun hn => c_ta7 l Z a0 hw o1335 b1339 p1 p2 p3 p4 p5 (p1 ^^^ p2) (p3 ^^^ (-1 : Int32)) (0 : Int32) _ n0 hn F1356 (show Fld _ _ _ _ _ _ (.int (7 : Int32)) from G1356) (show Ary _ _ _ .int [(.int p1), (.int p2), (.int p3), (.int p4), (.int p5), (.int (p1 ^^^ p2)), (.int (p3 ^^^ (-1 : Int32))), (.int (0 : Int32))] from A1356) q1358) E1356 (wd_20 hw) (wd_21 hw) (wd_23 hw) rfl (wd_22 hw) (wd_4 hw) (wd_24 hw) (by decide) pd_4 rfl rfl rfl (by decide) 0 (Nat.le_of_ble_eq_true rfl) (by decide) (by decide) (by decide) ?_
  rintro v1359 h1359 ⟨c1359, rfl, sz1359, gb1359, K1359, A1359⟩
  have q1360 := (q1355.keep K1356 (ninS ne1336 (ninS ne1341 nin0)))
  have ne1361 : b1325 ≠ c1359 := Nat.ne_of_lt (Nat.lt_of_lt_of_le q1360.lt sz1359)
  have ne1362 : b1339 ≠ c1359 := Nat.ne_of_lt (Nat.lt_of_lt_of_le (show Ary _ _ _ .int [(.int p1), (.int p2), (.int p3), (.int p4), (.int p5), (.int (p1 ^^^ p2)), (.int (p3 ^^^ (-1 : Int32))), (.int (0 : Int32))] from A1356).lt sz1359)
  have ne1363 : o1335 ≠ c1359 := Nat.ne_of_lt (Nat.lt_of_lt_of_le E1356.lt sz1359)
  show W _ _ _ _ _ _ _ _ _ _ _ 4 35 242 #[.val (.int p0), .val (.int p1), .val (.int p2), .val (.int p3), .val (.int p4), .val (.int p5), .val (.int (7 : Int32)), .val (.ref b1325), .val (.ref o1335), .unset] [(.ref c1359)]
  refine W.astore 244 at_242 rfl rfl #[.val (.int p0), .val (.int p1), .val (.int p2), .val (.int p3), .val (.int p4), .val (.int p5), .val (.int (7 : Int32)), .val (.ref b1325), .val (.ref o1335), .val (.ref c1359)] rfl ?_
  refine W.aload 246 at_244 rfl rfl rfl ?_
  refine W.arraylength 247 at_246 rfl A1359 (7 : Int32) rfl ?_
  refine W.iload 249 at_247 rfl rfl ?_
  refine W.icmp_eq 254 252 at_249 rfl rfl (fun _ => ?_) (fun hc => absurd (by decide) hc)
  refine W.iload 256 at_254 rfl rfl ?_
  refine W.if_le 272 259 at_256 rfl rfl (fun hc => absurd (by decide) hc) (fun _ => ?_)
  refine W.aload 261 at_259 rfl rfl rfl ?_
  refine W.iconst 262 at_261 rfl (0 : Int32) rfl ?_
  refine W.iaload 263 at_262 rfl A1359 0 (by decide) (by decide) (.int p1) rfl ?_
  refine W.aload 265 at_263 rfl rfl rfl ?_
  refine W.iconst 266 at_265 rfl (0 : Int32) rfl ?_
  have q1364 := (q1360.keep K1359 nin0)
  refine W.iaload 267 at_266 rfl q1364 0 (by decide) (by decide) (.int p1) rfl ?_
  refine W.icmp_eq 272 270 at_267 rfl rfl (fun _ => ?_) (fun hc => absurd rfl hc)
  refine W.iload 274 at_272 rfl rfl ?_
  refine W.iconst 275 at_274 rfl (1 : Int32) rfl ?_
  refine W.icmp_le 291 278 at_275 rfl rfl (fun hc => absurd (by decide) hc) (fun _ => ?_)
  refine W.aload 280 at_278 rfl rfl rfl ?_
  refine W.iconst 281 at_280 rfl (1 : Int32) rfl ?_
  refine W.iaload 282 at_281 rfl A1359 1 (by decide) (by decide) (.int p2) rfl ?_
  refine W.aload 284 at_282 rfl rfl rfl ?_
  refine W.iconst 285 at_284 rfl (1 : Int32) rfl ?_
  refine W.iaload 286 at_285 rfl q1364 1 (by decide) (by decide) (.int p2) rfl ?_
  refine W.icmp_eq 291 289 at_286 rfl rfl (fun _ => ?_) (fun hc => absurd rfl hc)
  refine W.iload 293 at_291 rfl rfl ?_
  refine W.iconst 294 at_293 rfl (2 : Int32) rfl ?_
  refine W.icmp_le 310 297 at_294 rfl rfl (fun hc => absurd (by decide) hc) (fun _ => ?_)
  refine W.aload 299 at_297 rfl rfl rfl ?_
  refine W.iconst 300 at_299 rfl (2 : Int32) rfl ?_
  refine W.iaload 301 at_300 rfl A1359 2 (by decide) (by decide) (.int p3) rfl ?_
  refine W.aload 303 at_301 rfl rfl rfl ?_
  refine W.iconst 304 at_303 rfl (2 : Int32) rfl ?_
  refine W.iaload 305 at_304 rfl q1364 2 (by decide) (by decide) (.int p3) rfl ?_
  refine W.icmp_eq 310 308 at_305 rfl rfl (fun _ => ?_) (fun hc => absurd rfl hc)
  refine W.iload 312 at_310 rfl rfl ?_
  refine W.iconst 313 at_312 rfl (3 : Int32) rfl ?_
  refine W.icmp_le 329 316 at_313 rfl rfl (fun hc => absurd (by decide) hc) (fun _ => ?_)
  refine W.aload 318 at_316 rfl rfl rfl ?_
  refine W.iconst 319 at_318 rfl (3 : Int32) rfl ?_
  refine W.iaload 320 at_319 rfl A1359 3 (by decide) (by decide) (.int p4) rfl ?_
  refine W.aload 322 at_320 rfl rfl rfl ?_
  refine W.iconst 323 at_322 rfl (3 : Int32) rfl ?_
  refine W.iaload 324 at_323 rfl q1364 3 (by decide) (by decide) (.int p4) rfl ?_
  refine W.icmp_eq 329 327 at_324 rfl rfl (fun _ => ?_) (fun hc => absurd rfl hc)
  refine W.iload 331 at_329 rfl rfl ?_
  refine W.iconst 332 at_331 rfl (4 : Int32) rfl ?_
  refine W.icmp_le 348 335 at_332 rfl rfl (fun hc => absurd (by decide) hc) (fun _ => ?_)
  refine W.aload 337 at_335 rfl rfl rfl ?_
  refine W.iconst 338 at_337 rfl (4 : Int32) rfl ?_
  refine W.iaload 339 at_338 rfl A1359 4 (by decide) (by decide) (.int p5) rfl ?_
  refine W.aload 341 at_339 rfl rfl rfl ?_
  refine W.iconst 342 at_341 rfl (4 : Int32) rfl ?_
  refine W.iaload 343 at_342 rfl q1364 4 (by decide) (by decide) (.int p5) rfl ?_
  refine W.icmp_eq 348 346 at_343 rfl rfl (fun _ => ?_) (fun hc => absurd rfl hc)
  refine W.iload 350 at_348 rfl rfl ?_
  refine W.iconst 351 at_350 rfl (5 : Int32) rfl ?_
  refine W.icmp_le 367 354 at_351 rfl rfl (fun hc => absurd (by decide) hc) (fun _ => ?_)
  refine W.aload 356 at_354 rfl rfl rfl ?_
  refine W.iconst 357 at_356 rfl (5 : Int32) rfl ?_
  refine W.iaload 358 at_357 rfl A1359 5 (by decide) (by decide) (.int (p1 ^^^ p2)) rfl ?_
  refine W.aload 360 at_358 rfl rfl rfl ?_
  refine W.iconst 361 at_360 rfl (5 : Int32) rfl ?_
  refine W.iaload 362 at_361 rfl q1364 5 (by decide) (by decide) (.int (p1 ^^^ p2)) rfl ?_
  refine W.icmp_eq 367 365 at_362 rfl rfl (fun _ => ?_) (fun hc => absurd rfl hc)
  refine W.iload 369 at_367 rfl rfl ?_
  refine W.bipush 371 at_369 rfl (6 : Int32) rfl ?_
  refine W.icmp_le 389 374 at_371 rfl rfl (fun hc => absurd (by decide) hc) (fun _ => ?_)
  refine W.aload 376 at_374 rfl rfl rfl ?_
  refine W.bipush 378 at_376 rfl (6 : Int32) rfl ?_
  refine W.iaload 379 at_378 rfl A1359 6 (by decide) (by decide) (.int (p3 ^^^ (-1 : Int32))) rfl ?_
  refine W.aload 381 at_379 rfl rfl rfl ?_
  refine W.bipush 383 at_381 rfl (6 : Int32) rfl ?_
  refine W.iaload 384 at_383 rfl q1364 6 (by decide) (by decide) (.int (p3 ^^^ (-1 : Int32))) rfl ?_
  refine W.icmp_eq 389 387 at_384 rfl rfl (fun _ => ?_) (fun hc => absurd rfl hc)
  refine W.iload 391 at_389 rfl rfl ?_
  refine W.bipush 393 at_391 rfl (7 : Int32) rfl ?_
  refine W.icmp_le 411 396 at_393 rfl rfl (fun _ => ?_) (fun hc => absurd hc (by decide))
  refine W.iload 413 at_411 rfl rfl ?_
  refine W.bipush 415 at_413 rfl (8 : Int32) rfl ?_
  refine W.icmp_le 433 418 at_415 rfl rfl (fun _ => ?_) (fun hc => absurd hc (by decide))
  refine W.iconst 434 at_433 rfl (1 : Int32) rfl ?_
  exact W.ireturnN (t := .boolean) at_434 rfl (by simp) (1 : Int32) rfl rfl (by decide) (by decide)
set_option maxRecDepth 65536 in
set_option maxHeartbeats 40000000 in
theorem law_8 (l : Launch) (Z : State) (a0 : Array Value) (hw : ∀ d ∈ tables_1, d.before a0 Z = true) (p0 p1 p2 p3 p4 p5 : Int32) (h : Heap) (n0 : Nat) (hn : n0 ≤ h.size) (hN : ((p0 &&& (2147483647 : Int32)) % (10 : Int32)) = (8 : Int32)) : ConW tables_1 l Z x code maxLocals ret room_1 #[(.int p0), (.int p1), (.int p2), (.int p3), (.int p4), (.int p5)] h n0 (fun r _ => r = some (.int 1)) := by
  refine ConW.of_W (Ls := #[.val (.int p0), .val (.int p1), .val (.int p2), .val (.int p3), .val (.int p4), .val (.int p5), .unset, .unset, .unset, .unset]) (plainFor_of_name pn_2) hn (fun m => by first | (simp [entryFrame, mkF, argsToLocals, Value.category, maxLocals]; done) | rfl) ?_
  refine W.iloadN 1 at_0 rfl rfl ?_
  refine W.ldcI 3 at_1 rfl (wd_0 hw) ?_
  refine W.iand 4 at_3 rfl (p0 &&& (2147483647 : Int32)) rfl ?_
  refine W.bipush 6 at_4 rfl (10 : Int32) rfl ?_
  refine W.irem 7 at_6 rfl (by decide) (8 : Int32) hN ?_
  refine W.istore 9 at_7 rfl #[.val (.int p0), .val (.int p1), .val (.int p2), .val (.int p3), .val (.int p4), .val (.int p5), .val (.int (8 : Int32)), .unset, .unset, .unset] rfl ?_
  refine W.bipush 11 at_9 rfl (9 : Int32) rfl ?_
  refine W.newarray 13 at_11 rfl (wd_1 hw) rfl (by decide) 9 9 (by decide) (by decide) (by decide) (by decide) (by decide) rfl ?_
  intro h1365 b1365 g1365 ge1365 X1365 K1365 A1365
  have A1365 : Ary _ _ b1365 .int [(.int (0 : Int32)), (.int (0 : Int32)), (.int (0 : Int32)), (.int (0 : Int32)), (.int (0 : Int32)), (.int (0 : Int32)), (.int (0 : Int32)), (.int (0 : Int32)), (.int (0 : Int32))] := A1365
  show W _ _ _ _ _ _ _ _ _ _ _ 1 9 13 #[.val (.int p0), .val (.int p1), .val (.int p2), .val (.int p3), .val (.int p4), .val (.int p5), .val (.int (8 : Int32)), .unset, .unset, .unset] [(.ref b1365)]
  refine W.astore 15 at_13 rfl rfl #[.val (.int p0), .val (.int p1), .val (.int p2), .val (.int p3), .val (.int p4), .val (.int p5), .val (.int (8 : Int32)), .val (.ref b1365), .unset, .unset] rfl ?_
  refine W.aload 17 at_15 rfl rfl rfl ?_
  refine W.iconst 18 at_17 rfl (0 : Int32) rfl ?_
  refine W.iloadN 19 at_18 rfl rfl ?_
  refine W.iastore 20 at_19 rfl A1365 0 (by decide) (by decide) (Nat.le_of_ble_eq_true rfl) ge1365 ?_
  intro h1366 W1366 K1366 A1366
  have A1366 : Ary _ _ b1365 .int [(.int p1), (.int (0 : Int32)), (.int (0 : Int32)), (.int (0 : Int32)), (.int (0 : Int32)), (.int (0 : Int32)), (.int (0 : Int32)), (.int (0 : Int32)), (.int (0 : Int32))] := A1366
  refine W.aload 22 at_20 rfl rfl rfl ?_
  refine W.iconst 23 at_22 rfl (1 : Int32) rfl ?_
  refine W.iloadN 24 at_23 rfl rfl ?_
  refine W.iastore 25 at_24 rfl A1366 1 (by decide) (by decide) (Nat.le_of_ble_eq_true rfl) ge1365 ?_
  intro h1367 W1367 K1367 A1367
  have A1367 : Ary _ _ b1365 .int [(.int p1), (.int p2), (.int (0 : Int32)), (.int (0 : Int32)), (.int (0 : Int32)), (.int (0 : Int32)), (.int (0 : Int32)), (.int (0 : Int32)), (.int (0 : Int32))] := A1367
  refine W.aload 27 at_25 rfl rfl rfl ?_
  refine W.iconst 28 at_27 rfl (2 : Int32) rfl ?_
  refine W.iloadN 29 at_28 rfl rfl ?_
  refine W.iastore 30 at_29 rfl A1367 2 (by decide) (by decide) (Nat.le_of_ble_eq_true rfl) ge1365 ?_
  intro h1368 W1368 K1368 A1368
  have A1368 : Ary _ _ b1365 .int [(.int p1), (.int p2), (.int p3), (.int (0 : Int32)), (.int (0 : Int32)), (.int (0 : Int32)), (.int (0 : Int32)), (.int (0 : Int32)), (.int (0 : Int32))] := A1368
  refine W.aload 32 at_30 rfl rfl rfl ?_
  refine W.iconst 33 at_32 rfl (3 : Int32) rfl ?_
  refine W.iload 35 at_33 rfl rfl ?_
  refine W.iastore 36 at_35 rfl A1368 3 (by decide) (by decide) (Nat.le_of_ble_eq_true rfl) ge1365 ?_
  intro h1369 W1369 K1369 A1369
  have A1369 : Ary _ _ b1365 .int [(.int p1), (.int p2), (.int p3), (.int p4), (.int (0 : Int32)), (.int (0 : Int32)), (.int (0 : Int32)), (.int (0 : Int32)), (.int (0 : Int32))] := A1369
  refine W.aload 38 at_36 rfl rfl rfl ?_
  refine W.iconst 39 at_38 rfl (4 : Int32) rfl ?_
  refine W.iload 41 at_39 rfl rfl ?_
  refine W.iastore 42 at_41 rfl A1369 4 (by decide) (by decide) (Nat.le_of_ble_eq_true rfl) ge1365 ?_
  intro h1370 W1370 K1370 A1370
  have A1370 : Ary _ _ b1365 .int [(.int p1), (.int p2), (.int p3), (.int p4), (.int p5), (.int (0 : Int32)), (.int (0 : Int32)), (.int (0 : Int32)), (.int (0 : Int32))] := A1370
  refine W.aload 44 at_42 rfl rfl rfl ?_
  refine W.iconst 45 at_44 rfl (5 : Int32) rfl ?_
  refine W.iloadN 46 at_45 rfl rfl ?_
  refine W.iloadN 47 at_46 rfl rfl ?_
  refine W.ixor 48 at_47 rfl (p1 ^^^ p2) rfl ?_
  refine W.iastore 49 at_48 rfl A1370 5 (by decide) (by decide) (Nat.le_of_ble_eq_true rfl) ge1365 ?_
  intro h1371 W1371 K1371 A1371
  have A1371 : Ary _ _ b1365 .int [(.int p1), (.int p2), (.int p3), (.int p4), (.int p5), (.int (p1 ^^^ p2)), (.int (0 : Int32)), (.int (0 : Int32)), (.int (0 : Int32))] := A1371
  refine W.aload 51 at_49 rfl rfl rfl ?_
  refine W.bipush 53 at_51 rfl (6 : Int32) rfl ?_
  refine W.iloadN 54 at_53 rfl rfl ?_
  refine W.iconst 55 at_54 rfl (-1 : Int32) rfl ?_
  refine W.ixor 56 at_55 rfl (p3 ^^^ (-1 : Int32)) rfl ?_
  refine W.iastore 57 at_56 rfl A1371 6 (by decide) (by decide) (Nat.le_of_ble_eq_true rfl) ge1365 ?_
  intro h1372 W1372 K1372 A1372
  have A1372 : Ary _ _ b1365 .int [(.int p1), (.int p2), (.int p3), (.int p4), (.int p5), (.int (p1 ^^^ p2)), (.int (p3 ^^^ (-1 : Int32))), (.int (0 : Int32)), (.int (0 : Int32))] := A1372
  refine W.aload 59 at_57 rfl rfl rfl ?_
  refine W.bipush 61 at_59 rfl (7 : Int32) rfl ?_
  refine W.iload 63 at_61 rfl rfl ?_
  refine W.iload 65 at_63 rfl rfl ?_
  refine W.isub 66 at_65 rfl (p4 - p5) rfl ?_
  refine W.iastore 67 at_66 rfl A1372 7 (by decide) (by decide) (Nat.le_of_ble_eq_true rfl) ge1365 ?_
  intro h1373 W1373 K1373 A1373
  have A1373 : Ary _ _ b1365 .int [(.int p1), (.int p2), (.int p3), (.int p4), (.int p5), (.int (p1 ^^^ p2)), (.int (p3 ^^^ (-1 : Int32))), (.int (p4 - p5)), (.int (0 : Int32))] := A1373
  refine W.aload 69 at_67 rfl rfl rfl ?_
  refine W.bipush 71 at_69 rfl (8 : Int32) rfl ?_
  refine W.iloadN 72 at_71 rfl rfl ?_
  refine W.iload 74 at_72 rfl rfl ?_
  refine W.iadd 75 at_74 rfl (p1 + p5) rfl ?_
  refine W.iastore 76 at_75 rfl A1373 8 (by decide) (by decide) (Nat.le_of_ble_eq_true rfl) ge1365 ?_
  intro h1374 W1374 K1374 A1374
  have A1374 : Ary _ _ b1365 .int [(.int p1), (.int p2), (.int p3), (.int p4), (.int p5), (.int (p1 ^^^ p2)), (.int (p3 ^^^ (-1 : Int32))), (.int (p4 - p5)), (.int (p1 + p5))] := A1374
  refine W.new 79 at_76 rfl (wd_2 hw) (wd_3 hw) (wd_4 hw) (by decide) (by decide) ?_
  intro h1375 o1375 g1375 ge1375 X1375 K1375 E1375 D1375
  have ne1376 : b1365 ≠ o1375 := Nat.ne_of_lt (Nat.lt_of_lt_of_eq A1374.lt g1375.symm)
  have f1377 : Fld _ _ o1375 "com/example/pathweave/pathweave/eval/IntList" "values" "[I" .null := D1375 (Or.inl (wd_12 hw)) (ty := (.array .int)) (by decide)
  have f1378 : Fld _ _ o1375 "com/example/pathweave/pathweave/eval/IntList" "size" "I" (.int (0 : Int32)) := D1375 (Or.inl (wd_19 hw)) (ty := .int) (by decide)
  show W _ _ _ _ _ _ _ _ _ _ _ 2 11 79 #[.val (.int p0), .val (.int p1), .val (.int p2), .val (.int p3), .val (.int p4), .val (.int p5), .val (.int (8 : Int32)), .val (.ref b1365), .unset, .unset] [(.ref o1375)]
  refine W.dup 80 at_79 rfl rfl ?_
  refine W.callInit (rest := [(.ref o1375)]) (argsL := []) (a := o1375) 83 at_80 rfl (fun hn => c_init l Z a0 hw o1375 _ n0 hn ge1375 E1375 f1377 f1378) rfl (wd_5 hw) (wd_6 hw) (wd_4 hw) (wd_7 hw) (by decide) pd_2 rfl rfl rfl (by decide) 1 (Nat.le_of_ble_eq_true rfl) (by decide) (by decide) (by decide) ?_
  rintro v1379 h1379 ⟨rfl, b1379, sz1379, gb1379, ne1379, E1379, F1379, G1379, A1379, K1379, B1379⟩
  have q1380 := (A1374.keep K1375 nin0)
  have ne1381 : b1365 ≠ b1379 := Nat.ne_of_lt (Nat.lt_of_lt_of_le q1380.lt sz1379)
  have ne1382 : o1375 ≠ b1379 := Nat.ne_of_lt (Nat.lt_of_lt_of_le E1375.lt sz1379)
  show W _ _ _ _ _ _ _ _ _ _ _ 3 19 83 #[.val (.int p0), .val (.int p1), .val (.int p2), .val (.int p3), .val (.int p4), .val (.int p5), .val (.int (8 : Int32)), .val (.ref b1365), .unset, .unset] [(.ref o1375)]
  refine W.astore 85 at_83 rfl rfl #[.val (.int p0), .val (.int p1), .val (.int p2), .val (.int p3), .val (.int p4), .val (.int p5), .val (.int (8 : Int32)), .val (.ref b1365), .val (.ref o1375), .unset] rfl ?_
  refine W.iload 87 at_85 rfl rfl ?_
  refine W.if_le 99 90 at_87 rfl rfl (fun hc => absurd (by decide) hc) (fun _ => ?_)
  refine W.aload 92 at_90 rfl rfl rfl ?_
  refine W.aload 94 at_92 rfl rfl rfl ?_
  refine W.iconst 95 at_94 rfl (0 : Int32) rfl ?_
  have q1383 := (q1380.keep K1379 (ninS ne1376 nin0))
  refine W.iaload 96 at_95 rfl q1383 0 (by decide) (by decide) (.int p1) rfl ?_
  refine W.callV (rest := []) (argsL := [(.int p1)]) (a := o1375) 99 at_96 rfl (fun hn => c_add l Z a0 hw o1375 b1379 p1 (0 : Int32) (8 : Int32) _ 0 _ n0 hn ge1375 gb1379 ne1379 E1379 F1379 G1379 A1379 rfl (by decide) (by decide) (by decide) (Nat.le_of_ble_eq_true rfl)) E1379 (wd_37 hw) (wd_38 hw) (wd_40 hw) rfl (wd_39 hw) (wd_4 hw) (wd_41 hw) (by decide) pd_5 rfl rfl rfl (by decide) 0 (Nat.le_of_ble_eq_true rfl) (by decide) (by decide) (by decide) ?_
  rintro v1384 h1384 ⟨rfl, E1384, F1384, G1384, A1384, K1384⟩
  show W _ _ _ _ _ _ _ _ _ _ _ 3 19 99 #[.val (.int p0), .val (.int p1), .val (.int p2), .val (.int p3), .val (.int p4), .val (.int p5), .val (.int (8 : Int32)), .val (.ref b1365), .val (.ref o1375), .unset] []
  refine W.iload 101 at_99 rfl rfl ?_
  refine W.iconst 102 at_101 rfl (1 : Int32) rfl ?_
  refine W.icmp_le 114 105 at_102 rfl rfl (fun hc => absurd (by decide) hc) (fun _ => ?_)
  refine W.aload 107 at_105 rfl rfl rfl ?_
  refine W.aload 109 at_107 rfl rfl rfl ?_
  refine W.iconst 110 at_109 rfl (1 : Int32) rfl ?_
  have q1385 := (q1383.keep K1384 (ninS ne1376 (ninS ne1381 nin0)))
  refine W.iaload 111 at_110 rfl q1385 1 (by decide) (by decide) (.int p2) rfl ?_
  refine W.callV (rest := []) (argsL := [(.int p2)]) (a := o1375) 114 at_111 rfl (fun hn => c_add l Z a0 hw o1375 b1379 p2 (1 : Int32) (8 : Int32) _ 1 _ n0 hn ge1375 gb1379 ne1379 E1384 F1384 (show Fld _ _ _ _ _ _ (.int (1 : Int32)) from G1384) (show Ary _ _ _ .int [(.int p1), (.int (0 : Int32)), (.int (0 : Int32)), (.int (0 : Int32)), (.int (0 : Int32)), (.int (0 : Int32)), (.int (0 : Int32)), (.int (0 : Int32))] from A1384) rfl (by decide) (by decide) (by decide) (Nat.le_of_ble_eq_true rfl)) E1384 (wd_37 hw) (wd_38 hw) (wd_40 hw) rfl (wd_39 hw) (wd_4 hw) (wd_41 hw) (by decide) pd_5 rfl rfl rfl (by decide) 0 (Nat.le_of_ble_eq_true rfl) (by decide) (by decide) (by decide) ?_
  rintro v1386 h1386 ⟨rfl, E1386, F1386, G1386, A1386, K1386⟩
  show W _ _ _ _ _ _ _ _ _ _ _ 3 19 114 #[.val (.int p0), .val (.int p1), .val (.int p2), .val (.int p3), .val (.int p4), .val (.int p5), .val (.int (8 : Int32)), .val (.ref b1365), .val (.ref o1375), .unset] []
  refine W.iload 116 at_114 rfl rfl ?_
  refine W.iconst 117 at_116 rfl (2 : Int32) rfl ?_
  refine W.icmp_le 129 120 at_117 rfl rfl (fun hc => absurd (by decide) hc) (fun _ => ?_)
  refine W.aload 122 at_120 rfl rfl rfl ?_
  refine W.aload 124 at_122 rfl rfl rfl ?_
  refine W.iconst 125 at_124 rfl (2 : Int32) rfl ?_
  have q1387 := (q1385.keep K1386 (ninS ne1376 (ninS ne1381 nin0)))
  refine W.iaload 126 at_125 rfl q1387 2 (by decide) (by decide) (.int p3) rfl ?_
  refine W.callV (rest := []) (argsL := [(.int p3)]) (a := o1375) 129 at_126 rfl (fun hn => c_add l Z a0 hw o1375 b1379 p3 (2 : Int32) (8 : Int32) _ 2 _ n0 hn ge1375 gb1379 ne1379 E1386 F1386 (show Fld _ _ _ _ _ _ (.int (2 : Int32)) from G1386) (show Ary _ _ _ .int [(.int p1), (.int p2), (.int (0 : Int32)), (.int (0 : Int32)), (.int (0 : Int32)), (.int (0 : Int32)), (.int (0 : Int32)), (.int (0 : Int32))] from A1386) rfl (by decide) (by decide) (by decide) (Nat.le_of_ble_eq_true rfl)) E1386 (wd_37 hw) (wd_38 hw) (wd_40 hw) rfl (wd_39 hw) (wd_4 hw) (wd_41 hw) (by decide) pd_5 rfl rfl rfl (by decide) 0 (Nat.le_of_ble_eq_true rfl) (by decide) (by decide) (by decide) ?_
  rintro v1388 h1388 ⟨rfl, E1388, F1388, G1388, A1388, K1388⟩
  show W _ _ _ _ _ _ _ _ _ _ _ 3 19 129 #[.val (.int p0), .val (.int p1), .val (.int p2), .val (.int p3), .val (.int p4), .val (.int p5), .val (.int (8 : Int32)), .val (.ref b1365), .val (.ref o1375), .unset] []
  refine W.iload 131 at_129 rfl rfl ?_
  refine W.iconst 132 at_131 rfl (3 : Int32) rfl ?_
  refine W.icmp_le 144 135 at_132 rfl rfl (fun hc => absurd (by decide) hc) (fun _ => ?_)
  refine W.aload 137 at_135 rfl rfl rfl ?_
  refine W.aload 139 at_137 rfl rfl rfl ?_
  refine W.iconst 140 at_139 rfl (3 : Int32) rfl ?_
  have q1389 := (q1387.keep K1388 (ninS ne1376 (ninS ne1381 nin0)))
  refine W.iaload 141 at_140 rfl q1389 3 (by decide) (by decide) (.int p4) rfl ?_
  refine W.callV (rest := []) (argsL := [(.int p4)]) (a := o1375) 144 at_141 rfl (fun hn => c_add l Z a0 hw o1375 b1379 p4 (3 : Int32) (8 : Int32) _ 3 _ n0 hn ge1375 gb1379 ne1379 E1388 F1388 (show Fld _ _ _ _ _ _ (.int (3 : Int32)) from G1388) (show Ary _ _ _ .int [(.int p1), (.int p2), (.int p3), (.int (0 : Int32)), (.int (0 : Int32)), (.int (0 : Int32)), (.int (0 : Int32)), (.int (0 : Int32))] from A1388) rfl (by decide) (by decide) (by decide) (Nat.le_of_ble_eq_true rfl)) E1388 (wd_37 hw) (wd_38 hw) (wd_40 hw) rfl (wd_39 hw) (wd_4 hw) (wd_41 hw) (by decide) pd_5 rfl rfl rfl (by decide) 0 (Nat.le_of_ble_eq_true rfl) (by decide) (by decide) (by decide) ?_
  rintro v1390 h1390 ⟨rfl, E1390, F1390, G1390, A1390, K1390⟩
  show W _ _ _ _ _ _ _ _ _ _ _ 3 19 144 #[.val (.int p0), .val (.int p1), .val (.int p2), .val (.int p3), .val (.int p4), .val (.int p5), .val (.int (8 : Int32)), .val (.ref b1365), .val (.ref o1375), .unset] []
  refine W.iload 146 at_144 rfl rfl ?_
  refine W.iconst 147 at_146 rfl (4 : Int32) rfl ?_
  refine W.icmp_le 159 150 at_147 rfl rfl (fun hc => absurd (by decide) hc) (fun _ => ?_)
  refine W.aload 152 at_150 rfl rfl rfl ?_
  refine W.aload 154 at_152 rfl rfl rfl ?_
  refine W.iconst 155 at_154 rfl (4 : Int32) rfl ?_
  have q1391 := (q1389.keep K1390 (ninS ne1376 (ninS ne1381 nin0)))
  refine W.iaload 156 at_155 rfl q1391 4 (by decide) (by decide) (.int p5) rfl ?_
  refine W.callV (rest := []) (argsL := [(.int p5)]) (a := o1375) 159 at_156 rfl (fun hn => c_add l Z a0 hw o1375 b1379 p5 (4 : Int32) (8 : Int32) _ 4 _ n0 hn ge1375 gb1379 ne1379 E1390 F1390 (show Fld _ _ _ _ _ _ (.int (4 : Int32)) from G1390) (show Ary _ _ _ .int [(.int p1), (.int p2), (.int p3), (.int p4), (.int (0 : Int32)), (.int (0 : Int32)), (.int (0 : Int32)), (.int (0 : Int32))] from A1390) rfl (by decide) (by decide) (by decide) (Nat.le_of_ble_eq_true rfl)) E1390 (wd_37 hw) (wd_38 hw) (wd_40 hw) rfl (wd_39 hw) (wd_4 hw) (wd_41 hw) (by decide) pd_5 rfl rfl rfl (by decide) 0 (Nat.le_of_ble_eq_true rfl) (by decide) (by decide) (by decide) ?_
  rintro v1392 h1392 ⟨rfl, E1392, F1392, G1392, A1392, K1392⟩
  show W _ _ _ _ _ _ _ _ _ _ _ 3 19 159 #[.val (.int p0), .val (.int p1), .val (.int p2), .val (.int p3), .val (.int p4), .val (.int p5), .val (.int (8 : Int32)), .val (.ref b1365), .val (.ref o1375), .unset] []
  refine W.iload 161 at_159 rfl rfl ?_
  refine W.iconst 162 at_161 rfl (5 : Int32) rfl ?_
  refine W.icmp_le 174 165 at_162 rfl rfl (fun hc => absurd (by decide) hc) (fun _ => ?_)
  refine W.aload 167 at_165 rfl rfl rfl ?_
  refine W.aload 169 at_167 rfl rfl rfl ?_
  refine W.iconst 170 at_169 rfl (5 : Int32) rfl ?_
  have q1393 := (q1391.keep K1392 (ninS ne1376 (ninS ne1381 nin0)))
  refine W.iaload 171 at_170 rfl q1393 5 (by decide) (by decide) (.int (p1 ^^^ p2)) rfl ?_
  refine W.callV (rest := []) (argsL := [(.int (p1 ^^^ p2))]) (a := o1375) 174 at_171 rfl (fun hn => c_add l Z a0 hw o1375 b1379 (p1 ^^^ p2) (5 : Int32) (8 : Int32) _ 5 _ n0 hn ge1375 gb1379 ne1379 E1392 F1392 (show Fld _ _ _ _ _ _ (.int (5 : Int32)) from G1392) (show Ary _ _ _ .int [(.int p1), (.int p2), (.int p3), (.int p4), (.int p5), (.int (0 : Int32)), (.int (0 : Int32)), (.int (0 : Int32))] from A1392) rfl (by decide) (by decide) (by decide) (Nat.le_of_ble_eq_true rfl)) E1392 (wd_37 hw) (wd_38 hw) (wd_40 hw) rfl (wd_39 hw) (wd_4 hw) (wd_41 hw) (by decide) pd_5 rfl rfl rfl (by decide) 0 (Nat.le_of_ble_eq_true rfl) (by decide) (by decide) (by decide) ?_
  rintro v1394 h1394 ⟨rfl, E1394, F1394, G1394, A1394, K1394⟩
  show W _ _ _ _ _ _ _ _ _ _ _ 3 19 174 #[.val (.int p0), .val (.int p1), .val (.int p2), .val (.int p3), .val (.int p4), .val (.int p5), .val (.int (8 : Int32)), .val (.ref b1365), .val (.ref o1375), .unset] []
  refine W.iload 176 at_174 rfl rfl ?_
  refine W.bipush 178 at_176 rfl (6 : Int32) rfl ?_
  refine W.icmp_le 191 181 at_178 rfl rfl (fun hc => absurd (by decide) hc) (fun _ => ?_)
  refine W.aload 183 at_181 rfl rfl rfl ?_
  refine W.aload 185 at_183 rfl rfl rfl ?_
  refine W.bipush 187 at_185 rfl (6 : Int32) rfl ?_
  have q1395 := (q1393.keep K1394 (ninS ne1376 (ninS ne1381 nin0)))
  refine W.iaload 188 at_187 rfl q1395 6 (by decide) (by decide) (.int (p3 ^^^ (-1 : Int32))) rfl ?_
  refine W.callV (rest := []) (argsL := [(.int (p3 ^^^ (-1 : Int32)))]) (a := o1375) 191 at_188 rfl (fun hn => c_add l Z a0 hw o1375 b1379 (p3 ^^^ (-1 : Int32)) (6 : Int32) (8 : Int32) _ 6 _ n0 hn ge1375 gb1379 ne1379 E1394 F1394 (show Fld _ _ _ _ _ _ (.int (6 : Int32)) from G1394) (show Ary _ _ _ .int [(.int p1), (.int p2), (.int p3), (.int p4), (.int p5), (.int (p1 ^^^ p2)), (.int (0 : Int32)), (.int (0 : Int32))] from A1394) rfl (by decide) (by decide) (by decide) (Nat.le_of_ble_eq_true rfl)) E1394 (wd_37 hw) (wd_38 hw) (wd_40 hw) rfl (wd_39 hw) (wd_4 hw) (wd_41 hw) (by decide) pd_5 rfl rfl rfl (by decide) 0 (Nat.le_of_ble_eq_true rfl) (by decide) (by decide) (by decide) ?_
  rintro v1396 h1396 ⟨rfl, E1396, F1396, G1396, A1396, K1396⟩
  show W _ _ _ _ _ _ _ _ _ _ _ 3 19 191 #[.val (.int p0), .val (.int p1), .val (.int p2), .val (.int p3), .val (.int p4), .val (.int p5), .val (.int (8 : Int32)), .val (.ref b1365), .val (.ref o1375), .unset] []
  refine W.iload 193 at_191 rfl rfl ?_
  refine W.bipush 195 at_193 rfl (7 : Int32) rfl ?_
  refine W.icmp_le 208 198 at_195 rfl rfl (fun hc => absurd (by decide) hc) (fun _ => ?_)
  refine W.aload 200 at_198 rfl rfl rfl ?_
  refine W.aload 202 at_200 rfl rfl rfl ?_
  refine W.bipush 204 at_202 rfl (7 : Int32) rfl ?_
  have q1397 := (q1395.keep K1396 (ninS ne1376 (ninS ne1381 nin0)))
  refine W.iaload 205 at_204 rfl q1397 7 (by decide) (by decide) (.int (p4 - p5)) rfl ?_
  refine W.callV (rest := []) (argsL := [(.int (p4 - p5))]) (a := o1375) 208 at_205 rfl (fun hn => c_add l Z a0 hw o1375 b1379 (p4 - p5) (7 : Int32) (8 : Int32) _ 7 _ n0 hn ge1375 gb1379 ne1379 E1396 F1396 (show Fld _ _ _ _ _ _ (.int (7 : Int32)) from G1396) (show Ary _ _ _ .int [(.int p1), (.int p2), (.int p3), (.int p4), (.int p5), (.int (p1 ^^^ p2)), (.int (p3 ^^^ (-1 : Int32))), (.int (0 : Int32))] from A1396) rfl (by decide) (by decide) (by decide) (Nat.le_of_ble_eq_true rfl)) E1396 (wd_37 hw) (wd_38 hw) (wd_40 hw) rfl (wd_39 hw) (wd_4 hw) (wd_41 hw) (by decide) pd_5 rfl rfl rfl (by decide) 0 (Nat.le_of_ble_eq_true rfl) (by decide) (by decide) (by decide) ?_
  rintro v1398 h1398 ⟨rfl, E1398, F1398, G1398, A1398, K1398⟩
  show W _ _ _ _ _ _ _ _ _ _ _ 3 19 208 #[.val (.int p0), .val (.int p1), .val (.int p2), .val (.int p3), .val (.int p4), .val (.int p5), .val (.int (8 : Int32)), .val (.ref b1365), .val (.ref o1375), .unset] []
  refine W.iload 210 at_208 rfl rfl ?_
  refine W.bipush 212 at_210 rfl (8 : Int32) rfl ?_
  refine W.icmp_le 225 215 at_212 rfl rfl (fun _ => ?_) (fun hc => absurd hc (by decide))
  refine W.aload 227 at_225 rfl rfl rfl ?_
  refine W.callV (rest := []) (argsL := []) (a := o1375) 230 at_227 rfl (fun hn => c_size l Z a0 hw o1375 (8 : Int32) _ n0 hn (show Fld _ _ _ _ _ _ (.int (8 : Int32)) from G1398)) E1398 (wd_13 hw) (wd_14 hw) (wd_16 hw) rfl (wd_15 hw) (wd_4 hw) (wd_17 hw) (by decide) pd_3 rfl rfl rfl (by decide) 0 (Nat.le_of_ble_eq_true rfl) (by decide) (by decide) (by decide) ?_
  rintro v1399 h1399 ⟨rfl, rfl⟩
  show W _ _ _ _ _ _ _ _ _ _ _ 3 19 230 #[.val (.int p0), .val (.int p1), .val (.int p2), .val (.int p3), .val (.int p4), .val (.int p5), .val (.int (8 : Int32)), .val (.ref b1365), .val (.ref o1375), .unset] [(.int (8 : Int32))]
  refine W.iload 232 at_230 rfl rfl ?_
  refine W.icmp_eq 237 235 at_232 rfl rfl (fun _ => ?_) (fun hc => absurd (by decide) hc)
  refine W.aload 239 at_237 rfl rfl rfl ?_
  have q1400 := ((((((((B1379.keep K1384).keep K1386).keep K1388).keep K1390).keep K1392).keep K1394).keep K1396).keep K1398)
  refine W.callV (rest := []) (argsL := []) (a := o1375) 242 at_239 rfl (fun hn => c_ta8 l Z a0 hw o1375 b1379 p1 p2 p3 p4 p5 (p1 ^^^ p2) (p3 ^^^ (-1 : Int32)) (p4 - p5) _ n0 hn F1398 (show Fld _ _ _ _ _ _ (.int (8 : Int32)) from G1398) (show Ary _ _ _ .int [(.int p1), (.int p2), (.int p3), (.int p4), (.int p5), (.int (p1 ^^^ p2)), (.int (p3 ^^^ (-1 : Int32))), (.int (p4 - p5))] from A1398) q1400) E1398 (wd_20 hw) (wd_21 hw) (wd_23 hw) rfl (wd_22 hw) (wd_4 hw) (wd_24 hw) (by decide) pd_4 rfl rfl rfl (by decide) 0 (Nat.le_of_ble_eq_true rfl) (by decide) (by decide) (by decide) ?_
  rintro v1401 h1401 ⟨c1401, rfl, sz1401, gb1401, K1401, A1401⟩
  have q1402 := (q1397.keep K1398 (ninS ne1376 (ninS ne1381 nin0)))
  have ne1403 : b1365 ≠ c1401 := Nat.ne_of_lt (Nat.lt_of_lt_of_le q1402.lt sz1401)
  have ne1404 : b1379 ≠ c1401 := Nat.ne_of_lt (Nat.lt_of_lt_of_le (show Ary _ _ _ .int [(.int p1), (.int p2), (.int p3), (.int p4), (.int p5), (.int (p1 ^^^ p2)), (.int (p3 ^^^ (-1 : Int32))), (.int (p4 - p5))] from A1398).lt sz1401)
  have ne1405 : o1375 ≠ c1401 := Nat.ne_of_lt (Nat.lt_of_lt_of_le E1398.lt sz1401)
  show W _ _ _ _ _ _ _ _ _ _ _ 4 35 242 #[.val (.int p0), .val (.int p1), .val (.int p2), .val (.int p3), .val (.int p4), .val (.int p5), .val (.int (8 : Int32)), .val (.ref b1365), .val (.ref o1375), .unset] [(.ref c1401)]
  refine W.astore 244 at_242 rfl rfl #[.val (.int p0), .val (.int p1), .val (.int p2), .val (.int p3), .val (.int p4), .val (.int p5), .val (.int (8 : Int32)), .val (.ref b1365), .val (.ref o1375), .val (.ref c1401)] rfl ?_
  refine W.aload 246 at_244 rfl rfl rfl ?_
  refine W.arraylength 247 at_246 rfl A1401 (8 : Int32) rfl ?_
  refine W.iload 249 at_247 rfl rfl ?_
  refine W.icmp_eq 254 252 at_249 rfl rfl (fun _ => ?_) (fun hc => absurd (by decide) hc)
  refine W.iload 256 at_254 rfl rfl ?_
  refine W.if_le 272 259 at_256 rfl rfl (fun hc => absurd (by decide) hc) (fun _ => ?_)
  refine W.aload 261 at_259 rfl rfl rfl ?_
  refine W.iconst 262 at_261 rfl (0 : Int32) rfl ?_
  refine W.iaload 263 at_262 rfl A1401 0 (by decide) (by decide) (.int p1) rfl ?_
  refine W.aload 265 at_263 rfl rfl rfl ?_
  refine W.iconst 266 at_265 rfl (0 : Int32) rfl ?_
  have q1406 := (q1402.keep K1401 nin0)
  refine W.iaload 267 at_266 rfl q1406 0 (by decide) (by decide) (.int p1) rfl ?_
  refine W.icmp_eq 272 270 at_267 rfl rfl (fun _ => ?_) (fun hc => absurd rfl hc)
  refine W.iload 274 at_272 rfl rfl ?_
  refine W.iconst 275 at_274 rfl (1 : Int32) rfl ?_
  refine W.icmp_le 291 278 at_275 rfl rfl (fun hc => absurd (by decide) hc) (fun _ => ?_)
  refine W.aload 280 at_278 rfl rfl rfl ?_
  refine W.iconst 281 at_280 rfl (1 : Int32) rfl ?_
  refine W.iaload 282 at_281 rfl A1401 1 (by decide) (by decide) (.int p2) rfl ?_
  refine W.aload 284 at_282 rfl rfl rfl ?_
  refine W.iconst 285 at_284 rfl (1 : Int32) rfl ?_
  refine W.iaload 286 at_285 rfl q1406 1 (by decide) (by decide) (.int p2) rfl ?_
  refine W.icmp_eq 291 289 at_286 rfl rfl (fun _ => ?_) (fun hc => absurd rfl hc)
  refine W.iload 293 at_291 rfl rfl ?_
  refine W.iconst 294 at_293 rfl (2 : Int32) rfl ?_
  refine W.icmp_le 310 297 at_294 rfl rfl (fun hc => absurd (by decide) hc) (fun _ => ?_)
  refine W.aload 299 at_297 rfl rfl rfl ?_
  refine W.iconst 300 at_299 rfl (2 : Int32) rfl ?_
  refine W.iaload 301 at_300 rfl A1401 2 (by decide) (by decide) (.int p3) rfl ?_
  refine W.aload 303 at_301 rfl rfl rfl ?_
  refine W.iconst 304 at_303 rfl (2 : Int32) rfl ?_
  refine W.iaload 305 at_304 rfl q1406 2 (by decide) (by decide) (.int p3) rfl ?_
  refine W.icmp_eq 310 308 at_305 rfl rfl (fun _ => ?_) (fun hc => absurd rfl hc)
  refine W.iload 312 at_310 rfl rfl ?_
  refine W.iconst 313 at_312 rfl (3 : Int32) rfl ?_
  refine W.icmp_le 329 316 at_313 rfl rfl (fun hc => absurd (by decide) hc) (fun _ => ?_)
  refine W.aload 318 at_316 rfl rfl rfl ?_
  refine W.iconst 319 at_318 rfl (3 : Int32) rfl ?_
  refine W.iaload 320 at_319 rfl A1401 3 (by decide) (by decide) (.int p4) rfl ?_
  refine W.aload 322 at_320 rfl rfl rfl ?_
  refine W.iconst 323 at_322 rfl (3 : Int32) rfl ?_
  refine W.iaload 324 at_323 rfl q1406 3 (by decide) (by decide) (.int p4) rfl ?_
  refine W.icmp_eq 329 327 at_324 rfl rfl (fun _ => ?_) (fun hc => absurd rfl hc)
  refine W.iload 331 at_329 rfl rfl ?_
  refine W.iconst 332 at_331 rfl (4 : Int32) rfl ?_
  refine W.icmp_le 348 335 at_332 rfl rfl (fun hc => absurd (by decide) hc) (fun _ => ?_)
  refine W.aload 337 at_335 rfl rfl rfl ?_
  refine W.iconst 338 at_337 rfl (4 : Int32) rfl ?_
  refine W.iaload 339 at_338 rfl A1401 4 (by decide) (by decide) (.int p5) rfl ?_
  refine W.aload 341 at_339 rfl rfl rfl ?_
  refine W.iconst 342 at_341 rfl (4 : Int32) rfl ?_
  refine W.iaload 343 at_342 rfl q1406 4 (by decide) (by decide) (.int p5) rfl ?_
  refine W.icmp_eq 348 346 at_343 rfl rfl (fun _ => ?_) (fun hc => absurd rfl hc)
  refine W.iload 350 at_348 rfl rfl ?_
  refine W.iconst 351 at_350 rfl (5 : Int32) rfl ?_
  refine W.icmp_le 367 354 at_351 rfl rfl (fun hc => absurd (by decide) hc) (fun _ => ?_)
  refine W.aload 356 at_354 rfl rfl rfl ?_
  refine W.iconst 357 at_356 rfl (5 : Int32) rfl ?_
  refine W.iaload 358 at_357 rfl A1401 5 (by decide) (by decide) (.int (p1 ^^^ p2)) rfl ?_
  refine W.aload 360 at_358 rfl rfl rfl ?_
  refine W.iconst 361 at_360 rfl (5 : Int32) rfl ?_
  refine W.iaload 362 at_361 rfl q1406 5 (by decide) (by decide) (.int (p1 ^^^ p2)) rfl ?_
  refine W.icmp_eq 367 365 at_362 rfl rfl (fun _ => ?_) (fun hc => absurd rfl hc)
  refine W.iload 369 at_367 rfl rfl ?_
  refine W.bipush 371 at_369 rfl (6 : Int32) rfl ?_
  refine W.icmp_le 389 374 at_371 rfl rfl (fun hc => absurd (by decide) hc) (fun _ => ?_)
  refine W.aload 376 at_374 rfl rfl rfl ?_
  refine W.bipush 378 at_376 rfl (6 : Int32) rfl ?_
  refine W.iaload 379 at_378 rfl A1401 6 (by decide) (by decide) (.int (p3 ^^^ (-1 : Int32))) rfl ?_
  refine W.aload 381 at_379 rfl rfl rfl ?_
  refine W.bipush 383 at_381 rfl (6 : Int32) rfl ?_
  refine W.iaload 384 at_383 rfl q1406 6 (by decide) (by decide) (.int (p3 ^^^ (-1 : Int32))) rfl ?_
  refine W.icmp_eq 389 387 at_384 rfl rfl (fun _ => ?_) (fun hc => absurd rfl hc)
  refine W.iload 391 at_389 rfl rfl ?_
  refine W.bipush 393 at_391 rfl (7 : Int32) rfl ?_
  refine W.icmp_le 411 396 at_393 rfl rfl (fun hc => absurd (by decide) hc) (fun _ => ?_)
  refine W.aload 398 at_396 rfl rfl rfl ?_
  refine W.bipush 400 at_398 rfl (7 : Int32) rfl ?_
  refine W.iaload 401 at_400 rfl A1401 7 (by decide) (by decide) (.int (p4 - p5)) rfl ?_
  refine W.aload 403 at_401 rfl rfl rfl ?_
  refine W.bipush 405 at_403 rfl (7 : Int32) rfl ?_
  refine W.iaload 406 at_405 rfl q1406 7 (by decide) (by decide) (.int (p4 - p5)) rfl ?_
  refine W.icmp_eq 411 409 at_406 rfl rfl (fun _ => ?_) (fun hc => absurd rfl hc)
  refine W.iload 413 at_411 rfl rfl ?_
  refine W.bipush 415 at_413 rfl (8 : Int32) rfl ?_
  refine W.icmp_le 433 418 at_415 rfl rfl (fun _ => ?_) (fun hc => absurd hc (by decide))
  refine W.iconst 434 at_433 rfl (1 : Int32) rfl ?_
  exact W.ireturnN (t := .boolean) at_434 rfl (by simp) (1 : Int32) rfl rfl (by decide) (by decide)
set_option maxRecDepth 65536 in
set_option maxHeartbeats 40000000 in
theorem law_9 (l : Launch) (Z : State) (a0 : Array Value) (hw : ∀ d ∈ tables_1, d.before a0 Z = true) (p0 p1 p2 p3 p4 p5 : Int32) (h : Heap) (n0 : Nat) (hn : n0 ≤ h.size) (hN : ((p0 &&& (2147483647 : Int32)) % (10 : Int32)) = (9 : Int32)) : ConW tables_1 l Z x code maxLocals ret room_1 #[(.int p0), (.int p1), (.int p2), (.int p3), (.int p4), (.int p5)] h n0 (fun r _ => r = some (.int 1)) := by
  refine ConW.of_W (Ls := #[.val (.int p0), .val (.int p1), .val (.int p2), .val (.int p3), .val (.int p4), .val (.int p5), .unset, .unset, .unset, .unset]) (plainFor_of_name pn_2) hn (fun m => by first | (simp [entryFrame, mkF, argsToLocals, Value.category, maxLocals]; done) | rfl) ?_
  refine W.iloadN 1 at_0 rfl rfl ?_
  refine W.ldcI 3 at_1 rfl (wd_0 hw) ?_
  refine W.iand 4 at_3 rfl (p0 &&& (2147483647 : Int32)) rfl ?_
  refine W.bipush 6 at_4 rfl (10 : Int32) rfl ?_
  refine W.irem 7 at_6 rfl (by decide) (9 : Int32) hN ?_
  refine W.istore 9 at_7 rfl #[.val (.int p0), .val (.int p1), .val (.int p2), .val (.int p3), .val (.int p4), .val (.int p5), .val (.int (9 : Int32)), .unset, .unset, .unset] rfl ?_
  refine W.bipush 11 at_9 rfl (9 : Int32) rfl ?_
  refine W.newarray 13 at_11 rfl (wd_1 hw) rfl (by decide) 9 9 (by decide) (by decide) (by decide) (by decide) (by decide) rfl ?_
  intro h1407 b1407 g1407 ge1407 X1407 K1407 A1407
  have A1407 : Ary _ _ b1407 .int [(.int (0 : Int32)), (.int (0 : Int32)), (.int (0 : Int32)), (.int (0 : Int32)), (.int (0 : Int32)), (.int (0 : Int32)), (.int (0 : Int32)), (.int (0 : Int32)), (.int (0 : Int32))] := A1407
  show W _ _ _ _ _ _ _ _ _ _ _ 1 9 13 #[.val (.int p0), .val (.int p1), .val (.int p2), .val (.int p3), .val (.int p4), .val (.int p5), .val (.int (9 : Int32)), .unset, .unset, .unset] [(.ref b1407)]
  refine W.astore 15 at_13 rfl rfl #[.val (.int p0), .val (.int p1), .val (.int p2), .val (.int p3), .val (.int p4), .val (.int p5), .val (.int (9 : Int32)), .val (.ref b1407), .unset, .unset] rfl ?_
  refine W.aload 17 at_15 rfl rfl rfl ?_
  refine W.iconst 18 at_17 rfl (0 : Int32) rfl ?_
  refine W.iloadN 19 at_18 rfl rfl ?_
  refine W.iastore 20 at_19 rfl A1407 0 (by decide) (by decide) (Nat.le_of_ble_eq_true rfl) ge1407 ?_
  intro h1408 W1408 K1408 A1408
  have A1408 : Ary _ _ b1407 .int [(.int p1), (.int (0 : Int32)), (.int (0 : Int32)), (.int (0 : Int32)), (.int (0 : Int32)), (.int (0 : Int32)), (.int (0 : Int32)), (.int (0 : Int32)), (.int (0 : Int32))] := A1408
  refine W.aload 22 at_20 rfl rfl rfl ?_
  refine W.iconst 23 at_22 rfl (1 : Int32) rfl ?_
  refine W.iloadN 24 at_23 rfl rfl ?_
  refine W.iastore 25 at_24 rfl A1408 1 (by decide) (by decide) (Nat.le_of_ble_eq_true rfl) ge1407 ?_
  intro h1409 W1409 K1409 A1409
  have A1409 : Ary _ _ b1407 .int [(.int p1), (.int p2), (.int (0 : Int32)), (.int (0 : Int32)), (.int (0 : Int32)), (.int (0 : Int32)), (.int (0 : Int32)), (.int (0 : Int32)), (.int (0 : Int32))] := A1409
  refine W.aload 27 at_25 rfl rfl rfl ?_
  refine W.iconst 28 at_27 rfl (2 : Int32) rfl ?_
  refine W.iloadN 29 at_28 rfl rfl ?_
  refine W.iastore 30 at_29 rfl A1409 2 (by decide) (by decide) (Nat.le_of_ble_eq_true rfl) ge1407 ?_
  intro h1410 W1410 K1410 A1410
  have A1410 : Ary _ _ b1407 .int [(.int p1), (.int p2), (.int p3), (.int (0 : Int32)), (.int (0 : Int32)), (.int (0 : Int32)), (.int (0 : Int32)), (.int (0 : Int32)), (.int (0 : Int32))] := A1410
  refine W.aload 32 at_30 rfl rfl rfl ?_
  refine W.iconst 33 at_32 rfl (3 : Int32) rfl ?_
  refine W.iload 35 at_33 rfl rfl ?_
  refine W.iastore 36 at_35 rfl A1410 3 (by decide) (by decide) (Nat.le_of_ble_eq_true rfl) ge1407 ?_
  intro h1411 W1411 K1411 A1411
  have A1411 : Ary _ _ b1407 .int [(.int p1), (.int p2), (.int p3), (.int p4), (.int (0 : Int32)), (.int (0 : Int32)), (.int (0 : Int32)), (.int (0 : Int32)), (.int (0 : Int32))] := A1411
  refine W.aload 38 at_36 rfl rfl rfl ?_
  refine W.iconst 39 at_38 rfl (4 : Int32) rfl ?_
  refine W.iload 41 at_39 rfl rfl ?_
  refine W.iastore 42 at_41 rfl A1411 4 (by decide) (by decide) (Nat.le_of_ble_eq_true rfl) ge1407 ?_
  intro h1412 W1412 K1412 A1412
  have A1412 : Ary _ _ b1407 .int [(.int p1), (.int p2), (.int p3), (.int p4), (.int p5), (.int (0 : Int32)), (.int (0 : Int32)), (.int (0 : Int32)), (.int (0 : Int32))] := A1412
  refine W.aload 44 at_42 rfl rfl rfl ?_
  refine W.iconst 45 at_44 rfl (5 : Int32) rfl ?_
  refine W.iloadN 46 at_45 rfl rfl ?_
  refine W.iloadN 47 at_46 rfl rfl ?_
  refine W.ixor 48 at_47 rfl (p1 ^^^ p2) rfl ?_
  refine W.iastore 49 at_48 rfl A1412 5 (by decide) (by decide) (Nat.le_of_ble_eq_true rfl) ge1407 ?_
  intro h1413 W1413 K1413 A1413
  have A1413 : Ary _ _ b1407 .int [(.int p1), (.int p2), (.int p3), (.int p4), (.int p5), (.int (p1 ^^^ p2)), (.int (0 : Int32)), (.int (0 : Int32)), (.int (0 : Int32))] := A1413
  refine W.aload 51 at_49 rfl rfl rfl ?_
  refine W.bipush 53 at_51 rfl (6 : Int32) rfl ?_
  refine W.iloadN 54 at_53 rfl rfl ?_
  refine W.iconst 55 at_54 rfl (-1 : Int32) rfl ?_
  refine W.ixor 56 at_55 rfl (p3 ^^^ (-1 : Int32)) rfl ?_
  refine W.iastore 57 at_56 rfl A1413 6 (by decide) (by decide) (Nat.le_of_ble_eq_true rfl) ge1407 ?_
  intro h1414 W1414 K1414 A1414
  have A1414 : Ary _ _ b1407 .int [(.int p1), (.int p2), (.int p3), (.int p4), (.int p5), (.int (p1 ^^^ p2)), (.int (p3 ^^^ (-1 : Int32))), (.int (0 : Int32)), (.int (0 : Int32))] := A1414
  refine W.aload 59 at_57 rfl rfl rfl ?_
  refine W.bipush 61 at_59 rfl (7 : Int32) rfl ?_
  refine W.iload 63 at_61 rfl rfl ?_
  refine W.iload 65 at_63 rfl rfl ?_
  refine W.isub 66 at_65 rfl (p4 - p5) rfl ?_
  refine W.iastore 67 at_66 rfl A1414 7 (by decide) (by decide) (Nat.le_of_ble_eq_true rfl) ge1407 ?_
  intro h1415 W1415 K1415 A1415
  have A1415 : Ary _ _ b1407 .int [(.int p1), (.int p2), (.int p3), (.int p4), (.int p5), (.int (p1 ^^^ p2)), (.int (p3 ^^^ (-1 : Int32))), (.int (p4 - p5)), (.int (0 : Int32))] := A1415
  refine W.aload 69 at_67 rfl rfl rfl ?_
  refine W.bipush 71 at_69 rfl (8 : Int32) rfl ?_
  refine W.iloadN 72 at_71 rfl rfl ?_
  refine W.iload 74 at_72 rfl rfl ?_
  refine W.iadd 75 at_74 rfl (p1 + p5) rfl ?_
  refine W.iastore 76 at_75 rfl A1415 8 (by decide) (by decide) (Nat.le_of_ble_eq_true rfl) ge1407 ?_
  intro h1416 W1416 K1416 A1416
  have A1416 : Ary _ _ b1407 .int [(.int p1), (.int p2), (.int p3), (.int p4), (.int p5), (.int (p1 ^^^ p2)), (.int (p3 ^^^ (-1 : Int32))), (.int (p4 - p5)), (.int (p1 + p5))] := A1416
  refine W.new 79 at_76 rfl (wd_2 hw) (wd_3 hw) (wd_4 hw) (by decide) (by decide) ?_
  intro h1417 o1417 g1417 ge1417 X1417 K1417 E1417 D1417
  have ne1418 : b1407 ≠ o1417 := Nat.ne_of_lt (Nat.lt_of_lt_of_eq A1416.lt g1417.symm)
  have f1419 : Fld _ _ o1417 "com/example/pathweave/pathweave/eval/IntList" "values" "[I" .null := D1417 (Or.inl (wd_12 hw)) (ty := (.array .int)) (by decide)
  have f1420 : Fld _ _ o1417 "com/example/pathweave/pathweave/eval/IntList" "size" "I" (.int (0 : Int32)) := D1417 (Or.inl (wd_19 hw)) (ty := .int) (by decide)
  show W _ _ _ _ _ _ _ _ _ _ _ 2 11 79 #[.val (.int p0), .val (.int p1), .val (.int p2), .val (.int p3), .val (.int p4), .val (.int p5), .val (.int (9 : Int32)), .val (.ref b1407), .unset, .unset] [(.ref o1417)]
  refine W.dup 80 at_79 rfl rfl ?_
  refine W.callInit (rest := [(.ref o1417)]) (argsL := []) (a := o1417) 83 at_80 rfl (fun hn => c_init l Z a0 hw o1417 _ n0 hn ge1417 E1417 f1419 f1420) rfl (wd_5 hw) (wd_6 hw) (wd_4 hw) (wd_7 hw) (by decide) pd_2 rfl rfl rfl (by decide) 1 (Nat.le_of_ble_eq_true rfl) (by decide) (by decide) (by decide) ?_
  rintro v1421 h1421 ⟨rfl, b1421, sz1421, gb1421, ne1421, E1421, F1421, G1421, A1421, K1421, B1421⟩
  have q1422 := (A1416.keep K1417 nin0)
  have ne1423 : b1407 ≠ b1421 := Nat.ne_of_lt (Nat.lt_of_lt_of_le q1422.lt sz1421)
  have ne1424 : o1417 ≠ b1421 := Nat.ne_of_lt (Nat.lt_of_lt_of_le E1417.lt sz1421)
  show W _ _ _ _ _ _ _ _ _ _ _ 3 19 83 #[.val (.int p0), .val (.int p1), .val (.int p2), .val (.int p3), .val (.int p4), .val (.int p5), .val (.int (9 : Int32)), .val (.ref b1407), .unset, .unset] [(.ref o1417)]
  refine W.astore 85 at_83 rfl rfl #[.val (.int p0), .val (.int p1), .val (.int p2), .val (.int p3), .val (.int p4), .val (.int p5), .val (.int (9 : Int32)), .val (.ref b1407), .val (.ref o1417), .unset] rfl ?_
  refine W.iload 87 at_85 rfl rfl ?_
  refine W.if_le 99 90 at_87 rfl rfl (fun hc => absurd (by decide) hc) (fun _ => ?_)
  refine W.aload 92 at_90 rfl rfl rfl ?_
  refine W.aload 94 at_92 rfl rfl rfl ?_
  refine W.iconst 95 at_94 rfl (0 : Int32) rfl ?_
  have q1425 := (q1422.keep K1421 (ninS ne1418 nin0))
  refine W.iaload 96 at_95 rfl q1425 0 (by decide) (by decide) (.int p1) rfl ?_
  refine W.callV (rest := []) (argsL := [(.int p1)]) (a := o1417) 99 at_96 rfl (fun hn => c_add l Z a0 hw o1417 b1421 p1 (0 : Int32) (8 : Int32) _ 0 _ n0 hn ge1417 gb1421 ne1421 E1421 F1421 G1421 A1421 rfl (by decide) (by decide) (by decide) (Nat.le_of_ble_eq_true rfl)) E1421 (wd_37 hw) (wd_38 hw) (wd_40 hw) rfl (wd_39 hw) (wd_4 hw) (wd_41 hw) (by decide) pd_5 rfl rfl rfl (by decide) 0 (Nat.le_of_ble_eq_true rfl) (by decide) (by decide) (by decide) ?_
  rintro v1426 h1426 ⟨rfl, E1426, F1426, G1426, A1426, K1426⟩
  show W _ _ _ _ _ _ _ _ _ _ _ 3 19 99 #[.val (.int p0), .val (.int p1), .val (.int p2), .val (.int p3), .val (.int p4), .val (.int p5), .val (.int (9 : Int32)), .val (.ref b1407), .val (.ref o1417), .unset] []
  refine W.iload 101 at_99 rfl rfl ?_
  refine W.iconst 102 at_101 rfl (1 : Int32) rfl ?_
  refine W.icmp_le 114 105 at_102 rfl rfl (fun hc => absurd (by decide) hc) (fun _ => ?_)
  refine W.aload 107 at_105 rfl rfl rfl ?_
  refine W.aload 109 at_107 rfl rfl rfl ?_
  refine W.iconst 110 at_109 rfl (1 : Int32) rfl ?_
  have q1427 := (q1425.keep K1426 (ninS ne1418 (ninS ne1423 nin0)))
  refine W.iaload 111 at_110 rfl q1427 1 (by decide) (by decide) (.int p2) rfl ?_
  refine W.callV (rest := []) (argsL := [(.int p2)]) (a := o1417) 114 at_111 rfl (fun hn => c_add l Z a0 hw o1417 b1421 p2 (1 : Int32) (8 : Int32) _ 1 _ n0 hn ge1417 gb1421 ne1421 E1426 F1426 (show Fld _ _ _ _ _ _ (.int (1 : Int32)) from G1426) (show Ary _ _ _ .int [(.int p1), (.int (0 : Int32)), (.int (0 : Int32)), (.int (0 : Int32)), (.int (0 : Int32)), (.int (0 : Int32)), (.int (0 : Int32)), (.int (0 : Int32))] from A1426) rfl (by decide) (by decide) (by decide) (Nat.le_of_ble_eq_true rfl)) E1426 (wd_37 hw) (wd_38 hw) (wd_40 hw) rfl (wd_39 hw) (wd_4 hw) (wd_41 hw) (by decide) pd_5 rfl rfl rfl (by decide) 0 (Nat.le_of_ble_eq_true rfl) (by decide) (by decide) (by decide) ?_
  rintro v1428 h1428 ⟨rfl, E1428, F1428, G1428, A1428, K1428⟩
  show W _ _ _ _ _ _ _ _ _ _ _ 3 19 114 #[.val (.int p0), .val (.int p1), .val (.int p2), .val (.int p3), .val (.int p4), .val (.int p5), .val (.int (9 : Int32)), .val (.ref b1407), .val (.ref o1417), .unset] []
  refine W.iload 116 at_114 rfl rfl ?_
  refine W.iconst 117 at_116 rfl (2 : Int32) rfl ?_
  refine W.icmp_le 129 120 at_117 rfl rfl (fun hc => absurd (by decide) hc) (fun _ => ?_)
  refine W.aload 122 at_120 rfl rfl rfl ?_
  refine W.aload 124 at_122 rfl rfl rfl ?_
  refine W.iconst 125 at_124 rfl (2 : Int32) rfl ?_
  have q1429 := (q1427.keep K1428 (ninS ne1418 (ninS ne1423 nin0)))
  refine W.iaload 126 at_125 rfl q1429 2 (by decide) (by decide) (.int p3) rfl ?_
  refine W.callV (rest := []) (argsL := [(.int p3)]) (a := o1417) 129 at_126 rfl (fun hn => c_add l Z a0 hw o1417 b1421 p3 (2 : Int32) (8 : Int32) _ 2 _ n0 hn ge1417 gb1421 ne1421 E1428 F1428 (show Fld _ _ _ _ _ _ (.int (2 : Int32)) from G1428) (show Ary _ _ _ .int [(.int p1), (.int p2), (.int (0 : Int32)), (.int (0 : Int32)), (.int (0 : Int32)), (.int (0 : Int32)), (.int (0 : Int32)), (.int (0 : Int32))] from A1428) rfl (by decide) (by decide) (by decide) (Nat.le_of_ble_eq_true rfl)) E1428 (wd_37 hw) (wd_38 hw) (wd_40 hw) rfl (wd_39 hw) (wd_4 hw) (wd_41 hw) (by decide) pd_5 rfl rfl rfl (by decide) 0 (Nat.le_of_ble_eq_true rfl) (by decide) (by decide) (by decide) ?_
  rintro v1430 h1430 ⟨rfl, E1430, F1430, G1430, A1430, K1430⟩
  show W _ _ _ _ _ _ _ _ _ _ _ 3 19 129 #[.val (.int p0), .val (.int p1), .val (.int p2), .val (.int p3), .val (.int p4), .val (.int p5), .val (.int (9 : Int32)), .val (.ref b1407), .val (.ref o1417), .unset] []
  refine W.iload 131 at_129 rfl rfl ?_
  refine W.iconst 132 at_131 rfl (3 : Int32) rfl ?_
  refine W.icmp_le 144 135 at_132 rfl rfl (fun hc => absurd (by decide) hc) (fun _ => ?_)
  refine W.aload 137 at_135 rfl rfl rfl ?_
  refine W.aload 139 at_137 rfl rfl rfl ?_
  refine W.iconst 140 at_139 rfl (3 : Int32) rfl ?_
  have q1431 := (q1429.keep K1430 (ninS ne1418 (ninS ne1423 nin0)))
  refine W.iaload 141 at_140 rfl q1431 3 (by decide) (by decide) (.int p4) rfl ?_
  refine W.callV (rest := []) (argsL := [(.int p4)]) (a := o1417) 144 at_141 rfl (fun hn => c_add l Z a0 hw o1417 b1421 p4 (3 : Int32) (8 : Int32) _ 3 _ n0 hn ge1417 gb1421 ne1421 E1430 F1430 (show Fld _ _ _ _ _ _ (.int (3 : Int32)) from G1430) (show Ary _ _ _ .int [(.int p1), (.int p2), (.int p3), (.int (0 : Int32)), (.int (0 : Int32)), (.int (0 : Int32)), (.int (0 : Int32)), (.int (0 : Int32))] from A1430) rfl (by decide) (by decide) (by decide) (Nat.le_of_ble_eq_true rfl)) E1430 (wd_37 hw) (wd_38 hw) (wd_40 hw) rfl (wd_39 hw) (wd_4 hw) (wd_41 hw) (by decide) pd_5 rfl rfl rfl (by decide) 0 (Nat.le_of_ble_eq_true rfl) (by decide) (by decide) (by decide) ?_
  rintro v1432 h1432 ⟨rfl, E1432, F1432, G1432, A1432, K1432⟩
  show W _ _ _ _ _ _ _ _ _ _ _ 3 19 144 #[.val (.int p0), .val (.int p1), .val (.int p2), .val (.int p3), .val (.int p4), .val (.int p5), .val (.int (9 : Int32)), .val (.ref b1407), .val (.ref o1417), .unset] []
  refine W.iload 146 at_144 rfl rfl ?_
  refine W.iconst 147 at_146 rfl (4 : Int32) rfl ?_
  refine W.icmp_le 159 150 at_147 rfl rfl (fun hc => absurd (by decide) hc) (fun _ => ?_)
  refine W.aload 152 at_150 rfl rfl rfl ?_
  refine W.aload 154 at_152 rfl rfl rfl ?_
  refine W.iconst 155 at_154 rfl (4 : Int32) rfl ?_
  have q1433 := (q1431.keep K1432 (ninS ne1418 (ninS ne1423 nin0)))
  refine W.iaload 156 at_155 rfl q1433 4 (by decide) (by decide) (.int p5) rfl ?_
  refine W.callV (rest := []) (argsL := [(.int p5)]) (a := o1417) 159 at_156 rfl (fun hn => c_add l Z a0 hw o1417 b1421 p5 (4 : Int32) (8 : Int32) _ 4 _ n0 hn ge1417 gb1421 ne1421 E1432 F1432 (show Fld _ _ _ _ _ _ (.int (4 : Int32)) from G1432) (show Ary _ _ _ .int [(.int p1), (.int p2), (.int p3), (.int p4), (.int (0 : Int32)), (.int (0 : Int32)), (.int (0 : Int32)), (.int (0 : Int32))] from A1432) rfl (by decide) (by decide) (by decide) (Nat.le_of_ble_eq_true rfl)) E1432 (wd_37 hw) (wd_38 hw) (wd_40 hw) rfl (wd_39 hw) (wd_4 hw) (wd_41 hw) (by decide) pd_5 rfl rfl rfl (by decide) 0 (Nat.le_of_ble_eq_true rfl) (by decide) (by decide) (by decide) ?_
  rintro v1434 h1434 ⟨rfl, E1434, F1434, G1434, A1434, K1434⟩
  show W _ _ _ _ _ _ _ _ _ _ _ 3 19 159 #[.val (.int p0), .val (.int p1), .val (.int p2), .val (.int p3), .val (.int p4), .val (.int p5), .val (.int (9 : Int32)), .val (.ref b1407), .val (.ref o1417), .unset] []
  refine W.iload 161 at_159 rfl rfl ?_
  refine W.iconst 162 at_161 rfl (5 : Int32) rfl ?_
  refine W.icmp_le 174 165 at_162 rfl rfl (fun hc => absurd (by decide) hc) (fun _ => ?_)
  refine W.aload 167 at_165 rfl rfl rfl ?_
  refine W.aload 169 at_167 rfl rfl rfl ?_
  refine W.iconst 170 at_169 rfl (5 : Int32) rfl ?_
  have q1435 := (q1433.keep K1434 (ninS ne1418 (ninS ne1423 nin0)))
  refine W.iaload 171 at_170 rfl q1435 5 (by decide) (by decide) (.int (p1 ^^^ p2)) rfl ?_
  refine W.callV (rest := []) (argsL := [(.int (p1 ^^^ p2))]) (a := o1417) 174 at_171 rfl (fun hn => c_add l Z a0 hw o1417 b1421 (p1 ^^^ p2) (5 : Int32) (8 : Int32) _ 5 _ n0 hn ge1417 gb1421 ne1421 E1434 F1434 (show Fld _ _ _ _ _ _ (.int (5 : Int32)) from G1434) (show Ary _ _ _ .int [(.int p1), (.int p2), (.int p3), (.int p4), (.int p5), (.int (0 : Int32)), (.int (0 : Int32)), (.int (0 : Int32))] from A1434) rfl (by decide) (by decide) (by decide) (Nat.le_of_ble_eq_true rfl)) E1434 (wd_37 hw) (wd_38 hw) (wd_40 hw) rfl (wd_39 hw) (wd_4 hw) (wd_41 hw) (by decide) pd_5 rfl rfl rfl (by decide) 0 (Nat.le_of_ble_eq_true rfl) (by decide) (by decide) (by decide) ?_
  rintro v1436 h1436 ⟨rfl, E1436, F1436, G1436, A1436, K1436⟩
  show W _ _ _ _ _ _ _ _ _ _ _ 3 19 174 #[.val (.int p0), .val (.int p1), .val (.int p2), .val (.int p3), .val (.int p4), .val (.int p5), .val (.int (9 : Int32)), .val (.ref b1407), .val (.ref o1417), .unset] []
  refine W.iload 176 at_174 rfl rfl ?_
  refine W.bipush 178 at_176 rfl (6 : Int32) rfl ?_
  refine W.icmp_le 191 181 at_178 rfl rfl (fun hc => absurd (by decide) hc) (fun _ => ?_)
  refine W.aload 183 at_181 rfl rfl rfl ?_
  refine W.aload 185 at_183 rfl rfl rfl ?_
  refine W.bipush 187 at_185 rfl (6 : Int32) rfl ?_
  have q1437 := (q1435.keep K1436 (ninS ne1418 (ninS ne1423 nin0)))
  refine W.iaload 188 at_187 rfl q1437 6 (by decide) (by decide) (.int (p3 ^^^ (-1 : Int32))) rfl ?_
  refine W.callV (rest := []) (argsL := [(.int (p3 ^^^ (-1 : Int32)))]) (a := o1417) 191 at_188 rfl (fun hn => c_add l Z a0 hw o1417 b1421 (p3 ^^^ (-1 : Int32)) (6 : Int32) (8 : Int32) _ 6 _ n0 hn ge1417 gb1421 ne1421 E1436 F1436 (show Fld _ _ _ _ _ _ (.int (6 : Int32)) from G1436) (show Ary _ _ _ .int [(.int p1), (.int p2), (.int p3), (.int p4), (.int p5), (.int (p1 ^^^ p2)), (.int (0 : Int32)), (.int (0 : Int32))] from A1436) rfl (by decide) (by decide) (by decide) (Nat.le_of_ble_eq_true rfl)) E1436 (wd_37 hw) (wd_38 hw) (wd_40 hw) rfl (wd_39 hw) (wd_4 hw) (wd_41 hw) (by decide) pd_5 rfl rfl rfl (by decide) 0 (Nat.le_of_ble_eq_true rfl) (by decide) (by decide) (by decide) ?_
  rintro v1438 h1438 ⟨rfl, E1438, F1438, G1438, A1438, K1438⟩
  show W _ _ _ _ _ _ _ _ _ _ _ 3 19 191 #[.val (.int p0), .val (.int p1), .val (.int p2), .val (.int p3), .val (.int p4), .val (.int p5), .val (.int (9 : Int32)), .val (.ref b1407), .val (.ref o1417), .unset] []
  refine W.iload 193 at_191 rfl rfl ?_
  refine W.bipush 195 at_193 rfl (7 : Int32) rfl ?_
  refine W.icmp_le 208 198 at_195 rfl rfl (fun hc => absurd (by decide) hc) (fun _ => ?_)
  refine W.aload 200 at_198 rfl rfl rfl ?_
  refine W.aload 202 at_200 rfl rfl rfl ?_
  refine W.bipush 204 at_202 rfl (7 : Int32) rfl ?_
  have q1439 := (q1437.keep K1438 (ninS ne1418 (ninS ne1423 nin0)))
  refine W.iaload 205 at_204 rfl q1439 7 (by decide) (by decide) (.int (p4 - p5)) rfl ?_
  refine W.callV (rest := []) (argsL := [(.int (p4 - p5))]) (a := o1417) 208 at_205 rfl (fun hn => c_add l Z a0 hw o1417 b1421 (p4 - p5) (7 : Int32) (8 : Int32) _ 7 _ n0 hn ge1417 gb1421 ne1421 E1438 F1438 (show Fld _ _ _ _ _ _ (.int (7 : Int32)) from G1438) (show Ary _ _ _ .int [(.int p1), (.int p2), (.int p3), (.int p4), (.int p5), (.int (p1 ^^^ p2)), (.int (p3 ^^^ (-1 : Int32))), (.int (0 : Int32))] from A1438) rfl (by decide) (by decide) (by decide) (Nat.le_of_ble_eq_true rfl)) E1438 (wd_37 hw) (wd_38 hw) (wd_40 hw) rfl (wd_39 hw) (wd_4 hw) (wd_41 hw) (by decide) pd_5 rfl rfl rfl (by decide) 0 (Nat.le_of_ble_eq_true rfl) (by decide) (by decide) (by decide) ?_
  rintro v1440 h1440 ⟨rfl, E1440, F1440, G1440, A1440, K1440⟩
  show W _ _ _ _ _ _ _ _ _ _ _ 3 19 208 #[.val (.int p0), .val (.int p1), .val (.int p2), .val (.int p3), .val (.int p4), .val (.int p5), .val (.int (9 : Int32)), .val (.ref b1407), .val (.ref o1417), .unset] []
  refine W.iload 210 at_208 rfl rfl ?_
  refine W.bipush 212 at_210 rfl (8 : Int32) rfl ?_
  refine W.icmp_le 225 215 at_212 rfl rfl (fun hc => absurd (by decide) hc) (fun _ => ?_)
  refine W.aload 217 at_215 rfl rfl rfl ?_
  refine W.aload 219 at_217 rfl rfl rfl ?_
  refine W.bipush 221 at_219 rfl (8 : Int32) rfl ?_
  have q1441 := (q1439.keep K1440 (ninS ne1418 (ninS ne1423 nin0)))
  refine W.iaload 222 at_221 rfl q1441 8 (by decide) (by decide) (.int (p1 + p5)) rfl ?_
  refine W.callV (rest := []) (argsL := [(.int (p1 + p5))]) (a := o1417) 225 at_222 rfl (fun hn => c_addG l Z a0 hw o1417 b1421 (p1 + p5) p1 p2 p3 p4 p5 (p1 ^^^ p2) (p3 ^^^ (-1 : Int32)) (p4 - p5) _ n0 hn ge1417 gb1421 ne1421 E1440 F1440 (show Fld _ _ _ _ _ _ (.int (8 : Int32)) from G1440) (show Ary _ _ _ .int [(.int p1), (.int p2), (.int p3), (.int p4), (.int p5), (.int (p1 ^^^ p2)), (.int (p3 ^^^ (-1 : Int32))), (.int (p4 - p5))] from A1440)) E1440 (wd_37 hw) (wd_38 hw) (wd_40 hw) rfl (wd_39 hw) (wd_4 hw) (wd_41 hw) (by decide) pd_5 rfl rfl rfl (by decide) 0 (Nat.le_of_ble_eq_true rfl) (by decide) (by decide) (by decide) ?_
  rintro v1442 h1442 ⟨rfl, b1442, sz1442, gb1442, ne1442, E1442, F1442, G1442, A1442, K1442, B1442⟩
  have ne1443 : b1407 ≠ b1442 := Nat.ne_of_lt (Nat.lt_of_lt_of_le q1441.lt sz1442)
  have ne1444 : b1421 ≠ b1442 := Nat.ne_of_lt (Nat.lt_of_lt_of_le (show Ary _ _ _ .int [(.int p1), (.int p2), (.int p3), (.int p4), (.int p5), (.int (p1 ^^^ p2)), (.int (p3 ^^^ (-1 : Int32))), (.int (p4 - p5))] from A1440).lt sz1442)
  have ne1445 : o1417 ≠ b1442 := Nat.ne_of_lt (Nat.lt_of_lt_of_le E1440.lt sz1442)
  show W _ _ _ _ _ _ _ _ _ _ _ 4 35 225 #[.val (.int p0), .val (.int p1), .val (.int p2), .val (.int p3), .val (.int p4), .val (.int p5), .val (.int (9 : Int32)), .val (.ref b1407), .val (.ref o1417), .unset] []
  refine W.aload 227 at_225 rfl rfl rfl ?_
  refine W.callV (rest := []) (argsL := []) (a := o1417) 230 at_227 rfl (fun hn => c_size l Z a0 hw o1417 (9 : Int32) _ n0 hn G1442) E1442 (wd_13 hw) (wd_14 hw) (wd_16 hw) rfl (wd_15 hw) (wd_4 hw) (wd_17 hw) (by decide) pd_3 rfl rfl rfl (by decide) 0 (Nat.le_of_ble_eq_true rfl) (by decide) (by decide) (by decide) ?_
  rintro v1446 h1446 ⟨rfl, rfl⟩
  show W _ _ _ _ _ _ _ _ _ _ _ 4 35 230 #[.val (.int p0), .val (.int p1), .val (.int p2), .val (.int p3), .val (.int p4), .val (.int p5), .val (.int (9 : Int32)), .val (.ref b1407), .val (.ref o1417), .unset] [(.int (9 : Int32))]
  refine W.iload 232 at_230 rfl rfl ?_
  refine W.icmp_eq 237 235 at_232 rfl rfl (fun _ => ?_) (fun hc => absurd (by decide) hc)
  refine W.aload 239 at_237 rfl rfl rfl ?_
  refine W.callV (rest := []) (argsL := []) (a := o1417) 242 at_239 rfl (fun hn => c_ta9 l Z a0 hw o1417 b1442 p1 p2 p3 p4 p5 (p1 ^^^ p2) (p3 ^^^ (-1 : Int32)) (p4 - p5) (p1 + p5) (0 : Int32) (0 : Int32) (0 : Int32) (0 : Int32) (0 : Int32) (0 : Int32) (0 : Int32) _ n0 hn F1442 G1442 A1442 B1442) E1442 (wd_20 hw) (wd_21 hw) (wd_23 hw) rfl (wd_22 hw) (wd_4 hw) (wd_24 hw) (by decide) pd_4 rfl rfl rfl (by decide) 0 (Nat.le_of_ble_eq_true rfl) (by decide) (by decide) (by decide) ?_
  rintro v1447 h1447 ⟨c1447, rfl, sz1447, gb1447, K1447, A1447⟩
  have q1448 := (q1441.keep K1442 (ninS ne1418 nin0))
  have ne1449 : b1407 ≠ c1447 := Nat.ne_of_lt (Nat.lt_of_lt_of_le q1448.lt sz1447)
  have q1450 := ((show Ary _ _ _ .int [(.int p1), (.int p2), (.int p3), (.int p4), (.int p5), (.int (p1 ^^^ p2)), (.int (p3 ^^^ (-1 : Int32))), (.int (p4 - p5))] from A1440).keep K1442 (ninS (Ne.symm ne1421) nin0))
  have ne1451 : b1421 ≠ c1447 := Nat.ne_of_lt (Nat.lt_of_lt_of_le q1450.lt sz1447)
  have ne1452 : b1442 ≠ c1447 := Nat.ne_of_lt (Nat.lt_of_lt_of_le A1442.lt sz1447)
  have ne1453 : o1417 ≠ c1447 := Nat.ne_of_lt (Nat.lt_of_lt_of_le E1442.lt sz1447)
  show W _ _ _ _ _ _ _ _ _ _ _ 5 51 242 #[.val (.int p0), .val (.int p1), .val (.int p2), .val (.int p3), .val (.int p4), .val (.int p5), .val (.int (9 : Int32)), .val (.ref b1407), .val (.ref o1417), .unset] [(.ref c1447)]
  refine W.astore 244 at_242 rfl rfl #[.val (.int p0), .val (.int p1), .val (.int p2), .val (.int p3), .val (.int p4), .val (.int p5), .val (.int (9 : Int32)), .val (.ref b1407), .val (.ref o1417), .val (.ref c1447)] rfl ?_
  refine W.aload 246 at_244 rfl rfl rfl ?_
  refine W.arraylength 247 at_246 rfl A1447 (9 : Int32) rfl ?_
  refine W.iload 249 at_247 rfl rfl ?_
  refine W.icmp_eq 254 252 at_249 rfl rfl (fun _ => ?_) (fun hc => absurd (by decide) hc)
  refine W.iload 256 at_254 rfl rfl ?_
  refine W.if_le 272 259 at_256 rfl rfl (fun hc => absurd (by decide) hc) (fun _ => ?_)
  refine W.aload 261 at_259 rfl rfl rfl ?_
  refine W.iconst 262 at_261 rfl (0 : Int32) rfl ?_
  refine W.iaload 263 at_262 rfl A1447 0 (by decide) (by decide) (.int p1) rfl ?_
  refine W.aload 265 at_263 rfl rfl rfl ?_
  refine W.iconst 266 at_265 rfl (0 : Int32) rfl ?_
  have q1454 := (q1448.keep K1447 nin0)
  refine W.iaload 267 at_266 rfl q1454 0 (by decide) (by decide) (.int p1) rfl ?_
  refine W.icmp_eq 272 270 at_267 rfl rfl (fun _ => ?_) (fun hc => absurd rfl hc)
  refine W.iload 274 at_272 rfl rfl ?_
  refine W.iconst 275 at_274 rfl (1 : Int32) rfl ?_
  refine W.icmp_le 291 278 at_275 rfl rfl (fun hc => absurd (by decide) hc) (fun _ => ?_)
  refine W.aload 280 at_278 rfl rfl rfl ?_
  refine W.iconst 281 at_280 rfl (1 : Int32) rfl ?_
  refine W.iaload 282 at_281 rfl A1447 1 (by decide) (by decide) (.int p2) rfl ?_
  refine W.aload 284 at_282 rfl rfl rfl ?_
  refine W.iconst 285 at_284 rfl (1 : Int32) rfl ?_
  refine W.iaload 286 at_285 rfl q1454 1 (by decide) (by decide) (.int p2) rfl ?_
  refine W.icmp_eq 291 289 at_286 rfl rfl (fun _ => ?_) (fun hc => absurd rfl hc)
  refine W.iload 293 at_291 rfl rfl ?_
  refine W.iconst 294 at_293 rfl (2 : Int32) rfl ?_
  refine W.icmp_le 310 297 at_294 rfl rfl (fun hc => absurd (by decide) hc) (fun _ => ?_)
  refine W.aload 299 at_297 rfl rfl rfl ?_
  refine W.iconst 300 at_299 rfl (2 : Int32) rfl ?_
  refine W.iaload 301 at_300 rfl A1447 2 (by decide) (by decide) (.int p3) rfl ?_
  refine W.aload 303 at_301 rfl rfl rfl ?_
  refine W.iconst 304 at_303 rfl (2 : Int32) rfl ?_
  refine W.iaload 305 at_304 rfl q1454 2 (by decide) (by decide) (.int p3) rfl ?_
  refine W.icmp_eq 310 308 at_305 rfl rfl (fun _ => ?_) (fun hc => absurd rfl hc)
  refine W.iload 312 at_310 rfl rfl ?_
  refine W.iconst 313 at_312 rfl (3 : Int32) rfl ?_
  refine W.icmp_le 329 316 at_313 rfl rfl (fun hc => absurd (by decide) hc) (fun _ => ?_)
  refine W.aload 318 at_316 rfl rfl rfl ?_
  refine W.iconst 319 at_318 rfl (3 : Int32) rfl ?_
  refine W.iaload 320 at_319 rfl A1447 3 (by decide) (by decide) (.int p4) rfl ?_
  refine W.aload 322 at_320 rfl rfl rfl ?_
  refine W.iconst 323 at_322 rfl (3 : Int32) rfl ?_
  refine W.iaload 324 at_323 rfl q1454 3 (by decide) (by decide) (.int p4) rfl ?_
  refine W.icmp_eq 329 327 at_324 rfl rfl (fun _ => ?_) (fun hc => absurd rfl hc)
  refine W.iload 331 at_329 rfl rfl ?_
  refine W.iconst 332 at_331 rfl (4 : Int32) rfl ?_
  refine W.icmp_le 348 335 at_332 rfl rfl (fun hc => absurd (by decide) hc) (fun _ => ?_)
  refine W.aload 337 at_335 rfl rfl rfl ?_
  refine W.iconst 338 at_337 rfl (4 : Int32) rfl ?_
  refine W.iaload 339 at_338 rfl A1447 4 (by decide) (by decide) (.int p5) rfl ?_
  refine W.aload 341 at_339 rfl rfl rfl ?_
  refine W.iconst 342 at_341 rfl (4 : Int32) rfl ?_
  refine W.iaload 343 at_342 rfl q1454 4 (by decide) (by decide) (.int p5) rfl ?_
  refine W.icmp_eq 348 346 at_343 rfl rfl (fun _ => ?_) (fun hc => absurd rfl hc)
  refine W.iload 350 at_348 rfl rfl ?_
  refine W.iconst 351 at_350 rfl (5 : Int32) rfl ?_
  refine W.icmp_le 367 354 at_351 rfl rfl (fun hc => absurd (by decide) hc) (fun _ => ?_)
  refine W.aload 356 at_354 rfl rfl rfl ?_
  refine W.iconst 357 at_356 rfl (5 : Int32) rfl ?_
  refine W.iaload 358 at_357 rfl A1447 5 (by decide) (by decide) (.int (p1 ^^^ p2)) rfl ?_
  refine W.aload 360 at_358 rfl rfl rfl ?_
  refine W.iconst 361 at_360 rfl (5 : Int32) rfl ?_
  refine W.iaload 362 at_361 rfl q1454 5 (by decide) (by decide) (.int (p1 ^^^ p2)) rfl ?_
  refine W.icmp_eq 367 365 at_362 rfl rfl (fun _ => ?_) (fun hc => absurd rfl hc)
  refine W.iload 369 at_367 rfl rfl ?_
  refine W.bipush 371 at_369 rfl (6 : Int32) rfl ?_
  refine W.icmp_le 389 374 at_371 rfl rfl (fun hc => absurd (by decide) hc) (fun _ => ?_)
  refine W.aload 376 at_374 rfl rfl rfl ?_
  refine W.bipush 378 at_376 rfl (6 : Int32) rfl ?_
  refine W.iaload 379 at_378 rfl A1447 6 (by decide) (by decide) (.int (p3 ^^^ (-1 : Int32))) rfl ?_
  refine W.aload 381 at_379 rfl rfl rfl ?_
  refine W.bipush 383 at_381 rfl (6 : Int32) rfl ?_
  refine W.iaload 384 at_383 rfl q1454 6 (by decide) (by decide) (.int (p3 ^^^ (-1 : Int32))) rfl ?_
  refine W.icmp_eq 389 387 at_384 rfl rfl (fun _ => ?_) (fun hc => absurd rfl hc)
  refine W.iload 391 at_389 rfl rfl ?_
  refine W.bipush 393 at_391 rfl (7 : Int32) rfl ?_
  refine W.icmp_le 411 396 at_393 rfl rfl (fun hc => absurd (by decide) hc) (fun _ => ?_)
  refine W.aload 398 at_396 rfl rfl rfl ?_
  refine W.bipush 400 at_398 rfl (7 : Int32) rfl ?_
  refine W.iaload 401 at_400 rfl A1447 7 (by decide) (by decide) (.int (p4 - p5)) rfl ?_
  refine W.aload 403 at_401 rfl rfl rfl ?_
  refine W.bipush 405 at_403 rfl (7 : Int32) rfl ?_
  refine W.iaload 406 at_405 rfl q1454 7 (by decide) (by decide) (.int (p4 - p5)) rfl ?_
  refine W.icmp_eq 411 409 at_406 rfl rfl (fun _ => ?_) (fun hc => absurd rfl hc)
  refine W.iload 413 at_411 rfl rfl ?_
  refine W.bipush 415 at_413 rfl (8 : Int32) rfl ?_
  refine W.icmp_le 433 418 at_415 rfl rfl (fun hc => absurd (by decide) hc) (fun _ => ?_)
  refine W.aload 420 at_418 rfl rfl rfl ?_
  refine W.bipush 422 at_420 rfl (8 : Int32) rfl ?_
  refine W.iaload 423 at_422 rfl A1447 8 (by decide) (by decide) (.int (p1 + p5)) rfl ?_
  refine W.aload 425 at_423 rfl rfl rfl ?_
  refine W.bipush 427 at_425 rfl (8 : Int32) rfl ?_
  refine W.iaload 428 at_427 rfl q1454 8 (by decide) (by decide) (.int (p1 + p5)) rfl ?_
  refine W.icmp_eq 433 431 at_428 rfl rfl (fun _ => ?_) (fun hc => absurd rfl hc)
  refine W.iconst 434 at_433 rfl (1 : Int32) rfl ?_
  exact W.ireturnN (t := .boolean) at_434 rfl (by simp) (1 : Int32) rfl rfl (by decide) (by decide)
theorem law_ok (l : Launch) (Z : State) (a0 : Array Value) (hw : ∀ d ∈ tables_1, d.before a0 Z = true) (p0 p1 p2 p3 p4 p5 : Int32) (h : Heap) (n0 : Nat) (hn : n0 ≤ h.size) : ConW tables_1 l Z x code maxLocals ret room_1 #[(.int p0), (.int p1), (.int p2), (.int p3), (.int p4), (.int p5)] h n0 (fun r _ => r = some (.int 1)) := by
  rcases own_mod10 p0 with q | q | q | q | q | q | q | q | q | q
  · exact law_0 l Z a0 hw p0 p1 p2 p3 p4 p5 h n0 hn q
  · exact law_1 l Z a0 hw p0 p1 p2 p3 p4 p5 h n0 hn q
  · exact law_2 l Z a0 hw p0 p1 p2 p3 p4 p5 h n0 hn q
  · exact law_3 l Z a0 hw p0 p1 p2 p3 p4 p5 h n0 hn q
  · exact law_4 l Z a0 hw p0 p1 p2 p3 p4 p5 h n0 hn q
  · exact law_5 l Z a0 hw p0 p1 p2 p3 p4 p5 h n0 hn q
  · exact law_6 l Z a0 hw p0 p1 p2 p3 p4 p5 h n0 hn q
  · exact law_7 l Z a0 hw p0 p1 p2 p3 p4 p5 h n0 hn q
  · exact law_8 l Z a0 hw p0 p1 p2 p3 p4 p5 h n0 hn q
  · exact law_9 l Z a0 hw p0 p1 p2 p3 p4 p5 h n0 hn q
set_option maxRecDepth 65536 in
set_option maxHeartbeats 40000000 in
theorem comes_1 {Post : Tables → Env → Array Value → State → Outcome → State → Prop} (hpost : ∀ tb e args s v u, (limb_1_1.after args s (.returned v) u = true ∧ limb_1_2.after args s (.returned v) u = true ∧ True) → FrameEnd s (.returned v) u (Jvm.fieldLocs frame_1_writes args s ++ Jvm.arrayLocs frame_1_arrays args s ++ Jvm.staticLocs frame_1_statics s) 24 192 → Post tb e args s (.returned v) u) :
    ArmFor flags0 classFile x code maxLocals ret World_1 tables_1 room_1 Calls_1 rest_1 Pre_1 Post := by
  intro l hfl _ _ p e ha hc hk s m args below hf hA hF happ hP
  obtain ⟨hcalls, hrest, hpre⟩ := hP
  obtain ⟨-, -, -, hnamed, -, -, -, hat⟩ := (Spec.applies_iff hf).mp happ
  obtain ⟨hg, hn⟩ := and_e (Cond.before_iff.mp (show (Jvm.Cond.and given_1 narrow_1).before args s = true from hpre))
  obtain ⟨hcnt, hg1⟩ := and_e hg
  obtain ⟨k0, hh0⟩ := and_e hg1
  obtain ⟨k1, hh1⟩ := and_e hh0
  obtain ⟨k2, hh2⟩ := and_e hh1
  obtain ⟨k3, hh3⟩ := and_e hh2
  obtain ⟨k4, hh4⟩ := and_e hh3
  have k5 := hh4
  obtain ⟨w0, w1, w2, w3, w4, w5, rfl⟩ : ∃ w0 w1 w2 w3 w4 w5 : Value, args = #[w0, w1, w2, w3, w4, w5] := by
    have hs : args.size = 6 := by simpa [Cond.value, given_1] using hcnt
    obtain ⟨L⟩ := args
    match L, hs with
    | [w0, w1, w2, w3, w4, w5], _ => exact ⟨w0, w1, w2, w3, w4, w5, rfl⟩
  have hw := fun d (hd : d ∈ tables_1) => atoms_spec (ws := Jvm.Cond.code x code maxLocals ret :: tables_1) hat d (List.mem_cons_of_mem _ hd)
  have hfit : Fit s := fun {y c} hc i hi => by
    obtain ⟨ha, rfl⟩ := Array.getElem?_eq_some_iff.mp hc
    have q := List.all_eq_true.mp ((Array.all_eq_true_iff_forall_mem.mp hF) _ (Array.getElem_mem ha)) i (List.mem_range.mpr hi)
    simpa [Array.getElem?_eq_getElem hi] using q
  obtain ⟨i0, ei0⟩ := is_v k0
  obtain rfl : w0 = (.int i0) := Option.some.inj ei0
  obtain ⟨i1, ei1⟩ := is_v k1
  obtain rfl : w1 = (.int i1) := Option.some.inj ei1
  obtain ⟨i2, ei2⟩ := is_v k2
  obtain rfl : w2 = (.int i2) := Option.some.inj ei2
  obtain ⟨i3, ei3⟩ := is_v k3
  obtain rfl : w3 = (.int i3) := Option.some.inj ei3
  obtain ⟨i4, ei4⟩ := is_v k4
  obtain rfl : w4 = (.int i4) := Option.some.inj ei4
  obtain ⟨i5, ei5⟩ := is_v k5
  obtain rfl : w5 = (.int i5) := Option.some.inj ei5
  obtain ⟨n, o, h1, h2, h3, _, L, rfl, ⟨rfl, N⟩, hq⟩ := law_ok l s _ hw i0 i1 i2 i3 i4 i5 s.heap s.heap.size (Nat.le_refl _) p e ha hc hk s m _ below hf ((Spec.applies_iff_loose hf).mp happ).1 ⟨rfl, State.Warmed39.refl s, rfl⟩ trivial
  refine ⟨n, _, h1, h2, h3, hpost _ _ _ _ _ _ ⟨Cond.after_iff.mpr rfl, Cond.after_iff.mpr (eq_i res_at (Term.int_eval (1)) rfl), trivial⟩ ⟨hq.1, hq.2.1, (hq.2.2.sift fun y hy => Or.inr (N y hy)).mono (by decide) (by decide)⟩⟩
theorem main_1_1 : Claimed_1_1 := comes_1 fun _ _ _ _ _ _ h hF => ⟨h.1, hF⟩
theorem main_1_2 : Claimed_1_2 := comes_1 fun _ _ _ _ _ _ h hF => ⟨h.2.1, hF⟩
end Jvm.Pilot.@@N@@
namespace Jvm.Pilot.@@N@@
open Jvm Jvm.ClassFile Sem Op Lib Jvm.Free Jvm.Stand Jvm.Pilot.@@N@@.Jvm.D
/-! MADE BY PROGRAM (witnessworld.py) out of the Statement's table words and the real class files: 12 classes; the members and pool entries that the words name. The judged class is class 1, her method 1. -/
namespace start1
open Jvm.ClassFile
def u (s : String) : CpInfo := .utf8 (stringToUtf16 s)
/-- a pool by its gaps: so many unusable entries, then the entry; so many at the end -/
def gap : Nat → List CpInfo → List CpInfo
  | 0, r => r
  | n + 1, r => .unusable :: gap n r
def poolList (es : List (Nat × CpInfo)) (last : Nat) : List CpInfo := es.foldr (fun e r => gap e.1 (e.2 :: r)) (gap last [])
def pool (es : List (Nat × CpInfo)) (last : Nat) : Array CpInfo := ⟨poolList es last⟩
def fileOf (pool : Array CpInfo) (this : Nat) (attrs : Array Attribute := #[]) (ms : Array MethodInfo := #[]) (fl : Nat := 33) (sup : Nat := 0) (ifs : Array Nat := #[]) (fds : Array FieldInfo := #[]) : ClassFile where
  minorVersion := 0
  majorVersion := 65
  constantPool := pool
  accessFlags := fl
  thisClass := this
  superClass := sup
  interfaces := ifs
  fields := fds
  methods := ms
  attributes := attrs
def plain (name : String) (sup : Option ClassId) : Class where
  name := name
  kind := .ordinary
  loader := none
  accessFlags := 33
  super := sup
  interfaces := #[]
  cf := none
  fields := #[]
  methods := #[]
  instanceTypes := #[]
  staticTypes := #[]
  resolved := #[]
  callSites := []
  init := .initialized
  statics := none
  mirror := none

def pool0 : Array CpInfo := pool [(5, u "<init>"), (0, u "()V"), (1, .class_ 10), (1, u "java/lang/Object"), (85, u "clone"), (0, u "()Ljava/lang/Object;")] 26

def k0c0 : Code := { maxStack := 0, maxLocals := 1, code := object_method_1_code, exceptionTable := #[], attributes := #[] }
def k0m0 : Method := { name := "<init>", desc := "()V", sig := { parameters := [], returnType := none }, accessFlags := 1, code := some k0c0 }
def k0m1 : Method := { name := "clone", desc := "()Ljava/lang/Object;", sig := { parameters := [], returnType := some (.object "java/lang/Object") }, accessFlags := 260, code := none }
/-- java/lang/Object -/
def k0 : Class := { plain "java/lang/Object" none with
  accessFlags := 33
  interfaces := #[]
  cf := some (fileOf pool0 8 #[] #[{ accessFlags := 1, nameIndex := 5, descriptorIndex := 6, attributes := #[] }, { accessFlags := 260, nameIndex := 96, descriptorIndex := 97, attributes := #[] }] 33 0 #[] #[])
  fields := #[]
  methods := #[k0m0, k0m1]
  instanceTypes := #[]
  staticTypes := #[]
  resolved := Array.replicate 124 none
  statics := none }

def pool1 : Array CpInfo := pool [(2, .class_ 4), (0, .nameAndType 5 6), (0, u "java/lang/Object"), (0, u "<init>"), (0, u "()V"), (0, .integer 2147483647), (0, .class_ 9), (0, u "com/example/pathweave/pathweave/eval/IntList"), (0, .methodref 8 3), (0, .methodref 8 12), (0, .nameAndType 13 14), (0, u "add"), (0, u "(I)V"), (0, .methodref 8 16), (0, .nameAndType 17 18), (0, u "size"), (0, u "()I"), (0, .methodref 8 20), (0, .nameAndType 21 22), (0, u "toArray"), (0, u "()[I"), (0, .class_ 24), (0, u "com/example/pathweave/pathweave/eval/IntListAddPinLaw"), (2, u "law"), (0, u "(IIIIII)Z")] 5

def k1m0 : Method := { name := "<init>", desc := "()V", sig := { parameters := [], returnType := none }, accessFlags := 1, code := none }
def k1c1 : Code := { maxStack := 4, maxLocals := 10, code := code, exceptionTable := #[], attributes := #[] }
def k1m1 : Method := { name := "law", desc := "(IIIIII)Z", sig := { parameters := [.int, .int, .int, .int, .int, .int], returnType := some .boolean }, accessFlags := 9, code := some k1c1 }
/-- com/example/pathweave/pathweave/eval/IntListAddPinLaw -/
def k1 : Class := { plain "com/example/pathweave/pathweave/eval/IntListAddPinLaw" (some 0) with
  accessFlags := 49
  interfaces := #[]
  cf := some (fileOf pool1 23 #[] #[{ accessFlags := 1, nameIndex := 5, descriptorIndex := 6, attributes := #[] }, { accessFlags := 9, nameIndex := 27, descriptorIndex := 28, attributes := #[] }] 49 2 #[] #[])
  fields := #[]
  methods := #[k1m0, k1m1]
  instanceTypes := #[]
  staticTypes := #[]
  resolved := Array.replicate 34 none
  statics := none }

def pool2 : Array CpInfo := pool [(1, .methodref 2 3), (0, .class_ 4), (0, .nameAndType 5 6), (0, u "java/lang/Object"), (0, u "<init>"), (0, u "()V"), (0, .fieldref 8 9), (0, .class_ 10), (0, .nameAndType 11 12), (0, u "com/example/pathweave/pathweave/eval/IntList"), (0, u "values"), (0, u "[I"), (0, .fieldref 8 14), (0, .nameAndType 15 16), (0, u "size"), (0, u "I"), (0, .methodref 18 19), (0, .class_ 20), (0, .nameAndType 21 22), (0, u "java/util/Arrays"), (0, u "copyOf"), (0, u "([II)[I"), (2, u "add"), (0, u "(I)V"), (1, u "()I"), (2, u "toArray"), (0, u "()[I")] 2

def k2c0 : Code := { maxStack := 2, maxLocals := 1, code := prog_21_method_1_code, exceptionTable := #[], attributes := #[] }
def k2m0 : Method := { name := "<init>", desc := "()V", sig := { parameters := [], returnType := none }, accessFlags := 0, code := some k2c0 }
def k2c1 : Code := { maxStack := 5, maxLocals := 2, code := prog_21_method_2_code, exceptionTable := #[], attributes := #[] }
def k2m1 : Method := { name := "add", desc := "(I)V", sig := { parameters := [.int], returnType := none }, accessFlags := 0, code := some k2c1 }
def k2c2 : Code := { maxStack := 1, maxLocals := 1, code := prog_21_method_3_code, exceptionTable := #[], attributes := #[] }
def k2m2 : Method := { name := "size", desc := "()I", sig := { parameters := [], returnType := some .int }, accessFlags := 0, code := some k2c2 }
def k2c3 : Code := { maxStack := 2, maxLocals := 1, code := prog_21_method_5_code, exceptionTable := #[], attributes := #[] }
def k2m3 : Method := { name := "toArray", desc := "()[I", sig := { parameters := [], returnType := some (.array .int) }, accessFlags := 0, code := some k2c3 }
/-- com/example/pathweave/pathweave/eval/IntList -/
def k2 : Class := { plain "com/example/pathweave/pathweave/eval/IntList" (some 0) with
  accessFlags := 48
  interfaces := #[]
  cf := some (fileOf pool2 8 #[] #[{ accessFlags := 0, nameIndex := 5, descriptorIndex := 6, attributes := #[] }, { accessFlags := 0, nameIndex := 25, descriptorIndex := 26, attributes := #[] }, { accessFlags := 0, nameIndex := 15, descriptorIndex := 28, attributes := #[] }, { accessFlags := 0, nameIndex := 31, descriptorIndex := 32, attributes := #[] }] 48 2 #[] #[{ accessFlags := 2, nameIndex := 11, descriptorIndex := 12, attributes := #[] }, { accessFlags := 2, nameIndex := 15, descriptorIndex := 16, attributes := #[] }])
  fields := #[{ name := "values", type := (.array .int), accessFlags := 2, slot := 0, constantValue := 0 }, { name := "size", type := .int, accessFlags := 2, slot := 1, constantValue := 0 }]
  methods := #[k2m0, k2m1, k2m2, k2m3]
  instanceTypes := #[(.array .int), .int]
  staticTypes := #[]
  resolved := Array.replicate 35 none
  statics := none }

def pool3 : Array CpInfo := pool [(2, .class_ 4), (1, u "java/lang/Object"), (0, u "<init>"), (0, u "()V"), (7, .class_ 16), (1, u "java/util/Arrays"), (57, .class_ 76), (1, u "java/util/Arrays$NaturalOrder"), (32, u "()Ljava/lang/Object;"), (3, .class_ 115), (1, u "java/util/Arrays$LegacyMergeSort"), (1, u "Z"), (10, .nameAndType 129 109), (0, u "clone"), (20, .methodref 151 152), (0, .class_ 153), (0, .nameAndType 154 155), (0, u "java/lang/System"), (0, u "arraycopy"), (0, u "(Ljava/lang/Object;ILjava/lang/Object;II)V"), (146, u "copyOf"), (1, .methodref 305 306), (0, .class_ 307), (0, .nameAndType 308 309), (0, u "java/lang/Math"), (0, u "min"), (0, u "(II)I"), (6, .methodref 317 128), (0, .class_ 318), (0, u "[I"), (56, .class_ 376), (0, u "java/util/Arrays$ArrayList"), (68, u "$assertionsDisabled"), (269, u "MIN_ARRAY_SORT_GRAN"), (0, u "I"), (2, u "INSERTIONSORT_THRESHOLD"), (151, u "([II)[I"), (103, .class_ 976), (0, u "java/util/Arrays$ArrayItr")] 52

def k3m0 : Method := { name := "<init>", desc := "()V", sig := { parameters := [], returnType := none }, accessFlags := 2, code := none }
def k3c1 : Code := { maxStack := 6, maxLocals := 3, code := jdk_65_method_123_code, exceptionTable := #[], attributes := #[] }
def k3m1 : Method := { name := "copyOf", desc := "([II)[I", sig := { parameters := [(.array .int), .int], returnType := some (.array .int) }, accessFlags := 9, code := some k3c1 }
/-- java/util/Arrays -/
def k3 : Class := { plain "java/util/Arrays" (some 0) with
  accessFlags := 49
  interfaces := #[]
  cf := some (fileOf pool3 14 #[.nestMembers #[975, 375, 113, 74]] #[{ accessFlags := 2, nameIndex := 5, descriptorIndex := 6, attributes := #[] }, { accessFlags := 9, nameIndex := 302, descriptorIndex := 871, attributes := #[] }] 49 2 #[] #[{ accessFlags := 26, nameIndex := 715, descriptorIndex := 716, attributes := #[] }, { accessFlags := 26, nameIndex := 719, descriptorIndex := 716, attributes := #[] }, { accessFlags := 4120, nameIndex := 445, descriptorIndex := 117, attributes := #[] }])
  fields := #[{ name := "MIN_ARRAY_SORT_GRAN", type := .int, accessFlags := 26, slot := 0, constantValue := 0 }, { name := "INSERTIONSORT_THRESHOLD", type := .int, accessFlags := 26, slot := 1, constantValue := 0 }, { name := "$assertionsDisabled", type := .boolean, accessFlags := 4120, slot := 2, constantValue := 0 }]
  methods := #[k3m0, k3m1]
  instanceTypes := #[]
  staticTypes := #[.int, .int, .boolean]
  resolved := Array.replicate 1029 none
  statics := none }

def pool4 : Array CpInfo := pool [(1, .class_ 2), (0, u "java/lang/Math"), (1, .class_ 6), (1, u "java/lang/Object"), (0, u "<init>"), (0, u "()V"), (89, .class_ 100), (1, u "java/lang/Math$RandomNumberGeneratorHolder"), (71, u "negativeZeroFloatBits"), (0, u "J"), (2, u "negativeZeroDoubleBits"), (24, u "min"), (43, u "$assertionsDisabled"), (0, u "Z"), (88, u "(II)I"), (2, u "twoToTheDoubleScaleDown"), (0, u "D"), (4, u "twoToTheDoubleScaleUp"), (9, u "E"), (3, u "PI"), (2, u "TAU"), (2, u "DEGREES_TO_RADIANS"), (0, u "RADIANS_TO_DEGREES")] 94

def k4m0 : Method := { name := "<init>", desc := "()V", sig := { parameters := [], returnType := none }, accessFlags := 2, code := none }
def k4c1 : Code := { maxStack := 2, maxLocals := 2, code := jdk_29_method_69_code, exceptionTable := #[], attributes := #[] }
def k4m1 : Method := { name := "min", desc := "(II)I", sig := { parameters := [.int, .int], returnType := some .int }, accessFlags := 9, code := some k4c1 }
/-- java/lang/Math -/
def k4 : Class := { plain "java/lang/Math" (some 0) with
  accessFlags := 49
  interfaces := #[]
  cf := some (fileOf pool4 1 #[.nestMembers #[98]] #[{ accessFlags := 2, nameIndex := 7, descriptorIndex := 8, attributes := #[] }, { accessFlags := 9, nameIndex := 201, descriptorIndex := 335, attributes := #[] }] 49 4 #[] #[{ accessFlags := 25, nameIndex := 354, descriptorIndex := 339, attributes := #[] }, { accessFlags := 25, nameIndex := 358, descriptorIndex := 339, attributes := #[] }, { accessFlags := 25, nameIndex := 361, descriptorIndex := 339, attributes := #[] }, { accessFlags := 26, nameIndex := 364, descriptorIndex := 339, attributes := #[] }, { accessFlags := 26, nameIndex := 365, descriptorIndex := 339, attributes := #[] }, { accessFlags := 26, nameIndex := 172, descriptorIndex := 173, attributes := #[] }, { accessFlags := 26, nameIndex := 176, descriptorIndex := 173, attributes := #[] }, { accessFlags := 8, nameIndex := 344, descriptorIndex := 339, attributes := #[] }, { accessFlags := 8, nameIndex := 338, descriptorIndex := 339, attributes := #[] }, { accessFlags := 4120, nameIndex := 245, descriptorIndex := 246, attributes := #[] }])
  fields := #[{ name := "E", type := .double, accessFlags := 25, slot := 0, constantValue := 0 }, { name := "PI", type := .double, accessFlags := 25, slot := 1, constantValue := 0 }, { name := "TAU", type := .double, accessFlags := 25, slot := 2, constantValue := 0 }, { name := "DEGREES_TO_RADIANS", type := .double, accessFlags := 26, slot := 3, constantValue := 0 }, { name := "RADIANS_TO_DEGREES", type := .double, accessFlags := 26, slot := 4, constantValue := 0 }, { name := "negativeZeroFloatBits", type := .long, accessFlags := 26, slot := 5, constantValue := 0 }, { name := "negativeZeroDoubleBits", type := .long, accessFlags := 26, slot := 6, constantValue := 0 }, { name := "twoToTheDoubleScaleUp", type := .double, accessFlags := 8, slot := 7, constantValue := 0 }, { name := "twoToTheDoubleScaleDown", type := .double, accessFlags := 8, slot := 8, constantValue := 0 }, { name := "$assertionsDisabled", type := .boolean, accessFlags := 4120, slot := 9, constantValue := 0 }]
  methods := #[k4m0, k4m1]
  instanceTypes := #[]
  staticTypes := #[.double, .double, .double, .double, .double, .long, .long, .double, .double, .boolean]
  resolved := Array.replicate 460 none
  statics := none }

def pool5 : Array CpInfo := pool [(2, .class_ 4), (1, u "java/lang/Object"), (0, u "<init>"), (0, u "()V"), (1, .class_ 10), (1, u "java/lang/System"), (0, u "allowSecurityManager"), (0, u "I"), (16, u "cons"), (0, u "Ljava/io/Console;"), (77, .class_ 110), (1, u "java/lang/System$CallersHolder"), (43, u "initialErrStream"), (0, u "Ljava/io/PrintStream;"), (19, u "security"), (0, u "Ljava/lang/SecurityManager;"), (31, .class_ 209), (0, u "java/lang/System$1"), (7, u "props"), (0, u "Ljava/util/Properties;"), (2, u "lineSeparator"), (0, u "Ljava/lang/String;"), (96, .class_ 321), (1, u "java/lang/System$LoggerFinder"), (5, .class_ 328), (0, u "java/lang/System$Logger"), (67, u "err"), (2, u "out"), (91, u "notSupportedJnuEncoding"), (15, u "in"), (17, u "initialIn"), (0, u "Ljava/io/InputStream;"), (35, u "bootLayer"), (0, u "Ljava/lang/ModuleLayer;"), (99, .class_ 664), (0, u "java/lang/System$2"), (9, u "NEVER"), (2, u "MAYBE"), (49, u "arraycopy"), (0, u "(Ljava/lang/Object;ILjava/lang/Object;II)V"), (72, .class_ 802), (0, u "java/lang/System$Logger$Level")] 31

def k5m0 : Method := { name := "<init>", desc := "()V", sig := { parameters := [], returnType := none }, accessFlags := 2, code := none }
def k5m1 : Method := { name := "arraycopy", desc := "(Ljava/lang/Object;ILjava/lang/Object;II)V", sig := { parameters := [(.object "java/lang/Object"), .int, (.object "java/lang/Object"), .int, .int], returnType := none }, accessFlags := 265, code := none }
/-- java/lang/System -/
def k5 : Class := { plain "java/lang/System" (some 0) with
  accessFlags := 49
  interfaces := #[]
  cf := some (fileOf pool5 8 #[.nestMembers #[319, 327, 801, 108, 663, 208]] #[{ accessFlags := 2, nameIndex := 5, descriptorIndex := 6, attributes := #[] }, { accessFlags := 265, nameIndex := 727, descriptorIndex := 728, attributes := #[] }] 49 2 #[] #[{ accessFlags := 25, nameIndex := 507, descriptorIndex := 526, attributes := #[] }, { accessFlags := 25, nameIndex := 399, descriptorIndex := 155, attributes := #[] }, { accessFlags := 25, nameIndex := 396, descriptorIndex := 155, attributes := #[] }, { accessFlags := 10, nameIndex := 525, descriptorIndex := 526, attributes := #[] }, { accessFlags := 26, nameIndex := 674, descriptorIndex := 12, attributes := #[] }, { accessFlags := 26, nameIndex := 677, descriptorIndex := 12, attributes := #[] }, { accessFlags := 10, nameIndex := 11, descriptorIndex := 12, attributes := #[] }, { accessFlags := 74, nameIndex := 175, descriptorIndex := 176, attributes := #[] }, { accessFlags := 10, nameIndex := 491, descriptorIndex := 222, attributes := #[] }, { accessFlags := 74, nameIndex := 29, descriptorIndex := 30, attributes := #[] }, { accessFlags := 74, nameIndex := 154, descriptorIndex := 155, attributes := #[] }, { accessFlags := 10, nameIndex := 217, descriptorIndex := 218, attributes := #[] }, { accessFlags := 10, nameIndex := 221, descriptorIndex := 222, attributes := #[] }, { accessFlags := 8, nameIndex := 562, descriptorIndex := 563, attributes := #[] }])
  fields := #[{ name := "in", type := (.object "java/io/InputStream"), accessFlags := 25, slot := 0, constantValue := 0 }, { name := "out", type := (.object "java/io/PrintStream"), accessFlags := 25, slot := 1, constantValue := 0 }, { name := "err", type := (.object "java/io/PrintStream"), accessFlags := 25, slot := 2, constantValue := 0 }, { name := "initialIn", type := (.object "java/io/InputStream"), accessFlags := 10, slot := 3, constantValue := 0 }, { name := "NEVER", type := .int, accessFlags := 26, slot := 4, constantValue := 0 }, { name := "MAYBE", type := .int, accessFlags := 26, slot := 5, constantValue := 0 }, { name := "allowSecurityManager", type := .int, accessFlags := 10, slot := 6, constantValue := 0 }, { name := "security", type := (.object "java/lang/SecurityManager"), accessFlags := 74, slot := 7, constantValue := 0 }, { name := "notSupportedJnuEncoding", type := (.object "java/lang/String"), accessFlags := 10, slot := 8, constantValue := 0 }, { name := "cons", type := (.object "java/io/Console"), accessFlags := 74, slot := 9, constantValue := 0 }, { name := "initialErrStream", type := (.object "java/io/PrintStream"), accessFlags := 74, slot := 10, constantValue := 0 }, { name := "props", type := (.object "java/util/Properties"), accessFlags := 10, slot := 11, constantValue := 0 }, { name := "lineSeparator", type := (.object "java/lang/String"), accessFlags := 10, slot := 12, constantValue := 0 }, { name := "bootLayer", type := (.object "java/lang/ModuleLayer"), accessFlags := 8, slot := 13, constantValue := 0 }]
  methods := #[k5m0, k5m1]
  instanceTypes := #[]
  staticTypes := #[(.object "java/io/InputStream"), (.object "java/io/PrintStream"), (.object "java/io/PrintStream"), (.object "java/io/InputStream"), .int, .int, .int, (.object "java/lang/SecurityManager"), (.object "java/lang/String"), (.object "java/io/Console"), (.object "java/io/PrintStream"), (.object "java/util/Properties"), (.object "java/lang/String"), (.object "java/lang/ModuleLayer")]
  resolved := Array.replicate 834 none
  statics := none }

def pool6 : Array CpInfo := pool [(1, .class_ 2), (0, u "java/lang/Cloneable"), (0, .class_ 4), (0, u "java/lang/Object")] 2

/-- java/lang/Cloneable -/
def k6 : Class := { plain "java/lang/Cloneable" (some 0) with
  accessFlags := 1537
  interfaces := #[]
  cf := some (fileOf pool6 1 #[] #[] 1537 3 #[] #[])
  fields := #[]
  methods := #[]
  instanceTypes := #[]
  staticTypes := #[]
  resolved := Array.replicate 7 none
  statics := none }

def pool7 : Array CpInfo := pool [(1, u "java/io/Serializable"), (0, .class_ 1), (0, u "java/lang/Object"), (0, .class_ 3)] 3

/-- java/io/Serializable -/
def k7 : Class := { plain "java/io/Serializable" (some 0) with
  accessFlags := 1537
  interfaces := #[]
  cf := some (fileOf pool7 2 #[] #[] 1537 4 #[] #[])
  fields := #[]
  methods := #[]
  instanceTypes := #[]
  staticTypes := #[]
  resolved := Array.replicate 8 none
  statics := none }

/-- the primitive byte -/
def k8 : Class := { plain "byte" none with kind := .primitive 'B', accessFlags := 0x411 }
/-- [B -/
def k9 : Class := { plain "[B" (some 0) with kind := .array 8 .byte, interfaces := #[6, 7], accessFlags := 1041 }

/-- the primitive int -/
def k10 : Class := { plain "int" none with kind := .primitive 'I', accessFlags := 0x411 }
/-- [I -/
def k11 : Class := { plain "[I" (some 0) with kind := .array 10 .int, interfaces := #[6, 7], accessFlags := 1041 }

def heap : Heap := #[]
def classes : Array Class := #[k0, k1, k2, k3, k4, k5, k6, k7, k8, k9, k10, k11]
def interned : List (Array UInt16 × Addr) := []
def slotsUsed : Nat := 0
def theMethod : MethodId := ⟨1, 1⟩
def args0 : Array Value := #[.int 3, .int 9, .int 4, .int 3, .int 9, .int 4]
def aboutOver (below : List Frame) : State where
  vm := { classes := classes, interned := interned.toArray }
  heap := heap
  slotsUsed := slotsUsed
  threads := #[{ frames := .invoking theMethod args0 :: below }]
def below0 : List Frame := [.native { method := ⟨0, 0⟩, args := #[] }]
def about1 : State := aboutOver below0
def p0 : Program := .bare "" "" ""
def e0 : Env := launch0.env 0 0 0
theorem w_frames : about1.frames = Frame.invoking theMethod args0 :: below0 := rfl
set_option maxRecDepth 65536 in
theorem w_args : argsFit about1.vm theMethod args0 = true := by decide +kernel
set_option maxRecDepth 65536 in
theorem w_heap : heapFits about1 = true := by decide +kernel
set_option maxRecDepth 65536 in
theorem w_runnable : about1.curStatus? = some .runnable := by decide +kernel
set_option maxRecDepth 65536 in
theorem w_alone : about1.alone = true := by decide +kernel
set_option maxRecDepth 65536 in
theorem w_named : about1.methodNamed? x = some theMethod := by decide +kernel
set_option maxRecDepth 65536 in
theorem w_hears : about1.hears theMethod below0 = true := by decide +kernel
set_option maxRecDepth 65536 in
theorem w_ripe : about1.ripe theMethod args0 below0 = true := by decide +kernel
theorem w_running : about1.status = .running := rfl
set_option maxRecDepth 65536 in
theorem w_room : about1.hasRoom e0.platform room_1 = true :=
  launch0.hasRoom_least _ room_1 (by decide +kernel) (by decide +kernel) (by decide +kernel) (by decide +kernel) (by decide +kernel) (by decide +kernel)
theorem allAtoms_all (ts : List Jvm.Cond) (a : Array Jvm.Value) (st : Jvm.State) : (allAtoms ts).before a st = ts.all (fun c => c.before a st) := by
  induction ts with
  | nil => rfl
  | cons c t ih =>
    show (Jvm.Cond.and c (allAtoms t)).before a st = _
    rw [Jvm.Cond.before_and, ih, List.all_cons]
def words1 : List Jvm.Cond := Jvm.Cond.code x code maxLocals ret :: tables_1
/-- a 'code' word, met by the world's own term for the bytes: nothing is compared byte by byte -/
theorem code_word {y : MethodName} {bytes : ByteArray} {mx : Nat} {rt : Option FieldType} {a : Array Value} {s : State} {m : MethodId} {meth : Method} {c : Code} (h1 : s.methodNamed? y = some m) (h2 : s.vm.method? m = some meth) (h3 : meth.code = some c) (h4 : c.code = bytes)
    (h5 : (c.maxLocals == mx && c.exceptionTable.isEmpty && decide (c.maxStack ≤ mostOperands) && decide (meth.sig.returnType = rt) && !meth.locks && decide (parseMethodDescriptor y.desc = some meth.sig)) = true) : (Jvm.Cond.code y bytes mx rt).before a s = true := by
  simp only [Bool.and_eq_true, beq_iff_eq, Bool.not_eq_true', decide_eq_true_eq] at h5
  obtain ⟨⟨⟨⟨⟨g1, g2⟩, g3⟩, g4⟩, g5⟩, g6⟩ := h5
  simp [Cond.before, Cond.holds, Cond.value, h1, h2, h3, h4, g1, g2, g3, g4, g5, g6]
def isCode : Jvm.Cond → Bool
  | .code _ _ _ _ => true
  | _ => false
theorem all_split {L : List Jvm.Cond} {P : Jvm.Cond → Bool} (h1 : L.all (fun c => isCode c || P c) = true) (h2 : ∀ c ∈ L.filter isCode, P c = true) : L.all P = true := by
  refine List.all_eq_true.mpr fun c hc => ?_
  have h := List.all_eq_true.mp h1 c hc
  rcases Bool.eq_false_or_eq_true (isCode c) with hi | hi
  · exact h2 c (List.mem_filter.mpr ⟨hc, hi⟩)
  · simpa [hi] using h
set_option maxRecDepth 65536 in
theorem w_c0 : (Jvm.Cond.code x code maxLocals ret).before args0 about1 = true := code_word (m := ⟨1, 1⟩) (meth := k1m1) (c := k1c1) (by decide +kernel) rfl rfl rfl (by decide +kernel)
set_option maxRecDepth 65536 in
theorem w_c1 : (Jvm.Cond.code ({ cls := "com/example/pathweave/pathweave/eval/IntList", name := "<init>", desc := "()V" } : Jvm.MethodName) prog_21_method_1_code (1 : Nat) (Option.none : Option Jvm.ClassFile.FieldType)).before args0 about1 = true := code_word (m := ⟨2, 0⟩) (meth := k2m0) (c := k2c0) (by decide +kernel) rfl rfl rfl (by decide +kernel)
set_option maxRecDepth 65536 in
theorem w_c2 : (Jvm.Cond.code ({ cls := "java/lang/Object", name := "<init>", desc := "()V" } : Jvm.MethodName) object_method_1_code (1 : Nat) (Option.none : Option Jvm.ClassFile.FieldType)).before args0 about1 = true := code_word (m := ⟨0, 0⟩) (meth := k0m0) (c := k0c0) (by decide +kernel) rfl rfl rfl (by decide +kernel)
set_option maxRecDepth 65536 in
theorem w_c3 : (Jvm.Cond.code ({ cls := "com/example/pathweave/pathweave/eval/IntList", name := "size", desc := "()I" } : Jvm.MethodName) prog_21_method_3_code (1 : Nat) (Option.some Jvm.ClassFile.FieldType.int)).before args0 about1 = true := code_word (m := ⟨2, 2⟩) (meth := k2m2) (c := k2c2) (by decide +kernel) rfl rfl rfl (by decide +kernel)
set_option maxRecDepth 65536 in
theorem w_c4 : (Jvm.Cond.code ({ cls := "com/example/pathweave/pathweave/eval/IntList", name := "toArray", desc := "()[I" } : Jvm.MethodName) prog_21_method_5_code (1 : Nat) (Option.some (Jvm.ClassFile.FieldType.array Jvm.ClassFile.FieldType.int))).before args0 about1 = true := code_word (m := ⟨2, 3⟩) (meth := k2m3) (c := k2c3) (by decide +kernel) rfl rfl rfl (by decide +kernel)
set_option maxRecDepth 65536 in
theorem w_c5 : (Jvm.Cond.code ({ cls := "java/util/Arrays", name := "copyOf", desc := "([II)[I" } : Jvm.MethodName) jdk_65_method_123_code (3 : Nat) (Option.some (Jvm.ClassFile.FieldType.array Jvm.ClassFile.FieldType.int))).before args0 about1 = true := code_word (m := ⟨3, 1⟩) (meth := k3m1) (c := k3c1) (by decide +kernel) rfl rfl rfl (by decide +kernel)
set_option maxRecDepth 65536 in
theorem w_c6 : (Jvm.Cond.code ({ cls := "java/lang/Math", name := "min", desc := "(II)I" } : Jvm.MethodName) jdk_29_method_69_code (2 : Nat) (Option.some Jvm.ClassFile.FieldType.int)).before args0 about1 = true := code_word (m := ⟨4, 1⟩) (meth := k4m1) (c := k4c1) (by decide +kernel) rfl rfl rfl (by decide +kernel)
set_option maxRecDepth 65536 in
theorem w_c7 : (Jvm.Cond.code ({ cls := "com/example/pathweave/pathweave/eval/IntList", name := "add", desc := "(I)V" } : Jvm.MethodName) prog_21_method_2_code (2 : Nat) (Option.none : Option Jvm.ClassFile.FieldType)).before args0 about1 = true := code_word (m := ⟨2, 1⟩) (meth := k2m1) (c := k2c1) (by decide +kernel) rfl rfl rfl (by decide +kernel)
def codes1 : List Jvm.Cond := [Jvm.Cond.code x code maxLocals ret, Jvm.Cond.code ({ cls := "com/example/pathweave/pathweave/eval/IntList", name := "<init>", desc := "()V" } : Jvm.MethodName) prog_21_method_1_code (1 : Nat) (Option.none : Option Jvm.ClassFile.FieldType), Jvm.Cond.code ({ cls := "java/lang/Object", name := "<init>", desc := "()V" } : Jvm.MethodName) object_method_1_code (1 : Nat) (Option.none : Option Jvm.ClassFile.FieldType), Jvm.Cond.code ({ cls := "com/example/pathweave/pathweave/eval/IntList", name := "size", desc := "()I" } : Jvm.MethodName) prog_21_method_3_code (1 : Nat) (Option.some Jvm.ClassFile.FieldType.int), Jvm.Cond.code ({ cls := "com/example/pathweave/pathweave/eval/IntList", name := "toArray", desc := "()[I" } : Jvm.MethodName) prog_21_method_5_code (1 : Nat) (Option.some (Jvm.ClassFile.FieldType.array Jvm.ClassFile.FieldType.int)), Jvm.Cond.code ({ cls := "java/util/Arrays", name := "copyOf", desc := "([II)[I" } : Jvm.MethodName) jdk_65_method_123_code (3 : Nat) (Option.some (Jvm.ClassFile.FieldType.array Jvm.ClassFile.FieldType.int)), Jvm.Cond.code ({ cls := "java/lang/Math", name := "min", desc := "(II)I" } : Jvm.MethodName) jdk_29_method_69_code (2 : Nat) (Option.some Jvm.ClassFile.FieldType.int), Jvm.Cond.code ({ cls := "com/example/pathweave/pathweave/eval/IntList", name := "add", desc := "(I)V" } : Jvm.MethodName) prog_21_method_2_code (2 : Nat) (Option.none : Option Jvm.ClassFile.FieldType)]
set_option maxRecDepth 65536 in
theorem codes_eq : words1.filter isCode = codes1 := rfl
theorem w_codes : ∀ c ∈ words1.filter isCode, c.before args0 about1 = true := by
  rw [codes_eq]
  intro c hc
  simp only [codes1, List.mem_cons, List.not_mem_nil, or_false] at hc
  rcases hc with rfl | rfl | rfl | rfl | rfl | rfl | rfl | rfl
  · exact w_c0
  · exact w_c1
  · exact w_c2
  · exact w_c3
  · exact w_c4
  · exact w_c5
  · exact w_c6
  · exact w_c7
set_option maxRecDepth 65536 in
theorem w_t1 : (words1.take 24).all (fun c => isCode c || c.before args0 about1) = true := by decide +kernel
set_option maxRecDepth 65536 in
theorem w_t2 : ((words1.drop 24).take 24).all (fun c => isCode c || c.before args0 about1) = true := by decide +kernel
set_option maxRecDepth 65536 in
theorem w_t3 : ((words1.drop 24).drop 24).all (fun c => isCode c || c.before args0 about1) = true := by decide +kernel
theorem w_tables : (allAtoms (Jvm.Cond.code x code maxLocals ret :: tables_1)).before args0 about1 = true := by
  rw [allAtoms_all]
  show words1.all (fun c => c.before args0 about1) = true
  refine all_split ?_ w_codes
  rw [← List.take_append_drop 24 words1, List.all_append, w_t1, ← List.take_append_drop 24 (words1.drop 24), List.all_append, w_t2, w_t3]
  rfl
set_option maxRecDepth 65536 in
theorem w_case : (Jvm.Cond.and given_1 narrow_1).before args0 about1 = true := by decide +kernel
theorem w_applies : (headSpec (Jvm.Cond.code x code maxLocals ret :: tables_1) room_1).applies x e0.platform about1 = true :=
  (Spec.applies_iff w_frames).mpr ⟨w_running, w_runnable, w_alone, w_named, w_hears, w_ripe, w_room, w_tables⟩
theorem atStart : AtStart classFile x code maxLocals ret World_1 tables_1 room_1 Calls_1 rest_1 Pre_1 launch0 p0 e0 about1 theMethod args0 below0 :=
  ⟨lists_1, trivial, launch0.admits_env _ _ _, launch0.least_env, fairChoices_fair.cas, fairChoices_fair.clock, w_frames, w_args, w_heap, w_applies, trivial, trivial, w_case⟩
end start1
theorem witness_1 : WitnessClaimed_1 := ⟨start1.p0, start1.e0, start1.about1, start1.theMethod, start1.args0, start1.below0, start1.atStart⟩
end Jvm.Pilot.@@N@@
