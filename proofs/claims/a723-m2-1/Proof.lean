import JvmDerived
import JvmDerived.Pilot.@@N@@Statement
import JvmDerived.Pilot.@@N@@Code
set_option linter.unusedVariables false
set_option linter.unusedSimpArgs false
namespace Jvm.Wk
abbrev F4 := Fin 4
abbrev F2 := Fin 2
open Sem ClassFile Op Lib Jvm.Stand Jvm.Free Jvm.LawKit Jvm.RoadKit
/-- the array at a holds just these values -/
def Ary (Z : State) (h : Heap) (a : Addr) (ty : FieldType) (vs : List Value) : Prop :=
  ∃ c : Cell, Arr Z h a c ty ∧ c.slots.toList = vs ∧ (∀ v ∈ vs, fits ty v = true) ∧ vs.length < 2 ^ 31
def Endz (p : Program) (e : Env) (below : List Frame) (s : State) (R : Room) (n0 : Nat) (P : Option Value → Heap → Prop) (T : State) (g : JFrame) : Prop :=
  ∃ s₂ o, Steps p.tables e below (T.setTop g) s₂ ∧ s₂.status = .running ∧ Ended s₂ below o ∧ ∃ v L, o = .returned v ∧ (P v s₂.heap ∧ Fr n0 L) ∧ FrameEnd s o s₂ L R.cells R.slots
/-- from pc, with these locals, this stack and this heap, the body comes to its end, and P holds there -/
def W (l : Launch) (R : Room) (Z : State) (own nm : String) (bytes : ByteArray) (maxL : Nat) (ret : Option FieldType) (n0 : Nat) (P : Option Value → Heap → Prop) (h : Heap) (cells slots pc : Nat) (Ls : Array Slot) (st : List Value) : Prop :=
  ∀ (p : Program) (e : Env) (s : State) (m : MethodId) (args : Array Value) (below : List Frame) (meth : Method) (c : Code) (T : State) (locs : List Loc),
    p.tables.exec = Jvm.exec → Z.Warmed39 s.vm → c.code = bytes → c.maxLocals = maxL → s.vm.findClass own = some m.cls → meth.sig.returnType = ret → meth.locks = false → meth.name = nm → n0 ≤ s.heap.size →
    Stand p l e R s m args below meth c T locs cells slots → T.heap = h → Fr n0 locs → Endz p e below s R n0 P T (mkF m pc Ls st)
/-- a method's contract where it is called with these arguments over this heap -/
def ConW (ws : List Jvm.Cond) (l : Launch) (Z : State) (y : MethodName) (bytes : ByteArray) (maxL : Nat) (ret : Option FieldType) (rm : Room) (as : Array Value) (h : Heap) (n0 : Nat) (P : Option Value → Heap → Prop) : Prop :=
  MetFree l y (head1 (Jvm.Cond.code y bytes maxL ret :: ws) rm) (fun a U => a = as ∧ Z.Warmed39 U.vm ∧ U.heap = h) (fun _ _ _ _ _ => True) (fun _ U o U' => ∃ v L, o = .returned v ∧ (P v U'.heap ∧ Fr n0 L) ∧ FrameEnd U o U' L rm.cells rm.slots)
abbrev Con := ConW []
section Rules
variable {l : Launch} {R : Room} {Z : State} {own nm : String} {bytes : ByteArray} {maxL : Nat} {ret : Option FieldType} {n0 : Nat} {P : Option Value → Heap → Prop} {h : Heap} {cells slots pc : Nat} {Ls : Array Slot} {st : List Value} {a0 : Array Value}
theorem Endz.step {p : Program} {e : Env} {below : List Frame} {s : State} {T T' : State} {g g' : JFrame} (k : Endz p e below s R n0 P T' g') (f : ∀ t, Steps p.tables e below (T'.setTop g') t → Steps p.tables e below (T.setTop g) t) : Endz p e below s R n0 P T g := by
  obtain ⟨s₂, o, h1, h2⟩ := k
  exact ⟨s₂, o, f _ h1, h2⟩
theorem W.step {pc' : Nat} {Ls' : Array Slot} {st' : List Value} (k : W l R Z own nm bytes maxL ret n0 P h cells slots pc' Ls' st')
    (f : ∀ (p : Program) (e : Env) (s : State) (m : MethodId) (args : Array Value) (below : List Frame) (meth : Method) (c : Code) (T : State) (locs : List Loc), p.tables.exec = Jvm.exec → Z.Warmed39 s.vm → c.code = bytes → s.vm.findClass own = some m.cls → Stand p l e R s m args below meth c T locs cells slots → T.heap = h →
      ∀ t, Steps p.tables e below (T.setTop (mkF m pc' Ls' st')) t → Steps p.tables e below (T.setTop (mkF m pc Ls st)) t) : W l R Z own nm bytes maxL ret n0 P h cells slots pc Ls st := by
  intro p e s m args below meth c T locs hx hZ hby hml hown hret hlk hnm hn0 X eT N
  exact (k p e s m args below meth c T locs hx hZ hby hml hown hret hlk hnm hn0 X eT N).step (f p e s m args below meth c T locs hx hZ hby hown X eT)
theorem W.post {P' : Option Value → Heap → Prop} (k : W l R Z own nm bytes maxL ret n0 P' h cells slots pc Ls st) (f : ∀ v h', P' v h' → P v h') : W l R Z own nm bytes maxL ret n0 P h cells slots pc Ls st := by
  intro p e s m args below meth c T locs hx hZ hby hml hown hret hlk hnm hn0 X eT N
  obtain ⟨s₂, o, h1, h2, h3, v, L, h4, h5, h6⟩ := k p e s m args below meth c T locs hx hZ hby hml hown hret hlk hnm hn0 X eT N
  exact ⟨s₂, o, h1, h2, h3, v, L, h4, ⟨f _ _ h5.1, h5.2⟩, h6⟩
theorem W.mono {cells' slots' : Nat} (k : W l R Z own nm bytes maxL ret n0 P h cells' slots' pc Ls st) (hc : cells ≤ cells') (hs : slots ≤ slots') : W l R Z own nm bytes maxL ret n0 P h cells slots pc Ls st := by
  intro p e s m args below meth c T locs hx hZ hby hml hown hret hlk hnm hn0 X eT N
  exact k p e s m args below meth c T locs hx hZ hby hml hown hret hlk hnm hn0 { X with same := X.same.mono hc hs } eT N
theorem ConW.post {ws : List Jvm.Cond} {y : MethodName} {rm : Room} {as : Array Value} {P' : Option Value → Heap → Prop} (k : ConW ws l Z y bytes maxL ret rm as h n0 P') (f : ∀ v h', P' v h' → P v h') : ConW ws l Z y bytes maxL ret rm as h n0 P := by
  intro p e ha hc hk s m args below hf happ hP hK
  obtain ⟨n, o, h1, h2, h3, v, L, h4, h5, h6⟩ := k p e ha hc hk s m args below hf happ hP hK
  exact ⟨n, o, h1, h2, h3, v, L, h4, ⟨f _ _ h5.1, h5.2⟩, h6⟩
theorem ConW.of_W {ws : List Jvm.Cond} {y : MethodName} {rm : Room} {as : Array Value} (hy : plainFor y = true) (hn : n0 ≤ h.size) (hef : ∀ m, entryFrame m as maxL = mkF m 0 Ls []) (k : W l rm Z y.cls y.name bytes maxL ret n0 P h 0 0 0 Ls []) : ConW ws l Z y bytes maxL ret rm as h n0 P := by
  refine MetFree.of_bodySF hy hisR ?_
  intro p e s m args below meth c s₁ Bd hml0 hP hK
  obtain ⟨rfl, hZ, hh⟩ := hP
  have hown : s.vm.findClass y.cls = some m.cls := findClass_of_methodNamed Bd.named
  have hnm := (name_of_methodNamed Bd.named Bd.method).1
  have X0 : Stand p l e rm s m _ below meth c s₁ [] 0 0 := Stand.of_body Bd
  have e0 : s₁.heap = h := by rw [← hh, Bd.state]; rfl
  obtain ⟨s₂, o, h1, h2⟩ := k p e s m _ below meth c s₁ [] Bd.exec hZ Bd.bytes hml0 hown Bd.returns (BodyLoose.notSynchronized Bd) hnm (by rw [hh]; exact hn) X0 e0 (Fr.nil n0)
  exact ⟨s₂, o, castTop (hef m) h1, h2⟩
/-! pure steps -/
theorem W.iadd {x y : Int32} (n : Nat) (hd : decode bytes pc = .ok (.iadd, 1)) (hn : pc + 1 = n) (v : Int32) (hv : x + y = v) (k : W l R Z own nm bytes maxL ret n0 P h cells slots n Ls (.int v :: st)) : W l R Z own nm bytes maxL ret n0 P h cells slots pc Ls (.int y :: .int x :: st) := by
  subst hn
  exact k.step fun p e s m args below meth c T locs hx hZ hby hown X eT t q => XS.iadd X.here hx rfl (hb hby hd) rfl (hv ▸ q)
theorem W.ladd {x y : Int64} (n : Nat) (hd : decode bytes pc = .ok (.ladd, 1)) (hn : pc + 1 = n) (v : Int64) (hv : x + y = v) (k : W l R Z own nm bytes maxL ret n0 P h cells slots n Ls (.long v :: st)) : W l R Z own nm bytes maxL ret n0 P h cells slots pc Ls (.long y :: .long x :: st) := by
  subst hn
  exact k.step fun p e s m args below meth c T locs hx hZ hby hown X eT t q => XS.ladd X.here hx rfl (hb hby hd) rfl (hv ▸ q)
theorem W.isub {x y : Int32} (n : Nat) (hd : decode bytes pc = .ok (.isub, 1)) (hn : pc + 1 = n) (v : Int32) (hv : x - y = v) (k : W l R Z own nm bytes maxL ret n0 P h cells slots n Ls (.int v :: st)) : W l R Z own nm bytes maxL ret n0 P h cells slots pc Ls (.int y :: .int x :: st) := by
  subst hn
  exact k.step fun p e s m args below meth c T locs hx hZ hby hown X eT t q => XS.isub X.here hx rfl (hb hby hd) rfl (hv ▸ q)
theorem W.lsub {x y : Int64} (n : Nat) (hd : decode bytes pc = .ok (.lsub, 1)) (hn : pc + 1 = n) (v : Int64) (hv : x - y = v) (k : W l R Z own nm bytes maxL ret n0 P h cells slots n Ls (.long v :: st)) : W l R Z own nm bytes maxL ret n0 P h cells slots pc Ls (.long y :: .long x :: st) := by
  subst hn
  exact k.step fun p e s m args below meth c T locs hx hZ hby hown X eT t q => XS.lsub X.here hx rfl (hb hby hd) rfl (hv ▸ q)
theorem W.imul {x y : Int32} (n : Nat) (hd : decode bytes pc = .ok (.imul, 1)) (hn : pc + 1 = n) (v : Int32) (hv : x * y = v) (k : W l R Z own nm bytes maxL ret n0 P h cells slots n Ls (.int v :: st)) : W l R Z own nm bytes maxL ret n0 P h cells slots pc Ls (.int y :: .int x :: st) := by
  subst hn
  exact k.step fun p e s m args below meth c T locs hx hZ hby hown X eT t q => XS.imul X.here hx rfl (hb hby hd) rfl (hv ▸ q)
theorem W.lmul {x y : Int64} (n : Nat) (hd : decode bytes pc = .ok (.lmul, 1)) (hn : pc + 1 = n) (v : Int64) (hv : x * y = v) (k : W l R Z own nm bytes maxL ret n0 P h cells slots n Ls (.long v :: st)) : W l R Z own nm bytes maxL ret n0 P h cells slots pc Ls (.long y :: .long x :: st) := by
  subst hn
  exact k.step fun p e s m args below meth c T locs hx hZ hby hown X eT t q => XS.lmul X.here hx rfl (hb hby hd) rfl (hv ▸ q)
theorem W.iand {x y : Int32} (n : Nat) (hd : decode bytes pc = .ok (.iand, 1)) (hn : pc + 1 = n) (v : Int32) (hv : x &&& y = v) (k : W l R Z own nm bytes maxL ret n0 P h cells slots n Ls (.int v :: st)) : W l R Z own nm bytes maxL ret n0 P h cells slots pc Ls (.int y :: .int x :: st) := by
  subst hn
  exact k.step fun p e s m args below meth c T locs hx hZ hby hown X eT t q => XS.iand X.here hx rfl (hb hby hd) rfl (hv ▸ q)
theorem W.land {x y : Int64} (n : Nat) (hd : decode bytes pc = .ok (.land, 1)) (hn : pc + 1 = n) (v : Int64) (hv : x &&& y = v) (k : W l R Z own nm bytes maxL ret n0 P h cells slots n Ls (.long v :: st)) : W l R Z own nm bytes maxL ret n0 P h cells slots pc Ls (.long y :: .long x :: st) := by
  subst hn
  exact k.step fun p e s m args below meth c T locs hx hZ hby hown X eT t q => XS.land X.here hx rfl (hb hby hd) rfl (hv ▸ q)
theorem W.ior {x y : Int32} (n : Nat) (hd : decode bytes pc = .ok (.ior, 1)) (hn : pc + 1 = n) (v : Int32) (hv : x ||| y = v) (k : W l R Z own nm bytes maxL ret n0 P h cells slots n Ls (.int v :: st)) : W l R Z own nm bytes maxL ret n0 P h cells slots pc Ls (.int y :: .int x :: st) := by
  subst hn
  exact k.step fun p e s m args below meth c T locs hx hZ hby hown X eT t q => XS.ior X.here hx rfl (hb hby hd) rfl (hv ▸ q)
theorem W.lor {x y : Int64} (n : Nat) (hd : decode bytes pc = .ok (.lor, 1)) (hn : pc + 1 = n) (v : Int64) (hv : x ||| y = v) (k : W l R Z own nm bytes maxL ret n0 P h cells slots n Ls (.long v :: st)) : W l R Z own nm bytes maxL ret n0 P h cells slots pc Ls (.long y :: .long x :: st) := by
  subst hn
  exact k.step fun p e s m args below meth c T locs hx hZ hby hown X eT t q => XS.lor X.here hx rfl (hb hby hd) rfl (hv ▸ q)
theorem W.ixor {x y : Int32} (n : Nat) (hd : decode bytes pc = .ok (.ixor, 1)) (hn : pc + 1 = n) (v : Int32) (hv : x ^^^ y = v) (k : W l R Z own nm bytes maxL ret n0 P h cells slots n Ls (.int v :: st)) : W l R Z own nm bytes maxL ret n0 P h cells slots pc Ls (.int y :: .int x :: st) := by
  subst hn
  exact k.step fun p e s m args below meth c T locs hx hZ hby hown X eT t q => XS.ixor X.here hx rfl (hb hby hd) rfl (hv ▸ q)
theorem W.lxor {x y : Int64} (n : Nat) (hd : decode bytes pc = .ok (.lxor, 1)) (hn : pc + 1 = n) (v : Int64) (hv : x ^^^ y = v) (k : W l R Z own nm bytes maxL ret n0 P h cells slots n Ls (.long v :: st)) : W l R Z own nm bytes maxL ret n0 P h cells slots pc Ls (.long y :: .long x :: st) := by
  subst hn
  exact k.step fun p e s m args below meth c T locs hx hZ hby hown X eT t q => XS.lxor X.here hx rfl (hb hby hd) rfl (hv ▸ q)
theorem W.idiv {x y : Int32} (n : Nat) (hd : decode bytes pc = .ok (.idiv, 1)) (hn : pc + 1 = n) (hy : y ≠ 0) (v : Int32) (hv : x / y = v) (k : W l R Z own nm bytes maxL ret n0 P h cells slots n Ls (.int v :: st)) : W l R Z own nm bytes maxL ret n0 P h cells slots pc Ls (.int y :: .int x :: st) := by
  subst hn
  exact k.step fun p e s m args below meth c T locs hx hZ hby hown X eT t q => XS.idiv X.here hx rfl (hb hby hd) rfl hy (hv ▸ q)
theorem W.irem {x y : Int32} (n : Nat) (hd : decode bytes pc = .ok (.irem, 1)) (hn : pc + 1 = n) (hy : y ≠ 0) (v : Int32) (hv : x % y = v) (k : W l R Z own nm bytes maxL ret n0 P h cells slots n Ls (.int v :: st)) : W l R Z own nm bytes maxL ret n0 P h cells slots pc Ls (.int y :: .int x :: st) := by
  subst hn
  exact k.step fun p e s m args below meth c T locs hx hZ hby hown X eT t q => iremM X hx rfl (hb hby hd) rfl hy (hv ▸ q)
theorem W.ldiv {x y : Int64} (n : Nat) (hd : decode bytes pc = .ok (.ldiv, 1)) (hn : pc + 1 = n) (hy : y ≠ 0) (v : Int64) (hv : x / y = v) (k : W l R Z own nm bytes maxL ret n0 P h cells slots n Ls (.long v :: st)) : W l R Z own nm bytes maxL ret n0 P h cells slots pc Ls (.long y :: .long x :: st) := by
  subst hn
  exact k.step fun p e s m args below meth c T locs hx hZ hby hown X eT t q => XS.ldiv X.here hx rfl (hb hby hd) rfl hy (hv ▸ q)
theorem W.lrem {x y : Int64} (n : Nat) (hd : decode bytes pc = .ok (.lrem, 1)) (hn : pc + 1 = n) (hy : y ≠ 0) (v : Int64) (hv : x % y = v) (k : W l R Z own nm bytes maxL ret n0 P h cells slots n Ls (.long v :: st)) : W l R Z own nm bytes maxL ret n0 P h cells slots pc Ls (.long y :: .long x :: st) := by
  subst hn
  exact k.step fun p e s m args below meth c T locs hx hZ hby hown X eT t q => XS.lrem X.here hx rfl (hb hby hd) rfl hy ((lrem_mod x y).trans hv ▸ q)
theorem W.ishl {x y : Int32} (n : Nat) (hd : decode bytes pc = .ok (.ishl, 1)) (hn : pc + 1 = n) (v : Int32) (hv : x <<< (y &&& 31) = v) (k : W l R Z own nm bytes maxL ret n0 P h cells slots n Ls (.int v :: st)) : W l R Z own nm bytes maxL ret n0 P h cells slots pc Ls (.int y :: .int x :: st) := by
  subst hn
  exact k.step fun p e s m args below meth c T locs hx hZ hby hown X eT t q => XS.ishl X.here hx rfl (hb hby hd) rfl (hv ▸ q)
theorem W.ishr {x y : Int32} (n : Nat) (hd : decode bytes pc = .ok (.ishr, 1)) (hn : pc + 1 = n) (v : Int32) (hv : x >>> (y &&& 31) = v) (k : W l R Z own nm bytes maxL ret n0 P h cells slots n Ls (.int v :: st)) : W l R Z own nm bytes maxL ret n0 P h cells slots pc Ls (.int y :: .int x :: st) := by
  subst hn
  exact k.step fun p e s m args below meth c T locs hx hZ hby hown X eT t q => XS.ishr X.here hx rfl (hb hby hd) rfl (hv ▸ q)
theorem W.iushr {x y : Int32} (n : Nat) (hd : decode bytes pc = .ok (.iushr, 1)) (hn : pc + 1 = n) (v : Int32) (hv : (x.toUInt32 >>> (y &&& 31).toUInt32).toInt32 = v) (k : W l R Z own nm bytes maxL ret n0 P h cells slots n Ls (.int v :: st)) : W l R Z own nm bytes maxL ret n0 P h cells slots pc Ls (.int y :: .int x :: st) := by
  subst hn
  exact k.step fun p e s m args below meth c T locs hx hZ hby hown X eT t q => XS.iushr X.here hx rfl (hb hby hd) rfl (hv ▸ q)
theorem W.lshl {x : Int64} {y : Int32} (n : Nat) (hd : decode bytes pc = .ok (.lshl, 1)) (hn : pc + 1 = n) (v : Int64) (hv : x <<< (y &&& 0x3f).toInt64 = v) (k : W l R Z own nm bytes maxL ret n0 P h cells slots n Ls (.long v :: st)) : W l R Z own nm bytes maxL ret n0 P h cells slots pc Ls (.int y :: .long x :: st) := by
  subst hn
  exact k.step fun p e s m args below meth c T locs hx hZ hby hown X eT t q => XS.lshl X.here hx rfl (hb hby hd) rfl (hv ▸ q)
theorem W.lshr {x : Int64} {y : Int32} (n : Nat) (hd : decode bytes pc = .ok (.lshr, 1)) (hn : pc + 1 = n) (v : Int64) (hv : x >>> (y &&& 0x3f).toInt64 = v) (k : W l R Z own nm bytes maxL ret n0 P h cells slots n Ls (.long v :: st)) : W l R Z own nm bytes maxL ret n0 P h cells slots pc Ls (.int y :: .long x :: st) := by
  subst hn
  exact k.step fun p e s m args below meth c T locs hx hZ hby hown X eT t q => XS.lshr X.here hx rfl (hb hby hd) rfl (hv ▸ q)
theorem W.lushr {x : Int64} {y : Int32} (n : Nat) (hd : decode bytes pc = .ok (.lushr, 1)) (hn : pc + 1 = n) (v : Int64) (hv : (x.toUInt64 >>> (y &&& 0x3f).toInt64.toUInt64).toInt64 = v) (k : W l R Z own nm bytes maxL ret n0 P h cells slots n Ls (.long v :: st)) : W l R Z own nm bytes maxL ret n0 P h cells slots pc Ls (.int y :: .long x :: st) := by
  subst hn
  exact k.step fun p e s m args below meth c T locs hx hZ hby hown X eT t q => XS.lushr X.here hx rfl (hb hby hd) rfl (hv ▸ q)
theorem W.ineg {x : Int32} (n : Nat) (hd : decode bytes pc = .ok (.ineg, 1)) (hn : pc + 1 = n) (v : Int32) (hv : -x = v) (k : W l R Z own nm bytes maxL ret n0 P h cells slots n Ls (.int v :: st)) : W l R Z own nm bytes maxL ret n0 P h cells slots pc Ls (.int x :: st) := by
  subst hn
  exact k.step fun p e s m args below meth c T locs hx hZ hby hown X eT t q => XS.ineg X.here hx rfl (hb hby hd) rfl (hv ▸ q)
theorem W.lneg {x : Int64} (n : Nat) (hd : decode bytes pc = .ok (.lneg, 1)) (hn : pc + 1 = n) (v : Int64) (hv : -x = v) (k : W l R Z own nm bytes maxL ret n0 P h cells slots n Ls (.long v :: st)) : W l R Z own nm bytes maxL ret n0 P h cells slots pc Ls (.long x :: st) := by
  subst hn
  exact k.step fun p e s m args below meth c T locs hx hZ hby hown X eT t q => XS.lneg X.here hx rfl (hb hby hd) rfl (hv ▸ q)
theorem W.i2l {x : Int32} (n : Nat) (hd : decode bytes pc = .ok (.i2l, 1)) (hn : pc + 1 = n) (v : Int64) (hv : x.toInt64 = v) (k : W l R Z own nm bytes maxL ret n0 P h cells slots n Ls (.long v :: st)) : W l R Z own nm bytes maxL ret n0 P h cells slots pc Ls (.int x :: st) := by
  subst hn
  exact k.step fun p e s m args below meth c T locs hx hZ hby hown X eT t q => XS.i2l X.here hx rfl (hb hby hd) rfl (hv ▸ q)
theorem W.l2i {x : Int64} (n : Nat) (hd : decode bytes pc = .ok (.l2i, 1)) (hn : pc + 1 = n) (v : Int32) (hv : x.toInt32 = v) (k : W l R Z own nm bytes maxL ret n0 P h cells slots n Ls (.int v :: st)) : W l R Z own nm bytes maxL ret n0 P h cells slots pc Ls (.long x :: st) := by
  subst hn
  exact k.step fun p e s m args below meth c T locs hx hZ hby hown X eT t q => XS.l2i X.here hx rfl (hb hby hd) rfl (hv ▸ q)
theorem W.i2b {x : Int32} (n : Nat) (hd : decode bytes pc = .ok (.i2b, 1)) (hn : pc + 1 = n) (v : Int32) (hv : x.toInt8.toInt32 = v) (k : W l R Z own nm bytes maxL ret n0 P h cells slots n Ls (.int v :: st)) : W l R Z own nm bytes maxL ret n0 P h cells slots pc Ls (.int x :: st) := by
  subst hn
  exact k.step fun p e s m args below meth c T locs hx hZ hby hown X eT t q => XS.i2b X.here hx rfl (hb hby hd) rfl (hv ▸ q)
theorem W.i2s {x : Int32} (n : Nat) (hd : decode bytes pc = .ok (.i2s, 1)) (hn : pc + 1 = n) (v : Int32) (hv : x.toInt16.toInt32 = v) (k : W l R Z own nm bytes maxL ret n0 P h cells slots n Ls (.int v :: st)) : W l R Z own nm bytes maxL ret n0 P h cells slots pc Ls (.int x :: st) := by
  subst hn
  exact k.step fun p e s m args below meth c T locs hx hZ hby hown X eT t q => XS.i2s X.here hx rfl (hb hby hd) rfl (hv ▸ q)
theorem W.i2c {x : Int32} (n : Nat) (hd : decode bytes pc = .ok (.i2c, 1)) (hn : pc + 1 = n) (v : Int32) (hv : x.toUInt32.toUInt16.toUInt32.toInt32 = v) (k : W l R Z own nm bytes maxL ret n0 P h cells slots n Ls (.int v :: st)) : W l R Z own nm bytes maxL ret n0 P h cells slots pc Ls (.int x :: st) := by
  subst hn
  exact k.step fun p e s m args below meth c T locs hx hZ hby hown X eT t q => XS.i2c X.here hx rfl (hb hby hd) rfl (hv ▸ q)
theorem W.lcmp {x y : Int64} (n : Nat) (hd : decode bytes pc = .ok (.lcmp, 1)) (hn : pc + 1 = n) (v : Int32) (hv : lcmpW x y = v) (k : W l R Z own nm bytes maxL ret n0 P h cells slots n Ls (.int v :: st)) : W l R Z own nm bytes maxL ret n0 P h cells slots pc Ls (.long y :: .long x :: st) := by
  subst hn
  exact k.step fun p e s m args below meth c T locs hx hZ hby hown X eT t q => XS.lcmp X.here hx rfl (hb hby hd) rfl ((show (if x > y then 1 else if x = y then 0 else -1) = v from hv) ▸ q)
theorem W.iconst {i : Int} (n : Nat) (hd : decode bytes pc = .ok (.iconst i, 1)) (hn : pc + 1 = n) (v : Int32) (hv : Int32.ofInt i = v) (k : W l R Z own nm bytes maxL ret n0 P h cells slots n Ls (.int v :: st)) : W l R Z own nm bytes maxL ret n0 P h cells slots pc Ls st := by
  subst hn
  exact k.step fun p e s m args below meth c T locs hx hZ hby hown X eT t q => XS.iconst X.here hx rfl (hb hby hd) (hv ▸ q)
theorem W.bipush {i : Int} (n : Nat) (hd : decode bytes pc = .ok (.bipush i, 2)) (hn : pc + 2 = n) (v : Int32) (hv : (Int8.ofInt i).toInt32 = v) (k : W l R Z own nm bytes maxL ret n0 P h cells slots n Ls (.int v :: st)) : W l R Z own nm bytes maxL ret n0 P h cells slots pc Ls st := by
  subst hn
  exact k.step fun p e s m args below meth c T locs hx hZ hby hown X eT t q => XS.bipush X.here hx rfl (hb hby hd) (hv ▸ q)
theorem W.sipush {i : Int} (n : Nat) (hd : decode bytes pc = .ok (.sipush i, 3)) (hn : pc + 3 = n) (v : Int32) (hv : (Int16.ofInt i).toInt32 = v) (k : W l R Z own nm bytes maxL ret n0 P h cells slots n Ls (.int v :: st)) : W l R Z own nm bytes maxL ret n0 P h cells slots pc Ls st := by
  subst hn
  exact k.step fun p e s m args below meth c T locs hx hZ hby hown X eT t q => XS.sipush X.here hx rfl (hb hby hd) (hv ▸ q)
theorem W.lconst {i : F2} (n : Nat) (hd : decode bytes pc = .ok (.lconst i, 1)) (hn : pc + 1 = n) (v : Int64) (hv : Int64.ofNat i = v) (k : W l R Z own nm bytes maxL ret n0 P h cells slots n Ls (.long v :: st)) : W l R Z own nm bytes maxL ret n0 P h cells slots pc Ls st := by
  subst hn
  exact k.step fun p e s m args below meth c T locs hx hZ hby hown X eT t q => XS.lconst X.here hx rfl (hb hby hd) (hv ▸ q)
theorem W.aconst_null (n : Nat) (hd : decode bytes pc = .ok (.aconst_null, 1)) (hn : pc + 1 = n) (k : W l R Z own nm bytes maxL ret n0 P h cells slots n Ls (.null :: st)) : W l R Z own nm bytes maxL ret n0 P h cells slots pc Ls st := by
  subst hn
  exact k.step fun p e s m args below meth c T locs hx hZ hby hown X eT t q => XS.aconstNull X.here hx rfl (hb hby hd) q
theorem W.ldcI {i : Nat} {v : Int32} (n : Nat) (hd : decode bytes pc = .ok (.ldc i, 2)) (hn : pc + 2 = n) (w : (Jvm.Cond.constant own i v).before a0 Z = true) (k : W l R Z own nm bytes maxL ret n0 P h cells slots n Ls (.int v :: st)) : W l R Z own nm bytes maxL ret n0 P h cells slots pc Ls st := by
  subst hn
  exact k.step fun p e s m args below meth c T locs hx hZ hby hown X eT t q => X.ldcI hx hown (mvT hZ w) rfl (hb hby hd) q
theorem W.ldcWI {i : Nat} {v : Int32} (n : Nat) (hd : decode bytes pc = .ok (.ldc_w i, 3)) (hn : pc + 3 = n) (w : (Jvm.Cond.constant own i v).before a0 Z = true) (k : W l R Z own nm bytes maxL ret n0 P h cells slots n Ls (.int v :: st)) : W l R Z own nm bytes maxL ret n0 P h cells slots pc Ls st := by
  subst hn
  exact k.step fun p e s m args below meth c T locs hx hZ hby hown X eT t q => X.ldcWI hx hown (mvT hZ w) rfl (hb hby hd) q
theorem W.ldc2J {i : Nat} {v : Int64} (n : Nat) (hd : decode bytes pc = .ok (.ldc2_w i, 3)) (hn : pc + 3 = n) (w : (Jvm.Cond.constantLong own i v).before a0 Z = true) (k : W l R Z own nm bytes maxL ret n0 P h cells slots n Ls (.long v :: st)) : W l R Z own nm bytes maxL ret n0 P h cells slots pc Ls st := by
  subst hn
  exact k.step fun p e s m args below meth c T locs hx hZ hby hown X eT t q => X.ldc2J hx hown (mvT hZ w) rfl (hb hby hd) q
theorem W.ldcR {i : Nat} {text : String} {a : Addr} (n : Nat) (hd : decode bytes pc = .ok (.ldc i, 2)) (hn : pc + 2 = n) (w : (Jvm.Cond.stringRef own i text).before a0 Z = true) (L : RoadKit.Lit Z own i a) (k : W l R Z own nm bytes maxL ret n0 P h cells slots n Ls (.ref a :: st)) : W l R Z own nm bytes maxL ret n0 P h cells slots pc Ls st := by
  subst hn
  exact k.step fun p e s m args below meth c T locs hx hZ hby hown X eT t q => RoadKit.ldcR X hx hZ hown w L (g := mkF m pc Ls st) rfl (hb hby hd) t q
theorem W.iload {i : Nat} {v : Int32} (n : Nat) (hd : decode bytes pc = .ok (.iload i, 2)) (hn : pc + 2 = n) (hl : Ls[i]? = some (.val (.int v))) (k : W l R Z own nm bytes maxL ret n0 P h cells slots n Ls (.int v :: st)) : W l R Z own nm bytes maxL ret n0 P h cells slots pc Ls st := by
  subst hn
  exact k.step fun p e s m args below meth c T locs hx hZ hby hown X eT t q => XS.iload X.here hx rfl (hb hby hd) hl q
theorem W.iloadN {i : F4} {v : Int32} (n : Nat) (hd : decode bytes pc = .ok (.iload_n i, 1)) (hn : pc + 1 = n) (hl : Ls[i.val]? = some (.val (.int v))) (k : W l R Z own nm bytes maxL ret n0 P h cells slots n Ls (.int v :: st)) : W l R Z own nm bytes maxL ret n0 P h cells slots pc Ls st := by
  subst hn
  exact k.step fun p e s m args below meth c T locs hx hZ hby hown X eT t q => XS.iloadN X.here hx rfl (hb hby hd) hl q
theorem W.lload {i : Nat} {v : Int64} (n : Nat) (hd : decode bytes pc = .ok (.lload i, 2)) (hn : pc + 2 = n) (hl : Ls[i]? = some (.val (.long v))) (k : W l R Z own nm bytes maxL ret n0 P h cells slots n Ls (.long v :: st)) : W l R Z own nm bytes maxL ret n0 P h cells slots pc Ls st := by
  subst hn
  exact k.step fun p e s m args below meth c T locs hx hZ hby hown X eT t q => XS.lload X.here hx rfl (hb hby hd) hl q
theorem W.lloadN {i : F4} {v : Int64} (n : Nat) (hd : decode bytes pc = .ok (.lload_n i, 1)) (hn : pc + 1 = n) (hl : Ls[i.val]? = some (.val (.long v))) (k : W l R Z own nm bytes maxL ret n0 P h cells slots n Ls (.long v :: st)) : W l R Z own nm bytes maxL ret n0 P h cells slots pc Ls st := by
  subst hn
  exact k.step fun p e s m args below meth c T locs hx hZ hby hown X eT t q => XS.lloadN X.here hx rfl (hb hby hd) hl q
theorem W.aload {i : Nat} {v : Value} (n : Nat) (hd : decode bytes pc = .ok (.aload i, 2)) (hn : pc + 2 = n) (hl : Ls[i]? = some (.val v)) (hv : v.isRef = true) (k : W l R Z own nm bytes maxL ret n0 P h cells slots n Ls (v :: st)) : W l R Z own nm bytes maxL ret n0 P h cells slots pc Ls st := by
  subst hn
  exact k.step fun p e s m args below meth c T locs hx hZ hby hown X eT t q => XS.aload X.here hx rfl (hb hby hd) hl hv q
theorem W.aloadN {i : F4} {v : Value} (n : Nat) (hd : decode bytes pc = .ok (.aload_n i, 1)) (hn : pc + 1 = n) (hl : Ls[i.val]? = some (.val v)) (hv : v.isRef = true) (k : W l R Z own nm bytes maxL ret n0 P h cells slots n Ls (v :: st)) : W l R Z own nm bytes maxL ret n0 P h cells slots pc Ls st := by
  subst hn
  exact k.step fun p e s m args below meth c T locs hx hZ hby hown X eT t q => XS.aloadN X.here hx rfl (hb hby hd) hl hv q
theorem W.istore {i : Nat} {v : Int32} (n : Nat) (hd : decode bytes pc = .ok (.istore i, 2)) (hn : pc + 2 = n) (Ls' : Array Slot) (hl : storeLocals Ls i (.int v) = some Ls') (k : W l R Z own nm bytes maxL ret n0 P h cells slots n Ls' st) : W l R Z own nm bytes maxL ret n0 P h cells slots pc Ls (.int v :: st) := by
  subst hn
  exact k.step fun p e s m args below meth c T locs hx hZ hby hown X eT t q => XS.istore X.here hx rfl (hb hby hd) rfl hl q
theorem W.istoreN {i : F4} {v : Int32} (n : Nat) (hd : decode bytes pc = .ok (.istore_n i, 1)) (hn : pc + 1 = n) (Ls' : Array Slot) (hl : storeLocals Ls i.val (.int v) = some Ls') (k : W l R Z own nm bytes maxL ret n0 P h cells slots n Ls' st) : W l R Z own nm bytes maxL ret n0 P h cells slots pc Ls (.int v :: st) := by
  subst hn
  exact k.step fun p e s m args below meth c T locs hx hZ hby hown X eT t q => XS.istoreN X.here hx rfl (hb hby hd) rfl hl q
theorem W.lstore {i : Nat} {v : Int64} (n : Nat) (hd : decode bytes pc = .ok (.lstore i, 2)) (hn : pc + 2 = n) (Ls' : Array Slot) (hl : storeLocals Ls i (.long v) = some Ls') (k : W l R Z own nm bytes maxL ret n0 P h cells slots n Ls' st) : W l R Z own nm bytes maxL ret n0 P h cells slots pc Ls (.long v :: st) := by
  subst hn
  exact k.step fun p e s m args below meth c T locs hx hZ hby hown X eT t q => XS.lstore X.here hx rfl (hb hby hd) rfl hl q
theorem W.lstoreN {i : F4} {v : Int64} (n : Nat) (hd : decode bytes pc = .ok (.lstore_n i, 1)) (hn : pc + 1 = n) (Ls' : Array Slot) (hl : storeLocals Ls i.val (.long v) = some Ls') (k : W l R Z own nm bytes maxL ret n0 P h cells slots n Ls' st) : W l R Z own nm bytes maxL ret n0 P h cells slots pc Ls (.long v :: st) := by
  subst hn
  exact k.step fun p e s m args below meth c T locs hx hZ hby hown X eT t q => XS.lstoreN X.here hx rfl (hb hby hd) rfl hl q
theorem W.astore {i : Nat} {v : Value} (n : Nat) (hd : decode bytes pc = .ok (.astore i, 2)) (hn : pc + 2 = n) (hv : v.isRef = true) (Ls' : Array Slot) (hl : storeLocals Ls i v = some Ls') (k : W l R Z own nm bytes maxL ret n0 P h cells slots n Ls' st) : W l R Z own nm bytes maxL ret n0 P h cells slots pc Ls (v :: st) := by
  subst hn
  exact k.step fun p e s m args below meth c T locs hx hZ hby hown X eT t q => XS.astore X.here hx rfl (hb hby hd) rfl hv hl q
theorem W.astoreN {i : F4} {v : Value} (n : Nat) (hd : decode bytes pc = .ok (.astore_n i, 1)) (hn : pc + 1 = n) (hv : v.isRef = true) (Ls' : Array Slot) (hl : storeLocals Ls i.val v = some Ls') (k : W l R Z own nm bytes maxL ret n0 P h cells slots n Ls' st) : W l R Z own nm bytes maxL ret n0 P h cells slots pc Ls (v :: st) := by
  subst hn
  exact k.step fun p e s m args below meth c T locs hx hZ hby hown X eT t q => XS.astoreN X.here hx rfl (hb hby hd) rfl hv hl q
theorem W.iinc {i : Nat} {cst : Int} {x : Int32} (n : Nat) (hd : decode bytes pc = .ok (.iinc i cst, 3)) (hn : pc + 3 = n) (hx0 : Ls[i]? = some (.val (.int x))) (v : Int32) (hv : x + Int32.ofInt cst = v) (Ls' : Array Slot) (hl : storeLocals Ls i (.int v) = some Ls') (k : W l R Z own nm bytes maxL ret n0 P h cells slots n Ls' st) : W l R Z own nm bytes maxL ret n0 P h cells slots pc Ls st := by
  subst hn
  exact k.step fun p e s m args below meth c T locs hx hZ hby hown X eT t q => XS.iinc X.here hx rfl (hb hby hd) hx0 (hv ▸ hl) q
theorem W.dup {v : Value} (n : Nat) (hd : decode bytes pc = .ok (.dup, 1)) (hn : pc + 1 = n) (hc : v.category = 1) (k : W l R Z own nm bytes maxL ret n0 P h cells slots n Ls (v :: v :: st)) : W l R Z own nm bytes maxL ret n0 P h cells slots pc Ls (v :: st) := by
  subst hn
  exact k.step fun p e s m args below meth c T locs hx hZ hby hown X eT t q => XS.dup X.here hx rfl (hb hby hd) rfl hc q
theorem W.pop {v : Value} (n : Nat) (hd : decode bytes pc = .ok (.pop, 1)) (hn : pc + 1 = n) (hc : v.category = 1) (k : W l R Z own nm bytes maxL ret n0 P h cells slots n Ls st) : W l R Z own nm bytes maxL ret n0 P h cells slots pc Ls (v :: st) := by
  subst hn
  exact k.step fun p e s m args below meth c T locs hx hZ hby hown X eT t q => XS.pop X.here hx rfl (hb hby hd) rfl hc q
theorem W.dup_x1 {v w : Value} (n : Nat) (hd : decode bytes pc = .ok (.dup_x1, 1)) (hn : pc + 1 = n) (hc : v.category = 1) (hc' : w.category = 1) (k : W l R Z own nm bytes maxL ret n0 P h cells slots n Ls (v :: w :: v :: st)) : W l R Z own nm bytes maxL ret n0 P h cells slots pc Ls (v :: w :: st) := by
  subst hn
  exact k.step fun p e s m args below meth c T locs hx hZ hby hown X eT t q => XS.dupX1 X.here hx rfl (hb hby hd) rfl hc hc' q
theorem W.dup2 {v w : Value} (n : Nat) (hd : decode bytes pc = .ok (.dup2, 1)) (hn : pc + 1 = n) (hc : v.category = 1) (hc' : w.category = 1) (k : W l R Z own nm bytes maxL ret n0 P h cells slots n Ls (v :: w :: v :: w :: st)) : W l R Z own nm bytes maxL ret n0 P h cells slots pc Ls (v :: w :: st) := by
  subst hn
  exact k.step fun p e s m args below meth c T locs hx hZ hby hown X eT t q => XT.dup2 X.here hx rfl (hb hby hd) rfl hc hc' q
theorem W.goto {o : Int} (n : Nat) (hd : decode bytes pc = .ok (.goto o, 3)) (hn : (pc : Int) + o = (n : Int)) (k : W l R Z own nm bytes maxL ret n0 P h cells slots n Ls st) : W l R Z own nm bytes maxL ret n0 P h cells slots pc Ls st :=
  k.step fun p e s m args below meth c T locs hx hZ hby hown X eT t q => XS.goto X.here hx rfl (pc0 := pc) (pc' := n) rfl (hb hby hd) (by omega) (by omega) q
theorem W.icmp_lt {x y : Int32} {o : Int} (n n' : Nat) (hd : decode bytes pc = .ok (.if_icmp .lt o, 3)) (hn : (pc : Int) + o = (n : Int)) (hn' : pc + 3 = n') (k : x < y → W l R Z own nm bytes maxL ret n0 P h cells slots n Ls st) (k' : ¬ x < y → W l R Z own nm bytes maxL ret n0 P h cells slots n' Ls st) : W l R Z own nm bytes maxL ret n0 P h cells slots pc Ls (.int y :: .int x :: st) := by
  subst hn'
  by_cases hc : x < y
  · exact (k hc).step fun p e s m args below meth c T locs hx hZ hby hown X eT t q => XS.icmpYes X.here hx rfl (pc0 := pc) (pc' := n) rfl (hb hby hd) rfl (tlt hc).1 (by omega) (by omega) q
  · exact (k' hc).step fun p e s m args below meth c T locs hx hZ hby hown X eT t q => XS.icmpNo X.here hx rfl (hb hby hd) rfl (flt hc).1 q
theorem W.if_lt {x : Int32} {o : Int} (n n' : Nat) (hd : decode bytes pc = .ok (.ifCond .lt o, 3)) (hn : (pc : Int) + o = (n : Int)) (hn' : pc + 3 = n') (k : x < (0 : Int32) → W l R Z own nm bytes maxL ret n0 P h cells slots n Ls st) (k' : ¬ x < (0 : Int32) → W l R Z own nm bytes maxL ret n0 P h cells slots n' Ls st) : W l R Z own nm bytes maxL ret n0 P h cells slots pc Ls (.int x :: st) := by
  subst hn'
  by_cases hc : x < (0 : Int32)
  · exact (k hc).step fun p e s m args below meth c T locs hx hZ hby hown X eT t q => XS.ifYes X.here hx rfl (pc0 := pc) (pc' := n) rfl (hb hby hd) rfl ((if0 _ _).trans (tlt hc).1) (by omega) (by omega) q
  · exact (k' hc).step fun p e s m args below meth c T locs hx hZ hby hown X eT t q => XS.ifNo X.here hx rfl (hb hby hd) rfl ((if0 _ _).trans (flt hc).1) q
theorem W.icmp_ge {x y : Int32} {o : Int} (n n' : Nat) (hd : decode bytes pc = .ok (.if_icmp .ge o, 3)) (hn : (pc : Int) + o = (n : Int)) (hn' : pc + 3 = n') (k : ¬ x < y → W l R Z own nm bytes maxL ret n0 P h cells slots n Ls st) (k' : x < y → W l R Z own nm bytes maxL ret n0 P h cells slots n' Ls st) : W l R Z own nm bytes maxL ret n0 P h cells slots pc Ls (.int y :: .int x :: st) := by
  subst hn'
  by_cases hc : x < y
  · exact (k' hc).step fun p e s m args below meth c T locs hx hZ hby hown X eT t q => XS.icmpNo X.here hx rfl (hb hby hd) rfl (tlt hc).2.1 q
  · exact (k hc).step fun p e s m args below meth c T locs hx hZ hby hown X eT t q => XS.icmpYes X.here hx rfl (pc0 := pc) (pc' := n) rfl (hb hby hd) rfl (flt hc).2.1 (by omega) (by omega) q
theorem W.if_ge {x : Int32} {o : Int} (n n' : Nat) (hd : decode bytes pc = .ok (.ifCond .ge o, 3)) (hn : (pc : Int) + o = (n : Int)) (hn' : pc + 3 = n') (k : ¬ x < (0 : Int32) → W l R Z own nm bytes maxL ret n0 P h cells slots n Ls st) (k' : x < (0 : Int32) → W l R Z own nm bytes maxL ret n0 P h cells slots n' Ls st) : W l R Z own nm bytes maxL ret n0 P h cells slots pc Ls (.int x :: st) := by
  subst hn'
  by_cases hc : x < (0 : Int32)
  · exact (k' hc).step fun p e s m args below meth c T locs hx hZ hby hown X eT t q => XS.ifNo X.here hx rfl (hb hby hd) rfl ((if0 _ _).trans (tlt hc).2.1) q
  · exact (k hc).step fun p e s m args below meth c T locs hx hZ hby hown X eT t q => XS.ifYes X.here hx rfl (pc0 := pc) (pc' := n) rfl (hb hby hd) rfl ((if0 _ _).trans (flt hc).2.1) (by omega) (by omega) q
theorem W.icmp_gt {x y : Int32} {o : Int} (n n' : Nat) (hd : decode bytes pc = .ok (.if_icmp .gt o, 3)) (hn : (pc : Int) + o = (n : Int)) (hn' : pc + 3 = n') (k : y < x → W l R Z own nm bytes maxL ret n0 P h cells slots n Ls st) (k' : ¬ y < x → W l R Z own nm bytes maxL ret n0 P h cells slots n' Ls st) : W l R Z own nm bytes maxL ret n0 P h cells slots pc Ls (.int y :: .int x :: st) := by
  subst hn'
  by_cases hc : y < x
  · exact (k hc).step fun p e s m args below meth c T locs hx hZ hby hown X eT t q => XS.icmpYes X.here hx rfl (pc0 := pc) (pc' := n) rfl (hb hby hd) rfl (tlt hc).2.2.1 (by omega) (by omega) q
  · exact (k' hc).step fun p e s m args below meth c T locs hx hZ hby hown X eT t q => XS.icmpNo X.here hx rfl (hb hby hd) rfl (flt hc).2.2.1 q
theorem W.if_gt {x : Int32} {o : Int} (n n' : Nat) (hd : decode bytes pc = .ok (.ifCond .gt o, 3)) (hn : (pc : Int) + o = (n : Int)) (hn' : pc + 3 = n') (k : (0 : Int32) < x → W l R Z own nm bytes maxL ret n0 P h cells slots n Ls st) (k' : ¬ (0 : Int32) < x → W l R Z own nm bytes maxL ret n0 P h cells slots n' Ls st) : W l R Z own nm bytes maxL ret n0 P h cells slots pc Ls (.int x :: st) := by
  subst hn'
  by_cases hc : (0 : Int32) < x
  · exact (k hc).step fun p e s m args below meth c T locs hx hZ hby hown X eT t q => XS.ifYes X.here hx rfl (pc0 := pc) (pc' := n) rfl (hb hby hd) rfl ((if0 _ _).trans (tlt hc).2.2.1) (by omega) (by omega) q
  · exact (k' hc).step fun p e s m args below meth c T locs hx hZ hby hown X eT t q => XS.ifNo X.here hx rfl (hb hby hd) rfl ((if0 _ _).trans (flt hc).2.2.1) q
theorem W.icmp_le {x y : Int32} {o : Int} (n n' : Nat) (hd : decode bytes pc = .ok (.if_icmp .le o, 3)) (hn : (pc : Int) + o = (n : Int)) (hn' : pc + 3 = n') (k : ¬ y < x → W l R Z own nm bytes maxL ret n0 P h cells slots n Ls st) (k' : y < x → W l R Z own nm bytes maxL ret n0 P h cells slots n' Ls st) : W l R Z own nm bytes maxL ret n0 P h cells slots pc Ls (.int y :: .int x :: st) := by
  subst hn'
  by_cases hc : y < x
  · exact (k' hc).step fun p e s m args below meth c T locs hx hZ hby hown X eT t q => XS.icmpNo X.here hx rfl (hb hby hd) rfl (tlt hc).2.2.2 q
  · exact (k hc).step fun p e s m args below meth c T locs hx hZ hby hown X eT t q => XS.icmpYes X.here hx rfl (pc0 := pc) (pc' := n) rfl (hb hby hd) rfl (flt hc).2.2.2 (by omega) (by omega) q
theorem W.if_le {x : Int32} {o : Int} (n n' : Nat) (hd : decode bytes pc = .ok (.ifCond .le o, 3)) (hn : (pc : Int) + o = (n : Int)) (hn' : pc + 3 = n') (k : ¬ (0 : Int32) < x → W l R Z own nm bytes maxL ret n0 P h cells slots n Ls st) (k' : (0 : Int32) < x → W l R Z own nm bytes maxL ret n0 P h cells slots n' Ls st) : W l R Z own nm bytes maxL ret n0 P h cells slots pc Ls (.int x :: st) := by
  subst hn'
  by_cases hc : (0 : Int32) < x
  · exact (k' hc).step fun p e s m args below meth c T locs hx hZ hby hown X eT t q => XS.ifNo X.here hx rfl (hb hby hd) rfl ((if0 _ _).trans (tlt hc).2.2.2) q
  · exact (k hc).step fun p e s m args below meth c T locs hx hZ hby hown X eT t q => XS.ifYes X.here hx rfl (pc0 := pc) (pc' := n) rfl (hb hby hd) rfl ((if0 _ _).trans (flt hc).2.2.2) (by omega) (by omega) q
theorem W.icmp_eq {x y : Int32} {o : Int} (n n' : Nat) (hd : decode bytes pc = .ok (.if_icmp .eq o, 3)) (hn : (pc : Int) + o = (n : Int)) (hn' : pc + 3 = n') (k : x = y → W l R Z own nm bytes maxL ret n0 P h cells slots n Ls st) (k' : ¬ x = y → W l R Z own nm bytes maxL ret n0 P h cells slots n' Ls st) : W l R Z own nm bytes maxL ret n0 P h cells slots pc Ls (.int y :: .int x :: st) := by
  subst hn'
  by_cases hc : x = y
  · exact (k hc).step fun p e s m args below meth c T locs hx hZ hby hown X eT t q => XS.icmpYes X.here hx rfl (pc0 := pc) (pc' := n) rfl (hb hby hd) rfl (teq hc).1 (by omega) (by omega) q
  · exact (k' hc).step fun p e s m args below meth c T locs hx hZ hby hown X eT t q => XS.icmpNo X.here hx rfl (hb hby hd) rfl (feq hc).1 q
theorem W.if_eq {x : Int32} {o : Int} (n n' : Nat) (hd : decode bytes pc = .ok (.ifCond .eq o, 3)) (hn : (pc : Int) + o = (n : Int)) (hn' : pc + 3 = n') (k : x = (0 : Int32) → W l R Z own nm bytes maxL ret n0 P h cells slots n Ls st) (k' : ¬ x = (0 : Int32) → W l R Z own nm bytes maxL ret n0 P h cells slots n' Ls st) : W l R Z own nm bytes maxL ret n0 P h cells slots pc Ls (.int x :: st) := by
  subst hn'
  by_cases hc : x = (0 : Int32)
  · exact (k hc).step fun p e s m args below meth c T locs hx hZ hby hown X eT t q => XS.ifYes X.here hx rfl (pc0 := pc) (pc' := n) rfl (hb hby hd) rfl ((if0 _ _).trans (teq hc).1) (by omega) (by omega) q
  · exact (k' hc).step fun p e s m args below meth c T locs hx hZ hby hown X eT t q => XS.ifNo X.here hx rfl (hb hby hd) rfl ((if0 _ _).trans (feq hc).1) q
theorem W.icmp_ne {x y : Int32} {o : Int} (n n' : Nat) (hd : decode bytes pc = .ok (.if_icmp .ne o, 3)) (hn : (pc : Int) + o = (n : Int)) (hn' : pc + 3 = n') (k : ¬ x = y → W l R Z own nm bytes maxL ret n0 P h cells slots n Ls st) (k' : x = y → W l R Z own nm bytes maxL ret n0 P h cells slots n' Ls st) : W l R Z own nm bytes maxL ret n0 P h cells slots pc Ls (.int y :: .int x :: st) := by
  subst hn'
  by_cases hc : x = y
  · exact (k' hc).step fun p e s m args below meth c T locs hx hZ hby hown X eT t q => XS.icmpNo X.here hx rfl (hb hby hd) rfl (teq hc).2 q
  · exact (k hc).step fun p e s m args below meth c T locs hx hZ hby hown X eT t q => XS.icmpYes X.here hx rfl (pc0 := pc) (pc' := n) rfl (hb hby hd) rfl (feq hc).2 (by omega) (by omega) q
theorem W.if_ne {x : Int32} {o : Int} (n n' : Nat) (hd : decode bytes pc = .ok (.ifCond .ne o, 3)) (hn : (pc : Int) + o = (n : Int)) (hn' : pc + 3 = n') (k : ¬ x = (0 : Int32) → W l R Z own nm bytes maxL ret n0 P h cells slots n Ls st) (k' : x = (0 : Int32) → W l R Z own nm bytes maxL ret n0 P h cells slots n' Ls st) : W l R Z own nm bytes maxL ret n0 P h cells slots pc Ls (.int x :: st) := by
  subst hn'
  by_cases hc : x = (0 : Int32)
  · exact (k' hc).step fun p e s m args below meth c T locs hx hZ hby hown X eT t q => XS.ifNo X.here hx rfl (hb hby hd) rfl ((if0 _ _).trans (teq hc).2) q
  · exact (k hc).step fun p e s m args below meth c T locs hx hZ hby hown X eT t q => XS.ifYes X.here hx rfl (pc0 := pc) (pc' := n) rfl (hb hby hd) rfl ((if0 _ _).trans (feq hc).2) (by omega) (by omega) q
theorem W.ifnull_null {o : Int} (n : Nat) (hd : decode bytes pc = .ok (.ifnull o, 3)) (hn : (pc : Int) + o = (n : Int)) (k : W l R Z own nm bytes maxL ret n0 P h cells slots n Ls st) : W l R Z own nm bytes maxL ret n0 P h cells slots pc Ls (.null :: st) := by
  exact k.step fun p e s m args below meth c T locs hx hZ hby hown X eT t q => XS.ifnullYes X.here hx rfl (pc0 := pc) (pc' := n) rfl (hb hby hd) rfl (by omega) (by omega) q
theorem W.ifnull_ref {o : Int} {a : Addr} (n : Nat) (hd : decode bytes pc = .ok (.ifnull o, 3)) (hn : pc + 3 = n) (k : W l R Z own nm bytes maxL ret n0 P h cells slots n Ls st) : W l R Z own nm bytes maxL ret n0 P h cells slots pc Ls (.ref a :: st) := by
  subst hn
  exact k.step fun p e s m args below meth c T locs hx hZ hby hown X eT t q => XS.ifnullNo X.here hx rfl (hb hby hd) rfl q
theorem W.ifnonnull_null {o : Int} (n : Nat) (hd : decode bytes pc = .ok (.ifnonnull o, 3)) (hn : pc + 3 = n) (k : W l R Z own nm bytes maxL ret n0 P h cells slots n Ls st) : W l R Z own nm bytes maxL ret n0 P h cells slots pc Ls (.null :: st) := by
  subst hn
  exact k.step fun p e s m args below meth c T locs hx hZ hby hown X eT t q => XS.ifnonnullNo X.here hx rfl (hb hby hd) rfl q
theorem W.ifnonnull_ref {o : Int} {a : Addr} (n : Nat) (hd : decode bytes pc = .ok (.ifnonnull o, 3)) (hn : (pc : Int) + o = (n : Int)) (k : W l R Z own nm bytes maxL ret n0 P h cells slots n Ls st) : W l R Z own nm bytes maxL ret n0 P h cells slots pc Ls (.ref a :: st) := by
  exact k.step fun p e s m args below meth c T locs hx hZ hby hown X eT t q => XS.ifnonnullYes X.here hx rfl (pc0 := pc) (pc' := n) rfl (hb hby hd) rfl (by omega) (by omega) q
theorem W.acmp_eq {x y : Value} {o : Int} (n n' : Nat) (hd : decode bytes pc = .ok (.if_acmp .eq o, 3)) (hn : (pc : Int) + o = (n : Int)) (hn' : pc + 3 = n') (h1 : x.isRef = true) (h2 : y.isRef = true) (k : x = y → W l R Z own nm bytes maxL ret n0 P h cells slots n Ls st) (k' : ¬ x = y → W l R Z own nm bytes maxL ret n0 P h cells slots n' Ls st) : W l R Z own nm bytes maxL ret n0 P h cells slots pc Ls (y :: x :: st) := by
  subst hn'
  by_cases hc : x = y
  · exact (k hc).step fun p e s m args below meth c T locs hx hZ hby hown X eT t q => RoadKit.acmp X hx rfl h1 h2 (pc0 := pc) (pc' := n) (same := true) rfl (hb hby hd) rfl (decide_eq_true hc) (by omega) (by simp [acV]; try omega) q
  · exact (k' hc).step fun p e s m args below meth c T locs hx hZ hby hown X eT t q => RoadKit.acmp X hx rfl h1 h2 (pc0 := pc) (pc' := pc + 3) (same := false) rfl (hb hby hd) rfl (decide_eq_false hc) (by omega) (by simp [acV]; try omega) q
theorem W.acmp_ne {x y : Value} {o : Int} (n n' : Nat) (hd : decode bytes pc = .ok (.if_acmp .ne o, 3)) (hn : (pc : Int) + o = (n : Int)) (hn' : pc + 3 = n') (h1 : x.isRef = true) (h2 : y.isRef = true) (k : ¬ x = y → W l R Z own nm bytes maxL ret n0 P h cells slots n Ls st) (k' : x = y → W l R Z own nm bytes maxL ret n0 P h cells slots n' Ls st) : W l R Z own nm bytes maxL ret n0 P h cells slots pc Ls (y :: x :: st) := by
  subst hn'
  by_cases hc : x = y
  · exact (k' hc).step fun p e s m args below meth c T locs hx hZ hby hown X eT t q => RoadKit.acmp X hx rfl h1 h2 (pc0 := pc) (pc' := pc + 3) (same := true) rfl (hb hby hd) rfl (decide_eq_true hc) (by omega) (by simp [acV]; try omega) q
  · exact (k hc).step fun p e s m args below meth c T locs hx hZ hby hown X eT t q => RoadKit.acmp X hx rfl h1 h2 (pc0 := pc) (pc' := n) (same := false) rfl (hb hby hd) rfl (decide_eq_false hc) (by omega) (by simp [acV]; try omega) q
theorem W.lookup {d : Int} {ps : Array (Int × Int)} {len : Nat} {x : Int32} (o : Int) (n : Nat) (hd : decode bytes pc = .ok (.lookupswitch d ps, len)) (hsort : (ps.toList.zip (ps.toList.drop 1)).all (fun (a, next) => a.1 < next.1) = true) (ho : Op.lookupswitch.offset ps.toList d x.toInt = o) (hn : (pc : Int) + o = (n : Int)) (k : W l R Z own nm bytes maxL ret n0 P h cells slots n Ls st) : W l R Z own nm bytes maxL ret n0 P h cells slots pc Ls (.int x :: st) := by
  refine k.step fun p e s m args below meth c T locs hx hZ hby hown X eT t q => ?_
  have hd' := hb hby hd
  have ho' : 0 ≤ (pc : Int) + o := by omega
  have hp : ((pc : Int) + o).toNat = n := by omega
  jvm_step X.here [X.here.top, hx, hd', Op.lookupswitch.wp_chain, hsort, ho, ho', hp]
  exact ⟨by simpa using hsort, q⟩
/-! the heap -/
theorem Fr.one {k : Nat} {L : List Loc} {a : Addr} {sl : Nat} (N : Fr k L) (q : k ≤ a) : Fr k (L ++ [⟨a, sl⟩]) := N.app fun y hy => by cases List.mem_singleton.mp hy; exact q
theorem Keep.of_ext {h h' : Heap} (E : Ext h h') : Keep h h' [] := (Keep.refl h []).ext E
theorem size_le {p : Program} {e : Env} {s : State} {m : MethodId} {args : Array Value} {below : List Frame} {meth : Method} {c : Code} {T : State} {locs : List Loc} (X : Stand p l e R s m args below meth c T locs cells slots) : s.heap.size ≤ T.heap.size := X.same.2.1
theorem W.getfield {i : Nat} {R0 O f d host : String} {a : Addr} {v : Value} (n : Nat) (hd : decode bytes pc = .ok (.getfield i, 3)) (hn : pc + 3 = n) (w : (Jvm.Cond.fieldLink own i R0 f d).before a0 Z = true ∨ (Jvm.Cond.fieldLinkNest own i R0 f d host).before a0 Z = true) (via : Via Z R0 O f d) (F : Fld Z h a O f d v) (k : W l R Z own nm bytes maxL ret n0 P h cells slots n Ls (v :: st)) : W l R Z own nm bytes maxL ret n0 P h cells slots pc Ls (.ref a :: st) := by
  subst hn
  intro p e s m args below meth c T locs hx hZ hby hml hown hret hlk hnm hn0 X eT N
  obtain ⟨T', X', e', st'⟩ := getF X hx hZ hown w via eT F (g := mkF m pc Ls (.ref a :: st)) rfl rfl (hb hby hd)
  exact (k p e s m args below meth c T' locs hx hZ hby hml hown hret hlk hnm hn0 X' e' N).step st'
theorem W.getstatic {i : Nat} {R0 O f d host : String} {v : Value} (n : Nat) (hd : decode bytes pc = .ok (.getstatic i, 3)) (hn : pc + 3 = n) (w : (Jvm.Cond.fieldLink own i R0 f d).before a0 Z = true ∨ (Jvm.Cond.fieldLinkNest own i R0 f d host).before a0 Z = true) (via : Via Z R0 O f d) (F : Sta Z h O f d v) (k : W l R Z own nm bytes maxL ret n0 P h cells slots n Ls (v :: st)) : W l R Z own nm bytes maxL ret n0 P h cells slots pc Ls st := by
  subst hn
  intro p e s m args below meth c T locs hx hZ hby hml hown hret hlk hnm hn0 X eT N
  obtain ⟨T', X', e', st'⟩ := getS2 X hx hZ hown w via eT F (g := mkF m pc Ls st) rfl (hb hby hd)
  exact (k p e s m args below meth c T' locs hx hZ hby hml hown hret hlk hnm hn0 X' e' N).step st'
theorem W.putfield {i kk : Nat} {R0 O f d host C : String} {ty : FieldType} {a : Addr} {v old : Value} (n : Nat) (hd : decode bytes pc = .ok (.putfield i, 3)) (hn : pc + 3 = n) (w : (Jvm.Cond.fieldLink own i R0 f d).before a0 Z = true ∨ (Jvm.Cond.fieldLinkNest own i R0 f d host).before a0 Z = true) (via : Via Z R0 O f d) (F : Fld Z h a O f d old) (E : Exa Z h a C)
    (L : (Jvm.Cond.lays C O f d).before a0 Z = true ∨ ((Jvm.Cond.laysFinal C O f d).before a0 Z = true ∧ own = O ∧ nm = "<init>")) (wi : (Jvm.Cond.instantiable C kk).before a0 Z = true) (hty : parseFieldDescriptor d = some ty) (hv : narrow ty v = v) (hf : fits ty v = true) (ge : n0 ≤ a)
    (k : ∀ h', Wr h h' a (RoadKit.slotOf Z O f d) v → Fld Z h' a O f d v → Exa Z h' a C → Keep h h' [a] → W l R Z own nm bytes maxL ret n0 P h' cells slots n Ls st) : W l R Z own nm bytes maxL ret n0 P h cells slots pc Ls (v :: .ref a :: st) := by
  subst hn
  intro p e s m args below meth c T locs hx hZ hby hml hown hret hlk hnm hn0 X eT N
  obtain ⟨T', h', X', e', W', st'⟩ := putF X hx hZ hown w via eT F E (L.imp id fun q => ⟨q.1, q.2.1, hnm.trans q.2.2⟩) wi hty hv hf (g := mkF m pc Ls (v :: .ref a :: st)) rfl rfl (hb hby hd)
  exact (k h' W' (F.same W') (E.wr W') (Keep.of_wr W') p e s m args below meth c T' _ hx hZ hby hml hown hret hlk hnm hn0 X' e' (Fr.one N ge)).step st'
theorem W.putfieldN {i kk : Nat} {R0 O f d C : String} {ty : FieldType} {a : Addr} {v old : Value} (n : Nat) (hd : decode bytes pc = .ok (.putfield i, 3)) (hn : pc + 3 = n) (w : (Jvm.Cond.fieldLink own i R0 f d).before a0 Z = true) (via : Via Z R0 O f d) (F : Fld Z h a O f d old) (E : Exa Z h a C)
    (L : (Jvm.Cond.lays C O f d).before a0 Z = true ∨ ((Jvm.Cond.laysFinal C O f d).before a0 Z = true ∧ own = O ∧ nm = "<init>")) (wi : (Jvm.Cond.instantiable C kk).before a0 Z = true) (hty : parseFieldDescriptor d = some ty) (v' : Value) (hv : narrow ty v = v') (hf : fits ty v' = true) (ge : n0 ≤ a)
    (k : ∀ h', Wr h h' a (RoadKit.slotOf Z O f d) v' → Fld Z h' a O f d v' → Exa Z h' a C → Keep h h' [a] → W l R Z own nm bytes maxL ret n0 P h' cells slots n Ls st) : W l R Z own nm bytes maxL ret n0 P h cells slots pc Ls (v :: .ref a :: st) := by
  subst hn
  intro p e s m args below meth c T locs hx hZ hby hml hown hret hlk hnm hn0 X eT N
  obtain ⟨T', h', X', e', W', st'⟩ := putFN X hx hZ hown w via eT F E (L.imp id fun q => ⟨q.1, q.2.1, hnm.trans q.2.2⟩) wi hty hv hf (g := mkF m pc Ls (v :: .ref a :: st)) rfl rfl (hb hby hd)
  exact (k h' W' (F.same W') (E.wr W') (Keep.of_wr W') p e s m args below meth c T' _ hx hZ hby hml hown hret hlk hnm hn0 X' e' (Fr.one N ge)).step st'
theorem W.new {i ns : Nat} {C : String} (n : Nat) (hd : decode bytes pc = .ok (.new i, 3)) (hn : pc + 3 = n) (w : (Jvm.Cond.classLink own i C).before a0 Z = true) (wi : (Jvm.Cond.instantiable C ns).before a0 Z = true) (wz : (Jvm.Cond.initialized C).before a0 Z = true) (hc : cells + 1 ≤ R.cells) (hs : slots + ns ≤ R.slots)
    (k : ∀ h' b, b = h.size → n0 ≤ b → Ext h h' → Keep h h' [] → Exa Z h' b C → (∀ {O f d : String} {ty : FieldType}, Laid Z a0 C O f d → parseFieldDescriptor d = some ty → Fld Z h' b O f d (defaultValue ty)) → W l R Z own nm bytes maxL ret n0 P h' (cells + 1) (slots + ns) n Ls (.ref b :: st)) : W l R Z own nm bytes maxL ret n0 P h cells slots pc Ls st := by
  subst hn
  intro p e s m args below meth c T locs hx hZ hby hml hown hret hlk hnm hn0 X eT N
  obtain ⟨T', h', X', e', E', A', D', -, st'⟩ := newO X hx hZ hown w wi wz eT (g := mkF m pc Ls st) rfl (hb hby hd) hc hs
  have hb0 : n0 ≤ h.size := Nat.le_trans hn0 (eT ▸ size_le X)
  exact (k h' h.size rfl hb0 E' (Keep.of_ext E') A' D' p e s m args below meth c T' _ hx hZ hby hml hown hret hlk hnm hn0 X' e' N).step st'
theorem Ary.lt {a : Addr} {ty : FieldType} {vs : List Value} (A : Ary Z h a ty vs) : a < h.size := by obtain ⟨c, A, -⟩ := A; exact A.lt
theorem Ary.keep {h' : Heap} {ws : List Addr} {a : Addr} {ty : FieldType} {vs : List Value} (A : Ary Z h a ty vs) (K : Keep h h' ws) (q : a ∉ ws) : Ary Z h' a ty vs := by obtain ⟨c, A, r⟩ := A; exact ⟨c, ⟨K.2.1 a c A.1 q, A.2⟩, r⟩
theorem Ary.new {k : ClassId} {a : Addr} {ty : FieldType} {z : Int32} (A : Arr Z h a (newA k ty z) ty) (hf : fits ty (defaultValue ty) = true) : Ary Z h a ty (List.replicate z.toNatClampNeg (defaultValue ty)) :=
  ⟨_, A, by simp [newA], fun v hv => by rw [(List.mem_replicate.mp hv).2]; exact hf, by rw [List.length_replicate]; have := Int32.toInt_lt z; simp only [Int32.toNatClampNeg]; omega⟩
theorem Ary.set {h' : Heap} {a : Addr} {ty : FieldType} {vs : List Value} {i : Nat} {v : Value} (A : Ary Z h a ty vs) (W' : Wr h h' a i v) (hf : fits ty v = true) : Ary Z h' a ty (vs.set i v) := by
  obtain ⟨c, A, rfl, F, S⟩ := A
  exact ⟨_, A.same W', by simp [Cell.setSlot], fun w hw => (List.mem_or_eq_of_mem_set hw).elim (fun q => F w q) (fun q => q ▸ hf), by simpa using S⟩
theorem Ary.arv {a : Addr} {ty : FieldType} {vs : List Value} (A : Ary Z h a ty vs) (d : Value) : ∃ k, Arv Z h a k ty vs.length.toInt32 vs d := by
  obtain ⟨c, A, rfl, F, S⟩ := A
  have hz : (c.slots.toList.length.toInt32).toInt = c.slots.toList.length := Int32.toInt_ofNat_small S
  have hn : (c.slots.toList.length.toInt32).toNatClampNeg = c.slots.size := by simp only [Int32.toNatClampNeg]; rw [hz]; simp
  refine ⟨c.cls, c, A, rfl, hn.symm, fun q => ?_, fun i hi => ?_, fun i hi => ?_⟩
  · have := Int32.lt_iff_toInt_lt.mp q; rw [hz] at this; have e0 : (0 : Int32).toInt = 0 := rfl; omega
  · rw [List.getD_eq_getElem?_getD]; simp [hi]
  · rw [List.getD_eq_getElem?_getD]; exact F _ (by simp [hi])
theorem Ary.of_arv {a : Addr} {k : ClassId} {ty : FieldType} {vs : List Value} {z : Int32} {d : Value} (A : Arv Z h a k ty z vs d) (hz : z.toNatClampNeg = vs.length) : Ary Z h a ty vs := by
  obtain ⟨c, A, q1, q2, q3, H, G⟩ := A
  have hl : c.slots.toList = vs := by
    apply List.ext_getElem?
    intro i
    by_cases hi : i < c.slots.size
    · have := H i hi
      rw [List.getD_eq_getElem?_getD, List.getElem?_eq_getElem (by omega)] at this
      rw [List.getElem?_eq_getElem (l := vs) (by omega)]
      simpa using this
    · rw [List.getElem?_eq_none (by simpa using hi), List.getElem?_eq_none (by omega)]
  refine ⟨c, A, hl, fun v hv => ?_, ?_⟩
  · obtain ⟨i, hi, rfl⟩ := List.getElem_of_mem hv
    have := G i (by omega)
    rwa [List.getD_eq_getElem?_getD, List.getElem?_eq_getElem hi] at this
  · have := Int32.toInt_lt z; simp only [Int32.toNatClampNeg] at hz; omega
theorem W.newarray {aty : ArrayType} {ty : FieldType} {x : Int32} (n : Nat) (hd : decode bytes pc = .ok (.newarray aty, 2)) (hn : pc + 2 = n) (w : (Jvm.Cond.arrayClass ty).before a0 Z = true) (hty : newarray.typeOf aty = ty) (hx0 : ¬ x < 0) (len cap : Nat) (hlen : x.toNatClampNeg = len) (hcap : len ≤ cap) (hb8 : cap * 8 ≤ 536870912) (hc : cells + 1 ≤ R.cells) (hs : slots + cap ≤ R.slots) (hfd : fits ty (defaultValue ty) = true)
    (k : ∀ h' b, b = h.size → n0 ≤ b → Ext h h' → Keep h h' [] → Ary Z h' b ty (List.replicate len (defaultValue ty)) → W l R Z own nm bytes maxL ret n0 P h' (cells + 1) (slots + cap) n Ls (.ref b :: st)) : W l R Z own nm bytes maxL ret n0 P h cells slots pc Ls (.int x :: st) := by
  subst hn hty hlen
  intro p e s m args below meth c T locs hx hZ hby hml hown hret hlk hnm hn0 X eT N
  obtain ⟨T', h', cA, X', e', E', A', st'⟩ := newP X hx hZ w eT (g := mkF m pc Ls (.int x :: st)) rfl (hb hby hd) rfl hx0 hcap hb8 hc hs
  have hb0 : n0 ≤ h.size := Nat.le_trans hn0 (eT ▸ size_le X)
  exact (k h' h.size rfl hb0 E' (Keep.of_ext E') (Ary.new A' hfd) p e s m args below meth c T' _ hx hZ hby hml hown hret hlk hnm hn0 X' e' N).step st'
theorem W.newarrayE {aty : ArrayType} {ty : FieldType} {x : Int32} {ad : String} (n : Nat) (hd : decode bytes pc = .ok (.newarray aty, 2)) (hn : pc + 2 = n) (w : (Jvm.Cond.arrayClass ty).before a0 Z = true) (hty : newarray.typeOf aty = ty) (had : "[" ++ ty.toString = ad) (hx0 : ¬ x < 0) (len cap : Nat) (hlen : x.toNatClampNeg = len) (hcap : len ≤ cap) (hb8 : cap * 8 ≤ 536870912) (hc : cells + 1 ≤ R.cells) (hs : slots + cap ≤ R.slots) (hfd : fits ty (defaultValue ty) = true)
    (k : ∀ h' b, b = h.size → n0 ≤ b → Ext h h' → Keep h h' [] → Ary Z h' b ty (List.replicate len (defaultValue ty)) → Exa Z h' b ad → W l R Z own nm bytes maxL ret n0 P h' (cells + 1) (slots + cap) n Ls (.ref b :: st)) : W l R Z own nm bytes maxL ret n0 P h cells slots pc Ls (.int x :: st) := by
  subst hn hty hlen
  intro p e s m args below meth c T locs hx hZ hby hml hown hret hlk hnm hn0 X eT N
  obtain ⟨T', h', cA, X', e', E', A', B', st'⟩ := newPE X hx hZ w eT (g := mkF m pc Ls (.int x :: st)) rfl (hb hby hd) rfl hx0 hcap hb8 hc hs had
  have hb0 : n0 ≤ h.size := Nat.le_trans hn0 (eT ▸ size_le X)
  exact (k h' h.size rfl hb0 E' (Keep.of_ext E') (Ary.new A' hfd) B' p e s m args below meth c T' _ hx hZ hby hml hown hret hlk hnm hn0 X' e' N).step st'
theorem ary_in {c : Cell} {vs : List Value} {j : Int32} {i : Nat} (hc : c.slots.toList = vs) (hj : j.toNatClampNeg = i) (h0 : ¬ j < 0) (hi : i < vs.length) : ¬ (j < 0 ∨ c.slots.size ≤ j.toNatClampNeg) := by
  subst hc hj; rintro (q | q)
  · exact h0 q
  · exact absurd hi (by simpa using q)
theorem W.arraylength {a : Addr} {ty : FieldType} {vs : List Value} (n : Nat) (hd : decode bytes pc = .ok (.arraylength, 1)) (hn : pc + 1 = n) (A : Ary Z h a ty vs) (v : Int32) (hv : vs.length.toInt32 = v) (k : W l R Z own nm bytes maxL ret n0 P h cells slots n Ls (.int v :: st)) : W l R Z own nm bytes maxL ret n0 P h cells slots pc Ls (.ref a :: st) := by
  subst hn
  obtain ⟨c, A, rfl, F, S⟩ := A
  have e : c.slots.size.toInt32 = v := by rw [← hv]; simp
  exact k.step fun p e' s m args below meth c' T locs hx hZ hby hown X eT t q => X.arraylength hx (by rw [eT]; exact A.1) (State.isArrayOf_alike hZ.alike A.2.1) (g := mkF m pc Ls (.ref a :: st)) rfl rfl (hb hby hd) t (e ▸ q)

theorem W.iaload {a : Addr} {vs : List Value} {j : Int32} (n : Nat) (hd : decode bytes pc = .ok (.iaload, 1)) (hn : pc + 1 = n) (A : Ary Z h a .int vs) (i : Nat) (hj : j.toNatClampNeg = i) (h0 : ¬ j < 0) (v : Value) (hv : vs[i]? = some v) (k : W l R Z own nm bytes maxL ret n0 P h cells slots n Ls (v :: st)) : W l R Z own nm bytes maxL ret n0 P h cells slots pc Ls (.int j :: .ref a :: st) := by
  subst hn
  obtain ⟨c, A, hc, F, S⟩ := A
  have hi : i < vs.length := (List.getElem?_eq_some_iff.mp hv).1
  have hin := ary_in hc hj h0 hi
  have hat : c.slots[j.toNatClampNeg]? = some v := by rw [hj, ← hv, ← hc]; simp
  exact k.step fun p e' s m args below meth c' T locs hx hZ hby hown X eT t q => X.iaload hx (j := j) (v := v) (by rw [eT]; exact A.1) (State.isArrayOf_alike hZ.alike A.2.1) A.2.2 hin hat (g := mkF m pc Ls (.int j :: .ref a :: st)) rfl rfl (hb hby hd) t q
theorem W.laload {a : Addr} {vs : List Value} {j : Int32} (n : Nat) (hd : decode bytes pc = .ok (.laload, 1)) (hn : pc + 1 = n) (A : Ary Z h a .long vs) (i : Nat) (hj : j.toNatClampNeg = i) (h0 : ¬ j < 0) (v : Value) (hv : vs[i]? = some v) (k : W l R Z own nm bytes maxL ret n0 P h cells slots n Ls (v :: st)) : W l R Z own nm bytes maxL ret n0 P h cells slots pc Ls (.int j :: .ref a :: st) := by
  subst hn
  obtain ⟨c, A, hc, F, S⟩ := A
  have hi : i < vs.length := (List.getElem?_eq_some_iff.mp hv).1
  have hin := ary_in hc hj h0 hi
  have hat : c.slots[j.toNatClampNeg]? = some v := by rw [hj, ← hv, ← hc]; simp
  exact k.step fun p e' s m args below meth c' T locs hx hZ hby hown X eT t q => X.laload hx (j := j) (v := v) (by rw [eT]; exact A.1) (State.isArrayOf_alike hZ.alike A.2.1) A.2.2 hin hat (g := mkF m pc Ls (.int j :: .ref a :: st)) rfl rfl (hb hby hd) t q
theorem W.caload {a : Addr} {vs : List Value} {j : Int32} (n : Nat) (hd : decode bytes pc = .ok (.caload, 1)) (hn : pc + 1 = n) (A : Ary Z h a .char vs) (i : Nat) (hj : j.toNatClampNeg = i) (h0 : ¬ j < 0) (v : Value) (hv : vs[i]? = some v) (k : W l R Z own nm bytes maxL ret n0 P h cells slots n Ls (v :: st)) : W l R Z own nm bytes maxL ret n0 P h cells slots pc Ls (.int j :: .ref a :: st) := by
  subst hn
  obtain ⟨c, A, hc, F, S⟩ := A
  have hi : i < vs.length := (List.getElem?_eq_some_iff.mp hv).1
  have hin := ary_in hc hj h0 hi
  have hat : c.slots[j.toNatClampNeg]? = some v := by rw [hj, ← hv, ← hc]; simp
  exact k.step fun p e' s m args below meth c' T locs hx hZ hby hown X eT t q => X.caload hx (j := j) (v := v) (by rw [eT]; exact A.1) (State.isArrayOf_alike hZ.alike A.2.1) A.2.2 hin hat (g := mkF m pc Ls (.int j :: .ref a :: st)) rfl rfl (hb hby hd) t q
theorem W.baload {a : Addr} {vs : List Value} {j : Int32} (n : Nat) (hd : decode bytes pc = .ok (.baload, 1)) (hn : pc + 1 = n) (A : Ary Z h a .byte vs) (i : Nat) (hj : j.toNatClampNeg = i) (h0 : ¬ j < 0) (v : Value) (hv : vs[i]? = some v) (k : W l R Z own nm bytes maxL ret n0 P h cells slots n Ls (v :: st)) : W l R Z own nm bytes maxL ret n0 P h cells slots pc Ls (.int j :: .ref a :: st) := by
  subst hn
  obtain ⟨c, A, hc, F, S⟩ := A
  have hi : i < vs.length := (List.getElem?_eq_some_iff.mp hv).1
  have hin := ary_in hc hj h0 hi
  have hat : c.slots[j.toNatClampNeg]? = some v := by rw [hj, ← hv, ← hc]; simp
  exact k.step fun p e' s m args below meth c' T locs hx hZ hby hown X eT t q => X.baloadBytes hx (j := j) (v := v) (by rw [eT]; exact A.1) (State.isArrayOf_alike hZ.alike A.2.1) A.2.2 hin hat (g := mkF m pc Ls (.int j :: .ref a :: st)) rfl rfl (hb hby hd) t q
theorem W.aaload {a : Addr} {vs : List Value} {j : Int32} {ty : FieldType} (n : Nat) (hd : decode bytes pc = .ok (.aaload, 1)) (hn : pc + 1 = n) (A : Ary Z h a ty vs) (hty : ty.isReference = true) (i : Nat) (hj : j.toNatClampNeg = i) (h0 : ¬ j < 0) (v : Value) (hv : vs[i]? = some v) (k : W l R Z own nm bytes maxL ret n0 P h cells slots n Ls (v :: st)) : W l R Z own nm bytes maxL ret n0 P h cells slots pc Ls (.int j :: .ref a :: st) := by
  subst hn
  obtain ⟨c, A, hc, F, S⟩ := A
  have hi : i < vs.length := (List.getElem?_eq_some_iff.mp hv).1
  have hin := ary_in hc hj h0 hi
  have hat : c.slots[j.toNatClampNeg]? = some v := by rw [hj, ← hv, ← hc]; simp
  exact k.step fun p e' s m args below meth c' T locs hx hZ hby hown X eT t q => X.aaload hx (j := j) (v := v) (by rw [eT]; exact A.1) (State.isArrayOf_alike hZ.alike A.2.1) hty A.2.2 hin hat (g := mkF m pc Ls (.int j :: .ref a :: st)) rfl rfl (hb hby hd) t q
theorem W.iastore {a : Addr} {vs : List Value} {j : Int32} {x : Int32} (n : Nat) (hd : decode bytes pc = .ok (.iastore, 1)) (hn : pc + 1 = n) (A : Ary Z h a .int vs) (i : Nat) (hj : j.toNatClampNeg = i) (h0 : ¬ j < 0) (hi : i < vs.length) (ge : n0 ≤ a)
    (k : ∀ h', Wr h h' a i (.int x) → Keep h h' [a] → Ary Z h' a .int (vs.set i (.int x)) → W l R Z own nm bytes maxL ret n0 P h' cells slots n Ls st) : W l R Z own nm bytes maxL ret n0 P h cells slots pc Ls (.int x :: .int j :: .ref a :: st) := by
  subst hn
  intro p e s m args below meth c T locs hx hZ hby hml hown hret hlk hnm hn0 X eT N
  have A0 := A
  obtain ⟨cl, A, hc, F, S⟩ := A
  obtain ⟨T', h', X', e', W', st'⟩ := stI X hx hZ eT A (ary_in hc hj h0 hi) (g := mkF m pc Ls (.int x :: .int j :: .ref a :: st)) rfl rfl (hb hby hd)
  subst hj
  exact (k h' W' (Keep.of_wr W') (A0.set W' rfl) p e s m args below meth c T' _ hx hZ hby hml hown hret hlk hnm hn0 X' e' (Fr.one N ge)).step st'

theorem W.lastore {a : Addr} {vs : List Value} {j : Int32} {x : Int64} (n : Nat) (hd : decode bytes pc = .ok (.lastore, 1)) (hn : pc + 1 = n) (A : Ary Z h a .long vs) (i : Nat) (hj : j.toNatClampNeg = i) (h0 : ¬ j < 0) (hi : i < vs.length) (ge : n0 ≤ a)
    (k : ∀ h', Wr h h' a i (.long x) → Keep h h' [a] → Ary Z h' a .long (vs.set i (.long x)) → W l R Z own nm bytes maxL ret n0 P h' cells slots n Ls st) : W l R Z own nm bytes maxL ret n0 P h cells slots pc Ls (.long x :: .int j :: .ref a :: st) := by
  subst hn
  intro p e s m args below meth c T locs hx hZ hby hml hown hret hlk hnm hn0 X eT N
  have A0 := A
  obtain ⟨cl, A, hc, F, S⟩ := A
  obtain ⟨T', h', X', e', W', st'⟩ := stJ X hx hZ eT A (ary_in hc hj h0 hi) (g := mkF m pc Ls (.long x :: .int j :: .ref a :: st)) rfl rfl (hb hby hd)
  subst hj
  exact (k h' W' (Keep.of_wr W') (A0.set W' rfl) p e s m args below meth c T' _ hx hZ hby hml hown hret hlk hnm hn0 X' e' (Fr.one N ge)).step st'

theorem W.castore {a : Addr} {vs : List Value} {j : Int32} {x : Int32} (n : Nat) (hd : decode bytes pc = .ok (.castore, 1)) (hn : pc + 1 = n) (A : Ary Z h a .char vs) (i : Nat) (hj : j.toNatClampNeg = i) (h0 : ¬ j < 0) (hi : i < vs.length) (x' : Int32) (hx' : nar .char x = x') (ge : n0 ≤ a)
    (k : ∀ h', Wr h h' a i (.int x') → Keep h h' [a] → Ary Z h' a .char (vs.set i (.int x')) → W l R Z own nm bytes maxL ret n0 P h' cells slots n Ls st) : W l R Z own nm bytes maxL ret n0 P h cells slots pc Ls (.int x :: .int j :: .ref a :: st) := by
  subst hn hx'
  intro p e s m args below meth c T locs hx hZ hby hml hown hret hlk hnm hn0 X eT N
  have A0 := A
  obtain ⟨cl, A, hc, F, S⟩ := A
  obtain ⟨T', h', X', e', W', st'⟩ := stC X hx hZ eT A (ary_in hc hj h0 hi) (g := mkF m pc Ls (.int x :: .int j :: .ref a :: st)) rfl rfl (hb hby hd)
  subst hj
  exact (k h' W' (Keep.of_wr W') (A0.set W' (fits_nar_char _)) p e s m args below meth c T' _ hx hZ hby hml hown hret hlk hnm hn0 X' e' (Fr.one N ge)).step st'

theorem W.bastore {a : Addr} {vs : List Value} {j : Int32} {x : Int32} (n : Nat) (hd : decode bytes pc = .ok (.bastore, 1)) (hn : pc + 1 = n) (A : Ary Z h a .byte vs) (i : Nat) (hj : j.toNatClampNeg = i) (h0 : ¬ j < 0) (hi : i < vs.length) (x' : Int32) (hx' : nar .byte x = x') (ge : n0 ≤ a)
    (k : ∀ h', Wr h h' a i (.int x') → Keep h h' [a] → Ary Z h' a .byte (vs.set i (.int x')) → W l R Z own nm bytes maxL ret n0 P h' cells slots n Ls st) : W l R Z own nm bytes maxL ret n0 P h cells slots pc Ls (.int x :: .int j :: .ref a :: st) := by
  subst hn hx'
  intro p e s m args below meth c T locs hx hZ hby hml hown hret hlk hnm hn0 X eT N
  have A0 := A
  obtain ⟨cl, A, hc, F, S⟩ := A
  obtain ⟨T', h', X', e', W', st'⟩ := stB X hx hZ eT A (ary_in hc hj h0 hi) (g := mkF m pc Ls (.int x :: .int j :: .ref a :: st)) rfl rfl (hb hby hd)
  subst hj
  exact (k h' W' (Keep.of_wr W') (A0.set W' (fits_nar_byte _)) p e s m args below meth c T' _ hx hZ hby hml hown hret hlk hnm hn0 X' e' (Fr.one N ge)).step st'

theorem W.bastoreZ {a : Addr} {vs : List Value} {j : Int32} {x : Int32} (n : Nat) (hd : decode bytes pc = .ok (.bastore, 1)) (hn : pc + 1 = n) (A : Ary Z h a .boolean vs) (i : Nat) (hj : j.toNatClampNeg = i) (h0 : ¬ j < 0) (hi : i < vs.length) (x' : Int32) (hx' : nar .boolean x = x') (ge : n0 ≤ a)
    (k : ∀ h', Wr h h' a i (.int x') → Keep h h' [a] → Ary Z h' a .boolean (vs.set i (.int x')) → W l R Z own nm bytes maxL ret n0 P h' cells slots n Ls st) : W l R Z own nm bytes maxL ret n0 P h cells slots pc Ls (.int x :: .int j :: .ref a :: st) := by
  subst hn hx'
  intro p e s m args below meth c T locs hx hZ hby hml hown hret hlk hnm hn0 X eT N
  have A0 := A
  obtain ⟨cl, A, hc, F, S⟩ := A
  obtain ⟨T', h', X', e', W', st'⟩ := stZ X hx hZ eT A (ary_in hc hj h0 hi) (g := mkF m pc Ls (.int x :: .int j :: .ref a :: st)) rfl rfl (hb hby hd)
  subst hj
  exact (k h' W' (Keep.of_wr W') (A0.set W' (fits_nar_bool _)) p e s m args below meth c T' _ hx hZ hby hml hown hret hlk hnm hn0 X' e' (Fr.one N ge)).step st'

/-! calls and returns -/
theorem W.initObj {i : Nat} {a : Addr} (n : Nat) (hd : decode bytes pc = .ok (.invokespecial i, 3)) (hn : pc + 3 = n) (w1 : (Jvm.Cond.methodLink own i Lib.objectInit).before a0 Z = true) (w2 : (Jvm.Cond.instanceMethod Lib.objectInit).before a0 Z = true) (w3 : (Jvm.Cond.code Lib.objectInit ⟨#[0xb1]⟩ 1 none).before a0 Z = true) (hsz : Ls.size = maxL) (hf : 1 ≤ R.frames) (W0 : Nat) (hW : (st.map fun v => v.category).sum ≤ W0) (hl : W0 + 12 ≤ R.locals)
    (k : W l R Z own nm bytes maxL ret n0 P h cells slots n Ls st) : W l R Z own nm bytes maxL ret n0 P h cells slots pc Ls (.ref a :: st) := by
  subst hn
  intro p e s m args below meth c T locs hx hZ hby hml hown hret hlk hnm hn0 X eT N
  obtain ⟨T', X', e', st'⟩ := initO X hx hZ hown w1 w2 w3 eT (g := mkF m pc Ls (.ref a :: st)) rfl (by rw [hml]; exact hsz) rfl (hb hby hd) hf (W := W0) (by show 2 * 0 + _ ≤ _; omega) hl
  exact (k p e s m args below meth c T' locs hx hZ hby hml hown hret hlk hnm hn0 X' e' N).step st'
section Calls
variable {y : MethodName} {bytes' : ByteArray} {maxL' : Nat} {ret' : Option FieldType} {rm : Room} {P' : Option Value → Heap → Prop} {rest argsL : List Value} {i : Nat}
theorem W.callS (n : Nat) (hd : decode bytes pc = .ok (.invokestatic i, 3)) (hn : pc + 3 = n) (C : n0 ≤ h.size → Con l Z y bytes' maxL' ret' rm argsL.toArray h n0 P') (w1 : (Jvm.Cond.methodLink own i y).before a0 Z = true) (w2 : (Jvm.Cond.static y).before a0 Z = true) (w3 : (Jvm.Cond.initialized y.cls).before a0 Z = true) (w4 : (Jvm.Cond.code y bytes' maxL' ret').before a0 Z = true)
    (hy : y.cls ≠ "java/lang/invoke/MethodHandle" ∧ y.cls ≠ "java/lang/invoke/VarHandle") {ps : List FieldType} {r : Option FieldType} (hpd : parseMethodDescriptor y.desc = some ⟨ps, r⟩) (hlen : argsL.length = ps.length) (hst : st = argsL.reverse ++ rest) (hsz : Ls.size = maxL) (hf : rm.frames + 1 ≤ R.frames) (W0 : Nat) (hW : (rest.map fun v => v.category).sum ≤ W0) (hl : W0 + (maxL' + 11) + rm.locals ≤ R.locals) (hc : cells + rm.cells ≤ R.cells) (hs : slots + rm.slots ≤ R.slots)
    (k : ∀ v h', P' v h' → W l R Z own nm bytes maxL ret n0 P h' (cells + rm.cells) (slots + rm.slots) n Ls (v.toList ++ rest)) : W l R Z own nm bytes maxL ret n0 P h cells slots pc Ls st := by
  subst hn hst
  intro p e s m args below meth c T locs hx hZ hby hml hown hret hlk hnm hn0 X eT N
  obtain ⟨v, _, ⟨T', L', c', n'⟩, -, X', ⟨Lc, hQ, l', y', z'⟩, st'⟩ := Jvm.LawKit.callS X hx (y := y) hown (mvT hZ w1) (mvT hZ w2) (mvT hZ w3) (mvT hZ w4) hy (backOf (W := W0) (Z := Z) (h := h) (bytes := bytes') (maxL := maxL') (rm := rm) (Q := fun v h' L => P' v h' ∧ Fr n0 L) (C (Nat.le_trans hn0 (eT ▸ size_le X))) hZ w4 w3 hf hl) (g := mkF m pc Ls (argsL.reverse ++ rest)) rfl (by rw [hml]; exact hsz) (argsL := argsL) (rest := rest) (lenOf hpd hlen) rfl (by show 2 * 0 + _ ≤ _; omega) (hb hby hd) (fun _ _ => ⟨rfl, eT, hc, hs⟩)
  dsimp only [Pt.U, Pt.locs, Pt.cells, Pt.slots] at X' l' y' z' st' hQ
  subst l' y' z'
  exact (k v T'.heap hQ.1 p e s m args below meth c T' _ hx hZ hby hml hown hret hlk hnm hn0 X' rfl (Fr.app N hQ.2)).step st'
theorem W.callInit {a : Addr} (n : Nat) (hd : decode bytes pc = .ok (.invokespecial i, 3)) (hn : pc + 3 = n) (C : n0 ≤ h.size → Con l Z y bytes' maxL' none rm (.ref a :: argsL).toArray h n0 P') (hi : y.name = "<init>") (w1 : (Jvm.Cond.methodLink own i y).before a0 Z = true) (w2 : (Jvm.Cond.instanceMethod y).before a0 Z = true) (w3 : (Jvm.Cond.initialized y.cls).before a0 Z = true) (w4 : (Jvm.Cond.code y bytes' maxL' none).before a0 Z = true)
    (hy : y.cls ≠ "java/lang/invoke/MethodHandle" ∧ y.cls ≠ "java/lang/invoke/VarHandle") {ps : List FieldType} {r : Option FieldType} (hpd : parseMethodDescriptor y.desc = some ⟨ps, r⟩) (hlen : argsL.length = ps.length) (hst : st = argsL.reverse ++ .ref a :: rest) (hsz : Ls.size = maxL) (hf : rm.frames + 1 ≤ R.frames) (W0 : Nat) (hW : (rest.map fun v => v.category).sum ≤ W0) (hl : W0 + (maxL' + 11) + rm.locals ≤ R.locals) (hc : cells + rm.cells ≤ R.cells) (hs : slots + rm.slots ≤ R.slots)
    (k : ∀ v h', P' v h' → W l R Z own nm bytes maxL ret n0 P h' (cells + rm.cells) (slots + rm.slots) n Ls (v.toList ++ rest)) : W l R Z own nm bytes maxL ret n0 P h cells slots pc Ls st := by
  subst hn hst
  intro p e s m args below meth c T locs hx hZ hby hml hown hret hlk hnm hn0 X eT N
  obtain ⟨v, _, ⟨T', L', c', n'⟩, -, X', ⟨Lc, hQ, l', y', z'⟩, st'⟩ := X.specialBack hx (y := y) hi hown (mvT hZ w1) (mvT hZ w2) (mvT hZ w4) hy (backOf (W := W0) (Z := Z) (h := h) (bytes := bytes') (maxL := maxL') (rm := rm) (Q := fun v h' L => P' v h' ∧ Fr n0 L) (C (Nat.le_trans hn0 (eT ▸ size_le X))) hZ w4 w3 hf hl) (g := mkF m pc Ls (argsL.reverse ++ .ref a :: rest)) rfl (by rw [hml]; exact hsz) (Steps.refl _) (a := a) (argsL := argsL) (rest := rest) (lenOf hpd hlen) rfl (by show 2 * 0 + _ ≤ _; omega) (hb hby hd) (fun _ _ => ⟨rfl, eT, hc, hs⟩)
  dsimp only [Pt.U, Pt.locs, Pt.cells, Pt.slots] at X' l' y' z' st' hQ
  subst l' y' z'
  exact (k v T'.heap hQ.1 p e s m args below meth c T' _ hx hZ hby hml hown hret hlk hnm hn0 X' rfl (Fr.app N hQ.2)).step fun t q => st'.trans q
theorem W.callV {C0 : String} {a : Addr} (n : Nat) (hd : decode bytes pc = .ok (.invokevirtual i, 3)) (hn : pc + 3 = n) (C : n0 ≤ h.size → Con l Z y bytes' maxL' ret' rm (.ref a :: argsL).toArray h n0 P') (E : Exa Z h a C0) (w1 : (Jvm.Cond.methodLink own i y).before a0 Z = true) (w2 : (Jvm.Cond.declares y).before a0 Z = true) (w5 : (Jvm.Cond.selects C0 y y).before a0 Z = true) (hcy : C0 = y.cls) (w6 : (Jvm.Cond.instanceMethod y).before a0 Z = true) (w3 : (Jvm.Cond.initialized y.cls).before a0 Z = true) (w4 : (Jvm.Cond.code y bytes' maxL' ret').before a0 Z = true)
    (hy : y.cls ≠ "java/lang/invoke/MethodHandle" ∧ y.cls ≠ "java/lang/invoke/VarHandle") {ps : List FieldType} {r : Option FieldType} (hpd : parseMethodDescriptor y.desc = some ⟨ps, r⟩) (hlen : argsL.length = ps.length) (hst : st = argsL.reverse ++ .ref a :: rest) (hsz : Ls.size = maxL) (hf : rm.frames + 1 ≤ R.frames) (W0 : Nat) (hW : (rest.map fun v => v.category).sum ≤ W0) (hl : W0 + (maxL' + 11) + rm.locals ≤ R.locals) (hc : cells + rm.cells ≤ R.cells) (hs : slots + rm.slots ≤ R.slots)
    (k : ∀ v h', P' v h' → W l R Z own nm bytes maxL ret n0 P h' (cells + rm.cells) (slots + rm.slots) n Ls (v.toList ++ rest)) : W l R Z own nm bytes maxL ret n0 P h cells slots pc Ls st := by
  subst hn hst hcy
  intro p e s m args below meth c T locs hx hZ hby hml hown hret hlk hnm hn0 X eT N
  obtain ⟨cq, kq, qa, qb, qc⟩ := isOf hZ eT E
  obtain ⟨v, _, ⟨T', L', c', n'⟩, -, X', ⟨Lc, hQ, l', y', z'⟩, st'⟩ := X.virtualBack hx (y := y) (z := y) hown (mvT hZ w1) (mvT hZ w2) (notFace_of_selects (args := #[]) (mvT hZ w5)) (mvT hZ w5) (mvT hZ w6) hy (backOf (W := W0) (Z := Z) (h := h) (bytes := bytes') (maxL := maxL') (rm := rm) (Q := fun v h' L => P' v h' ∧ Fr n0 L) (C (Nat.le_trans hn0 (eT ▸ size_le X))) hZ w4 w3 hf hl) qa qc (g := mkF m pc Ls (argsL.reverse ++ .ref a :: rest)) rfl (by rw [hml]; exact hsz) (Steps.refl _) (argsL := argsL) (rest := rest) (lenOf hpd hlen) rfl (by show 2 * 0 + _ ≤ _; omega) (hb hby hd) (fun _ _ => ⟨rfl, eT, hc, hs⟩)
  dsimp only [Pt.U, Pt.locs, Pt.cells, Pt.slots] at X' l' y' z' st' hQ
  subst l' y' z'
  exact (k v T'.heap hQ.1 p e s m args below meth c T' _ hx hZ hby hml hown hret hlk hnm hn0 X' rfl (Fr.app N hQ.2)).step fun t q => st'.trans q
end Calls
theorem W.checkcast {i : Nat} {K : String} {a : Addr} (n : Nat) (hd : decode bytes pc = .ok (.checkcast i, 3)) (hn : pc + 3 = n) (w : (Jvm.Cond.classLink own i K).before a0 Z = true) (F : Ins Z h a K true) (k : W l R Z own nm bytes maxL ret n0 P h cells slots n Ls (.ref a :: st)) : W l R Z own nm bytes maxL ret n0 P h cells slots pc Ls (.ref a :: st) := by
  subst hn
  intro p e s m args below meth c T locs hx hZ hby hml hown hret hlk hnm hn0 X eT N
  obtain ⟨T', X', e', st'⟩ := castY X hx hZ hown w eT F (g := mkF m pc Ls (.ref a :: st)) rfl rfl (hb hby hd)
  exact (k p e s m args below meth c T' locs hx hZ hby hml hown hret hlk hnm hn0 X' e' N).step st'
theorem W.instYes {i : Nat} {K : String} {a : Addr} (n : Nat) (hd : decode bytes pc = .ok (.instanceof i, 3)) (hn : pc + 3 = n) (w : (Jvm.Cond.classLink own i K).before a0 Z = true) (F : Ins Z h a K true) (k : W l R Z own nm bytes maxL ret n0 P h cells slots n Ls (.int 1 :: st)) : W l R Z own nm bytes maxL ret n0 P h cells slots pc Ls (.ref a :: st) := by
  subst hn
  intro p e s m args below meth c T locs hx hZ hby hml hown hret hlk hnm hn0 X eT N
  obtain ⟨T', X', e', st'⟩ := instY X hx hZ hown w eT F (g := mkF m pc Ls (.ref a :: st)) rfl rfl (hb hby hd)
  exact (k p e s m args below meth c T' locs hx hZ hby hml hown hret hlk hnm hn0 X' e' N).step st'
theorem W.instNo {i : Nat} {K C : String} {a : Addr} (n : Nat) (hd : decode bytes pc = .ok (.instanceof i, 3)) (hn : pc + 3 = n) (w : (Jvm.Cond.classLink own i K).before a0 Z = true) (E : Exa Z h a C) (F : ∃ c t, Z.vm.findClass C = some c ∧ Z.vm.findClass K = some t ∧ Z.vm.assignable c t = false) (k : W l R Z own nm bytes maxL ret n0 P h cells slots n Ls (.int 0 :: st)) : W l R Z own nm bytes maxL ret n0 P h cells slots pc Ls (.ref a :: st) := by
  subst hn
  intro p e s m args below meth c T locs hx hZ hby hml hown hret hlk hnm hn0 X eT N
  obtain ⟨T', X', e', st'⟩ := RoadKit.instNo X hx hZ hown w eT E F (g := mkF m pc Ls (.ref a :: st)) rfl rfl (hb hby hd)
  exact (k p e s m args below meth c T' locs hx hZ hby hml hown hret hlk hnm hn0 X' e' N).step st'
theorem W.instNull {i : Nat} (n : Nat) (hd : decode bytes pc = .ok (.instanceof i, 3)) (hn : pc + 3 = n) (k : W l R Z own nm bytes maxL ret n0 P h cells slots n Ls (.int 0 :: st)) : W l R Z own nm bytes maxL ret n0 P h cells slots pc Ls (.null :: st) := by
  subst hn
  exact k.step fun p e s m args below meth c T locs hx hZ hby hown X eT t q => X.instanceofNull hx (g := mkF m pc Ls (.null :: st)) rfl rfl (hb hby hd) t q
theorem ary_us {vs : List Value} {d : Value} (i k : Nat) (hs : i + k ≤ vs.length) : (List.range k).map (fun j => vs.getD (i + j) d) = (vs.drop i).take k := by
  apply List.ext_getElem?
  intro j
  by_cases hj : j < k
  · simp [hj, List.getD_eq_getElem?_getD, List.getElem?_eq_getElem (show i + j < vs.length by omega)]
  · simp [hj]; omega
theorem W.arraycopy {i : Nat} {a b : Addr} {ty : FieldType} {vs vd : List Value} {sp dp nn : Int32} (n : Nat) (hd : decode bytes pc = .ok (.invokestatic i, 3)) (hn : pc + 3 = n) (w1 : (Jvm.Cond.methodLink own i Jvm.Stand.acN).before a0 Z = true) (w2 : (Jvm.Cond.native Jvm.Stand.acN).before a0 Z = true) (w3 : (Jvm.Cond.static Jvm.Stand.acN).before a0 Z = true) (w4 : (Jvm.Cond.initialized "java/lang/System").before a0 Z = true)
    (A : Ary Z h a ty vs) (B : Ary Z h b ty vd) (hk : refKind ty = false) (si di ni : Nat) (h1 : sp.toNatClampNeg = si) (h1' : ¬ sp < 0) (h2 : dp.toNatClampNeg = di) (h2' : ¬ dp < 0) (h3 : nn.toNatClampNeg = ni) (h3' : ¬ nn < 0) (hs : si + ni ≤ vs.length) (hdl : di + ni ≤ vd.length) (ge : n0 ≤ b) (hsz : Ls.size = maxL) (hf : 1 ≤ R.frames) (W0 : Nat) (hW : (st.map fun v => v.category).sum ≤ W0) (hl : W0 + (nativeFrameWords "java/lang/System" "arraycopy" 5 + 11) ≤ R.locals)
    (k : ∀ h', Keep h h' [b] → Ary Z h' b ty (vd.take di ++ (vs.drop si).take ni ++ vd.drop (di + ni)) → W l R Z own nm bytes maxL ret n0 P h' cells slots n Ls st) : W l R Z own nm bytes maxL ret n0 P h cells slots pc Ls (.int nn :: .int dp :: .ref b :: .int sp :: .ref a :: st) := by
  subst hn h1 h2 h3
  intro p e s m args below meth c T locs hx hZ hby hml hown hret hlk hnm hn0 X eT N
  have za : vs.length.toInt32.toNatClampNeg = vs.length := by
    have S : vs.length < 2 ^ 31 := by obtain ⟨_, _, _, _, S⟩ := A; exact S
    have hz : (vs.length.toInt32).toInt = vs.length := Int32.toInt_ofNat_small S
    simp only [Int32.toNatClampNeg]; rw [hz]; simp
  have zb : vd.length.toInt32.toNatClampNeg = vd.length := by
    have S : vd.length < 2 ^ 31 := by obtain ⟨_, _, _, _, S⟩ := B; exact S
    have hz : (vd.length.toInt32).toInt = vd.length := Int32.toInt_ofNat_small S
    simp only [Int32.toNatClampNeg]; rw [hz]; simp
  obtain ⟨ka, A'⟩ := A.arv .null
  obtain ⟨kb, B'⟩ := B.arv .null
  obtain ⟨T', h', L', X', e', N', K', C', st'⟩ := cpA X hx hZ hown w1 w2 w3 w4 eT A' B' (Or.inl ⟨rfl, hk⟩) h1' h2' h3' (by rw [za]; exact hs) (by rw [zb]; exact hdl) rfl hdl N ge (g := mkF m pc Ls (.int nn :: .int dp :: .ref b :: .int sp :: .ref a :: st)) rfl (by rw [hml]; exact hsz) rfl (hb hby hd) hf (W := W0) (by show 2 * 0 + _ ≤ _; omega) hl
  rw [ary_us _ _ hs] at C'
  have hlen : vd.length.toInt32.toNatClampNeg = (vd.take dp.toNatClampNeg ++ (vs.drop sp.toNatClampNeg).take nn.toNatClampNeg ++ vd.drop (dp.toNatClampNeg + nn.toNatClampNeg)).length := by
    rw [zb]; simp only [List.length_append, List.length_take, List.length_drop]; omega
  exact (k h' K' (Ary.of_arv C' hlen) p e s m args below meth c T' L' hx hZ hby hml hown hret hlk hnm hn0 X' e' N').step st'
theorem W.cloneArr {i : Nat} {a : Addr} {ty : FieldType} {vs : List Value} {ad : String} (n : Nat) (hd : decode bytes pc = .ok (.invokevirtual i, 3)) (hn : pc + 3 = n) (w1 : (Jvm.Cond.methodLink own i ⟨ad, "clone", "()Ljava/lang/Object;"⟩).before a0 Z = true) (w2 : (Jvm.Cond.sameMethod ad "java/lang/Object" "clone" "()Ljava/lang/Object;").before a0 Z = true) (w3 : (Jvm.Cond.native ⟨"java/lang/Object", "clone", "()Ljava/lang/Object;"⟩).before a0 Z = true)
    (w4 : (Jvm.Cond.instanceMethod ⟨"java/lang/Object", "clone", "()Ljava/lang/Object;"⟩).before a0 Z = true) (w5 : (Jvm.Cond.selects ad ⟨ad, "clone", "()Ljava/lang/Object;"⟩ ⟨"java/lang/Object", "clone", "()Ljava/lang/Object;"⟩).before a0 Z = true) (w6 : (Jvm.Cond.castable ad "java/lang/Cloneable").before a0 Z = true)
    (A : Ary Z h a ty vs) (E : Exa Z h a ad) (hsz : Ls.size = maxL) (hf : 1 ≤ R.frames) (W0 cap : Nat) (hW : (st.map fun v => v.category).sum ≤ W0) (hl : W0 + 14 ≤ R.locals) (hcap : vs.length ≤ cap) (hc : cells + 1 ≤ R.cells) (hs : slots + cap ≤ R.slots)
    (k : ∀ h' b, b = h.size → n0 ≤ b → Ext h h' → Keep h h' [] → Ary Z h' b ty vs → Exa Z h' b ad → W l R Z own nm bytes maxL ret n0 P h' (cells + 1) (slots + cap) n Ls (.ref b :: st)) : W l R Z own nm bytes maxL ret n0 P h cells slots pc Ls (.ref a :: st) := by
  subst hn
  intro p e s m args below meth c T locs hx hZ hby hml hown hret hlk hnm hn0 X eT N
  have za : vs.length.toInt32.toNatClampNeg = vs.length := by
    have S : vs.length < 2 ^ 31 := by obtain ⟨_, _, _, _, S⟩ := A; exact S
    have hz : (vs.length.toInt32).toInt = vs.length := Int32.toInt_ofNat_small S
    simp only [Int32.toNatClampNeg]; rw [hz]; simp
  obtain ⟨ka, A'⟩ := A.arv .null
  obtain ⟨T', h', X', e', E', B', C', st'⟩ := cloneH X hx hZ hown w1 w2 w3 w4 w5 w6 eT A'.arh E (g := mkF m pc Ls (.ref a :: st)) rfl (by rw [hml]; exact hsz) rfl (hb hby hd) hf (W := W0) (cap := cap) (by show 2 * 0 + _ ≤ _; omega) hl (by rw [za]; exact hcap) hc hs
  have hb0 : n0 ≤ h.size := Nat.le_trans hn0 (eT ▸ size_le X)
  exact (k h' h.size rfl hb0 E' (Keep.of_ext E') (Ary.of_arv (show Arv Z h' h.size ka ty vs.length.toInt32 vs .null from B') za) C' p e s m args below meth c T' _ hx hZ hby hml hown hret hlk hnm hn0 X' e' N).step st'
theorem W.ireturn {x : Int32} (hd : decode bytes pc = .ok (.ireturn, 1)) (hr : ret = some .int) (hp : P (some (.int x)) h) (hc : cells ≤ R.cells) (hs : slots ≤ R.slots) : W l R Z own nm bytes maxL ret n0 P h cells slots pc Ls (.int x :: st) := by
  intro p e s m args below meth c T locs hx hZ hby hml hown hret hlk hnm hn0 X eT N
  obtain ⟨fs, hr', hrun, hended, hW, hsame⟩ := X.leave (v := some (.int x)) (fun q => by rw [hret, hr] at q; cases q) hlk
  exact ⟨_, _, retOut X hx (t := .int) (i := .ireturn) (hret.trans hr) rfl (Or.inl ⟨rfl, Or.inl rfl, _, rfl⟩) (hb hby hd) hr', hrun, hended, _, _, rfl, ⟨by show P _ T.heap; rw [eT]; exact hp, N⟩, ⟨_, rfl⟩, hW, hsame.mono hc hs⟩
theorem W.ireturnN {x : Int32} {t : FieldType} (hd : decode bytes pc = .ok (.ireturn, 1)) (hr : ret = some t) (ht : t = .boolean ∨ t = .byte ∨ t = .char ∨ t = .short) (x' : Int32) (hx' : nar t x = x') (hp : P (some (.int x')) h) (hc : cells ≤ R.cells) (hs : slots ≤ R.slots) : W l R Z own nm bytes maxL ret n0 P h cells slots pc Ls (.int x :: st) := by
  subst hx'
  intro p e s m args below meth c T locs hx hZ hby hml hown hret hlk hnm hn0 X eT N
  obtain ⟨fs, hr', hrun, hended, hW, hsame⟩ := X.leave (v := some (.int (nar t x))) (fun q => by rw [hret, hr] at q; cases q) hlk
  exact ⟨_, _, retN X hx (hret.trans hr) ht (hb hby hd) hr', hrun, hended, _, _, rfl, ⟨by show P _ T.heap; rw [eT]; exact hp, N⟩, ⟨_, rfl⟩, hW, hsame.mono hc hs⟩
theorem W.lreturn {x : Int64} (hd : decode bytes pc = .ok (.lreturn, 1)) (hr : ret = some .long) (hp : P (some (.long x)) h) (hc : cells ≤ R.cells) (hs : slots ≤ R.slots) : W l R Z own nm bytes maxL ret n0 P h cells slots pc Ls (.long x :: st) := by
  intro p e s m args below meth c T locs hx hZ hby hml hown hret hlk hnm hn0 X eT N
  obtain ⟨fs, hr', hrun, hended, hW, hsame⟩ := X.leave (v := some (.long x)) (fun q => by rw [hret, hr] at q; cases q) hlk
  exact ⟨_, _, retOut X hx (t := .long) (i := .lreturn) (hret.trans hr) rfl (Or.inr (Or.inl ⟨rfl, rfl, _, rfl⟩)) (hb hby hd) hr', hrun, hended, _, _, rfl, ⟨by show P _ T.heap; rw [eT]; exact hp, N⟩, ⟨_, rfl⟩, hW, hsame.mono hc hs⟩
theorem W.areturn {v : Value} {t : FieldType} (hd : decode bytes pc = .ok (.areturn, 1)) (hr : ret = some t) (ht : t.isReference = true) (hv : v.isRef = true) (hn : narrow t v = v) (hp : P (some v) h) (hc : cells ≤ R.cells) (hs : slots ≤ R.slots) : W l R Z own nm bytes maxL ret n0 P h cells slots pc Ls (v :: st) := by
  intro p e s m args below meth c T locs hx hZ hby hml hown hret hlk hnm hn0 X eT N
  obtain ⟨fs, hr', hrun, hended, hW, hsame⟩ := X.leave (v := some v) (fun q => by rw [hret, hr] at q; cases q) hlk
  exact ⟨_, _, retOut X hx (t := t) (i := .areturn) (hret.trans hr) hn (Or.inr (Or.inr (Or.inr (Or.inr ⟨rfl, ht, hv⟩)))) (hb hby hd) hr', hrun, hended, _, _, rfl, ⟨by show P _ T.heap; rw [eT]; exact hp, N⟩, ⟨_, rfl⟩, hW, hsame.mono hc hs⟩
theorem W.return_ (hd : decode bytes pc = .ok (.return_, 1)) (hr : ret = none) (hp : P none h) (hc : cells ≤ R.cells) (hs : slots ≤ R.slots) : W l R Z own nm bytes maxL ret n0 P h cells slots pc Ls [] := by
  intro p e s m args below meth c T locs hx hZ hby hml hown hret hlk hnm hn0 X eT N
  obtain ⟨fs, hr', hrun, hended, hW, hsame⟩ := X.leave (v := none) (fun q => rfl) hlk
  exact ⟨_, _, X.returnOut hx (hret.trans hr) (hb hby hd) hr', hrun, hended, _, _, rfl, ⟨by show P _ T.heap; rw [eT]; exact hp, N⟩, ⟨_, rfl⟩, hW, hsame.mono hc hs⟩
end Rules
end Jvm.Wk

namespace Jvm.Pilot.@@N@@
open Jvm Jvm.ClassFile Sem Op Lib Jvm.Free Jvm.Stand Jvm.LawKit Jvm.RoadKit Jvm.Wk Bundle Jvm.Pilot.@@N@@.Jvm.D
theorem d_jdk_29_method_69_0 : decode jdk_29_method_69_code 0 = .ok (.iload_n 0, 1) := by decide +kernel
theorem d_jdk_29_method_69_1 : decode jdk_29_method_69_code 1 = .ok (.iload_n 1, 1) := by decide +kernel
theorem d_jdk_29_method_69_2 : decode jdk_29_method_69_code 2 = .ok (.if_icmp .gt 7, 3) := by decide +kernel
theorem d_jdk_29_method_69_9 : decode jdk_29_method_69_code 9 = .ok (.iload_n 1, 1) := by decide +kernel
theorem d_jdk_29_method_69_10 : decode jdk_29_method_69_code 10 = .ok (.ireturn, 1) := by decide +kernel
theorem d_jdk_29_method_69_5 : decode jdk_29_method_69_code 5 = .ok (.iload_n 0, 1) := by decide +kernel
theorem d_jdk_29_method_69_6 : decode jdk_29_method_69_code 6 = .ok (.goto 4, 3) := by decide +kernel
theorem d_jdk_65_method_123_0 : decode jdk_65_method_123_code 0 = .ok (.iload_n 1, 1) := by decide +kernel
theorem d_jdk_65_method_123_1 : decode jdk_65_method_123_code 1 = .ok (.aload_n 0, 1) := by decide +kernel
theorem d_jdk_65_method_123_2 : decode jdk_65_method_123_code 2 = .ok (.arraylength, 1) := by decide +kernel
theorem d_jdk_65_method_123_3 : decode jdk_65_method_123_code 3 = .ok (.if_icmp .ne 11, 3) := by decide +kernel
theorem d_jdk_65_method_123_14 : decode jdk_65_method_123_code 14 = .ok (.iload_n 1, 1) := by decide +kernel
theorem d_jdk_65_method_123_15 : decode jdk_65_method_123_code 15 = .ok (.newarray .int, 2) := by decide +kernel
theorem wd_9 {Z : State} {a0 : Array Value} (hw : ∀ d ∈ tables_1, d.before a0 Z = true) : (Jvm.Cond.arrayClass Jvm.ClassFile.FieldType.int).before a0 Z = true := hw _ (List.mem_of_getElem? (i := 9) rfl)
theorem d_jdk_65_method_123_17 : decode jdk_65_method_123_code 17 = .ok (.astore_n 2, 1) := by decide +kernel
theorem d_jdk_65_method_123_18 : decode jdk_65_method_123_code 18 = .ok (.aload_n 0, 1) := by decide +kernel
theorem d_jdk_65_method_123_19 : decode jdk_65_method_123_code 19 = .ok (.iconst 0, 1) := by decide +kernel
theorem d_jdk_65_method_123_20 : decode jdk_65_method_123_code 20 = .ok (.aload_n 2, 1) := by decide +kernel
theorem d_jdk_65_method_123_21 : decode jdk_65_method_123_code 21 = .ok (.iconst 0, 1) := by decide +kernel
theorem d_jdk_65_method_123_22 : decode jdk_65_method_123_code 22 = .ok (.aload_n 0, 1) := by decide +kernel
theorem d_jdk_65_method_123_23 : decode jdk_65_method_123_code 23 = .ok (.arraylength, 1) := by decide +kernel
theorem d_jdk_65_method_123_24 : decode jdk_65_method_123_code 24 = .ok (.iload_n 1, 1) := by decide +kernel
theorem d_jdk_65_method_123_25 : decode jdk_65_method_123_code 25 = .ok (.invokestatic 304, 3) := by decide +kernel
theorem wd_34 {Z : State} {a0 : Array Value} (hw : ∀ d ∈ tables_1, d.before a0 Z = true) : (Jvm.Cond.methodLink "java/util/Arrays" (304 : Nat) ({ cls := "java/lang/Math", name := "min", desc := "(II)I" } : Jvm.MethodName)).before a0 Z = true := hw _ (List.mem_of_getElem? (i := 34) rfl)
theorem wd_37 {Z : State} {a0 : Array Value} (hw : ∀ d ∈ tables_1, d.before a0 Z = true) : (Jvm.Cond.code ({ cls := "java/lang/Math", name := "min", desc := "(II)I" } : Jvm.MethodName) jdk_29_method_69_code (2 : Nat) (Option.some Jvm.ClassFile.FieldType.int)).before a0 Z = true := hw _ (List.mem_of_getElem? (i := 37) rfl)
theorem pd_0 : parseMethodDescriptor "(II)I" = some ⟨[.int, .int], some .int⟩ := by decide +kernel
theorem wd_35 {Z : State} {a0 : Array Value} (hw : ∀ d ∈ tables_1, d.before a0 Z = true) : (Jvm.Cond.static ({ cls := "java/lang/Math", name := "min", desc := "(II)I" } : Jvm.MethodName)).before a0 Z = true := hw _ (List.mem_of_getElem? (i := 35) rfl)
theorem wd_36 {Z : State} {a0 : Array Value} (hw : ∀ d ∈ tables_1, d.before a0 Z = true) : (Jvm.Cond.initialized "java/lang/Math").before a0 Z = true := hw _ (List.mem_of_getElem? (i := 36) rfl)
theorem d_jdk_65_method_123_28 : decode jdk_65_method_123_code 28 = .ok (.invokestatic 150, 3) := by decide +kernel
theorem wd_38 {Z : State} {a0 : Array Value} (hw : ∀ d ∈ tables_1, d.before a0 Z = true) : (Jvm.Cond.methodLink "java/util/Arrays" (150 : Nat) ({ cls := "java/lang/System", name := "arraycopy", desc := "(Ljava/lang/Object;ILjava/lang/Object;II)V" } : Jvm.MethodName)).before a0 Z = true := hw _ (List.mem_of_getElem? (i := 38) rfl)
theorem wd_41 {Z : State} {a0 : Array Value} (hw : ∀ d ∈ tables_1, d.before a0 Z = true) : (Jvm.Cond.native ({ cls := "java/lang/System", name := "arraycopy", desc := "(Ljava/lang/Object;ILjava/lang/Object;II)V" } : Jvm.MethodName)).before a0 Z = true := hw _ (List.mem_of_getElem? (i := 41) rfl)
theorem wd_39 {Z : State} {a0 : Array Value} (hw : ∀ d ∈ tables_1, d.before a0 Z = true) : (Jvm.Cond.static ({ cls := "java/lang/System", name := "arraycopy", desc := "(Ljava/lang/Object;ILjava/lang/Object;II)V" } : Jvm.MethodName)).before a0 Z = true := hw _ (List.mem_of_getElem? (i := 39) rfl)
theorem wd_40 {Z : State} {a0 : Array Value} (hw : ∀ d ∈ tables_1, d.before a0 Z = true) : (Jvm.Cond.initialized "java/lang/System").before a0 Z = true := hw _ (List.mem_of_getElem? (i := 40) rfl)
theorem d_jdk_65_method_123_31 : decode jdk_65_method_123_code 31 = .ok (.aload_n 2, 1) := by decide +kernel
theorem d_jdk_65_method_123_32 : decode jdk_65_method_123_code 32 = .ok (.areturn, 1) := by decide +kernel
theorem pn_0 : plainName "java/util/Arrays" = true := by first | (simp [plainName, overriddenIn]; done) | decide +kernel
theorem d_prog_16_method_1_0 : decode prog_16_method_1_code 0 = .ok (.aload_n 0, 1) := by decide +kernel
theorem d_prog_16_method_1_1 : decode prog_16_method_1_code 1 = .ok (.invokespecial 1, 3) := by decide +kernel
theorem wd_6 {Z : State} {a0 : Array Value} (hw : ∀ d ∈ tables_1, d.before a0 Z = true) : (Jvm.Cond.methodLink "com/example/grackle/grackle/core/cluster/IntList" (1 : Nat) ({ cls := "java/lang/Object", name := "<init>", desc := "()V" } : Jvm.MethodName)).before a0 Z = true := hw _ (List.mem_of_getElem? (i := 6) rfl)
theorem wd_8 {Z : State} {a0 : Array Value} (hw : ∀ d ∈ tables_1, d.before a0 Z = true) : (Jvm.Cond.code ({ cls := "java/lang/Object", name := "<init>", desc := "()V" } : Jvm.MethodName) object_method_1_code (1 : Nat) (Option.none : Option Jvm.ClassFile.FieldType)).before a0 Z = true := hw _ (List.mem_of_getElem? (i := 8) rfl)
theorem wd_7 {Z : State} {a0 : Array Value} (hw : ∀ d ∈ tables_1, d.before a0 Z = true) : (Jvm.Cond.instanceMethod ({ cls := "java/lang/Object", name := "<init>", desc := "()V" } : Jvm.MethodName)).before a0 Z = true := hw _ (List.mem_of_getElem? (i := 7) rfl)
theorem d_prog_16_method_1_4 : decode prog_16_method_1_code 4 = .ok (.aload_n 0, 1) := by decide +kernel
theorem d_prog_16_method_1_5 : decode prog_16_method_1_code 5 = .ok (.iconst 4, 1) := by decide +kernel
theorem d_prog_16_method_1_6 : decode prog_16_method_1_code 6 = .ok (.newarray .int, 2) := by decide +kernel
theorem d_prog_16_method_1_8 : decode prog_16_method_1_code 8 = .ok (.putfield 7, 3) := by decide +kernel
theorem wd_10 {Z : State} {a0 : Array Value} (hw : ∀ d ∈ tables_1, d.before a0 Z = true) : (Jvm.Cond.fieldLink "com/example/grackle/grackle/core/cluster/IntList" (7 : Nat) "com/example/grackle/grackle/core/cluster/IntList" "values" "[I").before a0 Z = true := hw _ (List.mem_of_getElem? (i := 10) rfl)
theorem wd_11 {Z : State} {a0 : Array Value} (hw : ∀ d ∈ tables_1, d.before a0 Z = true) : (Jvm.Cond.lays "com/example/grackle/grackle/core/cluster/IntList" "com/example/grackle/grackle/core/cluster/IntList" "values" "[I").before a0 Z = true := hw _ (List.mem_of_getElem? (i := 11) rfl)
theorem wd_1 {Z : State} {a0 : Array Value} (hw : ∀ d ∈ tables_1, d.before a0 Z = true) : (Jvm.Cond.instantiable "com/example/grackle/grackle/core/cluster/IntList" (2 : Nat)).before a0 Z = true := hw _ (List.mem_of_getElem? (i := 1) rfl)
theorem d_prog_16_method_1_11 : decode prog_16_method_1_code 11 = .ok (.return_, 1) := by decide +kernel
theorem wd_18 {Z : State} {a0 : Array Value} (hw : ∀ d ∈ tables_1, d.before a0 Z = true) : (Jvm.Cond.lays "com/example/grackle/grackle/core/cluster/IntList" "com/example/grackle/grackle/core/cluster/IntList" "size" "I").before a0 Z = true := hw _ (List.mem_of_getElem? (i := 18) rfl)
theorem sne_0 {Z : State} {a0 : Array Value} (hw : ∀ d ∈ tables_1, d.before a0 Z = true) : RoadKit.slotOf Z "com/example/grackle/grackle/core/cluster/IntList" "size" "I" ≠ RoadKit.slotOf Z "com/example/grackle/grackle/core/cluster/IntList" "values" "[I" := slot_ne (C := "com/example/grackle/grackle/core/cluster/IntList") (Or.inl (wd_18 hw)) (Or.inl (wd_11 hw)) (by decide) (t := .int) (t' := (.array .int)) (by decide) (by decide)
theorem pn_1 : plainName "com/example/grackle/grackle/core/cluster/IntList" = true := by first | (simp [plainName, overriddenIn]; done) | decide +kernel
theorem d_prog_16_method_2_0 : decode prog_16_method_2_code 0 = .ok (.aload_n 0, 1) := by decide +kernel
theorem d_prog_16_method_2_1 : decode prog_16_method_2_code 1 = .ok (.getfield 13, 3) := by decide +kernel
theorem wd_17 {Z : State} {a0 : Array Value} (hw : ∀ d ∈ tables_1, d.before a0 Z = true) : (Jvm.Cond.fieldLink "com/example/grackle/grackle/core/cluster/IntList" (13 : Nat) "com/example/grackle/grackle/core/cluster/IntList" "size" "I").before a0 Z = true := hw _ (List.mem_of_getElem? (i := 17) rfl)
theorem d_prog_16_method_2_4 : decode prog_16_method_2_code 4 = .ok (.aload_n 0, 1) := by decide +kernel
theorem d_prog_16_method_2_5 : decode prog_16_method_2_code 5 = .ok (.getfield 7, 3) := by decide +kernel
theorem d_prog_16_method_2_8 : decode prog_16_method_2_code 8 = .ok (.arraylength, 1) := by decide +kernel
theorem d_prog_16_method_2_9 : decode prog_16_method_2_code 9 = .ok (.if_icmp .ne 20, 3) := by decide +kernel
theorem d_prog_16_method_2_29 : decode prog_16_method_2_code 29 = .ok (.aload_n 0, 1) := by decide +kernel
theorem d_prog_16_method_2_30 : decode prog_16_method_2_code 30 = .ok (.getfield 7, 3) := by decide +kernel
theorem d_prog_16_method_2_33 : decode prog_16_method_2_code 33 = .ok (.aload_n 0, 1) := by decide +kernel
theorem d_prog_16_method_2_34 : decode prog_16_method_2_code 34 = .ok (.dup, 1) := by decide +kernel
theorem d_prog_16_method_2_35 : decode prog_16_method_2_code 35 = .ok (.getfield 13, 3) := by decide +kernel
theorem d_prog_16_method_2_38 : decode prog_16_method_2_code 38 = .ok (.dup_x1, 1) := by decide +kernel
theorem d_prog_16_method_2_39 : decode prog_16_method_2_code 39 = .ok (.iconst 1, 1) := by decide +kernel
theorem d_prog_16_method_2_40 : decode prog_16_method_2_code 40 = .ok (.iadd, 1) := by decide +kernel
theorem d_prog_16_method_2_41 : decode prog_16_method_2_code 41 = .ok (.putfield 13, 3) := by decide +kernel
theorem d_prog_16_method_2_44 : decode prog_16_method_2_code 44 = .ok (.iload_n 1, 1) := by decide +kernel
theorem d_prog_16_method_2_45 : decode prog_16_method_2_code 45 = .ok (.iastore, 1) := by decide +kernel
theorem d_prog_16_method_2_46 : decode prog_16_method_2_code 46 = .ok (.return_, 1) := by decide +kernel
theorem sne_1 {Z : State} {a0 : Array Value} (hw : ∀ d ∈ tables_1, d.before a0 Z = true) : RoadKit.slotOf Z "com/example/grackle/grackle/core/cluster/IntList" "values" "[I" ≠ RoadKit.slotOf Z "com/example/grackle/grackle/core/cluster/IntList" "size" "I" := slot_ne (C := "com/example/grackle/grackle/core/cluster/IntList") (Or.inl (wd_11 hw)) (Or.inl (wd_18 hw)) (by decide) (t := (.array .int)) (t' := .int) (by decide) (by decide)
theorem d_prog_16_method_2_12 : decode prog_16_method_2_code 12 = .ok (.aload_n 0, 1) := by decide +kernel
theorem d_prog_16_method_2_13 : decode prog_16_method_2_code 13 = .ok (.aload_n 0, 1) := by decide +kernel
theorem d_prog_16_method_2_14 : decode prog_16_method_2_code 14 = .ok (.getfield 7, 3) := by decide +kernel
theorem d_prog_16_method_2_17 : decode prog_16_method_2_code 17 = .ok (.iconst 2, 1) := by decide +kernel
theorem d_prog_16_method_2_18 : decode prog_16_method_2_code 18 = .ok (.aload_n 0, 1) := by decide +kernel
theorem d_prog_16_method_2_19 : decode prog_16_method_2_code 19 = .ok (.getfield 13, 3) := by decide +kernel
theorem d_prog_16_method_2_22 : decode prog_16_method_2_code 22 = .ok (.imul, 1) := by decide +kernel
theorem d_prog_16_method_2_23 : decode prog_16_method_2_code 23 = .ok (.invokestatic 17, 3) := by decide +kernel
theorem wd_30 {Z : State} {a0 : Array Value} (hw : ∀ d ∈ tables_1, d.before a0 Z = true) : (Jvm.Cond.methodLink "com/example/grackle/grackle/core/cluster/IntList" (17 : Nat) ({ cls := "java/util/Arrays", name := "copyOf", desc := "([II)[I" } : Jvm.MethodName)).before a0 Z = true := hw _ (List.mem_of_getElem? (i := 30) rfl)
theorem wd_33 {Z : State} {a0 : Array Value} (hw : ∀ d ∈ tables_1, d.before a0 Z = true) : (Jvm.Cond.code ({ cls := "java/util/Arrays", name := "copyOf", desc := "([II)[I" } : Jvm.MethodName) jdk_65_method_123_code (3 : Nat) (Option.some (Jvm.ClassFile.FieldType.array Jvm.ClassFile.FieldType.int))).before a0 Z = true := hw _ (List.mem_of_getElem? (i := 33) rfl)
theorem pd_1 : parseMethodDescriptor "([II)[I" = some ⟨[(.array .int), .int], some (.array .int)⟩ := by decide +kernel
theorem wd_31 {Z : State} {a0 : Array Value} (hw : ∀ d ∈ tables_1, d.before a0 Z = true) : (Jvm.Cond.static ({ cls := "java/util/Arrays", name := "copyOf", desc := "([II)[I" } : Jvm.MethodName)).before a0 Z = true := hw _ (List.mem_of_getElem? (i := 31) rfl)
theorem wd_32 {Z : State} {a0 : Array Value} (hw : ∀ d ∈ tables_1, d.before a0 Z = true) : (Jvm.Cond.initialized "java/util/Arrays").before a0 Z = true := hw _ (List.mem_of_getElem? (i := 32) rfl)
theorem d_prog_16_method_2_26 : decode prog_16_method_2_code 26 = .ok (.putfield 7, 3) := by decide +kernel
theorem d_prog_16_method_5_0 : decode prog_16_method_5_code 0 = .ok (.aload_n 0, 1) := by decide +kernel
theorem d_prog_16_method_5_1 : decode prog_16_method_5_code 1 = .ok (.getfield 13, 3) := by decide +kernel
theorem d_prog_16_method_5_4 : decode prog_16_method_5_code 4 = .ok (.ifCond .ne 7, 3) := by decide +kernel
theorem d_prog_16_method_5_11 : decode prog_16_method_5_code 11 = .ok (.iconst 0, 1) := by decide +kernel
theorem d_prog_16_method_5_12 : decode prog_16_method_5_code 12 = .ok (.ireturn, 1) := by decide +kernel
theorem d_prog_16_method_5_7 : decode prog_16_method_5_code 7 = .ok (.iconst 1, 1) := by decide +kernel
theorem d_prog_16_method_5_8 : decode prog_16_method_5_code 8 = .ok (.goto 4, 3) := by decide +kernel
theorem d_prog_16_method_6_0 : decode prog_16_method_6_code 0 = .ok (.aload_n 0, 1) := by decide +kernel
theorem d_prog_16_method_6_1 : decode prog_16_method_6_code 1 = .ok (.iconst 0, 1) := by decide +kernel
theorem d_prog_16_method_6_2 : decode prog_16_method_6_code 2 = .ok (.putfield 13, 3) := by decide +kernel
theorem d_prog_16_method_6_5 : decode prog_16_method_6_code 5 = .ok (.return_, 1) := by decide +kernel
theorem wd_0 {Z : State} {a0 : Array Value} (hw : ∀ d ∈ tables_1, d.before a0 Z = true) : (Jvm.Cond.classLink "com/example/grackle/grackle/core/cluster/IntListIsEmptyPinLaw" (7 : Nat) "com/example/grackle/grackle/core/cluster/IntList").before a0 Z = true := hw _ (List.mem_of_getElem? (i := 0) rfl)
theorem wd_2 {Z : State} {a0 : Array Value} (hw : ∀ d ∈ tables_1, d.before a0 Z = true) : (Jvm.Cond.initialized "com/example/grackle/grackle/core/cluster/IntList").before a0 Z = true := hw _ (List.mem_of_getElem? (i := 2) rfl)
theorem wd_3 {Z : State} {a0 : Array Value} (hw : ∀ d ∈ tables_1, d.before a0 Z = true) : (Jvm.Cond.methodLink "com/example/grackle/grackle/core/cluster/IntListIsEmptyPinLaw" (9 : Nat) ({ cls := "com/example/grackle/grackle/core/cluster/IntList", name := "<init>", desc := "()V" } : Jvm.MethodName)).before a0 Z = true := hw _ (List.mem_of_getElem? (i := 3) rfl)
theorem wd_5 {Z : State} {a0 : Array Value} (hw : ∀ d ∈ tables_1, d.before a0 Z = true) : (Jvm.Cond.code ({ cls := "com/example/grackle/grackle/core/cluster/IntList", name := "<init>", desc := "()V" } : Jvm.MethodName) prog_16_method_1_code (1 : Nat) (Option.none : Option Jvm.ClassFile.FieldType)).before a0 Z = true := hw _ (List.mem_of_getElem? (i := 5) rfl)
theorem pd_2 : parseMethodDescriptor "()V" = some ⟨[], none⟩ := by decide +kernel
theorem wd_4 {Z : State} {a0 : Array Value} (hw : ∀ d ∈ tables_1, d.before a0 Z = true) : (Jvm.Cond.instanceMethod ({ cls := "com/example/grackle/grackle/core/cluster/IntList", name := "<init>", desc := "()V" } : Jvm.MethodName)).before a0 Z = true := hw _ (List.mem_of_getElem? (i := 4) rfl)
theorem wd_12 {Z : State} {a0 : Array Value} (hw : ∀ d ∈ tables_1, d.before a0 Z = true) : (Jvm.Cond.methodLink "com/example/grackle/grackle/core/cluster/IntListIsEmptyPinLaw" (10 : Nat) ({ cls := "com/example/grackle/grackle/core/cluster/IntList", name := "isEmpty", desc := "()Z" } : Jvm.MethodName)).before a0 Z = true := hw _ (List.mem_of_getElem? (i := 12) rfl)
theorem wd_15 {Z : State} {a0 : Array Value} (hw : ∀ d ∈ tables_1, d.before a0 Z = true) : (Jvm.Cond.selects "com/example/grackle/grackle/core/cluster/IntList" ({ cls := "com/example/grackle/grackle/core/cluster/IntList", name := "isEmpty", desc := "()Z" } : Jvm.MethodName) ({ cls := "com/example/grackle/grackle/core/cluster/IntList", name := "isEmpty", desc := "()Z" } : Jvm.MethodName)).before a0 Z = true := hw _ (List.mem_of_getElem? (i := 15) rfl)
theorem wd_16 {Z : State} {a0 : Array Value} (hw : ∀ d ∈ tables_1, d.before a0 Z = true) : (Jvm.Cond.code ({ cls := "com/example/grackle/grackle/core/cluster/IntList", name := "isEmpty", desc := "()Z" } : Jvm.MethodName) prog_16_method_5_code (1 : Nat) (Option.some Jvm.ClassFile.FieldType.boolean)).before a0 Z = true := hw _ (List.mem_of_getElem? (i := 16) rfl)
theorem pd_3 : parseMethodDescriptor "()Z" = some ⟨[], some .boolean⟩ := by decide +kernel
theorem wd_13 {Z : State} {a0 : Array Value} (hw : ∀ d ∈ tables_1, d.before a0 Z = true) : (Jvm.Cond.declares ({ cls := "com/example/grackle/grackle/core/cluster/IntList", name := "isEmpty", desc := "()Z" } : Jvm.MethodName)).before a0 Z = true := hw _ (List.mem_of_getElem? (i := 13) rfl)
theorem wd_14 {Z : State} {a0 : Array Value} (hw : ∀ d ∈ tables_1, d.before a0 Z = true) : (Jvm.Cond.instanceMethod ({ cls := "com/example/grackle/grackle/core/cluster/IntList", name := "isEmpty", desc := "()Z" } : Jvm.MethodName)).before a0 Z = true := hw _ (List.mem_of_getElem? (i := 14) rfl)
theorem wd_19 {Z : State} {a0 : Array Value} (hw : ∀ d ∈ tables_1, d.before a0 Z = true) : (Jvm.Cond.constant "com/example/grackle/grackle/core/cluster/IntListIsEmptyPinLaw" (14 : Nat) (2147483647 : Int32)).before a0 Z = true := hw _ (List.mem_of_getElem? (i := 19) rfl)
theorem wd_20 {Z : State} {a0 : Array Value} (hw : ∀ d ∈ tables_1, d.before a0 Z = true) : (Jvm.Cond.methodLink "com/example/grackle/grackle/core/cluster/IntListIsEmptyPinLaw" (19 : Nat) ({ cls := "com/example/grackle/grackle/core/cluster/IntList", name := "clear", desc := "()V" } : Jvm.MethodName)).before a0 Z = true := hw _ (List.mem_of_getElem? (i := 20) rfl)
theorem wd_23 {Z : State} {a0 : Array Value} (hw : ∀ d ∈ tables_1, d.before a0 Z = true) : (Jvm.Cond.selects "com/example/grackle/grackle/core/cluster/IntList" ({ cls := "com/example/grackle/grackle/core/cluster/IntList", name := "clear", desc := "()V" } : Jvm.MethodName) ({ cls := "com/example/grackle/grackle/core/cluster/IntList", name := "clear", desc := "()V" } : Jvm.MethodName)).before a0 Z = true := hw _ (List.mem_of_getElem? (i := 23) rfl)
theorem wd_24 {Z : State} {a0 : Array Value} (hw : ∀ d ∈ tables_1, d.before a0 Z = true) : (Jvm.Cond.code ({ cls := "com/example/grackle/grackle/core/cluster/IntList", name := "clear", desc := "()V" } : Jvm.MethodName) prog_16_method_6_code (1 : Nat) (Option.none : Option Jvm.ClassFile.FieldType)).before a0 Z = true := hw _ (List.mem_of_getElem? (i := 24) rfl)
theorem wd_21 {Z : State} {a0 : Array Value} (hw : ∀ d ∈ tables_1, d.before a0 Z = true) : (Jvm.Cond.declares ({ cls := "com/example/grackle/grackle/core/cluster/IntList", name := "clear", desc := "()V" } : Jvm.MethodName)).before a0 Z = true := hw _ (List.mem_of_getElem? (i := 21) rfl)
theorem wd_22 {Z : State} {a0 : Array Value} (hw : ∀ d ∈ tables_1, d.before a0 Z = true) : (Jvm.Cond.instanceMethod ({ cls := "com/example/grackle/grackle/core/cluster/IntList", name := "clear", desc := "()V" } : Jvm.MethodName)).before a0 Z = true := hw _ (List.mem_of_getElem? (i := 22) rfl)
theorem pn_2 : plainName "com/example/grackle/grackle/core/cluster/IntListIsEmptyPinLaw" = true := by first | (simp [plainName, overriddenIn]; done) | decide +kernel
theorem wd_25 {Z : State} {a0 : Array Value} (hw : ∀ d ∈ tables_1, d.before a0 Z = true) : (Jvm.Cond.methodLink "com/example/grackle/grackle/core/cluster/IntListIsEmptyPinLaw" (15 : Nat) ({ cls := "com/example/grackle/grackle/core/cluster/IntList", name := "add", desc := "(I)V" } : Jvm.MethodName)).before a0 Z = true := hw _ (List.mem_of_getElem? (i := 25) rfl)
theorem wd_28 {Z : State} {a0 : Array Value} (hw : ∀ d ∈ tables_1, d.before a0 Z = true) : (Jvm.Cond.selects "com/example/grackle/grackle/core/cluster/IntList" ({ cls := "com/example/grackle/grackle/core/cluster/IntList", name := "add", desc := "(I)V" } : Jvm.MethodName) ({ cls := "com/example/grackle/grackle/core/cluster/IntList", name := "add", desc := "(I)V" } : Jvm.MethodName)).before a0 Z = true := hw _ (List.mem_of_getElem? (i := 28) rfl)
theorem wd_29 {Z : State} {a0 : Array Value} (hw : ∀ d ∈ tables_1, d.before a0 Z = true) : (Jvm.Cond.code ({ cls := "com/example/grackle/grackle/core/cluster/IntList", name := "add", desc := "(I)V" } : Jvm.MethodName) prog_16_method_2_code (2 : Nat) (Option.none : Option Jvm.ClassFile.FieldType)).before a0 Z = true := hw _ (List.mem_of_getElem? (i := 29) rfl)
theorem pd_4 : parseMethodDescriptor "(I)V" = some ⟨[.int], none⟩ := by decide +kernel
theorem wd_26 {Z : State} {a0 : Array Value} (hw : ∀ d ∈ tables_1, d.before a0 Z = true) : (Jvm.Cond.declares ({ cls := "com/example/grackle/grackle/core/cluster/IntList", name := "add", desc := "(I)V" } : Jvm.MethodName)).before a0 Z = true := hw _ (List.mem_of_getElem? (i := 26) rfl)
theorem wd_27 {Z : State} {a0 : Array Value} (hw : ∀ d ∈ tables_1, d.before a0 Z = true) : (Jvm.Cond.instanceMethod ({ cls := "com/example/grackle/grackle/core/cluster/IntList", name := "add", desc := "(I)V" } : Jvm.MethodName)).before a0 Z = true := hw _ (List.mem_of_getElem? (i := 27) rfl)
def own_min (x y : Int32) : Int32 := if y < x then y else x
theorem own_min_def (x y : Int32) : own_min x y = if y < x then y else x := rfl
set_option maxRecDepth 65536 in
set_option maxHeartbeats 40000000 in
theorem c_min (l : Launch) (Z : State) (a0 : Array Value) (hw : ∀ d ∈ tables_1, d.before a0 Z = true) (x y : Int32) (h : Heap) (n0 : Nat) (hn : n0 ≤ h.size) : Con l Z (⟨"java/lang/Math", "min", "(II)I"⟩ : MethodName) jdk_29_method_69_code 2 (some .int) ({ frames := 0, cells := 0, slots := 0, locals := 0 } : Room) #[(.int x), (.int y)] h n0 (fun r h' => r = some (.int (own_min x y)) ∧ h' = h) := by
  refine ConW.of_W (Ls := #[.val (.int x), .val (.int y)]) (Jvm.Free.JP.mathPlain rfl (by decide +kernel)) hn (fun m => by first | (simp [entryFrame, mkF, argsToLocals, Value.category]; done) | rfl) ?_
  refine W.iloadN 1 d_jdk_29_method_69_0 rfl rfl ?_
  refine W.iloadN 2 d_jdk_29_method_69_1 rfl rfl ?_
  refine W.icmp_gt 9 5 d_jdk_29_method_69_2 rfl rfl ?_ ?_
  · intro hc1001
    refine W.iloadN 10 d_jdk_29_method_69_9 rfl rfl ?_
    exact W.ireturn d_jdk_29_method_69_10 rfl ⟨by rw [own_min_def]; simp [hc1001], rfl⟩ (by decide) (by decide)
  · intro hc1001
    refine W.iloadN 6 d_jdk_29_method_69_5 rfl rfl ?_
    refine W.goto 10 d_jdk_29_method_69_6 rfl ?_
    exact W.ireturn d_jdk_29_method_69_10 rfl ⟨by rw [own_min_def]; simp [hc1001], rfl⟩ (by decide) (by decide)
set_option maxRecDepth 65536 in
set_option maxHeartbeats 40000000 in
theorem c_copy (l : Launch) (Z : State) (a0 : Array Value) (hw : ∀ d ∈ tables_1, d.before a0 Z = true) (a : Addr) (nl len mn : Int32) (vs : List Value) (k km : Nat) (h : Heap) (n0 : Nat) (hn : n0 ≤ h.size) (A : Ary Z h a .int vs) (hlen : vs.length.toInt32 = len) (hne : ¬ nl = len) (hnl : nl.toNatClampNeg = k) (hnn : ¬ nl < 0) (hk : k ≤ 16) (hmn : own_min len nl = mn) (hkm : mn.toNatClampNeg = km) (hmn0 : ¬ mn < 0) (h1 : km ≤ vs.length) (h2 : km ≤ k) : Con l Z (⟨"java/util/Arrays", "copyOf", "([II)[I"⟩ : MethodName) jdk_65_method_123_code 3 (some (.array .int)) ({ frames := 1, cells := 1, slots := 16, locals := 90 } : Room) #[(.ref a), (.int nl)] h n0 (fun r h' => ∃ b, r = some (.ref b) ∧ h.size ≤ b ∧ n0 ≤ b ∧ Keep h h' [] ∧ Ary Z h' b .int ((List.replicate k (.int (0 : Int32))).take 0 ++ (vs.drop 0).take km ++ (List.replicate k (.int (0 : Int32))).drop (0 + km))) := by
  refine ConW.of_W (Ls := #[.val (.ref a), .val (.int nl), .unset]) (plainFor_of_name pn_0) hn (fun m => by first | (simp [entryFrame, mkF, argsToLocals, Value.category]; done) | rfl) ?_
  refine W.iloadN 1 d_jdk_65_method_123_0 rfl rfl ?_
  refine W.aloadN 2 d_jdk_65_method_123_1 rfl rfl rfl ?_
  refine W.arraylength 3 d_jdk_65_method_123_2 rfl A len hlen ?_
  refine W.icmp_ne 14 6 d_jdk_65_method_123_3 rfl rfl (fun _ => ?_) (fun hc => absurd hc hne)
  refine W.iloadN 15 d_jdk_65_method_123_14 rfl rfl ?_
  refine W.newarray 17 d_jdk_65_method_123_15 rfl (wd_9 hw) rfl hnn k 16 hnl hk (by decide) (by decide) (by decide) rfl ?_
  intro h1002 b1002 g1002 ge1002 X1002 K1002 A1002
  have ne1003 : a ≠ b1002 := Nat.ne_of_lt (Nat.lt_of_lt_of_eq A.lt g1002.symm)
  have sz1004 := Nat.le_trans (Keep.refl _ []).1 (Nat.le_of_eq g1002.symm)
  have kc1005 := Keep.trans (ws := []) (Keep.refl _ []) K1002 all0
  show W _ _ _ _ _ _ _ _ _ _ _ 1 16 17 #[.val (.ref a), .val (.int nl), .unset] [(.ref b1002)]
  refine W.astoreN 18 d_jdk_65_method_123_17 rfl rfl #[.val (.ref a), .val (.int nl), .val (.ref b1002)] rfl ?_
  refine W.aloadN 19 d_jdk_65_method_123_18 rfl rfl rfl ?_
  refine W.iconst 20 d_jdk_65_method_123_19 rfl (0 : Int32) rfl ?_
  refine W.aloadN 21 d_jdk_65_method_123_20 rfl rfl rfl ?_
  refine W.iconst 22 d_jdk_65_method_123_21 rfl (0 : Int32) rfl ?_
  refine W.aloadN 23 d_jdk_65_method_123_22 rfl rfl rfl ?_
  have q1006 := (A.keep K1002 nin0)
  refine W.arraylength 24 d_jdk_65_method_123_23 rfl q1006 len hlen ?_
  refine W.iloadN 25 d_jdk_65_method_123_24 rfl rfl ?_
  refine W.callS (rest := [(.int (0 : Int32)), (.ref b1002), (.int (0 : Int32)), (.ref a)]) (argsL := [(.int len), (.int nl)]) 28 d_jdk_65_method_123_25 rfl (fun hn => c_min l Z a0 hw len nl _ n0 hn) (wd_34 hw) (wd_35 hw) (wd_36 hw) (wd_37 hw) (by decide) pd_0 rfl rfl rfl (by decide) 4 (Nat.le_of_ble_eq_true rfl) (by decide) (by decide) (by decide) ?_
  rintro v1007 h1007 ⟨rfl, rfl⟩
  show W _ _ _ _ _ _ _ _ _ _ _ 1 16 28 #[.val (.ref a), .val (.int nl), .val (.ref b1002)] [(.int (own_min len nl)), (.int (0 : Int32)), (.ref b1002), (.int (0 : Int32)), (.ref a)]
  rw [hmn]
  show W _ _ _ _ _ _ _ _ _ _ _ 1 16 28 #[.val (.ref a), .val (.int nl), .val (.ref b1002)] [(.int mn), (.int (0 : Int32)), (.ref b1002), (.int (0 : Int32)), (.ref a)]
  refine W.arraycopy 31 d_jdk_65_method_123_28 rfl (wd_38 hw) (wd_41 hw) (wd_39 hw) (wd_40 hw) q1006 A1002 rfl 0 0 km (by decide) (by decide) (by decide) (by decide) hkm hmn0 (by rw [Nat.zero_add]; exact h1) (by rw [Nat.zero_add, List.length_replicate]; exact h2) ge1002 rfl (by decide) 0 (Nat.le_of_ble_eq_true rfl) (by decide) ?_
  intro h1008 K1008 A1008
  have kc1009 := Keep.trans (ws := []) kc1005 K1008 (allS (Or.inr sz1004) all0)
  refine W.aloadN 32 d_jdk_65_method_123_31 rfl rfl rfl ?_
  exact W.areturn d_jdk_65_method_123_32 rfl rfl rfl rfl ⟨_, rfl, sz1004, ge1002, kc1009, A1008⟩ (by decide) (by decide)
set_option maxRecDepth 65536 in
set_option maxHeartbeats 40000000 in
theorem c_init (l : Launch) (Z : State) (a0 : Array Value) (hw : ∀ d ∈ tables_1, d.before a0 Z = true) (a : Addr) (h : Heap) (n0 : Nat) (hn : n0 ≤ h.size) (ga : n0 ≤ a) (E : Exa Z h a "com/example/grackle/grackle/core/cluster/IntList") (F1 : Fld Z h a "com/example/grackle/grackle/core/cluster/IntList" "values" "[I" .null) (F2 : Fld Z h a "com/example/grackle/grackle/core/cluster/IntList" "size" "I" (.int (0 : Int32))) : Con l Z (⟨"com/example/grackle/grackle/core/cluster/IntList", "<init>", "()V"⟩ : MethodName) prog_16_method_1_code 1 none ({ frames := 1, cells := 1, slots := 4, locals := 14 } : Room) #[(.ref a)] h n0 (fun r h' => r = none ∧ ∃ b, h.size ≤ b ∧ n0 ≤ b ∧ a ≠ b ∧ Exa Z h' a "com/example/grackle/grackle/core/cluster/IntList" ∧ Fld Z h' a "com/example/grackle/grackle/core/cluster/IntList" "values" "[I" (.ref b) ∧ Fld Z h' a "com/example/grackle/grackle/core/cluster/IntList" "size" "I" (.int (0 : Int32)) ∧ Ary Z h' b .int [(.int (0 : Int32)), (.int (0 : Int32)), (.int (0 : Int32)), (.int (0 : Int32))] ∧ Keep h h' [a]) := by
  refine ConW.of_W (Ls := #[.val (.ref a)]) (plainFor_of_name pn_1) hn (fun m => by first | (simp [entryFrame, mkF, argsToLocals, Value.category]; done) | rfl) ?_
  refine W.aloadN 1 d_prog_16_method_1_0 rfl rfl rfl ?_
  refine W.initObj 4 d_prog_16_method_1_1 rfl (wd_6 hw) (wd_7 hw) (wd_8 hw) rfl (by decide) 0 (Nat.le_of_ble_eq_true rfl) (by decide) ?_
  refine W.aloadN 5 d_prog_16_method_1_4 rfl rfl rfl ?_
  refine W.iconst 6 d_prog_16_method_1_5 rfl (4 : Int32) rfl ?_
  refine W.newarray 8 d_prog_16_method_1_6 rfl (wd_9 hw) rfl (by decide) 4 4 (by decide) (by decide) (by decide) (by decide) (by decide) rfl ?_
  intro h1010 b1010 g1010 ge1010 X1010 K1010 A1010
  have ne1011 : a ≠ b1010 := Nat.ne_of_lt (Nat.lt_of_lt_of_eq E.lt g1010.symm)
  have sz1012 := Nat.le_trans (Keep.refl _ [a]).1 (Nat.le_of_eq g1010.symm)
  have kc1013 := Keep.trans (ws := [a]) (Keep.refl _ [a]) K1010 all0
  have A1010 : Ary _ _ b1010 .int [(.int (0 : Int32)), (.int (0 : Int32)), (.int (0 : Int32)), (.int (0 : Int32))] := A1010
  show W _ _ _ _ _ _ _ _ _ _ _ 1 4 8 #[.val (.ref a)] [(.ref b1010), (.ref a)]
  have q1014 := (F1.keep K1010 nin0)
  have q1015 := (E.keep K1010)
  refine W.putfield 11 d_prog_16_method_1_8 rfl (host := "") (Or.inl (wd_10 hw)) Via.refl q1014 q1015 (Or.inl (wd_11 hw)) (wd_1 hw) (ty := (.array .int)) (by decide) rfl rfl ga ?_
  intro h1016 W1016 F1016 E1016 K1016
  have kc1017 := Keep.trans (ws := [a]) kc1013 K1016 (allS (Or.inl (List.mem_of_getElem? (i := 0) rfl)) all0)
  have q1018 := ((F2.keep K1010 nin0).other W1016 (Or.inr (sne_0 hw)))
  have q1019 := (A1010.keep K1016 (ninS (Ne.symm ne1011) nin0))
  exact W.return_ d_prog_16_method_1_11 rfl ⟨rfl, _, sz1012, ge1010, ne1011, E1016, F1016, q1018, q1019, kc1017⟩ (by decide) (by decide)
set_option maxRecDepth 65536 in
set_option maxHeartbeats 40000000 in
theorem c_add (l : Launch) (Z : State) (a0 : Array Value) (hw : ∀ d ∈ tables_1, d.before a0 Z = true) (a b : Addr) (x s len : Int32) (vs : List Value) (k : Nat) (h : Heap) (n0 : Nat) (hn : n0 ≤ h.size) (ga : n0 ≤ a) (gb : n0 ≤ b) (ne : a ≠ b) (E : Exa Z h a "com/example/grackle/grackle/core/cluster/IntList") (F1 : Fld Z h a "com/example/grackle/grackle/core/cluster/IntList" "values" "[I" (.ref b)) (F2 : Fld Z h a "com/example/grackle/grackle/core/cluster/IntList" "size" "I" (.int s)) (A : Ary Z h b .int vs) (hlen : vs.length.toInt32 = len) (hne : ¬ s = len) (hk : s.toNatClampNeg = k) (hs0 : ¬ s < 0) (hkl : k < vs.length) : Con l Z (⟨"com/example/grackle/grackle/core/cluster/IntList", "add", "(I)V"⟩ : MethodName) prog_16_method_2_code 2 none ({ frames := 0, cells := 0, slots := 0, locals := 0 } : Room) #[(.ref a), (.int x)] h n0 (fun r h' => r = none ∧ Exa Z h' a "com/example/grackle/grackle/core/cluster/IntList" ∧ Fld Z h' a "com/example/grackle/grackle/core/cluster/IntList" "values" "[I" (.ref b) ∧ Fld Z h' a "com/example/grackle/grackle/core/cluster/IntList" "size" "I" (.int (s + (1 : Int32))) ∧ Ary Z h' b .int (vs.set k (.int x)) ∧ Keep h h' [a, b]) := by
  refine ConW.of_W (Ls := #[.val (.ref a), .val (.int x)]) (plainFor_of_name pn_1) hn (fun m => by first | (simp [entryFrame, mkF, argsToLocals, Value.category]; done) | rfl) ?_
  refine W.aloadN 1 d_prog_16_method_2_0 rfl rfl rfl ?_
  refine W.getfield 4 d_prog_16_method_2_1 rfl (host := "") (Or.inl (wd_17 hw)) Via.refl F2 ?_
  refine W.aloadN 5 d_prog_16_method_2_4 rfl rfl rfl ?_
  refine W.getfield 8 d_prog_16_method_2_5 rfl (host := "") (Or.inl (wd_10 hw)) Via.refl F1 ?_
  refine W.arraylength 9 d_prog_16_method_2_8 rfl A len hlen ?_
  refine W.icmp_ne 29 12 d_prog_16_method_2_9 rfl rfl (fun _ => ?_) (fun hc => absurd hc hne)
  refine W.aloadN 30 d_prog_16_method_2_29 rfl rfl rfl ?_
  refine W.getfield 33 d_prog_16_method_2_30 rfl (host := "") (Or.inl (wd_10 hw)) Via.refl F1 ?_
  refine W.aloadN 34 d_prog_16_method_2_33 rfl rfl rfl ?_
  refine W.dup 35 d_prog_16_method_2_34 rfl rfl ?_
  refine W.getfield 38 d_prog_16_method_2_35 rfl (host := "") (Or.inl (wd_17 hw)) Via.refl F2 ?_
  refine W.dup_x1 39 d_prog_16_method_2_38 rfl rfl rfl ?_
  refine W.iconst 40 d_prog_16_method_2_39 rfl (1 : Int32) rfl ?_
  refine W.iadd 41 d_prog_16_method_2_40 rfl (s + (1 : Int32)) rfl ?_
  refine W.putfield 44 d_prog_16_method_2_41 rfl (host := "") (Or.inl (wd_17 hw)) Via.refl F2 E (Or.inl (wd_18 hw)) (wd_1 hw) (ty := .int) (by decide) rfl rfl ga ?_
  intro h1020 W1020 F1020 E1020 K1020
  have kc1021 := Keep.trans (ws := [a, b]) (Keep.refl _ [a, b]) K1020 (allS (Or.inl (List.mem_of_getElem? (i := 0) rfl)) all0)
  refine W.iloadN 45 d_prog_16_method_2_44 rfl rfl ?_
  have q1022 := (A.keep K1020 (ninS (Ne.symm ne) nin0))
  refine W.iastore 46 d_prog_16_method_2_45 rfl q1022 k hk hs0 hkl gb ?_
  intro h1023 W1023 K1023 A1023
  have kc1024 := Keep.trans (ws := [a, b]) kc1021 K1023 (allS (Or.inl (List.mem_of_getElem? (i := 1) rfl)) all0)
  have q1025 := (E1020.keep K1023)
  have q1026 := ((F1.other W1020 (Or.inr (sne_1 hw))).keep K1023 (ninS ne nin0))
  have q1027 := (F1020.keep K1023 (ninS ne nin0))
  exact W.return_ d_prog_16_method_2_46 rfl ⟨rfl, q1025, q1026, q1027, A1023, kc1024⟩ (by decide) (by decide)
set_option maxRecDepth 65536 in
set_option maxHeartbeats 40000000 in
theorem c_addG (l : Launch) (Z : State) (a0 : Array Value) (hw : ∀ d ∈ tables_1, d.before a0 Z = true) (a b : Addr) (x y0 y1 y2 y3 : Int32) (h : Heap) (n0 : Nat) (hn : n0 ≤ h.size) (ga : n0 ≤ a) (gb : n0 ≤ b) (ne : a ≠ b) (E : Exa Z h a "com/example/grackle/grackle/core/cluster/IntList") (F1 : Fld Z h a "com/example/grackle/grackle/core/cluster/IntList" "values" "[I" (.ref b)) (F2 : Fld Z h a "com/example/grackle/grackle/core/cluster/IntList" "size" "I" (.int (4 : Int32))) (A : Ary Z h b .int [(.int y0), (.int y1), (.int y2), (.int y3)]) : Con l Z (⟨"com/example/grackle/grackle/core/cluster/IntList", "add", "(I)V"⟩ : MethodName) prog_16_method_2_code 2 none ({ frames := 2, cells := 1, slots := 16, locals := 130 } : Room) #[(.ref a), (.int x)] h n0 (fun r h' => r = none ∧ ∃ b', h.size ≤ b' ∧ n0 ≤ b' ∧ a ≠ b' ∧ Exa Z h' a "com/example/grackle/grackle/core/cluster/IntList" ∧ Fld Z h' a "com/example/grackle/grackle/core/cluster/IntList" "values" "[I" (.ref b') ∧ Fld Z h' a "com/example/grackle/grackle/core/cluster/IntList" "size" "I" (.int (5 : Int32)) ∧ Ary Z h' b' .int [(.int y0), (.int y1), (.int y2), (.int y3), (.int x), (.int (0 : Int32)), (.int (0 : Int32)), (.int (0 : Int32))] ∧ Keep h h' [a]) := by
  refine ConW.of_W (Ls := #[.val (.ref a), .val (.int x)]) (plainFor_of_name pn_1) hn (fun m => by first | (simp [entryFrame, mkF, argsToLocals, Value.category]; done) | rfl) ?_
  refine W.aloadN 1 d_prog_16_method_2_0 rfl rfl rfl ?_
  refine W.getfield 4 d_prog_16_method_2_1 rfl (host := "") (Or.inl (wd_17 hw)) Via.refl F2 ?_
  refine W.aloadN 5 d_prog_16_method_2_4 rfl rfl rfl ?_
  refine W.getfield 8 d_prog_16_method_2_5 rfl (host := "") (Or.inl (wd_10 hw)) Via.refl F1 ?_
  refine W.arraylength 9 d_prog_16_method_2_8 rfl A (4 : Int32) rfl ?_
  refine W.icmp_ne 29 12 d_prog_16_method_2_9 rfl rfl (fun hc => absurd (by decide) hc) (fun _ => ?_)
  refine W.aloadN 13 d_prog_16_method_2_12 rfl rfl rfl ?_
  refine W.aloadN 14 d_prog_16_method_2_13 rfl rfl rfl ?_
  refine W.getfield 17 d_prog_16_method_2_14 rfl (host := "") (Or.inl (wd_10 hw)) Via.refl F1 ?_
  refine W.iconst 18 d_prog_16_method_2_17 rfl (2 : Int32) rfl ?_
  refine W.aloadN 19 d_prog_16_method_2_18 rfl rfl rfl ?_
  refine W.getfield 22 d_prog_16_method_2_19 rfl (host := "") (Or.inl (wd_17 hw)) Via.refl F2 ?_
  refine W.imul 23 d_prog_16_method_2_22 rfl (8 : Int32) (by decide) ?_
  refine W.callS (rest := [(.ref a)]) (argsL := [(.ref b), (.int (8 : Int32))]) 26 d_prog_16_method_2_23 rfl (fun hn => c_copy l Z a0 hw b (8 : Int32) (4 : Int32) (4 : Int32) _ 8 4 _ n0 hn A rfl (by decide) (by decide) (by decide) (by decide) (by decide) (by decide) (by decide) (Nat.le_of_ble_eq_true rfl) (by decide)) (wd_30 hw) (wd_31 hw) (wd_32 hw) (wd_33 hw) (by decide) pd_1 rfl rfl rfl (by decide) 1 (Nat.le_of_ble_eq_true rfl) (by decide) (by decide) (by decide) ?_
  rintro v1028 h1028 ⟨b1028, rfl, sz1028, gb1028, K1028, A1028⟩
  have ne1029 : a ≠ b1028 := Nat.ne_of_lt (Nat.lt_of_lt_of_le E.lt sz1028)
  have ne1030 : b ≠ b1028 := Nat.ne_of_lt (Nat.lt_of_lt_of_le A.lt sz1028)
  have sz1031 := Nat.le_trans (Keep.refl _ [a]).1 sz1028
  have kc1032 := Keep.trans (ws := [a]) (Keep.refl _ [a]) K1028 all0
  show W _ _ _ _ _ _ _ _ _ _ _ 1 16 26 #[.val (.ref a), .val (.int x)] [(.ref b1028), (.ref a)]
  have q1033 := (F1.keep K1028 nin0)
  have q1034 := (E.keep K1028)
  refine W.putfield 29 d_prog_16_method_2_26 rfl (host := "") (Or.inl (wd_10 hw)) Via.refl q1033 q1034 (Or.inl (wd_11 hw)) (wd_1 hw) (ty := (.array .int)) (by decide) rfl rfl ga ?_
  intro h1035 W1035 F1035 E1035 K1035
  have kc1036 := Keep.trans (ws := [a]) kc1032 K1035 (allS (Or.inl (List.mem_of_getElem? (i := 0) rfl)) all0)
  refine W.aloadN 30 d_prog_16_method_2_29 rfl rfl rfl ?_
  refine W.getfield 33 d_prog_16_method_2_30 rfl (host := "") (Or.inl (wd_10 hw)) Via.refl F1035 ?_
  refine W.aloadN 34 d_prog_16_method_2_33 rfl rfl rfl ?_
  refine W.dup 35 d_prog_16_method_2_34 rfl rfl ?_
  have q1037 := ((F2.keep K1028 nin0).other W1035 (Or.inr (sne_0 hw)))
  refine W.getfield 38 d_prog_16_method_2_35 rfl (host := "") (Or.inl (wd_17 hw)) Via.refl q1037 ?_
  refine W.dup_x1 39 d_prog_16_method_2_38 rfl rfl rfl ?_
  refine W.iconst 40 d_prog_16_method_2_39 rfl (1 : Int32) rfl ?_
  refine W.iadd 41 d_prog_16_method_2_40 rfl (5 : Int32) (by decide) ?_
  refine W.putfield 44 d_prog_16_method_2_41 rfl (host := "") (Or.inl (wd_17 hw)) Via.refl q1037 E1035 (Or.inl (wd_18 hw)) (wd_1 hw) (ty := .int) (by decide) rfl rfl ga ?_
  intro h1038 W1038 F1038 E1038 K1038
  have kc1039 := Keep.trans (ws := [a]) kc1036 K1038 (allS (Or.inl (List.mem_of_getElem? (i := 0) rfl)) all0)
  refine W.iloadN 45 d_prog_16_method_2_44 rfl rfl ?_
  have q1040 := (((show Ary _ _ _ .int [(.int y0), (.int y1), (.int y2), (.int y3), (.int (0 : Int32)), (.int (0 : Int32)), (.int (0 : Int32)), (.int (0 : Int32))] from A1028).keep K1035 (ninS (Ne.symm ne1029) nin0)).keep K1038 (ninS (Ne.symm ne1029) nin0))
  refine W.iastore 46 d_prog_16_method_2_45 rfl q1040 4 (by decide) (by decide) (Nat.le_of_ble_eq_true rfl) gb1028 ?_
  intro h1041 W1041 K1041 A1041
  have kc1042 := Keep.trans (ws := [a]) kc1039 K1041 (allS (Or.inr sz1031) all0)
  have A1041 : Ary _ _ b1028 .int [(.int y0), (.int y1), (.int y2), (.int y3), (.int x), (.int (0 : Int32)), (.int (0 : Int32)), (.int (0 : Int32))] := A1041
  have q1043 := (E1038.keep K1041)
  have q1044 := ((F1035.other W1038 (Or.inr (sne_1 hw))).keep K1041 (ninS ne1029 nin0))
  have q1045 := (F1038.keep K1041 (ninS ne1029 nin0))
  exact W.return_ d_prog_16_method_2_46 rfl ⟨rfl, _, sz1031, gb1028, ne1029, q1043, q1044, q1045, A1041, kc1042⟩ (by decide) (by decide)
set_option maxRecDepth 65536 in
set_option maxHeartbeats 40000000 in
theorem c_isE (l : Launch) (Z : State) (a0 : Array Value) (hw : ∀ d ∈ tables_1, d.before a0 Z = true) (a : Addr) (s : Int32) (h : Heap) (n0 : Nat) (hn : n0 ≤ h.size) (F2 : Fld Z h a "com/example/grackle/grackle/core/cluster/IntList" "size" "I" (.int s)) : Con l Z (⟨"com/example/grackle/grackle/core/cluster/IntList", "isEmpty", "()Z"⟩ : MethodName) prog_16_method_5_code 1 (some .boolean) ({ frames := 0, cells := 0, slots := 0, locals := 0 } : Room) #[(.ref a)] h n0 (fun r h' => r = some (.int (if s = 0 then 1 else 0)) ∧ h' = h) := by
  refine ConW.of_W (Ls := #[.val (.ref a)]) (plainFor_of_name pn_1) hn (fun m => by first | (simp [entryFrame, mkF, argsToLocals, Value.category]; done) | rfl) ?_
  refine W.aloadN 1 d_prog_16_method_5_0 rfl rfl rfl ?_
  refine W.getfield 4 d_prog_16_method_5_1 rfl (host := "") (Or.inl (wd_17 hw)) Via.refl F2 ?_
  refine W.if_ne 11 7 d_prog_16_method_5_4 rfl rfl ?_ ?_
  · intro hc1046
    refine W.iconst 12 d_prog_16_method_5_11 rfl (0 : Int32) rfl ?_
    exact W.ireturnN (t := .boolean) d_prog_16_method_5_12 rfl (by simp) (0 : Int32) rfl ⟨by simp [hc1046], rfl⟩ (by decide) (by decide)
  · intro hc1046
    refine W.iconst 8 d_prog_16_method_5_7 rfl (1 : Int32) rfl ?_
    refine W.goto 12 d_prog_16_method_5_8 rfl ?_
    exact W.ireturnN (t := .boolean) d_prog_16_method_5_12 rfl (by simp) (1 : Int32) rfl ⟨by simp [hc1046], rfl⟩ (by decide) (by decide)
set_option maxRecDepth 65536 in
set_option maxHeartbeats 40000000 in
theorem c_clr (l : Launch) (Z : State) (a0 : Array Value) (hw : ∀ d ∈ tables_1, d.before a0 Z = true) (a : Addr) (s : Int32) (h : Heap) (n0 : Nat) (hn : n0 ≤ h.size) (ga : n0 ≤ a) (E : Exa Z h a "com/example/grackle/grackle/core/cluster/IntList") (F2 : Fld Z h a "com/example/grackle/grackle/core/cluster/IntList" "size" "I" (.int s)) : Con l Z (⟨"com/example/grackle/grackle/core/cluster/IntList", "clear", "()V"⟩ : MethodName) prog_16_method_6_code 1 none ({ frames := 0, cells := 0, slots := 0, locals := 0 } : Room) #[(.ref a)] h n0 (fun r h' => r = none ∧ Exa Z h' a "com/example/grackle/grackle/core/cluster/IntList" ∧ Fld Z h' a "com/example/grackle/grackle/core/cluster/IntList" "size" "I" (.int (0 : Int32)) ∧ Keep h h' [a]) := by
  refine ConW.of_W (Ls := #[.val (.ref a)]) (plainFor_of_name pn_1) hn (fun m => by first | (simp [entryFrame, mkF, argsToLocals, Value.category]; done) | rfl) ?_
  refine W.aloadN 1 d_prog_16_method_6_0 rfl rfl rfl ?_
  refine W.iconst 2 d_prog_16_method_6_1 rfl (0 : Int32) rfl ?_
  refine W.putfield 5 d_prog_16_method_6_2 rfl (host := "") (Or.inl (wd_17 hw)) Via.refl F2 E (Or.inl (wd_18 hw)) (wd_1 hw) (ty := .int) (by decide) rfl rfl ga ?_
  intro h1047 W1047 F1047 E1047 K1047
  have kc1048 := Keep.trans (ws := [a]) (Keep.refl _ [a]) K1047 (allS (Or.inl (List.mem_of_getElem? (i := 0) rfl)) all0)
  exact W.return_ d_prog_16_method_6_5 rfl ⟨rfl, E1047, F1047, kc1048⟩ (by decide) (by decide)
theorem own_mod6 (x : Int32) : (x &&& 2147483647) % 6 = 0 ∨ (x &&& 2147483647) % 6 = 1 ∨ (x &&& 2147483647) % 6 = 2 ∨ (x &&& 2147483647) % 6 = 3 ∨ (x &&& 2147483647) % 6 = 4 ∨ (x &&& 2147483647) % 6 = 5 := by
  have h1 := c_mask x 2147483647 31 (by decide) (by decide)
  have h2 := (c_irem (x &&& 2147483647) 6 6 rfl).1 (by omega)
  have e0 : (0 : Int32).toInt = 0 := rfl
  have e1 : (1 : Int32).toInt = 1 := rfl
  have e2 : (2 : Int32).toInt = 2 := rfl
  have e3 : (3 : Int32).toInt = 3 := rfl
  have e4 : (4 : Int32).toInt = 4 := rfl
  have e5 : (5 : Int32).toInt = 5 := rfl
  simp only [← Int32.toInt_inj]
  omega
set_option maxRecDepth 65536 in
set_option maxHeartbeats 40000000 in
theorem law_0 (l : Launch) (Z : State) (a0 : Array Value) (hw : ∀ d ∈ tables_1, d.before a0 Z = true) (p0 p1 p2 p3 : Int32) (h : Heap) (n0 : Nat) (hn : n0 ≤ h.size) (hN : ((p0 &&& (2147483647 : Int32)) % (6 : Int32)) = (0 : Int32)) : ConW tables_1 l Z x code maxLocals ret room_1 #[(.int p0), (.int p1), (.int p2), (.int p3)] h n0 (fun r _ => r = some (.int 1)) := by
  refine ConW.of_W (Ls := #[.val (.int p0), .val (.int p1), .val (.int p2), .val (.int p3), .unset, .unset, .unset, .unset, .unset]) (plainFor_of_name pn_2) hn (fun m => by first | (simp [entryFrame, mkF, argsToLocals, Value.category, maxLocals]; done) | rfl) ?_
  refine W.new 3 at_0 rfl (wd_0 hw) (wd_1 hw) (wd_2 hw) (by decide) (by decide) ?_
  intro h1049 o1049 g1049 ge1049 X1049 K1049 E1049 D1049
  have f1050 : Fld _ _ o1049 "com/example/grackle/grackle/core/cluster/IntList" "values" "[I" .null := D1049 (Or.inl (wd_11 hw)) (ty := (.array .int)) (by decide)
  have f1051 : Fld _ _ o1049 "com/example/grackle/grackle/core/cluster/IntList" "size" "I" (.int (0 : Int32)) := D1049 (Or.inl (wd_18 hw)) (ty := .int) (by decide)
  show W _ _ _ _ _ _ _ _ _ _ _ 1 2 3 #[.val (.int p0), .val (.int p1), .val (.int p2), .val (.int p3), .unset, .unset, .unset, .unset, .unset] [(.ref o1049)]
  refine W.dup 4 at_3 rfl rfl ?_
  refine W.callInit (rest := [(.ref o1049)]) (argsL := []) (a := o1049) 7 at_4 rfl (fun hn => c_init l Z a0 hw o1049 _ n0 hn ge1049 E1049 f1050 f1051) rfl (wd_3 hw) (wd_4 hw) (wd_2 hw) (wd_5 hw) (by decide) pd_2 rfl rfl rfl (by decide) 1 (Nat.le_of_ble_eq_true rfl) (by decide) (by decide) (by decide) ?_
  rintro v1052 h1052 ⟨rfl, b1052, sz1052, gb1052, ne1052, E1052, F1052, G1052, A1052, K1052⟩
  have ne1053 : o1049 ≠ b1052 := Nat.ne_of_lt (Nat.lt_of_lt_of_le E1049.lt sz1052)
  show W _ _ _ _ _ _ _ _ _ _ _ 2 6 7 #[.val (.int p0), .val (.int p1), .val (.int p2), .val (.int p3), .unset, .unset, .unset, .unset, .unset] [(.ref o1049)]
  refine W.astore 9 at_7 rfl rfl #[.val (.int p0), .val (.int p1), .val (.int p2), .val (.int p3), .val (.ref o1049), .unset, .unset, .unset, .unset] rfl ?_
  refine W.aload 11 at_9 rfl rfl rfl ?_
  refine W.callV (rest := []) (argsL := []) (a := o1049) 14 at_11 rfl (fun hn => (c_isE l Z a0 hw o1049 (0 : Int32) _ n0 hn G1052).post (P := fun r h' => r = some (.int (1 : Int32)) ∧ h' = _) (fun v h' q => q)) E1052 (wd_12 hw) (wd_13 hw) (wd_15 hw) rfl (wd_14 hw) (wd_2 hw) (wd_16 hw) (by decide) pd_3 rfl rfl rfl (by decide) 0 (Nat.le_of_ble_eq_true rfl) (by decide) (by decide) (by decide) ?_
  rintro v1054 h1054 ⟨rfl, rfl⟩
  show W _ _ _ _ _ _ _ _ _ _ _ 2 6 14 #[.val (.int p0), .val (.int p1), .val (.int p2), .val (.int p3), .val (.ref o1049), .unset, .unset, .unset, .unset] [(.int (1 : Int32))]
  refine W.istore 16 at_14 rfl #[.val (.int p0), .val (.int p1), .val (.int p2), .val (.int p3), .val (.ref o1049), .val (.int (1 : Int32)), .unset, .unset, .unset] rfl ?_
  refine W.iloadN 17 at_16 rfl rfl ?_
  refine W.ldcI 19 at_17 rfl (wd_19 hw) ?_
  refine W.iand 20 at_19 rfl (p0 &&& (2147483647 : Int32)) rfl ?_
  refine W.bipush 22 at_20 rfl (6 : Int32) rfl ?_
  refine W.irem 23 at_22 rfl (by decide) (0 : Int32) hN ?_
  refine W.istore 25 at_23 rfl #[.val (.int p0), .val (.int p1), .val (.int p2), .val (.int p3), .val (.ref o1049), .val (.int (1 : Int32)), .val (.int (0 : Int32)), .unset, .unset] rfl ?_
  refine W.iload 27 at_25 rfl rfl ?_
  refine W.if_le 36 30 at_27 rfl rfl (fun _ => ?_) (fun hc => absurd hc (by decide))
  refine W.iload 38 at_36 rfl rfl ?_
  refine W.iconst 39 at_38 rfl (1 : Int32) rfl ?_
  refine W.icmp_le 48 42 at_39 rfl rfl (fun _ => ?_) (fun hc => absurd hc (by decide))
  refine W.iload 50 at_48 rfl rfl ?_
  refine W.iconst 51 at_50 rfl (2 : Int32) rfl ?_
  refine W.icmp_le 60 54 at_51 rfl rfl (fun _ => ?_) (fun hc => absurd hc (by decide))
  refine W.iload 62 at_60 rfl rfl ?_
  refine W.iconst 63 at_62 rfl (3 : Int32) rfl ?_
  refine W.icmp_le 72 66 at_63 rfl rfl (fun _ => ?_) (fun hc => absurd hc (by decide))
  refine W.iload 74 at_72 rfl rfl ?_
  refine W.iconst 75 at_74 rfl (4 : Int32) rfl ?_
  refine W.icmp_le 84 78 at_75 rfl rfl (fun _ => ?_) (fun hc => absurd hc (by decide))
  refine W.aload 86 at_84 rfl rfl rfl ?_
  refine W.callV (rest := []) (argsL := []) (a := o1049) 89 at_86 rfl (fun hn => (c_isE l Z a0 hw o1049 (0 : Int32) _ n0 hn G1052).post (P := fun r h' => r = some (.int (1 : Int32)) ∧ h' = _) (fun v h' q => q)) E1052 (wd_12 hw) (wd_13 hw) (wd_15 hw) rfl (wd_14 hw) (wd_2 hw) (wd_16 hw) (by decide) pd_3 rfl rfl rfl (by decide) 0 (Nat.le_of_ble_eq_true rfl) (by decide) (by decide) (by decide) ?_
  rintro v1055 h1055 ⟨rfl, rfl⟩
  show W _ _ _ _ _ _ _ _ _ _ _ 2 6 89 #[.val (.int p0), .val (.int p1), .val (.int p2), .val (.int p3), .val (.ref o1049), .val (.int (1 : Int32)), .val (.int (0 : Int32)), .unset, .unset] [(.int (1 : Int32))]
  refine W.istore 91 at_89 rfl #[.val (.int p0), .val (.int p1), .val (.int p2), .val (.int p3), .val (.ref o1049), .val (.int (1 : Int32)), .val (.int (0 : Int32)), .val (.int (1 : Int32)), .unset] rfl ?_
  refine W.iload 93 at_91 rfl rfl ?_
  refine W.if_eq 115 96 at_93 rfl rfl (fun hc => absurd hc (by decide)) (fun _ => ?_)
  refine W.iload 98 at_96 rfl rfl ?_
  refine W.iload 100 at_98 rfl rfl ?_
  refine W.if_ne 107 103 at_100 rfl rfl (fun hc => absurd (by decide) hc) (fun _ => ?_)
  refine W.iconst 104 at_103 rfl (1 : Int32) rfl ?_
  refine W.goto 108 at_104 rfl ?_
  refine W.icmp_ne 115 111 at_108 rfl rfl (fun hc => absurd (by decide) hc) (fun _ => ?_)
  refine W.iconst 112 at_111 rfl (1 : Int32) rfl ?_
  refine W.goto 116 at_112 rfl ?_
  refine W.istore 118 at_116 rfl #[.val (.int p0), .val (.int p1), .val (.int p2), .val (.int p3), .val (.ref o1049), .val (.int (1 : Int32)), .val (.int (0 : Int32)), .val (.int (1 : Int32)), .val (.int (1 : Int32))] rfl ?_
  refine W.iloadN 119 at_118 rfl rfl ?_
  refine W.iconst 120 at_119 rfl (1 : Int32) rfl ?_
  refine W.iand 121 at_120 rfl (p3 &&& (1 : Int32)) rfl ?_
  refine W.if_eq 149 124 at_121 rfl rfl ?_ ?_
  · intro hc1056
    refine W.iload 151 at_149 rfl rfl ?_
    exact W.ireturnN (t := .boolean) at_151 rfl (by simp) (1 : Int32) rfl rfl (by decide) (by decide)
  · intro hc1056
    refine W.aload 126 at_124 rfl rfl rfl ?_
    refine W.callV (rest := []) (argsL := []) (a := o1049) 129 at_126 rfl (fun hn => c_clr l Z a0 hw o1049 (0 : Int32) _ n0 hn ge1049 E1052 G1052) E1052 (wd_20 hw) (wd_21 hw) (wd_23 hw) rfl (wd_22 hw) (wd_2 hw) (wd_24 hw) (by decide) pd_2 rfl rfl rfl (by decide) 0 (Nat.le_of_ble_eq_true rfl) (by decide) (by decide) (by decide) ?_
    rintro v1057 h1057 ⟨rfl, E1057, G1057, K1057⟩
    show W _ _ _ _ _ _ _ _ _ _ _ 2 6 129 #[.val (.int p0), .val (.int p1), .val (.int p2), .val (.int p3), .val (.ref o1049), .val (.int (1 : Int32)), .val (.int (0 : Int32)), .val (.int (1 : Int32)), .val (.int (1 : Int32))] []
    refine W.iload 131 at_129 rfl rfl ?_
    refine W.if_eq 146 134 at_131 rfl rfl (fun hc => absurd hc (by decide)) (fun _ => ?_)
    refine W.aload 136 at_134 rfl rfl rfl ?_
    refine W.callV (rest := []) (argsL := []) (a := o1049) 139 at_136 rfl (fun hn => (c_isE l Z a0 hw o1049 (0 : Int32) _ n0 hn G1057).post (P := fun r h' => r = some (.int (1 : Int32)) ∧ h' = _) (fun v h' q => q)) E1057 (wd_12 hw) (wd_13 hw) (wd_15 hw) rfl (wd_14 hw) (wd_2 hw) (wd_16 hw) (by decide) pd_3 rfl rfl rfl (by decide) 0 (Nat.le_of_ble_eq_true rfl) (by decide) (by decide) (by decide) ?_
    rintro v1058 h1058 ⟨rfl, rfl⟩
    show W _ _ _ _ _ _ _ _ _ _ _ 2 6 139 #[.val (.int p0), .val (.int p1), .val (.int p2), .val (.int p3), .val (.ref o1049), .val (.int (1 : Int32)), .val (.int (0 : Int32)), .val (.int (1 : Int32)), .val (.int (1 : Int32))] [(.int (1 : Int32))]
    refine W.if_eq 146 142 at_139 rfl rfl (fun hc => absurd hc (by decide)) (fun _ => ?_)
    refine W.iconst 143 at_142 rfl (1 : Int32) rfl ?_
    refine W.goto 147 at_143 rfl ?_
    refine W.istore 149 at_147 rfl #[.val (.int p0), .val (.int p1), .val (.int p2), .val (.int p3), .val (.ref o1049), .val (.int (1 : Int32)), .val (.int (0 : Int32)), .val (.int (1 : Int32)), .val (.int (1 : Int32))] rfl ?_
    refine W.iload 151 at_149 rfl rfl ?_
    exact W.ireturnN (t := .boolean) at_151 rfl (by simp) (1 : Int32) rfl rfl (by decide) (by decide)
set_option maxRecDepth 65536 in
set_option maxHeartbeats 40000000 in
theorem law_1 (l : Launch) (Z : State) (a0 : Array Value) (hw : ∀ d ∈ tables_1, d.before a0 Z = true) (p0 p1 p2 p3 : Int32) (h : Heap) (n0 : Nat) (hn : n0 ≤ h.size) (hN : ((p0 &&& (2147483647 : Int32)) % (6 : Int32)) = (1 : Int32)) : ConW tables_1 l Z x code maxLocals ret room_1 #[(.int p0), (.int p1), (.int p2), (.int p3)] h n0 (fun r _ => r = some (.int 1)) := by
  refine ConW.of_W (Ls := #[.val (.int p0), .val (.int p1), .val (.int p2), .val (.int p3), .unset, .unset, .unset, .unset, .unset]) (plainFor_of_name pn_2) hn (fun m => by first | (simp [entryFrame, mkF, argsToLocals, Value.category, maxLocals]; done) | rfl) ?_
  refine W.new 3 at_0 rfl (wd_0 hw) (wd_1 hw) (wd_2 hw) (by decide) (by decide) ?_
  intro h1059 o1059 g1059 ge1059 X1059 K1059 E1059 D1059
  have f1060 : Fld _ _ o1059 "com/example/grackle/grackle/core/cluster/IntList" "values" "[I" .null := D1059 (Or.inl (wd_11 hw)) (ty := (.array .int)) (by decide)
  have f1061 : Fld _ _ o1059 "com/example/grackle/grackle/core/cluster/IntList" "size" "I" (.int (0 : Int32)) := D1059 (Or.inl (wd_18 hw)) (ty := .int) (by decide)
  show W _ _ _ _ _ _ _ _ _ _ _ 1 2 3 #[.val (.int p0), .val (.int p1), .val (.int p2), .val (.int p3), .unset, .unset, .unset, .unset, .unset] [(.ref o1059)]
  refine W.dup 4 at_3 rfl rfl ?_
  refine W.callInit (rest := [(.ref o1059)]) (argsL := []) (a := o1059) 7 at_4 rfl (fun hn => c_init l Z a0 hw o1059 _ n0 hn ge1059 E1059 f1060 f1061) rfl (wd_3 hw) (wd_4 hw) (wd_2 hw) (wd_5 hw) (by decide) pd_2 rfl rfl rfl (by decide) 1 (Nat.le_of_ble_eq_true rfl) (by decide) (by decide) (by decide) ?_
  rintro v1062 h1062 ⟨rfl, b1062, sz1062, gb1062, ne1062, E1062, F1062, G1062, A1062, K1062⟩
  have ne1063 : o1059 ≠ b1062 := Nat.ne_of_lt (Nat.lt_of_lt_of_le E1059.lt sz1062)
  show W _ _ _ _ _ _ _ _ _ _ _ 2 6 7 #[.val (.int p0), .val (.int p1), .val (.int p2), .val (.int p3), .unset, .unset, .unset, .unset, .unset] [(.ref o1059)]
  refine W.astore 9 at_7 rfl rfl #[.val (.int p0), .val (.int p1), .val (.int p2), .val (.int p3), .val (.ref o1059), .unset, .unset, .unset, .unset] rfl ?_
  refine W.aload 11 at_9 rfl rfl rfl ?_
  refine W.callV (rest := []) (argsL := []) (a := o1059) 14 at_11 rfl (fun hn => (c_isE l Z a0 hw o1059 (0 : Int32) _ n0 hn G1062).post (P := fun r h' => r = some (.int (1 : Int32)) ∧ h' = _) (fun v h' q => q)) E1062 (wd_12 hw) (wd_13 hw) (wd_15 hw) rfl (wd_14 hw) (wd_2 hw) (wd_16 hw) (by decide) pd_3 rfl rfl rfl (by decide) 0 (Nat.le_of_ble_eq_true rfl) (by decide) (by decide) (by decide) ?_
  rintro v1064 h1064 ⟨rfl, rfl⟩
  show W _ _ _ _ _ _ _ _ _ _ _ 2 6 14 #[.val (.int p0), .val (.int p1), .val (.int p2), .val (.int p3), .val (.ref o1059), .unset, .unset, .unset, .unset] [(.int (1 : Int32))]
  refine W.istore 16 at_14 rfl #[.val (.int p0), .val (.int p1), .val (.int p2), .val (.int p3), .val (.ref o1059), .val (.int (1 : Int32)), .unset, .unset, .unset] rfl ?_
  refine W.iloadN 17 at_16 rfl rfl ?_
  refine W.ldcI 19 at_17 rfl (wd_19 hw) ?_
  refine W.iand 20 at_19 rfl (p0 &&& (2147483647 : Int32)) rfl ?_
  refine W.bipush 22 at_20 rfl (6 : Int32) rfl ?_
  refine W.irem 23 at_22 rfl (by decide) (1 : Int32) hN ?_
  refine W.istore 25 at_23 rfl #[.val (.int p0), .val (.int p1), .val (.int p2), .val (.int p3), .val (.ref o1059), .val (.int (1 : Int32)), .val (.int (1 : Int32)), .unset, .unset] rfl ?_
  refine W.iload 27 at_25 rfl rfl ?_
  refine W.if_le 36 30 at_27 rfl rfl (fun hc => absurd (by decide) hc) (fun _ => ?_)
  refine W.aload 32 at_30 rfl rfl rfl ?_
  refine W.iloadN 33 at_32 rfl rfl ?_
  refine W.callV (rest := []) (argsL := [(.int p1)]) (a := o1059) 36 at_33 rfl (fun hn => c_add l Z a0 hw o1059 b1062 p1 (0 : Int32) (4 : Int32) _ 0 _ n0 hn ge1059 gb1062 ne1062 E1062 F1062 G1062 A1062 rfl (by decide) (by decide) (by decide) (Nat.le_of_ble_eq_true rfl)) E1062 (wd_25 hw) (wd_26 hw) (wd_28 hw) rfl (wd_27 hw) (wd_2 hw) (wd_29 hw) (by decide) pd_4 rfl rfl rfl (by decide) 0 (Nat.le_of_ble_eq_true rfl) (by decide) (by decide) (by decide) ?_
  rintro v1065 h1065 ⟨rfl, E1065, F1065, G1065, A1065, K1065⟩
  show W _ _ _ _ _ _ _ _ _ _ _ 2 6 36 #[.val (.int p0), .val (.int p1), .val (.int p2), .val (.int p3), .val (.ref o1059), .val (.int (1 : Int32)), .val (.int (1 : Int32)), .unset, .unset] []
  refine W.iload 38 at_36 rfl rfl ?_
  refine W.iconst 39 at_38 rfl (1 : Int32) rfl ?_
  refine W.icmp_le 48 42 at_39 rfl rfl (fun _ => ?_) (fun hc => absurd hc (by decide))
  refine W.iload 50 at_48 rfl rfl ?_
  refine W.iconst 51 at_50 rfl (2 : Int32) rfl ?_
  refine W.icmp_le 60 54 at_51 rfl rfl (fun _ => ?_) (fun hc => absurd hc (by decide))
  refine W.iload 62 at_60 rfl rfl ?_
  refine W.iconst 63 at_62 rfl (3 : Int32) rfl ?_
  refine W.icmp_le 72 66 at_63 rfl rfl (fun _ => ?_) (fun hc => absurd hc (by decide))
  refine W.iload 74 at_72 rfl rfl ?_
  refine W.iconst 75 at_74 rfl (4 : Int32) rfl ?_
  refine W.icmp_le 84 78 at_75 rfl rfl (fun _ => ?_) (fun hc => absurd hc (by decide))
  refine W.aload 86 at_84 rfl rfl rfl ?_
  refine W.callV (rest := []) (argsL := []) (a := o1059) 89 at_86 rfl (fun hn => (c_isE l Z a0 hw o1059 (1 : Int32) _ n0 hn (show Fld _ _ _ _ _ _ (.int (1 : Int32)) from G1065)).post (P := fun r h' => r = some (.int (0 : Int32)) ∧ h' = _) (fun v h' q => q)) E1065 (wd_12 hw) (wd_13 hw) (wd_15 hw) rfl (wd_14 hw) (wd_2 hw) (wd_16 hw) (by decide) pd_3 rfl rfl rfl (by decide) 0 (Nat.le_of_ble_eq_true rfl) (by decide) (by decide) (by decide) ?_
  rintro v1066 h1066 ⟨rfl, rfl⟩
  show W _ _ _ _ _ _ _ _ _ _ _ 2 6 89 #[.val (.int p0), .val (.int p1), .val (.int p2), .val (.int p3), .val (.ref o1059), .val (.int (1 : Int32)), .val (.int (1 : Int32)), .unset, .unset] [(.int (0 : Int32))]
  refine W.istore 91 at_89 rfl #[.val (.int p0), .val (.int p1), .val (.int p2), .val (.int p3), .val (.ref o1059), .val (.int (1 : Int32)), .val (.int (1 : Int32)), .val (.int (0 : Int32)), .unset] rfl ?_
  refine W.iload 93 at_91 rfl rfl ?_
  refine W.if_eq 115 96 at_93 rfl rfl (fun hc => absurd hc (by decide)) (fun _ => ?_)
  refine W.iload 98 at_96 rfl rfl ?_
  refine W.iload 100 at_98 rfl rfl ?_
  refine W.if_ne 107 103 at_100 rfl rfl (fun _ => ?_) (fun hc => absurd hc (by decide))
  refine W.iconst 108 at_107 rfl (0 : Int32) rfl ?_
  refine W.icmp_ne 115 111 at_108 rfl rfl (fun hc => absurd (by decide) hc) (fun _ => ?_)
  refine W.iconst 112 at_111 rfl (1 : Int32) rfl ?_
  refine W.goto 116 at_112 rfl ?_
  refine W.istore 118 at_116 rfl #[.val (.int p0), .val (.int p1), .val (.int p2), .val (.int p3), .val (.ref o1059), .val (.int (1 : Int32)), .val (.int (1 : Int32)), .val (.int (0 : Int32)), .val (.int (1 : Int32))] rfl ?_
  refine W.iloadN 119 at_118 rfl rfl ?_
  refine W.iconst 120 at_119 rfl (1 : Int32) rfl ?_
  refine W.iand 121 at_120 rfl (p3 &&& (1 : Int32)) rfl ?_
  refine W.if_eq 149 124 at_121 rfl rfl ?_ ?_
  · intro hc1067
    refine W.iload 151 at_149 rfl rfl ?_
    exact W.ireturnN (t := .boolean) at_151 rfl (by simp) (1 : Int32) rfl rfl (by decide) (by decide)
  · intro hc1067
    refine W.aload 126 at_124 rfl rfl rfl ?_
    refine W.callV (rest := []) (argsL := []) (a := o1059) 129 at_126 rfl (fun hn => c_clr l Z a0 hw o1059 (1 : Int32) _ n0 hn ge1059 E1065 (show Fld _ _ _ _ _ _ (.int (1 : Int32)) from G1065)) E1065 (wd_20 hw) (wd_21 hw) (wd_23 hw) rfl (wd_22 hw) (wd_2 hw) (wd_24 hw) (by decide) pd_2 rfl rfl rfl (by decide) 0 (Nat.le_of_ble_eq_true rfl) (by decide) (by decide) (by decide) ?_
    rintro v1068 h1068 ⟨rfl, E1068, G1068, K1068⟩
    show W _ _ _ _ _ _ _ _ _ _ _ 2 6 129 #[.val (.int p0), .val (.int p1), .val (.int p2), .val (.int p3), .val (.ref o1059), .val (.int (1 : Int32)), .val (.int (1 : Int32)), .val (.int (0 : Int32)), .val (.int (1 : Int32))] []
    refine W.iload 131 at_129 rfl rfl ?_
    refine W.if_eq 146 134 at_131 rfl rfl (fun hc => absurd hc (by decide)) (fun _ => ?_)
    refine W.aload 136 at_134 rfl rfl rfl ?_
    refine W.callV (rest := []) (argsL := []) (a := o1059) 139 at_136 rfl (fun hn => (c_isE l Z a0 hw o1059 (0 : Int32) _ n0 hn G1068).post (P := fun r h' => r = some (.int (1 : Int32)) ∧ h' = _) (fun v h' q => q)) E1068 (wd_12 hw) (wd_13 hw) (wd_15 hw) rfl (wd_14 hw) (wd_2 hw) (wd_16 hw) (by decide) pd_3 rfl rfl rfl (by decide) 0 (Nat.le_of_ble_eq_true rfl) (by decide) (by decide) (by decide) ?_
    rintro v1069 h1069 ⟨rfl, rfl⟩
    show W _ _ _ _ _ _ _ _ _ _ _ 2 6 139 #[.val (.int p0), .val (.int p1), .val (.int p2), .val (.int p3), .val (.ref o1059), .val (.int (1 : Int32)), .val (.int (1 : Int32)), .val (.int (0 : Int32)), .val (.int (1 : Int32))] [(.int (1 : Int32))]
    refine W.if_eq 146 142 at_139 rfl rfl (fun hc => absurd hc (by decide)) (fun _ => ?_)
    refine W.iconst 143 at_142 rfl (1 : Int32) rfl ?_
    refine W.goto 147 at_143 rfl ?_
    refine W.istore 149 at_147 rfl #[.val (.int p0), .val (.int p1), .val (.int p2), .val (.int p3), .val (.ref o1059), .val (.int (1 : Int32)), .val (.int (1 : Int32)), .val (.int (0 : Int32)), .val (.int (1 : Int32))] rfl ?_
    refine W.iload 151 at_149 rfl rfl ?_
    exact W.ireturnN (t := .boolean) at_151 rfl (by simp) (1 : Int32) rfl rfl (by decide) (by decide)
set_option maxRecDepth 65536 in
set_option maxHeartbeats 40000000 in
theorem law_2 (l : Launch) (Z : State) (a0 : Array Value) (hw : ∀ d ∈ tables_1, d.before a0 Z = true) (p0 p1 p2 p3 : Int32) (h : Heap) (n0 : Nat) (hn : n0 ≤ h.size) (hN : ((p0 &&& (2147483647 : Int32)) % (6 : Int32)) = (2 : Int32)) : ConW tables_1 l Z x code maxLocals ret room_1 #[(.int p0), (.int p1), (.int p2), (.int p3)] h n0 (fun r _ => r = some (.int 1)) := by
  refine ConW.of_W (Ls := #[.val (.int p0), .val (.int p1), .val (.int p2), .val (.int p3), .unset, .unset, .unset, .unset, .unset]) (plainFor_of_name pn_2) hn (fun m => by first | (simp [entryFrame, mkF, argsToLocals, Value.category, maxLocals]; done) | rfl) ?_
  refine W.new 3 at_0 rfl (wd_0 hw) (wd_1 hw) (wd_2 hw) (by decide) (by decide) ?_
  intro h1070 o1070 g1070 ge1070 X1070 K1070 E1070 D1070
  have f1071 : Fld _ _ o1070 "com/example/grackle/grackle/core/cluster/IntList" "values" "[I" .null := D1070 (Or.inl (wd_11 hw)) (ty := (.array .int)) (by decide)
  have f1072 : Fld _ _ o1070 "com/example/grackle/grackle/core/cluster/IntList" "size" "I" (.int (0 : Int32)) := D1070 (Or.inl (wd_18 hw)) (ty := .int) (by decide)
  show W _ _ _ _ _ _ _ _ _ _ _ 1 2 3 #[.val (.int p0), .val (.int p1), .val (.int p2), .val (.int p3), .unset, .unset, .unset, .unset, .unset] [(.ref o1070)]
  refine W.dup 4 at_3 rfl rfl ?_
  refine W.callInit (rest := [(.ref o1070)]) (argsL := []) (a := o1070) 7 at_4 rfl (fun hn => c_init l Z a0 hw o1070 _ n0 hn ge1070 E1070 f1071 f1072) rfl (wd_3 hw) (wd_4 hw) (wd_2 hw) (wd_5 hw) (by decide) pd_2 rfl rfl rfl (by decide) 1 (Nat.le_of_ble_eq_true rfl) (by decide) (by decide) (by decide) ?_
  rintro v1073 h1073 ⟨rfl, b1073, sz1073, gb1073, ne1073, E1073, F1073, G1073, A1073, K1073⟩
  have ne1074 : o1070 ≠ b1073 := Nat.ne_of_lt (Nat.lt_of_lt_of_le E1070.lt sz1073)
  show W _ _ _ _ _ _ _ _ _ _ _ 2 6 7 #[.val (.int p0), .val (.int p1), .val (.int p2), .val (.int p3), .unset, .unset, .unset, .unset, .unset] [(.ref o1070)]
  refine W.astore 9 at_7 rfl rfl #[.val (.int p0), .val (.int p1), .val (.int p2), .val (.int p3), .val (.ref o1070), .unset, .unset, .unset, .unset] rfl ?_
  refine W.aload 11 at_9 rfl rfl rfl ?_
  refine W.callV (rest := []) (argsL := []) (a := o1070) 14 at_11 rfl (fun hn => (c_isE l Z a0 hw o1070 (0 : Int32) _ n0 hn G1073).post (P := fun r h' => r = some (.int (1 : Int32)) ∧ h' = _) (fun v h' q => q)) E1073 (wd_12 hw) (wd_13 hw) (wd_15 hw) rfl (wd_14 hw) (wd_2 hw) (wd_16 hw) (by decide) pd_3 rfl rfl rfl (by decide) 0 (Nat.le_of_ble_eq_true rfl) (by decide) (by decide) (by decide) ?_
  rintro v1075 h1075 ⟨rfl, rfl⟩
  show W _ _ _ _ _ _ _ _ _ _ _ 2 6 14 #[.val (.int p0), .val (.int p1), .val (.int p2), .val (.int p3), .val (.ref o1070), .unset, .unset, .unset, .unset] [(.int (1 : Int32))]
  refine W.istore 16 at_14 rfl #[.val (.int p0), .val (.int p1), .val (.int p2), .val (.int p3), .val (.ref o1070), .val (.int (1 : Int32)), .unset, .unset, .unset] rfl ?_
  refine W.iloadN 17 at_16 rfl rfl ?_
  refine W.ldcI 19 at_17 rfl (wd_19 hw) ?_
  refine W.iand 20 at_19 rfl (p0 &&& (2147483647 : Int32)) rfl ?_
  refine W.bipush 22 at_20 rfl (6 : Int32) rfl ?_
  refine W.irem 23 at_22 rfl (by decide) (2 : Int32) hN ?_
  refine W.istore 25 at_23 rfl #[.val (.int p0), .val (.int p1), .val (.int p2), .val (.int p3), .val (.ref o1070), .val (.int (1 : Int32)), .val (.int (2 : Int32)), .unset, .unset] rfl ?_
  refine W.iload 27 at_25 rfl rfl ?_
  refine W.if_le 36 30 at_27 rfl rfl (fun hc => absurd (by decide) hc) (fun _ => ?_)
  refine W.aload 32 at_30 rfl rfl rfl ?_
  refine W.iloadN 33 at_32 rfl rfl ?_
  refine W.callV (rest := []) (argsL := [(.int p1)]) (a := o1070) 36 at_33 rfl (fun hn => c_add l Z a0 hw o1070 b1073 p1 (0 : Int32) (4 : Int32) _ 0 _ n0 hn ge1070 gb1073 ne1073 E1073 F1073 G1073 A1073 rfl (by decide) (by decide) (by decide) (Nat.le_of_ble_eq_true rfl)) E1073 (wd_25 hw) (wd_26 hw) (wd_28 hw) rfl (wd_27 hw) (wd_2 hw) (wd_29 hw) (by decide) pd_4 rfl rfl rfl (by decide) 0 (Nat.le_of_ble_eq_true rfl) (by decide) (by decide) (by decide) ?_
  rintro v1076 h1076 ⟨rfl, E1076, F1076, G1076, A1076, K1076⟩
  show W _ _ _ _ _ _ _ _ _ _ _ 2 6 36 #[.val (.int p0), .val (.int p1), .val (.int p2), .val (.int p3), .val (.ref o1070), .val (.int (1 : Int32)), .val (.int (2 : Int32)), .unset, .unset] []
  refine W.iload 38 at_36 rfl rfl ?_
  refine W.iconst 39 at_38 rfl (1 : Int32) rfl ?_
  refine W.icmp_le 48 42 at_39 rfl rfl (fun hc => absurd (by decide) hc) (fun _ => ?_)
  refine W.aload 44 at_42 rfl rfl rfl ?_
  refine W.iloadN 45 at_44 rfl rfl ?_
  refine W.callV (rest := []) (argsL := [(.int p2)]) (a := o1070) 48 at_45 rfl (fun hn => c_add l Z a0 hw o1070 b1073 p2 (1 : Int32) (4 : Int32) _ 1 _ n0 hn ge1070 gb1073 ne1073 E1076 F1076 (show Fld _ _ _ _ _ _ (.int (1 : Int32)) from G1076) (show Ary _ _ _ .int [(.int p1), (.int (0 : Int32)), (.int (0 : Int32)), (.int (0 : Int32))] from A1076) rfl (by decide) (by decide) (by decide) (Nat.le_of_ble_eq_true rfl)) E1076 (wd_25 hw) (wd_26 hw) (wd_28 hw) rfl (wd_27 hw) (wd_2 hw) (wd_29 hw) (by decide) pd_4 rfl rfl rfl (by decide) 0 (Nat.le_of_ble_eq_true rfl) (by decide) (by decide) (by decide) ?_
  rintro v1077 h1077 ⟨rfl, E1077, F1077, G1077, A1077, K1077⟩
  show W _ _ _ _ _ _ _ _ _ _ _ 2 6 48 #[.val (.int p0), .val (.int p1), .val (.int p2), .val (.int p3), .val (.ref o1070), .val (.int (1 : Int32)), .val (.int (2 : Int32)), .unset, .unset] []
  refine W.iload 50 at_48 rfl rfl ?_
  refine W.iconst 51 at_50 rfl (2 : Int32) rfl ?_
  refine W.icmp_le 60 54 at_51 rfl rfl (fun _ => ?_) (fun hc => absurd hc (by decide))
  refine W.iload 62 at_60 rfl rfl ?_
  refine W.iconst 63 at_62 rfl (3 : Int32) rfl ?_
  refine W.icmp_le 72 66 at_63 rfl rfl (fun _ => ?_) (fun hc => absurd hc (by decide))
  refine W.iload 74 at_72 rfl rfl ?_
  refine W.iconst 75 at_74 rfl (4 : Int32) rfl ?_
  refine W.icmp_le 84 78 at_75 rfl rfl (fun _ => ?_) (fun hc => absurd hc (by decide))
  refine W.aload 86 at_84 rfl rfl rfl ?_
  refine W.callV (rest := []) (argsL := []) (a := o1070) 89 at_86 rfl (fun hn => (c_isE l Z a0 hw o1070 (2 : Int32) _ n0 hn (show Fld _ _ _ _ _ _ (.int (2 : Int32)) from G1077)).post (P := fun r h' => r = some (.int (0 : Int32)) ∧ h' = _) (fun v h' q => q)) E1077 (wd_12 hw) (wd_13 hw) (wd_15 hw) rfl (wd_14 hw) (wd_2 hw) (wd_16 hw) (by decide) pd_3 rfl rfl rfl (by decide) 0 (Nat.le_of_ble_eq_true rfl) (by decide) (by decide) (by decide) ?_
  rintro v1078 h1078 ⟨rfl, rfl⟩
  show W _ _ _ _ _ _ _ _ _ _ _ 2 6 89 #[.val (.int p0), .val (.int p1), .val (.int p2), .val (.int p3), .val (.ref o1070), .val (.int (1 : Int32)), .val (.int (2 : Int32)), .unset, .unset] [(.int (0 : Int32))]
  refine W.istore 91 at_89 rfl #[.val (.int p0), .val (.int p1), .val (.int p2), .val (.int p3), .val (.ref o1070), .val (.int (1 : Int32)), .val (.int (2 : Int32)), .val (.int (0 : Int32)), .unset] rfl ?_
  refine W.iload 93 at_91 rfl rfl ?_
  refine W.if_eq 115 96 at_93 rfl rfl (fun hc => absurd hc (by decide)) (fun _ => ?_)
  refine W.iload 98 at_96 rfl rfl ?_
  refine W.iload 100 at_98 rfl rfl ?_
  refine W.if_ne 107 103 at_100 rfl rfl (fun _ => ?_) (fun hc => absurd hc (by decide))
  refine W.iconst 108 at_107 rfl (0 : Int32) rfl ?_
  refine W.icmp_ne 115 111 at_108 rfl rfl (fun hc => absurd (by decide) hc) (fun _ => ?_)
  refine W.iconst 112 at_111 rfl (1 : Int32) rfl ?_
  refine W.goto 116 at_112 rfl ?_
  refine W.istore 118 at_116 rfl #[.val (.int p0), .val (.int p1), .val (.int p2), .val (.int p3), .val (.ref o1070), .val (.int (1 : Int32)), .val (.int (2 : Int32)), .val (.int (0 : Int32)), .val (.int (1 : Int32))] rfl ?_
  refine W.iloadN 119 at_118 rfl rfl ?_
  refine W.iconst 120 at_119 rfl (1 : Int32) rfl ?_
  refine W.iand 121 at_120 rfl (p3 &&& (1 : Int32)) rfl ?_
  refine W.if_eq 149 124 at_121 rfl rfl ?_ ?_
  · intro hc1079
    refine W.iload 151 at_149 rfl rfl ?_
    exact W.ireturnN (t := .boolean) at_151 rfl (by simp) (1 : Int32) rfl rfl (by decide) (by decide)
  · intro hc1079
    refine W.aload 126 at_124 rfl rfl rfl ?_
    refine W.callV (rest := []) (argsL := []) (a := o1070) 129 at_126 rfl (fun hn => c_clr l Z a0 hw o1070 (2 : Int32) _ n0 hn ge1070 E1077 (show Fld _ _ _ _ _ _ (.int (2 : Int32)) from G1077)) E1077 (wd_20 hw) (wd_21 hw) (wd_23 hw) rfl (wd_22 hw) (wd_2 hw) (wd_24 hw) (by decide) pd_2 rfl rfl rfl (by decide) 0 (Nat.le_of_ble_eq_true rfl) (by decide) (by decide) (by decide) ?_
    rintro v1080 h1080 ⟨rfl, E1080, G1080, K1080⟩
    show W _ _ _ _ _ _ _ _ _ _ _ 2 6 129 #[.val (.int p0), .val (.int p1), .val (.int p2), .val (.int p3), .val (.ref o1070), .val (.int (1 : Int32)), .val (.int (2 : Int32)), .val (.int (0 : Int32)), .val (.int (1 : Int32))] []
    refine W.iload 131 at_129 rfl rfl ?_
    refine W.if_eq 146 134 at_131 rfl rfl (fun hc => absurd hc (by decide)) (fun _ => ?_)
    refine W.aload 136 at_134 rfl rfl rfl ?_
    refine W.callV (rest := []) (argsL := []) (a := o1070) 139 at_136 rfl (fun hn => (c_isE l Z a0 hw o1070 (0 : Int32) _ n0 hn G1080).post (P := fun r h' => r = some (.int (1 : Int32)) ∧ h' = _) (fun v h' q => q)) E1080 (wd_12 hw) (wd_13 hw) (wd_15 hw) rfl (wd_14 hw) (wd_2 hw) (wd_16 hw) (by decide) pd_3 rfl rfl rfl (by decide) 0 (Nat.le_of_ble_eq_true rfl) (by decide) (by decide) (by decide) ?_
    rintro v1081 h1081 ⟨rfl, rfl⟩
    show W _ _ _ _ _ _ _ _ _ _ _ 2 6 139 #[.val (.int p0), .val (.int p1), .val (.int p2), .val (.int p3), .val (.ref o1070), .val (.int (1 : Int32)), .val (.int (2 : Int32)), .val (.int (0 : Int32)), .val (.int (1 : Int32))] [(.int (1 : Int32))]
    refine W.if_eq 146 142 at_139 rfl rfl (fun hc => absurd hc (by decide)) (fun _ => ?_)
    refine W.iconst 143 at_142 rfl (1 : Int32) rfl ?_
    refine W.goto 147 at_143 rfl ?_
    refine W.istore 149 at_147 rfl #[.val (.int p0), .val (.int p1), .val (.int p2), .val (.int p3), .val (.ref o1070), .val (.int (1 : Int32)), .val (.int (2 : Int32)), .val (.int (0 : Int32)), .val (.int (1 : Int32))] rfl ?_
    refine W.iload 151 at_149 rfl rfl ?_
    exact W.ireturnN (t := .boolean) at_151 rfl (by simp) (1 : Int32) rfl rfl (by decide) (by decide)
set_option maxRecDepth 65536 in
set_option maxHeartbeats 40000000 in
theorem law_3 (l : Launch) (Z : State) (a0 : Array Value) (hw : ∀ d ∈ tables_1, d.before a0 Z = true) (p0 p1 p2 p3 : Int32) (h : Heap) (n0 : Nat) (hn : n0 ≤ h.size) (hN : ((p0 &&& (2147483647 : Int32)) % (6 : Int32)) = (3 : Int32)) : ConW tables_1 l Z x code maxLocals ret room_1 #[(.int p0), (.int p1), (.int p2), (.int p3)] h n0 (fun r _ => r = some (.int 1)) := by
  refine ConW.of_W (Ls := #[.val (.int p0), .val (.int p1), .val (.int p2), .val (.int p3), .unset, .unset, .unset, .unset, .unset]) (plainFor_of_name pn_2) hn (fun m => by first | (simp [entryFrame, mkF, argsToLocals, Value.category, maxLocals]; done) | rfl) ?_
  refine W.new 3 at_0 rfl (wd_0 hw) (wd_1 hw) (wd_2 hw) (by decide) (by decide) ?_
  intro h1082 o1082 g1082 ge1082 X1082 K1082 E1082 D1082
  have f1083 : Fld _ _ o1082 "com/example/grackle/grackle/core/cluster/IntList" "values" "[I" .null := D1082 (Or.inl (wd_11 hw)) (ty := (.array .int)) (by decide)
  have f1084 : Fld _ _ o1082 "com/example/grackle/grackle/core/cluster/IntList" "size" "I" (.int (0 : Int32)) := D1082 (Or.inl (wd_18 hw)) (ty := .int) (by decide)
  show W _ _ _ _ _ _ _ _ _ _ _ 1 2 3 #[.val (.int p0), .val (.int p1), .val (.int p2), .val (.int p3), .unset, .unset, .unset, .unset, .unset] [(.ref o1082)]
  refine W.dup 4 at_3 rfl rfl ?_
  refine W.callInit (rest := [(.ref o1082)]) (argsL := []) (a := o1082) 7 at_4 rfl (fun hn => c_init l Z a0 hw o1082 _ n0 hn ge1082 E1082 f1083 f1084) rfl (wd_3 hw) (wd_4 hw) (wd_2 hw) (wd_5 hw) (by decide) pd_2 rfl rfl rfl (by decide) 1 (Nat.le_of_ble_eq_true rfl) (by decide) (by decide) (by decide) ?_
  rintro v1085 h1085 ⟨rfl, b1085, sz1085, gb1085, ne1085, E1085, F1085, G1085, A1085, K1085⟩
  have ne1086 : o1082 ≠ b1085 := Nat.ne_of_lt (Nat.lt_of_lt_of_le E1082.lt sz1085)
  show W _ _ _ _ _ _ _ _ _ _ _ 2 6 7 #[.val (.int p0), .val (.int p1), .val (.int p2), .val (.int p3), .unset, .unset, .unset, .unset, .unset] [(.ref o1082)]
  refine W.astore 9 at_7 rfl rfl #[.val (.int p0), .val (.int p1), .val (.int p2), .val (.int p3), .val (.ref o1082), .unset, .unset, .unset, .unset] rfl ?_
  refine W.aload 11 at_9 rfl rfl rfl ?_
  refine W.callV (rest := []) (argsL := []) (a := o1082) 14 at_11 rfl (fun hn => (c_isE l Z a0 hw o1082 (0 : Int32) _ n0 hn G1085).post (P := fun r h' => r = some (.int (1 : Int32)) ∧ h' = _) (fun v h' q => q)) E1085 (wd_12 hw) (wd_13 hw) (wd_15 hw) rfl (wd_14 hw) (wd_2 hw) (wd_16 hw) (by decide) pd_3 rfl rfl rfl (by decide) 0 (Nat.le_of_ble_eq_true rfl) (by decide) (by decide) (by decide) ?_
  rintro v1087 h1087 ⟨rfl, rfl⟩
  show W _ _ _ _ _ _ _ _ _ _ _ 2 6 14 #[.val (.int p0), .val (.int p1), .val (.int p2), .val (.int p3), .val (.ref o1082), .unset, .unset, .unset, .unset] [(.int (1 : Int32))]
  refine W.istore 16 at_14 rfl #[.val (.int p0), .val (.int p1), .val (.int p2), .val (.int p3), .val (.ref o1082), .val (.int (1 : Int32)), .unset, .unset, .unset] rfl ?_
  refine W.iloadN 17 at_16 rfl rfl ?_
  refine W.ldcI 19 at_17 rfl (wd_19 hw) ?_
  refine W.iand 20 at_19 rfl (p0 &&& (2147483647 : Int32)) rfl ?_
  refine W.bipush 22 at_20 rfl (6 : Int32) rfl ?_
  refine W.irem 23 at_22 rfl (by decide) (3 : Int32) hN ?_
  refine W.istore 25 at_23 rfl #[.val (.int p0), .val (.int p1), .val (.int p2), .val (.int p3), .val (.ref o1082), .val (.int (1 : Int32)), .val (.int (3 : Int32)), .unset, .unset] rfl ?_
  refine W.iload 27 at_25 rfl rfl ?_
  refine W.if_le 36 30 at_27 rfl rfl (fun hc => absurd (by decide) hc) (fun _ => ?_)
  refine W.aload 32 at_30 rfl rfl rfl ?_
  refine W.iloadN 33 at_32 rfl rfl ?_
  refine W.callV (rest := []) (argsL := [(.int p1)]) (a := o1082) 36 at_33 rfl (fun hn => c_add l Z a0 hw o1082 b1085 p1 (0 : Int32) (4 : Int32) _ 0 _ n0 hn ge1082 gb1085 ne1085 E1085 F1085 G1085 A1085 rfl (by decide) (by decide) (by decide) (Nat.le_of_ble_eq_true rfl)) E1085 (wd_25 hw) (wd_26 hw) (wd_28 hw) rfl (wd_27 hw) (wd_2 hw) (wd_29 hw) (by decide) pd_4 rfl rfl rfl (by decide) 0 (Nat.le_of_ble_eq_true rfl) (by decide) (by decide) (by decide) ?_
  rintro v1088 h1088 ⟨rfl, E1088, F1088, G1088, A1088, K1088⟩
  show W _ _ _ _ _ _ _ _ _ _ _ 2 6 36 #[.val (.int p0), .val (.int p1), .val (.int p2), .val (.int p3), .val (.ref o1082), .val (.int (1 : Int32)), .val (.int (3 : Int32)), .unset, .unset] []
  refine W.iload 38 at_36 rfl rfl ?_
  refine W.iconst 39 at_38 rfl (1 : Int32) rfl ?_
  refine W.icmp_le 48 42 at_39 rfl rfl (fun hc => absurd (by decide) hc) (fun _ => ?_)
  refine W.aload 44 at_42 rfl rfl rfl ?_
  refine W.iloadN 45 at_44 rfl rfl ?_
  refine W.callV (rest := []) (argsL := [(.int p2)]) (a := o1082) 48 at_45 rfl (fun hn => c_add l Z a0 hw o1082 b1085 p2 (1 : Int32) (4 : Int32) _ 1 _ n0 hn ge1082 gb1085 ne1085 E1088 F1088 (show Fld _ _ _ _ _ _ (.int (1 : Int32)) from G1088) (show Ary _ _ _ .int [(.int p1), (.int (0 : Int32)), (.int (0 : Int32)), (.int (0 : Int32))] from A1088) rfl (by decide) (by decide) (by decide) (Nat.le_of_ble_eq_true rfl)) E1088 (wd_25 hw) (wd_26 hw) (wd_28 hw) rfl (wd_27 hw) (wd_2 hw) (wd_29 hw) (by decide) pd_4 rfl rfl rfl (by decide) 0 (Nat.le_of_ble_eq_true rfl) (by decide) (by decide) (by decide) ?_
  rintro v1089 h1089 ⟨rfl, E1089, F1089, G1089, A1089, K1089⟩
  show W _ _ _ _ _ _ _ _ _ _ _ 2 6 48 #[.val (.int p0), .val (.int p1), .val (.int p2), .val (.int p3), .val (.ref o1082), .val (.int (1 : Int32)), .val (.int (3 : Int32)), .unset, .unset] []
  refine W.iload 50 at_48 rfl rfl ?_
  refine W.iconst 51 at_50 rfl (2 : Int32) rfl ?_
  refine W.icmp_le 60 54 at_51 rfl rfl (fun hc => absurd (by decide) hc) (fun _ => ?_)
  refine W.aload 56 at_54 rfl rfl rfl ?_
  refine W.iloadN 57 at_56 rfl rfl ?_
  refine W.callV (rest := []) (argsL := [(.int p1)]) (a := o1082) 60 at_57 rfl (fun hn => c_add l Z a0 hw o1082 b1085 p1 (2 : Int32) (4 : Int32) _ 2 _ n0 hn ge1082 gb1085 ne1085 E1089 F1089 (show Fld _ _ _ _ _ _ (.int (2 : Int32)) from G1089) (show Ary _ _ _ .int [(.int p1), (.int p2), (.int (0 : Int32)), (.int (0 : Int32))] from A1089) rfl (by decide) (by decide) (by decide) (Nat.le_of_ble_eq_true rfl)) E1089 (wd_25 hw) (wd_26 hw) (wd_28 hw) rfl (wd_27 hw) (wd_2 hw) (wd_29 hw) (by decide) pd_4 rfl rfl rfl (by decide) 0 (Nat.le_of_ble_eq_true rfl) (by decide) (by decide) (by decide) ?_
  rintro v1090 h1090 ⟨rfl, E1090, F1090, G1090, A1090, K1090⟩
  show W _ _ _ _ _ _ _ _ _ _ _ 2 6 60 #[.val (.int p0), .val (.int p1), .val (.int p2), .val (.int p3), .val (.ref o1082), .val (.int (1 : Int32)), .val (.int (3 : Int32)), .unset, .unset] []
  refine W.iload 62 at_60 rfl rfl ?_
  refine W.iconst 63 at_62 rfl (3 : Int32) rfl ?_
  refine W.icmp_le 72 66 at_63 rfl rfl (fun _ => ?_) (fun hc => absurd hc (by decide))
  refine W.iload 74 at_72 rfl rfl ?_
  refine W.iconst 75 at_74 rfl (4 : Int32) rfl ?_
  refine W.icmp_le 84 78 at_75 rfl rfl (fun _ => ?_) (fun hc => absurd hc (by decide))
  refine W.aload 86 at_84 rfl rfl rfl ?_
  refine W.callV (rest := []) (argsL := []) (a := o1082) 89 at_86 rfl (fun hn => (c_isE l Z a0 hw o1082 (3 : Int32) _ n0 hn (show Fld _ _ _ _ _ _ (.int (3 : Int32)) from G1090)).post (P := fun r h' => r = some (.int (0 : Int32)) ∧ h' = _) (fun v h' q => q)) E1090 (wd_12 hw) (wd_13 hw) (wd_15 hw) rfl (wd_14 hw) (wd_2 hw) (wd_16 hw) (by decide) pd_3 rfl rfl rfl (by decide) 0 (Nat.le_of_ble_eq_true rfl) (by decide) (by decide) (by decide) ?_
  rintro v1091 h1091 ⟨rfl, rfl⟩
  show W _ _ _ _ _ _ _ _ _ _ _ 2 6 89 #[.val (.int p0), .val (.int p1), .val (.int p2), .val (.int p3), .val (.ref o1082), .val (.int (1 : Int32)), .val (.int (3 : Int32)), .unset, .unset] [(.int (0 : Int32))]
  refine W.istore 91 at_89 rfl #[.val (.int p0), .val (.int p1), .val (.int p2), .val (.int p3), .val (.ref o1082), .val (.int (1 : Int32)), .val (.int (3 : Int32)), .val (.int (0 : Int32)), .unset] rfl ?_
  refine W.iload 93 at_91 rfl rfl ?_
  refine W.if_eq 115 96 at_93 rfl rfl (fun hc => absurd hc (by decide)) (fun _ => ?_)
  refine W.iload 98 at_96 rfl rfl ?_
  refine W.iload 100 at_98 rfl rfl ?_
  refine W.if_ne 107 103 at_100 rfl rfl (fun _ => ?_) (fun hc => absurd hc (by decide))
  refine W.iconst 108 at_107 rfl (0 : Int32) rfl ?_
  refine W.icmp_ne 115 111 at_108 rfl rfl (fun hc => absurd (by decide) hc) (fun _ => ?_)
  refine W.iconst 112 at_111 rfl (1 : Int32) rfl ?_
  refine W.goto 116 at_112 rfl ?_
  refine W.istore 118 at_116 rfl #[.val (.int p0), .val (.int p1), .val (.int p2), .val (.int p3), .val (.ref o1082), .val (.int (1 : Int32)), .val (.int (3 : Int32)), .val (.int (0 : Int32)), .val (.int (1 : Int32))] rfl ?_
  refine W.iloadN 119 at_118 rfl rfl ?_
  refine W.iconst 120 at_119 rfl (1 : Int32) rfl ?_
  refine W.iand 121 at_120 rfl (p3 &&& (1 : Int32)) rfl ?_
  refine W.if_eq 149 124 at_121 rfl rfl ?_ ?_
  · intro hc1092
    refine W.iload 151 at_149 rfl rfl ?_
    exact W.ireturnN (t := .boolean) at_151 rfl (by simp) (1 : Int32) rfl rfl (by decide) (by decide)
  · intro hc1092
    refine W.aload 126 at_124 rfl rfl rfl ?_
    refine W.callV (rest := []) (argsL := []) (a := o1082) 129 at_126 rfl (fun hn => c_clr l Z a0 hw o1082 (3 : Int32) _ n0 hn ge1082 E1090 (show Fld _ _ _ _ _ _ (.int (3 : Int32)) from G1090)) E1090 (wd_20 hw) (wd_21 hw) (wd_23 hw) rfl (wd_22 hw) (wd_2 hw) (wd_24 hw) (by decide) pd_2 rfl rfl rfl (by decide) 0 (Nat.le_of_ble_eq_true rfl) (by decide) (by decide) (by decide) ?_
    rintro v1093 h1093 ⟨rfl, E1093, G1093, K1093⟩
    show W _ _ _ _ _ _ _ _ _ _ _ 2 6 129 #[.val (.int p0), .val (.int p1), .val (.int p2), .val (.int p3), .val (.ref o1082), .val (.int (1 : Int32)), .val (.int (3 : Int32)), .val (.int (0 : Int32)), .val (.int (1 : Int32))] []
    refine W.iload 131 at_129 rfl rfl ?_
    refine W.if_eq 146 134 at_131 rfl rfl (fun hc => absurd hc (by decide)) (fun _ => ?_)
    refine W.aload 136 at_134 rfl rfl rfl ?_
    refine W.callV (rest := []) (argsL := []) (a := o1082) 139 at_136 rfl (fun hn => (c_isE l Z a0 hw o1082 (0 : Int32) _ n0 hn G1093).post (P := fun r h' => r = some (.int (1 : Int32)) ∧ h' = _) (fun v h' q => q)) E1093 (wd_12 hw) (wd_13 hw) (wd_15 hw) rfl (wd_14 hw) (wd_2 hw) (wd_16 hw) (by decide) pd_3 rfl rfl rfl (by decide) 0 (Nat.le_of_ble_eq_true rfl) (by decide) (by decide) (by decide) ?_
    rintro v1094 h1094 ⟨rfl, rfl⟩
    show W _ _ _ _ _ _ _ _ _ _ _ 2 6 139 #[.val (.int p0), .val (.int p1), .val (.int p2), .val (.int p3), .val (.ref o1082), .val (.int (1 : Int32)), .val (.int (3 : Int32)), .val (.int (0 : Int32)), .val (.int (1 : Int32))] [(.int (1 : Int32))]
    refine W.if_eq 146 142 at_139 rfl rfl (fun hc => absurd hc (by decide)) (fun _ => ?_)
    refine W.iconst 143 at_142 rfl (1 : Int32) rfl ?_
    refine W.goto 147 at_143 rfl ?_
    refine W.istore 149 at_147 rfl #[.val (.int p0), .val (.int p1), .val (.int p2), .val (.int p3), .val (.ref o1082), .val (.int (1 : Int32)), .val (.int (3 : Int32)), .val (.int (0 : Int32)), .val (.int (1 : Int32))] rfl ?_
    refine W.iload 151 at_149 rfl rfl ?_
    exact W.ireturnN (t := .boolean) at_151 rfl (by simp) (1 : Int32) rfl rfl (by decide) (by decide)
set_option maxRecDepth 65536 in
set_option maxHeartbeats 40000000 in
theorem law_4 (l : Launch) (Z : State) (a0 : Array Value) (hw : ∀ d ∈ tables_1, d.before a0 Z = true) (p0 p1 p2 p3 : Int32) (h : Heap) (n0 : Nat) (hn : n0 ≤ h.size) (hN : ((p0 &&& (2147483647 : Int32)) % (6 : Int32)) = (4 : Int32)) : ConW tables_1 l Z x code maxLocals ret room_1 #[(.int p0), (.int p1), (.int p2), (.int p3)] h n0 (fun r _ => r = some (.int 1)) := by
  refine ConW.of_W (Ls := #[.val (.int p0), .val (.int p1), .val (.int p2), .val (.int p3), .unset, .unset, .unset, .unset, .unset]) (plainFor_of_name pn_2) hn (fun m => by first | (simp [entryFrame, mkF, argsToLocals, Value.category, maxLocals]; done) | rfl) ?_
  refine W.new 3 at_0 rfl (wd_0 hw) (wd_1 hw) (wd_2 hw) (by decide) (by decide) ?_
  intro h1095 o1095 g1095 ge1095 X1095 K1095 E1095 D1095
  have f1096 : Fld _ _ o1095 "com/example/grackle/grackle/core/cluster/IntList" "values" "[I" .null := D1095 (Or.inl (wd_11 hw)) (ty := (.array .int)) (by decide)
  have f1097 : Fld _ _ o1095 "com/example/grackle/grackle/core/cluster/IntList" "size" "I" (.int (0 : Int32)) := D1095 (Or.inl (wd_18 hw)) (ty := .int) (by decide)
  show W _ _ _ _ _ _ _ _ _ _ _ 1 2 3 #[.val (.int p0), .val (.int p1), .val (.int p2), .val (.int p3), .unset, .unset, .unset, .unset, .unset] [(.ref o1095)]
  refine W.dup 4 at_3 rfl rfl ?_
  refine W.callInit (rest := [(.ref o1095)]) (argsL := []) (a := o1095) 7 at_4 rfl (fun hn => c_init l Z a0 hw o1095 _ n0 hn ge1095 E1095 f1096 f1097) rfl (wd_3 hw) (wd_4 hw) (wd_2 hw) (wd_5 hw) (by decide) pd_2 rfl rfl rfl (by decide) 1 (Nat.le_of_ble_eq_true rfl) (by decide) (by decide) (by decide) ?_
  rintro v1098 h1098 ⟨rfl, b1098, sz1098, gb1098, ne1098, E1098, F1098, G1098, A1098, K1098⟩
  have ne1099 : o1095 ≠ b1098 := Nat.ne_of_lt (Nat.lt_of_lt_of_le E1095.lt sz1098)
  show W _ _ _ _ _ _ _ _ _ _ _ 2 6 7 #[.val (.int p0), .val (.int p1), .val (.int p2), .val (.int p3), .unset, .unset, .unset, .unset, .unset] [(.ref o1095)]
  refine W.astore 9 at_7 rfl rfl #[.val (.int p0), .val (.int p1), .val (.int p2), .val (.int p3), .val (.ref o1095), .unset, .unset, .unset, .unset] rfl ?_
  refine W.aload 11 at_9 rfl rfl rfl ?_
  refine W.callV (rest := []) (argsL := []) (a := o1095) 14 at_11 rfl (fun hn => (c_isE l Z a0 hw o1095 (0 : Int32) _ n0 hn G1098).post (P := fun r h' => r = some (.int (1 : Int32)) ∧ h' = _) (fun v h' q => q)) E1098 (wd_12 hw) (wd_13 hw) (wd_15 hw) rfl (wd_14 hw) (wd_2 hw) (wd_16 hw) (by decide) pd_3 rfl rfl rfl (by decide) 0 (Nat.le_of_ble_eq_true rfl) (by decide) (by decide) (by decide) ?_
  rintro v1100 h1100 ⟨rfl, rfl⟩
  show W _ _ _ _ _ _ _ _ _ _ _ 2 6 14 #[.val (.int p0), .val (.int p1), .val (.int p2), .val (.int p3), .val (.ref o1095), .unset, .unset, .unset, .unset] [(.int (1 : Int32))]
  refine W.istore 16 at_14 rfl #[.val (.int p0), .val (.int p1), .val (.int p2), .val (.int p3), .val (.ref o1095), .val (.int (1 : Int32)), .unset, .unset, .unset] rfl ?_
  refine W.iloadN 17 at_16 rfl rfl ?_
  refine W.ldcI 19 at_17 rfl (wd_19 hw) ?_
  refine W.iand 20 at_19 rfl (p0 &&& (2147483647 : Int32)) rfl ?_
  refine W.bipush 22 at_20 rfl (6 : Int32) rfl ?_
  refine W.irem 23 at_22 rfl (by decide) (4 : Int32) hN ?_
  refine W.istore 25 at_23 rfl #[.val (.int p0), .val (.int p1), .val (.int p2), .val (.int p3), .val (.ref o1095), .val (.int (1 : Int32)), .val (.int (4 : Int32)), .unset, .unset] rfl ?_
  refine W.iload 27 at_25 rfl rfl ?_
  refine W.if_le 36 30 at_27 rfl rfl (fun hc => absurd (by decide) hc) (fun _ => ?_)
  refine W.aload 32 at_30 rfl rfl rfl ?_
  refine W.iloadN 33 at_32 rfl rfl ?_
  refine W.callV (rest := []) (argsL := [(.int p1)]) (a := o1095) 36 at_33 rfl (fun hn => c_add l Z a0 hw o1095 b1098 p1 (0 : Int32) (4 : Int32) _ 0 _ n0 hn ge1095 gb1098 ne1098 E1098 F1098 G1098 A1098 rfl (by decide) (by decide) (by decide) (Nat.le_of_ble_eq_true rfl)) E1098 (wd_25 hw) (wd_26 hw) (wd_28 hw) rfl (wd_27 hw) (wd_2 hw) (wd_29 hw) (by decide) pd_4 rfl rfl rfl (by decide) 0 (Nat.le_of_ble_eq_true rfl) (by decide) (by decide) (by decide) ?_
  rintro v1101 h1101 ⟨rfl, E1101, F1101, G1101, A1101, K1101⟩
  show W _ _ _ _ _ _ _ _ _ _ _ 2 6 36 #[.val (.int p0), .val (.int p1), .val (.int p2), .val (.int p3), .val (.ref o1095), .val (.int (1 : Int32)), .val (.int (4 : Int32)), .unset, .unset] []
  refine W.iload 38 at_36 rfl rfl ?_
  refine W.iconst 39 at_38 rfl (1 : Int32) rfl ?_
  refine W.icmp_le 48 42 at_39 rfl rfl (fun hc => absurd (by decide) hc) (fun _ => ?_)
  refine W.aload 44 at_42 rfl rfl rfl ?_
  refine W.iloadN 45 at_44 rfl rfl ?_
  refine W.callV (rest := []) (argsL := [(.int p2)]) (a := o1095) 48 at_45 rfl (fun hn => c_add l Z a0 hw o1095 b1098 p2 (1 : Int32) (4 : Int32) _ 1 _ n0 hn ge1095 gb1098 ne1098 E1101 F1101 (show Fld _ _ _ _ _ _ (.int (1 : Int32)) from G1101) (show Ary _ _ _ .int [(.int p1), (.int (0 : Int32)), (.int (0 : Int32)), (.int (0 : Int32))] from A1101) rfl (by decide) (by decide) (by decide) (Nat.le_of_ble_eq_true rfl)) E1101 (wd_25 hw) (wd_26 hw) (wd_28 hw) rfl (wd_27 hw) (wd_2 hw) (wd_29 hw) (by decide) pd_4 rfl rfl rfl (by decide) 0 (Nat.le_of_ble_eq_true rfl) (by decide) (by decide) (by decide) ?_
  rintro v1102 h1102 ⟨rfl, E1102, F1102, G1102, A1102, K1102⟩
  show W _ _ _ _ _ _ _ _ _ _ _ 2 6 48 #[.val (.int p0), .val (.int p1), .val (.int p2), .val (.int p3), .val (.ref o1095), .val (.int (1 : Int32)), .val (.int (4 : Int32)), .unset, .unset] []
  refine W.iload 50 at_48 rfl rfl ?_
  refine W.iconst 51 at_50 rfl (2 : Int32) rfl ?_
  refine W.icmp_le 60 54 at_51 rfl rfl (fun hc => absurd (by decide) hc) (fun _ => ?_)
  refine W.aload 56 at_54 rfl rfl rfl ?_
  refine W.iloadN 57 at_56 rfl rfl ?_
  refine W.callV (rest := []) (argsL := [(.int p1)]) (a := o1095) 60 at_57 rfl (fun hn => c_add l Z a0 hw o1095 b1098 p1 (2 : Int32) (4 : Int32) _ 2 _ n0 hn ge1095 gb1098 ne1098 E1102 F1102 (show Fld _ _ _ _ _ _ (.int (2 : Int32)) from G1102) (show Ary _ _ _ .int [(.int p1), (.int p2), (.int (0 : Int32)), (.int (0 : Int32))] from A1102) rfl (by decide) (by decide) (by decide) (Nat.le_of_ble_eq_true rfl)) E1102 (wd_25 hw) (wd_26 hw) (wd_28 hw) rfl (wd_27 hw) (wd_2 hw) (wd_29 hw) (by decide) pd_4 rfl rfl rfl (by decide) 0 (Nat.le_of_ble_eq_true rfl) (by decide) (by decide) (by decide) ?_
  rintro v1103 h1103 ⟨rfl, E1103, F1103, G1103, A1103, K1103⟩
  show W _ _ _ _ _ _ _ _ _ _ _ 2 6 60 #[.val (.int p0), .val (.int p1), .val (.int p2), .val (.int p3), .val (.ref o1095), .val (.int (1 : Int32)), .val (.int (4 : Int32)), .unset, .unset] []
  refine W.iload 62 at_60 rfl rfl ?_
  refine W.iconst 63 at_62 rfl (3 : Int32) rfl ?_
  refine W.icmp_le 72 66 at_63 rfl rfl (fun hc => absurd (by decide) hc) (fun _ => ?_)
  refine W.aload 68 at_66 rfl rfl rfl ?_
  refine W.iloadN 69 at_68 rfl rfl ?_
  refine W.callV (rest := []) (argsL := [(.int p2)]) (a := o1095) 72 at_69 rfl (fun hn => c_add l Z a0 hw o1095 b1098 p2 (3 : Int32) (4 : Int32) _ 3 _ n0 hn ge1095 gb1098 ne1098 E1103 F1103 (show Fld _ _ _ _ _ _ (.int (3 : Int32)) from G1103) (show Ary _ _ _ .int [(.int p1), (.int p2), (.int p1), (.int (0 : Int32))] from A1103) rfl (by decide) (by decide) (by decide) (Nat.le_of_ble_eq_true rfl)) E1103 (wd_25 hw) (wd_26 hw) (wd_28 hw) rfl (wd_27 hw) (wd_2 hw) (wd_29 hw) (by decide) pd_4 rfl rfl rfl (by decide) 0 (Nat.le_of_ble_eq_true rfl) (by decide) (by decide) (by decide) ?_
  rintro v1104 h1104 ⟨rfl, E1104, F1104, G1104, A1104, K1104⟩
  show W _ _ _ _ _ _ _ _ _ _ _ 2 6 72 #[.val (.int p0), .val (.int p1), .val (.int p2), .val (.int p3), .val (.ref o1095), .val (.int (1 : Int32)), .val (.int (4 : Int32)), .unset, .unset] []
  refine W.iload 74 at_72 rfl rfl ?_
  refine W.iconst 75 at_74 rfl (4 : Int32) rfl ?_
  refine W.icmp_le 84 78 at_75 rfl rfl (fun _ => ?_) (fun hc => absurd hc (by decide))
  refine W.aload 86 at_84 rfl rfl rfl ?_
  refine W.callV (rest := []) (argsL := []) (a := o1095) 89 at_86 rfl (fun hn => (c_isE l Z a0 hw o1095 (4 : Int32) _ n0 hn (show Fld _ _ _ _ _ _ (.int (4 : Int32)) from G1104)).post (P := fun r h' => r = some (.int (0 : Int32)) ∧ h' = _) (fun v h' q => q)) E1104 (wd_12 hw) (wd_13 hw) (wd_15 hw) rfl (wd_14 hw) (wd_2 hw) (wd_16 hw) (by decide) pd_3 rfl rfl rfl (by decide) 0 (Nat.le_of_ble_eq_true rfl) (by decide) (by decide) (by decide) ?_
  rintro v1105 h1105 ⟨rfl, rfl⟩
  show W _ _ _ _ _ _ _ _ _ _ _ 2 6 89 #[.val (.int p0), .val (.int p1), .val (.int p2), .val (.int p3), .val (.ref o1095), .val (.int (1 : Int32)), .val (.int (4 : Int32)), .unset, .unset] [(.int (0 : Int32))]
  refine W.istore 91 at_89 rfl #[.val (.int p0), .val (.int p1), .val (.int p2), .val (.int p3), .val (.ref o1095), .val (.int (1 : Int32)), .val (.int (4 : Int32)), .val (.int (0 : Int32)), .unset] rfl ?_
  refine W.iload 93 at_91 rfl rfl ?_
  refine W.if_eq 115 96 at_93 rfl rfl (fun hc => absurd hc (by decide)) (fun _ => ?_)
  refine W.iload 98 at_96 rfl rfl ?_
  refine W.iload 100 at_98 rfl rfl ?_
  refine W.if_ne 107 103 at_100 rfl rfl (fun _ => ?_) (fun hc => absurd hc (by decide))
  refine W.iconst 108 at_107 rfl (0 : Int32) rfl ?_
  refine W.icmp_ne 115 111 at_108 rfl rfl (fun hc => absurd (by decide) hc) (fun _ => ?_)
  refine W.iconst 112 at_111 rfl (1 : Int32) rfl ?_
  refine W.goto 116 at_112 rfl ?_
  refine W.istore 118 at_116 rfl #[.val (.int p0), .val (.int p1), .val (.int p2), .val (.int p3), .val (.ref o1095), .val (.int (1 : Int32)), .val (.int (4 : Int32)), .val (.int (0 : Int32)), .val (.int (1 : Int32))] rfl ?_
  refine W.iloadN 119 at_118 rfl rfl ?_
  refine W.iconst 120 at_119 rfl (1 : Int32) rfl ?_
  refine W.iand 121 at_120 rfl (p3 &&& (1 : Int32)) rfl ?_
  refine W.if_eq 149 124 at_121 rfl rfl ?_ ?_
  · intro hc1106
    refine W.iload 151 at_149 rfl rfl ?_
    exact W.ireturnN (t := .boolean) at_151 rfl (by simp) (1 : Int32) rfl rfl (by decide) (by decide)
  · intro hc1106
    refine W.aload 126 at_124 rfl rfl rfl ?_
    refine W.callV (rest := []) (argsL := []) (a := o1095) 129 at_126 rfl (fun hn => c_clr l Z a0 hw o1095 (4 : Int32) _ n0 hn ge1095 E1104 (show Fld _ _ _ _ _ _ (.int (4 : Int32)) from G1104)) E1104 (wd_20 hw) (wd_21 hw) (wd_23 hw) rfl (wd_22 hw) (wd_2 hw) (wd_24 hw) (by decide) pd_2 rfl rfl rfl (by decide) 0 (Nat.le_of_ble_eq_true rfl) (by decide) (by decide) (by decide) ?_
    rintro v1107 h1107 ⟨rfl, E1107, G1107, K1107⟩
    show W _ _ _ _ _ _ _ _ _ _ _ 2 6 129 #[.val (.int p0), .val (.int p1), .val (.int p2), .val (.int p3), .val (.ref o1095), .val (.int (1 : Int32)), .val (.int (4 : Int32)), .val (.int (0 : Int32)), .val (.int (1 : Int32))] []
    refine W.iload 131 at_129 rfl rfl ?_
    refine W.if_eq 146 134 at_131 rfl rfl (fun hc => absurd hc (by decide)) (fun _ => ?_)
    refine W.aload 136 at_134 rfl rfl rfl ?_
    refine W.callV (rest := []) (argsL := []) (a := o1095) 139 at_136 rfl (fun hn => (c_isE l Z a0 hw o1095 (0 : Int32) _ n0 hn G1107).post (P := fun r h' => r = some (.int (1 : Int32)) ∧ h' = _) (fun v h' q => q)) E1107 (wd_12 hw) (wd_13 hw) (wd_15 hw) rfl (wd_14 hw) (wd_2 hw) (wd_16 hw) (by decide) pd_3 rfl rfl rfl (by decide) 0 (Nat.le_of_ble_eq_true rfl) (by decide) (by decide) (by decide) ?_
    rintro v1108 h1108 ⟨rfl, rfl⟩
    show W _ _ _ _ _ _ _ _ _ _ _ 2 6 139 #[.val (.int p0), .val (.int p1), .val (.int p2), .val (.int p3), .val (.ref o1095), .val (.int (1 : Int32)), .val (.int (4 : Int32)), .val (.int (0 : Int32)), .val (.int (1 : Int32))] [(.int (1 : Int32))]
    refine W.if_eq 146 142 at_139 rfl rfl (fun hc => absurd hc (by decide)) (fun _ => ?_)
    refine W.iconst 143 at_142 rfl (1 : Int32) rfl ?_
    refine W.goto 147 at_143 rfl ?_
    refine W.istore 149 at_147 rfl #[.val (.int p0), .val (.int p1), .val (.int p2), .val (.int p3), .val (.ref o1095), .val (.int (1 : Int32)), .val (.int (4 : Int32)), .val (.int (0 : Int32)), .val (.int (1 : Int32))] rfl ?_
    refine W.iload 151 at_149 rfl rfl ?_
    exact W.ireturnN (t := .boolean) at_151 rfl (by simp) (1 : Int32) rfl rfl (by decide) (by decide)
set_option maxRecDepth 65536 in
set_option maxHeartbeats 40000000 in
theorem law_5 (l : Launch) (Z : State) (a0 : Array Value) (hw : ∀ d ∈ tables_1, d.before a0 Z = true) (p0 p1 p2 p3 : Int32) (h : Heap) (n0 : Nat) (hn : n0 ≤ h.size) (hN : ((p0 &&& (2147483647 : Int32)) % (6 : Int32)) = (5 : Int32)) : ConW tables_1 l Z x code maxLocals ret room_1 #[(.int p0), (.int p1), (.int p2), (.int p3)] h n0 (fun r _ => r = some (.int 1)) := by
  refine ConW.of_W (Ls := #[.val (.int p0), .val (.int p1), .val (.int p2), .val (.int p3), .unset, .unset, .unset, .unset, .unset]) (plainFor_of_name pn_2) hn (fun m => by first | (simp [entryFrame, mkF, argsToLocals, Value.category, maxLocals]; done) | rfl) ?_
  refine W.new 3 at_0 rfl (wd_0 hw) (wd_1 hw) (wd_2 hw) (by decide) (by decide) ?_
  intro h1109 o1109 g1109 ge1109 X1109 K1109 E1109 D1109
  have f1110 : Fld _ _ o1109 "com/example/grackle/grackle/core/cluster/IntList" "values" "[I" .null := D1109 (Or.inl (wd_11 hw)) (ty := (.array .int)) (by decide)
  have f1111 : Fld _ _ o1109 "com/example/grackle/grackle/core/cluster/IntList" "size" "I" (.int (0 : Int32)) := D1109 (Or.inl (wd_18 hw)) (ty := .int) (by decide)
  show W _ _ _ _ _ _ _ _ _ _ _ 1 2 3 #[.val (.int p0), .val (.int p1), .val (.int p2), .val (.int p3), .unset, .unset, .unset, .unset, .unset] [(.ref o1109)]
  refine W.dup 4 at_3 rfl rfl ?_
  refine W.callInit (rest := [(.ref o1109)]) (argsL := []) (a := o1109) 7 at_4 rfl (fun hn => c_init l Z a0 hw o1109 _ n0 hn ge1109 E1109 f1110 f1111) rfl (wd_3 hw) (wd_4 hw) (wd_2 hw) (wd_5 hw) (by decide) pd_2 rfl rfl rfl (by decide) 1 (Nat.le_of_ble_eq_true rfl) (by decide) (by decide) (by decide) ?_
  rintro v1112 h1112 ⟨rfl, b1112, sz1112, gb1112, ne1112, E1112, F1112, G1112, A1112, K1112⟩
  have ne1113 : o1109 ≠ b1112 := Nat.ne_of_lt (Nat.lt_of_lt_of_le E1109.lt sz1112)
  show W _ _ _ _ _ _ _ _ _ _ _ 2 6 7 #[.val (.int p0), .val (.int p1), .val (.int p2), .val (.int p3), .unset, .unset, .unset, .unset, .unset] [(.ref o1109)]
  refine W.astore 9 at_7 rfl rfl #[.val (.int p0), .val (.int p1), .val (.int p2), .val (.int p3), .val (.ref o1109), .unset, .unset, .unset, .unset] rfl ?_
  refine W.aload 11 at_9 rfl rfl rfl ?_
  refine W.callV (rest := []) (argsL := []) (a := o1109) 14 at_11 rfl (fun hn => (c_isE l Z a0 hw o1109 (0 : Int32) _ n0 hn G1112).post (P := fun r h' => r = some (.int (1 : Int32)) ∧ h' = _) (fun v h' q => q)) E1112 (wd_12 hw) (wd_13 hw) (wd_15 hw) rfl (wd_14 hw) (wd_2 hw) (wd_16 hw) (by decide) pd_3 rfl rfl rfl (by decide) 0 (Nat.le_of_ble_eq_true rfl) (by decide) (by decide) (by decide) ?_
  rintro v1114 h1114 ⟨rfl, rfl⟩
  show W _ _ _ _ _ _ _ _ _ _ _ 2 6 14 #[.val (.int p0), .val (.int p1), .val (.int p2), .val (.int p3), .val (.ref o1109), .unset, .unset, .unset, .unset] [(.int (1 : Int32))]
  refine W.istore 16 at_14 rfl #[.val (.int p0), .val (.int p1), .val (.int p2), .val (.int p3), .val (.ref o1109), .val (.int (1 : Int32)), .unset, .unset, .unset] rfl ?_
  refine W.iloadN 17 at_16 rfl rfl ?_
  refine W.ldcI 19 at_17 rfl (wd_19 hw) ?_
  refine W.iand 20 at_19 rfl (p0 &&& (2147483647 : Int32)) rfl ?_
  refine W.bipush 22 at_20 rfl (6 : Int32) rfl ?_
  refine W.irem 23 at_22 rfl (by decide) (5 : Int32) hN ?_
  refine W.istore 25 at_23 rfl #[.val (.int p0), .val (.int p1), .val (.int p2), .val (.int p3), .val (.ref o1109), .val (.int (1 : Int32)), .val (.int (5 : Int32)), .unset, .unset] rfl ?_
  refine W.iload 27 at_25 rfl rfl ?_
  refine W.if_le 36 30 at_27 rfl rfl (fun hc => absurd (by decide) hc) (fun _ => ?_)
  refine W.aload 32 at_30 rfl rfl rfl ?_
  refine W.iloadN 33 at_32 rfl rfl ?_
  refine W.callV (rest := []) (argsL := [(.int p1)]) (a := o1109) 36 at_33 rfl (fun hn => c_add l Z a0 hw o1109 b1112 p1 (0 : Int32) (4 : Int32) _ 0 _ n0 hn ge1109 gb1112 ne1112 E1112 F1112 G1112 A1112 rfl (by decide) (by decide) (by decide) (Nat.le_of_ble_eq_true rfl)) E1112 (wd_25 hw) (wd_26 hw) (wd_28 hw) rfl (wd_27 hw) (wd_2 hw) (wd_29 hw) (by decide) pd_4 rfl rfl rfl (by decide) 0 (Nat.le_of_ble_eq_true rfl) (by decide) (by decide) (by decide) ?_
  rintro v1115 h1115 ⟨rfl, E1115, F1115, G1115, A1115, K1115⟩
  show W _ _ _ _ _ _ _ _ _ _ _ 2 6 36 #[.val (.int p0), .val (.int p1), .val (.int p2), .val (.int p3), .val (.ref o1109), .val (.int (1 : Int32)), .val (.int (5 : Int32)), .unset, .unset] []
  refine W.iload 38 at_36 rfl rfl ?_
  refine W.iconst 39 at_38 rfl (1 : Int32) rfl ?_
  refine W.icmp_le 48 42 at_39 rfl rfl (fun hc => absurd (by decide) hc) (fun _ => ?_)
  refine W.aload 44 at_42 rfl rfl rfl ?_
  refine W.iloadN 45 at_44 rfl rfl ?_
  refine W.callV (rest := []) (argsL := [(.int p2)]) (a := o1109) 48 at_45 rfl (fun hn => c_add l Z a0 hw o1109 b1112 p2 (1 : Int32) (4 : Int32) _ 1 _ n0 hn ge1109 gb1112 ne1112 E1115 F1115 (show Fld _ _ _ _ _ _ (.int (1 : Int32)) from G1115) (show Ary _ _ _ .int [(.int p1), (.int (0 : Int32)), (.int (0 : Int32)), (.int (0 : Int32))] from A1115) rfl (by decide) (by decide) (by decide) (Nat.le_of_ble_eq_true rfl)) E1115 (wd_25 hw) (wd_26 hw) (wd_28 hw) rfl (wd_27 hw) (wd_2 hw) (wd_29 hw) (by decide) pd_4 rfl rfl rfl (by decide) 0 (Nat.le_of_ble_eq_true rfl) (by decide) (by decide) (by decide) ?_
  rintro v1116 h1116 ⟨rfl, E1116, F1116, G1116, A1116, K1116⟩
  show W _ _ _ _ _ _ _ _ _ _ _ 2 6 48 #[.val (.int p0), .val (.int p1), .val (.int p2), .val (.int p3), .val (.ref o1109), .val (.int (1 : Int32)), .val (.int (5 : Int32)), .unset, .unset] []
  refine W.iload 50 at_48 rfl rfl ?_
  refine W.iconst 51 at_50 rfl (2 : Int32) rfl ?_
  refine W.icmp_le 60 54 at_51 rfl rfl (fun hc => absurd (by decide) hc) (fun _ => ?_)
  refine W.aload 56 at_54 rfl rfl rfl ?_
  refine W.iloadN 57 at_56 rfl rfl ?_
  refine W.callV (rest := []) (argsL := [(.int p1)]) (a := o1109) 60 at_57 rfl (fun hn => c_add l Z a0 hw o1109 b1112 p1 (2 : Int32) (4 : Int32) _ 2 _ n0 hn ge1109 gb1112 ne1112 E1116 F1116 (show Fld _ _ _ _ _ _ (.int (2 : Int32)) from G1116) (show Ary _ _ _ .int [(.int p1), (.int p2), (.int (0 : Int32)), (.int (0 : Int32))] from A1116) rfl (by decide) (by decide) (by decide) (Nat.le_of_ble_eq_true rfl)) E1116 (wd_25 hw) (wd_26 hw) (wd_28 hw) rfl (wd_27 hw) (wd_2 hw) (wd_29 hw) (by decide) pd_4 rfl rfl rfl (by decide) 0 (Nat.le_of_ble_eq_true rfl) (by decide) (by decide) (by decide) ?_
  rintro v1117 h1117 ⟨rfl, E1117, F1117, G1117, A1117, K1117⟩
  show W _ _ _ _ _ _ _ _ _ _ _ 2 6 60 #[.val (.int p0), .val (.int p1), .val (.int p2), .val (.int p3), .val (.ref o1109), .val (.int (1 : Int32)), .val (.int (5 : Int32)), .unset, .unset] []
  refine W.iload 62 at_60 rfl rfl ?_
  refine W.iconst 63 at_62 rfl (3 : Int32) rfl ?_
  refine W.icmp_le 72 66 at_63 rfl rfl (fun hc => absurd (by decide) hc) (fun _ => ?_)
  refine W.aload 68 at_66 rfl rfl rfl ?_
  refine W.iloadN 69 at_68 rfl rfl ?_
  refine W.callV (rest := []) (argsL := [(.int p2)]) (a := o1109) 72 at_69 rfl (fun hn => c_add l Z a0 hw o1109 b1112 p2 (3 : Int32) (4 : Int32) _ 3 _ n0 hn ge1109 gb1112 ne1112 E1117 F1117 (show Fld _ _ _ _ _ _ (.int (3 : Int32)) from G1117) (show Ary _ _ _ .int [(.int p1), (.int p2), (.int p1), (.int (0 : Int32))] from A1117) rfl (by decide) (by decide) (by decide) (Nat.le_of_ble_eq_true rfl)) E1117 (wd_25 hw) (wd_26 hw) (wd_28 hw) rfl (wd_27 hw) (wd_2 hw) (wd_29 hw) (by decide) pd_4 rfl rfl rfl (by decide) 0 (Nat.le_of_ble_eq_true rfl) (by decide) (by decide) (by decide) ?_
  rintro v1118 h1118 ⟨rfl, E1118, F1118, G1118, A1118, K1118⟩
  show W _ _ _ _ _ _ _ _ _ _ _ 2 6 72 #[.val (.int p0), .val (.int p1), .val (.int p2), .val (.int p3), .val (.ref o1109), .val (.int (1 : Int32)), .val (.int (5 : Int32)), .unset, .unset] []
  refine W.iload 74 at_72 rfl rfl ?_
  refine W.iconst 75 at_74 rfl (4 : Int32) rfl ?_
  refine W.icmp_le 84 78 at_75 rfl rfl (fun hc => absurd (by decide) hc) (fun _ => ?_)
  refine W.aload 80 at_78 rfl rfl rfl ?_
  refine W.iloadN 81 at_80 rfl rfl ?_
  refine W.callV (rest := []) (argsL := [(.int p1)]) (a := o1109) 84 at_81 rfl (fun hn => c_addG l Z a0 hw o1109 b1112 p1 p1 p2 p1 p2 _ n0 hn ge1109 gb1112 ne1112 E1118 F1118 (show Fld _ _ _ _ _ _ (.int (4 : Int32)) from G1118) (show Ary _ _ _ .int [(.int p1), (.int p2), (.int p1), (.int p2)] from A1118)) E1118 (wd_25 hw) (wd_26 hw) (wd_28 hw) rfl (wd_27 hw) (wd_2 hw) (wd_29 hw) (by decide) pd_4 rfl rfl rfl (by decide) 0 (Nat.le_of_ble_eq_true rfl) (by decide) (by decide) (by decide) ?_
  rintro v1119 h1119 ⟨rfl, b1119, sz1119, gb1119, ne1119, E1119, F1119, G1119, A1119, K1119⟩
  have ne1120 : b1112 ≠ b1119 := Nat.ne_of_lt (Nat.lt_of_lt_of_le (show Ary _ _ _ .int [(.int p1), (.int p2), (.int p1), (.int p2)] from A1118).lt sz1119)
  have ne1121 : o1109 ≠ b1119 := Nat.ne_of_lt (Nat.lt_of_lt_of_le E1118.lt sz1119)
  show W _ _ _ _ _ _ _ _ _ _ _ 3 22 84 #[.val (.int p0), .val (.int p1), .val (.int p2), .val (.int p3), .val (.ref o1109), .val (.int (1 : Int32)), .val (.int (5 : Int32)), .unset, .unset] []
  refine W.aload 86 at_84 rfl rfl rfl ?_
  refine W.callV (rest := []) (argsL := []) (a := o1109) 89 at_86 rfl (fun hn => (c_isE l Z a0 hw o1109 (5 : Int32) _ n0 hn G1119).post (P := fun r h' => r = some (.int (0 : Int32)) ∧ h' = _) (fun v h' q => q)) E1119 (wd_12 hw) (wd_13 hw) (wd_15 hw) rfl (wd_14 hw) (wd_2 hw) (wd_16 hw) (by decide) pd_3 rfl rfl rfl (by decide) 0 (Nat.le_of_ble_eq_true rfl) (by decide) (by decide) (by decide) ?_
  rintro v1122 h1122 ⟨rfl, rfl⟩
  show W _ _ _ _ _ _ _ _ _ _ _ 3 22 89 #[.val (.int p0), .val (.int p1), .val (.int p2), .val (.int p3), .val (.ref o1109), .val (.int (1 : Int32)), .val (.int (5 : Int32)), .unset, .unset] [(.int (0 : Int32))]
  refine W.istore 91 at_89 rfl #[.val (.int p0), .val (.int p1), .val (.int p2), .val (.int p3), .val (.ref o1109), .val (.int (1 : Int32)), .val (.int (5 : Int32)), .val (.int (0 : Int32)), .unset] rfl ?_
  refine W.iload 93 at_91 rfl rfl ?_
  refine W.if_eq 115 96 at_93 rfl rfl (fun hc => absurd hc (by decide)) (fun _ => ?_)
  refine W.iload 98 at_96 rfl rfl ?_
  refine W.iload 100 at_98 rfl rfl ?_
  refine W.if_ne 107 103 at_100 rfl rfl (fun _ => ?_) (fun hc => absurd hc (by decide))
  refine W.iconst 108 at_107 rfl (0 : Int32) rfl ?_
  refine W.icmp_ne 115 111 at_108 rfl rfl (fun hc => absurd (by decide) hc) (fun _ => ?_)
  refine W.iconst 112 at_111 rfl (1 : Int32) rfl ?_
  refine W.goto 116 at_112 rfl ?_
  refine W.istore 118 at_116 rfl #[.val (.int p0), .val (.int p1), .val (.int p2), .val (.int p3), .val (.ref o1109), .val (.int (1 : Int32)), .val (.int (5 : Int32)), .val (.int (0 : Int32)), .val (.int (1 : Int32))] rfl ?_
  refine W.iloadN 119 at_118 rfl rfl ?_
  refine W.iconst 120 at_119 rfl (1 : Int32) rfl ?_
  refine W.iand 121 at_120 rfl (p3 &&& (1 : Int32)) rfl ?_
  refine W.if_eq 149 124 at_121 rfl rfl ?_ ?_
  · intro hc1123
    refine W.iload 151 at_149 rfl rfl ?_
    exact W.ireturnN (t := .boolean) at_151 rfl (by simp) (1 : Int32) rfl rfl (by decide) (by decide)
  · intro hc1123
    refine W.aload 126 at_124 rfl rfl rfl ?_
    refine W.callV (rest := []) (argsL := []) (a := o1109) 129 at_126 rfl (fun hn => c_clr l Z a0 hw o1109 (5 : Int32) _ n0 hn ge1109 E1119 G1119) E1119 (wd_20 hw) (wd_21 hw) (wd_23 hw) rfl (wd_22 hw) (wd_2 hw) (wd_24 hw) (by decide) pd_2 rfl rfl rfl (by decide) 0 (Nat.le_of_ble_eq_true rfl) (by decide) (by decide) (by decide) ?_
    rintro v1124 h1124 ⟨rfl, E1124, G1124, K1124⟩
    show W _ _ _ _ _ _ _ _ _ _ _ 3 22 129 #[.val (.int p0), .val (.int p1), .val (.int p2), .val (.int p3), .val (.ref o1109), .val (.int (1 : Int32)), .val (.int (5 : Int32)), .val (.int (0 : Int32)), .val (.int (1 : Int32))] []
    refine W.iload 131 at_129 rfl rfl ?_
    refine W.if_eq 146 134 at_131 rfl rfl (fun hc => absurd hc (by decide)) (fun _ => ?_)
    refine W.aload 136 at_134 rfl rfl rfl ?_
    refine W.callV (rest := []) (argsL := []) (a := o1109) 139 at_136 rfl (fun hn => (c_isE l Z a0 hw o1109 (0 : Int32) _ n0 hn G1124).post (P := fun r h' => r = some (.int (1 : Int32)) ∧ h' = _) (fun v h' q => q)) E1124 (wd_12 hw) (wd_13 hw) (wd_15 hw) rfl (wd_14 hw) (wd_2 hw) (wd_16 hw) (by decide) pd_3 rfl rfl rfl (by decide) 0 (Nat.le_of_ble_eq_true rfl) (by decide) (by decide) (by decide) ?_
    rintro v1125 h1125 ⟨rfl, rfl⟩
    show W _ _ _ _ _ _ _ _ _ _ _ 3 22 139 #[.val (.int p0), .val (.int p1), .val (.int p2), .val (.int p3), .val (.ref o1109), .val (.int (1 : Int32)), .val (.int (5 : Int32)), .val (.int (0 : Int32)), .val (.int (1 : Int32))] [(.int (1 : Int32))]
    refine W.if_eq 146 142 at_139 rfl rfl (fun hc => absurd hc (by decide)) (fun _ => ?_)
    refine W.iconst 143 at_142 rfl (1 : Int32) rfl ?_
    refine W.goto 147 at_143 rfl ?_
    refine W.istore 149 at_147 rfl #[.val (.int p0), .val (.int p1), .val (.int p2), .val (.int p3), .val (.ref o1109), .val (.int (1 : Int32)), .val (.int (5 : Int32)), .val (.int (0 : Int32)), .val (.int (1 : Int32))] rfl ?_
    refine W.iload 151 at_149 rfl rfl ?_
    exact W.ireturnN (t := .boolean) at_151 rfl (by simp) (1 : Int32) rfl rfl (by decide) (by decide)
theorem law_ok (l : Launch) (Z : State) (a0 : Array Value) (hw : ∀ d ∈ tables_1, d.before a0 Z = true) (p0 p1 p2 p3 : Int32) (h : Heap) (n0 : Nat) (hn : n0 ≤ h.size) : ConW tables_1 l Z x code maxLocals ret room_1 #[(.int p0), (.int p1), (.int p2), (.int p3)] h n0 (fun r _ => r = some (.int 1)) := by
  rcases own_mod6 p0 with q | q | q | q | q | q
  · exact law_0 l Z a0 hw p0 p1 p2 p3 h n0 hn q
  · exact law_1 l Z a0 hw p0 p1 p2 p3 h n0 hn q
  · exact law_2 l Z a0 hw p0 p1 p2 p3 h n0 hn q
  · exact law_3 l Z a0 hw p0 p1 p2 p3 h n0 hn q
  · exact law_4 l Z a0 hw p0 p1 p2 p3 h n0 hn q
  · exact law_5 l Z a0 hw p0 p1 p2 p3 h n0 hn q
set_option maxRecDepth 65536 in
set_option maxHeartbeats 40000000 in
theorem comes_1 {Post : Tables → Env → Array Value → State → Outcome → State → Prop} (hpost : ∀ tb e args s v u, (limb_1_1.after args s (.returned v) u = true ∧ limb_1_2.after args s (.returned v) u = true ∧ True) → FrameEnd s (.returned v) u (Jvm.fieldLocs frame_1_writes args s ++ Jvm.arrayLocs frame_1_arrays args s ++ Jvm.staticLocs frame_1_statics s) 16 128 → Post tb e args s (.returned v) u) :
    ArmFor flags0 classFile x code maxLocals ret World_1 tables_1 room_1 Calls_1 rest_1 Pre_1 Post := by
  intro l hfl _ _ p e ha hc hk s m args below hf hA hF happ hP
  obtain ⟨hcalls, hrest, hpre⟩ := hP
  obtain ⟨-, -, -, hnamed, -, -, -, hat⟩ := (Spec.applies_iff hf).mp happ
  obtain ⟨hg, hn⟩ := and_e (Cond.before_iff.mp (show (Jvm.Cond.and given_1 narrow_1).before args s = true from hpre))
  obtain ⟨hcnt, hg1⟩ := and_e hg
  obtain ⟨k0, hh0⟩ := and_e hg1
  obtain ⟨k1, hh1⟩ := and_e hh0
  obtain ⟨k2, hh2⟩ := and_e hh1
  have k3 := hh2
  obtain ⟨w0, w1, w2, w3, rfl⟩ : ∃ w0 w1 w2 w3 : Value, args = #[w0, w1, w2, w3] := by
    have hs : args.size = 4 := by simpa [Cond.value, given_1] using hcnt
    obtain ⟨L⟩ := args
    match L, hs with
    | [w0, w1, w2, w3], _ => exact ⟨w0, w1, w2, w3, rfl⟩
  have hw := fun d (hd : d ∈ tables_1) => atoms_spec (ws := Jvm.Cond.code x code maxLocals ret :: tables_1) hat d (List.mem_cons_of_mem _ hd)
  have hfit : Fit s := fun {y c} hc i hi => by
    obtain ⟨ha, rfl⟩ := Array.getElem?_eq_some_iff.mp hc
    have q := List.all_eq_true.mp ((Array.all_eq_true_iff_forall_mem.mp hF) _ (Array.getElem_mem ha)) i (List.mem_range.mpr hi)
    simpa [Array.getElem?_eq_getElem hi] using q
  obtain ⟨i0, ei0⟩ := is_v k0
  obtain rfl : w0 = (.int i0) := Option.some.inj ei0
  obtain ⟨i1, ei1⟩ := is_v k1
  obtain rfl : w1 = (.int i1) := Option.some.inj ei1
  obtain ⟨i2, ei2⟩ := is_v k2
  obtain rfl : w2 = (.int i2) := Option.some.inj ei2
  obtain ⟨i3, ei3⟩ := is_v k3
  obtain rfl : w3 = (.int i3) := Option.some.inj ei3
  obtain ⟨n, o, h1, h2, h3, _, L, rfl, ⟨rfl, N⟩, hq⟩ := law_ok l s _ hw i0 i1 i2 i3 s.heap s.heap.size (Nat.le_refl _) p e ha hc hk s m _ below hf ((Spec.applies_iff_loose hf).mp happ).1 ⟨rfl, State.Warmed39.refl s, rfl⟩ trivial
  refine ⟨n, _, h1, h2, h3, hpost _ _ _ _ _ _ ⟨Cond.after_iff.mpr rfl, Cond.after_iff.mpr (eq_i res_at (Term.int_eval (1)) rfl), trivial⟩ ⟨hq.1, hq.2.1, (hq.2.2.sift fun y hy => Or.inr (N y hy)).mono (by decide) (by decide)⟩⟩
theorem main_1_1 : Claimed_1_1 := comes_1 fun _ _ _ _ _ _ h hF => ⟨h.1, hF⟩
theorem main_1_2 : Claimed_1_2 := comes_1 fun _ _ _ _ _ _ h hF => ⟨h.2.1, hF⟩
end Jvm.Pilot.@@N@@
namespace Jvm.Pilot.@@N@@
open Jvm Jvm.ClassFile Sem Op Lib Jvm.Free Jvm.Stand Jvm.Pilot.@@N@@.Jvm.D
/-! MADE BY PROGRAM (witnessworld.py) out of the Statement's table words and the real class files: 12 classes; the members and pool entries that the words name. The judged class is class 1, her method 1. -/
namespace start1
open Jvm.ClassFile
def u (s : String) : CpInfo := .utf8 (stringToUtf16 s)
/-- a pool by its gaps: so many unusable entries, then the entry; so many at the end -/
def gap : Nat → List CpInfo → List CpInfo
  | 0, r => r
  | n + 1, r => .unusable :: gap n r
def poolList (es : List (Nat × CpInfo)) (last : Nat) : List CpInfo := es.foldr (fun e r => gap e.1 (e.2 :: r)) (gap last [])
def pool (es : List (Nat × CpInfo)) (last : Nat) : Array CpInfo := ⟨poolList es last⟩
def fileOf (pool : Array CpInfo) (this : Nat) (attrs : Array Attribute := #[]) (ms : Array MethodInfo := #[]) (fl : Nat := 33) (sup : Nat := 0) (ifs : Array Nat := #[]) (fds : Array FieldInfo := #[]) : ClassFile where
  minorVersion := 0
  majorVersion := 65
  constantPool := pool
  accessFlags := fl
  thisClass := this
  superClass := sup
  interfaces := ifs
  fields := fds
  methods := ms
  attributes := attrs
def plain (name : String) (sup : Option ClassId) : Class where
  name := name
  kind := .ordinary
  loader := none
  accessFlags := 33
  super := sup
  interfaces := #[]
  cf := none
  fields := #[]
  methods := #[]
  instanceTypes := #[]
  staticTypes := #[]
  resolved := #[]
  callSites := []
  init := .initialized
  statics := none
  mirror := none

def pool0 : Array CpInfo := pool [(5, u "<init>"), (0, u "()V"), (1, .class_ 10), (1, u "java/lang/Object")] 113

def k0c0 : Code := { maxStack := 0, maxLocals := 1, code := object_method_1_code, exceptionTable := #[], attributes := #[] }
def k0m0 : Method := { name := "<init>", desc := "()V", sig := { parameters := [], returnType := none }, accessFlags := 1, code := some k0c0 }
/-- java/lang/Object -/
def k0 : Class := { plain "java/lang/Object" none with
  accessFlags := 33
  interfaces := #[]
  cf := some (fileOf pool0 8 #[] #[{ accessFlags := 1, nameIndex := 5, descriptorIndex := 6, attributes := #[] }] 33 0 #[] #[])
  fields := #[]
  methods := #[k0m0]
  instanceTypes := #[]
  staticTypes := #[]
  resolved := Array.replicate 124 none
  statics := none }

def pool1 : Array CpInfo := pool [(2, .class_ 4), (0, .nameAndType 5 6), (0, u "java/lang/Object"), (0, u "<init>"), (0, u "()V"), (0, .class_ 8), (0, u "com/example/grackle/grackle/core/cluster/IntList"), (0, .methodref 7 3), (0, .methodref 7 11), (0, .nameAndType 12 13), (0, u "isEmpty"), (0, u "()Z"), (0, .integer 2147483647), (0, .methodref 7 16), (0, .nameAndType 17 18), (0, u "add"), (0, u "(I)V"), (0, .methodref 7 20), (0, .nameAndType 21 6), (0, u "clear"), (0, .class_ 23), (0, u "com/example/grackle/grackle/core/cluster/IntListIsEmptyPinLaw"), (2, u "law"), (0, u "(IIII)Z")] 3

def k1m0 : Method := { name := "<init>", desc := "()V", sig := { parameters := [], returnType := none }, accessFlags := 1, code := none }
def k1c1 : Code := { maxStack := 2, maxLocals := 9, code := code, exceptionTable := #[], attributes := #[] }
def k1m1 : Method := { name := "law", desc := "(IIII)Z", sig := { parameters := [.int, .int, .int, .int], returnType := some .boolean }, accessFlags := 9, code := some k1c1 }
/-- com/example/grackle/grackle/core/cluster/IntListIsEmptyPinLaw -/
def k1 : Class := { plain "com/example/grackle/grackle/core/cluster/IntListIsEmptyPinLaw" (some 0) with
  accessFlags := 49
  interfaces := #[]
  cf := some (fileOf pool1 22 #[] #[{ accessFlags := 1, nameIndex := 5, descriptorIndex := 6, attributes := #[] }, { accessFlags := 9, nameIndex := 26, descriptorIndex := 27, attributes := #[] }] 49 2 #[] #[])
  fields := #[]
  methods := #[k1m0, k1m1]
  instanceTypes := #[]
  staticTypes := #[]
  resolved := Array.replicate 31 none
  statics := none }

def pool2 : Array CpInfo := pool [(1, .methodref 2 3), (0, .class_ 4), (0, .nameAndType 5 6), (0, u "java/lang/Object"), (0, u "<init>"), (0, u "()V"), (0, .fieldref 8 9), (0, .class_ 10), (0, .nameAndType 11 12), (0, u "com/example/grackle/grackle/core/cluster/IntList"), (0, u "values"), (0, u "[I"), (0, .fieldref 8 14), (0, .nameAndType 15 16), (0, u "size"), (0, u "I"), (0, .methodref 18 19), (0, .class_ 20), (0, .nameAndType 21 22), (0, u "java/util/Arrays"), (0, u "copyOf"), (0, u "([II)[I"), (11, u "add"), (0, u "(I)V"), (4, u "isEmpty"), (0, u "()Z"), (0, u "clear")] 19

def k2c0 : Code := { maxStack := 2, maxLocals := 1, code := prog_16_method_1_code, exceptionTable := #[], attributes := #[] }
def k2m0 : Method := { name := "<init>", desc := "()V", sig := { parameters := [], returnType := none }, accessFlags := 0, code := some k2c0 }
def k2c1 : Code := { maxStack := 5, maxLocals := 2, code := prog_16_method_2_code, exceptionTable := #[], attributes := #[] }
def k2m1 : Method := { name := "add", desc := "(I)V", sig := { parameters := [.int], returnType := none }, accessFlags := 0, code := some k2c1 }
def k2c2 : Code := { maxStack := 1, maxLocals := 1, code := prog_16_method_5_code, exceptionTable := #[], attributes := #[] }
def k2m2 : Method := { name := "isEmpty", desc := "()Z", sig := { parameters := [], returnType := some .boolean }, accessFlags := 0, code := some k2c2 }
def k2c3 : Code := { maxStack := 2, maxLocals := 1, code := prog_16_method_6_code, exceptionTable := #[], attributes := #[] }
def k2m3 : Method := { name := "clear", desc := "()V", sig := { parameters := [], returnType := none }, accessFlags := 0, code := some k2c3 }
/-- com/example/grackle/grackle/core/cluster/IntList -/
def k2 : Class := { plain "com/example/grackle/grackle/core/cluster/IntList" (some 0) with
  accessFlags := 48
  interfaces := #[]
  cf := some (fileOf pool2 8 #[] #[{ accessFlags := 0, nameIndex := 5, descriptorIndex := 6, attributes := #[] }, { accessFlags := 0, nameIndex := 34, descriptorIndex := 35, attributes := #[] }, { accessFlags := 0, nameIndex := 40, descriptorIndex := 41, attributes := #[] }, { accessFlags := 0, nameIndex := 42, descriptorIndex := 6, attributes := #[] }] 48 2 #[] #[{ accessFlags := 2, nameIndex := 11, descriptorIndex := 12, attributes := #[] }, { accessFlags := 2, nameIndex := 15, descriptorIndex := 16, attributes := #[] }])
  fields := #[{ name := "values", type := (.array .int), accessFlags := 2, slot := 0, constantValue := 0 }, { name := "size", type := .int, accessFlags := 2, slot := 1, constantValue := 0 }]
  methods := #[k2m0, k2m1, k2m2, k2m3]
  instanceTypes := #[(.array .int), .int]
  staticTypes := #[]
  resolved := Array.replicate 62 none
  statics := none }

def pool3 : Array CpInfo := pool [(2, .class_ 4), (1, u "java/lang/Object"), (0, u "<init>"), (0, u "()V"), (7, .class_ 16), (1, u "java/util/Arrays"), (57, .class_ 76), (1, u "java/util/Arrays$NaturalOrder"), (36, .class_ 115), (1, u "java/util/Arrays$LegacyMergeSort"), (1, u "Z"), (32, .methodref 151 152), (0, .class_ 153), (0, .nameAndType 154 155), (0, u "java/lang/System"), (0, u "arraycopy"), (0, u "(Ljava/lang/Object;ILjava/lang/Object;II)V"), (146, u "copyOf"), (1, .methodref 305 306), (0, .class_ 307), (0, .nameAndType 308 309), (0, u "java/lang/Math"), (0, u "min"), (0, u "(II)I"), (65, .class_ 376), (0, u "java/util/Arrays$ArrayList"), (68, u "$assertionsDisabled"), (269, u "MIN_ARRAY_SORT_GRAN"), (0, u "I"), (2, u "INSERTIONSORT_THRESHOLD"), (151, u "([II)[I"), (103, .class_ 976), (0, u "java/util/Arrays$ArrayItr")] 52

def k3m0 : Method := { name := "<init>", desc := "()V", sig := { parameters := [], returnType := none }, accessFlags := 2, code := none }
def k3c1 : Code := { maxStack := 6, maxLocals := 3, code := jdk_65_method_123_code, exceptionTable := #[], attributes := #[] }
def k3m1 : Method := { name := "copyOf", desc := "([II)[I", sig := { parameters := [(.array .int), .int], returnType := some (.array .int) }, accessFlags := 9, code := some k3c1 }
/-- java/util/Arrays -/
def k3 : Class := { plain "java/util/Arrays" (some 0) with
  accessFlags := 49
  interfaces := #[]
  cf := some (fileOf pool3 14 #[.nestMembers #[975, 375, 113, 74]] #[{ accessFlags := 2, nameIndex := 5, descriptorIndex := 6, attributes := #[] }, { accessFlags := 9, nameIndex := 302, descriptorIndex := 871, attributes := #[] }] 49 2 #[] #[{ accessFlags := 26, nameIndex := 715, descriptorIndex := 716, attributes := #[] }, { accessFlags := 26, nameIndex := 719, descriptorIndex := 716, attributes := #[] }, { accessFlags := 4120, nameIndex := 445, descriptorIndex := 117, attributes := #[] }])
  fields := #[{ name := "MIN_ARRAY_SORT_GRAN", type := .int, accessFlags := 26, slot := 0, constantValue := 0 }, { name := "INSERTIONSORT_THRESHOLD", type := .int, accessFlags := 26, slot := 1, constantValue := 0 }, { name := "$assertionsDisabled", type := .boolean, accessFlags := 4120, slot := 2, constantValue := 0 }]
  methods := #[k3m0, k3m1]
  instanceTypes := #[]
  staticTypes := #[.int, .int, .boolean]
  resolved := Array.replicate 1029 none
  statics := none }

def pool4 : Array CpInfo := pool [(1, .class_ 2), (0, u "java/lang/Math"), (1, .class_ 6), (1, u "java/lang/Object"), (0, u "<init>"), (0, u "()V"), (89, .class_ 100), (1, u "java/lang/Math$RandomNumberGeneratorHolder"), (71, u "negativeZeroFloatBits"), (0, u "J"), (2, u "negativeZeroDoubleBits"), (24, u "min"), (43, u "$assertionsDisabled"), (0, u "Z"), (88, u "(II)I"), (2, u "twoToTheDoubleScaleDown"), (0, u "D"), (4, u "twoToTheDoubleScaleUp"), (9, u "E"), (3, u "PI"), (2, u "TAU"), (2, u "DEGREES_TO_RADIANS"), (0, u "RADIANS_TO_DEGREES")] 94

def k4m0 : Method := { name := "<init>", desc := "()V", sig := { parameters := [], returnType := none }, accessFlags := 2, code := none }
def k4c1 : Code := { maxStack := 2, maxLocals := 2, code := jdk_29_method_69_code, exceptionTable := #[], attributes := #[] }
def k4m1 : Method := { name := "min", desc := "(II)I", sig := { parameters := [.int, .int], returnType := some .int }, accessFlags := 9, code := some k4c1 }
/-- java/lang/Math -/
def k4 : Class := { plain "java/lang/Math" (some 0) with
  accessFlags := 49
  interfaces := #[]
  cf := some (fileOf pool4 1 #[.nestMembers #[98]] #[{ accessFlags := 2, nameIndex := 7, descriptorIndex := 8, attributes := #[] }, { accessFlags := 9, nameIndex := 201, descriptorIndex := 335, attributes := #[] }] 49 4 #[] #[{ accessFlags := 25, nameIndex := 354, descriptorIndex := 339, attributes := #[] }, { accessFlags := 25, nameIndex := 358, descriptorIndex := 339, attributes := #[] }, { accessFlags := 25, nameIndex := 361, descriptorIndex := 339, attributes := #[] }, { accessFlags := 26, nameIndex := 364, descriptorIndex := 339, attributes := #[] }, { accessFlags := 26, nameIndex := 365, descriptorIndex := 339, attributes := #[] }, { accessFlags := 26, nameIndex := 172, descriptorIndex := 173, attributes := #[] }, { accessFlags := 26, nameIndex := 176, descriptorIndex := 173, attributes := #[] }, { accessFlags := 8, nameIndex := 344, descriptorIndex := 339, attributes := #[] }, { accessFlags := 8, nameIndex := 338, descriptorIndex := 339, attributes := #[] }, { accessFlags := 4120, nameIndex := 245, descriptorIndex := 246, attributes := #[] }])
  fields := #[{ name := "E", type := .double, accessFlags := 25, slot := 0, constantValue := 0 }, { name := "PI", type := .double, accessFlags := 25, slot := 1, constantValue := 0 }, { name := "TAU", type := .double, accessFlags := 25, slot := 2, constantValue := 0 }, { name := "DEGREES_TO_RADIANS", type := .double, accessFlags := 26, slot := 3, constantValue := 0 }, { name := "RADIANS_TO_DEGREES", type := .double, accessFlags := 26, slot := 4, constantValue := 0 }, { name := "negativeZeroFloatBits", type := .long, accessFlags := 26, slot := 5, constantValue := 0 }, { name := "negativeZeroDoubleBits", type := .long, accessFlags := 26, slot := 6, constantValue := 0 }, { name := "twoToTheDoubleScaleUp", type := .double, accessFlags := 8, slot := 7, constantValue := 0 }, { name := "twoToTheDoubleScaleDown", type := .double, accessFlags := 8, slot := 8, constantValue := 0 }, { name := "$assertionsDisabled", type := .boolean, accessFlags := 4120, slot := 9, constantValue := 0 }]
  methods := #[k4m0, k4m1]
  instanceTypes := #[]
  staticTypes := #[.double, .double, .double, .double, .double, .long, .long, .double, .double, .boolean]
  resolved := Array.replicate 460 none
  statics := none }

def pool5 : Array CpInfo := pool [(2, .class_ 4), (1, u "java/lang/Object"), (0, u "<init>"), (0, u "()V"), (1, .class_ 10), (1, u "java/lang/System"), (0, u "allowSecurityManager"), (0, u "I"), (16, u "cons"), (0, u "Ljava/io/Console;"), (77, .class_ 110), (1, u "java/lang/System$CallersHolder"), (43, u "initialErrStream"), (0, u "Ljava/io/PrintStream;"), (19, u "security"), (0, u "Ljava/lang/SecurityManager;"), (31, .class_ 209), (0, u "java/lang/System$1"), (7, u "props"), (0, u "Ljava/util/Properties;"), (2, u "lineSeparator"), (0, u "Ljava/lang/String;"), (96, .class_ 321), (1, u "java/lang/System$LoggerFinder"), (5, .class_ 328), (0, u "java/lang/System$Logger"), (67, u "err"), (2, u "out"), (91, u "notSupportedJnuEncoding"), (15, u "in"), (17, u "initialIn"), (0, u "Ljava/io/InputStream;"), (35, u "bootLayer"), (0, u "Ljava/lang/ModuleLayer;"), (99, .class_ 664), (0, u "java/lang/System$2"), (9, u "NEVER"), (2, u "MAYBE"), (49, u "arraycopy"), (0, u "(Ljava/lang/Object;ILjava/lang/Object;II)V"), (72, .class_ 802), (0, u "java/lang/System$Logger$Level")] 31

def k5m0 : Method := { name := "<init>", desc := "()V", sig := { parameters := [], returnType := none }, accessFlags := 2, code := none }
def k5m1 : Method := { name := "arraycopy", desc := "(Ljava/lang/Object;ILjava/lang/Object;II)V", sig := { parameters := [(.object "java/lang/Object"), .int, (.object "java/lang/Object"), .int, .int], returnType := none }, accessFlags := 265, code := none }
/-- java/lang/System -/
def k5 : Class := { plain "java/lang/System" (some 0) with
  accessFlags := 49
  interfaces := #[]
  cf := some (fileOf pool5 8 #[.nestMembers #[319, 327, 801, 108, 663, 208]] #[{ accessFlags := 2, nameIndex := 5, descriptorIndex := 6, attributes := #[] }, { accessFlags := 265, nameIndex := 727, descriptorIndex := 728, attributes := #[] }] 49 2 #[] #[{ accessFlags := 25, nameIndex := 507, descriptorIndex := 526, attributes := #[] }, { accessFlags := 25, nameIndex := 399, descriptorIndex := 155, attributes := #[] }, { accessFlags := 25, nameIndex := 396, descriptorIndex := 155, attributes := #[] }, { accessFlags := 10, nameIndex := 525, descriptorIndex := 526, attributes := #[] }, { accessFlags := 26, nameIndex := 674, descriptorIndex := 12, attributes := #[] }, { accessFlags := 26, nameIndex := 677, descriptorIndex := 12, attributes := #[] }, { accessFlags := 10, nameIndex := 11, descriptorIndex := 12, attributes := #[] }, { accessFlags := 74, nameIndex := 175, descriptorIndex := 176, attributes := #[] }, { accessFlags := 10, nameIndex := 491, descriptorIndex := 222, attributes := #[] }, { accessFlags := 74, nameIndex := 29, descriptorIndex := 30, attributes := #[] }, { accessFlags := 74, nameIndex := 154, descriptorIndex := 155, attributes := #[] }, { accessFlags := 10, nameIndex := 217, descriptorIndex := 218, attributes := #[] }, { accessFlags := 10, nameIndex := 221, descriptorIndex := 222, attributes := #[] }, { accessFlags := 8, nameIndex := 562, descriptorIndex := 563, attributes := #[] }])
  fields := #[{ name := "in", type := (.object "java/io/InputStream"), accessFlags := 25, slot := 0, constantValue := 0 }, { name := "out", type := (.object "java/io/PrintStream"), accessFlags := 25, slot := 1, constantValue := 0 }, { name := "err", type := (.object "java/io/PrintStream"), accessFlags := 25, slot := 2, constantValue := 0 }, { name := "initialIn", type := (.object "java/io/InputStream"), accessFlags := 10, slot := 3, constantValue := 0 }, { name := "NEVER", type := .int, accessFlags := 26, slot := 4, constantValue := 0 }, { name := "MAYBE", type := .int, accessFlags := 26, slot := 5, constantValue := 0 }, { name := "allowSecurityManager", type := .int, accessFlags := 10, slot := 6, constantValue := 0 }, { name := "security", type := (.object "java/lang/SecurityManager"), accessFlags := 74, slot := 7, constantValue := 0 }, { name := "notSupportedJnuEncoding", type := (.object "java/lang/String"), accessFlags := 10, slot := 8, constantValue := 0 }, { name := "cons", type := (.object "java/io/Console"), accessFlags := 74, slot := 9, constantValue := 0 }, { name := "initialErrStream", type := (.object "java/io/PrintStream"), accessFlags := 74, slot := 10, constantValue := 0 }, { name := "props", type := (.object "java/util/Properties"), accessFlags := 10, slot := 11, constantValue := 0 }, { name := "lineSeparator", type := (.object "java/lang/String"), accessFlags := 10, slot := 12, constantValue := 0 }, { name := "bootLayer", type := (.object "java/lang/ModuleLayer"), accessFlags := 8, slot := 13, constantValue := 0 }]
  methods := #[k5m0, k5m1]
  instanceTypes := #[]
  staticTypes := #[(.object "java/io/InputStream"), (.object "java/io/PrintStream"), (.object "java/io/PrintStream"), (.object "java/io/InputStream"), .int, .int, .int, (.object "java/lang/SecurityManager"), (.object "java/lang/String"), (.object "java/io/Console"), (.object "java/io/PrintStream"), (.object "java/util/Properties"), (.object "java/lang/String"), (.object "java/lang/ModuleLayer")]
  resolved := Array.replicate 834 none
  statics := none }

def pool6 : Array CpInfo := pool [(1, u "java/lang/Cloneable"), (0, .class_ 1), (0, u "java/lang/Object"), (0, .class_ 3)] 3

/-- java/lang/Cloneable -/
def k6 : Class := { plain "java/lang/Cloneable" (some 0) with
  accessFlags := 1537
  interfaces := #[]
  cf := some (fileOf pool6 2 #[] #[] 1537 4 #[] #[])
  fields := #[]
  methods := #[]
  instanceTypes := #[]
  staticTypes := #[]
  resolved := Array.replicate 8 none
  statics := none }

def pool7 : Array CpInfo := pool [(1, u "java/io/Serializable"), (0, .class_ 1), (0, u "java/lang/Object"), (0, .class_ 3)] 3

/-- java/io/Serializable -/
def k7 : Class := { plain "java/io/Serializable" (some 0) with
  accessFlags := 1537
  interfaces := #[]
  cf := some (fileOf pool7 2 #[] #[] 1537 4 #[] #[])
  fields := #[]
  methods := #[]
  instanceTypes := #[]
  staticTypes := #[]
  resolved := Array.replicate 8 none
  statics := none }

/-- the primitive byte -/
def k8 : Class := { plain "byte" none with kind := .primitive 'B', accessFlags := 0x411 }
/-- [B -/
def k9 : Class := { plain "[B" (some 0) with kind := .array 8 .byte, interfaces := #[6, 7], accessFlags := 1041 }

/-- the primitive int -/
def k10 : Class := { plain "int" none with kind := .primitive 'I', accessFlags := 0x411 }
/-- [I -/
def k11 : Class := { plain "[I" (some 0) with kind := .array 10 .int, interfaces := #[6, 7], accessFlags := 1041 }

def heap : Heap := #[]
def classes : Array Class := #[k0, k1, k2, k3, k4, k5, k6, k7, k8, k9, k10, k11]
def interned : List (Array UInt16 × Addr) := []
def slotsUsed : Nat := 0
def theMethod : MethodId := ⟨1, 1⟩
def args0 : Array Value := #[.int 3, .int 9, .int 4, .int 1]
def aboutOver (below : List Frame) : State where
  vm := { classes := classes, interned := interned.toArray }
  heap := heap
  slotsUsed := slotsUsed
  threads := #[{ frames := .invoking theMethod args0 :: below }]
def below0 : List Frame := [.native { method := ⟨0, 0⟩, args := #[] }]
def about1 : State := aboutOver below0
def p0 : Program := .bare "" "" ""
def e0 : Env := launch0.env 0 0 0
theorem w_frames : about1.frames = Frame.invoking theMethod args0 :: below0 := rfl
set_option maxRecDepth 65536 in
theorem w_args : argsFit about1.vm theMethod args0 = true := by decide +kernel
set_option maxRecDepth 65536 in
theorem w_heap : heapFits about1 = true := by decide +kernel
set_option maxRecDepth 65536 in
theorem w_runnable : about1.curStatus? = some .runnable := by decide +kernel
set_option maxRecDepth 65536 in
theorem w_alone : about1.alone = true := by decide +kernel
set_option maxRecDepth 65536 in
theorem w_named : about1.methodNamed? x = some theMethod := by decide +kernel
set_option maxRecDepth 65536 in
theorem w_hears : about1.hears theMethod below0 = true := by decide +kernel
set_option maxRecDepth 65536 in
theorem w_ripe : about1.ripe theMethod args0 below0 = true := by decide +kernel
theorem w_running : about1.status = .running := rfl
set_option maxRecDepth 65536 in
theorem w_room : about1.hasRoom e0.platform room_1 = true :=
  launch0.hasRoom_least _ room_1 (by decide +kernel) (by decide +kernel) (by decide +kernel) (by decide +kernel) (by decide +kernel) (by decide +kernel)
theorem allAtoms_all (ts : List Jvm.Cond) (a : Array Jvm.Value) (st : Jvm.State) : (allAtoms ts).before a st = ts.all (fun c => c.before a st) := by
  induction ts with
  | nil => rfl
  | cons c t ih =>
    show (Jvm.Cond.and c (allAtoms t)).before a st = _
    rw [Jvm.Cond.before_and, ih, List.all_cons]
def words1 : List Jvm.Cond := Jvm.Cond.code x code maxLocals ret :: tables_1
/-- a 'code' word, met by the world's own term for the bytes: nothing is compared byte by byte -/
theorem code_word {y : MethodName} {bytes : ByteArray} {mx : Nat} {rt : Option FieldType} {a : Array Value} {s : State} {m : MethodId} {meth : Method} {c : Code} (h1 : s.methodNamed? y = some m) (h2 : s.vm.method? m = some meth) (h3 : meth.code = some c) (h4 : c.code = bytes)
    (h5 : (c.maxLocals == mx && c.exceptionTable.isEmpty && decide (c.maxStack ≤ mostOperands) && decide (meth.sig.returnType = rt) && !meth.locks && decide (parseMethodDescriptor y.desc = some meth.sig)) = true) : (Jvm.Cond.code y bytes mx rt).before a s = true := by
  simp only [Bool.and_eq_true, beq_iff_eq, Bool.not_eq_true', decide_eq_true_eq] at h5
  obtain ⟨⟨⟨⟨⟨g1, g2⟩, g3⟩, g4⟩, g5⟩, g6⟩ := h5
  simp [Cond.before, Cond.holds, Cond.value, h1, h2, h3, h4, g1, g2, g3, g4, g5, g6]
def isCode : Jvm.Cond → Bool
  | .code _ _ _ _ => true
  | _ => false
theorem all_split {L : List Jvm.Cond} {P : Jvm.Cond → Bool} (h1 : L.all (fun c => isCode c || P c) = true) (h2 : ∀ c ∈ L.filter isCode, P c = true) : L.all P = true := by
  refine List.all_eq_true.mpr fun c hc => ?_
  have h := List.all_eq_true.mp h1 c hc
  rcases Bool.eq_false_or_eq_true (isCode c) with hi | hi
  · exact h2 c (List.mem_filter.mpr ⟨hc, hi⟩)
  · simpa [hi] using h
set_option maxRecDepth 65536 in
theorem w_c0 : (Jvm.Cond.code x code maxLocals ret).before args0 about1 = true := code_word (m := ⟨1, 1⟩) (meth := k1m1) (c := k1c1) (by decide +kernel) rfl rfl rfl (by decide +kernel)
set_option maxRecDepth 65536 in
theorem w_c1 : (Jvm.Cond.code ({ cls := "com/example/grackle/grackle/core/cluster/IntList", name := "<init>", desc := "()V" } : Jvm.MethodName) prog_16_method_1_code (1 : Nat) (Option.none : Option Jvm.ClassFile.FieldType)).before args0 about1 = true := code_word (m := ⟨2, 0⟩) (meth := k2m0) (c := k2c0) (by decide +kernel) rfl rfl rfl (by decide +kernel)
set_option maxRecDepth 65536 in
theorem w_c2 : (Jvm.Cond.code ({ cls := "java/lang/Object", name := "<init>", desc := "()V" } : Jvm.MethodName) object_method_1_code (1 : Nat) (Option.none : Option Jvm.ClassFile.FieldType)).before args0 about1 = true := code_word (m := ⟨0, 0⟩) (meth := k0m0) (c := k0c0) (by decide +kernel) rfl rfl rfl (by decide +kernel)
set_option maxRecDepth 65536 in
theorem w_c3 : (Jvm.Cond.code ({ cls := "com/example/grackle/grackle/core/cluster/IntList", name := "isEmpty", desc := "()Z" } : Jvm.MethodName) prog_16_method_5_code (1 : Nat) (Option.some Jvm.ClassFile.FieldType.boolean)).before args0 about1 = true := code_word (m := ⟨2, 2⟩) (meth := k2m2) (c := k2c2) (by decide +kernel) rfl rfl rfl (by decide +kernel)
set_option maxRecDepth 65536 in
theorem w_c4 : (Jvm.Cond.code ({ cls := "com/example/grackle/grackle/core/cluster/IntList", name := "clear", desc := "()V" } : Jvm.MethodName) prog_16_method_6_code (1 : Nat) (Option.none : Option Jvm.ClassFile.FieldType)).before args0 about1 = true := code_word (m := ⟨2, 3⟩) (meth := k2m3) (c := k2c3) (by decide +kernel) rfl rfl rfl (by decide +kernel)
set_option maxRecDepth 65536 in
theorem w_c5 : (Jvm.Cond.code ({ cls := "com/example/grackle/grackle/core/cluster/IntList", name := "add", desc := "(I)V" } : Jvm.MethodName) prog_16_method_2_code (2 : Nat) (Option.none : Option Jvm.ClassFile.FieldType)).before args0 about1 = true := code_word (m := ⟨2, 1⟩) (meth := k2m1) (c := k2c1) (by decide +kernel) rfl rfl rfl (by decide +kernel)
set_option maxRecDepth 65536 in
theorem w_c6 : (Jvm.Cond.code ({ cls := "java/util/Arrays", name := "copyOf", desc := "([II)[I" } : Jvm.MethodName) jdk_65_method_123_code (3 : Nat) (Option.some (Jvm.ClassFile.FieldType.array Jvm.ClassFile.FieldType.int))).before args0 about1 = true := code_word (m := ⟨3, 1⟩) (meth := k3m1) (c := k3c1) (by decide +kernel) rfl rfl rfl (by decide +kernel)
set_option maxRecDepth 65536 in
theorem w_c7 : (Jvm.Cond.code ({ cls := "java/lang/Math", name := "min", desc := "(II)I" } : Jvm.MethodName) jdk_29_method_69_code (2 : Nat) (Option.some Jvm.ClassFile.FieldType.int)).before args0 about1 = true := code_word (m := ⟨4, 1⟩) (meth := k4m1) (c := k4c1) (by decide +kernel) rfl rfl rfl (by decide +kernel)
def codes1 : List Jvm.Cond := [Jvm.Cond.code x code maxLocals ret, Jvm.Cond.code ({ cls := "com/example/grackle/grackle/core/cluster/IntList", name := "<init>", desc := "()V" } : Jvm.MethodName) prog_16_method_1_code (1 : Nat) (Option.none : Option Jvm.ClassFile.FieldType), Jvm.Cond.code ({ cls := "java/lang/Object", name := "<init>", desc := "()V" } : Jvm.MethodName) object_method_1_code (1 : Nat) (Option.none : Option Jvm.ClassFile.FieldType), Jvm.Cond.code ({ cls := "com/example/grackle/grackle/core/cluster/IntList", name := "isEmpty", desc := "()Z" } : Jvm.MethodName) prog_16_method_5_code (1 : Nat) (Option.some Jvm.ClassFile.FieldType.boolean), Jvm.Cond.code ({ cls := "com/example/grackle/grackle/core/cluster/IntList", name := "clear", desc := "()V" } : Jvm.MethodName) prog_16_method_6_code (1 : Nat) (Option.none : Option Jvm.ClassFile.FieldType), Jvm.Cond.code ({ cls := "com/example/grackle/grackle/core/cluster/IntList", name := "add", desc := "(I)V" } : Jvm.MethodName) prog_16_method_2_code (2 : Nat) (Option.none : Option Jvm.ClassFile.FieldType), Jvm.Cond.code ({ cls := "java/util/Arrays", name := "copyOf", desc := "([II)[I" } : Jvm.MethodName) jdk_65_method_123_code (3 : Nat) (Option.some (Jvm.ClassFile.FieldType.array Jvm.ClassFile.FieldType.int)), Jvm.Cond.code ({ cls := "java/lang/Math", name := "min", desc := "(II)I" } : Jvm.MethodName) jdk_29_method_69_code (2 : Nat) (Option.some Jvm.ClassFile.FieldType.int)]
set_option maxRecDepth 65536 in
theorem codes_eq : words1.filter isCode = codes1 := rfl
theorem w_codes : ∀ c ∈ words1.filter isCode, c.before args0 about1 = true := by
  rw [codes_eq]
  intro c hc
  simp only [codes1, List.mem_cons, List.not_mem_nil, or_false] at hc
  rcases hc with rfl | rfl | rfl | rfl | rfl | rfl | rfl | rfl
  · exact w_c0
  · exact w_c1
  · exact w_c2
  · exact w_c3
  · exact w_c4
  · exact w_c5
  · exact w_c6
  · exact w_c7
set_option maxRecDepth 65536 in
theorem w_t1 : (words1.take 24).all (fun c => isCode c || c.before args0 about1) = true := by decide +kernel
set_option maxRecDepth 65536 in
theorem w_t2 : (words1.drop 24).all (fun c => isCode c || c.before args0 about1) = true := by decide +kernel
theorem w_tables : (allAtoms (Jvm.Cond.code x code maxLocals ret :: tables_1)).before args0 about1 = true := by
  rw [allAtoms_all]
  show words1.all (fun c => c.before args0 about1) = true
  refine all_split ?_ w_codes
  rw [← List.take_append_drop 24 words1, List.all_append, w_t1, w_t2]
  rfl
set_option maxRecDepth 65536 in
theorem w_case : (Jvm.Cond.and given_1 narrow_1).before args0 about1 = true := by decide +kernel
theorem w_applies : (headSpec (Jvm.Cond.code x code maxLocals ret :: tables_1) room_1).applies x e0.platform about1 = true :=
  (Spec.applies_iff w_frames).mpr ⟨w_running, w_runnable, w_alone, w_named, w_hears, w_ripe, w_room, w_tables⟩
theorem atStart : AtStart classFile x code maxLocals ret World_1 tables_1 room_1 Calls_1 rest_1 Pre_1 launch0 p0 e0 about1 theMethod args0 below0 :=
  ⟨lists_1, trivial, launch0.admits_env _ _ _, launch0.least_env, fairChoices_fair.cas, fairChoices_fair.clock, w_frames, w_args, w_heap, w_applies, trivial, trivial, w_case⟩
end start1
theorem witness_1 : WitnessClaimed_1 := ⟨start1.p0, start1.e0, start1.about1, start1.theMethod, start1.args0, start1.below0, start1.atStart⟩
end Jvm.Pilot.@@N@@
