import JvmDerived
import JvmDerived.Pilot.@@N@@Statement
import JvmDerived.Pilot.@@N@@Code
set_option linter.unusedVariables false
set_option linter.unusedSimpArgs false
namespace Jvm.Wk
abbrev F4 := Fin 4
abbrev F2 := Fin 2
open Sem ClassFile Op Lib Jvm.Stand Jvm.Free Jvm.LawKit Jvm.RoadKit
/-- the array at a holds just these values -/
def Ary (Z : State) (h : Heap) (a : Addr) (ty : FieldType) (vs : List Value) : Prop :=
  ∃ c : Cell, Arr Z h a c ty ∧ c.slots.toList = vs ∧ (∀ v ∈ vs, fits ty v = true) ∧ vs.length < 2 ^ 31
def Endz (p : Program) (e : Env) (below : List Frame) (s : State) (R : Room) (n0 : Nat) (P : Option Value → Heap → Prop) (T : State) (g : JFrame) : Prop :=
  ∃ s₂ o, Steps p.tables e below (T.setTop g) s₂ ∧ s₂.status = .running ∧ Ended s₂ below o ∧ ∃ v L, o = .returned v ∧ (P v s₂.heap ∧ Fr n0 L) ∧ FrameEnd s o s₂ L R.cells R.slots
/-- from pc, with these locals, this stack and this heap, the body comes to its end, and P holds there -/
def W (l : Launch) (R : Room) (Z : State) (own nm : String) (bytes : ByteArray) (maxL : Nat) (ret : Option FieldType) (n0 : Nat) (P : Option Value → Heap → Prop) (h : Heap) (cells slots pc : Nat) (Ls : Array Slot) (st : List Value) : Prop :=
  ∀ (p : Program) (e : Env) (s : State) (m : MethodId) (args : Array Value) (below : List Frame) (meth : Method) (c : Code) (T : State) (locs : List Loc),
    p.tables.exec = Jvm.exec → Z.Warmed39 s.vm → c.code = bytes → c.maxLocals = maxL → s.vm.findClass own = some m.cls → meth.sig.returnType = ret → meth.locks = false → meth.name = nm → n0 ≤ s.heap.size →
    Stand p l e R s m args below meth c T locs cells slots → T.heap = h → Fr n0 locs → Endz p e below s R n0 P T (mkF m pc Ls st)
/-- a method's contract where it is called with these arguments over this heap -/
def ConW (ws : List Jvm.Cond) (l : Launch) (Z : State) (y : MethodName) (bytes : ByteArray) (maxL : Nat) (ret : Option FieldType) (rm : Room) (as : Array Value) (h : Heap) (n0 : Nat) (P : Option Value → Heap → Prop) : Prop :=
  MetFree l y (head1 (Jvm.Cond.code y bytes maxL ret :: ws) rm) (fun a U => a = as ∧ Z.Warmed39 U.vm ∧ U.heap = h) (fun _ _ _ _ _ => True) (fun _ U o U' => ∃ v L, o = .returned v ∧ (P v U'.heap ∧ Fr n0 L) ∧ FrameEnd U o U' L rm.cells rm.slots)
abbrev Con := ConW []
section Rules
variable {l : Launch} {R : Room} {Z : State} {own nm : String} {bytes : ByteArray} {maxL : Nat} {ret : Option FieldType} {n0 : Nat} {P : Option Value → Heap → Prop} {h : Heap} {cells slots pc : Nat} {Ls : Array Slot} {st : List Value} {a0 : Array Value}
theorem Endz.step {p : Program} {e : Env} {below : List Frame} {s : State} {T T' : State} {g g' : JFrame} (k : Endz p e below s R n0 P T' g') (f : ∀ t, Steps p.tables e below (T'.setTop g') t → Steps p.tables e below (T.setTop g) t) : Endz p e below s R n0 P T g := by
  obtain ⟨s₂, o, h1, h2⟩ := k
  exact ⟨s₂, o, f _ h1, h2⟩
theorem W.step {pc' : Nat} {Ls' : Array Slot} {st' : List Value} (k : W l R Z own nm bytes maxL ret n0 P h cells slots pc' Ls' st')
    (f : ∀ (p : Program) (e : Env) (s : State) (m : MethodId) (args : Array Value) (below : List Frame) (meth : Method) (c : Code) (T : State) (locs : List Loc), p.tables.exec = Jvm.exec → Z.Warmed39 s.vm → c.code = bytes → s.vm.findClass own = some m.cls → Stand p l e R s m args below meth c T locs cells slots → T.heap = h →
      ∀ t, Steps p.tables e below (T.setTop (mkF m pc' Ls' st')) t → Steps p.tables e below (T.setTop (mkF m pc Ls st)) t) : W l R Z own nm bytes maxL ret n0 P h cells slots pc Ls st := by
  intro p e s m args below meth c T locs hx hZ hby hml hown hret hlk hnm hn0 X eT N
  exact (k p e s m args below meth c T locs hx hZ hby hml hown hret hlk hnm hn0 X eT N).step (f p e s m args below meth c T locs hx hZ hby hown X eT)
theorem W.post {P' : Option Value → Heap → Prop} (k : W l R Z own nm bytes maxL ret n0 P' h cells slots pc Ls st) (f : ∀ v h', P' v h' → P v h') : W l R Z own nm bytes maxL ret n0 P h cells slots pc Ls st := by
  intro p e s m args below meth c T locs hx hZ hby hml hown hret hlk hnm hn0 X eT N
  obtain ⟨s₂, o, h1, h2, h3, v, L, h4, h5, h6⟩ := k p e s m args below meth c T locs hx hZ hby hml hown hret hlk hnm hn0 X eT N
  exact ⟨s₂, o, h1, h2, h3, v, L, h4, ⟨f _ _ h5.1, h5.2⟩, h6⟩
theorem W.mono {cells' slots' : Nat} (k : W l R Z own nm bytes maxL ret n0 P h cells' slots' pc Ls st) (hc : cells ≤ cells') (hs : slots ≤ slots') : W l R Z own nm bytes maxL ret n0 P h cells slots pc Ls st := by
  intro p e s m args below meth c T locs hx hZ hby hml hown hret hlk hnm hn0 X eT N
  exact k p e s m args below meth c T locs hx hZ hby hml hown hret hlk hnm hn0 { X with same := X.same.mono hc hs } eT N
theorem ConW.post {ws : List Jvm.Cond} {y : MethodName} {rm : Room} {as : Array Value} {P' : Option Value → Heap → Prop} (k : ConW ws l Z y bytes maxL ret rm as h n0 P') (f : ∀ v h', P' v h' → P v h') : ConW ws l Z y bytes maxL ret rm as h n0 P := by
  intro p e ha hc hk s m args below hf happ hP hK
  obtain ⟨n, o, h1, h2, h3, v, L, h4, h5, h6⟩ := k p e ha hc hk s m args below hf happ hP hK
  exact ⟨n, o, h1, h2, h3, v, L, h4, ⟨f _ _ h5.1, h5.2⟩, h6⟩
theorem ConW.of_W {ws : List Jvm.Cond} {y : MethodName} {rm : Room} {as : Array Value} (hy : plainFor y = true) (hn : n0 ≤ h.size) (hef : ∀ m, entryFrame m as maxL = mkF m 0 Ls []) (k : W l rm Z y.cls y.name bytes maxL ret n0 P h 0 0 0 Ls []) : ConW ws l Z y bytes maxL ret rm as h n0 P := by
  refine MetFree.of_bodySF hy hisR ?_
  intro p e s m args below meth c s₁ Bd hml0 hP hK
  obtain ⟨rfl, hZ, hh⟩ := hP
  have hown : s.vm.findClass y.cls = some m.cls := findClass_of_methodNamed Bd.named
  have hnm := (name_of_methodNamed Bd.named Bd.method).1
  have X0 : Stand p l e rm s m _ below meth c s₁ [] 0 0 := Stand.of_body Bd
  have e0 : s₁.heap = h := by rw [← hh, Bd.state]; rfl
  obtain ⟨s₂, o, h1, h2⟩ := k p e s m _ below meth c s₁ [] Bd.exec hZ Bd.bytes hml0 hown Bd.returns (BodyLoose.notSynchronized Bd) hnm (by rw [hh]; exact hn) X0 e0 (Fr.nil n0)
  exact ⟨s₂, o, castTop (hef m) h1, h2⟩
/-! pure steps -/
theorem W.iadd {x y : Int32} (n : Nat) (hd : decode bytes pc = .ok (.iadd, 1)) (hn : pc + 1 = n) (v : Int32) (hv : x + y = v) (k : W l R Z own nm bytes maxL ret n0 P h cells slots n Ls (.int v :: st)) : W l R Z own nm bytes maxL ret n0 P h cells slots pc Ls (.int y :: .int x :: st) := by
  subst hn
  exact k.step fun p e s m args below meth c T locs hx hZ hby hown X eT t q => XS.iadd X.here hx rfl (hb hby hd) rfl (hv ▸ q)
theorem W.ladd {x y : Int64} (n : Nat) (hd : decode bytes pc = .ok (.ladd, 1)) (hn : pc + 1 = n) (v : Int64) (hv : x + y = v) (k : W l R Z own nm bytes maxL ret n0 P h cells slots n Ls (.long v :: st)) : W l R Z own nm bytes maxL ret n0 P h cells slots pc Ls (.long y :: .long x :: st) := by
  subst hn
  exact k.step fun p e s m args below meth c T locs hx hZ hby hown X eT t q => XS.ladd X.here hx rfl (hb hby hd) rfl (hv ▸ q)
theorem W.isub {x y : Int32} (n : Nat) (hd : decode bytes pc = .ok (.isub, 1)) (hn : pc + 1 = n) (v : Int32) (hv : x - y = v) (k : W l R Z own nm bytes maxL ret n0 P h cells slots n Ls (.int v :: st)) : W l R Z own nm bytes maxL ret n0 P h cells slots pc Ls (.int y :: .int x :: st) := by
  subst hn
  exact k.step fun p e s m args below meth c T locs hx hZ hby hown X eT t q => XS.isub X.here hx rfl (hb hby hd) rfl (hv ▸ q)
theorem W.lsub {x y : Int64} (n : Nat) (hd : decode bytes pc = .ok (.lsub, 1)) (hn : pc + 1 = n) (v : Int64) (hv : x - y = v) (k : W l R Z own nm bytes maxL ret n0 P h cells slots n Ls (.long v :: st)) : W l R Z own nm bytes maxL ret n0 P h cells slots pc Ls (.long y :: .long x :: st) := by
  subst hn
  exact k.step fun p e s m args below meth c T locs hx hZ hby hown X eT t q => XS.lsub X.here hx rfl (hb hby hd) rfl (hv ▸ q)
theorem W.imul {x y : Int32} (n : Nat) (hd : decode bytes pc = .ok (.imul, 1)) (hn : pc + 1 = n) (v : Int32) (hv : x * y = v) (k : W l R Z own nm bytes maxL ret n0 P h cells slots n Ls (.int v :: st)) : W l R Z own nm bytes maxL ret n0 P h cells slots pc Ls (.int y :: .int x :: st) := by
  subst hn
  exact k.step fun p e s m args below meth c T locs hx hZ hby hown X eT t q => XS.imul X.here hx rfl (hb hby hd) rfl (hv ▸ q)
theorem W.lmul {x y : Int64} (n : Nat) (hd : decode bytes pc = .ok (.lmul, 1)) (hn : pc + 1 = n) (v : Int64) (hv : x * y = v) (k : W l R Z own nm bytes maxL ret n0 P h cells slots n Ls (.long v :: st)) : W l R Z own nm bytes maxL ret n0 P h cells slots pc Ls (.long y :: .long x :: st) := by
  subst hn
  exact k.step fun p e s m args below meth c T locs hx hZ hby hown X eT t q => XS.lmul X.here hx rfl (hb hby hd) rfl (hv ▸ q)
theorem W.iand {x y : Int32} (n : Nat) (hd : decode bytes pc = .ok (.iand, 1)) (hn : pc + 1 = n) (v : Int32) (hv : x &&& y = v) (k : W l R Z own nm bytes maxL ret n0 P h cells slots n Ls (.int v :: st)) : W l R Z own nm bytes maxL ret n0 P h cells slots pc Ls (.int y :: .int x :: st) := by
  subst hn
  exact k.step fun p e s m args below meth c T locs hx hZ hby hown X eT t q => XS.iand X.here hx rfl (hb hby hd) rfl (hv ▸ q)
theorem W.land {x y : Int64} (n : Nat) (hd : decode bytes pc = .ok (.land, 1)) (hn : pc + 1 = n) (v : Int64) (hv : x &&& y = v) (k : W l R Z own nm bytes maxL ret n0 P h cells slots n Ls (.long v :: st)) : W l R Z own nm bytes maxL ret n0 P h cells slots pc Ls (.long y :: .long x :: st) := by
  subst hn
  exact k.step fun p e s m args below meth c T locs hx hZ hby hown X eT t q => XS.land X.here hx rfl (hb hby hd) rfl (hv ▸ q)
theorem W.ior {x y : Int32} (n : Nat) (hd : decode bytes pc = .ok (.ior, 1)) (hn : pc + 1 = n) (v : Int32) (hv : x ||| y = v) (k : W l R Z own nm bytes maxL ret n0 P h cells slots n Ls (.int v :: st)) : W l R Z own nm bytes maxL ret n0 P h cells slots pc Ls (.int y :: .int x :: st) := by
  subst hn
  exact k.step fun p e s m args below meth c T locs hx hZ hby hown X eT t q => XS.ior X.here hx rfl (hb hby hd) rfl (hv ▸ q)
theorem W.lor {x y : Int64} (n : Nat) (hd : decode bytes pc = .ok (.lor, 1)) (hn : pc + 1 = n) (v : Int64) (hv : x ||| y = v) (k : W l R Z own nm bytes maxL ret n0 P h cells slots n Ls (.long v :: st)) : W l R Z own nm bytes maxL ret n0 P h cells slots pc Ls (.long y :: .long x :: st) := by
  subst hn
  exact k.step fun p e s m args below meth c T locs hx hZ hby hown X eT t q => XS.lor X.here hx rfl (hb hby hd) rfl (hv ▸ q)
theorem W.ixor {x y : Int32} (n : Nat) (hd : decode bytes pc = .ok (.ixor, 1)) (hn : pc + 1 = n) (v : Int32) (hv : x ^^^ y = v) (k : W l R Z own nm bytes maxL ret n0 P h cells slots n Ls (.int v :: st)) : W l R Z own nm bytes maxL ret n0 P h cells slots pc Ls (.int y :: .int x :: st) := by
  subst hn
  exact k.step fun p e s m args below meth c T locs hx hZ hby hown X eT t q => XS.ixor X.here hx rfl (hb hby hd) rfl (hv ▸ q)
theorem W.lxor {x y : Int64} (n : Nat) (hd : decode bytes pc = .ok (.lxor, 1)) (hn : pc + 1 = n) (v : Int64) (hv : x ^^^ y = v) (k : W l R Z own nm bytes maxL ret n0 P h cells slots n Ls (.long v :: st)) : W l R Z own nm bytes maxL ret n0 P h cells slots pc Ls (.long y :: .long x :: st) := by
  subst hn
  exact k.step fun p e s m args below meth c T locs hx hZ hby hown X eT t q => XS.lxor X.here hx rfl (hb hby hd) rfl (hv ▸ q)
theorem W.idiv {x y : Int32} (n : Nat) (hd : decode bytes pc = .ok (.idiv, 1)) (hn : pc + 1 = n) (hy : y ≠ 0) (v : Int32) (hv : x / y = v) (k : W l R Z own nm bytes maxL ret n0 P h cells slots n Ls (.int v :: st)) : W l R Z own nm bytes maxL ret n0 P h cells slots pc Ls (.int y :: .int x :: st) := by
  subst hn
  exact k.step fun p e s m args below meth c T locs hx hZ hby hown X eT t q => XS.idiv X.here hx rfl (hb hby hd) rfl hy (hv ▸ q)
theorem W.irem {x y : Int32} (n : Nat) (hd : decode bytes pc = .ok (.irem, 1)) (hn : pc + 1 = n) (hy : y ≠ 0) (v : Int32) (hv : x % y = v) (k : W l R Z own nm bytes maxL ret n0 P h cells slots n Ls (.int v :: st)) : W l R Z own nm bytes maxL ret n0 P h cells slots pc Ls (.int y :: .int x :: st) := by
  subst hn
  exact k.step fun p e s m args below meth c T locs hx hZ hby hown X eT t q => iremM X hx rfl (hb hby hd) rfl hy (hv ▸ q)
theorem W.ldiv {x y : Int64} (n : Nat) (hd : decode bytes pc = .ok (.ldiv, 1)) (hn : pc + 1 = n) (hy : y ≠ 0) (v : Int64) (hv : x / y = v) (k : W l R Z own nm bytes maxL ret n0 P h cells slots n Ls (.long v :: st)) : W l R Z own nm bytes maxL ret n0 P h cells slots pc Ls (.long y :: .long x :: st) := by
  subst hn
  exact k.step fun p e s m args below meth c T locs hx hZ hby hown X eT t q => XS.ldiv X.here hx rfl (hb hby hd) rfl hy (hv ▸ q)
theorem W.lrem {x y : Int64} (n : Nat) (hd : decode bytes pc = .ok (.lrem, 1)) (hn : pc + 1 = n) (hy : y ≠ 0) (v : Int64) (hv : x % y = v) (k : W l R Z own nm bytes maxL ret n0 P h cells slots n Ls (.long v :: st)) : W l R Z own nm bytes maxL ret n0 P h cells slots pc Ls (.long y :: .long x :: st) := by
  subst hn
  exact k.step fun p e s m args below meth c T locs hx hZ hby hown X eT t q => XS.lrem X.here hx rfl (hb hby hd) rfl hy ((lrem_mod x y).trans hv ▸ q)
theorem W.ishl {x y : Int32} (n : Nat) (hd : decode bytes pc = .ok (.ishl, 1)) (hn : pc + 1 = n) (v : Int32) (hv : x <<< (y &&& 31) = v) (k : W l R Z own nm bytes maxL ret n0 P h cells slots n Ls (.int v :: st)) : W l R Z own nm bytes maxL ret n0 P h cells slots pc Ls (.int y :: .int x :: st) := by
  subst hn
  exact k.step fun p e s m args below meth c T locs hx hZ hby hown X eT t q => XS.ishl X.here hx rfl (hb hby hd) rfl (hv ▸ q)
theorem W.ishr {x y : Int32} (n : Nat) (hd : decode bytes pc = .ok (.ishr, 1)) (hn : pc + 1 = n) (v : Int32) (hv : x >>> (y &&& 31) = v) (k : W l R Z own nm bytes maxL ret n0 P h cells slots n Ls (.int v :: st)) : W l R Z own nm bytes maxL ret n0 P h cells slots pc Ls (.int y :: .int x :: st) := by
  subst hn
  exact k.step fun p e s m args below meth c T locs hx hZ hby hown X eT t q => XS.ishr X.here hx rfl (hb hby hd) rfl (hv ▸ q)
theorem W.iushr {x y : Int32} (n : Nat) (hd : decode bytes pc = .ok (.iushr, 1)) (hn : pc + 1 = n) (v : Int32) (hv : (x.toUInt32 >>> (y &&& 31).toUInt32).toInt32 = v) (k : W l R Z own nm bytes maxL ret n0 P h cells slots n Ls (.int v :: st)) : W l R Z own nm bytes maxL ret n0 P h cells slots pc Ls (.int y :: .int x :: st) := by
  subst hn
  exact k.step fun p e s m args below meth c T locs hx hZ hby hown X eT t q => XS.iushr X.here hx rfl (hb hby hd) rfl (hv ▸ q)
theorem W.lshl {x : Int64} {y : Int32} (n : Nat) (hd : decode bytes pc = .ok (.lshl, 1)) (hn : pc + 1 = n) (v : Int64) (hv : x <<< (y &&& 0x3f).toInt64 = v) (k : W l R Z own nm bytes maxL ret n0 P h cells slots n Ls (.long v :: st)) : W l R Z own nm bytes maxL ret n0 P h cells slots pc Ls (.int y :: .long x :: st) := by
  subst hn
  exact k.step fun p e s m args below meth c T locs hx hZ hby hown X eT t q => XS.lshl X.here hx rfl (hb hby hd) rfl (hv ▸ q)
theorem W.lshr {x : Int64} {y : Int32} (n : Nat) (hd : decode bytes pc = .ok (.lshr, 1)) (hn : pc + 1 = n) (v : Int64) (hv : x >>> (y &&& 0x3f).toInt64 = v) (k : W l R Z own nm bytes maxL ret n0 P h cells slots n Ls (.long v :: st)) : W l R Z own nm bytes maxL ret n0 P h cells slots pc Ls (.int y :: .long x :: st) := by
  subst hn
  exact k.step fun p e s m args below meth c T locs hx hZ hby hown X eT t q => XS.lshr X.here hx rfl (hb hby hd) rfl (hv ▸ q)
theorem W.lushr {x : Int64} {y : Int32} (n : Nat) (hd : decode bytes pc = .ok (.lushr, 1)) (hn : pc + 1 = n) (v : Int64) (hv : (x.toUInt64 >>> (y &&& 0x3f).toInt64.toUInt64).toInt64 = v) (k : W l R Z own nm bytes maxL ret n0 P h cells slots n Ls (.long v :: st)) : W l R Z own nm bytes maxL ret n0 P h cells slots pc Ls (.int y :: .long x :: st) := by
  subst hn
  exact k.step fun p e s m args below meth c T locs hx hZ hby hown X eT t q => XS.lushr X.here hx rfl (hb hby hd) rfl (hv ▸ q)
theorem W.ineg {x : Int32} (n : Nat) (hd : decode bytes pc = .ok (.ineg, 1)) (hn : pc + 1 = n) (v : Int32) (hv : -x = v) (k : W l R Z own nm bytes maxL ret n0 P h cells slots n Ls (.int v :: st)) : W l R Z own nm bytes maxL ret n0 P h cells slots pc Ls (.int x :: st) := by
  subst hn
  exact k.step fun p e s m args below meth c T locs hx hZ hby hown X eT t q => XS.ineg X.here hx rfl (hb hby hd) rfl (hv ▸ q)
theorem W.lneg {x : Int64} (n : Nat) (hd : decode bytes pc = .ok (.lneg, 1)) (hn : pc + 1 = n) (v : Int64) (hv : -x = v) (k : W l R Z own nm bytes maxL ret n0 P h cells slots n Ls (.long v :: st)) : W l R Z own nm bytes maxL ret n0 P h cells slots pc Ls (.long x :: st) := by
  subst hn
  exact k.step fun p e s m args below meth c T locs hx hZ hby hown X eT t q => XS.lneg X.here hx rfl (hb hby hd) rfl (hv ▸ q)
theorem W.i2l {x : Int32} (n : Nat) (hd : decode bytes pc = .ok (.i2l, 1)) (hn : pc + 1 = n) (v : Int64) (hv : x.toInt64 = v) (k : W l R Z own nm bytes maxL ret n0 P h cells slots n Ls (.long v :: st)) : W l R Z own nm bytes maxL ret n0 P h cells slots pc Ls (.int x :: st) := by
  subst hn
  exact k.step fun p e s m args below meth c T locs hx hZ hby hown X eT t q => XS.i2l X.here hx rfl (hb hby hd) rfl (hv ▸ q)
theorem W.l2i {x : Int64} (n : Nat) (hd : decode bytes pc = .ok (.l2i, 1)) (hn : pc + 1 = n) (v : Int32) (hv : x.toInt32 = v) (k : W l R Z own nm bytes maxL ret n0 P h cells slots n Ls (.int v :: st)) : W l R Z own nm bytes maxL ret n0 P h cells slots pc Ls (.long x :: st) := by
  subst hn
  exact k.step fun p e s m args below meth c T locs hx hZ hby hown X eT t q => XS.l2i X.here hx rfl (hb hby hd) rfl (hv ▸ q)
theorem W.i2b {x : Int32} (n : Nat) (hd : decode bytes pc = .ok (.i2b, 1)) (hn : pc + 1 = n) (v : Int32) (hv : x.toInt8.toInt32 = v) (k : W l R Z own nm bytes maxL ret n0 P h cells slots n Ls (.int v :: st)) : W l R Z own nm bytes maxL ret n0 P h cells slots pc Ls (.int x :: st) := by
  subst hn
  exact k.step fun p e s m args below meth c T locs hx hZ hby hown X eT t q => XS.i2b X.here hx rfl (hb hby hd) rfl (hv ▸ q)
theorem W.i2s {x : Int32} (n : Nat) (hd : decode bytes pc = .ok (.i2s, 1)) (hn : pc + 1 = n) (v : Int32) (hv : x.toInt16.toInt32 = v) (k : W l R Z own nm bytes maxL ret n0 P h cells slots n Ls (.int v :: st)) : W l R Z own nm bytes maxL ret n0 P h cells slots pc Ls (.int x :: st) := by
  subst hn
  exact k.step fun p e s m args below meth c T locs hx hZ hby hown X eT t q => XS.i2s X.here hx rfl (hb hby hd) rfl (hv ▸ q)
theorem W.i2c {x : Int32} (n : Nat) (hd : decode bytes pc = .ok (.i2c, 1)) (hn : pc + 1 = n) (v : Int32) (hv : x.toUInt32.toUInt16.toUInt32.toInt32 = v) (k : W l R Z own nm bytes maxL ret n0 P h cells slots n Ls (.int v :: st)) : W l R Z own nm bytes maxL ret n0 P h cells slots pc Ls (.int x :: st) := by
  subst hn
  exact k.step fun p e s m args below meth c T locs hx hZ hby hown X eT t q => XS.i2c X.here hx rfl (hb hby hd) rfl (hv ▸ q)
theorem W.lcmp {x y : Int64} (n : Nat) (hd : decode bytes pc = .ok (.lcmp, 1)) (hn : pc + 1 = n) (v : Int32) (hv : lcmpW x y = v) (k : W l R Z own nm bytes maxL ret n0 P h cells slots n Ls (.int v :: st)) : W l R Z own nm bytes maxL ret n0 P h cells slots pc Ls (.long y :: .long x :: st) := by
  subst hn
  exact k.step fun p e s m args below meth c T locs hx hZ hby hown X eT t q => XS.lcmp X.here hx rfl (hb hby hd) rfl ((show (if x > y then 1 else if x = y then 0 else -1) = v from hv) ▸ q)
theorem W.iconst {i : Int} (n : Nat) (hd : decode bytes pc = .ok (.iconst i, 1)) (hn : pc + 1 = n) (v : Int32) (hv : Int32.ofInt i = v) (k : W l R Z own nm bytes maxL ret n0 P h cells slots n Ls (.int v :: st)) : W l R Z own nm bytes maxL ret n0 P h cells slots pc Ls st := by
  subst hn
  exact k.step fun p e s m args below meth c T locs hx hZ hby hown X eT t q => XS.iconst X.here hx rfl (hb hby hd) (hv ▸ q)
theorem W.bipush {i : Int} (n : Nat) (hd : decode bytes pc = .ok (.bipush i, 2)) (hn : pc + 2 = n) (v : Int32) (hv : (Int8.ofInt i).toInt32 = v) (k : W l R Z own nm bytes maxL ret n0 P h cells slots n Ls (.int v :: st)) : W l R Z own nm bytes maxL ret n0 P h cells slots pc Ls st := by
  subst hn
  exact k.step fun p e s m args below meth c T locs hx hZ hby hown X eT t q => XS.bipush X.here hx rfl (hb hby hd) (hv ▸ q)
theorem W.sipush {i : Int} (n : Nat) (hd : decode bytes pc = .ok (.sipush i, 3)) (hn : pc + 3 = n) (v : Int32) (hv : (Int16.ofInt i).toInt32 = v) (k : W l R Z own nm bytes maxL ret n0 P h cells slots n Ls (.int v :: st)) : W l R Z own nm bytes maxL ret n0 P h cells slots pc Ls st := by
  subst hn
  exact k.step fun p e s m args below meth c T locs hx hZ hby hown X eT t q => XS.sipush X.here hx rfl (hb hby hd) (hv ▸ q)
theorem W.lconst {i : F2} (n : Nat) (hd : decode bytes pc = .ok (.lconst i, 1)) (hn : pc + 1 = n) (v : Int64) (hv : Int64.ofNat i = v) (k : W l R Z own nm bytes maxL ret n0 P h cells slots n Ls (.long v :: st)) : W l R Z own nm bytes maxL ret n0 P h cells slots pc Ls st := by
  subst hn
  exact k.step fun p e s m args below meth c T locs hx hZ hby hown X eT t q => XS.lconst X.here hx rfl (hb hby hd) (hv ▸ q)
theorem W.aconst_null (n : Nat) (hd : decode bytes pc = .ok (.aconst_null, 1)) (hn : pc + 1 = n) (k : W l R Z own nm bytes maxL ret n0 P h cells slots n Ls (.null :: st)) : W l R Z own nm bytes maxL ret n0 P h cells slots pc Ls st := by
  subst hn
  exact k.step fun p e s m args below meth c T locs hx hZ hby hown X eT t q => XS.aconstNull X.here hx rfl (hb hby hd) q
theorem W.ldcI {i : Nat} {v : Int32} (n : Nat) (hd : decode bytes pc = .ok (.ldc i, 2)) (hn : pc + 2 = n) (w : (Jvm.Cond.constant own i v).before a0 Z = true) (k : W l R Z own nm bytes maxL ret n0 P h cells slots n Ls (.int v :: st)) : W l R Z own nm bytes maxL ret n0 P h cells slots pc Ls st := by
  subst hn
  exact k.step fun p e s m args below meth c T locs hx hZ hby hown X eT t q => X.ldcI hx hown (mvT hZ w) rfl (hb hby hd) q
theorem W.ldcWI {i : Nat} {v : Int32} (n : Nat) (hd : decode bytes pc = .ok (.ldc_w i, 3)) (hn : pc + 3 = n) (w : (Jvm.Cond.constant own i v).before a0 Z = true) (k : W l R Z own nm bytes maxL ret n0 P h cells slots n Ls (.int v :: st)) : W l R Z own nm bytes maxL ret n0 P h cells slots pc Ls st := by
  subst hn
  exact k.step fun p e s m args below meth c T locs hx hZ hby hown X eT t q => X.ldcWI hx hown (mvT hZ w) rfl (hb hby hd) q
theorem W.ldc2J {i : Nat} {v : Int64} (n : Nat) (hd : decode bytes pc = .ok (.ldc2_w i, 3)) (hn : pc + 3 = n) (w : (Jvm.Cond.constantLong own i v).before a0 Z = true) (k : W l R Z own nm bytes maxL ret n0 P h cells slots n Ls (.long v :: st)) : W l R Z own nm bytes maxL ret n0 P h cells slots pc Ls st := by
  subst hn
  exact k.step fun p e s m args below meth c T locs hx hZ hby hown X eT t q => X.ldc2J hx hown (mvT hZ w) rfl (hb hby hd) q
theorem W.ldcR {i : Nat} {text : String} {a : Addr} (n : Nat) (hd : decode bytes pc = .ok (.ldc i, 2)) (hn : pc + 2 = n) (w : (Jvm.Cond.stringRef own i text).before a0 Z = true) (L : RoadKit.Lit Z own i a) (k : W l R Z own nm bytes maxL ret n0 P h cells slots n Ls (.ref a :: st)) : W l R Z own nm bytes maxL ret n0 P h cells slots pc Ls st := by
  subst hn
  exact k.step fun p e s m args below meth c T locs hx hZ hby hown X eT t q => RoadKit.ldcR X hx hZ hown w L (g := mkF m pc Ls st) rfl (hb hby hd) t q
theorem W.iload {i : Nat} {v : Int32} (n : Nat) (hd : decode bytes pc = .ok (.iload i, 2)) (hn : pc + 2 = n) (hl : Ls[i]? = some (.val (.int v))) (k : W l R Z own nm bytes maxL ret n0 P h cells slots n Ls (.int v :: st)) : W l R Z own nm bytes maxL ret n0 P h cells slots pc Ls st := by
  subst hn
  exact k.step fun p e s m args below meth c T locs hx hZ hby hown X eT t q => XS.iload X.here hx rfl (hb hby hd) hl q
theorem W.iloadN {i : F4} {v : Int32} (n : Nat) (hd : decode bytes pc = .ok (.iload_n i, 1)) (hn : pc + 1 = n) (hl : Ls[i.val]? = some (.val (.int v))) (k : W l R Z own nm bytes maxL ret n0 P h cells slots n Ls (.int v :: st)) : W l R Z own nm bytes maxL ret n0 P h cells slots pc Ls st := by
  subst hn
  exact k.step fun p e s m args below meth c T locs hx hZ hby hown X eT t q => XS.iloadN X.here hx rfl (hb hby hd) hl q
theorem W.lload {i : Nat} {v : Int64} (n : Nat) (hd : decode bytes pc = .ok (.lload i, 2)) (hn : pc + 2 = n) (hl : Ls[i]? = some (.val (.long v))) (k : W l R Z own nm bytes maxL ret n0 P h cells slots n Ls (.long v :: st)) : W l R Z own nm bytes maxL ret n0 P h cells slots pc Ls st := by
  subst hn
  exact k.step fun p e s m args below meth c T locs hx hZ hby hown X eT t q => XS.lload X.here hx rfl (hb hby hd) hl q
theorem W.lloadN {i : F4} {v : Int64} (n : Nat) (hd : decode bytes pc = .ok (.lload_n i, 1)) (hn : pc + 1 = n) (hl : Ls[i.val]? = some (.val (.long v))) (k : W l R Z own nm bytes maxL ret n0 P h cells slots n Ls (.long v :: st)) : W l R Z own nm bytes maxL ret n0 P h cells slots pc Ls st := by
  subst hn
  exact k.step fun p e s m args below meth c T locs hx hZ hby hown X eT t q => XS.lloadN X.here hx rfl (hb hby hd) hl q
theorem W.aload {i : Nat} {v : Value} (n : Nat) (hd : decode bytes pc = .ok (.aload i, 2)) (hn : pc + 2 = n) (hl : Ls[i]? = some (.val v)) (hv : v.isRef = true) (k : W l R Z own nm bytes maxL ret n0 P h cells slots n Ls (v :: st)) : W l R Z own nm bytes maxL ret n0 P h cells slots pc Ls st := by
  subst hn
  exact k.step fun p e s m args below meth c T locs hx hZ hby hown X eT t q => XS.aload X.here hx rfl (hb hby hd) hl hv q
theorem W.aloadN {i : F4} {v : Value} (n : Nat) (hd : decode bytes pc = .ok (.aload_n i, 1)) (hn : pc + 1 = n) (hl : Ls[i.val]? = some (.val v)) (hv : v.isRef = true) (k : W l R Z own nm bytes maxL ret n0 P h cells slots n Ls (v :: st)) : W l R Z own nm bytes maxL ret n0 P h cells slots pc Ls st := by
  subst hn
  exact k.step fun p e s m args below meth c T locs hx hZ hby hown X eT t q => XS.aloadN X.here hx rfl (hb hby hd) hl hv q
theorem W.istore {i : Nat} {v : Int32} (n : Nat) (hd : decode bytes pc = .ok (.istore i, 2)) (hn : pc + 2 = n) (Ls' : Array Slot) (hl : storeLocals Ls i (.int v) = some Ls') (k : W l R Z own nm bytes maxL ret n0 P h cells slots n Ls' st) : W l R Z own nm bytes maxL ret n0 P h cells slots pc Ls (.int v :: st) := by
  subst hn
  exact k.step fun p e s m args below meth c T locs hx hZ hby hown X eT t q => XS.istore X.here hx rfl (hb hby hd) rfl hl q
theorem W.istoreN {i : F4} {v : Int32} (n : Nat) (hd : decode bytes pc = .ok (.istore_n i, 1)) (hn : pc + 1 = n) (Ls' : Array Slot) (hl : storeLocals Ls i.val (.int v) = some Ls') (k : W l R Z own nm bytes maxL ret n0 P h cells slots n Ls' st) : W l R Z own nm bytes maxL ret n0 P h cells slots pc Ls (.int v :: st) := by
  subst hn
  exact k.step fun p e s m args below meth c T locs hx hZ hby hown X eT t q => XS.istoreN X.here hx rfl (hb hby hd) rfl hl q
theorem W.lstore {i : Nat} {v : Int64} (n : Nat) (hd : decode bytes pc = .ok (.lstore i, 2)) (hn : pc + 2 = n) (Ls' : Array Slot) (hl : storeLocals Ls i (.long v) = some Ls') (k : W l R Z own nm bytes maxL ret n0 P h cells slots n Ls' st) : W l R Z own nm bytes maxL ret n0 P h cells slots pc Ls (.long v :: st) := by
  subst hn
  exact k.step fun p e s m args below meth c T locs hx hZ hby hown X eT t q => XS.lstore X.here hx rfl (hb hby hd) rfl hl q
theorem W.lstoreN {i : F4} {v : Int64} (n : Nat) (hd : decode bytes pc = .ok (.lstore_n i, 1)) (hn : pc + 1 = n) (Ls' : Array Slot) (hl : storeLocals Ls i.val (.long v) = some Ls') (k : W l R Z own nm bytes maxL ret n0 P h cells slots n Ls' st) : W l R Z own nm bytes maxL ret n0 P h cells slots pc Ls (.long v :: st) := by
  subst hn
  exact k.step fun p e s m args below meth c T locs hx hZ hby hown X eT t q => XS.lstoreN X.here hx rfl (hb hby hd) rfl hl q
theorem W.astore {i : Nat} {v : Value} (n : Nat) (hd : decode bytes pc = .ok (.astore i, 2)) (hn : pc + 2 = n) (hv : v.isRef = true) (Ls' : Array Slot) (hl : storeLocals Ls i v = some Ls') (k : W l R Z own nm bytes maxL ret n0 P h cells slots n Ls' st) : W l R Z own nm bytes maxL ret n0 P h cells slots pc Ls (v :: st) := by
  subst hn
  exact k.step fun p e s m args below meth c T locs hx hZ hby hown X eT t q => XS.astore X.here hx rfl (hb hby hd) rfl hv hl q
theorem W.astoreN {i : F4} {v : Value} (n : Nat) (hd : decode bytes pc = .ok (.astore_n i, 1)) (hn : pc + 1 = n) (hv : v.isRef = true) (Ls' : Array Slot) (hl : storeLocals Ls i.val v = some Ls') (k : W l R Z own nm bytes maxL ret n0 P h cells slots n Ls' st) : W l R Z own nm bytes maxL ret n0 P h cells slots pc Ls (v :: st) := by
  subst hn
  exact k.step fun p e s m args below meth c T locs hx hZ hby hown X eT t q => XS.astoreN X.here hx rfl (hb hby hd) rfl hv hl q
theorem W.iinc {i : Nat} {cst : Int} {x : Int32} (n : Nat) (hd : decode bytes pc = .ok (.iinc i cst, 3)) (hn : pc + 3 = n) (hx0 : Ls[i]? = some (.val (.int x))) (v : Int32) (hv : x + Int32.ofInt cst = v) (Ls' : Array Slot) (hl : storeLocals Ls i (.int v) = some Ls') (k : W l R Z own nm bytes maxL ret n0 P h cells slots n Ls' st) : W l R Z own nm bytes maxL ret n0 P h cells slots pc Ls st := by
  subst hn
  exact k.step fun p e s m args below meth c T locs hx hZ hby hown X eT t q => XS.iinc X.here hx rfl (hb hby hd) hx0 (hv ▸ hl) q
theorem W.dup {v : Value} (n : Nat) (hd : decode bytes pc = .ok (.dup, 1)) (hn : pc + 1 = n) (hc : v.category = 1) (k : W l R Z own nm bytes maxL ret n0 P h cells slots n Ls (v :: v :: st)) : W l R Z own nm bytes maxL ret n0 P h cells slots pc Ls (v :: st) := by
  subst hn
  exact k.step fun p e s m args below meth c T locs hx hZ hby hown X eT t q => XS.dup X.here hx rfl (hb hby hd) rfl hc q
theorem W.pop {v : Value} (n : Nat) (hd : decode bytes pc = .ok (.pop, 1)) (hn : pc + 1 = n) (hc : v.category = 1) (k : W l R Z own nm bytes maxL ret n0 P h cells slots n Ls st) : W l R Z own nm bytes maxL ret n0 P h cells slots pc Ls (v :: st) := by
  subst hn
  exact k.step fun p e s m args below meth c T locs hx hZ hby hown X eT t q => XS.pop X.here hx rfl (hb hby hd) rfl hc q
theorem W.dup_x1 {v w : Value} (n : Nat) (hd : decode bytes pc = .ok (.dup_x1, 1)) (hn : pc + 1 = n) (hc : v.category = 1) (hc' : w.category = 1) (k : W l R Z own nm bytes maxL ret n0 P h cells slots n Ls (v :: w :: v :: st)) : W l R Z own nm bytes maxL ret n0 P h cells slots pc Ls (v :: w :: st) := by
  subst hn
  exact k.step fun p e s m args below meth c T locs hx hZ hby hown X eT t q => XS.dupX1 X.here hx rfl (hb hby hd) rfl hc hc' q
theorem W.dup2 {v w : Value} (n : Nat) (hd : decode bytes pc = .ok (.dup2, 1)) (hn : pc + 1 = n) (hc : v.category = 1) (hc' : w.category = 1) (k : W l R Z own nm bytes maxL ret n0 P h cells slots n Ls (v :: w :: v :: w :: st)) : W l R Z own nm bytes maxL ret n0 P h cells slots pc Ls (v :: w :: st) := by
  subst hn
  exact k.step fun p e s m args below meth c T locs hx hZ hby hown X eT t q => XT.dup2 X.here hx rfl (hb hby hd) rfl hc hc' q
theorem W.goto {o : Int} (n : Nat) (hd : decode bytes pc = .ok (.goto o, 3)) (hn : (pc : Int) + o = (n : Int)) (k : W l R Z own nm bytes maxL ret n0 P h cells slots n Ls st) : W l R Z own nm bytes maxL ret n0 P h cells slots pc Ls st :=
  k.step fun p e s m args below meth c T locs hx hZ hby hown X eT t q => XS.goto X.here hx rfl (pc0 := pc) (pc' := n) rfl (hb hby hd) (by omega) (by omega) q
theorem W.icmp_lt {x y : Int32} {o : Int} (n n' : Nat) (hd : decode bytes pc = .ok (.if_icmp .lt o, 3)) (hn : (pc : Int) + o = (n : Int)) (hn' : pc + 3 = n') (k : x < y → W l R Z own nm bytes maxL ret n0 P h cells slots n Ls st) (k' : ¬ x < y → W l R Z own nm bytes maxL ret n0 P h cells slots n' Ls st) : W l R Z own nm bytes maxL ret n0 P h cells slots pc Ls (.int y :: .int x :: st) := by
  subst hn'
  by_cases hc : x < y
  · exact (k hc).step fun p e s m args below meth c T locs hx hZ hby hown X eT t q => XS.icmpYes X.here hx rfl (pc0 := pc) (pc' := n) rfl (hb hby hd) rfl (tlt hc).1 (by omega) (by omega) q
  · exact (k' hc).step fun p e s m args below meth c T locs hx hZ hby hown X eT t q => XS.icmpNo X.here hx rfl (hb hby hd) rfl (flt hc).1 q
theorem W.if_lt {x : Int32} {o : Int} (n n' : Nat) (hd : decode bytes pc = .ok (.ifCond .lt o, 3)) (hn : (pc : Int) + o = (n : Int)) (hn' : pc + 3 = n') (k : x < (0 : Int32) → W l R Z own nm bytes maxL ret n0 P h cells slots n Ls st) (k' : ¬ x < (0 : Int32) → W l R Z own nm bytes maxL ret n0 P h cells slots n' Ls st) : W l R Z own nm bytes maxL ret n0 P h cells slots pc Ls (.int x :: st) := by
  subst hn'
  by_cases hc : x < (0 : Int32)
  · exact (k hc).step fun p e s m args below meth c T locs hx hZ hby hown X eT t q => XS.ifYes X.here hx rfl (pc0 := pc) (pc' := n) rfl (hb hby hd) rfl ((if0 _ _).trans (tlt hc).1) (by omega) (by omega) q
  · exact (k' hc).step fun p e s m args below meth c T locs hx hZ hby hown X eT t q => XS.ifNo X.here hx rfl (hb hby hd) rfl ((if0 _ _).trans (flt hc).1) q
theorem W.icmp_ge {x y : Int32} {o : Int} (n n' : Nat) (hd : decode bytes pc = .ok (.if_icmp .ge o, 3)) (hn : (pc : Int) + o = (n : Int)) (hn' : pc + 3 = n') (k : ¬ x < y → W l R Z own nm bytes maxL ret n0 P h cells slots n Ls st) (k' : x < y → W l R Z own nm bytes maxL ret n0 P h cells slots n' Ls st) : W l R Z own nm bytes maxL ret n0 P h cells slots pc Ls (.int y :: .int x :: st) := by
  subst hn'
  by_cases hc : x < y
  · exact (k' hc).step fun p e s m args below meth c T locs hx hZ hby hown X eT t q => XS.icmpNo X.here hx rfl (hb hby hd) rfl (tlt hc).2.1 q
  · exact (k hc).step fun p e s m args below meth c T locs hx hZ hby hown X eT t q => XS.icmpYes X.here hx rfl (pc0 := pc) (pc' := n) rfl (hb hby hd) rfl (flt hc).2.1 (by omega) (by omega) q
theorem W.if_ge {x : Int32} {o : Int} (n n' : Nat) (hd : decode bytes pc = .ok (.ifCond .ge o, 3)) (hn : (pc : Int) + o = (n : Int)) (hn' : pc + 3 = n') (k : ¬ x < (0 : Int32) → W l R Z own nm bytes maxL ret n0 P h cells slots n Ls st) (k' : x < (0 : Int32) → W l R Z own nm bytes maxL ret n0 P h cells slots n' Ls st) : W l R Z own nm bytes maxL ret n0 P h cells slots pc Ls (.int x :: st) := by
  subst hn'
  by_cases hc : x < (0 : Int32)
  · exact (k' hc).step fun p e s m args below meth c T locs hx hZ hby hown X eT t q => XS.ifNo X.here hx rfl (hb hby hd) rfl ((if0 _ _).trans (tlt hc).2.1) q
  · exact (k hc).step fun p e s m args below meth c T locs hx hZ hby hown X eT t q => XS.ifYes X.here hx rfl (pc0 := pc) (pc' := n) rfl (hb hby hd) rfl ((if0 _ _).trans (flt hc).2.1) (by omega) (by omega) q
theorem W.icmp_gt {x y : Int32} {o : Int} (n n' : Nat) (hd : decode bytes pc = .ok (.if_icmp .gt o, 3)) (hn : (pc : Int) + o = (n : Int)) (hn' : pc + 3 = n') (k : y < x → W l R Z own nm bytes maxL ret n0 P h cells slots n Ls st) (k' : ¬ y < x → W l R Z own nm bytes maxL ret n0 P h cells slots n' Ls st) : W l R Z own nm bytes maxL ret n0 P h cells slots pc Ls (.int y :: .int x :: st) := by
  subst hn'
  by_cases hc : y < x
  · exact (k hc).step fun p e s m args below meth c T locs hx hZ hby hown X eT t q => XS.icmpYes X.here hx rfl (pc0 := pc) (pc' := n) rfl (hb hby hd) rfl (tlt hc).2.2.1 (by omega) (by omega) q
  · exact (k' hc).step fun p e s m args below meth c T locs hx hZ hby hown X eT t q => XS.icmpNo X.here hx rfl (hb hby hd) rfl (flt hc).2.2.1 q
theorem W.if_gt {x : Int32} {o : Int} (n n' : Nat) (hd : decode bytes pc = .ok (.ifCond .gt o, 3)) (hn : (pc : Int) + o = (n : Int)) (hn' : pc + 3 = n') (k : (0 : Int32) < x → W l R Z own nm bytes maxL ret n0 P h cells slots n Ls st) (k' : ¬ (0 : Int32) < x → W l R Z own nm bytes maxL ret n0 P h cells slots n' Ls st) : W l R Z own nm bytes maxL ret n0 P h cells slots pc Ls (.int x :: st) := by
  subst hn'
  by_cases hc : (0 : Int32) < x
  · exact (k hc).step fun p e s m args below meth c T locs hx hZ hby hown X eT t q => XS.ifYes X.here hx rfl (pc0 := pc) (pc' := n) rfl (hb hby hd) rfl ((if0 _ _).trans (tlt hc).2.2.1) (by omega) (by omega) q
  · exact (k' hc).step fun p e s m args below meth c T locs hx hZ hby hown X eT t q => XS.ifNo X.here hx rfl (hb hby hd) rfl ((if0 _ _).trans (flt hc).2.2.1) q
theorem W.icmp_le {x y : Int32} {o : Int} (n n' : Nat) (hd : decode bytes pc = .ok (.if_icmp .le o, 3)) (hn : (pc : Int) + o = (n : Int)) (hn' : pc + 3 = n') (k : ¬ y < x → W l R Z own nm bytes maxL ret n0 P h cells slots n Ls st) (k' : y < x → W l R Z own nm bytes maxL ret n0 P h cells slots n' Ls st) : W l R Z own nm bytes maxL ret n0 P h cells slots pc Ls (.int y :: .int x :: st) := by
  subst hn'
  by_cases hc : y < x
  · exact (k' hc).step fun p e s m args below meth c T locs hx hZ hby hown X eT t q => XS.icmpNo X.here hx rfl (hb hby hd) rfl (tlt hc).2.2.2 q
  · exact (k hc).step fun p e s m args below meth c T locs hx hZ hby hown X eT t q => XS.icmpYes X.here hx rfl (pc0 := pc) (pc' := n) rfl (hb hby hd) rfl (flt hc).2.2.2 (by omega) (by omega) q
theorem W.if_le {x : Int32} {o : Int} (n n' : Nat) (hd : decode bytes pc = .ok (.ifCond .le o, 3)) (hn : (pc : Int) + o = (n : Int)) (hn' : pc + 3 = n') (k : ¬ (0 : Int32) < x → W l R Z own nm bytes maxL ret n0 P h cells slots n Ls st) (k' : (0 : Int32) < x → W l R Z own nm bytes maxL ret n0 P h cells slots n' Ls st) : W l R Z own nm bytes maxL ret n0 P h cells slots pc Ls (.int x :: st) := by
  subst hn'
  by_cases hc : (0 : Int32) < x
  · exact (k' hc).step fun p e s m args below meth c T locs hx hZ hby hown X eT t q => XS.ifNo X.here hx rfl (hb hby hd) rfl ((if0 _ _).trans (tlt hc).2.2.2) q
  · exact (k hc).step fun p e s m args below meth c T locs hx hZ hby hown X eT t q => XS.ifYes X.here hx rfl (pc0 := pc) (pc' := n) rfl (hb hby hd) rfl ((if0 _ _).trans (flt hc).2.2.2) (by omega) (by omega) q
theorem W.icmp_eq {x y : Int32} {o : Int} (n n' : Nat) (hd : decode bytes pc = .ok (.if_icmp .eq o, 3)) (hn : (pc : Int) + o = (n : Int)) (hn' : pc + 3 = n') (k : x = y → W l R Z own nm bytes maxL ret n0 P h cells slots n Ls st) (k' : ¬ x = y → W l R Z own nm bytes maxL ret n0 P h cells slots n' Ls st) : W l R Z own nm bytes maxL ret n0 P h cells slots pc Ls (.int y :: .int x :: st) := by
  subst hn'
  by_cases hc : x = y
  · exact (k hc).step fun p e s m args below meth c T locs hx hZ hby hown X eT t q => XS.icmpYes X.here hx rfl (pc0 := pc) (pc' := n) rfl (hb hby hd) rfl (teq hc).1 (by omega) (by omega) q
  · exact (k' hc).step fun p e s m args below meth c T locs hx hZ hby hown X eT t q => XS.icmpNo X.here hx rfl (hb hby hd) rfl (feq hc).1 q
theorem W.if_eq {x : Int32} {o : Int} (n n' : Nat) (hd : decode bytes pc = .ok (.ifCond .eq o, 3)) (hn : (pc : Int) + o = (n : Int)) (hn' : pc + 3 = n') (k : x = (0 : Int32) → W l R Z own nm bytes maxL ret n0 P h cells slots n Ls st) (k' : ¬ x = (0 : Int32) → W l R Z own nm bytes maxL ret n0 P h cells slots n' Ls st) : W l R Z own nm bytes maxL ret n0 P h cells slots pc Ls (.int x :: st) := by
  subst hn'
  by_cases hc : x = (0 : Int32)
  · exact (k hc).step fun p e s m args below meth c T locs hx hZ hby hown X eT t q => XS.ifYes X.here hx rfl (pc0 := pc) (pc' := n) rfl (hb hby hd) rfl ((if0 _ _).trans (teq hc).1) (by omega) (by omega) q
  · exact (k' hc).step fun p e s m args below meth c T locs hx hZ hby hown X eT t q => XS.ifNo X.here hx rfl (hb hby hd) rfl ((if0 _ _).trans (feq hc).1) q
theorem W.icmp_ne {x y : Int32} {o : Int} (n n' : Nat) (hd : decode bytes pc = .ok (.if_icmp .ne o, 3)) (hn : (pc : Int) + o = (n : Int)) (hn' : pc + 3 = n') (k : ¬ x = y → W l R Z own nm bytes maxL ret n0 P h cells slots n Ls st) (k' : x = y → W l R Z own nm bytes maxL ret n0 P h cells slots n' Ls st) : W l R Z own nm bytes maxL ret n0 P h cells slots pc Ls (.int y :: .int x :: st) := by
  subst hn'
  by_cases hc : x = y
  · exact (k' hc).step fun p e s m args below meth c T locs hx hZ hby hown X eT t q => XS.icmpNo X.here hx rfl (hb hby hd) rfl (teq hc).2 q
  · exact (k hc).step fun p e s m args below meth c T locs hx hZ hby hown X eT t q => XS.icmpYes X.here hx rfl (pc0 := pc) (pc' := n) rfl (hb hby hd) rfl (feq hc).2 (by omega) (by omega) q
theorem W.if_ne {x : Int32} {o : Int} (n n' : Nat) (hd : decode bytes pc = .ok (.ifCond .ne o, 3)) (hn : (pc : Int) + o = (n : Int)) (hn' : pc + 3 = n') (k : ¬ x = (0 : Int32) → W l R Z own nm bytes maxL ret n0 P h cells slots n Ls st) (k' : x = (0 : Int32) → W l R Z own nm bytes maxL ret n0 P h cells slots n' Ls st) : W l R Z own nm bytes maxL ret n0 P h cells slots pc Ls (.int x :: st) := by
  subst hn'
  by_cases hc : x = (0 : Int32)
  · exact (k' hc).step fun p e s m args below meth c T locs hx hZ hby hown X eT t q => XS.ifNo X.here hx rfl (hb hby hd) rfl ((if0 _ _).trans (teq hc).2) q
  · exact (k hc).step fun p e s m args below meth c T locs hx hZ hby hown X eT t q => XS.ifYes X.here hx rfl (pc0 := pc) (pc' := n) rfl (hb hby hd) rfl ((if0 _ _).trans (feq hc).2) (by omega) (by omega) q
theorem W.ifnull_null {o : Int} (n : Nat) (hd : decode bytes pc = .ok (.ifnull o, 3)) (hn : (pc : Int) + o = (n : Int)) (k : W l R Z own nm bytes maxL ret n0 P h cells slots n Ls st) : W l R Z own nm bytes maxL ret n0 P h cells slots pc Ls (.null :: st) := by
  exact k.step fun p e s m args below meth c T locs hx hZ hby hown X eT t q => XS.ifnullYes X.here hx rfl (pc0 := pc) (pc' := n) rfl (hb hby hd) rfl (by omega) (by omega) q
theorem W.ifnull_ref {o : Int} {a : Addr} (n : Nat) (hd : decode bytes pc = .ok (.ifnull o, 3)) (hn : pc + 3 = n) (k : W l R Z own nm bytes maxL ret n0 P h cells slots n Ls st) : W l R Z own nm bytes maxL ret n0 P h cells slots pc Ls (.ref a :: st) := by
  subst hn
  exact k.step fun p e s m args below meth c T locs hx hZ hby hown X eT t q => XS.ifnullNo X.here hx rfl (hb hby hd) rfl q
theorem W.ifnonnull_null {o : Int} (n : Nat) (hd : decode bytes pc = .ok (.ifnonnull o, 3)) (hn : pc + 3 = n) (k : W l R Z own nm bytes maxL ret n0 P h cells slots n Ls st) : W l R Z own nm bytes maxL ret n0 P h cells slots pc Ls (.null :: st) := by
  subst hn
  exact k.step fun p e s m args below meth c T locs hx hZ hby hown X eT t q => XS.ifnonnullNo X.here hx rfl (hb hby hd) rfl q
theorem W.ifnonnull_ref {o : Int} {a : Addr} (n : Nat) (hd : decode bytes pc = .ok (.ifnonnull o, 3)) (hn : (pc : Int) + o = (n : Int)) (k : W l R Z own nm bytes maxL ret n0 P h cells slots n Ls st) : W l R Z own nm bytes maxL ret n0 P h cells slots pc Ls (.ref a :: st) := by
  exact k.step fun p e s m args below meth c T locs hx hZ hby hown X eT t q => XS.ifnonnullYes X.here hx rfl (pc0 := pc) (pc' := n) rfl (hb hby hd) rfl (by omega) (by omega) q
theorem W.acmp_eq {x y : Value} {o : Int} (n n' : Nat) (hd : decode bytes pc = .ok (.if_acmp .eq o, 3)) (hn : (pc : Int) + o = (n : Int)) (hn' : pc + 3 = n') (h1 : x.isRef = true) (h2 : y.isRef = true) (k : x = y → W l R Z own nm bytes maxL ret n0 P h cells slots n Ls st) (k' : ¬ x = y → W l R Z own nm bytes maxL ret n0 P h cells slots n' Ls st) : W l R Z own nm bytes maxL ret n0 P h cells slots pc Ls (y :: x :: st) := by
  subst hn'
  by_cases hc : x = y
  · exact (k hc).step fun p e s m args below meth c T locs hx hZ hby hown X eT t q => RoadKit.acmp X hx rfl h1 h2 (pc0 := pc) (pc' := n) (same := true) rfl (hb hby hd) rfl (decide_eq_true hc) (by omega) (by simp [acV]; try omega) q
  · exact (k' hc).step fun p e s m args below meth c T locs hx hZ hby hown X eT t q => RoadKit.acmp X hx rfl h1 h2 (pc0 := pc) (pc' := pc + 3) (same := false) rfl (hb hby hd) rfl (decide_eq_false hc) (by omega) (by simp [acV]; try omega) q
theorem W.acmp_ne {x y : Value} {o : Int} (n n' : Nat) (hd : decode bytes pc = .ok (.if_acmp .ne o, 3)) (hn : (pc : Int) + o = (n : Int)) (hn' : pc + 3 = n') (h1 : x.isRef = true) (h2 : y.isRef = true) (k : ¬ x = y → W l R Z own nm bytes maxL ret n0 P h cells slots n Ls st) (k' : x = y → W l R Z own nm bytes maxL ret n0 P h cells slots n' Ls st) : W l R Z own nm bytes maxL ret n0 P h cells slots pc Ls (y :: x :: st) := by
  subst hn'
  by_cases hc : x = y
  · exact (k' hc).step fun p e s m args below meth c T locs hx hZ hby hown X eT t q => RoadKit.acmp X hx rfl h1 h2 (pc0 := pc) (pc' := pc + 3) (same := true) rfl (hb hby hd) rfl (decide_eq_true hc) (by omega) (by simp [acV]; try omega) q
  · exact (k hc).step fun p e s m args below meth c T locs hx hZ hby hown X eT t q => RoadKit.acmp X hx rfl h1 h2 (pc0 := pc) (pc' := n) (same := false) rfl (hb hby hd) rfl (decide_eq_false hc) (by omega) (by simp [acV]; try omega) q
theorem W.lookup {d : Int} {ps : Array (Int × Int)} {len : Nat} {x : Int32} (o : Int) (n : Nat) (hd : decode bytes pc = .ok (.lookupswitch d ps, len)) (hsort : (ps.toList.zip (ps.toList.drop 1)).all (fun (a, next) => a.1 < next.1) = true) (ho : Op.lookupswitch.offset ps.toList d x.toInt = o) (hn : (pc : Int) + o = (n : Int)) (k : W l R Z own nm bytes maxL ret n0 P h cells slots n Ls st) : W l R Z own nm bytes maxL ret n0 P h cells slots pc Ls (.int x :: st) := by
  refine k.step fun p e s m args below meth c T locs hx hZ hby hown X eT t q => ?_
  have hd' := hb hby hd
  have ho' : 0 ≤ (pc : Int) + o := by omega
  have hp : ((pc : Int) + o).toNat = n := by omega
  jvm_step X.here [X.here.top, hx, hd', Op.lookupswitch.wp_chain, hsort, ho, ho', hp]
  exact ⟨by simpa using hsort, q⟩
/-! the heap -/
theorem Fr.one {k : Nat} {L : List Loc} {a : Addr} {sl : Nat} (N : Fr k L) (q : k ≤ a) : Fr k (L ++ [⟨a, sl⟩]) := N.app fun y hy => by cases List.mem_singleton.mp hy; exact q
theorem Keep.of_ext {h h' : Heap} (E : Ext h h') : Keep h h' [] := (Keep.refl h []).ext E
theorem size_le {p : Program} {e : Env} {s : State} {m : MethodId} {args : Array Value} {below : List Frame} {meth : Method} {c : Code} {T : State} {locs : List Loc} (X : Stand p l e R s m args below meth c T locs cells slots) : s.heap.size ≤ T.heap.size := X.same.2.1
theorem W.getfield {i : Nat} {R0 O f d host : String} {a : Addr} {v : Value} (n : Nat) (hd : decode bytes pc = .ok (.getfield i, 3)) (hn : pc + 3 = n) (w : (Jvm.Cond.fieldLink own i R0 f d).before a0 Z = true ∨ (Jvm.Cond.fieldLinkNest own i R0 f d host).before a0 Z = true) (via : Via Z R0 O f d) (F : Fld Z h a O f d v) (k : W l R Z own nm bytes maxL ret n0 P h cells slots n Ls (v :: st)) : W l R Z own nm bytes maxL ret n0 P h cells slots pc Ls (.ref a :: st) := by
  subst hn
  intro p e s m args below meth c T locs hx hZ hby hml hown hret hlk hnm hn0 X eT N
  obtain ⟨T', X', e', st'⟩ := getF X hx hZ hown w via eT F (g := mkF m pc Ls (.ref a :: st)) rfl rfl (hb hby hd)
  exact (k p e s m args below meth c T' locs hx hZ hby hml hown hret hlk hnm hn0 X' e' N).step st'
theorem W.getstatic {i : Nat} {R0 O f d host : String} {v : Value} (n : Nat) (hd : decode bytes pc = .ok (.getstatic i, 3)) (hn : pc + 3 = n) (w : (Jvm.Cond.fieldLink own i R0 f d).before a0 Z = true ∨ (Jvm.Cond.fieldLinkNest own i R0 f d host).before a0 Z = true) (via : Via Z R0 O f d) (F : Sta Z h O f d v) (k : W l R Z own nm bytes maxL ret n0 P h cells slots n Ls (v :: st)) : W l R Z own nm bytes maxL ret n0 P h cells slots pc Ls st := by
  subst hn
  intro p e s m args below meth c T locs hx hZ hby hml hown hret hlk hnm hn0 X eT N
  obtain ⟨T', X', e', st'⟩ := getS2 X hx hZ hown w via eT F (g := mkF m pc Ls st) rfl (hb hby hd)
  exact (k p e s m args below meth c T' locs hx hZ hby hml hown hret hlk hnm hn0 X' e' N).step st'
theorem W.putfield {i kk : Nat} {R0 O f d host C : String} {ty : FieldType} {a : Addr} {v old : Value} (n : Nat) (hd : decode bytes pc = .ok (.putfield i, 3)) (hn : pc + 3 = n) (w : (Jvm.Cond.fieldLink own i R0 f d).before a0 Z = true ∨ (Jvm.Cond.fieldLinkNest own i R0 f d host).before a0 Z = true) (via : Via Z R0 O f d) (F : Fld Z h a O f d old) (E : Exa Z h a C)
    (L : (Jvm.Cond.lays C O f d).before a0 Z = true ∨ ((Jvm.Cond.laysFinal C O f d).before a0 Z = true ∧ own = O ∧ nm = "<init>")) (wi : (Jvm.Cond.instantiable C kk).before a0 Z = true) (hty : parseFieldDescriptor d = some ty) (hv : narrow ty v = v) (hf : fits ty v = true) (ge : n0 ≤ a)
    (k : ∀ h', Wr h h' a (RoadKit.slotOf Z O f d) v → Fld Z h' a O f d v → Exa Z h' a C → Keep h h' [a] → W l R Z own nm bytes maxL ret n0 P h' cells slots n Ls st) : W l R Z own nm bytes maxL ret n0 P h cells slots pc Ls (v :: .ref a :: st) := by
  subst hn
  intro p e s m args below meth c T locs hx hZ hby hml hown hret hlk hnm hn0 X eT N
  obtain ⟨T', h', X', e', W', st'⟩ := putF X hx hZ hown w via eT F E (L.imp id fun q => ⟨q.1, q.2.1, hnm.trans q.2.2⟩) wi hty hv hf (g := mkF m pc Ls (v :: .ref a :: st)) rfl rfl (hb hby hd)
  exact (k h' W' (F.same W') (E.wr W') (Keep.of_wr W') p e s m args below meth c T' _ hx hZ hby hml hown hret hlk hnm hn0 X' e' (Fr.one N ge)).step st'
theorem W.putfieldN {i kk : Nat} {R0 O f d C : String} {ty : FieldType} {a : Addr} {v old : Value} (n : Nat) (hd : decode bytes pc = .ok (.putfield i, 3)) (hn : pc + 3 = n) (w : (Jvm.Cond.fieldLink own i R0 f d).before a0 Z = true) (via : Via Z R0 O f d) (F : Fld Z h a O f d old) (E : Exa Z h a C)
    (L : (Jvm.Cond.lays C O f d).before a0 Z = true ∨ ((Jvm.Cond.laysFinal C O f d).before a0 Z = true ∧ own = O ∧ nm = "<init>")) (wi : (Jvm.Cond.instantiable C kk).before a0 Z = true) (hty : parseFieldDescriptor d = some ty) (v' : Value) (hv : narrow ty v = v') (hf : fits ty v' = true) (ge : n0 ≤ a)
    (k : ∀ h', Wr h h' a (RoadKit.slotOf Z O f d) v' → Fld Z h' a O f d v' → Exa Z h' a C → Keep h h' [a] → W l R Z own nm bytes maxL ret n0 P h' cells slots n Ls st) : W l R Z own nm bytes maxL ret n0 P h cells slots pc Ls (v :: .ref a :: st) := by
  subst hn
  intro p e s m args below meth c T locs hx hZ hby hml hown hret hlk hnm hn0 X eT N
  obtain ⟨T', h', X', e', W', st'⟩ := putFN X hx hZ hown w via eT F E (L.imp id fun q => ⟨q.1, q.2.1, hnm.trans q.2.2⟩) wi hty hv hf (g := mkF m pc Ls (v :: .ref a :: st)) rfl rfl (hb hby hd)
  exact (k h' W' (F.same W') (E.wr W') (Keep.of_wr W') p e s m args below meth c T' _ hx hZ hby hml hown hret hlk hnm hn0 X' e' (Fr.one N ge)).step st'
theorem W.new {i ns : Nat} {C : String} (n : Nat) (hd : decode bytes pc = .ok (.new i, 3)) (hn : pc + 3 = n) (w : (Jvm.Cond.classLink own i C).before a0 Z = true) (wi : (Jvm.Cond.instantiable C ns).before a0 Z = true) (wz : (Jvm.Cond.initialized C).before a0 Z = true) (hc : cells + 1 ≤ R.cells) (hs : slots + ns ≤ R.slots)
    (k : ∀ h' b, b = h.size → n0 ≤ b → Ext h h' → Keep h h' [] → Exa Z h' b C → (∀ {O f d : String} {ty : FieldType}, Laid Z a0 C O f d → parseFieldDescriptor d = some ty → Fld Z h' b O f d (defaultValue ty)) → W l R Z own nm bytes maxL ret n0 P h' (cells + 1) (slots + ns) n Ls (.ref b :: st)) : W l R Z own nm bytes maxL ret n0 P h cells slots pc Ls st := by
  subst hn
  intro p e s m args below meth c T locs hx hZ hby hml hown hret hlk hnm hn0 X eT N
  obtain ⟨T', h', X', e', E', A', D', -, st'⟩ := newO X hx hZ hown w wi wz eT (g := mkF m pc Ls st) rfl (hb hby hd) hc hs
  have hb0 : n0 ≤ h.size := Nat.le_trans hn0 (eT ▸ size_le X)
  exact (k h' h.size rfl hb0 E' (Keep.of_ext E') A' D' p e s m args below meth c T' _ hx hZ hby hml hown hret hlk hnm hn0 X' e' N).step st'
theorem Ary.lt {a : Addr} {ty : FieldType} {vs : List Value} (A : Ary Z h a ty vs) : a < h.size := by obtain ⟨c, A, -⟩ := A; exact A.lt
theorem Ary.keep {h' : Heap} {ws : List Addr} {a : Addr} {ty : FieldType} {vs : List Value} (A : Ary Z h a ty vs) (K : Keep h h' ws) (q : a ∉ ws) : Ary Z h' a ty vs := by obtain ⟨c, A, r⟩ := A; exact ⟨c, ⟨K.2.1 a c A.1 q, A.2⟩, r⟩
theorem Ary.new {k : ClassId} {a : Addr} {ty : FieldType} {z : Int32} (A : Arr Z h a (newA k ty z) ty) (hf : fits ty (defaultValue ty) = true) : Ary Z h a ty (List.replicate z.toNatClampNeg (defaultValue ty)) :=
  ⟨_, A, by simp [newA], fun v hv => by rw [(List.mem_replicate.mp hv).2]; exact hf, by rw [List.length_replicate]; have := Int32.toInt_lt z; simp only [Int32.toNatClampNeg]; omega⟩
theorem Ary.set {h' : Heap} {a : Addr} {ty : FieldType} {vs : List Value} {i : Nat} {v : Value} (A : Ary Z h a ty vs) (W' : Wr h h' a i v) (hf : fits ty v = true) : Ary Z h' a ty (vs.set i v) := by
  obtain ⟨c, A, rfl, F, S⟩ := A
  exact ⟨_, A.same W', by simp [Cell.setSlot], fun w hw => (List.mem_or_eq_of_mem_set hw).elim (fun q => F w q) (fun q => q ▸ hf), by simpa using S⟩
theorem Ary.arv {a : Addr} {ty : FieldType} {vs : List Value} (A : Ary Z h a ty vs) (d : Value) : ∃ k, Arv Z h a k ty vs.length.toInt32 vs d := by
  obtain ⟨c, A, rfl, F, S⟩ := A
  have hz : (c.slots.toList.length.toInt32).toInt = c.slots.toList.length := Int32.toInt_ofNat_small S
  have hn : (c.slots.toList.length.toInt32).toNatClampNeg = c.slots.size := by simp only [Int32.toNatClampNeg]; rw [hz]; simp
  refine ⟨c.cls, c, A, rfl, hn.symm, fun q => ?_, fun i hi => ?_, fun i hi => ?_⟩
  · have := Int32.lt_iff_toInt_lt.mp q; rw [hz] at this; have e0 : (0 : Int32).toInt = 0 := rfl; omega
  · rw [List.getD_eq_getElem?_getD]; simp [hi]
  · rw [List.getD_eq_getElem?_getD]; exact F _ (by simp [hi])
theorem Ary.of_arv {a : Addr} {k : ClassId} {ty : FieldType} {vs : List Value} {z : Int32} {d : Value} (A : Arv Z h a k ty z vs d) (hz : z.toNatClampNeg = vs.length) : Ary Z h a ty vs := by
  obtain ⟨c, A, q1, q2, q3, H, G⟩ := A
  have hl : c.slots.toList = vs := by
    apply List.ext_getElem?
    intro i
    by_cases hi : i < c.slots.size
    · have := H i hi
      rw [List.getD_eq_getElem?_getD, List.getElem?_eq_getElem (by omega)] at this
      rw [List.getElem?_eq_getElem (l := vs) (by omega)]
      simpa using this
    · rw [List.getElem?_eq_none (by simpa using hi), List.getElem?_eq_none (by omega)]
  refine ⟨c, A, hl, fun v hv => ?_, ?_⟩
  · obtain ⟨i, hi, rfl⟩ := List.getElem_of_mem hv
    have := G i (by omega)
    rwa [List.getD_eq_getElem?_getD, List.getElem?_eq_getElem hi] at this
  · have := Int32.toInt_lt z; simp only [Int32.toNatClampNeg] at hz; omega
theorem W.newarray {aty : ArrayType} {ty : FieldType} {x : Int32} (n : Nat) (hd : decode bytes pc = .ok (.newarray aty, 2)) (hn : pc + 2 = n) (w : (Jvm.Cond.arrayClass ty).before a0 Z = true) (hty : newarray.typeOf aty = ty) (hx0 : ¬ x < 0) (len cap : Nat) (hlen : x.toNatClampNeg = len) (hcap : len ≤ cap) (hb8 : cap * 8 ≤ 536870912) (hc : cells + 1 ≤ R.cells) (hs : slots + cap ≤ R.slots) (hfd : fits ty (defaultValue ty) = true)
    (k : ∀ h' b, b = h.size → n0 ≤ b → Ext h h' → Keep h h' [] → Ary Z h' b ty (List.replicate len (defaultValue ty)) → W l R Z own nm bytes maxL ret n0 P h' (cells + 1) (slots + cap) n Ls (.ref b :: st)) : W l R Z own nm bytes maxL ret n0 P h cells slots pc Ls (.int x :: st) := by
  subst hn hty hlen
  intro p e s m args below meth c T locs hx hZ hby hml hown hret hlk hnm hn0 X eT N
  obtain ⟨T', h', cA, X', e', E', A', st'⟩ := newP X hx hZ w eT (g := mkF m pc Ls (.int x :: st)) rfl (hb hby hd) rfl hx0 hcap hb8 hc hs
  have hb0 : n0 ≤ h.size := Nat.le_trans hn0 (eT ▸ size_le X)
  exact (k h' h.size rfl hb0 E' (Keep.of_ext E') (Ary.new A' hfd) p e s m args below meth c T' _ hx hZ hby hml hown hret hlk hnm hn0 X' e' N).step st'
theorem W.newarrayE {aty : ArrayType} {ty : FieldType} {x : Int32} {ad : String} (n : Nat) (hd : decode bytes pc = .ok (.newarray aty, 2)) (hn : pc + 2 = n) (w : (Jvm.Cond.arrayClass ty).before a0 Z = true) (hty : newarray.typeOf aty = ty) (had : "[" ++ ty.toString = ad) (hx0 : ¬ x < 0) (len cap : Nat) (hlen : x.toNatClampNeg = len) (hcap : len ≤ cap) (hb8 : cap * 8 ≤ 536870912) (hc : cells + 1 ≤ R.cells) (hs : slots + cap ≤ R.slots) (hfd : fits ty (defaultValue ty) = true)
    (k : ∀ h' b, b = h.size → n0 ≤ b → Ext h h' → Keep h h' [] → Ary Z h' b ty (List.replicate len (defaultValue ty)) → Exa Z h' b ad → W l R Z own nm bytes maxL ret n0 P h' (cells + 1) (slots + cap) n Ls (.ref b :: st)) : W l R Z own nm bytes maxL ret n0 P h cells slots pc Ls (.int x :: st) := by
  subst hn hty hlen
  intro p e s m args below meth c T locs hx hZ hby hml hown hret hlk hnm hn0 X eT N
  obtain ⟨T', h', cA, X', e', E', A', B', st'⟩ := newPE X hx hZ w eT (g := mkF m pc Ls (.int x :: st)) rfl (hb hby hd) rfl hx0 hcap hb8 hc hs had
  have hb0 : n0 ≤ h.size := Nat.le_trans hn0 (eT ▸ size_le X)
  exact (k h' h.size rfl hb0 E' (Keep.of_ext E') (Ary.new A' hfd) B' p e s m args below meth c T' _ hx hZ hby hml hown hret hlk hnm hn0 X' e' N).step st'
theorem ary_in {c : Cell} {vs : List Value} {j : Int32} {i : Nat} (hc : c.slots.toList = vs) (hj : j.toNatClampNeg = i) (h0 : ¬ j < 0) (hi : i < vs.length) : ¬ (j < 0 ∨ c.slots.size ≤ j.toNatClampNeg) := by
  subst hc hj; rintro (q | q)
  · exact h0 q
  · exact absurd hi (by simpa using q)
theorem W.arraylength {a : Addr} {ty : FieldType} {vs : List Value} (n : Nat) (hd : decode bytes pc = .ok (.arraylength, 1)) (hn : pc + 1 = n) (A : Ary Z h a ty vs) (v : Int32) (hv : vs.length.toInt32 = v) (k : W l R Z own nm bytes maxL ret n0 P h cells slots n Ls (.int v :: st)) : W l R Z own nm bytes maxL ret n0 P h cells slots pc Ls (.ref a :: st) := by
  subst hn
  obtain ⟨c, A, rfl, F, S⟩ := A
  have e : c.slots.size.toInt32 = v := by rw [← hv]; simp
  exact k.step fun p e' s m args below meth c' T locs hx hZ hby hown X eT t q => X.arraylength hx (by rw [eT]; exact A.1) (State.isArrayOf_alike hZ.alike A.2.1) (g := mkF m pc Ls (.ref a :: st)) rfl rfl (hb hby hd) t (e ▸ q)

theorem W.iaload {a : Addr} {vs : List Value} {j : Int32} (n : Nat) (hd : decode bytes pc = .ok (.iaload, 1)) (hn : pc + 1 = n) (A : Ary Z h a .int vs) (i : Nat) (hj : j.toNatClampNeg = i) (h0 : ¬ j < 0) (v : Value) (hv : vs[i]? = some v) (k : W l R Z own nm bytes maxL ret n0 P h cells slots n Ls (v :: st)) : W l R Z own nm bytes maxL ret n0 P h cells slots pc Ls (.int j :: .ref a :: st) := by
  subst hn
  obtain ⟨c, A, hc, F, S⟩ := A
  have hi : i < vs.length := (List.getElem?_eq_some_iff.mp hv).1
  have hin := ary_in hc hj h0 hi
  have hat : c.slots[j.toNatClampNeg]? = some v := by rw [hj, ← hv, ← hc]; simp
  exact k.step fun p e' s m args below meth c' T locs hx hZ hby hown X eT t q => X.iaload hx (j := j) (v := v) (by rw [eT]; exact A.1) (State.isArrayOf_alike hZ.alike A.2.1) A.2.2 hin hat (g := mkF m pc Ls (.int j :: .ref a :: st)) rfl rfl (hb hby hd) t q
theorem W.laload {a : Addr} {vs : List Value} {j : Int32} (n : Nat) (hd : decode bytes pc = .ok (.laload, 1)) (hn : pc + 1 = n) (A : Ary Z h a .long vs) (i : Nat) (hj : j.toNatClampNeg = i) (h0 : ¬ j < 0) (v : Value) (hv : vs[i]? = some v) (k : W l R Z own nm bytes maxL ret n0 P h cells slots n Ls (v :: st)) : W l R Z own nm bytes maxL ret n0 P h cells slots pc Ls (.int j :: .ref a :: st) := by
  subst hn
  obtain ⟨c, A, hc, F, S⟩ := A
  have hi : i < vs.length := (List.getElem?_eq_some_iff.mp hv).1
  have hin := ary_in hc hj h0 hi
  have hat : c.slots[j.toNatClampNeg]? = some v := by rw [hj, ← hv, ← hc]; simp
  exact k.step fun p e' s m args below meth c' T locs hx hZ hby hown X eT t q => X.laload hx (j := j) (v := v) (by rw [eT]; exact A.1) (State.isArrayOf_alike hZ.alike A.2.1) A.2.2 hin hat (g := mkF m pc Ls (.int j :: .ref a :: st)) rfl rfl (hb hby hd) t q
theorem W.caload {a : Addr} {vs : List Value} {j : Int32} (n : Nat) (hd : decode bytes pc = .ok (.caload, 1)) (hn : pc + 1 = n) (A : Ary Z h a .char vs) (i : Nat) (hj : j.toNatClampNeg = i) (h0 : ¬ j < 0) (v : Value) (hv : vs[i]? = some v) (k : W l R Z own nm bytes maxL ret n0 P h cells slots n Ls (v :: st)) : W l R Z own nm bytes maxL ret n0 P h cells slots pc Ls (.int j :: .ref a :: st) := by
  subst hn
  obtain ⟨c, A, hc, F, S⟩ := A
  have hi : i < vs.length := (List.getElem?_eq_some_iff.mp hv).1
  have hin := ary_in hc hj h0 hi
  have hat : c.slots[j.toNatClampNeg]? = some v := by rw [hj, ← hv, ← hc]; simp
  exact k.step fun p e' s m args below meth c' T locs hx hZ hby hown X eT t q => X.caload hx (j := j) (v := v) (by rw [eT]; exact A.1) (State.isArrayOf_alike hZ.alike A.2.1) A.2.2 hin hat (g := mkF m pc Ls (.int j :: .ref a :: st)) rfl rfl (hb hby hd) t q
theorem W.baload {a : Addr} {vs : List Value} {j : Int32} (n : Nat) (hd : decode bytes pc = .ok (.baload, 1)) (hn : pc + 1 = n) (A : Ary Z h a .byte vs) (i : Nat) (hj : j.toNatClampNeg = i) (h0 : ¬ j < 0) (v : Value) (hv : vs[i]? = some v) (k : W l R Z own nm bytes maxL ret n0 P h cells slots n Ls (v :: st)) : W l R Z own nm bytes maxL ret n0 P h cells slots pc Ls (.int j :: .ref a :: st) := by
  subst hn
  obtain ⟨c, A, hc, F, S⟩ := A
  have hi : i < vs.length := (List.getElem?_eq_some_iff.mp hv).1
  have hin := ary_in hc hj h0 hi
  have hat : c.slots[j.toNatClampNeg]? = some v := by rw [hj, ← hv, ← hc]; simp
  exact k.step fun p e' s m args below meth c' T locs hx hZ hby hown X eT t q => X.baloadBytes hx (j := j) (v := v) (by rw [eT]; exact A.1) (State.isArrayOf_alike hZ.alike A.2.1) A.2.2 hin hat (g := mkF m pc Ls (.int j :: .ref a :: st)) rfl rfl (hb hby hd) t q
theorem W.aaload {a : Addr} {vs : List Value} {j : Int32} {ty : FieldType} (n : Nat) (hd : decode bytes pc = .ok (.aaload, 1)) (hn : pc + 1 = n) (A : Ary Z h a ty vs) (hty : ty.isReference = true) (i : Nat) (hj : j.toNatClampNeg = i) (h0 : ¬ j < 0) (v : Value) (hv : vs[i]? = some v) (k : W l R Z own nm bytes maxL ret n0 P h cells slots n Ls (v :: st)) : W l R Z own nm bytes maxL ret n0 P h cells slots pc Ls (.int j :: .ref a :: st) := by
  subst hn
  obtain ⟨c, A, hc, F, S⟩ := A
  have hi : i < vs.length := (List.getElem?_eq_some_iff.mp hv).1
  have hin := ary_in hc hj h0 hi
  have hat : c.slots[j.toNatClampNeg]? = some v := by rw [hj, ← hv, ← hc]; simp
  exact k.step fun p e' s m args below meth c' T locs hx hZ hby hown X eT t q => X.aaload hx (j := j) (v := v) (by rw [eT]; exact A.1) (State.isArrayOf_alike hZ.alike A.2.1) hty A.2.2 hin hat (g := mkF m pc Ls (.int j :: .ref a :: st)) rfl rfl (hb hby hd) t q
theorem W.iastore {a : Addr} {vs : List Value} {j : Int32} {x : Int32} (n : Nat) (hd : decode bytes pc = .ok (.iastore, 1)) (hn : pc + 1 = n) (A : Ary Z h a .int vs) (i : Nat) (hj : j.toNatClampNeg = i) (h0 : ¬ j < 0) (hi : i < vs.length) (ge : n0 ≤ a)
    (k : ∀ h', Wr h h' a i (.int x) → Keep h h' [a] → Ary Z h' a .int (vs.set i (.int x)) → W l R Z own nm bytes maxL ret n0 P h' cells slots n Ls st) : W l R Z own nm bytes maxL ret n0 P h cells slots pc Ls (.int x :: .int j :: .ref a :: st) := by
  subst hn
  intro p e s m args below meth c T locs hx hZ hby hml hown hret hlk hnm hn0 X eT N
  have A0 := A
  obtain ⟨cl, A, hc, F, S⟩ := A
  obtain ⟨T', h', X', e', W', st'⟩ := stI X hx hZ eT A (ary_in hc hj h0 hi) (g := mkF m pc Ls (.int x :: .int j :: .ref a :: st)) rfl rfl (hb hby hd)
  subst hj
  exact (k h' W' (Keep.of_wr W') (A0.set W' rfl) p e s m args below meth c T' _ hx hZ hby hml hown hret hlk hnm hn0 X' e' (Fr.one N ge)).step st'

theorem W.lastore {a : Addr} {vs : List Value} {j : Int32} {x : Int64} (n : Nat) (hd : decode bytes pc = .ok (.lastore, 1)) (hn : pc + 1 = n) (A : Ary Z h a .long vs) (i : Nat) (hj : j.toNatClampNeg = i) (h0 : ¬ j < 0) (hi : i < vs.length) (ge : n0 ≤ a)
    (k : ∀ h', Wr h h' a i (.long x) → Keep h h' [a] → Ary Z h' a .long (vs.set i (.long x)) → W l R Z own nm bytes maxL ret n0 P h' cells slots n Ls st) : W l R Z own nm bytes maxL ret n0 P h cells slots pc Ls (.long x :: .int j :: .ref a :: st) := by
  subst hn
  intro p e s m args below meth c T locs hx hZ hby hml hown hret hlk hnm hn0 X eT N
  have A0 := A
  obtain ⟨cl, A, hc, F, S⟩ := A
  obtain ⟨T', h', X', e', W', st'⟩ := stJ X hx hZ eT A (ary_in hc hj h0 hi) (g := mkF m pc Ls (.long x :: .int j :: .ref a :: st)) rfl rfl (hb hby hd)
  subst hj
  exact (k h' W' (Keep.of_wr W') (A0.set W' rfl) p e s m args below meth c T' _ hx hZ hby hml hown hret hlk hnm hn0 X' e' (Fr.one N ge)).step st'

theorem W.castore {a : Addr} {vs : List Value} {j : Int32} {x : Int32} (n : Nat) (hd : decode bytes pc = .ok (.castore, 1)) (hn : pc + 1 = n) (A : Ary Z h a .char vs) (i : Nat) (hj : j.toNatClampNeg = i) (h0 : ¬ j < 0) (hi : i < vs.length) (x' : Int32) (hx' : nar .char x = x') (ge : n0 ≤ a)
    (k : ∀ h', Wr h h' a i (.int x') → Keep h h' [a] → Ary Z h' a .char (vs.set i (.int x')) → W l R Z own nm bytes maxL ret n0 P h' cells slots n Ls st) : W l R Z own nm bytes maxL ret n0 P h cells slots pc Ls (.int x :: .int j :: .ref a :: st) := by
  subst hn hx'
  intro p e s m args below meth c T locs hx hZ hby hml hown hret hlk hnm hn0 X eT N
  have A0 := A
  obtain ⟨cl, A, hc, F, S⟩ := A
  obtain ⟨T', h', X', e', W', st'⟩ := stC X hx hZ eT A (ary_in hc hj h0 hi) (g := mkF m pc Ls (.int x :: .int j :: .ref a :: st)) rfl rfl (hb hby hd)
  subst hj
  exact (k h' W' (Keep.of_wr W') (A0.set W' (fits_nar_char _)) p e s m args below meth c T' _ hx hZ hby hml hown hret hlk hnm hn0 X' e' (Fr.one N ge)).step st'

theorem W.bastore {a : Addr} {vs : List Value} {j : Int32} {x : Int32} (n : Nat) (hd : decode bytes pc = .ok (.bastore, 1)) (hn : pc + 1 = n) (A : Ary Z h a .byte vs) (i : Nat) (hj : j.toNatClampNeg = i) (h0 : ¬ j < 0) (hi : i < vs.length) (x' : Int32) (hx' : nar .byte x = x') (ge : n0 ≤ a)
    (k : ∀ h', Wr h h' a i (.int x') → Keep h h' [a] → Ary Z h' a .byte (vs.set i (.int x')) → W l R Z own nm bytes maxL ret n0 P h' cells slots n Ls st) : W l R Z own nm bytes maxL ret n0 P h cells slots pc Ls (.int x :: .int j :: .ref a :: st) := by
  subst hn hx'
  intro p e s m args below meth c T locs hx hZ hby hml hown hret hlk hnm hn0 X eT N
  have A0 := A
  obtain ⟨cl, A, hc, F, S⟩ := A
  obtain ⟨T', h', X', e', W', st'⟩ := stB X hx hZ eT A (ary_in hc hj h0 hi) (g := mkF m pc Ls (.int x :: .int j :: .ref a :: st)) rfl rfl (hb hby hd)
  subst hj
  exact (k h' W' (Keep.of_wr W') (A0.set W' (fits_nar_byte _)) p e s m args below meth c T' _ hx hZ hby hml hown hret hlk hnm hn0 X' e' (Fr.one N ge)).step st'

theorem W.bastoreZ {a : Addr} {vs : List Value} {j : Int32} {x : Int32} (n : Nat) (hd : decode bytes pc = .ok (.bastore, 1)) (hn : pc + 1 = n) (A : Ary Z h a .boolean vs) (i : Nat) (hj : j.toNatClampNeg = i) (h0 : ¬ j < 0) (hi : i < vs.length) (x' : Int32) (hx' : nar .boolean x = x') (ge : n0 ≤ a)
    (k : ∀ h', Wr h h' a i (.int x') → Keep h h' [a] → Ary Z h' a .boolean (vs.set i (.int x')) → W l R Z own nm bytes maxL ret n0 P h' cells slots n Ls st) : W l R Z own nm bytes maxL ret n0 P h cells slots pc Ls (.int x :: .int j :: .ref a :: st) := by
  subst hn hx'
  intro p e s m args below meth c T locs hx hZ hby hml hown hret hlk hnm hn0 X eT N
  have A0 := A
  obtain ⟨cl, A, hc, F, S⟩ := A
  obtain ⟨T', h', X', e', W', st'⟩ := stZ X hx hZ eT A (ary_in hc hj h0 hi) (g := mkF m pc Ls (.int x :: .int j :: .ref a :: st)) rfl rfl (hb hby hd)
  subst hj
  exact (k h' W' (Keep.of_wr W') (A0.set W' (fits_nar_bool _)) p e s m args below meth c T' _ hx hZ hby hml hown hret hlk hnm hn0 X' e' (Fr.one N ge)).step st'

/-! calls and returns -/
theorem W.initObj {i : Nat} {a : Addr} (n : Nat) (hd : decode bytes pc = .ok (.invokespecial i, 3)) (hn : pc + 3 = n) (w1 : (Jvm.Cond.methodLink own i Lib.objectInit).before a0 Z = true) (w2 : (Jvm.Cond.instanceMethod Lib.objectInit).before a0 Z = true) (w3 : (Jvm.Cond.code Lib.objectInit ⟨#[0xb1]⟩ 1 none).before a0 Z = true) (hsz : Ls.size = maxL) (hf : 1 ≤ R.frames) (W0 : Nat) (hW : (st.map fun v => v.category).sum ≤ W0) (hl : W0 + 12 ≤ R.locals)
    (k : W l R Z own nm bytes maxL ret n0 P h cells slots n Ls st) : W l R Z own nm bytes maxL ret n0 P h cells slots pc Ls (.ref a :: st) := by
  subst hn
  intro p e s m args below meth c T locs hx hZ hby hml hown hret hlk hnm hn0 X eT N
  obtain ⟨T', X', e', st'⟩ := initO X hx hZ hown w1 w2 w3 eT (g := mkF m pc Ls (.ref a :: st)) rfl (by rw [hml]; exact hsz) rfl (hb hby hd) hf (W := W0) (by show 2 * 0 + _ ≤ _; omega) hl
  exact (k p e s m args below meth c T' locs hx hZ hby hml hown hret hlk hnm hn0 X' e' N).step st'
section Calls
variable {y : MethodName} {bytes' : ByteArray} {maxL' : Nat} {ret' : Option FieldType} {rm : Room} {P' : Option Value → Heap → Prop} {rest argsL : List Value} {i : Nat}
theorem W.callS (n : Nat) (hd : decode bytes pc = .ok (.invokestatic i, 3)) (hn : pc + 3 = n) (C : n0 ≤ h.size → Con l Z y bytes' maxL' ret' rm argsL.toArray h n0 P') (w1 : (Jvm.Cond.methodLink own i y).before a0 Z = true) (w2 : (Jvm.Cond.static y).before a0 Z = true) (w3 : (Jvm.Cond.initialized y.cls).before a0 Z = true) (w4 : (Jvm.Cond.code y bytes' maxL' ret').before a0 Z = true)
    (hy : y.cls ≠ "java/lang/invoke/MethodHandle" ∧ y.cls ≠ "java/lang/invoke/VarHandle") {ps : List FieldType} {r : Option FieldType} (hpd : parseMethodDescriptor y.desc = some ⟨ps, r⟩) (hlen : argsL.length = ps.length) (hst : st = argsL.reverse ++ rest) (hsz : Ls.size = maxL) (hf : rm.frames + 1 ≤ R.frames) (W0 : Nat) (hW : (rest.map fun v => v.category).sum ≤ W0) (hl : W0 + (maxL' + 11) + rm.locals ≤ R.locals) (hc : cells + rm.cells ≤ R.cells) (hs : slots + rm.slots ≤ R.slots)
    (k : ∀ v h', P' v h' → W l R Z own nm bytes maxL ret n0 P h' (cells + rm.cells) (slots + rm.slots) n Ls (v.toList ++ rest)) : W l R Z own nm bytes maxL ret n0 P h cells slots pc Ls st := by
  subst hn hst
  intro p e s m args below meth c T locs hx hZ hby hml hown hret hlk hnm hn0 X eT N
  obtain ⟨v, _, ⟨T', L', c', n'⟩, -, X', ⟨Lc, hQ, l', y', z'⟩, st'⟩ := Jvm.LawKit.callS X hx (y := y) hown (mvT hZ w1) (mvT hZ w2) (mvT hZ w3) (mvT hZ w4) hy (backOf (W := W0) (Z := Z) (h := h) (bytes := bytes') (maxL := maxL') (rm := rm) (Q := fun v h' L => P' v h' ∧ Fr n0 L) (C (Nat.le_trans hn0 (eT ▸ size_le X))) hZ w4 w3 hf hl) (g := mkF m pc Ls (argsL.reverse ++ rest)) rfl (by rw [hml]; exact hsz) (argsL := argsL) (rest := rest) (lenOf hpd hlen) rfl (by show 2 * 0 + _ ≤ _; omega) (hb hby hd) (fun _ _ => ⟨rfl, eT, hc, hs⟩)
  dsimp only [Pt.U, Pt.locs, Pt.cells, Pt.slots] at X' l' y' z' st' hQ
  subst l' y' z'
  exact (k v T'.heap hQ.1 p e s m args below meth c T' _ hx hZ hby hml hown hret hlk hnm hn0 X' rfl (Fr.app N hQ.2)).step st'
theorem W.callInit {a : Addr} (n : Nat) (hd : decode bytes pc = .ok (.invokespecial i, 3)) (hn : pc + 3 = n) (C : n0 ≤ h.size → Con l Z y bytes' maxL' none rm (.ref a :: argsL).toArray h n0 P') (hi : y.name = "<init>") (w1 : (Jvm.Cond.methodLink own i y).before a0 Z = true) (w2 : (Jvm.Cond.instanceMethod y).before a0 Z = true) (w3 : (Jvm.Cond.initialized y.cls).before a0 Z = true) (w4 : (Jvm.Cond.code y bytes' maxL' none).before a0 Z = true)
    (hy : y.cls ≠ "java/lang/invoke/MethodHandle" ∧ y.cls ≠ "java/lang/invoke/VarHandle") {ps : List FieldType} {r : Option FieldType} (hpd : parseMethodDescriptor y.desc = some ⟨ps, r⟩) (hlen : argsL.length = ps.length) (hst : st = argsL.reverse ++ .ref a :: rest) (hsz : Ls.size = maxL) (hf : rm.frames + 1 ≤ R.frames) (W0 : Nat) (hW : (rest.map fun v => v.category).sum ≤ W0) (hl : W0 + (maxL' + 11) + rm.locals ≤ R.locals) (hc : cells + rm.cells ≤ R.cells) (hs : slots + rm.slots ≤ R.slots)
    (k : ∀ v h', P' v h' → W l R Z own nm bytes maxL ret n0 P h' (cells + rm.cells) (slots + rm.slots) n Ls (v.toList ++ rest)) : W l R Z own nm bytes maxL ret n0 P h cells slots pc Ls st := by
  subst hn hst
  intro p e s m args below meth c T locs hx hZ hby hml hown hret hlk hnm hn0 X eT N
  obtain ⟨v, _, ⟨T', L', c', n'⟩, -, X', ⟨Lc, hQ, l', y', z'⟩, st'⟩ := X.specialBack hx (y := y) hi hown (mvT hZ w1) (mvT hZ w2) (mvT hZ w4) hy (backOf (W := W0) (Z := Z) (h := h) (bytes := bytes') (maxL := maxL') (rm := rm) (Q := fun v h' L => P' v h' ∧ Fr n0 L) (C (Nat.le_trans hn0 (eT ▸ size_le X))) hZ w4 w3 hf hl) (g := mkF m pc Ls (argsL.reverse ++ .ref a :: rest)) rfl (by rw [hml]; exact hsz) (Steps.refl _) (a := a) (argsL := argsL) (rest := rest) (lenOf hpd hlen) rfl (by show 2 * 0 + _ ≤ _; omega) (hb hby hd) (fun _ _ => ⟨rfl, eT, hc, hs⟩)
  dsimp only [Pt.U, Pt.locs, Pt.cells, Pt.slots] at X' l' y' z' st' hQ
  subst l' y' z'
  exact (k v T'.heap hQ.1 p e s m args below meth c T' _ hx hZ hby hml hown hret hlk hnm hn0 X' rfl (Fr.app N hQ.2)).step fun t q => st'.trans q
theorem W.callV {C0 : String} {a : Addr} (n : Nat) (hd : decode bytes pc = .ok (.invokevirtual i, 3)) (hn : pc + 3 = n) (C : n0 ≤ h.size → Con l Z y bytes' maxL' ret' rm (.ref a :: argsL).toArray h n0 P') (E : Exa Z h a C0) (w1 : (Jvm.Cond.methodLink own i y).before a0 Z = true) (w2 : (Jvm.Cond.declares y).before a0 Z = true) (w5 : (Jvm.Cond.selects C0 y y).before a0 Z = true) (hcy : C0 = y.cls) (w6 : (Jvm.Cond.instanceMethod y).before a0 Z = true) (w3 : (Jvm.Cond.initialized y.cls).before a0 Z = true) (w4 : (Jvm.Cond.code y bytes' maxL' ret').before a0 Z = true)
    (hy : y.cls ≠ "java/lang/invoke/MethodHandle" ∧ y.cls ≠ "java/lang/invoke/VarHandle") {ps : List FieldType} {r : Option FieldType} (hpd : parseMethodDescriptor y.desc = some ⟨ps, r⟩) (hlen : argsL.length = ps.length) (hst : st = argsL.reverse ++ .ref a :: rest) (hsz : Ls.size = maxL) (hf : rm.frames + 1 ≤ R.frames) (W0 : Nat) (hW : (rest.map fun v => v.category).sum ≤ W0) (hl : W0 + (maxL' + 11) + rm.locals ≤ R.locals) (hc : cells + rm.cells ≤ R.cells) (hs : slots + rm.slots ≤ R.slots)
    (k : ∀ v h', P' v h' → W l R Z own nm bytes maxL ret n0 P h' (cells + rm.cells) (slots + rm.slots) n Ls (v.toList ++ rest)) : W l R Z own nm bytes maxL ret n0 P h cells slots pc Ls st := by
  subst hn hst hcy
  intro p e s m args below meth c T locs hx hZ hby hml hown hret hlk hnm hn0 X eT N
  obtain ⟨cq, kq, qa, qb, qc⟩ := isOf hZ eT E
  obtain ⟨v, _, ⟨T', L', c', n'⟩, -, X', ⟨Lc, hQ, l', y', z'⟩, st'⟩ := X.virtualBack hx (y := y) (z := y) hown (mvT hZ w1) (mvT hZ w2) (notFace_of_selects (args := #[]) (mvT hZ w5)) (mvT hZ w5) (mvT hZ w6) hy (backOf (W := W0) (Z := Z) (h := h) (bytes := bytes') (maxL := maxL') (rm := rm) (Q := fun v h' L => P' v h' ∧ Fr n0 L) (C (Nat.le_trans hn0 (eT ▸ size_le X))) hZ w4 w3 hf hl) qa qc (g := mkF m pc Ls (argsL.reverse ++ .ref a :: rest)) rfl (by rw [hml]; exact hsz) (Steps.refl _) (argsL := argsL) (rest := rest) (lenOf hpd hlen) rfl (by show 2 * 0 + _ ≤ _; omega) (hb hby hd) (fun _ _ => ⟨rfl, eT, hc, hs⟩)
  dsimp only [Pt.U, Pt.locs, Pt.cells, Pt.slots] at X' l' y' z' st' hQ
  subst l' y' z'
  exact (k v T'.heap hQ.1 p e s m args below meth c T' _ hx hZ hby hml hown hret hlk hnm hn0 X' rfl (Fr.app N hQ.2)).step fun t q => st'.trans q
end Calls
theorem W.checkcast {i : Nat} {K : String} {a : Addr} (n : Nat) (hd : decode bytes pc = .ok (.checkcast i, 3)) (hn : pc + 3 = n) (w : (Jvm.Cond.classLink own i K).before a0 Z = true) (F : Ins Z h a K true) (k : W l R Z own nm bytes maxL ret n0 P h cells slots n Ls (.ref a :: st)) : W l R Z own nm bytes maxL ret n0 P h cells slots pc Ls (.ref a :: st) := by
  subst hn
  intro p e s m args below meth c T locs hx hZ hby hml hown hret hlk hnm hn0 X eT N
  obtain ⟨T', X', e', st'⟩ := castY X hx hZ hown w eT F (g := mkF m pc Ls (.ref a :: st)) rfl rfl (hb hby hd)
  exact (k p e s m args below meth c T' locs hx hZ hby hml hown hret hlk hnm hn0 X' e' N).step st'
theorem W.instYes {i : Nat} {K : String} {a : Addr} (n : Nat) (hd : decode bytes pc = .ok (.instanceof i, 3)) (hn : pc + 3 = n) (w : (Jvm.Cond.classLink own i K).before a0 Z = true) (F : Ins Z h a K true) (k : W l R Z own nm bytes maxL ret n0 P h cells slots n Ls (.int 1 :: st)) : W l R Z own nm bytes maxL ret n0 P h cells slots pc Ls (.ref a :: st) := by
  subst hn
  intro p e s m args below meth c T locs hx hZ hby hml hown hret hlk hnm hn0 X eT N
  obtain ⟨T', X', e', st'⟩ := instY X hx hZ hown w eT F (g := mkF m pc Ls (.ref a :: st)) rfl rfl (hb hby hd)
  exact (k p e s m args below meth c T' locs hx hZ hby hml hown hret hlk hnm hn0 X' e' N).step st'
theorem W.instNo {i : Nat} {K C : String} {a : Addr} (n : Nat) (hd : decode bytes pc = .ok (.instanceof i, 3)) (hn : pc + 3 = n) (w : (Jvm.Cond.classLink own i K).before a0 Z = true) (E : Exa Z h a C) (F : ∃ c t, Z.vm.findClass C = some c ∧ Z.vm.findClass K = some t ∧ Z.vm.assignable c t = false) (k : W l R Z own nm bytes maxL ret n0 P h cells slots n Ls (.int 0 :: st)) : W l R Z own nm bytes maxL ret n0 P h cells slots pc Ls (.ref a :: st) := by
  subst hn
  intro p e s m args below meth c T locs hx hZ hby hml hown hret hlk hnm hn0 X eT N
  obtain ⟨T', X', e', st'⟩ := RoadKit.instNo X hx hZ hown w eT E F (g := mkF m pc Ls (.ref a :: st)) rfl rfl (hb hby hd)
  exact (k p e s m args below meth c T' locs hx hZ hby hml hown hret hlk hnm hn0 X' e' N).step st'
theorem W.instNull {i : Nat} (n : Nat) (hd : decode bytes pc = .ok (.instanceof i, 3)) (hn : pc + 3 = n) (k : W l R Z own nm bytes maxL ret n0 P h cells slots n Ls (.int 0 :: st)) : W l R Z own nm bytes maxL ret n0 P h cells slots pc Ls (.null :: st) := by
  subst hn
  exact k.step fun p e s m args below meth c T locs hx hZ hby hown X eT t q => X.instanceofNull hx (g := mkF m pc Ls (.null :: st)) rfl rfl (hb hby hd) t q
theorem ary_us {vs : List Value} {d : Value} (i k : Nat) (hs : i + k ≤ vs.length) : (List.range k).map (fun j => vs.getD (i + j) d) = (vs.drop i).take k := by
  apply List.ext_getElem?
  intro j
  by_cases hj : j < k
  · simp [hj, List.getD_eq_getElem?_getD, List.getElem?_eq_getElem (show i + j < vs.length by omega)]
  · simp [hj]; omega
theorem W.arraycopy {i : Nat} {a b : Addr} {ty : FieldType} {vs vd : List Value} {sp dp nn : Int32} (n : Nat) (hd : decode bytes pc = .ok (.invokestatic i, 3)) (hn : pc + 3 = n) (w1 : (Jvm.Cond.methodLink own i Jvm.Stand.acN).before a0 Z = true) (w2 : (Jvm.Cond.native Jvm.Stand.acN).before a0 Z = true) (w3 : (Jvm.Cond.static Jvm.Stand.acN).before a0 Z = true) (w4 : (Jvm.Cond.initialized "java/lang/System").before a0 Z = true)
    (A : Ary Z h a ty vs) (B : Ary Z h b ty vd) (hk : refKind ty = false) (si di ni : Nat) (h1 : sp.toNatClampNeg = si) (h1' : ¬ sp < 0) (h2 : dp.toNatClampNeg = di) (h2' : ¬ dp < 0) (h3 : nn.toNatClampNeg = ni) (h3' : ¬ nn < 0) (hs : si + ni ≤ vs.length) (hdl : di + ni ≤ vd.length) (ge : n0 ≤ b) (hsz : Ls.size = maxL) (hf : 1 ≤ R.frames) (W0 : Nat) (hW : (st.map fun v => v.category).sum ≤ W0) (hl : W0 + (nativeFrameWords "java/lang/System" "arraycopy" 5 + 11) ≤ R.locals)
    (k : ∀ h', Keep h h' [b] → Ary Z h' b ty (vd.take di ++ (vs.drop si).take ni ++ vd.drop (di + ni)) → W l R Z own nm bytes maxL ret n0 P h' cells slots n Ls st) : W l R Z own nm bytes maxL ret n0 P h cells slots pc Ls (.int nn :: .int dp :: .ref b :: .int sp :: .ref a :: st) := by
  subst hn h1 h2 h3
  intro p e s m args below meth c T locs hx hZ hby hml hown hret hlk hnm hn0 X eT N
  have za : vs.length.toInt32.toNatClampNeg = vs.length := by
    have S : vs.length < 2 ^ 31 := by obtain ⟨_, _, _, _, S⟩ := A; exact S
    have hz : (vs.length.toInt32).toInt = vs.length := Int32.toInt_ofNat_small S
    simp only [Int32.toNatClampNeg]; rw [hz]; simp
  have zb : vd.length.toInt32.toNatClampNeg = vd.length := by
    have S : vd.length < 2 ^ 31 := by obtain ⟨_, _, _, _, S⟩ := B; exact S
    have hz : (vd.length.toInt32).toInt = vd.length := Int32.toInt_ofNat_small S
    simp only [Int32.toNatClampNeg]; rw [hz]; simp
  obtain ⟨ka, A'⟩ := A.arv .null
  obtain ⟨kb, B'⟩ := B.arv .null
  obtain ⟨T', h', L', X', e', N', K', C', st'⟩ := cpA X hx hZ hown w1 w2 w3 w4 eT A' B' (Or.inl ⟨rfl, hk⟩) h1' h2' h3' (by rw [za]; exact hs) (by rw [zb]; exact hdl) rfl hdl N ge (g := mkF m pc Ls (.int nn :: .int dp :: .ref b :: .int sp :: .ref a :: st)) rfl (by rw [hml]; exact hsz) rfl (hb hby hd) hf (W := W0) (by show 2 * 0 + _ ≤ _; omega) hl
  rw [ary_us _ _ hs] at C'
  have hlen : vd.length.toInt32.toNatClampNeg = (vd.take dp.toNatClampNeg ++ (vs.drop sp.toNatClampNeg).take nn.toNatClampNeg ++ vd.drop (dp.toNatClampNeg + nn.toNatClampNeg)).length := by
    rw [zb]; simp only [List.length_append, List.length_take, List.length_drop]; omega
  exact (k h' K' (Ary.of_arv C' hlen) p e s m args below meth c T' L' hx hZ hby hml hown hret hlk hnm hn0 X' e' N').step st'
theorem W.cloneArr {i : Nat} {a : Addr} {ty : FieldType} {vs : List Value} {ad : String} (n : Nat) (hd : decode bytes pc = .ok (.invokevirtual i, 3)) (hn : pc + 3 = n) (w1 : (Jvm.Cond.methodLink own i ⟨ad, "clone", "()Ljava/lang/Object;"⟩).before a0 Z = true) (w2 : (Jvm.Cond.sameMethod ad "java/lang/Object" "clone" "()Ljava/lang/Object;").before a0 Z = true) (w3 : (Jvm.Cond.native ⟨"java/lang/Object", "clone", "()Ljava/lang/Object;"⟩).before a0 Z = true)
    (w4 : (Jvm.Cond.instanceMethod ⟨"java/lang/Object", "clone", "()Ljava/lang/Object;"⟩).before a0 Z = true) (w5 : (Jvm.Cond.selects ad ⟨ad, "clone", "()Ljava/lang/Object;"⟩ ⟨"java/lang/Object", "clone", "()Ljava/lang/Object;"⟩).before a0 Z = true) (w6 : (Jvm.Cond.castable ad "java/lang/Cloneable").before a0 Z = true)
    (A : Ary Z h a ty vs) (E : Exa Z h a ad) (hsz : Ls.size = maxL) (hf : 1 ≤ R.frames) (W0 cap : Nat) (hW : (st.map fun v => v.category).sum ≤ W0) (hl : W0 + 14 ≤ R.locals) (hcap : vs.length ≤ cap) (hc : cells + 1 ≤ R.cells) (hs : slots + cap ≤ R.slots)
    (k : ∀ h' b, b = h.size → n0 ≤ b → Ext h h' → Keep h h' [] → Ary Z h' b ty vs → Exa Z h' b ad → W l R Z own nm bytes maxL ret n0 P h' (cells + 1) (slots + cap) n Ls (.ref b :: st)) : W l R Z own nm bytes maxL ret n0 P h cells slots pc Ls (.ref a :: st) := by
  subst hn
  intro p e s m args below meth c T locs hx hZ hby hml hown hret hlk hnm hn0 X eT N
  have za : vs.length.toInt32.toNatClampNeg = vs.length := by
    have S : vs.length < 2 ^ 31 := by obtain ⟨_, _, _, _, S⟩ := A; exact S
    have hz : (vs.length.toInt32).toInt = vs.length := Int32.toInt_ofNat_small S
    simp only [Int32.toNatClampNeg]; rw [hz]; simp
  obtain ⟨ka, A'⟩ := A.arv .null
  obtain ⟨T', h', X', e', E', B', C', st'⟩ := cloneH X hx hZ hown w1 w2 w3 w4 w5 w6 eT A'.arh E (g := mkF m pc Ls (.ref a :: st)) rfl (by rw [hml]; exact hsz) rfl (hb hby hd) hf (W := W0) (cap := cap) (by show 2 * 0 + _ ≤ _; omega) hl (by rw [za]; exact hcap) hc hs
  have hb0 : n0 ≤ h.size := Nat.le_trans hn0 (eT ▸ size_le X)
  exact (k h' h.size rfl hb0 E' (Keep.of_ext E') (Ary.of_arv (show Arv Z h' h.size ka ty vs.length.toInt32 vs .null from B') za) C' p e s m args below meth c T' _ hx hZ hby hml hown hret hlk hnm hn0 X' e' N).step st'
theorem W.ireturn {x : Int32} (hd : decode bytes pc = .ok (.ireturn, 1)) (hr : ret = some .int) (hp : P (some (.int x)) h) (hc : cells ≤ R.cells) (hs : slots ≤ R.slots) : W l R Z own nm bytes maxL ret n0 P h cells slots pc Ls (.int x :: st) := by
  intro p e s m args below meth c T locs hx hZ hby hml hown hret hlk hnm hn0 X eT N
  obtain ⟨fs, hr', hrun, hended, hW, hsame⟩ := X.leave (v := some (.int x)) (fun q => by rw [hret, hr] at q; cases q) hlk
  exact ⟨_, _, retOut X hx (t := .int) (i := .ireturn) (hret.trans hr) rfl (Or.inl ⟨rfl, Or.inl rfl, _, rfl⟩) (hb hby hd) hr', hrun, hended, _, _, rfl, ⟨by show P _ T.heap; rw [eT]; exact hp, N⟩, ⟨_, rfl⟩, hW, hsame.mono hc hs⟩
theorem W.ireturnN {x : Int32} {t : FieldType} (hd : decode bytes pc = .ok (.ireturn, 1)) (hr : ret = some t) (ht : t = .boolean ∨ t = .byte ∨ t = .char ∨ t = .short) (x' : Int32) (hx' : nar t x = x') (hp : P (some (.int x')) h) (hc : cells ≤ R.cells) (hs : slots ≤ R.slots) : W l R Z own nm bytes maxL ret n0 P h cells slots pc Ls (.int x :: st) := by
  subst hx'
  intro p e s m args below meth c T locs hx hZ hby hml hown hret hlk hnm hn0 X eT N
  obtain ⟨fs, hr', hrun, hended, hW, hsame⟩ := X.leave (v := some (.int (nar t x))) (fun q => by rw [hret, hr] at q; cases q) hlk
  exact ⟨_, _, retN X hx (hret.trans hr) ht (hb hby hd) hr', hrun, hended, _, _, rfl, ⟨by show P _ T.heap; rw [eT]; exact hp, N⟩, ⟨_, rfl⟩, hW, hsame.mono hc hs⟩
theorem W.lreturn {x : Int64} (hd : decode bytes pc = .ok (.lreturn, 1)) (hr : ret = some .long) (hp : P (some (.long x)) h) (hc : cells ≤ R.cells) (hs : slots ≤ R.slots) : W l R Z own nm bytes maxL ret n0 P h cells slots pc Ls (.long x :: st) := by
  intro p e s m args below meth c T locs hx hZ hby hml hown hret hlk hnm hn0 X eT N
  obtain ⟨fs, hr', hrun, hended, hW, hsame⟩ := X.leave (v := some (.long x)) (fun q => by rw [hret, hr] at q; cases q) hlk
  exact ⟨_, _, retOut X hx (t := .long) (i := .lreturn) (hret.trans hr) rfl (Or.inr (Or.inl ⟨rfl, rfl, _, rfl⟩)) (hb hby hd) hr', hrun, hended, _, _, rfl, ⟨by show P _ T.heap; rw [eT]; exact hp, N⟩, ⟨_, rfl⟩, hW, hsame.mono hc hs⟩
theorem W.areturn {v : Value} {t : FieldType} (hd : decode bytes pc = .ok (.areturn, 1)) (hr : ret = some t) (ht : t.isReference = true) (hv : v.isRef = true) (hn : narrow t v = v) (hp : P (some v) h) (hc : cells ≤ R.cells) (hs : slots ≤ R.slots) : W l R Z own nm bytes maxL ret n0 P h cells slots pc Ls (v :: st) := by
  intro p e s m args below meth c T locs hx hZ hby hml hown hret hlk hnm hn0 X eT N
  obtain ⟨fs, hr', hrun, hended, hW, hsame⟩ := X.leave (v := some v) (fun q => by rw [hret, hr] at q; cases q) hlk
  exact ⟨_, _, retOut X hx (t := t) (i := .areturn) (hret.trans hr) hn (Or.inr (Or.inr (Or.inr (Or.inr ⟨rfl, ht, hv⟩)))) (hb hby hd) hr', hrun, hended, _, _, rfl, ⟨by show P _ T.heap; rw [eT]; exact hp, N⟩, ⟨_, rfl⟩, hW, hsame.mono hc hs⟩
theorem W.return_ (hd : decode bytes pc = .ok (.return_, 1)) (hr : ret = none) (hp : P none h) (hc : cells ≤ R.cells) (hs : slots ≤ R.slots) : W l R Z own nm bytes maxL ret n0 P h cells slots pc Ls [] := by
  intro p e s m args below meth c T locs hx hZ hby hml hown hret hlk hnm hn0 X eT N
  obtain ⟨fs, hr', hrun, hended, hW, hsame⟩ := X.leave (v := none) (fun q => rfl) hlk
  exact ⟨_, _, X.returnOut hx (hret.trans hr) (hb hby hd) hr', hrun, hended, _, _, rfl, ⟨by show P _ T.heap; rw [eT]; exact hp, N⟩, ⟨_, rfl⟩, hW, hsame.mono hc hs⟩
end Rules
end Jvm.Wk

namespace Jvm.Pilot.@@N@@
open Jvm Jvm.ClassFile Sem Op Lib Jvm.Free Jvm.Stand Jvm.LawKit Jvm.RoadKit Jvm.Wk Bundle Jvm.Pilot.@@N@@.Jvm.D
theorem d_method_3_0 : decode method_3_code 0 = .ok (.iload_n 1, 1) := by decide +kernel
theorem d_method_3_1 : decode method_3_code 1 = .ok (.iload_n 2, 1) := by decide +kernel
theorem d_method_3_2 : decode method_3_code 2 = .ok (.iushr, 1) := by decide +kernel
theorem d_method_3_3 : decode method_3_code 3 = .ok (.iconst 1, 1) := by decide +kernel
theorem d_method_3_4 : decode method_3_code 4 = .ok (.iand, 1) := by decide +kernel
theorem d_method_3_5 : decode method_3_code 5 = .ok (.ifCond .eq 22, 3) := by decide +kernel
theorem d_method_3_27 : decode method_3_code 27 = .ok (.iload_n 0, 1) := by decide +kernel
theorem d_method_3_28 : decode method_3_code 28 = .ok (.i2b, 1) := by decide +kernel
theorem d_method_3_29 : decode method_3_code 29 = .ok (.ireturn, 1) := by decide +kernel
theorem d_method_3_8 : decode method_3_code 8 = .ok (.bipush 48, 2) := by decide +kernel
theorem d_method_3_10 : decode method_3_code 10 = .ok (.iload_n 1, 1) := by decide +kernel
theorem d_method_3_11 : decode method_3_code 11 = .ok (.bipush 8, 2) := by decide +kernel
theorem d_method_3_13 : decode method_3_code 13 = .ok (.iconst 4, 1) := by decide +kernel
theorem d_method_3_14 : decode method_3_code 14 = .ok (.iload_n 2, 1) := by decide +kernel
theorem d_method_3_15 : decode method_3_code 15 = .ok (.imul, 1) := by decide +kernel
theorem d_method_3_16 : decode method_3_code 16 = .ok (.iadd, 1) := by decide +kernel
theorem d_method_3_17 : decode method_3_code 17 = .ok (.iushr, 1) := by decide +kernel
theorem d_method_3_18 : decode method_3_code 18 = .ok (.bipush 15, 2) := by decide +kernel
theorem d_method_3_20 : decode method_3_code 20 = .ok (.iand, 1) := by decide +kernel
theorem d_method_3_21 : decode method_3_code 21 = .ok (.bipush 10, 2) := by decide +kernel
theorem d_method_3_23 : decode method_3_code 23 = .ok (.irem, 1) := by decide +kernel
theorem d_method_3_24 : decode method_3_code 24 = .ok (.iadd, 1) := by decide +kernel
theorem d_method_3_25 : decode method_3_code 25 = .ok (.i2b, 1) := by decide +kernel
theorem d_method_3_26 : decode method_3_code 26 = .ok (.ireturn, 1) := by decide +kernel
theorem pn_0 : plainName "com/example/tallymark/tallymark/InputTimesDigitsPinLaw" = true := by first | (simp [plainName, overriddenIn]; done) | decide +kernel
theorem d_method_4_0 : decode method_4_code 0 = .ok (.iload_n 0, 1) := by decide +kernel
theorem d_method_4_1 : decode method_4_code 1 = .ok (.bipush 48, 2) := by decide +kernel
theorem d_method_4_3 : decode method_4_code 3 = .ok (.if_icmp .lt 9, 3) := by decide +kernel
theorem d_method_4_12 : decode method_4_code 12 = .ok (.iconst (-1), 1) := by decide +kernel
theorem d_method_4_13 : decode method_4_code 13 = .ok (.ireturn, 1) := by decide +kernel
theorem d_method_4_6 : decode method_4_code 6 = .ok (.iload_n 0, 1) := by decide +kernel
theorem d_method_4_7 : decode method_4_code 7 = .ok (.bipush 57, 2) := by decide +kernel
theorem d_method_4_9 : decode method_4_code 9 = .ok (.if_icmp .le 5, 3) := by decide +kernel
theorem d_method_4_14 : decode method_4_code 14 = .ok (.iload_n 0, 1) := by decide +kernel
theorem d_method_4_15 : decode method_4_code 15 = .ok (.bipush 48, 2) := by decide +kernel
theorem d_method_4_17 : decode method_4_code 17 = .ok (.isub, 1) := by decide +kernel
theorem d_method_4_18 : decode method_4_code 18 = .ok (.ireturn, 1) := by decide +kernel
theorem d_method_5_0 : decode method_5_code 0 = .ok (.iload_n 0, 1) := by decide +kernel
theorem d_method_5_1 : decode method_5_code 1 = .ok (.ifCond .ne 5, 3) := by decide +kernel
theorem d_method_5_6 : decode method_5_code 6 = .ok (.iload_n 0, 1) := by decide +kernel
theorem d_method_5_7 : decode method_5_code 7 = .ok (.iconst 1, 1) := by decide +kernel
theorem d_method_5_8 : decode method_5_code 8 = .ok (.if_icmp .ne 6, 3) := by decide +kernel
theorem d_method_5_14 : decode method_5_code 14 = .ok (.iload_n 0, 1) := by decide +kernel
theorem d_method_5_15 : decode method_5_code 15 = .ok (.iconst 2, 1) := by decide +kernel
theorem d_method_5_16 : decode method_5_code 16 = .ok (.if_icmp .ne 6, 3) := by decide +kernel
theorem d_method_5_22 : decode method_5_code 22 = .ok (.iload_n 0, 1) := by decide +kernel
theorem d_method_5_23 : decode method_5_code 23 = .ok (.iconst 3, 1) := by decide +kernel
theorem d_method_5_24 : decode method_5_code 24 = .ok (.if_icmp .ne 7, 3) := by decide +kernel
theorem d_method_5_31 : decode method_5_code 31 = .ok (.sipush 10000, 3) := by decide +kernel
theorem d_method_5_34 : decode method_5_code 34 = .ok (.ireturn, 1) := by decide +kernel
theorem d_method_5_27 : decode method_5_code 27 = .ok (.sipush 1000, 3) := by decide +kernel
theorem d_method_5_30 : decode method_5_code 30 = .ok (.ireturn, 1) := by decide +kernel
theorem d_method_5_19 : decode method_5_code 19 = .ok (.bipush 100, 2) := by decide +kernel
theorem d_method_5_21 : decode method_5_code 21 = .ok (.ireturn, 1) := by decide +kernel
theorem d_method_5_11 : decode method_5_code 11 = .ok (.bipush 10, 2) := by decide +kernel
theorem d_method_5_13 : decode method_5_code 13 = .ok (.ireturn, 1) := by decide +kernel
theorem d_method_5_4 : decode method_5_code 4 = .ok (.iconst 1, 1) := by decide +kernel
theorem d_method_5_5 : decode method_5_code 5 = .ok (.ireturn, 1) := by decide +kernel
theorem d_method_6_0 : decode method_6_code 0 = .ok (.iload_n 3, 1) := by decide +kernel
theorem d_method_6_1 : decode method_6_code 1 = .ok (.iload_n 2, 1) := by decide +kernel
theorem d_method_6_2 : decode method_6_code 2 = .ok (.if_icmp .ge 18, 3) := by decide +kernel
theorem d_method_6_20 : decode method_6_code 20 = .ok (.iconst 0, 1) := by decide +kernel
theorem d_method_6_21 : decode method_6_code 21 = .ok (.ireturn, 1) := by decide +kernel
theorem d_method_6_5 : decode method_6_code 5 = .ok (.aload_n 0, 1) := by decide +kernel
theorem d_method_6_6 : decode method_6_code 6 = .ok (.iload_n 1, 1) := by decide +kernel
theorem d_method_6_7 : decode method_6_code 7 = .ok (.iload_n 3, 1) := by decide +kernel
theorem d_method_6_8 : decode method_6_code 8 = .ok (.iadd, 1) := by decide +kernel
theorem d_method_6_9 : decode method_6_code 9 = .ok (.baload, 1) := by decide +kernel
theorem d_method_6_10 : decode method_6_code 10 = .ok (.invokestatic 22, 3) := by decide +kernel
theorem wd_15 {Z : State} {a0 : Array Value} (hw : ∀ d ∈ tables_1, d.before a0 Z = true) : (Jvm.Cond.methodLink "com/example/tallymark/tallymark/InputTimesDigitsPinLaw" (22 : Nat) ({ cls := "com/example/tallymark/tallymark/InputTimesDigitsPinLaw", name := "dig", desc := "(B)I" } : Jvm.MethodName)).before a0 Z = true := hw _ (List.mem_of_getElem? (i := 15) rfl)
theorem wd_17 {Z : State} {a0 : Array Value} (hw : ∀ d ∈ tables_1, d.before a0 Z = true) : (Jvm.Cond.code ({ cls := "com/example/tallymark/tallymark/InputTimesDigitsPinLaw", name := "dig", desc := "(B)I" } : Jvm.MethodName) method_4_code (1 : Nat) (Option.some Jvm.ClassFile.FieldType.int)).before a0 Z = true := hw _ (List.mem_of_getElem? (i := 17) rfl)
theorem pd_0 : parseMethodDescriptor "(B)I" = some ⟨[.byte], some .int⟩ := by decide +kernel
theorem wd_16 {Z : State} {a0 : Array Value} (hw : ∀ d ∈ tables_1, d.before a0 Z = true) : (Jvm.Cond.static ({ cls := "com/example/tallymark/tallymark/InputTimesDigitsPinLaw", name := "dig", desc := "(B)I" } : Jvm.MethodName)).before a0 Z = true := hw _ (List.mem_of_getElem? (i := 16) rfl)
theorem wd_3 {Z : State} {a0 : Array Value} (hw : ∀ d ∈ tables_1, d.before a0 Z = true) : (Jvm.Cond.initialized "com/example/tallymark/tallymark/InputTimesDigitsPinLaw").before a0 Z = true := hw _ (List.mem_of_getElem? (i := 3) rfl)
theorem d_method_6_13 : decode method_6_code 13 = .ok (.ifCond .ge 7, 3) := by decide +kernel
theorem d_method_6_16 : decode method_6_code 16 = .ok (.iconst 1, 1) := by decide +kernel
theorem d_method_6_17 : decode method_6_code 17 = .ok (.goto 4, 3) := by decide +kernel
theorem d_method_7_0 : decode method_7_code 0 = .ok (.iload_n 3, 1) := by decide +kernel
theorem d_method_7_1 : decode method_7_code 1 = .ok (.iload_n 2, 1) := by decide +kernel
theorem d_method_7_2 : decode method_7_code 2 = .ok (.if_icmp .lt 5, 3) := by decide +kernel
theorem d_method_7_5 : decode method_7_code 5 = .ok (.iconst 0, 1) := by decide +kernel
theorem d_method_7_6 : decode method_7_code 6 = .ok (.ireturn, 1) := by decide +kernel
theorem d_method_7_7 : decode method_7_code 7 = .ok (.aload_n 0, 1) := by decide +kernel
theorem d_method_7_8 : decode method_7_code 8 = .ok (.iload_n 1, 1) := by decide +kernel
theorem d_method_7_9 : decode method_7_code 9 = .ok (.iload_n 3, 1) := by decide +kernel
theorem d_method_7_10 : decode method_7_code 10 = .ok (.iadd, 1) := by decide +kernel
theorem d_method_7_11 : decode method_7_code 11 = .ok (.baload, 1) := by decide +kernel
theorem d_method_7_12 : decode method_7_code 12 = .ok (.invokestatic 22, 3) := by decide +kernel
theorem d_method_7_15 : decode method_7_code 15 = .ok (.iload_n 2, 1) := by decide +kernel
theorem d_method_7_16 : decode method_7_code 16 = .ok (.iconst 1, 1) := by decide +kernel
theorem d_method_7_17 : decode method_7_code 17 = .ok (.isub, 1) := by decide +kernel
theorem d_method_7_18 : decode method_7_code 18 = .ok (.iload_n 3, 1) := by decide +kernel
theorem d_method_7_19 : decode method_7_code 19 = .ok (.isub, 1) := by decide +kernel
theorem d_method_7_20 : decode method_7_code 20 = .ok (.invokestatic 26, 3) := by decide +kernel
theorem wd_21 {Z : State} {a0 : Array Value} (hw : ∀ d ∈ tables_1, d.before a0 Z = true) : (Jvm.Cond.methodLink "com/example/tallymark/tallymark/InputTimesDigitsPinLaw" (26 : Nat) ({ cls := "com/example/tallymark/tallymark/InputTimesDigitsPinLaw", name := "pow10", desc := "(I)I" } : Jvm.MethodName)).before a0 Z = true := hw _ (List.mem_of_getElem? (i := 21) rfl)
theorem wd_23 {Z : State} {a0 : Array Value} (hw : ∀ d ∈ tables_1, d.before a0 Z = true) : (Jvm.Cond.code ({ cls := "com/example/tallymark/tallymark/InputTimesDigitsPinLaw", name := "pow10", desc := "(I)I" } : Jvm.MethodName) method_5_code (1 : Nat) (Option.some Jvm.ClassFile.FieldType.int)).before a0 Z = true := hw _ (List.mem_of_getElem? (i := 23) rfl)
theorem pd_1 : parseMethodDescriptor "(I)I" = some ⟨[.int], some .int⟩ := by decide +kernel
theorem wd_22 {Z : State} {a0 : Array Value} (hw : ∀ d ∈ tables_1, d.before a0 Z = true) : (Jvm.Cond.static ({ cls := "com/example/tallymark/tallymark/InputTimesDigitsPinLaw", name := "pow10", desc := "(I)I" } : Jvm.MethodName)).before a0 Z = true := hw _ (List.mem_of_getElem? (i := 22) rfl)
theorem d_method_7_23 : decode method_7_code 23 = .ok (.imul, 1) := by decide +kernel
theorem d_method_7_24 : decode method_7_code 24 = .ok (.ireturn, 1) := by decide +kernel
theorem d_prog_58_method_6_0 : decode prog_58_method_6_code 0 = .ok (.iconst 0, 1) := by decide +kernel
theorem d_prog_58_method_6_1 : decode prog_58_method_6_code 1 = .ok (.istore_n 3, 1) := by decide +kernel
theorem d_prog_58_method_6_2 : decode prog_58_method_6_code 2 = .ok (.iload_n 1, 1) := by decide +kernel
theorem d_prog_58_method_6_3 : decode prog_58_method_6_code 3 = .ok (.istore 4, 2) := by decide +kernel
theorem d_prog_58_method_6_5 : decode prog_58_method_6_code 5 = .ok (.iload 4, 2) := by decide +kernel
theorem d_prog_58_method_6_7 : decode prog_58_method_6_code 7 = .ok (.iload_n 1, 1) := by decide +kernel
theorem d_prog_58_method_6_8 : decode prog_58_method_6_code 8 = .ok (.iload_n 2, 1) := by decide +kernel
theorem d_prog_58_method_6_9 : decode prog_58_method_6_code 9 = .ok (.iadd, 1) := by decide +kernel
theorem d_prog_58_method_6_10 : decode prog_58_method_6_code 10 = .ok (.if_icmp .ge 40, 3) := by decide +kernel
theorem d_prog_58_method_6_50 : decode prog_58_method_6_code 50 = .ok (.iload_n 3, 1) := by decide +kernel
theorem d_prog_58_method_6_51 : decode prog_58_method_6_code 51 = .ok (.ireturn, 1) := by decide +kernel
theorem pn_1 : plainName "com/example/tallymark/tallymark/InputTimes" = true := by first | (simp [plainName, overriddenIn]; done) | decide +kernel
theorem d_method_8_0 : decode method_8_code 0 = .ok (.aload_n 0, 1) := by decide +kernel
theorem d_method_8_1 : decode method_8_code 1 = .ok (.iload_n 1, 1) := by decide +kernel
theorem d_method_8_2 : decode method_8_code 2 = .ok (.iload_n 2, 1) := by decide +kernel
theorem d_method_8_3 : decode method_8_code 3 = .ok (.iconst 0, 1) := by decide +kernel
theorem d_method_8_4 : decode method_8_code 4 = .ok (.invokestatic 30, 3) := by decide +kernel
theorem wd_12 {Z : State} {a0 : Array Value} (hw : ∀ d ∈ tables_1, d.before a0 Z = true) : (Jvm.Cond.methodLink "com/example/tallymark/tallymark/InputTimesDigitsPinLaw" (30 : Nat) ({ cls := "com/example/tallymark/tallymark/InputTimesDigitsPinLaw", name := "badAt", desc := "([BIII)Z" } : Jvm.MethodName)).before a0 Z = true := hw _ (List.mem_of_getElem? (i := 12) rfl)
theorem wd_14 {Z : State} {a0 : Array Value} (hw : ∀ d ∈ tables_1, d.before a0 Z = true) : (Jvm.Cond.code ({ cls := "com/example/tallymark/tallymark/InputTimesDigitsPinLaw", name := "badAt", desc := "([BIII)Z" } : Jvm.MethodName) method_6_code (4 : Nat) (Option.some Jvm.ClassFile.FieldType.boolean)).before a0 Z = true := hw _ (List.mem_of_getElem? (i := 14) rfl)
theorem pd_2 : parseMethodDescriptor "([BIII)Z" = some ⟨[(.array .byte), .int, .int, .int], some .boolean⟩ := by decide +kernel
theorem wd_13 {Z : State} {a0 : Array Value} (hw : ∀ d ∈ tables_1, d.before a0 Z = true) : (Jvm.Cond.static ({ cls := "com/example/tallymark/tallymark/InputTimesDigitsPinLaw", name := "badAt", desc := "([BIII)Z" } : Jvm.MethodName)).before a0 Z = true := hw _ (List.mem_of_getElem? (i := 13) rfl)
theorem d_method_8_7 : decode method_8_code 7 = .ok (.ifCond .ne 33, 3) := by decide +kernel
theorem d_method_8_10 : decode method_8_code 10 = .ok (.aload_n 0, 1) := by decide +kernel
theorem d_method_8_11 : decode method_8_code 11 = .ok (.iload_n 1, 1) := by decide +kernel
theorem d_method_8_12 : decode method_8_code 12 = .ok (.iload_n 2, 1) := by decide +kernel
theorem d_method_8_13 : decode method_8_code 13 = .ok (.iconst 1, 1) := by decide +kernel
theorem d_method_8_14 : decode method_8_code 14 = .ok (.invokestatic 30, 3) := by decide +kernel
theorem d_method_8_17 : decode method_8_code 17 = .ok (.ifCond .ne 23, 3) := by decide +kernel
theorem d_method_8_20 : decode method_8_code 20 = .ok (.aload_n 0, 1) := by decide +kernel
theorem d_method_8_21 : decode method_8_code 21 = .ok (.iload_n 1, 1) := by decide +kernel
theorem d_method_8_22 : decode method_8_code 22 = .ok (.iload_n 2, 1) := by decide +kernel
theorem d_method_8_23 : decode method_8_code 23 = .ok (.iconst 2, 1) := by decide +kernel
theorem d_method_8_24 : decode method_8_code 24 = .ok (.invokestatic 30, 3) := by decide +kernel
theorem d_method_8_27 : decode method_8_code 27 = .ok (.ifCond .ne 13, 3) := by decide +kernel
theorem d_method_8_30 : decode method_8_code 30 = .ok (.aload_n 0, 1) := by decide +kernel
theorem d_method_8_31 : decode method_8_code 31 = .ok (.iload_n 1, 1) := by decide +kernel
theorem d_method_8_32 : decode method_8_code 32 = .ok (.iload_n 2, 1) := by decide +kernel
theorem d_method_8_33 : decode method_8_code 33 = .ok (.iconst 3, 1) := by decide +kernel
theorem d_method_8_34 : decode method_8_code 34 = .ok (.invokestatic 30, 3) := by decide +kernel
theorem d_method_8_37 : decode method_8_code 37 = .ok (.ifCond .eq 5, 3) := by decide +kernel
theorem d_method_8_42 : decode method_8_code 42 = .ok (.aload_n 0, 1) := by decide +kernel
theorem d_method_8_43 : decode method_8_code 43 = .ok (.iload_n 1, 1) := by decide +kernel
theorem d_method_8_44 : decode method_8_code 44 = .ok (.iload_n 2, 1) := by decide +kernel
theorem d_method_8_45 : decode method_8_code 45 = .ok (.iconst 0, 1) := by decide +kernel
theorem d_method_8_46 : decode method_8_code 46 = .ok (.invokestatic 34, 3) := by decide +kernel
theorem wd_18 {Z : State} {a0 : Array Value} (hw : ∀ d ∈ tables_1, d.before a0 Z = true) : (Jvm.Cond.methodLink "com/example/tallymark/tallymark/InputTimesDigitsPinLaw" (34 : Nat) ({ cls := "com/example/tallymark/tallymark/InputTimesDigitsPinLaw", name := "term", desc := "([BIII)I" } : Jvm.MethodName)).before a0 Z = true := hw _ (List.mem_of_getElem? (i := 18) rfl)
theorem wd_20 {Z : State} {a0 : Array Value} (hw : ∀ d ∈ tables_1, d.before a0 Z = true) : (Jvm.Cond.code ({ cls := "com/example/tallymark/tallymark/InputTimesDigitsPinLaw", name := "term", desc := "([BIII)I" } : Jvm.MethodName) method_7_code (4 : Nat) (Option.some Jvm.ClassFile.FieldType.int)).before a0 Z = true := hw _ (List.mem_of_getElem? (i := 20) rfl)
theorem pd_3 : parseMethodDescriptor "([BIII)I" = some ⟨[(.array .byte), .int, .int, .int], some .int⟩ := by decide +kernel
theorem wd_19 {Z : State} {a0 : Array Value} (hw : ∀ d ∈ tables_1, d.before a0 Z = true) : (Jvm.Cond.static ({ cls := "com/example/tallymark/tallymark/InputTimesDigitsPinLaw", name := "term", desc := "([BIII)I" } : Jvm.MethodName)).before a0 Z = true := hw _ (List.mem_of_getElem? (i := 19) rfl)
theorem d_method_8_49 : decode method_8_code 49 = .ok (.aload_n 0, 1) := by decide +kernel
theorem d_method_8_50 : decode method_8_code 50 = .ok (.iload_n 1, 1) := by decide +kernel
theorem d_method_8_51 : decode method_8_code 51 = .ok (.iload_n 2, 1) := by decide +kernel
theorem d_method_8_52 : decode method_8_code 52 = .ok (.iconst 1, 1) := by decide +kernel
theorem d_method_8_53 : decode method_8_code 53 = .ok (.invokestatic 34, 3) := by decide +kernel
theorem d_method_8_56 : decode method_8_code 56 = .ok (.iadd, 1) := by decide +kernel
theorem d_method_8_57 : decode method_8_code 57 = .ok (.aload_n 0, 1) := by decide +kernel
theorem d_method_8_58 : decode method_8_code 58 = .ok (.iload_n 1, 1) := by decide +kernel
theorem d_method_8_59 : decode method_8_code 59 = .ok (.iload_n 2, 1) := by decide +kernel
theorem d_method_8_60 : decode method_8_code 60 = .ok (.iconst 2, 1) := by decide +kernel
theorem d_method_8_61 : decode method_8_code 61 = .ok (.invokestatic 34, 3) := by decide +kernel
theorem d_method_8_64 : decode method_8_code 64 = .ok (.iadd, 1) := by decide +kernel
theorem d_method_8_65 : decode method_8_code 65 = .ok (.aload_n 0, 1) := by decide +kernel
theorem d_method_8_66 : decode method_8_code 66 = .ok (.iload_n 1, 1) := by decide +kernel
theorem d_method_8_67 : decode method_8_code 67 = .ok (.iload_n 2, 1) := by decide +kernel
theorem d_method_8_68 : decode method_8_code 68 = .ok (.iconst 3, 1) := by decide +kernel
theorem d_method_8_69 : decode method_8_code 69 = .ok (.invokestatic 34, 3) := by decide +kernel
theorem d_method_8_72 : decode method_8_code 72 = .ok (.iadd, 1) := by decide +kernel
theorem d_method_8_73 : decode method_8_code 73 = .ok (.ireturn, 1) := by decide +kernel
theorem d_prog_58_method_6_13 : decode prog_58_method_6_code 13 = .ok (.aload_n 0, 1) := by decide +kernel
theorem d_prog_58_method_6_14 : decode prog_58_method_6_code 14 = .ok (.iload 4, 2) := by decide +kernel
theorem d_prog_58_method_6_16 : decode prog_58_method_6_code 16 = .ok (.baload, 1) := by decide +kernel
theorem d_prog_58_method_6_17 : decode prog_58_method_6_code 17 = .ok (.bipush 48, 2) := by decide +kernel
theorem d_prog_58_method_6_19 : decode prog_58_method_6_code 19 = .ok (.isub, 1) := by decide +kernel
theorem d_prog_58_method_6_20 : decode prog_58_method_6_code 20 = .ok (.istore 5, 2) := by decide +kernel
theorem d_prog_58_method_6_22 : decode prog_58_method_6_code 22 = .ok (.iload 5, 2) := by decide +kernel
theorem d_prog_58_method_6_24 : decode prog_58_method_6_code 24 = .ok (.ifCond .lt 10, 3) := by decide +kernel
theorem d_prog_58_method_6_34 : decode prog_58_method_6_code 34 = .ok (.iconst (-1), 1) := by decide +kernel
theorem d_prog_58_method_6_35 : decode prog_58_method_6_code 35 = .ok (.ireturn, 1) := by decide +kernel
theorem d_prog_58_method_6_27 : decode prog_58_method_6_code 27 = .ok (.iload 5, 2) := by decide +kernel
theorem d_prog_58_method_6_29 : decode prog_58_method_6_code 29 = .ok (.bipush 9, 2) := by decide +kernel
theorem d_prog_58_method_6_31 : decode prog_58_method_6_code 31 = .ok (.if_icmp .le 5, 3) := by decide +kernel
theorem d_prog_58_method_6_36 : decode prog_58_method_6_code 36 = .ok (.bipush 10, 2) := by decide +kernel
theorem d_prog_58_method_6_38 : decode prog_58_method_6_code 38 = .ok (.iload_n 3, 1) := by decide +kernel
theorem d_prog_58_method_6_39 : decode prog_58_method_6_code 39 = .ok (.imul, 1) := by decide +kernel
theorem d_prog_58_method_6_40 : decode prog_58_method_6_code 40 = .ok (.iload 5, 2) := by decide +kernel
theorem d_prog_58_method_6_42 : decode prog_58_method_6_code 42 = .ok (.iadd, 1) := by decide +kernel
theorem d_prog_58_method_6_43 : decode prog_58_method_6_code 43 = .ok (.istore_n 3, 1) := by decide +kernel
theorem d_prog_58_method_6_44 : decode prog_58_method_6_code 44 = .ok (.iinc 4 1, 3) := by decide +kernel
theorem d_prog_58_method_6_47 : decode prog_58_method_6_code 47 = .ok (.goto (-42), 3) := by decide +kernel
theorem d_method_8_40 : decode method_8_code 40 = .ok (.iconst (-1), 1) := by decide +kernel
theorem d_method_8_41 : decode method_8_code 41 = .ok (.ireturn, 1) := by decide +kernel
theorem wd_0 {Z : State} {a0 : Array Value} (hw : ∀ d ∈ tables_1, d.before a0 Z = true) : (Jvm.Cond.arrayClass Jvm.ClassFile.FieldType.byte).before a0 Z = true := hw _ (List.mem_of_getElem? (i := 0) rfl)
theorem wd_1 {Z : State} {a0 : Array Value} (hw : ∀ d ∈ tables_1, d.before a0 Z = true) : (Jvm.Cond.methodLink "com/example/tallymark/tallymark/InputTimesDigitsPinLaw" (7 : Nat) ({ cls := "com/example/tallymark/tallymark/InputTimesDigitsPinLaw", name := "pick", desc := "(III)B" } : Jvm.MethodName)).before a0 Z = true := hw _ (List.mem_of_getElem? (i := 1) rfl)
theorem wd_4 {Z : State} {a0 : Array Value} (hw : ∀ d ∈ tables_1, d.before a0 Z = true) : (Jvm.Cond.code ({ cls := "com/example/tallymark/tallymark/InputTimesDigitsPinLaw", name := "pick", desc := "(III)B" } : Jvm.MethodName) method_3_code (3 : Nat) (Option.some Jvm.ClassFile.FieldType.byte)).before a0 Z = true := hw _ (List.mem_of_getElem? (i := 4) rfl)
theorem pd_4 : parseMethodDescriptor "(III)B" = some ⟨[.int, .int, .int], some .byte⟩ := by decide +kernel
theorem wd_2 {Z : State} {a0 : Array Value} (hw : ∀ d ∈ tables_1, d.before a0 Z = true) : (Jvm.Cond.static ({ cls := "com/example/tallymark/tallymark/InputTimesDigitsPinLaw", name := "pick", desc := "(III)B" } : Jvm.MethodName)).before a0 Z = true := hw _ (List.mem_of_getElem? (i := 2) rfl)
theorem wd_5 {Z : State} {a0 : Array Value} (hw : ∀ d ∈ tables_1, d.before a0 Z = true) : (Jvm.Cond.methodLink "com/example/tallymark/tallymark/InputTimesDigitsPinLaw" (13 : Nat) ({ cls := "com/example/tallymark/tallymark/InputTimes", name := "digits", desc := "([BII)I" } : Jvm.MethodName)).before a0 Z = true := hw _ (List.mem_of_getElem? (i := 5) rfl)
theorem wd_8 {Z : State} {a0 : Array Value} (hw : ∀ d ∈ tables_1, d.before a0 Z = true) : (Jvm.Cond.code ({ cls := "com/example/tallymark/tallymark/InputTimes", name := "digits", desc := "([BII)I" } : Jvm.MethodName) prog_58_method_6_code (6 : Nat) (Option.some Jvm.ClassFile.FieldType.int)).before a0 Z = true := hw _ (List.mem_of_getElem? (i := 8) rfl)
theorem pd_5 : parseMethodDescriptor "([BII)I" = some ⟨[(.array .byte), .int, .int], some .int⟩ := by decide +kernel
theorem wd_6 {Z : State} {a0 : Array Value} (hw : ∀ d ∈ tables_1, d.before a0 Z = true) : (Jvm.Cond.static ({ cls := "com/example/tallymark/tallymark/InputTimes", name := "digits", desc := "([BII)I" } : Jvm.MethodName)).before a0 Z = true := hw _ (List.mem_of_getElem? (i := 6) rfl)
theorem wd_7 {Z : State} {a0 : Array Value} (hw : ∀ d ∈ tables_1, d.before a0 Z = true) : (Jvm.Cond.initialized "com/example/tallymark/tallymark/InputTimes").before a0 Z = true := hw _ (List.mem_of_getElem? (i := 7) rfl)
theorem wd_9 {Z : State} {a0 : Array Value} (hw : ∀ d ∈ tables_1, d.before a0 Z = true) : (Jvm.Cond.methodLink "com/example/tallymark/tallymark/InputTimesDigitsPinLaw" (19 : Nat) ({ cls := "com/example/tallymark/tallymark/InputTimesDigitsPinLaw", name := "ref", desc := "([BII)I" } : Jvm.MethodName)).before a0 Z = true := hw _ (List.mem_of_getElem? (i := 9) rfl)
theorem wd_11 {Z : State} {a0 : Array Value} (hw : ∀ d ∈ tables_1, d.before a0 Z = true) : (Jvm.Cond.code ({ cls := "com/example/tallymark/tallymark/InputTimesDigitsPinLaw", name := "ref", desc := "([BII)I" } : Jvm.MethodName) method_8_code (3 : Nat) (Option.some Jvm.ClassFile.FieldType.int)).before a0 Z = true := hw _ (List.mem_of_getElem? (i := 11) rfl)
theorem wd_10 {Z : State} {a0 : Array Value} (hw : ∀ d ∈ tables_1, d.before a0 Z = true) : (Jvm.Cond.static ({ cls := "com/example/tallymark/tallymark/InputTimesDigitsPinLaw", name := "ref", desc := "([BII)I" } : Jvm.MethodName)).before a0 Z = true := hw _ (List.mem_of_getElem? (i := 10) rfl)
def own_go (acc : Int32) : List Int32 → Int32
  | [] => acc
  | b :: bs => if b - 48 < 0 then -1 else if 9 < b - 48 then -1 else own_go (10 * acc + (b - 48)) bs
theorem own_go_nil (acc : Int32) : own_go acc [] = acc := rfl
theorem own_go_cons (acc b : Int32) (bs : List Int32) : own_go acc (b :: bs) = if b - 48 < 0 then -1 else if 9 < b - 48 then -1 else own_go (10 * acc + (b - 48)) bs := rfl
def own_dig (b : Int32) : Int32 := if b < 48 then -1 else if 57 < b then -1 else b - 48
theorem own_dig_def (b : Int32) : own_dig b = if b < 48 then -1 else if 57 < b then -1 else b - 48 := rfl
def own_pow (e : Int32) : Int32 := if e = 0 then 1 else if e = 1 then 10 else if e = 2 then 100 else if e = 3 then 1000 else 10000
theorem own_pow_def (e : Int32) : own_pow e = if e = 0 then 1 else if e = 1 then 10 else if e = 2 then 100 else if e = 3 then 1000 else 10000 := rfl
def own_bad (b : Int32) : Int32 := if own_dig b < 0 then 1 else 0
theorem own_bad_def (b : Int32) : own_bad b = if own_dig b < 0 then 1 else 0 := rfl
/-- a byte -/
def own_B (z : Int32) : Prop := -128 ≤ z.toInt ∧ z.toInt < 128
theorem own_B_of (x : Int32) : own_B x.toInt8.toInt32 := (c_i2b x).2
theorem own_B_nar {z : Int32} (h : own_B z) : z.toInt8.toInt32 = z := by
  have := c_i2b z; obtain ⟨h1, h2⟩ := h; apply Int32.toInt_inj.mp; omega
theorem own_lt (b : Int32) (h : own_B b) : (b - 48 < 0) = (b < 48) := by
  obtain ⟨h1, h2⟩ := h; have h3 := c_isub b 48; have r := rng32 (b - 48); have e1 : (48 : Int32).toInt = 48 := rfl; have e2 : (0 : Int32).toInt = 0 := rfl
  rw [Int32.lt_iff_toInt_lt, Int32.lt_iff_toInt_lt]; apply propext; omega
theorem own_gt (b : Int32) (h : own_B b) : (9 < b - 48) = (57 < b) := by
  obtain ⟨h1, h2⟩ := h; have h3 := c_isub b 48; have r := rng32 (b - 48); have e1 : (48 : Int32).toInt = 48 := rfl; have e2 : (9 : Int32).toInt = 9 := rfl; have e3 : (57 : Int32).toInt = 57 := rfl
  rw [Int32.lt_iff_toInt_lt, Int32.lt_iff_toInt_lt]; apply propext; omega
theorem own_step (acc b : Int32) (bs : List Int32) (h : own_B b) : own_go acc (b :: bs) = if own_bad b = 0 then own_go (10 * acc + own_dig b) bs else -1 := by
  rw [own_go_cons, own_bad_def]
  by_cases h1 : b < 48
  · have q1 : b - 48 < 0 := by rw [own_lt b h]; exact h1
    have q2 : own_dig b = -1 := by rw [own_dig_def, if_pos h1]
    rw [if_pos q1, q2]; rfl
  · have q1 : ¬ b - 48 < 0 := by rw [own_lt b h]; exact h1
    by_cases h2 : 57 < b
    · have q3 : 9 < b - 48 := by rw [own_gt b h]; exact h2
      have q2 : own_dig b = -1 := by rw [own_dig_def, if_neg h1, if_pos h2]
      rw [if_neg q1, if_pos q3, q2]; rfl
    · have q3 : ¬ 9 < b - 48 := by rw [own_gt b h]; exact h2
      have q2 : own_dig b = b - 48 := by rw [own_dig_def, if_neg h1, if_neg h2]
      rw [if_neg q1, if_neg q3, q2, if_neg q1]; rfl
set_option maxRecDepth 65536 in
set_option maxHeartbeats 40000000 in
theorem c_pick (l : Launch) (Z : State) (a0 : Array Value) (hw : ∀ d ∈ tables_1, d.before a0 Z = true) (x q i : Int32) (h : Heap) (n0 : Nat) (hn : n0 ≤ h.size) : Con l Z (⟨"com/example/tallymark/tallymark/InputTimesDigitsPinLaw", "pick", "(III)B"⟩ : MethodName) method_3_code 3 (some .byte) ({ frames := 0, cells := 0, slots := 0, locals := 0 } : Room) #[(.int x), (.int q), (.int i)] h n0 (fun r h' => (∃ z : Int32, r = some (.int z) ∧ own_B z) ∧ h' = h) := by
  refine ConW.of_W (Ls := #[.val (.int x), .val (.int q), .val (.int i)]) (plainFor_of_name pn_0) hn (fun m => by first | (simp [entryFrame, mkF, argsToLocals, Value.category]; done) | rfl) ?_
  refine W.iloadN 1 d_method_3_0 rfl rfl ?_
  refine W.iloadN 2 d_method_3_1 rfl rfl ?_
  refine W.iushr 3 d_method_3_2 rfl ((q.toUInt32 >>> (i &&& 31).toUInt32).toInt32) rfl ?_
  refine W.iconst 4 d_method_3_3 rfl (1 : Int32) rfl ?_
  refine W.iand 5 d_method_3_4 rfl (((q.toUInt32 >>> (i &&& 31).toUInt32).toInt32) &&& (1 : Int32)) rfl ?_
  refine W.if_eq 27 8 d_method_3_5 rfl rfl ?_ ?_
  · intro hc1001
    refine W.iloadN 28 d_method_3_27 rfl rfl ?_
    refine W.i2b 29 d_method_3_28 rfl (x.toInt8.toInt32) rfl ?_
    exact W.ireturnN (t := .byte) d_method_3_29 rfl (by simp) ((x.toInt8.toInt32).toInt8.toInt32) rfl ⟨⟨_, rfl, own_B_of _⟩, rfl⟩ (by decide) (by decide)
  · intro hc1001
    refine W.bipush 10 d_method_3_8 rfl (48 : Int32) rfl ?_
    refine W.iloadN 11 d_method_3_10 rfl rfl ?_
    refine W.bipush 13 d_method_3_11 rfl (8 : Int32) rfl ?_
    refine W.iconst 14 d_method_3_13 rfl (4 : Int32) rfl ?_
    refine W.iloadN 15 d_method_3_14 rfl rfl ?_
    refine W.imul 16 d_method_3_15 rfl ((4 : Int32) * i) rfl ?_
    refine W.iadd 17 d_method_3_16 rfl ((8 : Int32) + ((4 : Int32) * i)) rfl ?_
    refine W.iushr 18 d_method_3_17 rfl ((q.toUInt32 >>> (((8 : Int32) + ((4 : Int32) * i)) &&& 31).toUInt32).toInt32) rfl ?_
    refine W.bipush 20 d_method_3_18 rfl (15 : Int32) rfl ?_
    refine W.iand 21 d_method_3_20 rfl (((q.toUInt32 >>> (((8 : Int32) + ((4 : Int32) * i)) &&& 31).toUInt32).toInt32) &&& (15 : Int32)) rfl ?_
    refine W.bipush 23 d_method_3_21 rfl (10 : Int32) rfl ?_
    refine W.irem 24 d_method_3_23 rfl (by decide) ((((q.toUInt32 >>> (((8 : Int32) + ((4 : Int32) * i)) &&& 31).toUInt32).toInt32) &&& (15 : Int32)) % (10 : Int32)) rfl ?_
    refine W.iadd 25 d_method_3_24 rfl ((48 : Int32) + ((((q.toUInt32 >>> (((8 : Int32) + ((4 : Int32) * i)) &&& 31).toUInt32).toInt32) &&& (15 : Int32)) % (10 : Int32))) rfl ?_
    refine W.i2b 26 d_method_3_25 rfl (((48 : Int32) + ((((q.toUInt32 >>> (((8 : Int32) + ((4 : Int32) * i)) &&& 31).toUInt32).toInt32) &&& (15 : Int32)) % (10 : Int32))).toInt8.toInt32) rfl ?_
    exact W.ireturnN (t := .byte) d_method_3_26 rfl (by simp) ((((48 : Int32) + ((((q.toUInt32 >>> (((8 : Int32) + ((4 : Int32) * i)) &&& 31).toUInt32).toInt32) &&& (15 : Int32)) % (10 : Int32))).toInt8.toInt32).toInt8.toInt32) rfl ⟨⟨_, rfl, own_B_of _⟩, rfl⟩ (by decide) (by decide)
set_option maxRecDepth 65536 in
set_option maxHeartbeats 40000000 in
theorem c_dig (l : Launch) (Z : State) (a0 : Array Value) (hw : ∀ d ∈ tables_1, d.before a0 Z = true) (b : Int32) (h : Heap) (n0 : Nat) (hn : n0 ≤ h.size) : Con l Z (⟨"com/example/tallymark/tallymark/InputTimesDigitsPinLaw", "dig", "(B)I"⟩ : MethodName) method_4_code 1 (some .int) ({ frames := 0, cells := 0, slots := 0, locals := 0 } : Room) #[(.int b)] h n0 (fun r h' => r = some (.int (own_dig b)) ∧ h' = h) := by
  refine ConW.of_W (Ls := #[.val (.int b)]) (plainFor_of_name pn_0) hn (fun m => by first | (simp [entryFrame, mkF, argsToLocals, Value.category]; done) | rfl) ?_
  refine W.iloadN 1 d_method_4_0 rfl rfl ?_
  refine W.bipush 3 d_method_4_1 rfl (48 : Int32) rfl ?_
  refine W.icmp_lt 12 6 d_method_4_3 rfl rfl ?_ ?_
  · intro hc1002
    refine W.iconst 13 d_method_4_12 rfl (-1 : Int32) rfl ?_
    exact W.ireturn d_method_4_13 rfl ⟨by rw [own_dig_def]; simp [hc1002], rfl⟩ (by decide) (by decide)
  · intro hc1002
    refine W.iloadN 7 d_method_4_6 rfl rfl ?_
    refine W.bipush 9 d_method_4_7 rfl (57 : Int32) rfl ?_
    refine W.icmp_le 14 12 d_method_4_9 rfl rfl ?_ ?_
    · intro hc1003
      refine W.iloadN 15 d_method_4_14 rfl rfl ?_
      refine W.bipush 17 d_method_4_15 rfl (48 : Int32) rfl ?_
      refine W.isub 18 d_method_4_17 rfl (b - (48 : Int32)) rfl ?_
      exact W.ireturn d_method_4_18 rfl ⟨by rw [own_dig_def]; simp [hc1002, hc1003], rfl⟩ (by decide) (by decide)
    · intro hc1003
      refine W.iconst 13 d_method_4_12 rfl (-1 : Int32) rfl ?_
      exact W.ireturn d_method_4_13 rfl ⟨by rw [own_dig_def]; simp [hc1002, hc1003], rfl⟩ (by decide) (by decide)
set_option maxRecDepth 65536 in
set_option maxHeartbeats 40000000 in
theorem c_pow (l : Launch) (Z : State) (a0 : Array Value) (hw : ∀ d ∈ tables_1, d.before a0 Z = true) (e : Int32) (h : Heap) (n0 : Nat) (hn : n0 ≤ h.size) : Con l Z (⟨"com/example/tallymark/tallymark/InputTimesDigitsPinLaw", "pow10", "(I)I"⟩ : MethodName) method_5_code 1 (some .int) ({ frames := 0, cells := 0, slots := 0, locals := 0 } : Room) #[(.int e)] h n0 (fun r h' => r = some (.int (own_pow e)) ∧ h' = h) := by
  refine ConW.of_W (Ls := #[.val (.int e)]) (plainFor_of_name pn_0) hn (fun m => by first | (simp [entryFrame, mkF, argsToLocals, Value.category]; done) | rfl) ?_
  refine W.iloadN 1 d_method_5_0 rfl rfl ?_
  refine W.if_ne 6 4 d_method_5_1 rfl rfl ?_ ?_
  · intro hc1004
    refine W.iloadN 7 d_method_5_6 rfl rfl ?_
    refine W.iconst 8 d_method_5_7 rfl (1 : Int32) rfl ?_
    refine W.icmp_ne 14 11 d_method_5_8 rfl rfl ?_ ?_
    · intro hc1005
      refine W.iloadN 15 d_method_5_14 rfl rfl ?_
      refine W.iconst 16 d_method_5_15 rfl (2 : Int32) rfl ?_
      refine W.icmp_ne 22 19 d_method_5_16 rfl rfl ?_ ?_
      · intro hc1006
        refine W.iloadN 23 d_method_5_22 rfl rfl ?_
        refine W.iconst 24 d_method_5_23 rfl (3 : Int32) rfl ?_
        refine W.icmp_ne 31 27 d_method_5_24 rfl rfl ?_ ?_
        · intro hc1007
          refine W.sipush 34 d_method_5_31 rfl (10000 : Int32) rfl ?_
          exact W.ireturn d_method_5_34 rfl ⟨by rw [own_pow_def]; simp [hc1004, hc1005, hc1006, hc1007], rfl⟩ (by decide) (by decide)
        · intro hc1007
          refine W.sipush 30 d_method_5_27 rfl (1000 : Int32) rfl ?_
          exact W.ireturn d_method_5_30 rfl ⟨by rw [own_pow_def]; simp [hc1004, hc1005, hc1006, hc1007], rfl⟩ (by decide) (by decide)
      · intro hc1006
        refine W.bipush 21 d_method_5_19 rfl (100 : Int32) rfl ?_
        exact W.ireturn d_method_5_21 rfl ⟨by rw [own_pow_def]; simp [hc1004, hc1005, hc1006], rfl⟩ (by decide) (by decide)
    · intro hc1005
      refine W.bipush 13 d_method_5_11 rfl (10 : Int32) rfl ?_
      exact W.ireturn d_method_5_13 rfl ⟨by rw [own_pow_def]; simp [hc1004, hc1005], rfl⟩ (by decide) (by decide)
  · intro hc1004
    refine W.iconst 5 d_method_5_4 rfl (1 : Int32) rfl ?_
    exact W.ireturn d_method_5_5 rfl ⟨by rw [own_pow_def]; simp [hc1004], rfl⟩ (by decide) (by decide)
set_option maxRecDepth 65536 in
set_option maxHeartbeats 40000000 in
theorem c_badN (l : Launch) (Z : State) (a0 : Array Value) (hw : ∀ d ∈ tables_1, d.before a0 Z = true) (a : Addr) (f c k : Int32) (h : Heap) (n0 : Nat) (hn : n0 ≤ h.size) (hk : ¬ k < c) : Con l Z (⟨"com/example/tallymark/tallymark/InputTimesDigitsPinLaw", "badAt", "([BIII)Z"⟩ : MethodName) method_6_code 4 (some .boolean) ({ frames := 1, cells := 0, slots := 0, locals := 40 } : Room) #[(.ref a), (.int f), (.int c), (.int k)] h n0 (fun r h' => r = some (.int 0) ∧ h' = h) := by
  refine ConW.of_W (Ls := #[.val (.ref a), .val (.int f), .val (.int c), .val (.int k)]) (plainFor_of_name pn_0) hn (fun m => by first | (simp [entryFrame, mkF, argsToLocals, Value.category]; done) | rfl) ?_
  refine W.iloadN 1 d_method_6_0 rfl rfl ?_
  refine W.iloadN 2 d_method_6_1 rfl rfl ?_
  refine W.icmp_ge 20 5 d_method_6_2 rfl rfl (fun _ => ?_) (fun hc => absurd hc hk)
  refine W.iconst 21 d_method_6_20 rfl (0 : Int32) rfl ?_
  exact W.ireturnN (t := .boolean) d_method_6_21 rfl (by simp) (0 : Int32) rfl ⟨rfl, rfl⟩ (by decide) (by decide)
set_option maxRecDepth 65536 in
set_option maxHeartbeats 40000000 in
theorem c_badY (l : Launch) (Z : State) (a0 : Array Value) (hw : ∀ d ∈ tables_1, d.before a0 Z = true) (a : Addr) (f c k b : Int32) (vs : List Value) (i : Nat) (h : Heap) (n0 : Nat) (hn : n0 ≤ h.size) (A : Ary Z h a .byte vs) (hk : k < c) (hi : (f + k).toNatClampNeg = i) (hi0 : ¬ (f + k) < 0) (hv : vs[i]? = some (.int b)) : Con l Z (⟨"com/example/tallymark/tallymark/InputTimesDigitsPinLaw", "badAt", "([BIII)Z"⟩ : MethodName) method_6_code 4 (some .boolean) ({ frames := 1, cells := 0, slots := 0, locals := 40 } : Room) #[(.ref a), (.int f), (.int c), (.int k)] h n0 (fun r h' => r = some (.int (own_bad b)) ∧ h' = h) := by
  refine ConW.of_W (Ls := #[.val (.ref a), .val (.int f), .val (.int c), .val (.int k)]) (plainFor_of_name pn_0) hn (fun m => by first | (simp [entryFrame, mkF, argsToLocals, Value.category]; done) | rfl) ?_
  refine W.iloadN 1 d_method_6_0 rfl rfl ?_
  refine W.iloadN 2 d_method_6_1 rfl rfl ?_
  refine W.icmp_ge 20 5 d_method_6_2 rfl rfl (fun hc => absurd hk hc) (fun _ => ?_)
  refine W.aloadN 6 d_method_6_5 rfl rfl rfl ?_
  refine W.iloadN 7 d_method_6_6 rfl rfl ?_
  refine W.iloadN 8 d_method_6_7 rfl rfl ?_
  refine W.iadd 9 d_method_6_8 rfl (f + k) rfl ?_
  refine W.baload 10 d_method_6_9 rfl A i hi hi0 (.int b) hv ?_
  refine W.callS (rest := []) (argsL := [(.int b)]) 13 d_method_6_10 rfl (fun hn => c_dig l Z a0 hw b _ n0 hn) (wd_15 hw) (wd_16 hw) (wd_3 hw) (wd_17 hw) (by decide) pd_0 rfl rfl rfl (by decide) 0 (Nat.le_of_ble_eq_true rfl) (by decide) (by decide) (by decide) ?_
  rintro v1008 h1008 ⟨rfl, rfl⟩
  show W _ _ _ _ _ _ _ _ _ _ _ 0 0 13 #[.val (.ref a), .val (.int f), .val (.int c), .val (.int k)] [(.int (own_dig b))]
  refine W.if_ge 20 16 d_method_6_13 rfl rfl ?_ ?_
  · intro hc1009
    refine W.iconst 21 d_method_6_20 rfl (0 : Int32) rfl ?_
    exact W.ireturnN (t := .boolean) d_method_6_21 rfl (by simp) (0 : Int32) rfl ⟨by rw [own_bad_def]; simp [hc1009], rfl⟩ (by decide) (by decide)
  · intro hc1009
    refine W.iconst 17 d_method_6_16 rfl (1 : Int32) rfl ?_
    refine W.goto 21 d_method_6_17 rfl ?_
    exact W.ireturnN (t := .boolean) d_method_6_21 rfl (by simp) (1 : Int32) rfl ⟨by rw [own_bad_def]; simp [hc1009], rfl⟩ (by decide) (by decide)
set_option maxRecDepth 65536 in
set_option maxHeartbeats 40000000 in
theorem c_termN (l : Launch) (Z : State) (a0 : Array Value) (hw : ∀ d ∈ tables_1, d.before a0 Z = true) (a : Addr) (f c k : Int32) (h : Heap) (n0 : Nat) (hn : n0 ≤ h.size) (hk : ¬ k < c) : Con l Z (⟨"com/example/tallymark/tallymark/InputTimesDigitsPinLaw", "term", "([BIII)I"⟩ : MethodName) method_7_code 4 (some .int) ({ frames := 1, cells := 0, slots := 0, locals := 40 } : Room) #[(.ref a), (.int f), (.int c), (.int k)] h n0 (fun r h' => r = some (.int 0) ∧ h' = h) := by
  refine ConW.of_W (Ls := #[.val (.ref a), .val (.int f), .val (.int c), .val (.int k)]) (plainFor_of_name pn_0) hn (fun m => by first | (simp [entryFrame, mkF, argsToLocals, Value.category]; done) | rfl) ?_
  refine W.iloadN 1 d_method_7_0 rfl rfl ?_
  refine W.iloadN 2 d_method_7_1 rfl rfl ?_
  refine W.icmp_lt 7 5 d_method_7_2 rfl rfl (fun hc => absurd hc hk) (fun _ => ?_)
  refine W.iconst 6 d_method_7_5 rfl (0 : Int32) rfl ?_
  exact W.ireturn d_method_7_6 rfl ⟨rfl, rfl⟩ (by decide) (by decide)
set_option maxRecDepth 65536 in
set_option maxHeartbeats 40000000 in
theorem c_termY (l : Launch) (Z : State) (a0 : Array Value) (hw : ∀ d ∈ tables_1, d.before a0 Z = true) (a : Addr) (f c k b : Int32) (vs : List Value) (i : Nat) (h : Heap) (n0 : Nat) (hn : n0 ≤ h.size) (A : Ary Z h a .byte vs) (hk : k < c) (hi : (f + k).toNatClampNeg = i) (hi0 : ¬ (f + k) < 0) (hv : vs[i]? = some (.int b)) : Con l Z (⟨"com/example/tallymark/tallymark/InputTimesDigitsPinLaw", "term", "([BIII)I"⟩ : MethodName) method_7_code 4 (some .int) ({ frames := 1, cells := 0, slots := 0, locals := 40 } : Room) #[(.ref a), (.int f), (.int c), (.int k)] h n0 (fun r h' => r = some (.int (own_dig b * own_pow (c - (1 : Int32) - k))) ∧ h' = h) := by
  refine ConW.of_W (Ls := #[.val (.ref a), .val (.int f), .val (.int c), .val (.int k)]) (plainFor_of_name pn_0) hn (fun m => by first | (simp [entryFrame, mkF, argsToLocals, Value.category]; done) | rfl) ?_
  refine W.iloadN 1 d_method_7_0 rfl rfl ?_
  refine W.iloadN 2 d_method_7_1 rfl rfl ?_
  refine W.icmp_lt 7 5 d_method_7_2 rfl rfl (fun _ => ?_) (fun hc => absurd hk hc)
  refine W.aloadN 8 d_method_7_7 rfl rfl rfl ?_
  refine W.iloadN 9 d_method_7_8 rfl rfl ?_
  refine W.iloadN 10 d_method_7_9 rfl rfl ?_
  refine W.iadd 11 d_method_7_10 rfl (f + k) rfl ?_
  refine W.baload 12 d_method_7_11 rfl A i hi hi0 (.int b) hv ?_
  refine W.callS (rest := []) (argsL := [(.int b)]) 15 d_method_7_12 rfl (fun hn => c_dig l Z a0 hw b _ n0 hn) (wd_15 hw) (wd_16 hw) (wd_3 hw) (wd_17 hw) (by decide) pd_0 rfl rfl rfl (by decide) 0 (Nat.le_of_ble_eq_true rfl) (by decide) (by decide) (by decide) ?_
  rintro v1010 h1010 ⟨rfl, rfl⟩
  show W _ _ _ _ _ _ _ _ _ _ _ 0 0 15 #[.val (.ref a), .val (.int f), .val (.int c), .val (.int k)] [(.int (own_dig b))]
  refine W.iloadN 16 d_method_7_15 rfl rfl ?_
  refine W.iconst 17 d_method_7_16 rfl (1 : Int32) rfl ?_
  refine W.isub 18 d_method_7_17 rfl (c - (1 : Int32)) rfl ?_
  refine W.iloadN 19 d_method_7_18 rfl rfl ?_
  refine W.isub 20 d_method_7_19 rfl ((c - (1 : Int32)) - k) rfl ?_
  refine W.callS (rest := [(.int (own_dig b))]) (argsL := [(.int ((c - (1 : Int32)) - k))]) 23 d_method_7_20 rfl (fun hn => c_pow l Z a0 hw ((c - (1 : Int32)) - k) _ n0 hn) (wd_21 hw) (wd_22 hw) (wd_3 hw) (wd_23 hw) (by decide) pd_1 rfl rfl rfl (by decide) 1 (Nat.le_of_ble_eq_true rfl) (by decide) (by decide) (by decide) ?_
  rintro v1011 h1011 ⟨rfl, rfl⟩
  show W _ _ _ _ _ _ _ _ _ _ _ 0 0 23 #[.val (.ref a), .val (.int f), .val (.int c), .val (.int k)] [(.int (own_pow ((c - (1 : Int32)) - k))), (.int (own_dig b))]
  refine W.imul 24 d_method_7_23 rfl ((own_dig b) * (own_pow ((c - (1 : Int32)) - k))) rfl ?_
  exact W.ireturn d_method_7_24 rfl ⟨rfl, rfl⟩ (by decide) (by decide)
theorem own_mz : (10 : Int32) * 0 = 0 := by decide
theorem own_z (x : Int32) : (10 : Int32) * 0 + x = x := by simp
theorem own_c (x k : Int32) : k * x = x * k := Int32.mul_comm _ _
theorem own_d1 (x : Int32) : 10 * 0 + x = x * 1 + 0 + 0 + 0 := by simp
theorem own_d2 (x y : Int32) : 10 * (10 * 0 + x) + y = x * 10 + y * 1 + 0 + 0 := by rw [own_z, own_c]; simp
theorem own_d3 (x y z : Int32) : 10 * (10 * (10 * 0 + x) + y) + z = x * 100 + y * 10 + z * 1 + 0 := by
  rw [own_z, Int32.mul_add, ← Int32.mul_assoc, own_c x, own_c y]; simp
theorem own_d4 (x y z t : Int32) : 10 * (10 * (10 * (10 * 0 + x) + y) + z) + t = x * 1000 + y * 100 + z * 10 + t * 1 := by
  rw [own_z, Int32.mul_add, Int32.mul_add, Int32.mul_add, ← Int32.mul_assoc, ← Int32.mul_assoc, ← Int32.mul_assoc, own_c x, own_c y, own_c z]; simp
set_option maxRecDepth 65536 in
set_option maxHeartbeats 40000000 in
theorem c_ds00 (l : Launch) (Z : State) (a0 : Array Value) (hw : ∀ d ∈ tables_1, d.before a0 Z = true) (a : Addr) (b0 b1 b2 b3 b4 : Int32) (h : Heap) (n0 : Nat) (hn : n0 ≤ h.size) (A : Ary Z h a .byte [(.int b0), (.int b1), (.int b2), (.int b3), (.int b4)]) (hb0 : own_B b0) (hb1 : own_B b1) (hb2 : own_B b2) (hb3 : own_B b3) (hb4 : own_B b4) : Con l Z (⟨"com/example/tallymark/tallymark/InputTimes", "digits", "([BII)I"⟩ : MethodName) prog_58_method_6_code 6 (some .int) ({ frames := 0, cells := 0, slots := 0, locals := 0 } : Room) #[(.ref a), (.int (0 : Int32)), (.int (0 : Int32))] h n0 (fun r h' => r = some (.int (own_go 0 [])) ∧ h' = h) := by
  refine ConW.of_W (Ls := #[.val (.ref a), .val (.int (0 : Int32)), .val (.int (0 : Int32)), .unset, .unset, .unset]) (plainFor_of_name pn_1) hn (fun m => by first | (simp [entryFrame, mkF, argsToLocals, Value.category]; done) | rfl) ?_
  refine W.iconst 1 d_prog_58_method_6_0 rfl (0 : Int32) rfl ?_
  refine W.istoreN 2 d_prog_58_method_6_1 rfl #[.val (.ref a), .val (.int (0 : Int32)), .val (.int (0 : Int32)), .val (.int (0 : Int32)), .unset, .unset] rfl ?_
  refine W.iloadN 3 d_prog_58_method_6_2 rfl rfl ?_
  refine W.istore 5 d_prog_58_method_6_3 rfl #[.val (.ref a), .val (.int (0 : Int32)), .val (.int (0 : Int32)), .val (.int (0 : Int32)), .val (.int (0 : Int32)), .unset] rfl ?_
  refine W.iload 7 d_prog_58_method_6_5 rfl rfl ?_
  refine W.iloadN 8 d_prog_58_method_6_7 rfl rfl ?_
  refine W.iloadN 9 d_prog_58_method_6_8 rfl rfl ?_
  refine W.iadd 10 d_prog_58_method_6_9 rfl (0 : Int32) (by decide) ?_
  refine W.icmp_ge 50 13 d_prog_58_method_6_10 rfl rfl (fun _ => ?_) (fun hc => absurd hc (by decide))
  refine W.iloadN 51 d_prog_58_method_6_50 rfl rfl ?_
  exact W.ireturn d_prog_58_method_6_51 rfl ⟨by simp only [own_go_nil], rfl⟩ (by decide) (by decide)
set_option maxRecDepth 65536 in
set_option maxHeartbeats 40000000 in
theorem c_ref00 (l : Launch) (Z : State) (a0 : Array Value) (hw : ∀ d ∈ tables_1, d.before a0 Z = true) (a : Addr) (b0 b1 b2 b3 b4 : Int32) (h : Heap) (n0 : Nat) (hn : n0 ≤ h.size) (A : Ary Z h a .byte [(.int b0), (.int b1), (.int b2), (.int b3), (.int b4)]) (hb0 : own_B b0) (hb1 : own_B b1) (hb2 : own_B b2) (hb3 : own_B b3) (hb4 : own_B b4) : Con l Z (⟨"com/example/tallymark/tallymark/InputTimesDigitsPinLaw", "ref", "([BII)I"⟩ : MethodName) method_8_code 3 (some .int) ({ frames := 2, cells := 0, slots := 0, locals := 60 } : Room) #[(.ref a), (.int (0 : Int32)), (.int (0 : Int32))] h n0 (fun r h' => r = some (.int (own_go 0 [])) ∧ h' = h) := by
  refine ConW.of_W (Ls := #[.val (.ref a), .val (.int (0 : Int32)), .val (.int (0 : Int32))]) (plainFor_of_name pn_0) hn (fun m => by first | (simp [entryFrame, mkF, argsToLocals, Value.category]; done) | rfl) ?_
  refine W.aloadN 1 d_method_8_0 rfl rfl rfl ?_
  refine W.iloadN 2 d_method_8_1 rfl rfl ?_
  refine W.iloadN 3 d_method_8_2 rfl rfl ?_
  refine W.iconst 4 d_method_8_3 rfl (0 : Int32) rfl ?_
  refine W.callS (rest := []) (argsL := [(.ref a), (.int (0 : Int32)), (.int (0 : Int32)), (.int (0 : Int32))]) 7 d_method_8_4 rfl (fun hn => c_badN l Z a0 hw a (0 : Int32) (0 : Int32) (0 : Int32) _ n0 hn (by decide)) (wd_12 hw) (wd_13 hw) (wd_3 hw) (wd_14 hw) (by decide) pd_2 rfl rfl rfl (by decide) 0 (Nat.le_of_ble_eq_true rfl) (by decide) (by decide) (by decide) ?_
  rintro v1012 h1012 ⟨rfl, rfl⟩
  show W _ _ _ _ _ _ _ _ _ _ _ 0 0 7 #[.val (.ref a), .val (.int (0 : Int32)), .val (.int (0 : Int32))] [(.int (0 : Int32))]
  refine W.if_ne 40 10 d_method_8_7 rfl rfl (fun hc => absurd (by decide) hc) (fun _ => ?_)
  refine W.aloadN 11 d_method_8_10 rfl rfl rfl ?_
  refine W.iloadN 12 d_method_8_11 rfl rfl ?_
  refine W.iloadN 13 d_method_8_12 rfl rfl ?_
  refine W.iconst 14 d_method_8_13 rfl (1 : Int32) rfl ?_
  refine W.callS (rest := []) (argsL := [(.ref a), (.int (0 : Int32)), (.int (0 : Int32)), (.int (1 : Int32))]) 17 d_method_8_14 rfl (fun hn => c_badN l Z a0 hw a (0 : Int32) (0 : Int32) (1 : Int32) _ n0 hn (by decide)) (wd_12 hw) (wd_13 hw) (wd_3 hw) (wd_14 hw) (by decide) pd_2 rfl rfl rfl (by decide) 0 (Nat.le_of_ble_eq_true rfl) (by decide) (by decide) (by decide) ?_
  rintro v1013 h1013 ⟨rfl, rfl⟩
  show W _ _ _ _ _ _ _ _ _ _ _ 0 0 17 #[.val (.ref a), .val (.int (0 : Int32)), .val (.int (0 : Int32))] [(.int (0 : Int32))]
  refine W.if_ne 40 20 d_method_8_17 rfl rfl (fun hc => absurd (by decide) hc) (fun _ => ?_)
  refine W.aloadN 21 d_method_8_20 rfl rfl rfl ?_
  refine W.iloadN 22 d_method_8_21 rfl rfl ?_
  refine W.iloadN 23 d_method_8_22 rfl rfl ?_
  refine W.iconst 24 d_method_8_23 rfl (2 : Int32) rfl ?_
  refine W.callS (rest := []) (argsL := [(.ref a), (.int (0 : Int32)), (.int (0 : Int32)), (.int (2 : Int32))]) 27 d_method_8_24 rfl (fun hn => c_badN l Z a0 hw a (0 : Int32) (0 : Int32) (2 : Int32) _ n0 hn (by decide)) (wd_12 hw) (wd_13 hw) (wd_3 hw) (wd_14 hw) (by decide) pd_2 rfl rfl rfl (by decide) 0 (Nat.le_of_ble_eq_true rfl) (by decide) (by decide) (by decide) ?_
  rintro v1014 h1014 ⟨rfl, rfl⟩
  show W _ _ _ _ _ _ _ _ _ _ _ 0 0 27 #[.val (.ref a), .val (.int (0 : Int32)), .val (.int (0 : Int32))] [(.int (0 : Int32))]
  refine W.if_ne 40 30 d_method_8_27 rfl rfl (fun hc => absurd (by decide) hc) (fun _ => ?_)
  refine W.aloadN 31 d_method_8_30 rfl rfl rfl ?_
  refine W.iloadN 32 d_method_8_31 rfl rfl ?_
  refine W.iloadN 33 d_method_8_32 rfl rfl ?_
  refine W.iconst 34 d_method_8_33 rfl (3 : Int32) rfl ?_
  refine W.callS (rest := []) (argsL := [(.ref a), (.int (0 : Int32)), (.int (0 : Int32)), (.int (3 : Int32))]) 37 d_method_8_34 rfl (fun hn => c_badN l Z a0 hw a (0 : Int32) (0 : Int32) (3 : Int32) _ n0 hn (by decide)) (wd_12 hw) (wd_13 hw) (wd_3 hw) (wd_14 hw) (by decide) pd_2 rfl rfl rfl (by decide) 0 (Nat.le_of_ble_eq_true rfl) (by decide) (by decide) (by decide) ?_
  rintro v1015 h1015 ⟨rfl, rfl⟩
  show W _ _ _ _ _ _ _ _ _ _ _ 0 0 37 #[.val (.ref a), .val (.int (0 : Int32)), .val (.int (0 : Int32))] [(.int (0 : Int32))]
  refine W.if_eq 42 40 d_method_8_37 rfl rfl (fun _ => ?_) (fun hc => absurd (by decide) hc)
  refine W.aloadN 43 d_method_8_42 rfl rfl rfl ?_
  refine W.iloadN 44 d_method_8_43 rfl rfl ?_
  refine W.iloadN 45 d_method_8_44 rfl rfl ?_
  refine W.iconst 46 d_method_8_45 rfl (0 : Int32) rfl ?_
  refine W.callS (rest := []) (argsL := [(.ref a), (.int (0 : Int32)), (.int (0 : Int32)), (.int (0 : Int32))]) 49 d_method_8_46 rfl (fun hn => c_termN l Z a0 hw a (0 : Int32) (0 : Int32) (0 : Int32) _ n0 hn (by decide)) (wd_18 hw) (wd_19 hw) (wd_3 hw) (wd_20 hw) (by decide) pd_3 rfl rfl rfl (by decide) 0 (Nat.le_of_ble_eq_true rfl) (by decide) (by decide) (by decide) ?_
  rintro v1016 h1016 ⟨rfl, rfl⟩
  show W _ _ _ _ _ _ _ _ _ _ _ 0 0 49 #[.val (.ref a), .val (.int (0 : Int32)), .val (.int (0 : Int32))] [(.int (0 : Int32))]
  refine W.aloadN 50 d_method_8_49 rfl rfl rfl ?_
  refine W.iloadN 51 d_method_8_50 rfl rfl ?_
  refine W.iloadN 52 d_method_8_51 rfl rfl ?_
  refine W.iconst 53 d_method_8_52 rfl (1 : Int32) rfl ?_
  refine W.callS (rest := [(.int (0 : Int32))]) (argsL := [(.ref a), (.int (0 : Int32)), (.int (0 : Int32)), (.int (1 : Int32))]) 56 d_method_8_53 rfl (fun hn => c_termN l Z a0 hw a (0 : Int32) (0 : Int32) (1 : Int32) _ n0 hn (by decide)) (wd_18 hw) (wd_19 hw) (wd_3 hw) (wd_20 hw) (by decide) pd_3 rfl rfl rfl (by decide) 1 (Nat.le_of_ble_eq_true rfl) (by decide) (by decide) (by decide) ?_
  rintro v1017 h1017 ⟨rfl, rfl⟩
  show W _ _ _ _ _ _ _ _ _ _ _ 0 0 56 #[.val (.ref a), .val (.int (0 : Int32)), .val (.int (0 : Int32))] [(.int (0 : Int32)), (.int (0 : Int32))]
  refine W.iadd 57 d_method_8_56 rfl (0 : Int32) (by decide) ?_
  refine W.aloadN 58 d_method_8_57 rfl rfl rfl ?_
  refine W.iloadN 59 d_method_8_58 rfl rfl ?_
  refine W.iloadN 60 d_method_8_59 rfl rfl ?_
  refine W.iconst 61 d_method_8_60 rfl (2 : Int32) rfl ?_
  refine W.callS (rest := [(.int (0 : Int32))]) (argsL := [(.ref a), (.int (0 : Int32)), (.int (0 : Int32)), (.int (2 : Int32))]) 64 d_method_8_61 rfl (fun hn => c_termN l Z a0 hw a (0 : Int32) (0 : Int32) (2 : Int32) _ n0 hn (by decide)) (wd_18 hw) (wd_19 hw) (wd_3 hw) (wd_20 hw) (by decide) pd_3 rfl rfl rfl (by decide) 1 (Nat.le_of_ble_eq_true rfl) (by decide) (by decide) (by decide) ?_
  rintro v1018 h1018 ⟨rfl, rfl⟩
  show W _ _ _ _ _ _ _ _ _ _ _ 0 0 64 #[.val (.ref a), .val (.int (0 : Int32)), .val (.int (0 : Int32))] [(.int (0 : Int32)), (.int (0 : Int32))]
  refine W.iadd 65 d_method_8_64 rfl (0 : Int32) (by decide) ?_
  refine W.aloadN 66 d_method_8_65 rfl rfl rfl ?_
  refine W.iloadN 67 d_method_8_66 rfl rfl ?_
  refine W.iloadN 68 d_method_8_67 rfl rfl ?_
  refine W.iconst 69 d_method_8_68 rfl (3 : Int32) rfl ?_
  refine W.callS (rest := [(.int (0 : Int32))]) (argsL := [(.ref a), (.int (0 : Int32)), (.int (0 : Int32)), (.int (3 : Int32))]) 72 d_method_8_69 rfl (fun hn => c_termN l Z a0 hw a (0 : Int32) (0 : Int32) (3 : Int32) _ n0 hn (by decide)) (wd_18 hw) (wd_19 hw) (wd_3 hw) (wd_20 hw) (by decide) pd_3 rfl rfl rfl (by decide) 1 (Nat.le_of_ble_eq_true rfl) (by decide) (by decide) (by decide) ?_
  rintro v1019 h1019 ⟨rfl, rfl⟩
  show W _ _ _ _ _ _ _ _ _ _ _ 0 0 72 #[.val (.ref a), .val (.int (0 : Int32)), .val (.int (0 : Int32))] [(.int (0 : Int32)), (.int (0 : Int32))]
  refine W.iadd 73 d_method_8_72 rfl (0 : Int32) (by decide) ?_
  exact W.ireturn d_method_8_73 rfl ⟨rfl, rfl⟩ (by decide) (by decide)
set_option maxRecDepth 65536 in
set_option maxHeartbeats 40000000 in
theorem c_ds01 (l : Launch) (Z : State) (a0 : Array Value) (hw : ∀ d ∈ tables_1, d.before a0 Z = true) (a : Addr) (b0 b1 b2 b3 b4 : Int32) (h : Heap) (n0 : Nat) (hn : n0 ≤ h.size) (A : Ary Z h a .byte [(.int b0), (.int b1), (.int b2), (.int b3), (.int b4)]) (hb0 : own_B b0) (hb1 : own_B b1) (hb2 : own_B b2) (hb3 : own_B b3) (hb4 : own_B b4) : Con l Z (⟨"com/example/tallymark/tallymark/InputTimes", "digits", "([BII)I"⟩ : MethodName) prog_58_method_6_code 6 (some .int) ({ frames := 0, cells := 0, slots := 0, locals := 0 } : Room) #[(.ref a), (.int (0 : Int32)), (.int (1 : Int32))] h n0 (fun r h' => r = some (.int (own_go 0 [b0])) ∧ h' = h) := by
  refine ConW.of_W (Ls := #[.val (.ref a), .val (.int (0 : Int32)), .val (.int (1 : Int32)), .unset, .unset, .unset]) (plainFor_of_name pn_1) hn (fun m => by first | (simp [entryFrame, mkF, argsToLocals, Value.category]; done) | rfl) ?_
  refine W.iconst 1 d_prog_58_method_6_0 rfl (0 : Int32) rfl ?_
  refine W.istoreN 2 d_prog_58_method_6_1 rfl #[.val (.ref a), .val (.int (0 : Int32)), .val (.int (1 : Int32)), .val (.int (0 : Int32)), .unset, .unset] rfl ?_
  refine W.iloadN 3 d_prog_58_method_6_2 rfl rfl ?_
  refine W.istore 5 d_prog_58_method_6_3 rfl #[.val (.ref a), .val (.int (0 : Int32)), .val (.int (1 : Int32)), .val (.int (0 : Int32)), .val (.int (0 : Int32)), .unset] rfl ?_
  refine W.iload 7 d_prog_58_method_6_5 rfl rfl ?_
  refine W.iloadN 8 d_prog_58_method_6_7 rfl rfl ?_
  refine W.iloadN 9 d_prog_58_method_6_8 rfl rfl ?_
  refine W.iadd 10 d_prog_58_method_6_9 rfl (1 : Int32) (by decide) ?_
  refine W.icmp_ge 50 13 d_prog_58_method_6_10 rfl rfl (fun hc => absurd (by decide) hc) (fun _ => ?_)
  refine W.aloadN 14 d_prog_58_method_6_13 rfl rfl rfl ?_
  refine W.iload 16 d_prog_58_method_6_14 rfl rfl ?_
  refine W.baload 17 d_prog_58_method_6_16 rfl A 0 (by decide) (by decide) (.int b0) rfl ?_
  refine W.bipush 19 d_prog_58_method_6_17 rfl (48 : Int32) rfl ?_
  refine W.isub 20 d_prog_58_method_6_19 rfl (b0 - (48 : Int32)) rfl ?_
  refine W.istore 22 d_prog_58_method_6_20 rfl #[.val (.ref a), .val (.int (0 : Int32)), .val (.int (1 : Int32)), .val (.int (0 : Int32)), .val (.int (0 : Int32)), .val (.int (b0 - (48 : Int32)))] rfl ?_
  refine W.iload 24 d_prog_58_method_6_22 rfl rfl ?_
  refine W.if_lt 34 27 d_prog_58_method_6_24 rfl rfl ?_ ?_
  · intro hc1020
    refine W.iconst 35 d_prog_58_method_6_34 rfl (-1 : Int32) rfl ?_
    exact W.ireturn d_prog_58_method_6_35 rfl ⟨by simp only [own_go_nil, own_go_cons, own_mz, hc1020, if_true, if_false], rfl⟩ (by decide) (by decide)
  · intro hc1020
    refine W.iload 29 d_prog_58_method_6_27 rfl rfl ?_
    refine W.bipush 31 d_prog_58_method_6_29 rfl (9 : Int32) rfl ?_
    refine W.icmp_le 36 34 d_prog_58_method_6_31 rfl rfl ?_ ?_
    · intro hc1021
      refine W.bipush 38 d_prog_58_method_6_36 rfl (10 : Int32) rfl ?_
      refine W.iloadN 39 d_prog_58_method_6_38 rfl rfl ?_
      refine W.imul 40 d_prog_58_method_6_39 rfl (0 : Int32) (by decide) ?_
      refine W.iload 42 d_prog_58_method_6_40 rfl rfl ?_
      refine W.iadd 43 d_prog_58_method_6_42 rfl ((0 : Int32) + (b0 - (48 : Int32))) rfl ?_
      refine W.istoreN 44 d_prog_58_method_6_43 rfl #[.val (.ref a), .val (.int (0 : Int32)), .val (.int (1 : Int32)), .val (.int ((0 : Int32) + (b0 - (48 : Int32)))), .val (.int (0 : Int32)), .val (.int (b0 - (48 : Int32)))] rfl ?_
      refine W.iinc 47 d_prog_58_method_6_44 rfl rfl (1 : Int32) (by decide) #[.val (.ref a), .val (.int (0 : Int32)), .val (.int (1 : Int32)), .val (.int ((0 : Int32) + (b0 - (48 : Int32)))), .val (.int (1 : Int32)), .val (.int (b0 - (48 : Int32)))] rfl ?_
      refine W.goto 5 d_prog_58_method_6_47 rfl ?_
      refine W.iload 7 d_prog_58_method_6_5 rfl rfl ?_
      refine W.iloadN 8 d_prog_58_method_6_7 rfl rfl ?_
      refine W.iloadN 9 d_prog_58_method_6_8 rfl rfl ?_
      refine W.iadd 10 d_prog_58_method_6_9 rfl (1 : Int32) (by decide) ?_
      refine W.icmp_ge 50 13 d_prog_58_method_6_10 rfl rfl (fun _ => ?_) (fun hc => absurd hc (by decide))
      refine W.iloadN 51 d_prog_58_method_6_50 rfl rfl ?_
      exact W.ireturn d_prog_58_method_6_51 rfl ⟨by simp only [own_go_nil, own_go_cons, own_mz, hc1020, hc1021, if_true, if_false], rfl⟩ (by decide) (by decide)
    · intro hc1021
      refine W.iconst 35 d_prog_58_method_6_34 rfl (-1 : Int32) rfl ?_
      exact W.ireturn d_prog_58_method_6_35 rfl ⟨by simp only [own_go_nil, own_go_cons, own_mz, hc1020, hc1021, if_true, if_false], rfl⟩ (by decide) (by decide)
set_option maxRecDepth 65536 in
set_option maxHeartbeats 40000000 in
theorem c_ref01 (l : Launch) (Z : State) (a0 : Array Value) (hw : ∀ d ∈ tables_1, d.before a0 Z = true) (a : Addr) (b0 b1 b2 b3 b4 : Int32) (h : Heap) (n0 : Nat) (hn : n0 ≤ h.size) (A : Ary Z h a .byte [(.int b0), (.int b1), (.int b2), (.int b3), (.int b4)]) (hb0 : own_B b0) (hb1 : own_B b1) (hb2 : own_B b2) (hb3 : own_B b3) (hb4 : own_B b4) : Con l Z (⟨"com/example/tallymark/tallymark/InputTimesDigitsPinLaw", "ref", "([BII)I"⟩ : MethodName) method_8_code 3 (some .int) ({ frames := 2, cells := 0, slots := 0, locals := 60 } : Room) #[(.ref a), (.int (0 : Int32)), (.int (1 : Int32))] h n0 (fun r h' => r = some (.int (own_go 0 [b0])) ∧ h' = h) := by
  refine ConW.of_W (Ls := #[.val (.ref a), .val (.int (0 : Int32)), .val (.int (1 : Int32))]) (plainFor_of_name pn_0) hn (fun m => by first | (simp [entryFrame, mkF, argsToLocals, Value.category]; done) | rfl) ?_
  refine W.aloadN 1 d_method_8_0 rfl rfl rfl ?_
  refine W.iloadN 2 d_method_8_1 rfl rfl ?_
  refine W.iloadN 3 d_method_8_2 rfl rfl ?_
  refine W.iconst 4 d_method_8_3 rfl (0 : Int32) rfl ?_
  refine W.callS (rest := []) (argsL := [(.ref a), (.int (0 : Int32)), (.int (1 : Int32)), (.int (0 : Int32))]) 7 d_method_8_4 rfl (fun hn => (c_badY l Z a0 hw a (0 : Int32) (1 : Int32) (0 : Int32) b0 _ 0 _ n0 hn A (by decide) (by decide) (by decide) rfl).post (P := fun r h' => r = some (.int (own_bad b0)) ∧ h' = _) (fun v h' q => q)) (wd_12 hw) (wd_13 hw) (wd_3 hw) (wd_14 hw) (by decide) pd_2 rfl rfl rfl (by decide) 0 (Nat.le_of_ble_eq_true rfl) (by decide) (by decide) (by decide) ?_
  rintro v1022 h1022 ⟨rfl, rfl⟩
  show W _ _ _ _ _ _ _ _ _ _ _ 0 0 7 #[.val (.ref a), .val (.int (0 : Int32)), .val (.int (1 : Int32))] [(.int (own_bad b0))]
  refine W.if_ne 40 10 d_method_8_7 rfl rfl ?_ ?_
  · intro hc1023
    refine W.iconst 41 d_method_8_40 rfl (-1 : Int32) rfl ?_
    exact W.ireturn d_method_8_41 rfl ⟨by congr 2; symm; simp [own_step _ _ _ hb0, hc1023], rfl⟩ (by decide) (by decide)
  · intro hc1023
    refine W.aloadN 11 d_method_8_10 rfl rfl rfl ?_
    refine W.iloadN 12 d_method_8_11 rfl rfl ?_
    refine W.iloadN 13 d_method_8_12 rfl rfl ?_
    refine W.iconst 14 d_method_8_13 rfl (1 : Int32) rfl ?_
    refine W.callS (rest := []) (argsL := [(.ref a), (.int (0 : Int32)), (.int (1 : Int32)), (.int (1 : Int32))]) 17 d_method_8_14 rfl (fun hn => c_badN l Z a0 hw a (0 : Int32) (1 : Int32) (1 : Int32) _ n0 hn (by decide)) (wd_12 hw) (wd_13 hw) (wd_3 hw) (wd_14 hw) (by decide) pd_2 rfl rfl rfl (by decide) 0 (Nat.le_of_ble_eq_true rfl) (by decide) (by decide) (by decide) ?_
    rintro v1024 h1024 ⟨rfl, rfl⟩
    show W _ _ _ _ _ _ _ _ _ _ _ 0 0 17 #[.val (.ref a), .val (.int (0 : Int32)), .val (.int (1 : Int32))] [(.int (0 : Int32))]
    refine W.if_ne 40 20 d_method_8_17 rfl rfl (fun hc => absurd (by decide) hc) (fun _ => ?_)
    refine W.aloadN 21 d_method_8_20 rfl rfl rfl ?_
    refine W.iloadN 22 d_method_8_21 rfl rfl ?_
    refine W.iloadN 23 d_method_8_22 rfl rfl ?_
    refine W.iconst 24 d_method_8_23 rfl (2 : Int32) rfl ?_
    refine W.callS (rest := []) (argsL := [(.ref a), (.int (0 : Int32)), (.int (1 : Int32)), (.int (2 : Int32))]) 27 d_method_8_24 rfl (fun hn => c_badN l Z a0 hw a (0 : Int32) (1 : Int32) (2 : Int32) _ n0 hn (by decide)) (wd_12 hw) (wd_13 hw) (wd_3 hw) (wd_14 hw) (by decide) pd_2 rfl rfl rfl (by decide) 0 (Nat.le_of_ble_eq_true rfl) (by decide) (by decide) (by decide) ?_
    rintro v1025 h1025 ⟨rfl, rfl⟩
    show W _ _ _ _ _ _ _ _ _ _ _ 0 0 27 #[.val (.ref a), .val (.int (0 : Int32)), .val (.int (1 : Int32))] [(.int (0 : Int32))]
    refine W.if_ne 40 30 d_method_8_27 rfl rfl (fun hc => absurd (by decide) hc) (fun _ => ?_)
    refine W.aloadN 31 d_method_8_30 rfl rfl rfl ?_
    refine W.iloadN 32 d_method_8_31 rfl rfl ?_
    refine W.iloadN 33 d_method_8_32 rfl rfl ?_
    refine W.iconst 34 d_method_8_33 rfl (3 : Int32) rfl ?_
    refine W.callS (rest := []) (argsL := [(.ref a), (.int (0 : Int32)), (.int (1 : Int32)), (.int (3 : Int32))]) 37 d_method_8_34 rfl (fun hn => c_badN l Z a0 hw a (0 : Int32) (1 : Int32) (3 : Int32) _ n0 hn (by decide)) (wd_12 hw) (wd_13 hw) (wd_3 hw) (wd_14 hw) (by decide) pd_2 rfl rfl rfl (by decide) 0 (Nat.le_of_ble_eq_true rfl) (by decide) (by decide) (by decide) ?_
    rintro v1026 h1026 ⟨rfl, rfl⟩
    show W _ _ _ _ _ _ _ _ _ _ _ 0 0 37 #[.val (.ref a), .val (.int (0 : Int32)), .val (.int (1 : Int32))] [(.int (0 : Int32))]
    refine W.if_eq 42 40 d_method_8_37 rfl rfl (fun _ => ?_) (fun hc => absurd (by decide) hc)
    refine W.aloadN 43 d_method_8_42 rfl rfl rfl ?_
    refine W.iloadN 44 d_method_8_43 rfl rfl ?_
    refine W.iloadN 45 d_method_8_44 rfl rfl ?_
    refine W.iconst 46 d_method_8_45 rfl (0 : Int32) rfl ?_
    refine W.callS (rest := []) (argsL := [(.ref a), (.int (0 : Int32)), (.int (1 : Int32)), (.int (0 : Int32))]) 49 d_method_8_46 rfl (fun hn => (c_termY l Z a0 hw a (0 : Int32) (1 : Int32) (0 : Int32) b0 _ 0 _ n0 hn A (by decide) (by decide) (by decide) rfl).post (P := fun r h' => r = some (.int (own_dig b0 * (1 : Int32))) ∧ h' = _) (fun v h' q => q)) (wd_18 hw) (wd_19 hw) (wd_3 hw) (wd_20 hw) (by decide) pd_3 rfl rfl rfl (by decide) 0 (Nat.le_of_ble_eq_true rfl) (by decide) (by decide) (by decide) ?_
    rintro v1027 h1027 ⟨rfl, rfl⟩
    show W _ _ _ _ _ _ _ _ _ _ _ 0 0 49 #[.val (.ref a), .val (.int (0 : Int32)), .val (.int (1 : Int32))] [(.int (own_dig b0 * (1 : Int32)))]
    refine W.aloadN 50 d_method_8_49 rfl rfl rfl ?_
    refine W.iloadN 51 d_method_8_50 rfl rfl ?_
    refine W.iloadN 52 d_method_8_51 rfl rfl ?_
    refine W.iconst 53 d_method_8_52 rfl (1 : Int32) rfl ?_
    refine W.callS (rest := [(.int (own_dig b0 * (1 : Int32)))]) (argsL := [(.ref a), (.int (0 : Int32)), (.int (1 : Int32)), (.int (1 : Int32))]) 56 d_method_8_53 rfl (fun hn => c_termN l Z a0 hw a (0 : Int32) (1 : Int32) (1 : Int32) _ n0 hn (by decide)) (wd_18 hw) (wd_19 hw) (wd_3 hw) (wd_20 hw) (by decide) pd_3 rfl rfl rfl (by decide) 1 (Nat.le_of_ble_eq_true rfl) (by decide) (by decide) (by decide) ?_
    rintro v1028 h1028 ⟨rfl, rfl⟩
    show W _ _ _ _ _ _ _ _ _ _ _ 0 0 56 #[.val (.ref a), .val (.int (0 : Int32)), .val (.int (1 : Int32))] [(.int (0 : Int32)), (.int (own_dig b0 * (1 : Int32)))]
    refine W.iadd 57 d_method_8_56 rfl ((own_dig b0 * (1 : Int32)) + (0 : Int32)) rfl ?_
    refine W.aloadN 58 d_method_8_57 rfl rfl rfl ?_
    refine W.iloadN 59 d_method_8_58 rfl rfl ?_
    refine W.iloadN 60 d_method_8_59 rfl rfl ?_
    refine W.iconst 61 d_method_8_60 rfl (2 : Int32) rfl ?_
    refine W.callS (rest := [(.int ((own_dig b0 * (1 : Int32)) + (0 : Int32)))]) (argsL := [(.ref a), (.int (0 : Int32)), (.int (1 : Int32)), (.int (2 : Int32))]) 64 d_method_8_61 rfl (fun hn => c_termN l Z a0 hw a (0 : Int32) (1 : Int32) (2 : Int32) _ n0 hn (by decide)) (wd_18 hw) (wd_19 hw) (wd_3 hw) (wd_20 hw) (by decide) pd_3 rfl rfl rfl (by decide) 1 (Nat.le_of_ble_eq_true rfl) (by decide) (by decide) (by decide) ?_
    rintro v1029 h1029 ⟨rfl, rfl⟩
    show W _ _ _ _ _ _ _ _ _ _ _ 0 0 64 #[.val (.ref a), .val (.int (0 : Int32)), .val (.int (1 : Int32))] [(.int (0 : Int32)), (.int ((own_dig b0 * (1 : Int32)) + (0 : Int32)))]
    refine W.iadd 65 d_method_8_64 rfl (((own_dig b0 * (1 : Int32)) + (0 : Int32)) + (0 : Int32)) rfl ?_
    refine W.aloadN 66 d_method_8_65 rfl rfl rfl ?_
    refine W.iloadN 67 d_method_8_66 rfl rfl ?_
    refine W.iloadN 68 d_method_8_67 rfl rfl ?_
    refine W.iconst 69 d_method_8_68 rfl (3 : Int32) rfl ?_
    refine W.callS (rest := [(.int (((own_dig b0 * (1 : Int32)) + (0 : Int32)) + (0 : Int32)))]) (argsL := [(.ref a), (.int (0 : Int32)), (.int (1 : Int32)), (.int (3 : Int32))]) 72 d_method_8_69 rfl (fun hn => c_termN l Z a0 hw a (0 : Int32) (1 : Int32) (3 : Int32) _ n0 hn (by decide)) (wd_18 hw) (wd_19 hw) (wd_3 hw) (wd_20 hw) (by decide) pd_3 rfl rfl rfl (by decide) 1 (Nat.le_of_ble_eq_true rfl) (by decide) (by decide) (by decide) ?_
    rintro v1030 h1030 ⟨rfl, rfl⟩
    show W _ _ _ _ _ _ _ _ _ _ _ 0 0 72 #[.val (.ref a), .val (.int (0 : Int32)), .val (.int (1 : Int32))] [(.int (0 : Int32)), (.int (((own_dig b0 * (1 : Int32)) + (0 : Int32)) + (0 : Int32)))]
    refine W.iadd 73 d_method_8_72 rfl ((((own_dig b0 * (1 : Int32)) + (0 : Int32)) + (0 : Int32)) + (0 : Int32)) rfl ?_
    exact W.ireturn d_method_8_73 rfl ⟨by congr 2; symm; simp only [own_step _ _ _ hb0, hc1023, own_go_nil, if_true]; exact own_d1 _, rfl⟩ (by decide) (by decide)
set_option maxRecDepth 65536 in
set_option maxHeartbeats 40000000 in
theorem c_ds02 (l : Launch) (Z : State) (a0 : Array Value) (hw : ∀ d ∈ tables_1, d.before a0 Z = true) (a : Addr) (b0 b1 b2 b3 b4 : Int32) (h : Heap) (n0 : Nat) (hn : n0 ≤ h.size) (A : Ary Z h a .byte [(.int b0), (.int b1), (.int b2), (.int b3), (.int b4)]) (hb0 : own_B b0) (hb1 : own_B b1) (hb2 : own_B b2) (hb3 : own_B b3) (hb4 : own_B b4) : Con l Z (⟨"com/example/tallymark/tallymark/InputTimes", "digits", "([BII)I"⟩ : MethodName) prog_58_method_6_code 6 (some .int) ({ frames := 0, cells := 0, slots := 0, locals := 0 } : Room) #[(.ref a), (.int (0 : Int32)), (.int (2 : Int32))] h n0 (fun r h' => r = some (.int (own_go 0 [b0, b1])) ∧ h' = h) := by
  refine ConW.of_W (Ls := #[.val (.ref a), .val (.int (0 : Int32)), .val (.int (2 : Int32)), .unset, .unset, .unset]) (plainFor_of_name pn_1) hn (fun m => by first | (simp [entryFrame, mkF, argsToLocals, Value.category]; done) | rfl) ?_
  refine W.iconst 1 d_prog_58_method_6_0 rfl (0 : Int32) rfl ?_
  refine W.istoreN 2 d_prog_58_method_6_1 rfl #[.val (.ref a), .val (.int (0 : Int32)), .val (.int (2 : Int32)), .val (.int (0 : Int32)), .unset, .unset] rfl ?_
  refine W.iloadN 3 d_prog_58_method_6_2 rfl rfl ?_
  refine W.istore 5 d_prog_58_method_6_3 rfl #[.val (.ref a), .val (.int (0 : Int32)), .val (.int (2 : Int32)), .val (.int (0 : Int32)), .val (.int (0 : Int32)), .unset] rfl ?_
  refine W.iload 7 d_prog_58_method_6_5 rfl rfl ?_
  refine W.iloadN 8 d_prog_58_method_6_7 rfl rfl ?_
  refine W.iloadN 9 d_prog_58_method_6_8 rfl rfl ?_
  refine W.iadd 10 d_prog_58_method_6_9 rfl (2 : Int32) (by decide) ?_
  refine W.icmp_ge 50 13 d_prog_58_method_6_10 rfl rfl (fun hc => absurd (by decide) hc) (fun _ => ?_)
  refine W.aloadN 14 d_prog_58_method_6_13 rfl rfl rfl ?_
  refine W.iload 16 d_prog_58_method_6_14 rfl rfl ?_
  refine W.baload 17 d_prog_58_method_6_16 rfl A 0 (by decide) (by decide) (.int b0) rfl ?_
  refine W.bipush 19 d_prog_58_method_6_17 rfl (48 : Int32) rfl ?_
  refine W.isub 20 d_prog_58_method_6_19 rfl (b0 - (48 : Int32)) rfl ?_
  refine W.istore 22 d_prog_58_method_6_20 rfl #[.val (.ref a), .val (.int (0 : Int32)), .val (.int (2 : Int32)), .val (.int (0 : Int32)), .val (.int (0 : Int32)), .val (.int (b0 - (48 : Int32)))] rfl ?_
  refine W.iload 24 d_prog_58_method_6_22 rfl rfl ?_
  refine W.if_lt 34 27 d_prog_58_method_6_24 rfl rfl ?_ ?_
  · intro hc1031
    refine W.iconst 35 d_prog_58_method_6_34 rfl (-1 : Int32) rfl ?_
    exact W.ireturn d_prog_58_method_6_35 rfl ⟨by simp only [own_go_nil, own_go_cons, own_mz, hc1031, if_true, if_false], rfl⟩ (by decide) (by decide)
  · intro hc1031
    refine W.iload 29 d_prog_58_method_6_27 rfl rfl ?_
    refine W.bipush 31 d_prog_58_method_6_29 rfl (9 : Int32) rfl ?_
    refine W.icmp_le 36 34 d_prog_58_method_6_31 rfl rfl ?_ ?_
    · intro hc1032
      refine W.bipush 38 d_prog_58_method_6_36 rfl (10 : Int32) rfl ?_
      refine W.iloadN 39 d_prog_58_method_6_38 rfl rfl ?_
      refine W.imul 40 d_prog_58_method_6_39 rfl (0 : Int32) (by decide) ?_
      refine W.iload 42 d_prog_58_method_6_40 rfl rfl ?_
      refine W.iadd 43 d_prog_58_method_6_42 rfl ((0 : Int32) + (b0 - (48 : Int32))) rfl ?_
      refine W.istoreN 44 d_prog_58_method_6_43 rfl #[.val (.ref a), .val (.int (0 : Int32)), .val (.int (2 : Int32)), .val (.int ((0 : Int32) + (b0 - (48 : Int32)))), .val (.int (0 : Int32)), .val (.int (b0 - (48 : Int32)))] rfl ?_
      refine W.iinc 47 d_prog_58_method_6_44 rfl rfl (1 : Int32) (by decide) #[.val (.ref a), .val (.int (0 : Int32)), .val (.int (2 : Int32)), .val (.int ((0 : Int32) + (b0 - (48 : Int32)))), .val (.int (1 : Int32)), .val (.int (b0 - (48 : Int32)))] rfl ?_
      refine W.goto 5 d_prog_58_method_6_47 rfl ?_
      refine W.iload 7 d_prog_58_method_6_5 rfl rfl ?_
      refine W.iloadN 8 d_prog_58_method_6_7 rfl rfl ?_
      refine W.iloadN 9 d_prog_58_method_6_8 rfl rfl ?_
      refine W.iadd 10 d_prog_58_method_6_9 rfl (2 : Int32) (by decide) ?_
      refine W.icmp_ge 50 13 d_prog_58_method_6_10 rfl rfl (fun hc => absurd (by decide) hc) (fun _ => ?_)
      refine W.aloadN 14 d_prog_58_method_6_13 rfl rfl rfl ?_
      refine W.iload 16 d_prog_58_method_6_14 rfl rfl ?_
      refine W.baload 17 d_prog_58_method_6_16 rfl A 1 (by decide) (by decide) (.int b1) rfl ?_
      refine W.bipush 19 d_prog_58_method_6_17 rfl (48 : Int32) rfl ?_
      refine W.isub 20 d_prog_58_method_6_19 rfl (b1 - (48 : Int32)) rfl ?_
      refine W.istore 22 d_prog_58_method_6_20 rfl #[.val (.ref a), .val (.int (0 : Int32)), .val (.int (2 : Int32)), .val (.int ((0 : Int32) + (b0 - (48 : Int32)))), .val (.int (1 : Int32)), .val (.int (b1 - (48 : Int32)))] rfl ?_
      refine W.iload 24 d_prog_58_method_6_22 rfl rfl ?_
      refine W.if_lt 34 27 d_prog_58_method_6_24 rfl rfl ?_ ?_
      · intro hc1033
        refine W.iconst 35 d_prog_58_method_6_34 rfl (-1 : Int32) rfl ?_
        exact W.ireturn d_prog_58_method_6_35 rfl ⟨by simp only [own_go_nil, own_go_cons, own_mz, hc1031, hc1032, hc1033, if_true, if_false], rfl⟩ (by decide) (by decide)
      · intro hc1033
        refine W.iload 29 d_prog_58_method_6_27 rfl rfl ?_
        refine W.bipush 31 d_prog_58_method_6_29 rfl (9 : Int32) rfl ?_
        refine W.icmp_le 36 34 d_prog_58_method_6_31 rfl rfl ?_ ?_
        · intro hc1034
          refine W.bipush 38 d_prog_58_method_6_36 rfl (10 : Int32) rfl ?_
          refine W.iloadN 39 d_prog_58_method_6_38 rfl rfl ?_
          refine W.imul 40 d_prog_58_method_6_39 rfl ((10 : Int32) * ((0 : Int32) + (b0 - (48 : Int32)))) rfl ?_
          refine W.iload 42 d_prog_58_method_6_40 rfl rfl ?_
          refine W.iadd 43 d_prog_58_method_6_42 rfl (((10 : Int32) * ((0 : Int32) + (b0 - (48 : Int32)))) + (b1 - (48 : Int32))) rfl ?_
          refine W.istoreN 44 d_prog_58_method_6_43 rfl #[.val (.ref a), .val (.int (0 : Int32)), .val (.int (2 : Int32)), .val (.int (((10 : Int32) * ((0 : Int32) + (b0 - (48 : Int32)))) + (b1 - (48 : Int32)))), .val (.int (1 : Int32)), .val (.int (b1 - (48 : Int32)))] rfl ?_
          refine W.iinc 47 d_prog_58_method_6_44 rfl rfl (2 : Int32) (by decide) #[.val (.ref a), .val (.int (0 : Int32)), .val (.int (2 : Int32)), .val (.int (((10 : Int32) * ((0 : Int32) + (b0 - (48 : Int32)))) + (b1 - (48 : Int32)))), .val (.int (2 : Int32)), .val (.int (b1 - (48 : Int32)))] rfl ?_
          refine W.goto 5 d_prog_58_method_6_47 rfl ?_
          refine W.iload 7 d_prog_58_method_6_5 rfl rfl ?_
          refine W.iloadN 8 d_prog_58_method_6_7 rfl rfl ?_
          refine W.iloadN 9 d_prog_58_method_6_8 rfl rfl ?_
          refine W.iadd 10 d_prog_58_method_6_9 rfl (2 : Int32) (by decide) ?_
          refine W.icmp_ge 50 13 d_prog_58_method_6_10 rfl rfl (fun _ => ?_) (fun hc => absurd hc (by decide))
          refine W.iloadN 51 d_prog_58_method_6_50 rfl rfl ?_
          exact W.ireturn d_prog_58_method_6_51 rfl ⟨by simp only [own_go_nil, own_go_cons, own_mz, hc1031, hc1032, hc1033, hc1034, if_true, if_false], rfl⟩ (by decide) (by decide)
        · intro hc1034
          refine W.iconst 35 d_prog_58_method_6_34 rfl (-1 : Int32) rfl ?_
          exact W.ireturn d_prog_58_method_6_35 rfl ⟨by simp only [own_go_nil, own_go_cons, own_mz, hc1031, hc1032, hc1033, hc1034, if_true, if_false], rfl⟩ (by decide) (by decide)
    · intro hc1032
      refine W.iconst 35 d_prog_58_method_6_34 rfl (-1 : Int32) rfl ?_
      exact W.ireturn d_prog_58_method_6_35 rfl ⟨by simp only [own_go_nil, own_go_cons, own_mz, hc1031, hc1032, if_true, if_false], rfl⟩ (by decide) (by decide)
set_option maxRecDepth 65536 in
set_option maxHeartbeats 40000000 in
theorem c_ref02 (l : Launch) (Z : State) (a0 : Array Value) (hw : ∀ d ∈ tables_1, d.before a0 Z = true) (a : Addr) (b0 b1 b2 b3 b4 : Int32) (h : Heap) (n0 : Nat) (hn : n0 ≤ h.size) (A : Ary Z h a .byte [(.int b0), (.int b1), (.int b2), (.int b3), (.int b4)]) (hb0 : own_B b0) (hb1 : own_B b1) (hb2 : own_B b2) (hb3 : own_B b3) (hb4 : own_B b4) : Con l Z (⟨"com/example/tallymark/tallymark/InputTimesDigitsPinLaw", "ref", "([BII)I"⟩ : MethodName) method_8_code 3 (some .int) ({ frames := 2, cells := 0, slots := 0, locals := 60 } : Room) #[(.ref a), (.int (0 : Int32)), (.int (2 : Int32))] h n0 (fun r h' => r = some (.int (own_go 0 [b0, b1])) ∧ h' = h) := by
  refine ConW.of_W (Ls := #[.val (.ref a), .val (.int (0 : Int32)), .val (.int (2 : Int32))]) (plainFor_of_name pn_0) hn (fun m => by first | (simp [entryFrame, mkF, argsToLocals, Value.category]; done) | rfl) ?_
  refine W.aloadN 1 d_method_8_0 rfl rfl rfl ?_
  refine W.iloadN 2 d_method_8_1 rfl rfl ?_
  refine W.iloadN 3 d_method_8_2 rfl rfl ?_
  refine W.iconst 4 d_method_8_3 rfl (0 : Int32) rfl ?_
  refine W.callS (rest := []) (argsL := [(.ref a), (.int (0 : Int32)), (.int (2 : Int32)), (.int (0 : Int32))]) 7 d_method_8_4 rfl (fun hn => (c_badY l Z a0 hw a (0 : Int32) (2 : Int32) (0 : Int32) b0 _ 0 _ n0 hn A (by decide) (by decide) (by decide) rfl).post (P := fun r h' => r = some (.int (own_bad b0)) ∧ h' = _) (fun v h' q => q)) (wd_12 hw) (wd_13 hw) (wd_3 hw) (wd_14 hw) (by decide) pd_2 rfl rfl rfl (by decide) 0 (Nat.le_of_ble_eq_true rfl) (by decide) (by decide) (by decide) ?_
  rintro v1035 h1035 ⟨rfl, rfl⟩
  show W _ _ _ _ _ _ _ _ _ _ _ 0 0 7 #[.val (.ref a), .val (.int (0 : Int32)), .val (.int (2 : Int32))] [(.int (own_bad b0))]
  refine W.if_ne 40 10 d_method_8_7 rfl rfl ?_ ?_
  · intro hc1036
    refine W.iconst 41 d_method_8_40 rfl (-1 : Int32) rfl ?_
    exact W.ireturn d_method_8_41 rfl ⟨by congr 2; symm; simp [own_step _ _ _ hb0, own_step _ _ _ hb1, hc1036], rfl⟩ (by decide) (by decide)
  · intro hc1036
    refine W.aloadN 11 d_method_8_10 rfl rfl rfl ?_
    refine W.iloadN 12 d_method_8_11 rfl rfl ?_
    refine W.iloadN 13 d_method_8_12 rfl rfl ?_
    refine W.iconst 14 d_method_8_13 rfl (1 : Int32) rfl ?_
    refine W.callS (rest := []) (argsL := [(.ref a), (.int (0 : Int32)), (.int (2 : Int32)), (.int (1 : Int32))]) 17 d_method_8_14 rfl (fun hn => (c_badY l Z a0 hw a (0 : Int32) (2 : Int32) (1 : Int32) b1 _ 1 _ n0 hn A (by decide) (by decide) (by decide) rfl).post (P := fun r h' => r = some (.int (own_bad b1)) ∧ h' = _) (fun v h' q => q)) (wd_12 hw) (wd_13 hw) (wd_3 hw) (wd_14 hw) (by decide) pd_2 rfl rfl rfl (by decide) 0 (Nat.le_of_ble_eq_true rfl) (by decide) (by decide) (by decide) ?_
    rintro v1037 h1037 ⟨rfl, rfl⟩
    show W _ _ _ _ _ _ _ _ _ _ _ 0 0 17 #[.val (.ref a), .val (.int (0 : Int32)), .val (.int (2 : Int32))] [(.int (own_bad b1))]
    refine W.if_ne 40 20 d_method_8_17 rfl rfl ?_ ?_
    · intro hc1038
      refine W.iconst 41 d_method_8_40 rfl (-1 : Int32) rfl ?_
      exact W.ireturn d_method_8_41 rfl ⟨by congr 2; symm; simp [own_step _ _ _ hb0, own_step _ _ _ hb1, hc1036, hc1038], rfl⟩ (by decide) (by decide)
    · intro hc1038
      refine W.aloadN 21 d_method_8_20 rfl rfl rfl ?_
      refine W.iloadN 22 d_method_8_21 rfl rfl ?_
      refine W.iloadN 23 d_method_8_22 rfl rfl ?_
      refine W.iconst 24 d_method_8_23 rfl (2 : Int32) rfl ?_
      refine W.callS (rest := []) (argsL := [(.ref a), (.int (0 : Int32)), (.int (2 : Int32)), (.int (2 : Int32))]) 27 d_method_8_24 rfl (fun hn => c_badN l Z a0 hw a (0 : Int32) (2 : Int32) (2 : Int32) _ n0 hn (by decide)) (wd_12 hw) (wd_13 hw) (wd_3 hw) (wd_14 hw) (by decide) pd_2 rfl rfl rfl (by decide) 0 (Nat.le_of_ble_eq_true rfl) (by decide) (by decide) (by decide) ?_
      rintro v1039 h1039 ⟨rfl, rfl⟩
      show W _ _ _ _ _ _ _ _ _ _ _ 0 0 27 #[.val (.ref a), .val (.int (0 : Int32)), .val (.int (2 : Int32))] [(.int (0 : Int32))]
      refine W.if_ne 40 30 d_method_8_27 rfl rfl (fun hc => absurd (by decide) hc) (fun _ => ?_)
      refine W.aloadN 31 d_method_8_30 rfl rfl rfl ?_
      refine W.iloadN 32 d_method_8_31 rfl rfl ?_
      refine W.iloadN 33 d_method_8_32 rfl rfl ?_
      refine W.iconst 34 d_method_8_33 rfl (3 : Int32) rfl ?_
      refine W.callS (rest := []) (argsL := [(.ref a), (.int (0 : Int32)), (.int (2 : Int32)), (.int (3 : Int32))]) 37 d_method_8_34 rfl (fun hn => c_badN l Z a0 hw a (0 : Int32) (2 : Int32) (3 : Int32) _ n0 hn (by decide)) (wd_12 hw) (wd_13 hw) (wd_3 hw) (wd_14 hw) (by decide) pd_2 rfl rfl rfl (by decide) 0 (Nat.le_of_ble_eq_true rfl) (by decide) (by decide) (by decide) ?_
      rintro v1040 h1040 ⟨rfl, rfl⟩
      show W _ _ _ _ _ _ _ _ _ _ _ 0 0 37 #[.val (.ref a), .val (.int (0 : Int32)), .val (.int (2 : Int32))] [(.int (0 : Int32))]
      refine W.if_eq 42 40 d_method_8_37 rfl rfl (fun _ => ?_) (fun hc => absurd (by decide) hc)
      refine W.aloadN 43 d_method_8_42 rfl rfl rfl ?_
      refine W.iloadN 44 d_method_8_43 rfl rfl ?_
      refine W.iloadN 45 d_method_8_44 rfl rfl ?_
      refine W.iconst 46 d_method_8_45 rfl (0 : Int32) rfl ?_
      refine W.callS (rest := []) (argsL := [(.ref a), (.int (0 : Int32)), (.int (2 : Int32)), (.int (0 : Int32))]) 49 d_method_8_46 rfl (fun hn => (c_termY l Z a0 hw a (0 : Int32) (2 : Int32) (0 : Int32) b0 _ 0 _ n0 hn A (by decide) (by decide) (by decide) rfl).post (P := fun r h' => r = some (.int (own_dig b0 * (10 : Int32))) ∧ h' = _) (fun v h' q => q)) (wd_18 hw) (wd_19 hw) (wd_3 hw) (wd_20 hw) (by decide) pd_3 rfl rfl rfl (by decide) 0 (Nat.le_of_ble_eq_true rfl) (by decide) (by decide) (by decide) ?_
      rintro v1041 h1041 ⟨rfl, rfl⟩
      show W _ _ _ _ _ _ _ _ _ _ _ 0 0 49 #[.val (.ref a), .val (.int (0 : Int32)), .val (.int (2 : Int32))] [(.int (own_dig b0 * (10 : Int32)))]
      refine W.aloadN 50 d_method_8_49 rfl rfl rfl ?_
      refine W.iloadN 51 d_method_8_50 rfl rfl ?_
      refine W.iloadN 52 d_method_8_51 rfl rfl ?_
      refine W.iconst 53 d_method_8_52 rfl (1 : Int32) rfl ?_
      refine W.callS (rest := [(.int (own_dig b0 * (10 : Int32)))]) (argsL := [(.ref a), (.int (0 : Int32)), (.int (2 : Int32)), (.int (1 : Int32))]) 56 d_method_8_53 rfl (fun hn => (c_termY l Z a0 hw a (0 : Int32) (2 : Int32) (1 : Int32) b1 _ 1 _ n0 hn A (by decide) (by decide) (by decide) rfl).post (P := fun r h' => r = some (.int (own_dig b1 * (1 : Int32))) ∧ h' = _) (fun v h' q => q)) (wd_18 hw) (wd_19 hw) (wd_3 hw) (wd_20 hw) (by decide) pd_3 rfl rfl rfl (by decide) 1 (Nat.le_of_ble_eq_true rfl) (by decide) (by decide) (by decide) ?_
      rintro v1042 h1042 ⟨rfl, rfl⟩
      show W _ _ _ _ _ _ _ _ _ _ _ 0 0 56 #[.val (.ref a), .val (.int (0 : Int32)), .val (.int (2 : Int32))] [(.int (own_dig b1 * (1 : Int32))), (.int (own_dig b0 * (10 : Int32)))]
      refine W.iadd 57 d_method_8_56 rfl ((own_dig b0 * (10 : Int32)) + (own_dig b1 * (1 : Int32))) rfl ?_
      refine W.aloadN 58 d_method_8_57 rfl rfl rfl ?_
      refine W.iloadN 59 d_method_8_58 rfl rfl ?_
      refine W.iloadN 60 d_method_8_59 rfl rfl ?_
      refine W.iconst 61 d_method_8_60 rfl (2 : Int32) rfl ?_
      refine W.callS (rest := [(.int ((own_dig b0 * (10 : Int32)) + (own_dig b1 * (1 : Int32))))]) (argsL := [(.ref a), (.int (0 : Int32)), (.int (2 : Int32)), (.int (2 : Int32))]) 64 d_method_8_61 rfl (fun hn => c_termN l Z a0 hw a (0 : Int32) (2 : Int32) (2 : Int32) _ n0 hn (by decide)) (wd_18 hw) (wd_19 hw) (wd_3 hw) (wd_20 hw) (by decide) pd_3 rfl rfl rfl (by decide) 1 (Nat.le_of_ble_eq_true rfl) (by decide) (by decide) (by decide) ?_
      rintro v1043 h1043 ⟨rfl, rfl⟩
      show W _ _ _ _ _ _ _ _ _ _ _ 0 0 64 #[.val (.ref a), .val (.int (0 : Int32)), .val (.int (2 : Int32))] [(.int (0 : Int32)), (.int ((own_dig b0 * (10 : Int32)) + (own_dig b1 * (1 : Int32))))]
      refine W.iadd 65 d_method_8_64 rfl (((own_dig b0 * (10 : Int32)) + (own_dig b1 * (1 : Int32))) + (0 : Int32)) rfl ?_
      refine W.aloadN 66 d_method_8_65 rfl rfl rfl ?_
      refine W.iloadN 67 d_method_8_66 rfl rfl ?_
      refine W.iloadN 68 d_method_8_67 rfl rfl ?_
      refine W.iconst 69 d_method_8_68 rfl (3 : Int32) rfl ?_
      refine W.callS (rest := [(.int (((own_dig b0 * (10 : Int32)) + (own_dig b1 * (1 : Int32))) + (0 : Int32)))]) (argsL := [(.ref a), (.int (0 : Int32)), (.int (2 : Int32)), (.int (3 : Int32))]) 72 d_method_8_69 rfl (fun hn => c_termN l Z a0 hw a (0 : Int32) (2 : Int32) (3 : Int32) _ n0 hn (by decide)) (wd_18 hw) (wd_19 hw) (wd_3 hw) (wd_20 hw) (by decide) pd_3 rfl rfl rfl (by decide) 1 (Nat.le_of_ble_eq_true rfl) (by decide) (by decide) (by decide) ?_
      rintro v1044 h1044 ⟨rfl, rfl⟩
      show W _ _ _ _ _ _ _ _ _ _ _ 0 0 72 #[.val (.ref a), .val (.int (0 : Int32)), .val (.int (2 : Int32))] [(.int (0 : Int32)), (.int (((own_dig b0 * (10 : Int32)) + (own_dig b1 * (1 : Int32))) + (0 : Int32)))]
      refine W.iadd 73 d_method_8_72 rfl ((((own_dig b0 * (10 : Int32)) + (own_dig b1 * (1 : Int32))) + (0 : Int32)) + (0 : Int32)) rfl ?_
      exact W.ireturn d_method_8_73 rfl ⟨by congr 2; symm; simp only [own_step _ _ _ hb0, own_step _ _ _ hb1, hc1036, hc1038, own_go_nil, if_true]; exact own_d2 _ _, rfl⟩ (by decide) (by decide)
set_option maxRecDepth 65536 in
set_option maxHeartbeats 40000000 in
theorem c_ds03 (l : Launch) (Z : State) (a0 : Array Value) (hw : ∀ d ∈ tables_1, d.before a0 Z = true) (a : Addr) (b0 b1 b2 b3 b4 : Int32) (h : Heap) (n0 : Nat) (hn : n0 ≤ h.size) (A : Ary Z h a .byte [(.int b0), (.int b1), (.int b2), (.int b3), (.int b4)]) (hb0 : own_B b0) (hb1 : own_B b1) (hb2 : own_B b2) (hb3 : own_B b3) (hb4 : own_B b4) : Con l Z (⟨"com/example/tallymark/tallymark/InputTimes", "digits", "([BII)I"⟩ : MethodName) prog_58_method_6_code 6 (some .int) ({ frames := 0, cells := 0, slots := 0, locals := 0 } : Room) #[(.ref a), (.int (0 : Int32)), (.int (3 : Int32))] h n0 (fun r h' => r = some (.int (own_go 0 [b0, b1, b2])) ∧ h' = h) := by
  refine ConW.of_W (Ls := #[.val (.ref a), .val (.int (0 : Int32)), .val (.int (3 : Int32)), .unset, .unset, .unset]) (plainFor_of_name pn_1) hn (fun m => by first | (simp [entryFrame, mkF, argsToLocals, Value.category]; done) | rfl) ?_
  refine W.iconst 1 d_prog_58_method_6_0 rfl (0 : Int32) rfl ?_
  refine W.istoreN 2 d_prog_58_method_6_1 rfl #[.val (.ref a), .val (.int (0 : Int32)), .val (.int (3 : Int32)), .val (.int (0 : Int32)), .unset, .unset] rfl ?_
  refine W.iloadN 3 d_prog_58_method_6_2 rfl rfl ?_
  refine W.istore 5 d_prog_58_method_6_3 rfl #[.val (.ref a), .val (.int (0 : Int32)), .val (.int (3 : Int32)), .val (.int (0 : Int32)), .val (.int (0 : Int32)), .unset] rfl ?_
  refine W.iload 7 d_prog_58_method_6_5 rfl rfl ?_
  refine W.iloadN 8 d_prog_58_method_6_7 rfl rfl ?_
  refine W.iloadN 9 d_prog_58_method_6_8 rfl rfl ?_
  refine W.iadd 10 d_prog_58_method_6_9 rfl (3 : Int32) (by decide) ?_
  refine W.icmp_ge 50 13 d_prog_58_method_6_10 rfl rfl (fun hc => absurd (by decide) hc) (fun _ => ?_)
  refine W.aloadN 14 d_prog_58_method_6_13 rfl rfl rfl ?_
  refine W.iload 16 d_prog_58_method_6_14 rfl rfl ?_
  refine W.baload 17 d_prog_58_method_6_16 rfl A 0 (by decide) (by decide) (.int b0) rfl ?_
  refine W.bipush 19 d_prog_58_method_6_17 rfl (48 : Int32) rfl ?_
  refine W.isub 20 d_prog_58_method_6_19 rfl (b0 - (48 : Int32)) rfl ?_
  refine W.istore 22 d_prog_58_method_6_20 rfl #[.val (.ref a), .val (.int (0 : Int32)), .val (.int (3 : Int32)), .val (.int (0 : Int32)), .val (.int (0 : Int32)), .val (.int (b0 - (48 : Int32)))] rfl ?_
  refine W.iload 24 d_prog_58_method_6_22 rfl rfl ?_
  refine W.if_lt 34 27 d_prog_58_method_6_24 rfl rfl ?_ ?_
  · intro hc1045
    refine W.iconst 35 d_prog_58_method_6_34 rfl (-1 : Int32) rfl ?_
    exact W.ireturn d_prog_58_method_6_35 rfl ⟨by simp only [own_go_nil, own_go_cons, own_mz, hc1045, if_true, if_false], rfl⟩ (by decide) (by decide)
  · intro hc1045
    refine W.iload 29 d_prog_58_method_6_27 rfl rfl ?_
    refine W.bipush 31 d_prog_58_method_6_29 rfl (9 : Int32) rfl ?_
    refine W.icmp_le 36 34 d_prog_58_method_6_31 rfl rfl ?_ ?_
    · intro hc1046
      refine W.bipush 38 d_prog_58_method_6_36 rfl (10 : Int32) rfl ?_
      refine W.iloadN 39 d_prog_58_method_6_38 rfl rfl ?_
      refine W.imul 40 d_prog_58_method_6_39 rfl (0 : Int32) (by decide) ?_
      refine W.iload 42 d_prog_58_method_6_40 rfl rfl ?_
      refine W.iadd 43 d_prog_58_method_6_42 rfl ((0 : Int32) + (b0 - (48 : Int32))) rfl ?_
      refine W.istoreN 44 d_prog_58_method_6_43 rfl #[.val (.ref a), .val (.int (0 : Int32)), .val (.int (3 : Int32)), .val (.int ((0 : Int32) + (b0 - (48 : Int32)))), .val (.int (0 : Int32)), .val (.int (b0 - (48 : Int32)))] rfl ?_
      refine W.iinc 47 d_prog_58_method_6_44 rfl rfl (1 : Int32) (by decide) #[.val (.ref a), .val (.int (0 : Int32)), .val (.int (3 : Int32)), .val (.int ((0 : Int32) + (b0 - (48 : Int32)))), .val (.int (1 : Int32)), .val (.int (b0 - (48 : Int32)))] rfl ?_
      refine W.goto 5 d_prog_58_method_6_47 rfl ?_
      refine W.iload 7 d_prog_58_method_6_5 rfl rfl ?_
      refine W.iloadN 8 d_prog_58_method_6_7 rfl rfl ?_
      refine W.iloadN 9 d_prog_58_method_6_8 rfl rfl ?_
      refine W.iadd 10 d_prog_58_method_6_9 rfl (3 : Int32) (by decide) ?_
      refine W.icmp_ge 50 13 d_prog_58_method_6_10 rfl rfl (fun hc => absurd (by decide) hc) (fun _ => ?_)
      refine W.aloadN 14 d_prog_58_method_6_13 rfl rfl rfl ?_
      refine W.iload 16 d_prog_58_method_6_14 rfl rfl ?_
      refine W.baload 17 d_prog_58_method_6_16 rfl A 1 (by decide) (by decide) (.int b1) rfl ?_
      refine W.bipush 19 d_prog_58_method_6_17 rfl (48 : Int32) rfl ?_
      refine W.isub 20 d_prog_58_method_6_19 rfl (b1 - (48 : Int32)) rfl ?_
      refine W.istore 22 d_prog_58_method_6_20 rfl #[.val (.ref a), .val (.int (0 : Int32)), .val (.int (3 : Int32)), .val (.int ((0 : Int32) + (b0 - (48 : Int32)))), .val (.int (1 : Int32)), .val (.int (b1 - (48 : Int32)))] rfl ?_
      refine W.iload 24 d_prog_58_method_6_22 rfl rfl ?_
      refine W.if_lt 34 27 d_prog_58_method_6_24 rfl rfl ?_ ?_
      · intro hc1047
        refine W.iconst 35 d_prog_58_method_6_34 rfl (-1 : Int32) rfl ?_
        exact W.ireturn d_prog_58_method_6_35 rfl ⟨by simp only [own_go_nil, own_go_cons, own_mz, hc1045, hc1046, hc1047, if_true, if_false], rfl⟩ (by decide) (by decide)
      · intro hc1047
        refine W.iload 29 d_prog_58_method_6_27 rfl rfl ?_
        refine W.bipush 31 d_prog_58_method_6_29 rfl (9 : Int32) rfl ?_
        refine W.icmp_le 36 34 d_prog_58_method_6_31 rfl rfl ?_ ?_
        · intro hc1048
          refine W.bipush 38 d_prog_58_method_6_36 rfl (10 : Int32) rfl ?_
          refine W.iloadN 39 d_prog_58_method_6_38 rfl rfl ?_
          refine W.imul 40 d_prog_58_method_6_39 rfl ((10 : Int32) * ((0 : Int32) + (b0 - (48 : Int32)))) rfl ?_
          refine W.iload 42 d_prog_58_method_6_40 rfl rfl ?_
          refine W.iadd 43 d_prog_58_method_6_42 rfl (((10 : Int32) * ((0 : Int32) + (b0 - (48 : Int32)))) + (b1 - (48 : Int32))) rfl ?_
          refine W.istoreN 44 d_prog_58_method_6_43 rfl #[.val (.ref a), .val (.int (0 : Int32)), .val (.int (3 : Int32)), .val (.int (((10 : Int32) * ((0 : Int32) + (b0 - (48 : Int32)))) + (b1 - (48 : Int32)))), .val (.int (1 : Int32)), .val (.int (b1 - (48 : Int32)))] rfl ?_
          refine W.iinc 47 d_prog_58_method_6_44 rfl rfl (2 : Int32) (by decide) #[.val (.ref a), .val (.int (0 : Int32)), .val (.int (3 : Int32)), .val (.int (((10 : Int32) * ((0 : Int32) + (b0 - (48 : Int32)))) + (b1 - (48 : Int32)))), .val (.int (2 : Int32)), .val (.int (b1 - (48 : Int32)))] rfl ?_
          refine W.goto 5 d_prog_58_method_6_47 rfl ?_
          refine W.iload 7 d_prog_58_method_6_5 rfl rfl ?_
          refine W.iloadN 8 d_prog_58_method_6_7 rfl rfl ?_
          refine W.iloadN 9 d_prog_58_method_6_8 rfl rfl ?_
          refine W.iadd 10 d_prog_58_method_6_9 rfl (3 : Int32) (by decide) ?_
          refine W.icmp_ge 50 13 d_prog_58_method_6_10 rfl rfl (fun hc => absurd (by decide) hc) (fun _ => ?_)
          refine W.aloadN 14 d_prog_58_method_6_13 rfl rfl rfl ?_
          refine W.iload 16 d_prog_58_method_6_14 rfl rfl ?_
          refine W.baload 17 d_prog_58_method_6_16 rfl A 2 (by decide) (by decide) (.int b2) rfl ?_
          refine W.bipush 19 d_prog_58_method_6_17 rfl (48 : Int32) rfl ?_
          refine W.isub 20 d_prog_58_method_6_19 rfl (b2 - (48 : Int32)) rfl ?_
          refine W.istore 22 d_prog_58_method_6_20 rfl #[.val (.ref a), .val (.int (0 : Int32)), .val (.int (3 : Int32)), .val (.int (((10 : Int32) * ((0 : Int32) + (b0 - (48 : Int32)))) + (b1 - (48 : Int32)))), .val (.int (2 : Int32)), .val (.int (b2 - (48 : Int32)))] rfl ?_
          refine W.iload 24 d_prog_58_method_6_22 rfl rfl ?_
          refine W.if_lt 34 27 d_prog_58_method_6_24 rfl rfl ?_ ?_
          · intro hc1049
            refine W.iconst 35 d_prog_58_method_6_34 rfl (-1 : Int32) rfl ?_
            exact W.ireturn d_prog_58_method_6_35 rfl ⟨by simp only [own_go_nil, own_go_cons, own_mz, hc1045, hc1046, hc1047, hc1048, hc1049, if_true, if_false], rfl⟩ (by decide) (by decide)
          · intro hc1049
            refine W.iload 29 d_prog_58_method_6_27 rfl rfl ?_
            refine W.bipush 31 d_prog_58_method_6_29 rfl (9 : Int32) rfl ?_
            refine W.icmp_le 36 34 d_prog_58_method_6_31 rfl rfl ?_ ?_
            · intro hc1050
              refine W.bipush 38 d_prog_58_method_6_36 rfl (10 : Int32) rfl ?_
              refine W.iloadN 39 d_prog_58_method_6_38 rfl rfl ?_
              refine W.imul 40 d_prog_58_method_6_39 rfl ((10 : Int32) * (((10 : Int32) * ((0 : Int32) + (b0 - (48 : Int32)))) + (b1 - (48 : Int32)))) rfl ?_
              refine W.iload 42 d_prog_58_method_6_40 rfl rfl ?_
              refine W.iadd 43 d_prog_58_method_6_42 rfl (((10 : Int32) * (((10 : Int32) * ((0 : Int32) + (b0 - (48 : Int32)))) + (b1 - (48 : Int32)))) + (b2 - (48 : Int32))) rfl ?_
              refine W.istoreN 44 d_prog_58_method_6_43 rfl #[.val (.ref a), .val (.int (0 : Int32)), .val (.int (3 : Int32)), .val (.int (((10 : Int32) * (((10 : Int32) * ((0 : Int32) + (b0 - (48 : Int32)))) + (b1 - (48 : Int32)))) + (b2 - (48 : Int32)))), .val (.int (2 : Int32)), .val (.int (b2 - (48 : Int32)))] rfl ?_
              refine W.iinc 47 d_prog_58_method_6_44 rfl rfl (3 : Int32) (by decide) #[.val (.ref a), .val (.int (0 : Int32)), .val (.int (3 : Int32)), .val (.int (((10 : Int32) * (((10 : Int32) * ((0 : Int32) + (b0 - (48 : Int32)))) + (b1 - (48 : Int32)))) + (b2 - (48 : Int32)))), .val (.int (3 : Int32)), .val (.int (b2 - (48 : Int32)))] rfl ?_
              refine W.goto 5 d_prog_58_method_6_47 rfl ?_
              refine W.iload 7 d_prog_58_method_6_5 rfl rfl ?_
              refine W.iloadN 8 d_prog_58_method_6_7 rfl rfl ?_
              refine W.iloadN 9 d_prog_58_method_6_8 rfl rfl ?_
              refine W.iadd 10 d_prog_58_method_6_9 rfl (3 : Int32) (by decide) ?_
              refine W.icmp_ge 50 13 d_prog_58_method_6_10 rfl rfl (fun _ => ?_) (fun hc => absurd hc (by decide))
              refine W.iloadN 51 d_prog_58_method_6_50 rfl rfl ?_
              exact W.ireturn d_prog_58_method_6_51 rfl ⟨by simp only [own_go_nil, own_go_cons, own_mz, hc1045, hc1046, hc1047, hc1048, hc1049, hc1050, if_true, if_false], rfl⟩ (by decide) (by decide)
            · intro hc1050
              refine W.iconst 35 d_prog_58_method_6_34 rfl (-1 : Int32) rfl ?_
              exact W.ireturn d_prog_58_method_6_35 rfl ⟨by simp only [own_go_nil, own_go_cons, own_mz, hc1045, hc1046, hc1047, hc1048, hc1049, hc1050, if_true, if_false], rfl⟩ (by decide) (by decide)
        · intro hc1048
          refine W.iconst 35 d_prog_58_method_6_34 rfl (-1 : Int32) rfl ?_
          exact W.ireturn d_prog_58_method_6_35 rfl ⟨by simp only [own_go_nil, own_go_cons, own_mz, hc1045, hc1046, hc1047, hc1048, if_true, if_false], rfl⟩ (by decide) (by decide)
    · intro hc1046
      refine W.iconst 35 d_prog_58_method_6_34 rfl (-1 : Int32) rfl ?_
      exact W.ireturn d_prog_58_method_6_35 rfl ⟨by simp only [own_go_nil, own_go_cons, own_mz, hc1045, hc1046, if_true, if_false], rfl⟩ (by decide) (by decide)
set_option maxRecDepth 65536 in
set_option maxHeartbeats 40000000 in
theorem c_ref03 (l : Launch) (Z : State) (a0 : Array Value) (hw : ∀ d ∈ tables_1, d.before a0 Z = true) (a : Addr) (b0 b1 b2 b3 b4 : Int32) (h : Heap) (n0 : Nat) (hn : n0 ≤ h.size) (A : Ary Z h a .byte [(.int b0), (.int b1), (.int b2), (.int b3), (.int b4)]) (hb0 : own_B b0) (hb1 : own_B b1) (hb2 : own_B b2) (hb3 : own_B b3) (hb4 : own_B b4) : Con l Z (⟨"com/example/tallymark/tallymark/InputTimesDigitsPinLaw", "ref", "([BII)I"⟩ : MethodName) method_8_code 3 (some .int) ({ frames := 2, cells := 0, slots := 0, locals := 60 } : Room) #[(.ref a), (.int (0 : Int32)), (.int (3 : Int32))] h n0 (fun r h' => r = some (.int (own_go 0 [b0, b1, b2])) ∧ h' = h) := by
  refine ConW.of_W (Ls := #[.val (.ref a), .val (.int (0 : Int32)), .val (.int (3 : Int32))]) (plainFor_of_name pn_0) hn (fun m => by first | (simp [entryFrame, mkF, argsToLocals, Value.category]; done) | rfl) ?_
  refine W.aloadN 1 d_method_8_0 rfl rfl rfl ?_
  refine W.iloadN 2 d_method_8_1 rfl rfl ?_
  refine W.iloadN 3 d_method_8_2 rfl rfl ?_
  refine W.iconst 4 d_method_8_3 rfl (0 : Int32) rfl ?_
  refine W.callS (rest := []) (argsL := [(.ref a), (.int (0 : Int32)), (.int (3 : Int32)), (.int (0 : Int32))]) 7 d_method_8_4 rfl (fun hn => (c_badY l Z a0 hw a (0 : Int32) (3 : Int32) (0 : Int32) b0 _ 0 _ n0 hn A (by decide) (by decide) (by decide) rfl).post (P := fun r h' => r = some (.int (own_bad b0)) ∧ h' = _) (fun v h' q => q)) (wd_12 hw) (wd_13 hw) (wd_3 hw) (wd_14 hw) (by decide) pd_2 rfl rfl rfl (by decide) 0 (Nat.le_of_ble_eq_true rfl) (by decide) (by decide) (by decide) ?_
  rintro v1051 h1051 ⟨rfl, rfl⟩
  show W _ _ _ _ _ _ _ _ _ _ _ 0 0 7 #[.val (.ref a), .val (.int (0 : Int32)), .val (.int (3 : Int32))] [(.int (own_bad b0))]
  refine W.if_ne 40 10 d_method_8_7 rfl rfl ?_ ?_
  · intro hc1052
    refine W.iconst 41 d_method_8_40 rfl (-1 : Int32) rfl ?_
    exact W.ireturn d_method_8_41 rfl ⟨by congr 2; symm; simp [own_step _ _ _ hb0, own_step _ _ _ hb1, own_step _ _ _ hb2, hc1052], rfl⟩ (by decide) (by decide)
  · intro hc1052
    refine W.aloadN 11 d_method_8_10 rfl rfl rfl ?_
    refine W.iloadN 12 d_method_8_11 rfl rfl ?_
    refine W.iloadN 13 d_method_8_12 rfl rfl ?_
    refine W.iconst 14 d_method_8_13 rfl (1 : Int32) rfl ?_
    refine W.callS (rest := []) (argsL := [(.ref a), (.int (0 : Int32)), (.int (3 : Int32)), (.int (1 : Int32))]) 17 d_method_8_14 rfl (fun hn => (c_badY l Z a0 hw a (0 : Int32) (3 : Int32) (1 : Int32) b1 _ 1 _ n0 hn A (by decide) (by decide) (by decide) rfl).post (P := fun r h' => r = some (.int (own_bad b1)) ∧ h' = _) (fun v h' q => q)) (wd_12 hw) (wd_13 hw) (wd_3 hw) (wd_14 hw) (by decide) pd_2 rfl rfl rfl (by decide) 0 (Nat.le_of_ble_eq_true rfl) (by decide) (by decide) (by decide) ?_
    rintro v1053 h1053 ⟨rfl, rfl⟩
    show W _ _ _ _ _ _ _ _ _ _ _ 0 0 17 #[.val (.ref a), .val (.int (0 : Int32)), .val (.int (3 : Int32))] [(.int (own_bad b1))]
    refine W.if_ne 40 20 d_method_8_17 rfl rfl ?_ ?_
    · intro hc1054
      refine W.iconst 41 d_method_8_40 rfl (-1 : Int32) rfl ?_
      exact W.ireturn d_method_8_41 rfl ⟨by congr 2; symm; simp [own_step _ _ _ hb0, own_step _ _ _ hb1, own_step _ _ _ hb2, hc1052, hc1054], rfl⟩ (by decide) (by decide)
    · intro hc1054
      refine W.aloadN 21 d_method_8_20 rfl rfl rfl ?_
      refine W.iloadN 22 d_method_8_21 rfl rfl ?_
      refine W.iloadN 23 d_method_8_22 rfl rfl ?_
      refine W.iconst 24 d_method_8_23 rfl (2 : Int32) rfl ?_
      refine W.callS (rest := []) (argsL := [(.ref a), (.int (0 : Int32)), (.int (3 : Int32)), (.int (2 : Int32))]) 27 d_method_8_24 rfl (fun hn => (c_badY l Z a0 hw a (0 : Int32) (3 : Int32) (2 : Int32) b2 _ 2 _ n0 hn A (by decide) (by decide) (by decide) rfl).post (P := fun r h' => r = some (.int (own_bad b2)) ∧ h' = _) (fun v h' q => q)) (wd_12 hw) (wd_13 hw) (wd_3 hw) (wd_14 hw) (by decide) pd_2 rfl rfl rfl (by decide) 0 (Nat.le_of_ble_eq_true rfl) (by decide) (by decide) (by decide) ?_
      rintro v1055 h1055 ⟨rfl, rfl⟩
      show W _ _ _ _ _ _ _ _ _ _ _ 0 0 27 #[.val (.ref a), .val (.int (0 : Int32)), .val (.int (3 : Int32))] [(.int (own_bad b2))]
      refine W.if_ne 40 30 d_method_8_27 rfl rfl ?_ ?_
      · intro hc1056
        refine W.iconst 41 d_method_8_40 rfl (-1 : Int32) rfl ?_
        exact W.ireturn d_method_8_41 rfl ⟨by congr 2; symm; simp [own_step _ _ _ hb0, own_step _ _ _ hb1, own_step _ _ _ hb2, hc1052, hc1054, hc1056], rfl⟩ (by decide) (by decide)
      · intro hc1056
        refine W.aloadN 31 d_method_8_30 rfl rfl rfl ?_
        refine W.iloadN 32 d_method_8_31 rfl rfl ?_
        refine W.iloadN 33 d_method_8_32 rfl rfl ?_
        refine W.iconst 34 d_method_8_33 rfl (3 : Int32) rfl ?_
        refine W.callS (rest := []) (argsL := [(.ref a), (.int (0 : Int32)), (.int (3 : Int32)), (.int (3 : Int32))]) 37 d_method_8_34 rfl (fun hn => c_badN l Z a0 hw a (0 : Int32) (3 : Int32) (3 : Int32) _ n0 hn (by decide)) (wd_12 hw) (wd_13 hw) (wd_3 hw) (wd_14 hw) (by decide) pd_2 rfl rfl rfl (by decide) 0 (Nat.le_of_ble_eq_true rfl) (by decide) (by decide) (by decide) ?_
        rintro v1057 h1057 ⟨rfl, rfl⟩
        show W _ _ _ _ _ _ _ _ _ _ _ 0 0 37 #[.val (.ref a), .val (.int (0 : Int32)), .val (.int (3 : Int32))] [(.int (0 : Int32))]
        refine W.if_eq 42 40 d_method_8_37 rfl rfl (fun _ => ?_) (fun hc => absurd (by decide) hc)
        refine W.aloadN 43 d_method_8_42 rfl rfl rfl ?_
        refine W.iloadN 44 d_method_8_43 rfl rfl ?_
        refine W.iloadN 45 d_method_8_44 rfl rfl ?_
        refine W.iconst 46 d_method_8_45 rfl (0 : Int32) rfl ?_
        refine W.callS (rest := []) (argsL := [(.ref a), (.int (0 : Int32)), (.int (3 : Int32)), (.int (0 : Int32))]) 49 d_method_8_46 rfl (fun hn => (c_termY l Z a0 hw a (0 : Int32) (3 : Int32) (0 : Int32) b0 _ 0 _ n0 hn A (by decide) (by decide) (by decide) rfl).post (P := fun r h' => r = some (.int (own_dig b0 * (100 : Int32))) ∧ h' = _) (fun v h' q => q)) (wd_18 hw) (wd_19 hw) (wd_3 hw) (wd_20 hw) (by decide) pd_3 rfl rfl rfl (by decide) 0 (Nat.le_of_ble_eq_true rfl) (by decide) (by decide) (by decide) ?_
        rintro v1058 h1058 ⟨rfl, rfl⟩
        show W _ _ _ _ _ _ _ _ _ _ _ 0 0 49 #[.val (.ref a), .val (.int (0 : Int32)), .val (.int (3 : Int32))] [(.int (own_dig b0 * (100 : Int32)))]
        refine W.aloadN 50 d_method_8_49 rfl rfl rfl ?_
        refine W.iloadN 51 d_method_8_50 rfl rfl ?_
        refine W.iloadN 52 d_method_8_51 rfl rfl ?_
        refine W.iconst 53 d_method_8_52 rfl (1 : Int32) rfl ?_
        refine W.callS (rest := [(.int (own_dig b0 * (100 : Int32)))]) (argsL := [(.ref a), (.int (0 : Int32)), (.int (3 : Int32)), (.int (1 : Int32))]) 56 d_method_8_53 rfl (fun hn => (c_termY l Z a0 hw a (0 : Int32) (3 : Int32) (1 : Int32) b1 _ 1 _ n0 hn A (by decide) (by decide) (by decide) rfl).post (P := fun r h' => r = some (.int (own_dig b1 * (10 : Int32))) ∧ h' = _) (fun v h' q => q)) (wd_18 hw) (wd_19 hw) (wd_3 hw) (wd_20 hw) (by decide) pd_3 rfl rfl rfl (by decide) 1 (Nat.le_of_ble_eq_true rfl) (by decide) (by decide) (by decide) ?_
        rintro v1059 h1059 ⟨rfl, rfl⟩
        show W _ _ _ _ _ _ _ _ _ _ _ 0 0 56 #[.val (.ref a), .val (.int (0 : Int32)), .val (.int (3 : Int32))] [(.int (own_dig b1 * (10 : Int32))), (.int (own_dig b0 * (100 : Int32)))]
        refine W.iadd 57 d_method_8_56 rfl ((own_dig b0 * (100 : Int32)) + (own_dig b1 * (10 : Int32))) rfl ?_
        refine W.aloadN 58 d_method_8_57 rfl rfl rfl ?_
        refine W.iloadN 59 d_method_8_58 rfl rfl ?_
        refine W.iloadN 60 d_method_8_59 rfl rfl ?_
        refine W.iconst 61 d_method_8_60 rfl (2 : Int32) rfl ?_
        refine W.callS (rest := [(.int ((own_dig b0 * (100 : Int32)) + (own_dig b1 * (10 : Int32))))]) (argsL := [(.ref a), (.int (0 : Int32)), (.int (3 : Int32)), (.int (2 : Int32))]) 64 d_method_8_61 rfl (fun hn => (c_termY l Z a0 hw a (0 : Int32) (3 : Int32) (2 : Int32) b2 _ 2 _ n0 hn A (by decide) (by decide) (by decide) rfl).post (P := fun r h' => r = some (.int (own_dig b2 * (1 : Int32))) ∧ h' = _) (fun v h' q => q)) (wd_18 hw) (wd_19 hw) (wd_3 hw) (wd_20 hw) (by decide) pd_3 rfl rfl rfl (by decide) 1 (Nat.le_of_ble_eq_true rfl) (by decide) (by decide) (by decide) ?_
        rintro v1060 h1060 ⟨rfl, rfl⟩
        show W _ _ _ _ _ _ _ _ _ _ _ 0 0 64 #[.val (.ref a), .val (.int (0 : Int32)), .val (.int (3 : Int32))] [(.int (own_dig b2 * (1 : Int32))), (.int ((own_dig b0 * (100 : Int32)) + (own_dig b1 * (10 : Int32))))]
        refine W.iadd 65 d_method_8_64 rfl (((own_dig b0 * (100 : Int32)) + (own_dig b1 * (10 : Int32))) + (own_dig b2 * (1 : Int32))) rfl ?_
        refine W.aloadN 66 d_method_8_65 rfl rfl rfl ?_
        refine W.iloadN 67 d_method_8_66 rfl rfl ?_
        refine W.iloadN 68 d_method_8_67 rfl rfl ?_
        refine W.iconst 69 d_method_8_68 rfl (3 : Int32) rfl ?_
        refine W.callS (rest := [(.int (((own_dig b0 * (100 : Int32)) + (own_dig b1 * (10 : Int32))) + (own_dig b2 * (1 : Int32))))]) (argsL := [(.ref a), (.int (0 : Int32)), (.int (3 : Int32)), (.int (3 : Int32))]) 72 d_method_8_69 rfl (fun hn => c_termN l Z a0 hw a (0 : Int32) (3 : Int32) (3 : Int32) _ n0 hn (by decide)) (wd_18 hw) (wd_19 hw) (wd_3 hw) (wd_20 hw) (by decide) pd_3 rfl rfl rfl (by decide) 1 (Nat.le_of_ble_eq_true rfl) (by decide) (by decide) (by decide) ?_
        rintro v1061 h1061 ⟨rfl, rfl⟩
        show W _ _ _ _ _ _ _ _ _ _ _ 0 0 72 #[.val (.ref a), .val (.int (0 : Int32)), .val (.int (3 : Int32))] [(.int (0 : Int32)), (.int (((own_dig b0 * (100 : Int32)) + (own_dig b1 * (10 : Int32))) + (own_dig b2 * (1 : Int32))))]
        refine W.iadd 73 d_method_8_72 rfl ((((own_dig b0 * (100 : Int32)) + (own_dig b1 * (10 : Int32))) + (own_dig b2 * (1 : Int32))) + (0 : Int32)) rfl ?_
        exact W.ireturn d_method_8_73 rfl ⟨by congr 2; symm; simp only [own_step _ _ _ hb0, own_step _ _ _ hb1, own_step _ _ _ hb2, hc1052, hc1054, hc1056, own_go_nil, if_true]; exact own_d3 _ _ _, rfl⟩ (by decide) (by decide)
set_option maxRecDepth 65536 in
set_option maxHeartbeats 40000000 in
theorem c_ds04 (l : Launch) (Z : State) (a0 : Array Value) (hw : ∀ d ∈ tables_1, d.before a0 Z = true) (a : Addr) (b0 b1 b2 b3 b4 : Int32) (h : Heap) (n0 : Nat) (hn : n0 ≤ h.size) (A : Ary Z h a .byte [(.int b0), (.int b1), (.int b2), (.int b3), (.int b4)]) (hb0 : own_B b0) (hb1 : own_B b1) (hb2 : own_B b2) (hb3 : own_B b3) (hb4 : own_B b4) : Con l Z (⟨"com/example/tallymark/tallymark/InputTimes", "digits", "([BII)I"⟩ : MethodName) prog_58_method_6_code 6 (some .int) ({ frames := 0, cells := 0, slots := 0, locals := 0 } : Room) #[(.ref a), (.int (0 : Int32)), (.int (4 : Int32))] h n0 (fun r h' => r = some (.int (own_go 0 [b0, b1, b2, b3])) ∧ h' = h) := by
  refine ConW.of_W (Ls := #[.val (.ref a), .val (.int (0 : Int32)), .val (.int (4 : Int32)), .unset, .unset, .unset]) (plainFor_of_name pn_1) hn (fun m => by first | (simp [entryFrame, mkF, argsToLocals, Value.category]; done) | rfl) ?_
  refine W.iconst 1 d_prog_58_method_6_0 rfl (0 : Int32) rfl ?_
  refine W.istoreN 2 d_prog_58_method_6_1 rfl #[.val (.ref a), .val (.int (0 : Int32)), .val (.int (4 : Int32)), .val (.int (0 : Int32)), .unset, .unset] rfl ?_
  refine W.iloadN 3 d_prog_58_method_6_2 rfl rfl ?_
  refine W.istore 5 d_prog_58_method_6_3 rfl #[.val (.ref a), .val (.int (0 : Int32)), .val (.int (4 : Int32)), .val (.int (0 : Int32)), .val (.int (0 : Int32)), .unset] rfl ?_
  refine W.iload 7 d_prog_58_method_6_5 rfl rfl ?_
  refine W.iloadN 8 d_prog_58_method_6_7 rfl rfl ?_
  refine W.iloadN 9 d_prog_58_method_6_8 rfl rfl ?_
  refine W.iadd 10 d_prog_58_method_6_9 rfl (4 : Int32) (by decide) ?_
  refine W.icmp_ge 50 13 d_prog_58_method_6_10 rfl rfl (fun hc => absurd (by decide) hc) (fun _ => ?_)
  refine W.aloadN 14 d_prog_58_method_6_13 rfl rfl rfl ?_
  refine W.iload 16 d_prog_58_method_6_14 rfl rfl ?_
  refine W.baload 17 d_prog_58_method_6_16 rfl A 0 (by decide) (by decide) (.int b0) rfl ?_
  refine W.bipush 19 d_prog_58_method_6_17 rfl (48 : Int32) rfl ?_
  refine W.isub 20 d_prog_58_method_6_19 rfl (b0 - (48 : Int32)) rfl ?_
  refine W.istore 22 d_prog_58_method_6_20 rfl #[.val (.ref a), .val (.int (0 : Int32)), .val (.int (4 : Int32)), .val (.int (0 : Int32)), .val (.int (0 : Int32)), .val (.int (b0 - (48 : Int32)))] rfl ?_
  refine W.iload 24 d_prog_58_method_6_22 rfl rfl ?_
  refine W.if_lt 34 27 d_prog_58_method_6_24 rfl rfl ?_ ?_
  · intro hc1062
    refine W.iconst 35 d_prog_58_method_6_34 rfl (-1 : Int32) rfl ?_
    exact W.ireturn d_prog_58_method_6_35 rfl ⟨by simp only [own_go_nil, own_go_cons, own_mz, hc1062, if_true, if_false], rfl⟩ (by decide) (by decide)
  · intro hc1062
    refine W.iload 29 d_prog_58_method_6_27 rfl rfl ?_
    refine W.bipush 31 d_prog_58_method_6_29 rfl (9 : Int32) rfl ?_
    refine W.icmp_le 36 34 d_prog_58_method_6_31 rfl rfl ?_ ?_
    · intro hc1063
      refine W.bipush 38 d_prog_58_method_6_36 rfl (10 : Int32) rfl ?_
      refine W.iloadN 39 d_prog_58_method_6_38 rfl rfl ?_
      refine W.imul 40 d_prog_58_method_6_39 rfl (0 : Int32) (by decide) ?_
      refine W.iload 42 d_prog_58_method_6_40 rfl rfl ?_
      refine W.iadd 43 d_prog_58_method_6_42 rfl ((0 : Int32) + (b0 - (48 : Int32))) rfl ?_
      refine W.istoreN 44 d_prog_58_method_6_43 rfl #[.val (.ref a), .val (.int (0 : Int32)), .val (.int (4 : Int32)), .val (.int ((0 : Int32) + (b0 - (48 : Int32)))), .val (.int (0 : Int32)), .val (.int (b0 - (48 : Int32)))] rfl ?_
      refine W.iinc 47 d_prog_58_method_6_44 rfl rfl (1 : Int32) (by decide) #[.val (.ref a), .val (.int (0 : Int32)), .val (.int (4 : Int32)), .val (.int ((0 : Int32) + (b0 - (48 : Int32)))), .val (.int (1 : Int32)), .val (.int (b0 - (48 : Int32)))] rfl ?_
      refine W.goto 5 d_prog_58_method_6_47 rfl ?_
      refine W.iload 7 d_prog_58_method_6_5 rfl rfl ?_
      refine W.iloadN 8 d_prog_58_method_6_7 rfl rfl ?_
      refine W.iloadN 9 d_prog_58_method_6_8 rfl rfl ?_
      refine W.iadd 10 d_prog_58_method_6_9 rfl (4 : Int32) (by decide) ?_
      refine W.icmp_ge 50 13 d_prog_58_method_6_10 rfl rfl (fun hc => absurd (by decide) hc) (fun _ => ?_)
      refine W.aloadN 14 d_prog_58_method_6_13 rfl rfl rfl ?_
      refine W.iload 16 d_prog_58_method_6_14 rfl rfl ?_
      refine W.baload 17 d_prog_58_method_6_16 rfl A 1 (by decide) (by decide) (.int b1) rfl ?_
      refine W.bipush 19 d_prog_58_method_6_17 rfl (48 : Int32) rfl ?_
      refine W.isub 20 d_prog_58_method_6_19 rfl (b1 - (48 : Int32)) rfl ?_
      refine W.istore 22 d_prog_58_method_6_20 rfl #[.val (.ref a), .val (.int (0 : Int32)), .val (.int (4 : Int32)), .val (.int ((0 : Int32) + (b0 - (48 : Int32)))), .val (.int (1 : Int32)), .val (.int (b1 - (48 : Int32)))] rfl ?_
      refine W.iload 24 d_prog_58_method_6_22 rfl rfl ?_
      refine W.if_lt 34 27 d_prog_58_method_6_24 rfl rfl ?_ ?_
      · intro hc1064
        refine W.iconst 35 d_prog_58_method_6_34 rfl (-1 : Int32) rfl ?_
        exact W.ireturn d_prog_58_method_6_35 rfl ⟨by simp only [own_go_nil, own_go_cons, own_mz, hc1062, hc1063, hc1064, if_true, if_false], rfl⟩ (by decide) (by decide)
      · intro hc1064
        refine W.iload 29 d_prog_58_method_6_27 rfl rfl ?_
        refine W.bipush 31 d_prog_58_method_6_29 rfl (9 : Int32) rfl ?_
        refine W.icmp_le 36 34 d_prog_58_method_6_31 rfl rfl ?_ ?_
        · intro hc1065
          refine W.bipush 38 d_prog_58_method_6_36 rfl (10 : Int32) rfl ?_
          refine W.iloadN 39 d_prog_58_method_6_38 rfl rfl ?_
          refine W.imul 40 d_prog_58_method_6_39 rfl ((10 : Int32) * ((0 : Int32) + (b0 - (48 : Int32)))) rfl ?_
          refine W.iload 42 d_prog_58_method_6_40 rfl rfl ?_
          refine W.iadd 43 d_prog_58_method_6_42 rfl (((10 : Int32) * ((0 : Int32) + (b0 - (48 : Int32)))) + (b1 - (48 : Int32))) rfl ?_
          refine W.istoreN 44 d_prog_58_method_6_43 rfl #[.val (.ref a), .val (.int (0 : Int32)), .val (.int (4 : Int32)), .val (.int (((10 : Int32) * ((0 : Int32) + (b0 - (48 : Int32)))) + (b1 - (48 : Int32)))), .val (.int (1 : Int32)), .val (.int (b1 - (48 : Int32)))] rfl ?_
          refine W.iinc 47 d_prog_58_method_6_44 rfl rfl (2 : Int32) (by decide) #[.val (.ref a), .val (.int (0 : Int32)), .val (.int (4 : Int32)), .val (.int (((10 : Int32) * ((0 : Int32) + (b0 - (48 : Int32)))) + (b1 - (48 : Int32)))), .val (.int (2 : Int32)), .val (.int (b1 - (48 : Int32)))] rfl ?_
          refine W.goto 5 d_prog_58_method_6_47 rfl ?_
          refine W.iload 7 d_prog_58_method_6_5 rfl rfl ?_
          refine W.iloadN 8 d_prog_58_method_6_7 rfl rfl ?_
          refine W.iloadN 9 d_prog_58_method_6_8 rfl rfl ?_
          refine W.iadd 10 d_prog_58_method_6_9 rfl (4 : Int32) (by decide) ?_
          refine W.icmp_ge 50 13 d_prog_58_method_6_10 rfl rfl (fun hc => absurd (by decide) hc) (fun _ => ?_)
          refine W.aloadN 14 d_prog_58_method_6_13 rfl rfl rfl ?_
          refine W.iload 16 d_prog_58_method_6_14 rfl rfl ?_
          refine W.baload 17 d_prog_58_method_6_16 rfl A 2 (by decide) (by decide) (.int b2) rfl ?_
          refine W.bipush 19 d_prog_58_method_6_17 rfl (48 : Int32) rfl ?_
          refine W.isub 20 d_prog_58_method_6_19 rfl (b2 - (48 : Int32)) rfl ?_
          refine W.istore 22 d_prog_58_method_6_20 rfl #[.val (.ref a), .val (.int (0 : Int32)), .val (.int (4 : Int32)), .val (.int (((10 : Int32) * ((0 : Int32) + (b0 - (48 : Int32)))) + (b1 - (48 : Int32)))), .val (.int (2 : Int32)), .val (.int (b2 - (48 : Int32)))] rfl ?_
          refine W.iload 24 d_prog_58_method_6_22 rfl rfl ?_
          refine W.if_lt 34 27 d_prog_58_method_6_24 rfl rfl ?_ ?_
          · intro hc1066
            refine W.iconst 35 d_prog_58_method_6_34 rfl (-1 : Int32) rfl ?_
            exact W.ireturn d_prog_58_method_6_35 rfl ⟨by simp only [own_go_nil, own_go_cons, own_mz, hc1062, hc1063, hc1064, hc1065, hc1066, if_true, if_false], rfl⟩ (by decide) (by decide)
          · intro hc1066
            refine W.iload 29 d_prog_58_method_6_27 rfl rfl ?_
            refine W.bipush 31 d_prog_58_method_6_29 rfl (9 : Int32) rfl ?_
            refine W.icmp_le 36 34 d_prog_58_method_6_31 rfl rfl ?_ ?_
            · intro hc1067
              refine W.bipush 38 d_prog_58_method_6_36 rfl (10 : Int32) rfl ?_
              refine W.iloadN 39 d_prog_58_method_6_38 rfl rfl ?_
              refine W.imul 40 d_prog_58_method_6_39 rfl ((10 : Int32) * (((10 : Int32) * ((0 : Int32) + (b0 - (48 : Int32)))) + (b1 - (48 : Int32)))) rfl ?_
              refine W.iload 42 d_prog_58_method_6_40 rfl rfl ?_
              refine W.iadd 43 d_prog_58_method_6_42 rfl (((10 : Int32) * (((10 : Int32) * ((0 : Int32) + (b0 - (48 : Int32)))) + (b1 - (48 : Int32)))) + (b2 - (48 : Int32))) rfl ?_
              refine W.istoreN 44 d_prog_58_method_6_43 rfl #[.val (.ref a), .val (.int (0 : Int32)), .val (.int (4 : Int32)), .val (.int (((10 : Int32) * (((10 : Int32) * ((0 : Int32) + (b0 - (48 : Int32)))) + (b1 - (48 : Int32)))) + (b2 - (48 : Int32)))), .val (.int (2 : Int32)), .val (.int (b2 - (48 : Int32)))] rfl ?_
              refine W.iinc 47 d_prog_58_method_6_44 rfl rfl (3 : Int32) (by decide) #[.val (.ref a), .val (.int (0 : Int32)), .val (.int (4 : Int32)), .val (.int (((10 : Int32) * (((10 : Int32) * ((0 : Int32) + (b0 - (48 : Int32)))) + (b1 - (48 : Int32)))) + (b2 - (48 : Int32)))), .val (.int (3 : Int32)), .val (.int (b2 - (48 : Int32)))] rfl ?_
              refine W.goto 5 d_prog_58_method_6_47 rfl ?_
              refine W.iload 7 d_prog_58_method_6_5 rfl rfl ?_
              refine W.iloadN 8 d_prog_58_method_6_7 rfl rfl ?_
              refine W.iloadN 9 d_prog_58_method_6_8 rfl rfl ?_
              refine W.iadd 10 d_prog_58_method_6_9 rfl (4 : Int32) (by decide) ?_
              refine W.icmp_ge 50 13 d_prog_58_method_6_10 rfl rfl (fun hc => absurd (by decide) hc) (fun _ => ?_)
              refine W.aloadN 14 d_prog_58_method_6_13 rfl rfl rfl ?_
              refine W.iload 16 d_prog_58_method_6_14 rfl rfl ?_
              refine W.baload 17 d_prog_58_method_6_16 rfl A 3 (by decide) (by decide) (.int b3) rfl ?_
              refine W.bipush 19 d_prog_58_method_6_17 rfl (48 : Int32) rfl ?_
              refine W.isub 20 d_prog_58_method_6_19 rfl (b3 - (48 : Int32)) rfl ?_
              refine W.istore 22 d_prog_58_method_6_20 rfl #[.val (.ref a), .val (.int (0 : Int32)), .val (.int (4 : Int32)), .val (.int (((10 : Int32) * (((10 : Int32) * ((0 : Int32) + (b0 - (48 : Int32)))) + (b1 - (48 : Int32)))) + (b2 - (48 : Int32)))), .val (.int (3 : Int32)), .val (.int (b3 - (48 : Int32)))] rfl ?_
              refine W.iload 24 d_prog_58_method_6_22 rfl rfl ?_
              refine W.if_lt 34 27 d_prog_58_method_6_24 rfl rfl ?_ ?_
              · intro hc1068
                refine W.iconst 35 d_prog_58_method_6_34 rfl (-1 : Int32) rfl ?_
                exact W.ireturn d_prog_58_method_6_35 rfl ⟨by simp only [own_go_nil, own_go_cons, own_mz, hc1062, hc1063, hc1064, hc1065, hc1066, hc1067, hc1068, if_true, if_false], rfl⟩ (by decide) (by decide)
              · intro hc1068
                refine W.iload 29 d_prog_58_method_6_27 rfl rfl ?_
                refine W.bipush 31 d_prog_58_method_6_29 rfl (9 : Int32) rfl ?_
                refine W.icmp_le 36 34 d_prog_58_method_6_31 rfl rfl ?_ ?_
                · intro hc1069
                  refine W.bipush 38 d_prog_58_method_6_36 rfl (10 : Int32) rfl ?_
                  refine W.iloadN 39 d_prog_58_method_6_38 rfl rfl ?_
                  refine W.imul 40 d_prog_58_method_6_39 rfl ((10 : Int32) * (((10 : Int32) * (((10 : Int32) * ((0 : Int32) + (b0 - (48 : Int32)))) + (b1 - (48 : Int32)))) + (b2 - (48 : Int32)))) rfl ?_
                  refine W.iload 42 d_prog_58_method_6_40 rfl rfl ?_
                  refine W.iadd 43 d_prog_58_method_6_42 rfl (((10 : Int32) * (((10 : Int32) * (((10 : Int32) * ((0 : Int32) + (b0 - (48 : Int32)))) + (b1 - (48 : Int32)))) + (b2 - (48 : Int32)))) + (b3 - (48 : Int32))) rfl ?_
                  refine W.istoreN 44 d_prog_58_method_6_43 rfl #[.val (.ref a), .val (.int (0 : Int32)), .val (.int (4 : Int32)), .val (.int (((10 : Int32) * (((10 : Int32) * (((10 : Int32) * ((0 : Int32) + (b0 - (48 : Int32)))) + (b1 - (48 : Int32)))) + (b2 - (48 : Int32)))) + (b3 - (48 : Int32)))), .val (.int (3 : Int32)), .val (.int (b3 - (48 : Int32)))] rfl ?_
                  refine W.iinc 47 d_prog_58_method_6_44 rfl rfl (4 : Int32) (by decide) #[.val (.ref a), .val (.int (0 : Int32)), .val (.int (4 : Int32)), .val (.int (((10 : Int32) * (((10 : Int32) * (((10 : Int32) * ((0 : Int32) + (b0 - (48 : Int32)))) + (b1 - (48 : Int32)))) + (b2 - (48 : Int32)))) + (b3 - (48 : Int32)))), .val (.int (4 : Int32)), .val (.int (b3 - (48 : Int32)))] rfl ?_
                  refine W.goto 5 d_prog_58_method_6_47 rfl ?_
                  refine W.iload 7 d_prog_58_method_6_5 rfl rfl ?_
                  refine W.iloadN 8 d_prog_58_method_6_7 rfl rfl ?_
                  refine W.iloadN 9 d_prog_58_method_6_8 rfl rfl ?_
                  refine W.iadd 10 d_prog_58_method_6_9 rfl (4 : Int32) (by decide) ?_
                  refine W.icmp_ge 50 13 d_prog_58_method_6_10 rfl rfl (fun _ => ?_) (fun hc => absurd hc (by decide))
                  refine W.iloadN 51 d_prog_58_method_6_50 rfl rfl ?_
                  exact W.ireturn d_prog_58_method_6_51 rfl ⟨by simp only [own_go_nil, own_go_cons, own_mz, hc1062, hc1063, hc1064, hc1065, hc1066, hc1067, hc1068, hc1069, if_true, if_false], rfl⟩ (by decide) (by decide)
                · intro hc1069
                  refine W.iconst 35 d_prog_58_method_6_34 rfl (-1 : Int32) rfl ?_
                  exact W.ireturn d_prog_58_method_6_35 rfl ⟨by simp only [own_go_nil, own_go_cons, own_mz, hc1062, hc1063, hc1064, hc1065, hc1066, hc1067, hc1068, hc1069, if_true, if_false], rfl⟩ (by decide) (by decide)
            · intro hc1067
              refine W.iconst 35 d_prog_58_method_6_34 rfl (-1 : Int32) rfl ?_
              exact W.ireturn d_prog_58_method_6_35 rfl ⟨by simp only [own_go_nil, own_go_cons, own_mz, hc1062, hc1063, hc1064, hc1065, hc1066, hc1067, if_true, if_false], rfl⟩ (by decide) (by decide)
        · intro hc1065
          refine W.iconst 35 d_prog_58_method_6_34 rfl (-1 : Int32) rfl ?_
          exact W.ireturn d_prog_58_method_6_35 rfl ⟨by simp only [own_go_nil, own_go_cons, own_mz, hc1062, hc1063, hc1064, hc1065, if_true, if_false], rfl⟩ (by decide) (by decide)
    · intro hc1063
      refine W.iconst 35 d_prog_58_method_6_34 rfl (-1 : Int32) rfl ?_
      exact W.ireturn d_prog_58_method_6_35 rfl ⟨by simp only [own_go_nil, own_go_cons, own_mz, hc1062, hc1063, if_true, if_false], rfl⟩ (by decide) (by decide)
set_option maxRecDepth 65536 in
set_option maxHeartbeats 40000000 in
theorem c_ref04 (l : Launch) (Z : State) (a0 : Array Value) (hw : ∀ d ∈ tables_1, d.before a0 Z = true) (a : Addr) (b0 b1 b2 b3 b4 : Int32) (h : Heap) (n0 : Nat) (hn : n0 ≤ h.size) (A : Ary Z h a .byte [(.int b0), (.int b1), (.int b2), (.int b3), (.int b4)]) (hb0 : own_B b0) (hb1 : own_B b1) (hb2 : own_B b2) (hb3 : own_B b3) (hb4 : own_B b4) : Con l Z (⟨"com/example/tallymark/tallymark/InputTimesDigitsPinLaw", "ref", "([BII)I"⟩ : MethodName) method_8_code 3 (some .int) ({ frames := 2, cells := 0, slots := 0, locals := 60 } : Room) #[(.ref a), (.int (0 : Int32)), (.int (4 : Int32))] h n0 (fun r h' => r = some (.int (own_go 0 [b0, b1, b2, b3])) ∧ h' = h) := by
  refine ConW.of_W (Ls := #[.val (.ref a), .val (.int (0 : Int32)), .val (.int (4 : Int32))]) (plainFor_of_name pn_0) hn (fun m => by first | (simp [entryFrame, mkF, argsToLocals, Value.category]; done) | rfl) ?_
  refine W.aloadN 1 d_method_8_0 rfl rfl rfl ?_
  refine W.iloadN 2 d_method_8_1 rfl rfl ?_
  refine W.iloadN 3 d_method_8_2 rfl rfl ?_
  refine W.iconst 4 d_method_8_3 rfl (0 : Int32) rfl ?_
  refine W.callS (rest := []) (argsL := [(.ref a), (.int (0 : Int32)), (.int (4 : Int32)), (.int (0 : Int32))]) 7 d_method_8_4 rfl (fun hn => (c_badY l Z a0 hw a (0 : Int32) (4 : Int32) (0 : Int32) b0 _ 0 _ n0 hn A (by decide) (by decide) (by decide) rfl).post (P := fun r h' => r = some (.int (own_bad b0)) ∧ h' = _) (fun v h' q => q)) (wd_12 hw) (wd_13 hw) (wd_3 hw) (wd_14 hw) (by decide) pd_2 rfl rfl rfl (by decide) 0 (Nat.le_of_ble_eq_true rfl) (by decide) (by decide) (by decide) ?_
  rintro v1070 h1070 ⟨rfl, rfl⟩
  show W _ _ _ _ _ _ _ _ _ _ _ 0 0 7 #[.val (.ref a), .val (.int (0 : Int32)), .val (.int (4 : Int32))] [(.int (own_bad b0))]
  refine W.if_ne 40 10 d_method_8_7 rfl rfl ?_ ?_
  · intro hc1071
    refine W.iconst 41 d_method_8_40 rfl (-1 : Int32) rfl ?_
    exact W.ireturn d_method_8_41 rfl ⟨by congr 2; symm; simp [own_step _ _ _ hb0, own_step _ _ _ hb1, own_step _ _ _ hb2, own_step _ _ _ hb3, hc1071], rfl⟩ (by decide) (by decide)
  · intro hc1071
    refine W.aloadN 11 d_method_8_10 rfl rfl rfl ?_
    refine W.iloadN 12 d_method_8_11 rfl rfl ?_
    refine W.iloadN 13 d_method_8_12 rfl rfl ?_
    refine W.iconst 14 d_method_8_13 rfl (1 : Int32) rfl ?_
    refine W.callS (rest := []) (argsL := [(.ref a), (.int (0 : Int32)), (.int (4 : Int32)), (.int (1 : Int32))]) 17 d_method_8_14 rfl (fun hn => (c_badY l Z a0 hw a (0 : Int32) (4 : Int32) (1 : Int32) b1 _ 1 _ n0 hn A (by decide) (by decide) (by decide) rfl).post (P := fun r h' => r = some (.int (own_bad b1)) ∧ h' = _) (fun v h' q => q)) (wd_12 hw) (wd_13 hw) (wd_3 hw) (wd_14 hw) (by decide) pd_2 rfl rfl rfl (by decide) 0 (Nat.le_of_ble_eq_true rfl) (by decide) (by decide) (by decide) ?_
    rintro v1072 h1072 ⟨rfl, rfl⟩
    show W _ _ _ _ _ _ _ _ _ _ _ 0 0 17 #[.val (.ref a), .val (.int (0 : Int32)), .val (.int (4 : Int32))] [(.int (own_bad b1))]
    refine W.if_ne 40 20 d_method_8_17 rfl rfl ?_ ?_
    · intro hc1073
      refine W.iconst 41 d_method_8_40 rfl (-1 : Int32) rfl ?_
      exact W.ireturn d_method_8_41 rfl ⟨by congr 2; symm; simp [own_step _ _ _ hb0, own_step _ _ _ hb1, own_step _ _ _ hb2, own_step _ _ _ hb3, hc1071, hc1073], rfl⟩ (by decide) (by decide)
    · intro hc1073
      refine W.aloadN 21 d_method_8_20 rfl rfl rfl ?_
      refine W.iloadN 22 d_method_8_21 rfl rfl ?_
      refine W.iloadN 23 d_method_8_22 rfl rfl ?_
      refine W.iconst 24 d_method_8_23 rfl (2 : Int32) rfl ?_
      refine W.callS (rest := []) (argsL := [(.ref a), (.int (0 : Int32)), (.int (4 : Int32)), (.int (2 : Int32))]) 27 d_method_8_24 rfl (fun hn => (c_badY l Z a0 hw a (0 : Int32) (4 : Int32) (2 : Int32) b2 _ 2 _ n0 hn A (by decide) (by decide) (by decide) rfl).post (P := fun r h' => r = some (.int (own_bad b2)) ∧ h' = _) (fun v h' q => q)) (wd_12 hw) (wd_13 hw) (wd_3 hw) (wd_14 hw) (by decide) pd_2 rfl rfl rfl (by decide) 0 (Nat.le_of_ble_eq_true rfl) (by decide) (by decide) (by decide) ?_
      rintro v1074 h1074 ⟨rfl, rfl⟩
      show W _ _ _ _ _ _ _ _ _ _ _ 0 0 27 #[.val (.ref a), .val (.int (0 : Int32)), .val (.int (4 : Int32))] [(.int (own_bad b2))]
      refine W.if_ne 40 30 d_method_8_27 rfl rfl ?_ ?_
      · intro hc1075
        refine W.iconst 41 d_method_8_40 rfl (-1 : Int32) rfl ?_
        exact W.ireturn d_method_8_41 rfl ⟨by congr 2; symm; simp [own_step _ _ _ hb0, own_step _ _ _ hb1, own_step _ _ _ hb2, own_step _ _ _ hb3, hc1071, hc1073, hc1075], rfl⟩ (by decide) (by decide)
      · intro hc1075
        refine W.aloadN 31 d_method_8_30 rfl rfl rfl ?_
        refine W.iloadN 32 d_method_8_31 rfl rfl ?_
        refine W.iloadN 33 d_method_8_32 rfl rfl ?_
        refine W.iconst 34 d_method_8_33 rfl (3 : Int32) rfl ?_
        refine W.callS (rest := []) (argsL := [(.ref a), (.int (0 : Int32)), (.int (4 : Int32)), (.int (3 : Int32))]) 37 d_method_8_34 rfl (fun hn => (c_badY l Z a0 hw a (0 : Int32) (4 : Int32) (3 : Int32) b3 _ 3 _ n0 hn A (by decide) (by decide) (by decide) rfl).post (P := fun r h' => r = some (.int (own_bad b3)) ∧ h' = _) (fun v h' q => q)) (wd_12 hw) (wd_13 hw) (wd_3 hw) (wd_14 hw) (by decide) pd_2 rfl rfl rfl (by decide) 0 (Nat.le_of_ble_eq_true rfl) (by decide) (by decide) (by decide) ?_
        rintro v1076 h1076 ⟨rfl, rfl⟩
        show W _ _ _ _ _ _ _ _ _ _ _ 0 0 37 #[.val (.ref a), .val (.int (0 : Int32)), .val (.int (4 : Int32))] [(.int (own_bad b3))]
        refine W.if_eq 42 40 d_method_8_37 rfl rfl ?_ ?_
        · intro hc1077
          refine W.aloadN 43 d_method_8_42 rfl rfl rfl ?_
          refine W.iloadN 44 d_method_8_43 rfl rfl ?_
          refine W.iloadN 45 d_method_8_44 rfl rfl ?_
          refine W.iconst 46 d_method_8_45 rfl (0 : Int32) rfl ?_
          refine W.callS (rest := []) (argsL := [(.ref a), (.int (0 : Int32)), (.int (4 : Int32)), (.int (0 : Int32))]) 49 d_method_8_46 rfl (fun hn => (c_termY l Z a0 hw a (0 : Int32) (4 : Int32) (0 : Int32) b0 _ 0 _ n0 hn A (by decide) (by decide) (by decide) rfl).post (P := fun r h' => r = some (.int (own_dig b0 * (1000 : Int32))) ∧ h' = _) (fun v h' q => q)) (wd_18 hw) (wd_19 hw) (wd_3 hw) (wd_20 hw) (by decide) pd_3 rfl rfl rfl (by decide) 0 (Nat.le_of_ble_eq_true rfl) (by decide) (by decide) (by decide) ?_
          rintro v1078 h1078 ⟨rfl, rfl⟩
          show W _ _ _ _ _ _ _ _ _ _ _ 0 0 49 #[.val (.ref a), .val (.int (0 : Int32)), .val (.int (4 : Int32))] [(.int (own_dig b0 * (1000 : Int32)))]
          refine W.aloadN 50 d_method_8_49 rfl rfl rfl ?_
          refine W.iloadN 51 d_method_8_50 rfl rfl ?_
          refine W.iloadN 52 d_method_8_51 rfl rfl ?_
          refine W.iconst 53 d_method_8_52 rfl (1 : Int32) rfl ?_
          refine W.callS (rest := [(.int (own_dig b0 * (1000 : Int32)))]) (argsL := [(.ref a), (.int (0 : Int32)), (.int (4 : Int32)), (.int (1 : Int32))]) 56 d_method_8_53 rfl (fun hn => (c_termY l Z a0 hw a (0 : Int32) (4 : Int32) (1 : Int32) b1 _ 1 _ n0 hn A (by decide) (by decide) (by decide) rfl).post (P := fun r h' => r = some (.int (own_dig b1 * (100 : Int32))) ∧ h' = _) (fun v h' q => q)) (wd_18 hw) (wd_19 hw) (wd_3 hw) (wd_20 hw) (by decide) pd_3 rfl rfl rfl (by decide) 1 (Nat.le_of_ble_eq_true rfl) (by decide) (by decide) (by decide) ?_
          rintro v1079 h1079 ⟨rfl, rfl⟩
          show W _ _ _ _ _ _ _ _ _ _ _ 0 0 56 #[.val (.ref a), .val (.int (0 : Int32)), .val (.int (4 : Int32))] [(.int (own_dig b1 * (100 : Int32))), (.int (own_dig b0 * (1000 : Int32)))]
          refine W.iadd 57 d_method_8_56 rfl ((own_dig b0 * (1000 : Int32)) + (own_dig b1 * (100 : Int32))) rfl ?_
          refine W.aloadN 58 d_method_8_57 rfl rfl rfl ?_
          refine W.iloadN 59 d_method_8_58 rfl rfl ?_
          refine W.iloadN 60 d_method_8_59 rfl rfl ?_
          refine W.iconst 61 d_method_8_60 rfl (2 : Int32) rfl ?_
          refine W.callS (rest := [(.int ((own_dig b0 * (1000 : Int32)) + (own_dig b1 * (100 : Int32))))]) (argsL := [(.ref a), (.int (0 : Int32)), (.int (4 : Int32)), (.int (2 : Int32))]) 64 d_method_8_61 rfl (fun hn => (c_termY l Z a0 hw a (0 : Int32) (4 : Int32) (2 : Int32) b2 _ 2 _ n0 hn A (by decide) (by decide) (by decide) rfl).post (P := fun r h' => r = some (.int (own_dig b2 * (10 : Int32))) ∧ h' = _) (fun v h' q => q)) (wd_18 hw) (wd_19 hw) (wd_3 hw) (wd_20 hw) (by decide) pd_3 rfl rfl rfl (by decide) 1 (Nat.le_of_ble_eq_true rfl) (by decide) (by decide) (by decide) ?_
          rintro v1080 h1080 ⟨rfl, rfl⟩
          show W _ _ _ _ _ _ _ _ _ _ _ 0 0 64 #[.val (.ref a), .val (.int (0 : Int32)), .val (.int (4 : Int32))] [(.int (own_dig b2 * (10 : Int32))), (.int ((own_dig b0 * (1000 : Int32)) + (own_dig b1 * (100 : Int32))))]
          refine W.iadd 65 d_method_8_64 rfl (((own_dig b0 * (1000 : Int32)) + (own_dig b1 * (100 : Int32))) + (own_dig b2 * (10 : Int32))) rfl ?_
          refine W.aloadN 66 d_method_8_65 rfl rfl rfl ?_
          refine W.iloadN 67 d_method_8_66 rfl rfl ?_
          refine W.iloadN 68 d_method_8_67 rfl rfl ?_
          refine W.iconst 69 d_method_8_68 rfl (3 : Int32) rfl ?_
          refine W.callS (rest := [(.int (((own_dig b0 * (1000 : Int32)) + (own_dig b1 * (100 : Int32))) + (own_dig b2 * (10 : Int32))))]) (argsL := [(.ref a), (.int (0 : Int32)), (.int (4 : Int32)), (.int (3 : Int32))]) 72 d_method_8_69 rfl (fun hn => (c_termY l Z a0 hw a (0 : Int32) (4 : Int32) (3 : Int32) b3 _ 3 _ n0 hn A (by decide) (by decide) (by decide) rfl).post (P := fun r h' => r = some (.int (own_dig b3 * (1 : Int32))) ∧ h' = _) (fun v h' q => q)) (wd_18 hw) (wd_19 hw) (wd_3 hw) (wd_20 hw) (by decide) pd_3 rfl rfl rfl (by decide) 1 (Nat.le_of_ble_eq_true rfl) (by decide) (by decide) (by decide) ?_
          rintro v1081 h1081 ⟨rfl, rfl⟩
          show W _ _ _ _ _ _ _ _ _ _ _ 0 0 72 #[.val (.ref a), .val (.int (0 : Int32)), .val (.int (4 : Int32))] [(.int (own_dig b3 * (1 : Int32))), (.int (((own_dig b0 * (1000 : Int32)) + (own_dig b1 * (100 : Int32))) + (own_dig b2 * (10 : Int32))))]
          refine W.iadd 73 d_method_8_72 rfl ((((own_dig b0 * (1000 : Int32)) + (own_dig b1 * (100 : Int32))) + (own_dig b2 * (10 : Int32))) + (own_dig b3 * (1 : Int32))) rfl ?_
          exact W.ireturn d_method_8_73 rfl ⟨by congr 2; symm; simp only [own_step _ _ _ hb0, own_step _ _ _ hb1, own_step _ _ _ hb2, own_step _ _ _ hb3, hc1071, hc1073, hc1075, hc1077, own_go_nil, if_true]; exact own_d4 _ _ _ _, rfl⟩ (by decide) (by decide)
        · intro hc1077
          refine W.iconst 41 d_method_8_40 rfl (-1 : Int32) rfl ?_
          exact W.ireturn d_method_8_41 rfl ⟨by congr 2; symm; simp [own_step _ _ _ hb0, own_step _ _ _ hb1, own_step _ _ _ hb2, own_step _ _ _ hb3, hc1071, hc1073, hc1075, hc1077], rfl⟩ (by decide) (by decide)
set_option maxRecDepth 65536 in
set_option maxHeartbeats 40000000 in
theorem c_ds10 (l : Launch) (Z : State) (a0 : Array Value) (hw : ∀ d ∈ tables_1, d.before a0 Z = true) (a : Addr) (b0 b1 b2 b3 b4 : Int32) (h : Heap) (n0 : Nat) (hn : n0 ≤ h.size) (A : Ary Z h a .byte [(.int b0), (.int b1), (.int b2), (.int b3), (.int b4)]) (hb0 : own_B b0) (hb1 : own_B b1) (hb2 : own_B b2) (hb3 : own_B b3) (hb4 : own_B b4) : Con l Z (⟨"com/example/tallymark/tallymark/InputTimes", "digits", "([BII)I"⟩ : MethodName) prog_58_method_6_code 6 (some .int) ({ frames := 0, cells := 0, slots := 0, locals := 0 } : Room) #[(.ref a), (.int (1 : Int32)), (.int (0 : Int32))] h n0 (fun r h' => r = some (.int (own_go 0 [])) ∧ h' = h) := by
  refine ConW.of_W (Ls := #[.val (.ref a), .val (.int (1 : Int32)), .val (.int (0 : Int32)), .unset, .unset, .unset]) (plainFor_of_name pn_1) hn (fun m => by first | (simp [entryFrame, mkF, argsToLocals, Value.category]; done) | rfl) ?_
  refine W.iconst 1 d_prog_58_method_6_0 rfl (0 : Int32) rfl ?_
  refine W.istoreN 2 d_prog_58_method_6_1 rfl #[.val (.ref a), .val (.int (1 : Int32)), .val (.int (0 : Int32)), .val (.int (0 : Int32)), .unset, .unset] rfl ?_
  refine W.iloadN 3 d_prog_58_method_6_2 rfl rfl ?_
  refine W.istore 5 d_prog_58_method_6_3 rfl #[.val (.ref a), .val (.int (1 : Int32)), .val (.int (0 : Int32)), .val (.int (0 : Int32)), .val (.int (1 : Int32)), .unset] rfl ?_
  refine W.iload 7 d_prog_58_method_6_5 rfl rfl ?_
  refine W.iloadN 8 d_prog_58_method_6_7 rfl rfl ?_
  refine W.iloadN 9 d_prog_58_method_6_8 rfl rfl ?_
  refine W.iadd 10 d_prog_58_method_6_9 rfl (1 : Int32) (by decide) ?_
  refine W.icmp_ge 50 13 d_prog_58_method_6_10 rfl rfl (fun _ => ?_) (fun hc => absurd hc (by decide))
  refine W.iloadN 51 d_prog_58_method_6_50 rfl rfl ?_
  exact W.ireturn d_prog_58_method_6_51 rfl ⟨by simp only [own_go_nil], rfl⟩ (by decide) (by decide)
set_option maxRecDepth 65536 in
set_option maxHeartbeats 40000000 in
theorem c_ref10 (l : Launch) (Z : State) (a0 : Array Value) (hw : ∀ d ∈ tables_1, d.before a0 Z = true) (a : Addr) (b0 b1 b2 b3 b4 : Int32) (h : Heap) (n0 : Nat) (hn : n0 ≤ h.size) (A : Ary Z h a .byte [(.int b0), (.int b1), (.int b2), (.int b3), (.int b4)]) (hb0 : own_B b0) (hb1 : own_B b1) (hb2 : own_B b2) (hb3 : own_B b3) (hb4 : own_B b4) : Con l Z (⟨"com/example/tallymark/tallymark/InputTimesDigitsPinLaw", "ref", "([BII)I"⟩ : MethodName) method_8_code 3 (some .int) ({ frames := 2, cells := 0, slots := 0, locals := 60 } : Room) #[(.ref a), (.int (1 : Int32)), (.int (0 : Int32))] h n0 (fun r h' => r = some (.int (own_go 0 [])) ∧ h' = h) := by
  refine ConW.of_W (Ls := #[.val (.ref a), .val (.int (1 : Int32)), .val (.int (0 : Int32))]) (plainFor_of_name pn_0) hn (fun m => by first | (simp [entryFrame, mkF, argsToLocals, Value.category]; done) | rfl) ?_
  refine W.aloadN 1 d_method_8_0 rfl rfl rfl ?_
  refine W.iloadN 2 d_method_8_1 rfl rfl ?_
  refine W.iloadN 3 d_method_8_2 rfl rfl ?_
  refine W.iconst 4 d_method_8_3 rfl (0 : Int32) rfl ?_
  refine W.callS (rest := []) (argsL := [(.ref a), (.int (1 : Int32)), (.int (0 : Int32)), (.int (0 : Int32))]) 7 d_method_8_4 rfl (fun hn => c_badN l Z a0 hw a (1 : Int32) (0 : Int32) (0 : Int32) _ n0 hn (by decide)) (wd_12 hw) (wd_13 hw) (wd_3 hw) (wd_14 hw) (by decide) pd_2 rfl rfl rfl (by decide) 0 (Nat.le_of_ble_eq_true rfl) (by decide) (by decide) (by decide) ?_
  rintro v1082 h1082 ⟨rfl, rfl⟩
  show W _ _ _ _ _ _ _ _ _ _ _ 0 0 7 #[.val (.ref a), .val (.int (1 : Int32)), .val (.int (0 : Int32))] [(.int (0 : Int32))]
  refine W.if_ne 40 10 d_method_8_7 rfl rfl (fun hc => absurd (by decide) hc) (fun _ => ?_)
  refine W.aloadN 11 d_method_8_10 rfl rfl rfl ?_
  refine W.iloadN 12 d_method_8_11 rfl rfl ?_
  refine W.iloadN 13 d_method_8_12 rfl rfl ?_
  refine W.iconst 14 d_method_8_13 rfl (1 : Int32) rfl ?_
  refine W.callS (rest := []) (argsL := [(.ref a), (.int (1 : Int32)), (.int (0 : Int32)), (.int (1 : Int32))]) 17 d_method_8_14 rfl (fun hn => c_badN l Z a0 hw a (1 : Int32) (0 : Int32) (1 : Int32) _ n0 hn (by decide)) (wd_12 hw) (wd_13 hw) (wd_3 hw) (wd_14 hw) (by decide) pd_2 rfl rfl rfl (by decide) 0 (Nat.le_of_ble_eq_true rfl) (by decide) (by decide) (by decide) ?_
  rintro v1083 h1083 ⟨rfl, rfl⟩
  show W _ _ _ _ _ _ _ _ _ _ _ 0 0 17 #[.val (.ref a), .val (.int (1 : Int32)), .val (.int (0 : Int32))] [(.int (0 : Int32))]
  refine W.if_ne 40 20 d_method_8_17 rfl rfl (fun hc => absurd (by decide) hc) (fun _ => ?_)
  refine W.aloadN 21 d_method_8_20 rfl rfl rfl ?_
  refine W.iloadN 22 d_method_8_21 rfl rfl ?_
  refine W.iloadN 23 d_method_8_22 rfl rfl ?_
  refine W.iconst 24 d_method_8_23 rfl (2 : Int32) rfl ?_
  refine W.callS (rest := []) (argsL := [(.ref a), (.int (1 : Int32)), (.int (0 : Int32)), (.int (2 : Int32))]) 27 d_method_8_24 rfl (fun hn => c_badN l Z a0 hw a (1 : Int32) (0 : Int32) (2 : Int32) _ n0 hn (by decide)) (wd_12 hw) (wd_13 hw) (wd_3 hw) (wd_14 hw) (by decide) pd_2 rfl rfl rfl (by decide) 0 (Nat.le_of_ble_eq_true rfl) (by decide) (by decide) (by decide) ?_
  rintro v1084 h1084 ⟨rfl, rfl⟩
  show W _ _ _ _ _ _ _ _ _ _ _ 0 0 27 #[.val (.ref a), .val (.int (1 : Int32)), .val (.int (0 : Int32))] [(.int (0 : Int32))]
  refine W.if_ne 40 30 d_method_8_27 rfl rfl (fun hc => absurd (by decide) hc) (fun _ => ?_)
  refine W.aloadN 31 d_method_8_30 rfl rfl rfl ?_
  refine W.iloadN 32 d_method_8_31 rfl rfl ?_
  refine W.iloadN 33 d_method_8_32 rfl rfl ?_
  refine W.iconst 34 d_method_8_33 rfl (3 : Int32) rfl ?_
  refine W.callS (rest := []) (argsL := [(.ref a), (.int (1 : Int32)), (.int (0 : Int32)), (.int (3 : Int32))]) 37 d_method_8_34 rfl (fun hn => c_badN l Z a0 hw a (1 : Int32) (0 : Int32) (3 : Int32) _ n0 hn (by decide)) (wd_12 hw) (wd_13 hw) (wd_3 hw) (wd_14 hw) (by decide) pd_2 rfl rfl rfl (by decide) 0 (Nat.le_of_ble_eq_true rfl) (by decide) (by decide) (by decide) ?_
  rintro v1085 h1085 ⟨rfl, rfl⟩
  show W _ _ _ _ _ _ _ _ _ _ _ 0 0 37 #[.val (.ref a), .val (.int (1 : Int32)), .val (.int (0 : Int32))] [(.int (0 : Int32))]
  refine W.if_eq 42 40 d_method_8_37 rfl rfl (fun _ => ?_) (fun hc => absurd (by decide) hc)
  refine W.aloadN 43 d_method_8_42 rfl rfl rfl ?_
  refine W.iloadN 44 d_method_8_43 rfl rfl ?_
  refine W.iloadN 45 d_method_8_44 rfl rfl ?_
  refine W.iconst 46 d_method_8_45 rfl (0 : Int32) rfl ?_
  refine W.callS (rest := []) (argsL := [(.ref a), (.int (1 : Int32)), (.int (0 : Int32)), (.int (0 : Int32))]) 49 d_method_8_46 rfl (fun hn => c_termN l Z a0 hw a (1 : Int32) (0 : Int32) (0 : Int32) _ n0 hn (by decide)) (wd_18 hw) (wd_19 hw) (wd_3 hw) (wd_20 hw) (by decide) pd_3 rfl rfl rfl (by decide) 0 (Nat.le_of_ble_eq_true rfl) (by decide) (by decide) (by decide) ?_
  rintro v1086 h1086 ⟨rfl, rfl⟩
  show W _ _ _ _ _ _ _ _ _ _ _ 0 0 49 #[.val (.ref a), .val (.int (1 : Int32)), .val (.int (0 : Int32))] [(.int (0 : Int32))]
  refine W.aloadN 50 d_method_8_49 rfl rfl rfl ?_
  refine W.iloadN 51 d_method_8_50 rfl rfl ?_
  refine W.iloadN 52 d_method_8_51 rfl rfl ?_
  refine W.iconst 53 d_method_8_52 rfl (1 : Int32) rfl ?_
  refine W.callS (rest := [(.int (0 : Int32))]) (argsL := [(.ref a), (.int (1 : Int32)), (.int (0 : Int32)), (.int (1 : Int32))]) 56 d_method_8_53 rfl (fun hn => c_termN l Z a0 hw a (1 : Int32) (0 : Int32) (1 : Int32) _ n0 hn (by decide)) (wd_18 hw) (wd_19 hw) (wd_3 hw) (wd_20 hw) (by decide) pd_3 rfl rfl rfl (by decide) 1 (Nat.le_of_ble_eq_true rfl) (by decide) (by decide) (by decide) ?_
  rintro v1087 h1087 ⟨rfl, rfl⟩
  show W _ _ _ _ _ _ _ _ _ _ _ 0 0 56 #[.val (.ref a), .val (.int (1 : Int32)), .val (.int (0 : Int32))] [(.int (0 : Int32)), (.int (0 : Int32))]
  refine W.iadd 57 d_method_8_56 rfl (0 : Int32) (by decide) ?_
  refine W.aloadN 58 d_method_8_57 rfl rfl rfl ?_
  refine W.iloadN 59 d_method_8_58 rfl rfl ?_
  refine W.iloadN 60 d_method_8_59 rfl rfl ?_
  refine W.iconst 61 d_method_8_60 rfl (2 : Int32) rfl ?_
  refine W.callS (rest := [(.int (0 : Int32))]) (argsL := [(.ref a), (.int (1 : Int32)), (.int (0 : Int32)), (.int (2 : Int32))]) 64 d_method_8_61 rfl (fun hn => c_termN l Z a0 hw a (1 : Int32) (0 : Int32) (2 : Int32) _ n0 hn (by decide)) (wd_18 hw) (wd_19 hw) (wd_3 hw) (wd_20 hw) (by decide) pd_3 rfl rfl rfl (by decide) 1 (Nat.le_of_ble_eq_true rfl) (by decide) (by decide) (by decide) ?_
  rintro v1088 h1088 ⟨rfl, rfl⟩
  show W _ _ _ _ _ _ _ _ _ _ _ 0 0 64 #[.val (.ref a), .val (.int (1 : Int32)), .val (.int (0 : Int32))] [(.int (0 : Int32)), (.int (0 : Int32))]
  refine W.iadd 65 d_method_8_64 rfl (0 : Int32) (by decide) ?_
  refine W.aloadN 66 d_method_8_65 rfl rfl rfl ?_
  refine W.iloadN 67 d_method_8_66 rfl rfl ?_
  refine W.iloadN 68 d_method_8_67 rfl rfl ?_
  refine W.iconst 69 d_method_8_68 rfl (3 : Int32) rfl ?_
  refine W.callS (rest := [(.int (0 : Int32))]) (argsL := [(.ref a), (.int (1 : Int32)), (.int (0 : Int32)), (.int (3 : Int32))]) 72 d_method_8_69 rfl (fun hn => c_termN l Z a0 hw a (1 : Int32) (0 : Int32) (3 : Int32) _ n0 hn (by decide)) (wd_18 hw) (wd_19 hw) (wd_3 hw) (wd_20 hw) (by decide) pd_3 rfl rfl rfl (by decide) 1 (Nat.le_of_ble_eq_true rfl) (by decide) (by decide) (by decide) ?_
  rintro v1089 h1089 ⟨rfl, rfl⟩
  show W _ _ _ _ _ _ _ _ _ _ _ 0 0 72 #[.val (.ref a), .val (.int (1 : Int32)), .val (.int (0 : Int32))] [(.int (0 : Int32)), (.int (0 : Int32))]
  refine W.iadd 73 d_method_8_72 rfl (0 : Int32) (by decide) ?_
  exact W.ireturn d_method_8_73 rfl ⟨rfl, rfl⟩ (by decide) (by decide)
set_option maxRecDepth 65536 in
set_option maxHeartbeats 40000000 in
theorem c_ds11 (l : Launch) (Z : State) (a0 : Array Value) (hw : ∀ d ∈ tables_1, d.before a0 Z = true) (a : Addr) (b0 b1 b2 b3 b4 : Int32) (h : Heap) (n0 : Nat) (hn : n0 ≤ h.size) (A : Ary Z h a .byte [(.int b0), (.int b1), (.int b2), (.int b3), (.int b4)]) (hb0 : own_B b0) (hb1 : own_B b1) (hb2 : own_B b2) (hb3 : own_B b3) (hb4 : own_B b4) : Con l Z (⟨"com/example/tallymark/tallymark/InputTimes", "digits", "([BII)I"⟩ : MethodName) prog_58_method_6_code 6 (some .int) ({ frames := 0, cells := 0, slots := 0, locals := 0 } : Room) #[(.ref a), (.int (1 : Int32)), (.int (1 : Int32))] h n0 (fun r h' => r = some (.int (own_go 0 [b1])) ∧ h' = h) := by
  refine ConW.of_W (Ls := #[.val (.ref a), .val (.int (1 : Int32)), .val (.int (1 : Int32)), .unset, .unset, .unset]) (plainFor_of_name pn_1) hn (fun m => by first | (simp [entryFrame, mkF, argsToLocals, Value.category]; done) | rfl) ?_
  refine W.iconst 1 d_prog_58_method_6_0 rfl (0 : Int32) rfl ?_
  refine W.istoreN 2 d_prog_58_method_6_1 rfl #[.val (.ref a), .val (.int (1 : Int32)), .val (.int (1 : Int32)), .val (.int (0 : Int32)), .unset, .unset] rfl ?_
  refine W.iloadN 3 d_prog_58_method_6_2 rfl rfl ?_
  refine W.istore 5 d_prog_58_method_6_3 rfl #[.val (.ref a), .val (.int (1 : Int32)), .val (.int (1 : Int32)), .val (.int (0 : Int32)), .val (.int (1 : Int32)), .unset] rfl ?_
  refine W.iload 7 d_prog_58_method_6_5 rfl rfl ?_
  refine W.iloadN 8 d_prog_58_method_6_7 rfl rfl ?_
  refine W.iloadN 9 d_prog_58_method_6_8 rfl rfl ?_
  refine W.iadd 10 d_prog_58_method_6_9 rfl (2 : Int32) (by decide) ?_
  refine W.icmp_ge 50 13 d_prog_58_method_6_10 rfl rfl (fun hc => absurd (by decide) hc) (fun _ => ?_)
  refine W.aloadN 14 d_prog_58_method_6_13 rfl rfl rfl ?_
  refine W.iload 16 d_prog_58_method_6_14 rfl rfl ?_
  refine W.baload 17 d_prog_58_method_6_16 rfl A 1 (by decide) (by decide) (.int b1) rfl ?_
  refine W.bipush 19 d_prog_58_method_6_17 rfl (48 : Int32) rfl ?_
  refine W.isub 20 d_prog_58_method_6_19 rfl (b1 - (48 : Int32)) rfl ?_
  refine W.istore 22 d_prog_58_method_6_20 rfl #[.val (.ref a), .val (.int (1 : Int32)), .val (.int (1 : Int32)), .val (.int (0 : Int32)), .val (.int (1 : Int32)), .val (.int (b1 - (48 : Int32)))] rfl ?_
  refine W.iload 24 d_prog_58_method_6_22 rfl rfl ?_
  refine W.if_lt 34 27 d_prog_58_method_6_24 rfl rfl ?_ ?_
  · intro hc1090
    refine W.iconst 35 d_prog_58_method_6_34 rfl (-1 : Int32) rfl ?_
    exact W.ireturn d_prog_58_method_6_35 rfl ⟨by simp only [own_go_nil, own_go_cons, own_mz, hc1090, if_true, if_false], rfl⟩ (by decide) (by decide)
  · intro hc1090
    refine W.iload 29 d_prog_58_method_6_27 rfl rfl ?_
    refine W.bipush 31 d_prog_58_method_6_29 rfl (9 : Int32) rfl ?_
    refine W.icmp_le 36 34 d_prog_58_method_6_31 rfl rfl ?_ ?_
    · intro hc1091
      refine W.bipush 38 d_prog_58_method_6_36 rfl (10 : Int32) rfl ?_
      refine W.iloadN 39 d_prog_58_method_6_38 rfl rfl ?_
      refine W.imul 40 d_prog_58_method_6_39 rfl (0 : Int32) (by decide) ?_
      refine W.iload 42 d_prog_58_method_6_40 rfl rfl ?_
      refine W.iadd 43 d_prog_58_method_6_42 rfl ((0 : Int32) + (b1 - (48 : Int32))) rfl ?_
      refine W.istoreN 44 d_prog_58_method_6_43 rfl #[.val (.ref a), .val (.int (1 : Int32)), .val (.int (1 : Int32)), .val (.int ((0 : Int32) + (b1 - (48 : Int32)))), .val (.int (1 : Int32)), .val (.int (b1 - (48 : Int32)))] rfl ?_
      refine W.iinc 47 d_prog_58_method_6_44 rfl rfl (2 : Int32) (by decide) #[.val (.ref a), .val (.int (1 : Int32)), .val (.int (1 : Int32)), .val (.int ((0 : Int32) + (b1 - (48 : Int32)))), .val (.int (2 : Int32)), .val (.int (b1 - (48 : Int32)))] rfl ?_
      refine W.goto 5 d_prog_58_method_6_47 rfl ?_
      refine W.iload 7 d_prog_58_method_6_5 rfl rfl ?_
      refine W.iloadN 8 d_prog_58_method_6_7 rfl rfl ?_
      refine W.iloadN 9 d_prog_58_method_6_8 rfl rfl ?_
      refine W.iadd 10 d_prog_58_method_6_9 rfl (2 : Int32) (by decide) ?_
      refine W.icmp_ge 50 13 d_prog_58_method_6_10 rfl rfl (fun _ => ?_) (fun hc => absurd hc (by decide))
      refine W.iloadN 51 d_prog_58_method_6_50 rfl rfl ?_
      exact W.ireturn d_prog_58_method_6_51 rfl ⟨by simp only [own_go_nil, own_go_cons, own_mz, hc1090, hc1091, if_true, if_false], rfl⟩ (by decide) (by decide)
    · intro hc1091
      refine W.iconst 35 d_prog_58_method_6_34 rfl (-1 : Int32) rfl ?_
      exact W.ireturn d_prog_58_method_6_35 rfl ⟨by simp only [own_go_nil, own_go_cons, own_mz, hc1090, hc1091, if_true, if_false], rfl⟩ (by decide) (by decide)
set_option maxRecDepth 65536 in
set_option maxHeartbeats 40000000 in
theorem c_ref11 (l : Launch) (Z : State) (a0 : Array Value) (hw : ∀ d ∈ tables_1, d.before a0 Z = true) (a : Addr) (b0 b1 b2 b3 b4 : Int32) (h : Heap) (n0 : Nat) (hn : n0 ≤ h.size) (A : Ary Z h a .byte [(.int b0), (.int b1), (.int b2), (.int b3), (.int b4)]) (hb0 : own_B b0) (hb1 : own_B b1) (hb2 : own_B b2) (hb3 : own_B b3) (hb4 : own_B b4) : Con l Z (⟨"com/example/tallymark/tallymark/InputTimesDigitsPinLaw", "ref", "([BII)I"⟩ : MethodName) method_8_code 3 (some .int) ({ frames := 2, cells := 0, slots := 0, locals := 60 } : Room) #[(.ref a), (.int (1 : Int32)), (.int (1 : Int32))] h n0 (fun r h' => r = some (.int (own_go 0 [b1])) ∧ h' = h) := by
  refine ConW.of_W (Ls := #[.val (.ref a), .val (.int (1 : Int32)), .val (.int (1 : Int32))]) (plainFor_of_name pn_0) hn (fun m => by first | (simp [entryFrame, mkF, argsToLocals, Value.category]; done) | rfl) ?_
  refine W.aloadN 1 d_method_8_0 rfl rfl rfl ?_
  refine W.iloadN 2 d_method_8_1 rfl rfl ?_
  refine W.iloadN 3 d_method_8_2 rfl rfl ?_
  refine W.iconst 4 d_method_8_3 rfl (0 : Int32) rfl ?_
  refine W.callS (rest := []) (argsL := [(.ref a), (.int (1 : Int32)), (.int (1 : Int32)), (.int (0 : Int32))]) 7 d_method_8_4 rfl (fun hn => (c_badY l Z a0 hw a (1 : Int32) (1 : Int32) (0 : Int32) b1 _ 1 _ n0 hn A (by decide) (by decide) (by decide) rfl).post (P := fun r h' => r = some (.int (own_bad b1)) ∧ h' = _) (fun v h' q => q)) (wd_12 hw) (wd_13 hw) (wd_3 hw) (wd_14 hw) (by decide) pd_2 rfl rfl rfl (by decide) 0 (Nat.le_of_ble_eq_true rfl) (by decide) (by decide) (by decide) ?_
  rintro v1092 h1092 ⟨rfl, rfl⟩
  show W _ _ _ _ _ _ _ _ _ _ _ 0 0 7 #[.val (.ref a), .val (.int (1 : Int32)), .val (.int (1 : Int32))] [(.int (own_bad b1))]
  refine W.if_ne 40 10 d_method_8_7 rfl rfl ?_ ?_
  · intro hc1093
    refine W.iconst 41 d_method_8_40 rfl (-1 : Int32) rfl ?_
    exact W.ireturn d_method_8_41 rfl ⟨by congr 2; symm; simp [own_step _ _ _ hb1, hc1093], rfl⟩ (by decide) (by decide)
  · intro hc1093
    refine W.aloadN 11 d_method_8_10 rfl rfl rfl ?_
    refine W.iloadN 12 d_method_8_11 rfl rfl ?_
    refine W.iloadN 13 d_method_8_12 rfl rfl ?_
    refine W.iconst 14 d_method_8_13 rfl (1 : Int32) rfl ?_
    refine W.callS (rest := []) (argsL := [(.ref a), (.int (1 : Int32)), (.int (1 : Int32)), (.int (1 : Int32))]) 17 d_method_8_14 rfl (fun hn => c_badN l Z a0 hw a (1 : Int32) (1 : Int32) (1 : Int32) _ n0 hn (by decide)) (wd_12 hw) (wd_13 hw) (wd_3 hw) (wd_14 hw) (by decide) pd_2 rfl rfl rfl (by decide) 0 (Nat.le_of_ble_eq_true rfl) (by decide) (by decide) (by decide) ?_
    rintro v1094 h1094 ⟨rfl, rfl⟩
    show W _ _ _ _ _ _ _ _ _ _ _ 0 0 17 #[.val (.ref a), .val (.int (1 : Int32)), .val (.int (1 : Int32))] [(.int (0 : Int32))]
    refine W.if_ne 40 20 d_method_8_17 rfl rfl (fun hc => absurd (by decide) hc) (fun _ => ?_)
    refine W.aloadN 21 d_method_8_20 rfl rfl rfl ?_
    refine W.iloadN 22 d_method_8_21 rfl rfl ?_
    refine W.iloadN 23 d_method_8_22 rfl rfl ?_
    refine W.iconst 24 d_method_8_23 rfl (2 : Int32) rfl ?_
    refine W.callS (rest := []) (argsL := [(.ref a), (.int (1 : Int32)), (.int (1 : Int32)), (.int (2 : Int32))]) 27 d_method_8_24 rfl (fun hn => c_badN l Z a0 hw a (1 : Int32) (1 : Int32) (2 : Int32) _ n0 hn (by decide)) (wd_12 hw) (wd_13 hw) (wd_3 hw) (wd_14 hw) (by decide) pd_2 rfl rfl rfl (by decide) 0 (Nat.le_of_ble_eq_true rfl) (by decide) (by decide) (by decide) ?_
    rintro v1095 h1095 ⟨rfl, rfl⟩
    show W _ _ _ _ _ _ _ _ _ _ _ 0 0 27 #[.val (.ref a), .val (.int (1 : Int32)), .val (.int (1 : Int32))] [(.int (0 : Int32))]
    refine W.if_ne 40 30 d_method_8_27 rfl rfl (fun hc => absurd (by decide) hc) (fun _ => ?_)
    refine W.aloadN 31 d_method_8_30 rfl rfl rfl ?_
    refine W.iloadN 32 d_method_8_31 rfl rfl ?_
    refine W.iloadN 33 d_method_8_32 rfl rfl ?_
    refine W.iconst 34 d_method_8_33 rfl (3 : Int32) rfl ?_
    refine W.callS (rest := []) (argsL := [(.ref a), (.int (1 : Int32)), (.int (1 : Int32)), (.int (3 : Int32))]) 37 d_method_8_34 rfl (fun hn => c_badN l Z a0 hw a (1 : Int32) (1 : Int32) (3 : Int32) _ n0 hn (by decide)) (wd_12 hw) (wd_13 hw) (wd_3 hw) (wd_14 hw) (by decide) pd_2 rfl rfl rfl (by decide) 0 (Nat.le_of_ble_eq_true rfl) (by decide) (by decide) (by decide) ?_
    rintro v1096 h1096 ⟨rfl, rfl⟩
    show W _ _ _ _ _ _ _ _ _ _ _ 0 0 37 #[.val (.ref a), .val (.int (1 : Int32)), .val (.int (1 : Int32))] [(.int (0 : Int32))]
    refine W.if_eq 42 40 d_method_8_37 rfl rfl (fun _ => ?_) (fun hc => absurd (by decide) hc)
    refine W.aloadN 43 d_method_8_42 rfl rfl rfl ?_
    refine W.iloadN 44 d_method_8_43 rfl rfl ?_
    refine W.iloadN 45 d_method_8_44 rfl rfl ?_
    refine W.iconst 46 d_method_8_45 rfl (0 : Int32) rfl ?_
    refine W.callS (rest := []) (argsL := [(.ref a), (.int (1 : Int32)), (.int (1 : Int32)), (.int (0 : Int32))]) 49 d_method_8_46 rfl (fun hn => (c_termY l Z a0 hw a (1 : Int32) (1 : Int32) (0 : Int32) b1 _ 1 _ n0 hn A (by decide) (by decide) (by decide) rfl).post (P := fun r h' => r = some (.int (own_dig b1 * (1 : Int32))) ∧ h' = _) (fun v h' q => q)) (wd_18 hw) (wd_19 hw) (wd_3 hw) (wd_20 hw) (by decide) pd_3 rfl rfl rfl (by decide) 0 (Nat.le_of_ble_eq_true rfl) (by decide) (by decide) (by decide) ?_
    rintro v1097 h1097 ⟨rfl, rfl⟩
    show W _ _ _ _ _ _ _ _ _ _ _ 0 0 49 #[.val (.ref a), .val (.int (1 : Int32)), .val (.int (1 : Int32))] [(.int (own_dig b1 * (1 : Int32)))]
    refine W.aloadN 50 d_method_8_49 rfl rfl rfl ?_
    refine W.iloadN 51 d_method_8_50 rfl rfl ?_
    refine W.iloadN 52 d_method_8_51 rfl rfl ?_
    refine W.iconst 53 d_method_8_52 rfl (1 : Int32) rfl ?_
    refine W.callS (rest := [(.int (own_dig b1 * (1 : Int32)))]) (argsL := [(.ref a), (.int (1 : Int32)), (.int (1 : Int32)), (.int (1 : Int32))]) 56 d_method_8_53 rfl (fun hn => c_termN l Z a0 hw a (1 : Int32) (1 : Int32) (1 : Int32) _ n0 hn (by decide)) (wd_18 hw) (wd_19 hw) (wd_3 hw) (wd_20 hw) (by decide) pd_3 rfl rfl rfl (by decide) 1 (Nat.le_of_ble_eq_true rfl) (by decide) (by decide) (by decide) ?_
    rintro v1098 h1098 ⟨rfl, rfl⟩
    show W _ _ _ _ _ _ _ _ _ _ _ 0 0 56 #[.val (.ref a), .val (.int (1 : Int32)), .val (.int (1 : Int32))] [(.int (0 : Int32)), (.int (own_dig b1 * (1 : Int32)))]
    refine W.iadd 57 d_method_8_56 rfl ((own_dig b1 * (1 : Int32)) + (0 : Int32)) rfl ?_
    refine W.aloadN 58 d_method_8_57 rfl rfl rfl ?_
    refine W.iloadN 59 d_method_8_58 rfl rfl ?_
    refine W.iloadN 60 d_method_8_59 rfl rfl ?_
    refine W.iconst 61 d_method_8_60 rfl (2 : Int32) rfl ?_
    refine W.callS (rest := [(.int ((own_dig b1 * (1 : Int32)) + (0 : Int32)))]) (argsL := [(.ref a), (.int (1 : Int32)), (.int (1 : Int32)), (.int (2 : Int32))]) 64 d_method_8_61 rfl (fun hn => c_termN l Z a0 hw a (1 : Int32) (1 : Int32) (2 : Int32) _ n0 hn (by decide)) (wd_18 hw) (wd_19 hw) (wd_3 hw) (wd_20 hw) (by decide) pd_3 rfl rfl rfl (by decide) 1 (Nat.le_of_ble_eq_true rfl) (by decide) (by decide) (by decide) ?_
    rintro v1099 h1099 ⟨rfl, rfl⟩
    show W _ _ _ _ _ _ _ _ _ _ _ 0 0 64 #[.val (.ref a), .val (.int (1 : Int32)), .val (.int (1 : Int32))] [(.int (0 : Int32)), (.int ((own_dig b1 * (1 : Int32)) + (0 : Int32)))]
    refine W.iadd 65 d_method_8_64 rfl (((own_dig b1 * (1 : Int32)) + (0 : Int32)) + (0 : Int32)) rfl ?_
    refine W.aloadN 66 d_method_8_65 rfl rfl rfl ?_
    refine W.iloadN 67 d_method_8_66 rfl rfl ?_
    refine W.iloadN 68 d_method_8_67 rfl rfl ?_
    refine W.iconst 69 d_method_8_68 rfl (3 : Int32) rfl ?_
    refine W.callS (rest := [(.int (((own_dig b1 * (1 : Int32)) + (0 : Int32)) + (0 : Int32)))]) (argsL := [(.ref a), (.int (1 : Int32)), (.int (1 : Int32)), (.int (3 : Int32))]) 72 d_method_8_69 rfl (fun hn => c_termN l Z a0 hw a (1 : Int32) (1 : Int32) (3 : Int32) _ n0 hn (by decide)) (wd_18 hw) (wd_19 hw) (wd_3 hw) (wd_20 hw) (by decide) pd_3 rfl rfl rfl (by decide) 1 (Nat.le_of_ble_eq_true rfl) (by decide) (by decide) (by decide) ?_
    rintro v1100 h1100 ⟨rfl, rfl⟩
    show W _ _ _ _ _ _ _ _ _ _ _ 0 0 72 #[.val (.ref a), .val (.int (1 : Int32)), .val (.int (1 : Int32))] [(.int (0 : Int32)), (.int (((own_dig b1 * (1 : Int32)) + (0 : Int32)) + (0 : Int32)))]
    refine W.iadd 73 d_method_8_72 rfl ((((own_dig b1 * (1 : Int32)) + (0 : Int32)) + (0 : Int32)) + (0 : Int32)) rfl ?_
    exact W.ireturn d_method_8_73 rfl ⟨by congr 2; symm; simp only [own_step _ _ _ hb1, hc1093, own_go_nil, if_true]; exact own_d1 _, rfl⟩ (by decide) (by decide)
set_option maxRecDepth 65536 in
set_option maxHeartbeats 40000000 in
theorem c_ds12 (l : Launch) (Z : State) (a0 : Array Value) (hw : ∀ d ∈ tables_1, d.before a0 Z = true) (a : Addr) (b0 b1 b2 b3 b4 : Int32) (h : Heap) (n0 : Nat) (hn : n0 ≤ h.size) (A : Ary Z h a .byte [(.int b0), (.int b1), (.int b2), (.int b3), (.int b4)]) (hb0 : own_B b0) (hb1 : own_B b1) (hb2 : own_B b2) (hb3 : own_B b3) (hb4 : own_B b4) : Con l Z (⟨"com/example/tallymark/tallymark/InputTimes", "digits", "([BII)I"⟩ : MethodName) prog_58_method_6_code 6 (some .int) ({ frames := 0, cells := 0, slots := 0, locals := 0 } : Room) #[(.ref a), (.int (1 : Int32)), (.int (2 : Int32))] h n0 (fun r h' => r = some (.int (own_go 0 [b1, b2])) ∧ h' = h) := by
  refine ConW.of_W (Ls := #[.val (.ref a), .val (.int (1 : Int32)), .val (.int (2 : Int32)), .unset, .unset, .unset]) (plainFor_of_name pn_1) hn (fun m => by first | (simp [entryFrame, mkF, argsToLocals, Value.category]; done) | rfl) ?_
  refine W.iconst 1 d_prog_58_method_6_0 rfl (0 : Int32) rfl ?_
  refine W.istoreN 2 d_prog_58_method_6_1 rfl #[.val (.ref a), .val (.int (1 : Int32)), .val (.int (2 : Int32)), .val (.int (0 : Int32)), .unset, .unset] rfl ?_
  refine W.iloadN 3 d_prog_58_method_6_2 rfl rfl ?_
  refine W.istore 5 d_prog_58_method_6_3 rfl #[.val (.ref a), .val (.int (1 : Int32)), .val (.int (2 : Int32)), .val (.int (0 : Int32)), .val (.int (1 : Int32)), .unset] rfl ?_
  refine W.iload 7 d_prog_58_method_6_5 rfl rfl ?_
  refine W.iloadN 8 d_prog_58_method_6_7 rfl rfl ?_
  refine W.iloadN 9 d_prog_58_method_6_8 rfl rfl ?_
  refine W.iadd 10 d_prog_58_method_6_9 rfl (3 : Int32) (by decide) ?_
  refine W.icmp_ge 50 13 d_prog_58_method_6_10 rfl rfl (fun hc => absurd (by decide) hc) (fun _ => ?_)
  refine W.aloadN 14 d_prog_58_method_6_13 rfl rfl rfl ?_
  refine W.iload 16 d_prog_58_method_6_14 rfl rfl ?_
  refine W.baload 17 d_prog_58_method_6_16 rfl A 1 (by decide) (by decide) (.int b1) rfl ?_
  refine W.bipush 19 d_prog_58_method_6_17 rfl (48 : Int32) rfl ?_
  refine W.isub 20 d_prog_58_method_6_19 rfl (b1 - (48 : Int32)) rfl ?_
  refine W.istore 22 d_prog_58_method_6_20 rfl #[.val (.ref a), .val (.int (1 : Int32)), .val (.int (2 : Int32)), .val (.int (0 : Int32)), .val (.int (1 : Int32)), .val (.int (b1 - (48 : Int32)))] rfl ?_
  refine W.iload 24 d_prog_58_method_6_22 rfl rfl ?_
  refine W.if_lt 34 27 d_prog_58_method_6_24 rfl rfl ?_ ?_
  · intro hc1101
    refine W.iconst 35 d_prog_58_method_6_34 rfl (-1 : Int32) rfl ?_
    exact W.ireturn d_prog_58_method_6_35 rfl ⟨by simp only [own_go_nil, own_go_cons, own_mz, hc1101, if_true, if_false], rfl⟩ (by decide) (by decide)
  · intro hc1101
    refine W.iload 29 d_prog_58_method_6_27 rfl rfl ?_
    refine W.bipush 31 d_prog_58_method_6_29 rfl (9 : Int32) rfl ?_
    refine W.icmp_le 36 34 d_prog_58_method_6_31 rfl rfl ?_ ?_
    · intro hc1102
      refine W.bipush 38 d_prog_58_method_6_36 rfl (10 : Int32) rfl ?_
      refine W.iloadN 39 d_prog_58_method_6_38 rfl rfl ?_
      refine W.imul 40 d_prog_58_method_6_39 rfl (0 : Int32) (by decide) ?_
      refine W.iload 42 d_prog_58_method_6_40 rfl rfl ?_
      refine W.iadd 43 d_prog_58_method_6_42 rfl ((0 : Int32) + (b1 - (48 : Int32))) rfl ?_
      refine W.istoreN 44 d_prog_58_method_6_43 rfl #[.val (.ref a), .val (.int (1 : Int32)), .val (.int (2 : Int32)), .val (.int ((0 : Int32) + (b1 - (48 : Int32)))), .val (.int (1 : Int32)), .val (.int (b1 - (48 : Int32)))] rfl ?_
      refine W.iinc 47 d_prog_58_method_6_44 rfl rfl (2 : Int32) (by decide) #[.val (.ref a), .val (.int (1 : Int32)), .val (.int (2 : Int32)), .val (.int ((0 : Int32) + (b1 - (48 : Int32)))), .val (.int (2 : Int32)), .val (.int (b1 - (48 : Int32)))] rfl ?_
      refine W.goto 5 d_prog_58_method_6_47 rfl ?_
      refine W.iload 7 d_prog_58_method_6_5 rfl rfl ?_
      refine W.iloadN 8 d_prog_58_method_6_7 rfl rfl ?_
      refine W.iloadN 9 d_prog_58_method_6_8 rfl rfl ?_
      refine W.iadd 10 d_prog_58_method_6_9 rfl (3 : Int32) (by decide) ?_
      refine W.icmp_ge 50 13 d_prog_58_method_6_10 rfl rfl (fun hc => absurd (by decide) hc) (fun _ => ?_)
      refine W.aloadN 14 d_prog_58_method_6_13 rfl rfl rfl ?_
      refine W.iload 16 d_prog_58_method_6_14 rfl rfl ?_
      refine W.baload 17 d_prog_58_method_6_16 rfl A 2 (by decide) (by decide) (.int b2) rfl ?_
      refine W.bipush 19 d_prog_58_method_6_17 rfl (48 : Int32) rfl ?_
      refine W.isub 20 d_prog_58_method_6_19 rfl (b2 - (48 : Int32)) rfl ?_
      refine W.istore 22 d_prog_58_method_6_20 rfl #[.val (.ref a), .val (.int (1 : Int32)), .val (.int (2 : Int32)), .val (.int ((0 : Int32) + (b1 - (48 : Int32)))), .val (.int (2 : Int32)), .val (.int (b2 - (48 : Int32)))] rfl ?_
      refine W.iload 24 d_prog_58_method_6_22 rfl rfl ?_
      refine W.if_lt 34 27 d_prog_58_method_6_24 rfl rfl ?_ ?_
      · intro hc1103
        refine W.iconst 35 d_prog_58_method_6_34 rfl (-1 : Int32) rfl ?_
        exact W.ireturn d_prog_58_method_6_35 rfl ⟨by simp only [own_go_nil, own_go_cons, own_mz, hc1101, hc1102, hc1103, if_true, if_false], rfl⟩ (by decide) (by decide)
      · intro hc1103
        refine W.iload 29 d_prog_58_method_6_27 rfl rfl ?_
        refine W.bipush 31 d_prog_58_method_6_29 rfl (9 : Int32) rfl ?_
        refine W.icmp_le 36 34 d_prog_58_method_6_31 rfl rfl ?_ ?_
        · intro hc1104
          refine W.bipush 38 d_prog_58_method_6_36 rfl (10 : Int32) rfl ?_
          refine W.iloadN 39 d_prog_58_method_6_38 rfl rfl ?_
          refine W.imul 40 d_prog_58_method_6_39 rfl ((10 : Int32) * ((0 : Int32) + (b1 - (48 : Int32)))) rfl ?_
          refine W.iload 42 d_prog_58_method_6_40 rfl rfl ?_
          refine W.iadd 43 d_prog_58_method_6_42 rfl (((10 : Int32) * ((0 : Int32) + (b1 - (48 : Int32)))) + (b2 - (48 : Int32))) rfl ?_
          refine W.istoreN 44 d_prog_58_method_6_43 rfl #[.val (.ref a), .val (.int (1 : Int32)), .val (.int (2 : Int32)), .val (.int (((10 : Int32) * ((0 : Int32) + (b1 - (48 : Int32)))) + (b2 - (48 : Int32)))), .val (.int (2 : Int32)), .val (.int (b2 - (48 : Int32)))] rfl ?_
          refine W.iinc 47 d_prog_58_method_6_44 rfl rfl (3 : Int32) (by decide) #[.val (.ref a), .val (.int (1 : Int32)), .val (.int (2 : Int32)), .val (.int (((10 : Int32) * ((0 : Int32) + (b1 - (48 : Int32)))) + (b2 - (48 : Int32)))), .val (.int (3 : Int32)), .val (.int (b2 - (48 : Int32)))] rfl ?_
          refine W.goto 5 d_prog_58_method_6_47 rfl ?_
          refine W.iload 7 d_prog_58_method_6_5 rfl rfl ?_
          refine W.iloadN 8 d_prog_58_method_6_7 rfl rfl ?_
          refine W.iloadN 9 d_prog_58_method_6_8 rfl rfl ?_
          refine W.iadd 10 d_prog_58_method_6_9 rfl (3 : Int32) (by decide) ?_
          refine W.icmp_ge 50 13 d_prog_58_method_6_10 rfl rfl (fun _ => ?_) (fun hc => absurd hc (by decide))
          refine W.iloadN 51 d_prog_58_method_6_50 rfl rfl ?_
          exact W.ireturn d_prog_58_method_6_51 rfl ⟨by simp only [own_go_nil, own_go_cons, own_mz, hc1101, hc1102, hc1103, hc1104, if_true, if_false], rfl⟩ (by decide) (by decide)
        · intro hc1104
          refine W.iconst 35 d_prog_58_method_6_34 rfl (-1 : Int32) rfl ?_
          exact W.ireturn d_prog_58_method_6_35 rfl ⟨by simp only [own_go_nil, own_go_cons, own_mz, hc1101, hc1102, hc1103, hc1104, if_true, if_false], rfl⟩ (by decide) (by decide)
    · intro hc1102
      refine W.iconst 35 d_prog_58_method_6_34 rfl (-1 : Int32) rfl ?_
      exact W.ireturn d_prog_58_method_6_35 rfl ⟨by simp only [own_go_nil, own_go_cons, own_mz, hc1101, hc1102, if_true, if_false], rfl⟩ (by decide) (by decide)
set_option maxRecDepth 65536 in
set_option maxHeartbeats 40000000 in
theorem c_ref12 (l : Launch) (Z : State) (a0 : Array Value) (hw : ∀ d ∈ tables_1, d.before a0 Z = true) (a : Addr) (b0 b1 b2 b3 b4 : Int32) (h : Heap) (n0 : Nat) (hn : n0 ≤ h.size) (A : Ary Z h a .byte [(.int b0), (.int b1), (.int b2), (.int b3), (.int b4)]) (hb0 : own_B b0) (hb1 : own_B b1) (hb2 : own_B b2) (hb3 : own_B b3) (hb4 : own_B b4) : Con l Z (⟨"com/example/tallymark/tallymark/InputTimesDigitsPinLaw", "ref", "([BII)I"⟩ : MethodName) method_8_code 3 (some .int) ({ frames := 2, cells := 0, slots := 0, locals := 60 } : Room) #[(.ref a), (.int (1 : Int32)), (.int (2 : Int32))] h n0 (fun r h' => r = some (.int (own_go 0 [b1, b2])) ∧ h' = h) := by
  refine ConW.of_W (Ls := #[.val (.ref a), .val (.int (1 : Int32)), .val (.int (2 : Int32))]) (plainFor_of_name pn_0) hn (fun m => by first | (simp [entryFrame, mkF, argsToLocals, Value.category]; done) | rfl) ?_
  refine W.aloadN 1 d_method_8_0 rfl rfl rfl ?_
  refine W.iloadN 2 d_method_8_1 rfl rfl ?_
  refine W.iloadN 3 d_method_8_2 rfl rfl ?_
  refine W.iconst 4 d_method_8_3 rfl (0 : Int32) rfl ?_
  refine W.callS (rest := []) (argsL := [(.ref a), (.int (1 : Int32)), (.int (2 : Int32)), (.int (0 : Int32))]) 7 d_method_8_4 rfl (fun hn => (c_badY l Z a0 hw a (1 : Int32) (2 : Int32) (0 : Int32) b1 _ 1 _ n0 hn A (by decide) (by decide) (by decide) rfl).post (P := fun r h' => r = some (.int (own_bad b1)) ∧ h' = _) (fun v h' q => q)) (wd_12 hw) (wd_13 hw) (wd_3 hw) (wd_14 hw) (by decide) pd_2 rfl rfl rfl (by decide) 0 (Nat.le_of_ble_eq_true rfl) (by decide) (by decide) (by decide) ?_
  rintro v1105 h1105 ⟨rfl, rfl⟩
  show W _ _ _ _ _ _ _ _ _ _ _ 0 0 7 #[.val (.ref a), .val (.int (1 : Int32)), .val (.int (2 : Int32))] [(.int (own_bad b1))]
  refine W.if_ne 40 10 d_method_8_7 rfl rfl ?_ ?_
  · intro hc1106
    refine W.iconst 41 d_method_8_40 rfl (-1 : Int32) rfl ?_
    exact W.ireturn d_method_8_41 rfl ⟨by congr 2; symm; simp [own_step _ _ _ hb1, own_step _ _ _ hb2, hc1106], rfl⟩ (by decide) (by decide)
  · intro hc1106
    refine W.aloadN 11 d_method_8_10 rfl rfl rfl ?_
    refine W.iloadN 12 d_method_8_11 rfl rfl ?_
    refine W.iloadN 13 d_method_8_12 rfl rfl ?_
    refine W.iconst 14 d_method_8_13 rfl (1 : Int32) rfl ?_
    refine W.callS (rest := []) (argsL := [(.ref a), (.int (1 : Int32)), (.int (2 : Int32)), (.int (1 : Int32))]) 17 d_method_8_14 rfl (fun hn => (c_badY l Z a0 hw a (1 : Int32) (2 : Int32) (1 : Int32) b2 _ 2 _ n0 hn A (by decide) (by decide) (by decide) rfl).post (P := fun r h' => r = some (.int (own_bad b2)) ∧ h' = _) (fun v h' q => q)) (wd_12 hw) (wd_13 hw) (wd_3 hw) (wd_14 hw) (by decide) pd_2 rfl rfl rfl (by decide) 0 (Nat.le_of_ble_eq_true rfl) (by decide) (by decide) (by decide) ?_
    rintro v1107 h1107 ⟨rfl, rfl⟩
    show W _ _ _ _ _ _ _ _ _ _ _ 0 0 17 #[.val (.ref a), .val (.int (1 : Int32)), .val (.int (2 : Int32))] [(.int (own_bad b2))]
    refine W.if_ne 40 20 d_method_8_17 rfl rfl ?_ ?_
    · intro hc1108
      refine W.iconst 41 d_method_8_40 rfl (-1 : Int32) rfl ?_
      exact W.ireturn d_method_8_41 rfl ⟨by congr 2; symm; simp [own_step _ _ _ hb1, own_step _ _ _ hb2, hc1106, hc1108], rfl⟩ (by decide) (by decide)
    · intro hc1108
      refine W.aloadN 21 d_method_8_20 rfl rfl rfl ?_
      refine W.iloadN 22 d_method_8_21 rfl rfl ?_
      refine W.iloadN 23 d_method_8_22 rfl rfl ?_
      refine W.iconst 24 d_method_8_23 rfl (2 : Int32) rfl ?_
      refine W.callS (rest := []) (argsL := [(.ref a), (.int (1 : Int32)), (.int (2 : Int32)), (.int (2 : Int32))]) 27 d_method_8_24 rfl (fun hn => c_badN l Z a0 hw a (1 : Int32) (2 : Int32) (2 : Int32) _ n0 hn (by decide)) (wd_12 hw) (wd_13 hw) (wd_3 hw) (wd_14 hw) (by decide) pd_2 rfl rfl rfl (by decide) 0 (Nat.le_of_ble_eq_true rfl) (by decide) (by decide) (by decide) ?_
      rintro v1109 h1109 ⟨rfl, rfl⟩
      show W _ _ _ _ _ _ _ _ _ _ _ 0 0 27 #[.val (.ref a), .val (.int (1 : Int32)), .val (.int (2 : Int32))] [(.int (0 : Int32))]
      refine W.if_ne 40 30 d_method_8_27 rfl rfl (fun hc => absurd (by decide) hc) (fun _ => ?_)
      refine W.aloadN 31 d_method_8_30 rfl rfl rfl ?_
      refine W.iloadN 32 d_method_8_31 rfl rfl ?_
      refine W.iloadN 33 d_method_8_32 rfl rfl ?_
      refine W.iconst 34 d_method_8_33 rfl (3 : Int32) rfl ?_
      refine W.callS (rest := []) (argsL := [(.ref a), (.int (1 : Int32)), (.int (2 : Int32)), (.int (3 : Int32))]) 37 d_method_8_34 rfl (fun hn => c_badN l Z a0 hw a (1 : Int32) (2 : Int32) (3 : Int32) _ n0 hn (by decide)) (wd_12 hw) (wd_13 hw) (wd_3 hw) (wd_14 hw) (by decide) pd_2 rfl rfl rfl (by decide) 0 (Nat.le_of_ble_eq_true rfl) (by decide) (by decide) (by decide) ?_
      rintro v1110 h1110 ⟨rfl, rfl⟩
      show W _ _ _ _ _ _ _ _ _ _ _ 0 0 37 #[.val (.ref a), .val (.int (1 : Int32)), .val (.int (2 : Int32))] [(.int (0 : Int32))]
      refine W.if_eq 42 40 d_method_8_37 rfl rfl (fun _ => ?_) (fun hc => absurd (by decide) hc)
      refine W.aloadN 43 d_method_8_42 rfl rfl rfl ?_
      refine W.iloadN 44 d_method_8_43 rfl rfl ?_
      refine W.iloadN 45 d_method_8_44 rfl rfl ?_
      refine W.iconst 46 d_method_8_45 rfl (0 : Int32) rfl ?_
      refine W.callS (rest := []) (argsL := [(.ref a), (.int (1 : Int32)), (.int (2 : Int32)), (.int (0 : Int32))]) 49 d_method_8_46 rfl (fun hn => (c_termY l Z a0 hw a (1 : Int32) (2 : Int32) (0 : Int32) b1 _ 1 _ n0 hn A (by decide) (by decide) (by decide) rfl).post (P := fun r h' => r = some (.int (own_dig b1 * (10 : Int32))) ∧ h' = _) (fun v h' q => q)) (wd_18 hw) (wd_19 hw) (wd_3 hw) (wd_20 hw) (by decide) pd_3 rfl rfl rfl (by decide) 0 (Nat.le_of_ble_eq_true rfl) (by decide) (by decide) (by decide) ?_
      rintro v1111 h1111 ⟨rfl, rfl⟩
      show W _ _ _ _ _ _ _ _ _ _ _ 0 0 49 #[.val (.ref a), .val (.int (1 : Int32)), .val (.int (2 : Int32))] [(.int (own_dig b1 * (10 : Int32)))]
      refine W.aloadN 50 d_method_8_49 rfl rfl rfl ?_
      refine W.iloadN 51 d_method_8_50 rfl rfl ?_
      refine W.iloadN 52 d_method_8_51 rfl rfl ?_
      refine W.iconst 53 d_method_8_52 rfl (1 : Int32) rfl ?_
      refine W.callS (rest := [(.int (own_dig b1 * (10 : Int32)))]) (argsL := [(.ref a), (.int (1 : Int32)), (.int (2 : Int32)), (.int (1 : Int32))]) 56 d_method_8_53 rfl (fun hn => (c_termY l Z a0 hw a (1 : Int32) (2 : Int32) (1 : Int32) b2 _ 2 _ n0 hn A (by decide) (by decide) (by decide) rfl).post (P := fun r h' => r = some (.int (own_dig b2 * (1 : Int32))) ∧ h' = _) (fun v h' q => q)) (wd_18 hw) (wd_19 hw) (wd_3 hw) (wd_20 hw) (by decide) pd_3 rfl rfl rfl (by decide) 1 (Nat.le_of_ble_eq_true rfl) (by decide) (by decide) (by decide) ?_
      rintro v1112 h1112 ⟨rfl, rfl⟩
      show W _ _ _ _ _ _ _ _ _ _ _ 0 0 56 #[.val (.ref a), .val (.int (1 : Int32)), .val (.int (2 : Int32))] [(.int (own_dig b2 * (1 : Int32))), (.int (own_dig b1 * (10 : Int32)))]
      refine W.iadd 57 d_method_8_56 rfl ((own_dig b1 * (10 : Int32)) + (own_dig b2 * (1 : Int32))) rfl ?_
      refine W.aloadN 58 d_method_8_57 rfl rfl rfl ?_
      refine W.iloadN 59 d_method_8_58 rfl rfl ?_
      refine W.iloadN 60 d_method_8_59 rfl rfl ?_
      refine W.iconst 61 d_method_8_60 rfl (2 : Int32) rfl ?_
      refine W.callS (rest := [(.int ((own_dig b1 * (10 : Int32)) + (own_dig b2 * (1 : Int32))))]) (argsL := [(.ref a), (.int (1 : Int32)), (.int (2 : Int32)), (.int (2 : Int32))]) 64 d_method_8_61 rfl (fun hn => c_termN l Z a0 hw a (1 : Int32) (2 : Int32) (2 : Int32) _ n0 hn (by decide)) (wd_18 hw) (wd_19 hw) (wd_3 hw) (wd_20 hw) (by decide) pd_3 rfl rfl rfl (by decide) 1 (Nat.le_of_ble_eq_true rfl) (by decide) (by decide) (by decide) ?_
      rintro v1113 h1113 ⟨rfl, rfl⟩
      show W _ _ _ _ _ _ _ _ _ _ _ 0 0 64 #[.val (.ref a), .val (.int (1 : Int32)), .val (.int (2 : Int32))] [(.int (0 : Int32)), (.int ((own_dig b1 * (10 : Int32)) + (own_dig b2 * (1 : Int32))))]
      refine W.iadd 65 d_method_8_64 rfl (((own_dig b1 * (10 : Int32)) + (own_dig b2 * (1 : Int32))) + (0 : Int32)) rfl ?_
      refine W.aloadN 66 d_method_8_65 rfl rfl rfl ?_
      refine W.iloadN 67 d_method_8_66 rfl rfl ?_
      refine W.iloadN 68 d_method_8_67 rfl rfl ?_
      refine W.iconst 69 d_method_8_68 rfl (3 : Int32) rfl ?_
      refine W.callS (rest := [(.int (((own_dig b1 * (10 : Int32)) + (own_dig b2 * (1 : Int32))) + (0 : Int32)))]) (argsL := [(.ref a), (.int (1 : Int32)), (.int (2 : Int32)), (.int (3 : Int32))]) 72 d_method_8_69 rfl (fun hn => c_termN l Z a0 hw a (1 : Int32) (2 : Int32) (3 : Int32) _ n0 hn (by decide)) (wd_18 hw) (wd_19 hw) (wd_3 hw) (wd_20 hw) (by decide) pd_3 rfl rfl rfl (by decide) 1 (Nat.le_of_ble_eq_true rfl) (by decide) (by decide) (by decide) ?_
      rintro v1114 h1114 ⟨rfl, rfl⟩
      show W _ _ _ _ _ _ _ _ _ _ _ 0 0 72 #[.val (.ref a), .val (.int (1 : Int32)), .val (.int (2 : Int32))] [(.int (0 : Int32)), (.int (((own_dig b1 * (10 : Int32)) + (own_dig b2 * (1 : Int32))) + (0 : Int32)))]
      refine W.iadd 73 d_method_8_72 rfl ((((own_dig b1 * (10 : Int32)) + (own_dig b2 * (1 : Int32))) + (0 : Int32)) + (0 : Int32)) rfl ?_
      exact W.ireturn d_method_8_73 rfl ⟨by congr 2; symm; simp only [own_step _ _ _ hb1, own_step _ _ _ hb2, hc1106, hc1108, own_go_nil, if_true]; exact own_d2 _ _, rfl⟩ (by decide) (by decide)
set_option maxRecDepth 65536 in
set_option maxHeartbeats 40000000 in
theorem c_ds13 (l : Launch) (Z : State) (a0 : Array Value) (hw : ∀ d ∈ tables_1, d.before a0 Z = true) (a : Addr) (b0 b1 b2 b3 b4 : Int32) (h : Heap) (n0 : Nat) (hn : n0 ≤ h.size) (A : Ary Z h a .byte [(.int b0), (.int b1), (.int b2), (.int b3), (.int b4)]) (hb0 : own_B b0) (hb1 : own_B b1) (hb2 : own_B b2) (hb3 : own_B b3) (hb4 : own_B b4) : Con l Z (⟨"com/example/tallymark/tallymark/InputTimes", "digits", "([BII)I"⟩ : MethodName) prog_58_method_6_code 6 (some .int) ({ frames := 0, cells := 0, slots := 0, locals := 0 } : Room) #[(.ref a), (.int (1 : Int32)), (.int (3 : Int32))] h n0 (fun r h' => r = some (.int (own_go 0 [b1, b2, b3])) ∧ h' = h) := by
  refine ConW.of_W (Ls := #[.val (.ref a), .val (.int (1 : Int32)), .val (.int (3 : Int32)), .unset, .unset, .unset]) (plainFor_of_name pn_1) hn (fun m => by first | (simp [entryFrame, mkF, argsToLocals, Value.category]; done) | rfl) ?_
  refine W.iconst 1 d_prog_58_method_6_0 rfl (0 : Int32) rfl ?_
  refine W.istoreN 2 d_prog_58_method_6_1 rfl #[.val (.ref a), .val (.int (1 : Int32)), .val (.int (3 : Int32)), .val (.int (0 : Int32)), .unset, .unset] rfl ?_
  refine W.iloadN 3 d_prog_58_method_6_2 rfl rfl ?_
  refine W.istore 5 d_prog_58_method_6_3 rfl #[.val (.ref a), .val (.int (1 : Int32)), .val (.int (3 : Int32)), .val (.int (0 : Int32)), .val (.int (1 : Int32)), .unset] rfl ?_
  refine W.iload 7 d_prog_58_method_6_5 rfl rfl ?_
  refine W.iloadN 8 d_prog_58_method_6_7 rfl rfl ?_
  refine W.iloadN 9 d_prog_58_method_6_8 rfl rfl ?_
  refine W.iadd 10 d_prog_58_method_6_9 rfl (4 : Int32) (by decide) ?_
  refine W.icmp_ge 50 13 d_prog_58_method_6_10 rfl rfl (fun hc => absurd (by decide) hc) (fun _ => ?_)
  refine W.aloadN 14 d_prog_58_method_6_13 rfl rfl rfl ?_
  refine W.iload 16 d_prog_58_method_6_14 rfl rfl ?_
  refine W.baload 17 d_prog_58_method_6_16 rfl A 1 (by decide) (by decide) (.int b1) rfl ?_
  refine W.bipush 19 d_prog_58_method_6_17 rfl (48 : Int32) rfl ?_
  refine W.isub 20 d_prog_58_method_6_19 rfl (b1 - (48 : Int32)) rfl ?_
  refine W.istore 22 d_prog_58_method_6_20 rfl #[.val (.ref a), .val (.int (1 : Int32)), .val (.int (3 : Int32)), .val (.int (0 : Int32)), .val (.int (1 : Int32)), .val (.int (b1 - (48 : Int32)))] rfl ?_
  refine W.iload 24 d_prog_58_method_6_22 rfl rfl ?_
  refine W.if_lt 34 27 d_prog_58_method_6_24 rfl rfl ?_ ?_
  · intro hc1115
    refine W.iconst 35 d_prog_58_method_6_34 rfl (-1 : Int32) rfl ?_
    exact W.ireturn d_prog_58_method_6_35 rfl ⟨by simp only [own_go_nil, own_go_cons, own_mz, hc1115, if_true, if_false], rfl⟩ (by decide) (by decide)
  · intro hc1115
    refine W.iload 29 d_prog_58_method_6_27 rfl rfl ?_
    refine W.bipush 31 d_prog_58_method_6_29 rfl (9 : Int32) rfl ?_
    refine W.icmp_le 36 34 d_prog_58_method_6_31 rfl rfl ?_ ?_
    · intro hc1116
      refine W.bipush 38 d_prog_58_method_6_36 rfl (10 : Int32) rfl ?_
      refine W.iloadN 39 d_prog_58_method_6_38 rfl rfl ?_
      refine W.imul 40 d_prog_58_method_6_39 rfl (0 : Int32) (by decide) ?_
      refine W.iload 42 d_prog_58_method_6_40 rfl rfl ?_
      refine W.iadd 43 d_prog_58_method_6_42 rfl ((0 : Int32) + (b1 - (48 : Int32))) rfl ?_
      refine W.istoreN 44 d_prog_58_method_6_43 rfl #[.val (.ref a), .val (.int (1 : Int32)), .val (.int (3 : Int32)), .val (.int ((0 : Int32) + (b1 - (48 : Int32)))), .val (.int (1 : Int32)), .val (.int (b1 - (48 : Int32)))] rfl ?_
      refine W.iinc 47 d_prog_58_method_6_44 rfl rfl (2 : Int32) (by decide) #[.val (.ref a), .val (.int (1 : Int32)), .val (.int (3 : Int32)), .val (.int ((0 : Int32) + (b1 - (48 : Int32)))), .val (.int (2 : Int32)), .val (.int (b1 - (48 : Int32)))] rfl ?_
      refine W.goto 5 d_prog_58_method_6_47 rfl ?_
      refine W.iload 7 d_prog_58_method_6_5 rfl rfl ?_
      refine W.iloadN 8 d_prog_58_method_6_7 rfl rfl ?_
      refine W.iloadN 9 d_prog_58_method_6_8 rfl rfl ?_
      refine W.iadd 10 d_prog_58_method_6_9 rfl (4 : Int32) (by decide) ?_
      refine W.icmp_ge 50 13 d_prog_58_method_6_10 rfl rfl (fun hc => absurd (by decide) hc) (fun _ => ?_)
      refine W.aloadN 14 d_prog_58_method_6_13 rfl rfl rfl ?_
      refine W.iload 16 d_prog_58_method_6_14 rfl rfl ?_
      refine W.baload 17 d_prog_58_method_6_16 rfl A 2 (by decide) (by decide) (.int b2) rfl ?_
      refine W.bipush 19 d_prog_58_method_6_17 rfl (48 : Int32) rfl ?_
      refine W.isub 20 d_prog_58_method_6_19 rfl (b2 - (48 : Int32)) rfl ?_
      refine W.istore 22 d_prog_58_method_6_20 rfl #[.val (.ref a), .val (.int (1 : Int32)), .val (.int (3 : Int32)), .val (.int ((0 : Int32) + (b1 - (48 : Int32)))), .val (.int (2 : Int32)), .val (.int (b2 - (48 : Int32)))] rfl ?_
      refine W.iload 24 d_prog_58_method_6_22 rfl rfl ?_
      refine W.if_lt 34 27 d_prog_58_method_6_24 rfl rfl ?_ ?_
      · intro hc1117
        refine W.iconst 35 d_prog_58_method_6_34 rfl (-1 : Int32) rfl ?_
        exact W.ireturn d_prog_58_method_6_35 rfl ⟨by simp only [own_go_nil, own_go_cons, own_mz, hc1115, hc1116, hc1117, if_true, if_false], rfl⟩ (by decide) (by decide)
      · intro hc1117
        refine W.iload 29 d_prog_58_method_6_27 rfl rfl ?_
        refine W.bipush 31 d_prog_58_method_6_29 rfl (9 : Int32) rfl ?_
        refine W.icmp_le 36 34 d_prog_58_method_6_31 rfl rfl ?_ ?_
        · intro hc1118
          refine W.bipush 38 d_prog_58_method_6_36 rfl (10 : Int32) rfl ?_
          refine W.iloadN 39 d_prog_58_method_6_38 rfl rfl ?_
          refine W.imul 40 d_prog_58_method_6_39 rfl ((10 : Int32) * ((0 : Int32) + (b1 - (48 : Int32)))) rfl ?_
          refine W.iload 42 d_prog_58_method_6_40 rfl rfl ?_
          refine W.iadd 43 d_prog_58_method_6_42 rfl (((10 : Int32) * ((0 : Int32) + (b1 - (48 : Int32)))) + (b2 - (48 : Int32))) rfl ?_
          refine W.istoreN 44 d_prog_58_method_6_43 rfl #[.val (.ref a), .val (.int (1 : Int32)), .val (.int (3 : Int32)), .val (.int (((10 : Int32) * ((0 : Int32) + (b1 - (48 : Int32)))) + (b2 - (48 : Int32)))), .val (.int (2 : Int32)), .val (.int (b2 - (48 : Int32)))] rfl ?_
          refine W.iinc 47 d_prog_58_method_6_44 rfl rfl (3 : Int32) (by decide) #[.val (.ref a), .val (.int (1 : Int32)), .val (.int (3 : Int32)), .val (.int (((10 : Int32) * ((0 : Int32) + (b1 - (48 : Int32)))) + (b2 - (48 : Int32)))), .val (.int (3 : Int32)), .val (.int (b2 - (48 : Int32)))] rfl ?_
          refine W.goto 5 d_prog_58_method_6_47 rfl ?_
          refine W.iload 7 d_prog_58_method_6_5 rfl rfl ?_
          refine W.iloadN 8 d_prog_58_method_6_7 rfl rfl ?_
          refine W.iloadN 9 d_prog_58_method_6_8 rfl rfl ?_
          refine W.iadd 10 d_prog_58_method_6_9 rfl (4 : Int32) (by decide) ?_
          refine W.icmp_ge 50 13 d_prog_58_method_6_10 rfl rfl (fun hc => absurd (by decide) hc) (fun _ => ?_)
          refine W.aloadN 14 d_prog_58_method_6_13 rfl rfl rfl ?_
          refine W.iload 16 d_prog_58_method_6_14 rfl rfl ?_
          refine W.baload 17 d_prog_58_method_6_16 rfl A 3 (by decide) (by decide) (.int b3) rfl ?_
          refine W.bipush 19 d_prog_58_method_6_17 rfl (48 : Int32) rfl ?_
          refine W.isub 20 d_prog_58_method_6_19 rfl (b3 - (48 : Int32)) rfl ?_
          refine W.istore 22 d_prog_58_method_6_20 rfl #[.val (.ref a), .val (.int (1 : Int32)), .val (.int (3 : Int32)), .val (.int (((10 : Int32) * ((0 : Int32) + (b1 - (48 : Int32)))) + (b2 - (48 : Int32)))), .val (.int (3 : Int32)), .val (.int (b3 - (48 : Int32)))] rfl ?_
          refine W.iload 24 d_prog_58_method_6_22 rfl rfl ?_
          refine W.if_lt 34 27 d_prog_58_method_6_24 rfl rfl ?_ ?_
          · intro hc1119
            refine W.iconst 35 d_prog_58_method_6_34 rfl (-1 : Int32) rfl ?_
            exact W.ireturn d_prog_58_method_6_35 rfl ⟨by simp only [own_go_nil, own_go_cons, own_mz, hc1115, hc1116, hc1117, hc1118, hc1119, if_true, if_false], rfl⟩ (by decide) (by decide)
          · intro hc1119
            refine W.iload 29 d_prog_58_method_6_27 rfl rfl ?_
            refine W.bipush 31 d_prog_58_method_6_29 rfl (9 : Int32) rfl ?_
            refine W.icmp_le 36 34 d_prog_58_method_6_31 rfl rfl ?_ ?_
            · intro hc1120
              refine W.bipush 38 d_prog_58_method_6_36 rfl (10 : Int32) rfl ?_
              refine W.iloadN 39 d_prog_58_method_6_38 rfl rfl ?_
              refine W.imul 40 d_prog_58_method_6_39 rfl ((10 : Int32) * (((10 : Int32) * ((0 : Int32) + (b1 - (48 : Int32)))) + (b2 - (48 : Int32)))) rfl ?_
              refine W.iload 42 d_prog_58_method_6_40 rfl rfl ?_
              refine W.iadd 43 d_prog_58_method_6_42 rfl (((10 : Int32) * (((10 : Int32) * ((0 : Int32) + (b1 - (48 : Int32)))) + (b2 - (48 : Int32)))) + (b3 - (48 : Int32))) rfl ?_
              refine W.istoreN 44 d_prog_58_method_6_43 rfl #[.val (.ref a), .val (.int (1 : Int32)), .val (.int (3 : Int32)), .val (.int (((10 : Int32) * (((10 : Int32) * ((0 : Int32) + (b1 - (48 : Int32)))) + (b2 - (48 : Int32)))) + (b3 - (48 : Int32)))), .val (.int (3 : Int32)), .val (.int (b3 - (48 : Int32)))] rfl ?_
              refine W.iinc 47 d_prog_58_method_6_44 rfl rfl (4 : Int32) (by decide) #[.val (.ref a), .val (.int (1 : Int32)), .val (.int (3 : Int32)), .val (.int (((10 : Int32) * (((10 : Int32) * ((0 : Int32) + (b1 - (48 : Int32)))) + (b2 - (48 : Int32)))) + (b3 - (48 : Int32)))), .val (.int (4 : Int32)), .val (.int (b3 - (48 : Int32)))] rfl ?_
              refine W.goto 5 d_prog_58_method_6_47 rfl ?_
              refine W.iload 7 d_prog_58_method_6_5 rfl rfl ?_
              refine W.iloadN 8 d_prog_58_method_6_7 rfl rfl ?_
              refine W.iloadN 9 d_prog_58_method_6_8 rfl rfl ?_
              refine W.iadd 10 d_prog_58_method_6_9 rfl (4 : Int32) (by decide) ?_
              refine W.icmp_ge 50 13 d_prog_58_method_6_10 rfl rfl (fun _ => ?_) (fun hc => absurd hc (by decide))
              refine W.iloadN 51 d_prog_58_method_6_50 rfl rfl ?_
              exact W.ireturn d_prog_58_method_6_51 rfl ⟨by simp only [own_go_nil, own_go_cons, own_mz, hc1115, hc1116, hc1117, hc1118, hc1119, hc1120, if_true, if_false], rfl⟩ (by decide) (by decide)
            · intro hc1120
              refine W.iconst 35 d_prog_58_method_6_34 rfl (-1 : Int32) rfl ?_
              exact W.ireturn d_prog_58_method_6_35 rfl ⟨by simp only [own_go_nil, own_go_cons, own_mz, hc1115, hc1116, hc1117, hc1118, hc1119, hc1120, if_true, if_false], rfl⟩ (by decide) (by decide)
        · intro hc1118
          refine W.iconst 35 d_prog_58_method_6_34 rfl (-1 : Int32) rfl ?_
          exact W.ireturn d_prog_58_method_6_35 rfl ⟨by simp only [own_go_nil, own_go_cons, own_mz, hc1115, hc1116, hc1117, hc1118, if_true, if_false], rfl⟩ (by decide) (by decide)
    · intro hc1116
      refine W.iconst 35 d_prog_58_method_6_34 rfl (-1 : Int32) rfl ?_
      exact W.ireturn d_prog_58_method_6_35 rfl ⟨by simp only [own_go_nil, own_go_cons, own_mz, hc1115, hc1116, if_true, if_false], rfl⟩ (by decide) (by decide)
set_option maxRecDepth 65536 in
set_option maxHeartbeats 40000000 in
theorem c_ref13 (l : Launch) (Z : State) (a0 : Array Value) (hw : ∀ d ∈ tables_1, d.before a0 Z = true) (a : Addr) (b0 b1 b2 b3 b4 : Int32) (h : Heap) (n0 : Nat) (hn : n0 ≤ h.size) (A : Ary Z h a .byte [(.int b0), (.int b1), (.int b2), (.int b3), (.int b4)]) (hb0 : own_B b0) (hb1 : own_B b1) (hb2 : own_B b2) (hb3 : own_B b3) (hb4 : own_B b4) : Con l Z (⟨"com/example/tallymark/tallymark/InputTimesDigitsPinLaw", "ref", "([BII)I"⟩ : MethodName) method_8_code 3 (some .int) ({ frames := 2, cells := 0, slots := 0, locals := 60 } : Room) #[(.ref a), (.int (1 : Int32)), (.int (3 : Int32))] h n0 (fun r h' => r = some (.int (own_go 0 [b1, b2, b3])) ∧ h' = h) := by
  refine ConW.of_W (Ls := #[.val (.ref a), .val (.int (1 : Int32)), .val (.int (3 : Int32))]) (plainFor_of_name pn_0) hn (fun m => by first | (simp [entryFrame, mkF, argsToLocals, Value.category]; done) | rfl) ?_
  refine W.aloadN 1 d_method_8_0 rfl rfl rfl ?_
  refine W.iloadN 2 d_method_8_1 rfl rfl ?_
  refine W.iloadN 3 d_method_8_2 rfl rfl ?_
  refine W.iconst 4 d_method_8_3 rfl (0 : Int32) rfl ?_
  refine W.callS (rest := []) (argsL := [(.ref a), (.int (1 : Int32)), (.int (3 : Int32)), (.int (0 : Int32))]) 7 d_method_8_4 rfl (fun hn => (c_badY l Z a0 hw a (1 : Int32) (3 : Int32) (0 : Int32) b1 _ 1 _ n0 hn A (by decide) (by decide) (by decide) rfl).post (P := fun r h' => r = some (.int (own_bad b1)) ∧ h' = _) (fun v h' q => q)) (wd_12 hw) (wd_13 hw) (wd_3 hw) (wd_14 hw) (by decide) pd_2 rfl rfl rfl (by decide) 0 (Nat.le_of_ble_eq_true rfl) (by decide) (by decide) (by decide) ?_
  rintro v1121 h1121 ⟨rfl, rfl⟩
  show W _ _ _ _ _ _ _ _ _ _ _ 0 0 7 #[.val (.ref a), .val (.int (1 : Int32)), .val (.int (3 : Int32))] [(.int (own_bad b1))]
  refine W.if_ne 40 10 d_method_8_7 rfl rfl ?_ ?_
  · intro hc1122
    refine W.iconst 41 d_method_8_40 rfl (-1 : Int32) rfl ?_
    exact W.ireturn d_method_8_41 rfl ⟨by congr 2; symm; simp [own_step _ _ _ hb1, own_step _ _ _ hb2, own_step _ _ _ hb3, hc1122], rfl⟩ (by decide) (by decide)
  · intro hc1122
    refine W.aloadN 11 d_method_8_10 rfl rfl rfl ?_
    refine W.iloadN 12 d_method_8_11 rfl rfl ?_
    refine W.iloadN 13 d_method_8_12 rfl rfl ?_
    refine W.iconst 14 d_method_8_13 rfl (1 : Int32) rfl ?_
    refine W.callS (rest := []) (argsL := [(.ref a), (.int (1 : Int32)), (.int (3 : Int32)), (.int (1 : Int32))]) 17 d_method_8_14 rfl (fun hn => (c_badY l Z a0 hw a (1 : Int32) (3 : Int32) (1 : Int32) b2 _ 2 _ n0 hn A (by decide) (by decide) (by decide) rfl).post (P := fun r h' => r = some (.int (own_bad b2)) ∧ h' = _) (fun v h' q => q)) (wd_12 hw) (wd_13 hw) (wd_3 hw) (wd_14 hw) (by decide) pd_2 rfl rfl rfl (by decide) 0 (Nat.le_of_ble_eq_true rfl) (by decide) (by decide) (by decide) ?_
    rintro v1123 h1123 ⟨rfl, rfl⟩
    show W _ _ _ _ _ _ _ _ _ _ _ 0 0 17 #[.val (.ref a), .val (.int (1 : Int32)), .val (.int (3 : Int32))] [(.int (own_bad b2))]
    refine W.if_ne 40 20 d_method_8_17 rfl rfl ?_ ?_
    · intro hc1124
      refine W.iconst 41 d_method_8_40 rfl (-1 : Int32) rfl ?_
      exact W.ireturn d_method_8_41 rfl ⟨by congr 2; symm; simp [own_step _ _ _ hb1, own_step _ _ _ hb2, own_step _ _ _ hb3, hc1122, hc1124], rfl⟩ (by decide) (by decide)
    · intro hc1124
      refine W.aloadN 21 d_method_8_20 rfl rfl rfl ?_
      refine W.iloadN 22 d_method_8_21 rfl rfl ?_
      refine W.iloadN 23 d_method_8_22 rfl rfl ?_
      refine W.iconst 24 d_method_8_23 rfl (2 : Int32) rfl ?_
      refine W.callS (rest := []) (argsL := [(.ref a), (.int (1 : Int32)), (.int (3 : Int32)), (.int (2 : Int32))]) 27 d_method_8_24 rfl (fun hn => (c_badY l Z a0 hw a (1 : Int32) (3 : Int32) (2 : Int32) b3 _ 3 _ n0 hn A (by decide) (by decide) (by decide) rfl).post (P := fun r h' => r = some (.int (own_bad b3)) ∧ h' = _) (fun v h' q => q)) (wd_12 hw) (wd_13 hw) (wd_3 hw) (wd_14 hw) (by decide) pd_2 rfl rfl rfl (by decide) 0 (Nat.le_of_ble_eq_true rfl) (by decide) (by decide) (by decide) ?_
      rintro v1125 h1125 ⟨rfl, rfl⟩
      show W _ _ _ _ _ _ _ _ _ _ _ 0 0 27 #[.val (.ref a), .val (.int (1 : Int32)), .val (.int (3 : Int32))] [(.int (own_bad b3))]
      refine W.if_ne 40 30 d_method_8_27 rfl rfl ?_ ?_
      · intro hc1126
        refine W.iconst 41 d_method_8_40 rfl (-1 : Int32) rfl ?_
        exact W.ireturn d_method_8_41 rfl ⟨by congr 2; symm; simp [own_step _ _ _ hb1, own_step _ _ _ hb2, own_step _ _ _ hb3, hc1122, hc1124, hc1126], rfl⟩ (by decide) (by decide)
      · intro hc1126
        refine W.aloadN 31 d_method_8_30 rfl rfl rfl ?_
        refine W.iloadN 32 d_method_8_31 rfl rfl ?_
        refine W.iloadN 33 d_method_8_32 rfl rfl ?_
        refine W.iconst 34 d_method_8_33 rfl (3 : Int32) rfl ?_
        refine W.callS (rest := []) (argsL := [(.ref a), (.int (1 : Int32)), (.int (3 : Int32)), (.int (3 : Int32))]) 37 d_method_8_34 rfl (fun hn => c_badN l Z a0 hw a (1 : Int32) (3 : Int32) (3 : Int32) _ n0 hn (by decide)) (wd_12 hw) (wd_13 hw) (wd_3 hw) (wd_14 hw) (by decide) pd_2 rfl rfl rfl (by decide) 0 (Nat.le_of_ble_eq_true rfl) (by decide) (by decide) (by decide) ?_
        rintro v1127 h1127 ⟨rfl, rfl⟩
        show W _ _ _ _ _ _ _ _ _ _ _ 0 0 37 #[.val (.ref a), .val (.int (1 : Int32)), .val (.int (3 : Int32))] [(.int (0 : Int32))]
        refine W.if_eq 42 40 d_method_8_37 rfl rfl (fun _ => ?_) (fun hc => absurd (by decide) hc)
        refine W.aloadN 43 d_method_8_42 rfl rfl rfl ?_
        refine W.iloadN 44 d_method_8_43 rfl rfl ?_
        refine W.iloadN 45 d_method_8_44 rfl rfl ?_
        refine W.iconst 46 d_method_8_45 rfl (0 : Int32) rfl ?_
        refine W.callS (rest := []) (argsL := [(.ref a), (.int (1 : Int32)), (.int (3 : Int32)), (.int (0 : Int32))]) 49 d_method_8_46 rfl (fun hn => (c_termY l Z a0 hw a (1 : Int32) (3 : Int32) (0 : Int32) b1 _ 1 _ n0 hn A (by decide) (by decide) (by decide) rfl).post (P := fun r h' => r = some (.int (own_dig b1 * (100 : Int32))) ∧ h' = _) (fun v h' q => q)) (wd_18 hw) (wd_19 hw) (wd_3 hw) (wd_20 hw) (by decide) pd_3 rfl rfl rfl (by decide) 0 (Nat.le_of_ble_eq_true rfl) (by decide) (by decide) (by decide) ?_
        rintro v1128 h1128 ⟨rfl, rfl⟩
        show W _ _ _ _ _ _ _ _ _ _ _ 0 0 49 #[.val (.ref a), .val (.int (1 : Int32)), .val (.int (3 : Int32))] [(.int (own_dig b1 * (100 : Int32)))]
        refine W.aloadN 50 d_method_8_49 rfl rfl rfl ?_
        refine W.iloadN 51 d_method_8_50 rfl rfl ?_
        refine W.iloadN 52 d_method_8_51 rfl rfl ?_
        refine W.iconst 53 d_method_8_52 rfl (1 : Int32) rfl ?_
        refine W.callS (rest := [(.int (own_dig b1 * (100 : Int32)))]) (argsL := [(.ref a), (.int (1 : Int32)), (.int (3 : Int32)), (.int (1 : Int32))]) 56 d_method_8_53 rfl (fun hn => (c_termY l Z a0 hw a (1 : Int32) (3 : Int32) (1 : Int32) b2 _ 2 _ n0 hn A (by decide) (by decide) (by decide) rfl).post (P := fun r h' => r = some (.int (own_dig b2 * (10 : Int32))) ∧ h' = _) (fun v h' q => q)) (wd_18 hw) (wd_19 hw) (wd_3 hw) (wd_20 hw) (by decide) pd_3 rfl rfl rfl (by decide) 1 (Nat.le_of_ble_eq_true rfl) (by decide) (by decide) (by decide) ?_
        rintro v1129 h1129 ⟨rfl, rfl⟩
        show W _ _ _ _ _ _ _ _ _ _ _ 0 0 56 #[.val (.ref a), .val (.int (1 : Int32)), .val (.int (3 : Int32))] [(.int (own_dig b2 * (10 : Int32))), (.int (own_dig b1 * (100 : Int32)))]
        refine W.iadd 57 d_method_8_56 rfl ((own_dig b1 * (100 : Int32)) + (own_dig b2 * (10 : Int32))) rfl ?_
        refine W.aloadN 58 d_method_8_57 rfl rfl rfl ?_
        refine W.iloadN 59 d_method_8_58 rfl rfl ?_
        refine W.iloadN 60 d_method_8_59 rfl rfl ?_
        refine W.iconst 61 d_method_8_60 rfl (2 : Int32) rfl ?_
        refine W.callS (rest := [(.int ((own_dig b1 * (100 : Int32)) + (own_dig b2 * (10 : Int32))))]) (argsL := [(.ref a), (.int (1 : Int32)), (.int (3 : Int32)), (.int (2 : Int32))]) 64 d_method_8_61 rfl (fun hn => (c_termY l Z a0 hw a (1 : Int32) (3 : Int32) (2 : Int32) b3 _ 3 _ n0 hn A (by decide) (by decide) (by decide) rfl).post (P := fun r h' => r = some (.int (own_dig b3 * (1 : Int32))) ∧ h' = _) (fun v h' q => q)) (wd_18 hw) (wd_19 hw) (wd_3 hw) (wd_20 hw) (by decide) pd_3 rfl rfl rfl (by decide) 1 (Nat.le_of_ble_eq_true rfl) (by decide) (by decide) (by decide) ?_
        rintro v1130 h1130 ⟨rfl, rfl⟩
        show W _ _ _ _ _ _ _ _ _ _ _ 0 0 64 #[.val (.ref a), .val (.int (1 : Int32)), .val (.int (3 : Int32))] [(.int (own_dig b3 * (1 : Int32))), (.int ((own_dig b1 * (100 : Int32)) + (own_dig b2 * (10 : Int32))))]
        refine W.iadd 65 d_method_8_64 rfl (((own_dig b1 * (100 : Int32)) + (own_dig b2 * (10 : Int32))) + (own_dig b3 * (1 : Int32))) rfl ?_
        refine W.aloadN 66 d_method_8_65 rfl rfl rfl ?_
        refine W.iloadN 67 d_method_8_66 rfl rfl ?_
        refine W.iloadN 68 d_method_8_67 rfl rfl ?_
        refine W.iconst 69 d_method_8_68 rfl (3 : Int32) rfl ?_
        refine W.callS (rest := [(.int (((own_dig b1 * (100 : Int32)) + (own_dig b2 * (10 : Int32))) + (own_dig b3 * (1 : Int32))))]) (argsL := [(.ref a), (.int (1 : Int32)), (.int (3 : Int32)), (.int (3 : Int32))]) 72 d_method_8_69 rfl (fun hn => c_termN l Z a0 hw a (1 : Int32) (3 : Int32) (3 : Int32) _ n0 hn (by decide)) (wd_18 hw) (wd_19 hw) (wd_3 hw) (wd_20 hw) (by decide) pd_3 rfl rfl rfl (by decide) 1 (Nat.le_of_ble_eq_true rfl) (by decide) (by decide) (by decide) ?_
        rintro v1131 h1131 ⟨rfl, rfl⟩
        show W _ _ _ _ _ _ _ _ _ _ _ 0 0 72 #[.val (.ref a), .val (.int (1 : Int32)), .val (.int (3 : Int32))] [(.int (0 : Int32)), (.int (((own_dig b1 * (100 : Int32)) + (own_dig b2 * (10 : Int32))) + (own_dig b3 * (1 : Int32))))]
        refine W.iadd 73 d_method_8_72 rfl ((((own_dig b1 * (100 : Int32)) + (own_dig b2 * (10 : Int32))) + (own_dig b3 * (1 : Int32))) + (0 : Int32)) rfl ?_
        exact W.ireturn d_method_8_73 rfl ⟨by congr 2; symm; simp only [own_step _ _ _ hb1, own_step _ _ _ hb2, own_step _ _ _ hb3, hc1122, hc1124, hc1126, own_go_nil, if_true]; exact own_d3 _ _ _, rfl⟩ (by decide) (by decide)
set_option maxRecDepth 65536 in
set_option maxHeartbeats 40000000 in
theorem c_ds14 (l : Launch) (Z : State) (a0 : Array Value) (hw : ∀ d ∈ tables_1, d.before a0 Z = true) (a : Addr) (b0 b1 b2 b3 b4 : Int32) (h : Heap) (n0 : Nat) (hn : n0 ≤ h.size) (A : Ary Z h a .byte [(.int b0), (.int b1), (.int b2), (.int b3), (.int b4)]) (hb0 : own_B b0) (hb1 : own_B b1) (hb2 : own_B b2) (hb3 : own_B b3) (hb4 : own_B b4) : Con l Z (⟨"com/example/tallymark/tallymark/InputTimes", "digits", "([BII)I"⟩ : MethodName) prog_58_method_6_code 6 (some .int) ({ frames := 0, cells := 0, slots := 0, locals := 0 } : Room) #[(.ref a), (.int (1 : Int32)), (.int (4 : Int32))] h n0 (fun r h' => r = some (.int (own_go 0 [b1, b2, b3, b4])) ∧ h' = h) := by
  refine ConW.of_W (Ls := #[.val (.ref a), .val (.int (1 : Int32)), .val (.int (4 : Int32)), .unset, .unset, .unset]) (plainFor_of_name pn_1) hn (fun m => by first | (simp [entryFrame, mkF, argsToLocals, Value.category]; done) | rfl) ?_
  refine W.iconst 1 d_prog_58_method_6_0 rfl (0 : Int32) rfl ?_
  refine W.istoreN 2 d_prog_58_method_6_1 rfl #[.val (.ref a), .val (.int (1 : Int32)), .val (.int (4 : Int32)), .val (.int (0 : Int32)), .unset, .unset] rfl ?_
  refine W.iloadN 3 d_prog_58_method_6_2 rfl rfl ?_
  refine W.istore 5 d_prog_58_method_6_3 rfl #[.val (.ref a), .val (.int (1 : Int32)), .val (.int (4 : Int32)), .val (.int (0 : Int32)), .val (.int (1 : Int32)), .unset] rfl ?_
  refine W.iload 7 d_prog_58_method_6_5 rfl rfl ?_
  refine W.iloadN 8 d_prog_58_method_6_7 rfl rfl ?_
  refine W.iloadN 9 d_prog_58_method_6_8 rfl rfl ?_
  refine W.iadd 10 d_prog_58_method_6_9 rfl (5 : Int32) (by decide) ?_
  refine W.icmp_ge 50 13 d_prog_58_method_6_10 rfl rfl (fun hc => absurd (by decide) hc) (fun _ => ?_)
  refine W.aloadN 14 d_prog_58_method_6_13 rfl rfl rfl ?_
  refine W.iload 16 d_prog_58_method_6_14 rfl rfl ?_
  refine W.baload 17 d_prog_58_method_6_16 rfl A 1 (by decide) (by decide) (.int b1) rfl ?_
  refine W.bipush 19 d_prog_58_method_6_17 rfl (48 : Int32) rfl ?_
  refine W.isub 20 d_prog_58_method_6_19 rfl (b1 - (48 : Int32)) rfl ?_
  refine W.istore 22 d_prog_58_method_6_20 rfl #[.val (.ref a), .val (.int (1 : Int32)), .val (.int (4 : Int32)), .val (.int (0 : Int32)), .val (.int (1 : Int32)), .val (.int (b1 - (48 : Int32)))] rfl ?_
  refine W.iload 24 d_prog_58_method_6_22 rfl rfl ?_
  refine W.if_lt 34 27 d_prog_58_method_6_24 rfl rfl ?_ ?_
  · intro hc1132
    refine W.iconst 35 d_prog_58_method_6_34 rfl (-1 : Int32) rfl ?_
    exact W.ireturn d_prog_58_method_6_35 rfl ⟨by simp only [own_go_nil, own_go_cons, own_mz, hc1132, if_true, if_false], rfl⟩ (by decide) (by decide)
  · intro hc1132
    refine W.iload 29 d_prog_58_method_6_27 rfl rfl ?_
    refine W.bipush 31 d_prog_58_method_6_29 rfl (9 : Int32) rfl ?_
    refine W.icmp_le 36 34 d_prog_58_method_6_31 rfl rfl ?_ ?_
    · intro hc1133
      refine W.bipush 38 d_prog_58_method_6_36 rfl (10 : Int32) rfl ?_
      refine W.iloadN 39 d_prog_58_method_6_38 rfl rfl ?_
      refine W.imul 40 d_prog_58_method_6_39 rfl (0 : Int32) (by decide) ?_
      refine W.iload 42 d_prog_58_method_6_40 rfl rfl ?_
      refine W.iadd 43 d_prog_58_method_6_42 rfl ((0 : Int32) + (b1 - (48 : Int32))) rfl ?_
      refine W.istoreN 44 d_prog_58_method_6_43 rfl #[.val (.ref a), .val (.int (1 : Int32)), .val (.int (4 : Int32)), .val (.int ((0 : Int32) + (b1 - (48 : Int32)))), .val (.int (1 : Int32)), .val (.int (b1 - (48 : Int32)))] rfl ?_
      refine W.iinc 47 d_prog_58_method_6_44 rfl rfl (2 : Int32) (by decide) #[.val (.ref a), .val (.int (1 : Int32)), .val (.int (4 : Int32)), .val (.int ((0 : Int32) + (b1 - (48 : Int32)))), .val (.int (2 : Int32)), .val (.int (b1 - (48 : Int32)))] rfl ?_
      refine W.goto 5 d_prog_58_method_6_47 rfl ?_
      refine W.iload 7 d_prog_58_method_6_5 rfl rfl ?_
      refine W.iloadN 8 d_prog_58_method_6_7 rfl rfl ?_
      refine W.iloadN 9 d_prog_58_method_6_8 rfl rfl ?_
      refine W.iadd 10 d_prog_58_method_6_9 rfl (5 : Int32) (by decide) ?_
      refine W.icmp_ge 50 13 d_prog_58_method_6_10 rfl rfl (fun hc => absurd (by decide) hc) (fun _ => ?_)
      refine W.aloadN 14 d_prog_58_method_6_13 rfl rfl rfl ?_
      refine W.iload 16 d_prog_58_method_6_14 rfl rfl ?_
      refine W.baload 17 d_prog_58_method_6_16 rfl A 2 (by decide) (by decide) (.int b2) rfl ?_
      refine W.bipush 19 d_prog_58_method_6_17 rfl (48 : Int32) rfl ?_
      refine W.isub 20 d_prog_58_method_6_19 rfl (b2 - (48 : Int32)) rfl ?_
      refine W.istore 22 d_prog_58_method_6_20 rfl #[.val (.ref a), .val (.int (1 : Int32)), .val (.int (4 : Int32)), .val (.int ((0 : Int32) + (b1 - (48 : Int32)))), .val (.int (2 : Int32)), .val (.int (b2 - (48 : Int32)))] rfl ?_
      refine W.iload 24 d_prog_58_method_6_22 rfl rfl ?_
      refine W.if_lt 34 27 d_prog_58_method_6_24 rfl rfl ?_ ?_
      · intro hc1134
        refine W.iconst 35 d_prog_58_method_6_34 rfl (-1 : Int32) rfl ?_
        exact W.ireturn d_prog_58_method_6_35 rfl ⟨by simp only [own_go_nil, own_go_cons, own_mz, hc1132, hc1133, hc1134, if_true, if_false], rfl⟩ (by decide) (by decide)
      · intro hc1134
        refine W.iload 29 d_prog_58_method_6_27 rfl rfl ?_
        refine W.bipush 31 d_prog_58_method_6_29 rfl (9 : Int32) rfl ?_
        refine W.icmp_le 36 34 d_prog_58_method_6_31 rfl rfl ?_ ?_
        · intro hc1135
          refine W.bipush 38 d_prog_58_method_6_36 rfl (10 : Int32) rfl ?_
          refine W.iloadN 39 d_prog_58_method_6_38 rfl rfl ?_
          refine W.imul 40 d_prog_58_method_6_39 rfl ((10 : Int32) * ((0 : Int32) + (b1 - (48 : Int32)))) rfl ?_
          refine W.iload 42 d_prog_58_method_6_40 rfl rfl ?_
          refine W.iadd 43 d_prog_58_method_6_42 rfl (((10 : Int32) * ((0 : Int32) + (b1 - (48 : Int32)))) + (b2 - (48 : Int32))) rfl ?_
          refine W.istoreN 44 d_prog_58_method_6_43 rfl #[.val (.ref a), .val (.int (1 : Int32)), .val (.int (4 : Int32)), .val (.int (((10 : Int32) * ((0 : Int32) + (b1 - (48 : Int32)))) + (b2 - (48 : Int32)))), .val (.int (2 : Int32)), .val (.int (b2 - (48 : Int32)))] rfl ?_
          refine W.iinc 47 d_prog_58_method_6_44 rfl rfl (3 : Int32) (by decide) #[.val (.ref a), .val (.int (1 : Int32)), .val (.int (4 : Int32)), .val (.int (((10 : Int32) * ((0 : Int32) + (b1 - (48 : Int32)))) + (b2 - (48 : Int32)))), .val (.int (3 : Int32)), .val (.int (b2 - (48 : Int32)))] rfl ?_
          refine W.goto 5 d_prog_58_method_6_47 rfl ?_
          refine W.iload 7 d_prog_58_method_6_5 rfl rfl ?_
          refine W.iloadN 8 d_prog_58_method_6_7 rfl rfl ?_
          refine W.iloadN 9 d_prog_58_method_6_8 rfl rfl ?_
          refine W.iadd 10 d_prog_58_method_6_9 rfl (5 : Int32) (by decide) ?_
          refine W.icmp_ge 50 13 d_prog_58_method_6_10 rfl rfl (fun hc => absurd (by decide) hc) (fun _ => ?_)
          refine W.aloadN 14 d_prog_58_method_6_13 rfl rfl rfl ?_
          refine W.iload 16 d_prog_58_method_6_14 rfl rfl ?_
          refine W.baload 17 d_prog_58_method_6_16 rfl A 3 (by decide) (by decide) (.int b3) rfl ?_
          refine W.bipush 19 d_prog_58_method_6_17 rfl (48 : Int32) rfl ?_
          refine W.isub 20 d_prog_58_method_6_19 rfl (b3 - (48 : Int32)) rfl ?_
          refine W.istore 22 d_prog_58_method_6_20 rfl #[.val (.ref a), .val (.int (1 : Int32)), .val (.int (4 : Int32)), .val (.int (((10 : Int32) * ((0 : Int32) + (b1 - (48 : Int32)))) + (b2 - (48 : Int32)))), .val (.int (3 : Int32)), .val (.int (b3 - (48 : Int32)))] rfl ?_
          refine W.iload 24 d_prog_58_method_6_22 rfl rfl ?_
          refine W.if_lt 34 27 d_prog_58_method_6_24 rfl rfl ?_ ?_
          · intro hc1136
            refine W.iconst 35 d_prog_58_method_6_34 rfl (-1 : Int32) rfl ?_
            exact W.ireturn d_prog_58_method_6_35 rfl ⟨by simp only [own_go_nil, own_go_cons, own_mz, hc1132, hc1133, hc1134, hc1135, hc1136, if_true, if_false], rfl⟩ (by decide) (by decide)
          · intro hc1136
            refine W.iload 29 d_prog_58_method_6_27 rfl rfl ?_
            refine W.bipush 31 d_prog_58_method_6_29 rfl (9 : Int32) rfl ?_
            refine W.icmp_le 36 34 d_prog_58_method_6_31 rfl rfl ?_ ?_
            · intro hc1137
              refine W.bipush 38 d_prog_58_method_6_36 rfl (10 : Int32) rfl ?_
              refine W.iloadN 39 d_prog_58_method_6_38 rfl rfl ?_
              refine W.imul 40 d_prog_58_method_6_39 rfl ((10 : Int32) * (((10 : Int32) * ((0 : Int32) + (b1 - (48 : Int32)))) + (b2 - (48 : Int32)))) rfl ?_
              refine W.iload 42 d_prog_58_method_6_40 rfl rfl ?_
              refine W.iadd 43 d_prog_58_method_6_42 rfl (((10 : Int32) * (((10 : Int32) * ((0 : Int32) + (b1 - (48 : Int32)))) + (b2 - (48 : Int32)))) + (b3 - (48 : Int32))) rfl ?_
              refine W.istoreN 44 d_prog_58_method_6_43 rfl #[.val (.ref a), .val (.int (1 : Int32)), .val (.int (4 : Int32)), .val (.int (((10 : Int32) * (((10 : Int32) * ((0 : Int32) + (b1 - (48 : Int32)))) + (b2 - (48 : Int32)))) + (b3 - (48 : Int32)))), .val (.int (3 : Int32)), .val (.int (b3 - (48 : Int32)))] rfl ?_
              refine W.iinc 47 d_prog_58_method_6_44 rfl rfl (4 : Int32) (by decide) #[.val (.ref a), .val (.int (1 : Int32)), .val (.int (4 : Int32)), .val (.int (((10 : Int32) * (((10 : Int32) * ((0 : Int32) + (b1 - (48 : Int32)))) + (b2 - (48 : Int32)))) + (b3 - (48 : Int32)))), .val (.int (4 : Int32)), .val (.int (b3 - (48 : Int32)))] rfl ?_
              refine W.goto 5 d_prog_58_method_6_47 rfl ?_
              refine W.iload 7 d_prog_58_method_6_5 rfl rfl ?_
              refine W.iloadN 8 d_prog_58_method_6_7 rfl rfl ?_
              refine W.iloadN 9 d_prog_58_method_6_8 rfl rfl ?_
              refine W.iadd 10 d_prog_58_method_6_9 rfl (5 : Int32) (by decide) ?_
              refine W.icmp_ge 50 13 d_prog_58_method_6_10 rfl rfl (fun hc => absurd (by decide) hc) (fun _ => ?_)
              refine W.aloadN 14 d_prog_58_method_6_13 rfl rfl rfl ?_
              refine W.iload 16 d_prog_58_method_6_14 rfl rfl ?_
              refine W.baload 17 d_prog_58_method_6_16 rfl A 4 (by decide) (by decide) (.int b4) rfl ?_
              refine W.bipush 19 d_prog_58_method_6_17 rfl (48 : Int32) rfl ?_
              refine W.isub 20 d_prog_58_method_6_19 rfl (b4 - (48 : Int32)) rfl ?_
              refine W.istore 22 d_prog_58_method_6_20 rfl #[.val (.ref a), .val (.int (1 : Int32)), .val (.int (4 : Int32)), .val (.int (((10 : Int32) * (((10 : Int32) * ((0 : Int32) + (b1 - (48 : Int32)))) + (b2 - (48 : Int32)))) + (b3 - (48 : Int32)))), .val (.int (4 : Int32)), .val (.int (b4 - (48 : Int32)))] rfl ?_
              refine W.iload 24 d_prog_58_method_6_22 rfl rfl ?_
              refine W.if_lt 34 27 d_prog_58_method_6_24 rfl rfl ?_ ?_
              · intro hc1138
                refine W.iconst 35 d_prog_58_method_6_34 rfl (-1 : Int32) rfl ?_
                exact W.ireturn d_prog_58_method_6_35 rfl ⟨by simp only [own_go_nil, own_go_cons, own_mz, hc1132, hc1133, hc1134, hc1135, hc1136, hc1137, hc1138, if_true, if_false], rfl⟩ (by decide) (by decide)
              · intro hc1138
                refine W.iload 29 d_prog_58_method_6_27 rfl rfl ?_
                refine W.bipush 31 d_prog_58_method_6_29 rfl (9 : Int32) rfl ?_
                refine W.icmp_le 36 34 d_prog_58_method_6_31 rfl rfl ?_ ?_
                · intro hc1139
                  refine W.bipush 38 d_prog_58_method_6_36 rfl (10 : Int32) rfl ?_
                  refine W.iloadN 39 d_prog_58_method_6_38 rfl rfl ?_
                  refine W.imul 40 d_prog_58_method_6_39 rfl ((10 : Int32) * (((10 : Int32) * (((10 : Int32) * ((0 : Int32) + (b1 - (48 : Int32)))) + (b2 - (48 : Int32)))) + (b3 - (48 : Int32)))) rfl ?_
                  refine W.iload 42 d_prog_58_method_6_40 rfl rfl ?_
                  refine W.iadd 43 d_prog_58_method_6_42 rfl (((10 : Int32) * (((10 : Int32) * (((10 : Int32) * ((0 : Int32) + (b1 - (48 : Int32)))) + (b2 - (48 : Int32)))) + (b3 - (48 : Int32)))) + (b4 - (48 : Int32))) rfl ?_
                  refine W.istoreN 44 d_prog_58_method_6_43 rfl #[.val (.ref a), .val (.int (1 : Int32)), .val (.int (4 : Int32)), .val (.int (((10 : Int32) * (((10 : Int32) * (((10 : Int32) * ((0 : Int32) + (b1 - (48 : Int32)))) + (b2 - (48 : Int32)))) + (b3 - (48 : Int32)))) + (b4 - (48 : Int32)))), .val (.int (4 : Int32)), .val (.int (b4 - (48 : Int32)))] rfl ?_
                  refine W.iinc 47 d_prog_58_method_6_44 rfl rfl (5 : Int32) (by decide) #[.val (.ref a), .val (.int (1 : Int32)), .val (.int (4 : Int32)), .val (.int (((10 : Int32) * (((10 : Int32) * (((10 : Int32) * ((0 : Int32) + (b1 - (48 : Int32)))) + (b2 - (48 : Int32)))) + (b3 - (48 : Int32)))) + (b4 - (48 : Int32)))), .val (.int (5 : Int32)), .val (.int (b4 - (48 : Int32)))] rfl ?_
                  refine W.goto 5 d_prog_58_method_6_47 rfl ?_
                  refine W.iload 7 d_prog_58_method_6_5 rfl rfl ?_
                  refine W.iloadN 8 d_prog_58_method_6_7 rfl rfl ?_
                  refine W.iloadN 9 d_prog_58_method_6_8 rfl rfl ?_
                  refine W.iadd 10 d_prog_58_method_6_9 rfl (5 : Int32) (by decide) ?_
                  refine W.icmp_ge 50 13 d_prog_58_method_6_10 rfl rfl (fun _ => ?_) (fun hc => absurd hc (by decide))
                  refine W.iloadN 51 d_prog_58_method_6_50 rfl rfl ?_
                  exact W.ireturn d_prog_58_method_6_51 rfl ⟨by simp only [own_go_nil, own_go_cons, own_mz, hc1132, hc1133, hc1134, hc1135, hc1136, hc1137, hc1138, hc1139, if_true, if_false], rfl⟩ (by decide) (by decide)
                · intro hc1139
                  refine W.iconst 35 d_prog_58_method_6_34 rfl (-1 : Int32) rfl ?_
                  exact W.ireturn d_prog_58_method_6_35 rfl ⟨by simp only [own_go_nil, own_go_cons, own_mz, hc1132, hc1133, hc1134, hc1135, hc1136, hc1137, hc1138, hc1139, if_true, if_false], rfl⟩ (by decide) (by decide)
            · intro hc1137
              refine W.iconst 35 d_prog_58_method_6_34 rfl (-1 : Int32) rfl ?_
              exact W.ireturn d_prog_58_method_6_35 rfl ⟨by simp only [own_go_nil, own_go_cons, own_mz, hc1132, hc1133, hc1134, hc1135, hc1136, hc1137, if_true, if_false], rfl⟩ (by decide) (by decide)
        · intro hc1135
          refine W.iconst 35 d_prog_58_method_6_34 rfl (-1 : Int32) rfl ?_
          exact W.ireturn d_prog_58_method_6_35 rfl ⟨by simp only [own_go_nil, own_go_cons, own_mz, hc1132, hc1133, hc1134, hc1135, if_true, if_false], rfl⟩ (by decide) (by decide)
    · intro hc1133
      refine W.iconst 35 d_prog_58_method_6_34 rfl (-1 : Int32) rfl ?_
      exact W.ireturn d_prog_58_method_6_35 rfl ⟨by simp only [own_go_nil, own_go_cons, own_mz, hc1132, hc1133, if_true, if_false], rfl⟩ (by decide) (by decide)
set_option maxRecDepth 65536 in
set_option maxHeartbeats 40000000 in
theorem c_ref14 (l : Launch) (Z : State) (a0 : Array Value) (hw : ∀ d ∈ tables_1, d.before a0 Z = true) (a : Addr) (b0 b1 b2 b3 b4 : Int32) (h : Heap) (n0 : Nat) (hn : n0 ≤ h.size) (A : Ary Z h a .byte [(.int b0), (.int b1), (.int b2), (.int b3), (.int b4)]) (hb0 : own_B b0) (hb1 : own_B b1) (hb2 : own_B b2) (hb3 : own_B b3) (hb4 : own_B b4) : Con l Z (⟨"com/example/tallymark/tallymark/InputTimesDigitsPinLaw", "ref", "([BII)I"⟩ : MethodName) method_8_code 3 (some .int) ({ frames := 2, cells := 0, slots := 0, locals := 60 } : Room) #[(.ref a), (.int (1 : Int32)), (.int (4 : Int32))] h n0 (fun r h' => r = some (.int (own_go 0 [b1, b2, b3, b4])) ∧ h' = h) := by
  refine ConW.of_W (Ls := #[.val (.ref a), .val (.int (1 : Int32)), .val (.int (4 : Int32))]) (plainFor_of_name pn_0) hn (fun m => by first | (simp [entryFrame, mkF, argsToLocals, Value.category]; done) | rfl) ?_
  refine W.aloadN 1 d_method_8_0 rfl rfl rfl ?_
  refine W.iloadN 2 d_method_8_1 rfl rfl ?_
  refine W.iloadN 3 d_method_8_2 rfl rfl ?_
  refine W.iconst 4 d_method_8_3 rfl (0 : Int32) rfl ?_
  refine W.callS (rest := []) (argsL := [(.ref a), (.int (1 : Int32)), (.int (4 : Int32)), (.int (0 : Int32))]) 7 d_method_8_4 rfl (fun hn => (c_badY l Z a0 hw a (1 : Int32) (4 : Int32) (0 : Int32) b1 _ 1 _ n0 hn A (by decide) (by decide) (by decide) rfl).post (P := fun r h' => r = some (.int (own_bad b1)) ∧ h' = _) (fun v h' q => q)) (wd_12 hw) (wd_13 hw) (wd_3 hw) (wd_14 hw) (by decide) pd_2 rfl rfl rfl (by decide) 0 (Nat.le_of_ble_eq_true rfl) (by decide) (by decide) (by decide) ?_
  rintro v1140 h1140 ⟨rfl, rfl⟩
  show W _ _ _ _ _ _ _ _ _ _ _ 0 0 7 #[.val (.ref a), .val (.int (1 : Int32)), .val (.int (4 : Int32))] [(.int (own_bad b1))]
  refine W.if_ne 40 10 d_method_8_7 rfl rfl ?_ ?_
  · intro hc1141
    refine W.iconst 41 d_method_8_40 rfl (-1 : Int32) rfl ?_
    exact W.ireturn d_method_8_41 rfl ⟨by congr 2; symm; simp [own_step _ _ _ hb1, own_step _ _ _ hb2, own_step _ _ _ hb3, own_step _ _ _ hb4, hc1141], rfl⟩ (by decide) (by decide)
  · intro hc1141
    refine W.aloadN 11 d_method_8_10 rfl rfl rfl ?_
    refine W.iloadN 12 d_method_8_11 rfl rfl ?_
    refine W.iloadN 13 d_method_8_12 rfl rfl ?_
    refine W.iconst 14 d_method_8_13 rfl (1 : Int32) rfl ?_
    refine W.callS (rest := []) (argsL := [(.ref a), (.int (1 : Int32)), (.int (4 : Int32)), (.int (1 : Int32))]) 17 d_method_8_14 rfl (fun hn => (c_badY l Z a0 hw a (1 : Int32) (4 : Int32) (1 : Int32) b2 _ 2 _ n0 hn A (by decide) (by decide) (by decide) rfl).post (P := fun r h' => r = some (.int (own_bad b2)) ∧ h' = _) (fun v h' q => q)) (wd_12 hw) (wd_13 hw) (wd_3 hw) (wd_14 hw) (by decide) pd_2 rfl rfl rfl (by decide) 0 (Nat.le_of_ble_eq_true rfl) (by decide) (by decide) (by decide) ?_
    rintro v1142 h1142 ⟨rfl, rfl⟩
    show W _ _ _ _ _ _ _ _ _ _ _ 0 0 17 #[.val (.ref a), .val (.int (1 : Int32)), .val (.int (4 : Int32))] [(.int (own_bad b2))]
    refine W.if_ne 40 20 d_method_8_17 rfl rfl ?_ ?_
    · intro hc1143
      refine W.iconst 41 d_method_8_40 rfl (-1 : Int32) rfl ?_
      exact W.ireturn d_method_8_41 rfl ⟨by congr 2; symm; simp [own_step _ _ _ hb1, own_step _ _ _ hb2, own_step _ _ _ hb3, own_step _ _ _ hb4, hc1141, hc1143], rfl⟩ (by decide) (by decide)
    · intro hc1143
      refine W.aloadN 21 d_method_8_20 rfl rfl rfl ?_
      refine W.iloadN 22 d_method_8_21 rfl rfl ?_
      refine W.iloadN 23 d_method_8_22 rfl rfl ?_
      refine W.iconst 24 d_method_8_23 rfl (2 : Int32) rfl ?_
      refine W.callS (rest := []) (argsL := [(.ref a), (.int (1 : Int32)), (.int (4 : Int32)), (.int (2 : Int32))]) 27 d_method_8_24 rfl (fun hn => (c_badY l Z a0 hw a (1 : Int32) (4 : Int32) (2 : Int32) b3 _ 3 _ n0 hn A (by decide) (by decide) (by decide) rfl).post (P := fun r h' => r = some (.int (own_bad b3)) ∧ h' = _) (fun v h' q => q)) (wd_12 hw) (wd_13 hw) (wd_3 hw) (wd_14 hw) (by decide) pd_2 rfl rfl rfl (by decide) 0 (Nat.le_of_ble_eq_true rfl) (by decide) (by decide) (by decide) ?_
      rintro v1144 h1144 ⟨rfl, rfl⟩
      show W _ _ _ _ _ _ _ _ _ _ _ 0 0 27 #[.val (.ref a), .val (.int (1 : Int32)), .val (.int (4 : Int32))] [(.int (own_bad b3))]
      refine W.if_ne 40 30 d_method_8_27 rfl rfl ?_ ?_
      · intro hc1145
        refine W.iconst 41 d_method_8_40 rfl (-1 : Int32) rfl ?_
        exact W.ireturn d_method_8_41 rfl ⟨by congr 2; symm; simp [own_step _ _ _ hb1, own_step _ _ _ hb2, own_step _ _ _ hb3, own_step _ _ _ hb4, hc1141, hc1143, hc1145], rfl⟩ (by decide) (by decide)
      · intro hc1145
        refine W.aloadN 31 d_method_8_30 rfl rfl rfl ?_
        refine W.iloadN 32 d_method_8_31 rfl rfl ?_
        refine W.iloadN 33 d_method_8_32 rfl rfl ?_
        refine W.iconst 34 d_method_8_33 rfl (3 : Int32) rfl ?_
        refine W.callS (rest := []) (argsL := [(.ref a), (.int (1 : Int32)), (.int (4 : Int32)), (.int (3 : Int32))]) 37 d_method_8_34 rfl (fun hn => (c_badY l Z a0 hw a (1 : Int32) (4 : Int32) (3 : Int32) b4 _ 4 _ n0 hn A (by decide) (by decide) (by decide) rfl).post (P := fun r h' => r = some (.int (own_bad b4)) ∧ h' = _) (fun v h' q => q)) (wd_12 hw) (wd_13 hw) (wd_3 hw) (wd_14 hw) (by decide) pd_2 rfl rfl rfl (by decide) 0 (Nat.le_of_ble_eq_true rfl) (by decide) (by decide) (by decide) ?_
        rintro v1146 h1146 ⟨rfl, rfl⟩
        show W _ _ _ _ _ _ _ _ _ _ _ 0 0 37 #[.val (.ref a), .val (.int (1 : Int32)), .val (.int (4 : Int32))] [(.int (own_bad b4))]
        refine W.if_eq 42 40 d_method_8_37 rfl rfl ?_ ?_
        · intro hc1147
          refine W.aloadN 43 d_method_8_42 rfl rfl rfl ?_
          refine W.iloadN 44 d_method_8_43 rfl rfl ?_
          refine W.iloadN 45 d_method_8_44 rfl rfl ?_
          refine W.iconst 46 d_method_8_45 rfl (0 : Int32) rfl ?_
          refine W.callS (rest := []) (argsL := [(.ref a), (.int (1 : Int32)), (.int (4 : Int32)), (.int (0 : Int32))]) 49 d_method_8_46 rfl (fun hn => (c_termY l Z a0 hw a (1 : Int32) (4 : Int32) (0 : Int32) b1 _ 1 _ n0 hn A (by decide) (by decide) (by decide) rfl).post (P := fun r h' => r = some (.int (own_dig b1 * (1000 : Int32))) ∧ h' = _) (fun v h' q => q)) (wd_18 hw) (wd_19 hw) (wd_3 hw) (wd_20 hw) (by decide) pd_3 rfl rfl rfl (by decide) 0 (Nat.le_of_ble_eq_true rfl) (by decide) (by decide) (by decide) ?_
          rintro v1148 h1148 ⟨rfl, rfl⟩
          show W _ _ _ _ _ _ _ _ _ _ _ 0 0 49 #[.val (.ref a), .val (.int (1 : Int32)), .val (.int (4 : Int32))] [(.int (own_dig b1 * (1000 : Int32)))]
          refine W.aloadN 50 d_method_8_49 rfl rfl rfl ?_
          refine W.iloadN 51 d_method_8_50 rfl rfl ?_
          refine W.iloadN 52 d_method_8_51 rfl rfl ?_
          refine W.iconst 53 d_method_8_52 rfl (1 : Int32) rfl ?_
          refine W.callS (rest := [(.int (own_dig b1 * (1000 : Int32)))]) (argsL := [(.ref a), (.int (1 : Int32)), (.int (4 : Int32)), (.int (1 : Int32))]) 56 d_method_8_53 rfl (fun hn => (c_termY l Z a0 hw a (1 : Int32) (4 : Int32) (1 : Int32) b2 _ 2 _ n0 hn A (by decide) (by decide) (by decide) rfl).post (P := fun r h' => r = some (.int (own_dig b2 * (100 : Int32))) ∧ h' = _) (fun v h' q => q)) (wd_18 hw) (wd_19 hw) (wd_3 hw) (wd_20 hw) (by decide) pd_3 rfl rfl rfl (by decide) 1 (Nat.le_of_ble_eq_true rfl) (by decide) (by decide) (by decide) ?_
          rintro v1149 h1149 ⟨rfl, rfl⟩
          show W _ _ _ _ _ _ _ _ _ _ _ 0 0 56 #[.val (.ref a), .val (.int (1 : Int32)), .val (.int (4 : Int32))] [(.int (own_dig b2 * (100 : Int32))), (.int (own_dig b1 * (1000 : Int32)))]
          refine W.iadd 57 d_method_8_56 rfl ((own_dig b1 * (1000 : Int32)) + (own_dig b2 * (100 : Int32))) rfl ?_
          refine W.aloadN 58 d_method_8_57 rfl rfl rfl ?_
          refine W.iloadN 59 d_method_8_58 rfl rfl ?_
          refine W.iloadN 60 d_method_8_59 rfl rfl ?_
          refine W.iconst 61 d_method_8_60 rfl (2 : Int32) rfl ?_
          refine W.callS (rest := [(.int ((own_dig b1 * (1000 : Int32)) + (own_dig b2 * (100 : Int32))))]) (argsL := [(.ref a), (.int (1 : Int32)), (.int (4 : Int32)), (.int (2 : Int32))]) 64 d_method_8_61 rfl (fun hn => (c_termY l Z a0 hw a (1 : Int32) (4 : Int32) (2 : Int32) b3 _ 3 _ n0 hn A (by decide) (by decide) (by decide) rfl).post (P := fun r h' => r = some (.int (own_dig b3 * (10 : Int32))) ∧ h' = _) (fun v h' q => q)) (wd_18 hw) (wd_19 hw) (wd_3 hw) (wd_20 hw) (by decide) pd_3 rfl rfl rfl (by decide) 1 (Nat.le_of_ble_eq_true rfl) (by decide) (by decide) (by decide) ?_
          rintro v1150 h1150 ⟨rfl, rfl⟩
          show W _ _ _ _ _ _ _ _ _ _ _ 0 0 64 #[.val (.ref a), .val (.int (1 : Int32)), .val (.int (4 : Int32))] [(.int (own_dig b3 * (10 : Int32))), (.int ((own_dig b1 * (1000 : Int32)) + (own_dig b2 * (100 : Int32))))]
          refine W.iadd 65 d_method_8_64 rfl (((own_dig b1 * (1000 : Int32)) + (own_dig b2 * (100 : Int32))) + (own_dig b3 * (10 : Int32))) rfl ?_
          refine W.aloadN 66 d_method_8_65 rfl rfl rfl ?_
          refine W.iloadN 67 d_method_8_66 rfl rfl ?_
          refine W.iloadN 68 d_method_8_67 rfl rfl ?_
          refine W.iconst 69 d_method_8_68 rfl (3 : Int32) rfl ?_
          refine W.callS (rest := [(.int (((own_dig b1 * (1000 : Int32)) + (own_dig b2 * (100 : Int32))) + (own_dig b3 * (10 : Int32))))]) (argsL := [(.ref a), (.int (1 : Int32)), (.int (4 : Int32)), (.int (3 : Int32))]) 72 d_method_8_69 rfl (fun hn => (c_termY l Z a0 hw a (1 : Int32) (4 : Int32) (3 : Int32) b4 _ 4 _ n0 hn A (by decide) (by decide) (by decide) rfl).post (P := fun r h' => r = some (.int (own_dig b4 * (1 : Int32))) ∧ h' = _) (fun v h' q => q)) (wd_18 hw) (wd_19 hw) (wd_3 hw) (wd_20 hw) (by decide) pd_3 rfl rfl rfl (by decide) 1 (Nat.le_of_ble_eq_true rfl) (by decide) (by decide) (by decide) ?_
          rintro v1151 h1151 ⟨rfl, rfl⟩
          show W _ _ _ _ _ _ _ _ _ _ _ 0 0 72 #[.val (.ref a), .val (.int (1 : Int32)), .val (.int (4 : Int32))] [(.int (own_dig b4 * (1 : Int32))), (.int (((own_dig b1 * (1000 : Int32)) + (own_dig b2 * (100 : Int32))) + (own_dig b3 * (10 : Int32))))]
          refine W.iadd 73 d_method_8_72 rfl ((((own_dig b1 * (1000 : Int32)) + (own_dig b2 * (100 : Int32))) + (own_dig b3 * (10 : Int32))) + (own_dig b4 * (1 : Int32))) rfl ?_
          exact W.ireturn d_method_8_73 rfl ⟨by congr 2; symm; simp only [own_step _ _ _ hb1, own_step _ _ _ hb2, own_step _ _ _ hb3, own_step _ _ _ hb4, hc1141, hc1143, hc1145, hc1147, own_go_nil, if_true]; exact own_d4 _ _ _ _, rfl⟩ (by decide) (by decide)
        · intro hc1147
          refine W.iconst 41 d_method_8_40 rfl (-1 : Int32) rfl ?_
          exact W.ireturn d_method_8_41 rfl ⟨by congr 2; symm; simp [own_step _ _ _ hb1, own_step _ _ _ hb2, own_step _ _ _ hb3, own_step _ _ _ hb4, hc1141, hc1143, hc1145, hc1147], rfl⟩ (by decide) (by decide)
set_option maxRecDepth 65536 in
set_option maxHeartbeats 40000000 in
theorem law_00 (l : Launch) (Z : State) (a0 : Array Value) (hw : ∀ d ∈ tables_1, d.before a0 Z = true) (p0 p1 p2 : Int32) (h : Heap) (n0 : Nat) (hn : n0 ≤ h.size) (hF : (p2 &&& (1 : Int32)) = (0 : Int32)) (hC : ((((p2.toUInt32 >>> ((1 : Int32) &&& 31).toUInt32).toInt32) &&& (7 : Int32)) % (5 : Int32)) = (0 : Int32)) : ConW tables_1 l Z x code maxLocals ret room_1 #[(.int p0), (.int p1), (.int p2)] h n0 (fun r _ => r = some (.int 1)) := by
  refine ConW.of_W (Ls := #[.val (.int p0), .val (.int p1), .val (.int p2), .unset, .unset, .unset, .unset]) (plainFor_of_name pn_0) hn (fun m => by first | (simp [entryFrame, mkF, argsToLocals, Value.category, maxLocals]; done) | rfl) ?_
  refine W.iconst 1 at_0 rfl (5 : Int32) rfl ?_
  refine W.newarray 3 at_1 rfl (wd_0 hw) rfl (by decide) 5 5 (by decide) (by decide) (by decide) (by decide) (by decide) rfl ?_
  intro h1152 b1152 g1152 ge1152 X1152 K1152 A1152
  have A1152 : Ary _ _ b1152 .byte [(.int (0 : Int32)), (.int (0 : Int32)), (.int (0 : Int32)), (.int (0 : Int32)), (.int (0 : Int32))] := A1152
  show W _ _ _ _ _ _ _ _ _ _ _ 1 5 3 #[.val (.int p0), .val (.int p1), .val (.int p2), .unset, .unset, .unset, .unset] [(.ref b1152)]
  refine W.astoreN 4 at_3 rfl rfl #[.val (.int p0), .val (.int p1), .val (.int p2), .val (.ref b1152), .unset, .unset, .unset] rfl ?_
  refine W.aloadN 5 at_4 rfl rfl rfl ?_
  refine W.iconst 6 at_5 rfl (0 : Int32) rfl ?_
  refine W.iloadN 7 at_6 rfl rfl ?_
  refine W.iloadN 8 at_7 rfl rfl ?_
  refine W.iconst 9 at_8 rfl (0 : Int32) rfl ?_
  refine W.callS (rest := [(.int (0 : Int32)), (.ref b1152)]) (argsL := [(.int p0), (.int p1), (.int (0 : Int32))]) 12 at_9 rfl (fun hn => c_pick l Z a0 hw p0 p1 (0 : Int32) _ n0 hn) (wd_1 hw) (wd_2 hw) (wd_3 hw) (wd_4 hw) (by decide) pd_4 rfl rfl rfl (by decide) 2 (Nat.le_of_ble_eq_true rfl) (by decide) (by decide) (by decide) ?_
  rintro v1153 h1153 ⟨⟨z1153, rfl, Hz1153⟩, rfl⟩
  show W _ _ _ _ _ _ _ _ _ _ _ 1 5 12 #[.val (.int p0), .val (.int p1), .val (.int p2), .val (.ref b1152), .unset, .unset, .unset] [(.int z1153), (.int (0 : Int32)), (.ref b1152)]
  refine W.bastore 13 at_12 rfl A1152 0 (by decide) (by decide) (Nat.le_of_ble_eq_true rfl) z1153 (own_B_nar Hz1153) ge1152 ?_
  intro h1154 W1154 K1154 A1154
  have A1154 : Ary _ _ b1152 .byte [(.int z1153), (.int (0 : Int32)), (.int (0 : Int32)), (.int (0 : Int32)), (.int (0 : Int32))] := A1154
  refine W.aloadN 14 at_13 rfl rfl rfl ?_
  refine W.iconst 15 at_14 rfl (1 : Int32) rfl ?_
  refine W.iloadN 16 at_15 rfl rfl ?_
  refine W.bipush 18 at_16 rfl (8 : Int32) rfl ?_
  refine W.ishr 19 at_18 rfl (p0 >>> ((8 : Int32) &&& 31)) rfl ?_
  refine W.iloadN 20 at_19 rfl rfl ?_
  refine W.iconst 21 at_20 rfl (1 : Int32) rfl ?_
  refine W.callS (rest := [(.int (1 : Int32)), (.ref b1152)]) (argsL := [(.int (p0 >>> ((8 : Int32) &&& 31))), (.int p1), (.int (1 : Int32))]) 24 at_21 rfl (fun hn => c_pick l Z a0 hw (p0 >>> ((8 : Int32) &&& 31)) p1 (1 : Int32) _ n0 hn) (wd_1 hw) (wd_2 hw) (wd_3 hw) (wd_4 hw) (by decide) pd_4 rfl rfl rfl (by decide) 2 (Nat.le_of_ble_eq_true rfl) (by decide) (by decide) (by decide) ?_
  rintro v1155 h1155 ⟨⟨z1155, rfl, Hz1155⟩, rfl⟩
  show W _ _ _ _ _ _ _ _ _ _ _ 1 5 24 #[.val (.int p0), .val (.int p1), .val (.int p2), .val (.ref b1152), .unset, .unset, .unset] [(.int z1155), (.int (1 : Int32)), (.ref b1152)]
  refine W.bastore 25 at_24 rfl A1154 1 (by decide) (by decide) (Nat.le_of_ble_eq_true rfl) z1155 (own_B_nar Hz1155) ge1152 ?_
  intro h1156 W1156 K1156 A1156
  have A1156 : Ary _ _ b1152 .byte [(.int z1153), (.int z1155), (.int (0 : Int32)), (.int (0 : Int32)), (.int (0 : Int32))] := A1156
  refine W.aloadN 26 at_25 rfl rfl rfl ?_
  refine W.iconst 27 at_26 rfl (2 : Int32) rfl ?_
  refine W.iloadN 28 at_27 rfl rfl ?_
  refine W.bipush 30 at_28 rfl (16 : Int32) rfl ?_
  refine W.ishr 31 at_30 rfl (p0 >>> ((16 : Int32) &&& 31)) rfl ?_
  refine W.iloadN 32 at_31 rfl rfl ?_
  refine W.iconst 33 at_32 rfl (2 : Int32) rfl ?_
  refine W.callS (rest := [(.int (2 : Int32)), (.ref b1152)]) (argsL := [(.int (p0 >>> ((16 : Int32) &&& 31))), (.int p1), (.int (2 : Int32))]) 36 at_33 rfl (fun hn => c_pick l Z a0 hw (p0 >>> ((16 : Int32) &&& 31)) p1 (2 : Int32) _ n0 hn) (wd_1 hw) (wd_2 hw) (wd_3 hw) (wd_4 hw) (by decide) pd_4 rfl rfl rfl (by decide) 2 (Nat.le_of_ble_eq_true rfl) (by decide) (by decide) (by decide) ?_
  rintro v1157 h1157 ⟨⟨z1157, rfl, Hz1157⟩, rfl⟩
  show W _ _ _ _ _ _ _ _ _ _ _ 1 5 36 #[.val (.int p0), .val (.int p1), .val (.int p2), .val (.ref b1152), .unset, .unset, .unset] [(.int z1157), (.int (2 : Int32)), (.ref b1152)]
  refine W.bastore 37 at_36 rfl A1156 2 (by decide) (by decide) (Nat.le_of_ble_eq_true rfl) z1157 (own_B_nar Hz1157) ge1152 ?_
  intro h1158 W1158 K1158 A1158
  have A1158 : Ary _ _ b1152 .byte [(.int z1153), (.int z1155), (.int z1157), (.int (0 : Int32)), (.int (0 : Int32))] := A1158
  refine W.aloadN 38 at_37 rfl rfl rfl ?_
  refine W.iconst 39 at_38 rfl (3 : Int32) rfl ?_
  refine W.iloadN 40 at_39 rfl rfl ?_
  refine W.bipush 42 at_40 rfl (24 : Int32) rfl ?_
  refine W.ishr 43 at_42 rfl (p0 >>> ((24 : Int32) &&& 31)) rfl ?_
  refine W.iloadN 44 at_43 rfl rfl ?_
  refine W.iconst 45 at_44 rfl (3 : Int32) rfl ?_
  refine W.callS (rest := [(.int (3 : Int32)), (.ref b1152)]) (argsL := [(.int (p0 >>> ((24 : Int32) &&& 31))), (.int p1), (.int (3 : Int32))]) 48 at_45 rfl (fun hn => c_pick l Z a0 hw (p0 >>> ((24 : Int32) &&& 31)) p1 (3 : Int32) _ n0 hn) (wd_1 hw) (wd_2 hw) (wd_3 hw) (wd_4 hw) (by decide) pd_4 rfl rfl rfl (by decide) 2 (Nat.le_of_ble_eq_true rfl) (by decide) (by decide) (by decide) ?_
  rintro v1159 h1159 ⟨⟨z1159, rfl, Hz1159⟩, rfl⟩
  show W _ _ _ _ _ _ _ _ _ _ _ 1 5 48 #[.val (.int p0), .val (.int p1), .val (.int p2), .val (.ref b1152), .unset, .unset, .unset] [(.int z1159), (.int (3 : Int32)), (.ref b1152)]
  refine W.bastore 49 at_48 rfl A1158 3 (by decide) (by decide) (Nat.le_of_ble_eq_true rfl) z1159 (own_B_nar Hz1159) ge1152 ?_
  intro h1160 W1160 K1160 A1160
  have A1160 : Ary _ _ b1152 .byte [(.int z1153), (.int z1155), (.int z1157), (.int z1159), (.int (0 : Int32))] := A1160
  refine W.aloadN 50 at_49 rfl rfl rfl ?_
  refine W.iconst 51 at_50 rfl (4 : Int32) rfl ?_
  refine W.iloadN 52 at_51 rfl rfl ?_
  refine W.bipush 54 at_52 rfl (8 : Int32) rfl ?_
  refine W.ishr 55 at_54 rfl (p2 >>> ((8 : Int32) &&& 31)) rfl ?_
  refine W.iloadN 56 at_55 rfl rfl ?_
  refine W.iconst 57 at_56 rfl (4 : Int32) rfl ?_
  refine W.callS (rest := [(.int (4 : Int32)), (.ref b1152)]) (argsL := [(.int (p2 >>> ((8 : Int32) &&& 31))), (.int p1), (.int (4 : Int32))]) 60 at_57 rfl (fun hn => c_pick l Z a0 hw (p2 >>> ((8 : Int32) &&& 31)) p1 (4 : Int32) _ n0 hn) (wd_1 hw) (wd_2 hw) (wd_3 hw) (wd_4 hw) (by decide) pd_4 rfl rfl rfl (by decide) 2 (Nat.le_of_ble_eq_true rfl) (by decide) (by decide) (by decide) ?_
  rintro v1161 h1161 ⟨⟨z1161, rfl, Hz1161⟩, rfl⟩
  show W _ _ _ _ _ _ _ _ _ _ _ 1 5 60 #[.val (.int p0), .val (.int p1), .val (.int p2), .val (.ref b1152), .unset, .unset, .unset] [(.int z1161), (.int (4 : Int32)), (.ref b1152)]
  refine W.bastore 61 at_60 rfl A1160 4 (by decide) (by decide) (Nat.le_of_ble_eq_true rfl) z1161 (own_B_nar Hz1161) ge1152 ?_
  intro h1162 W1162 K1162 A1162
  have A1162 : Ary _ _ b1152 .byte [(.int z1153), (.int z1155), (.int z1157), (.int z1159), (.int z1161)] := A1162
  refine W.iloadN 62 at_61 rfl rfl ?_
  refine W.iconst 63 at_62 rfl (1 : Int32) rfl ?_
  refine W.iand 64 at_63 rfl (0 : Int32) hF ?_
  refine W.istore 66 at_64 rfl #[.val (.int p0), .val (.int p1), .val (.int p2), .val (.ref b1152), .val (.int (0 : Int32)), .unset, .unset] rfl ?_
  refine W.iloadN 67 at_66 rfl rfl ?_
  refine W.iconst 68 at_67 rfl (1 : Int32) rfl ?_
  refine W.iushr 69 at_68 rfl ((p2.toUInt32 >>> ((1 : Int32) &&& 31).toUInt32).toInt32) rfl ?_
  refine W.bipush 71 at_69 rfl (7 : Int32) rfl ?_
  refine W.iand 72 at_71 rfl (((p2.toUInt32 >>> ((1 : Int32) &&& 31).toUInt32).toInt32) &&& (7 : Int32)) rfl ?_
  refine W.iconst 73 at_72 rfl (5 : Int32) rfl ?_
  refine W.irem 74 at_73 rfl (by decide) (0 : Int32) hC ?_
  refine W.istore 76 at_74 rfl #[.val (.int p0), .val (.int p1), .val (.int p2), .val (.ref b1152), .val (.int (0 : Int32)), .val (.int (0 : Int32)), .unset] rfl ?_
  refine W.aloadN 77 at_76 rfl rfl rfl ?_
  refine W.iload 79 at_77 rfl rfl ?_
  refine W.iload 81 at_79 rfl rfl ?_
  refine W.callS (rest := []) (argsL := [(.ref b1152), (.int (0 : Int32)), (.int (0 : Int32))]) 84 at_81 rfl (fun hn => c_ds00 l Z a0 hw b1152 z1153 z1155 z1157 z1159 z1161 _ n0 hn A1162 Hz1153 Hz1155 Hz1157 Hz1159 Hz1161) (wd_5 hw) (wd_6 hw) (wd_7 hw) (wd_8 hw) (by decide) pd_5 rfl rfl rfl (by decide) 0 (Nat.le_of_ble_eq_true rfl) (by decide) (by decide) (by decide) ?_
  rintro v1163 h1163 ⟨rfl, rfl⟩
  show W _ _ _ _ _ _ _ _ _ _ _ 1 5 84 #[.val (.int p0), .val (.int p1), .val (.int p2), .val (.ref b1152), .val (.int (0 : Int32)), .val (.int (0 : Int32)), .unset] [(.int (own_go 0 []))]
  refine W.istore 86 at_84 rfl #[.val (.int p0), .val (.int p1), .val (.int p2), .val (.ref b1152), .val (.int (0 : Int32)), .val (.int (0 : Int32)), .val (.int (own_go 0 []))] rfl ?_
  refine W.iload 88 at_86 rfl rfl ?_
  refine W.aloadN 89 at_88 rfl rfl rfl ?_
  refine W.iload 91 at_89 rfl rfl ?_
  refine W.iload 93 at_91 rfl rfl ?_
  refine W.callS (rest := [(.int (own_go 0 []))]) (argsL := [(.ref b1152), (.int (0 : Int32)), (.int (0 : Int32))]) 96 at_93 rfl (fun hn => c_ref00 l Z a0 hw b1152 z1153 z1155 z1157 z1159 z1161 _ n0 hn A1162 Hz1153 Hz1155 Hz1157 Hz1159 Hz1161) (wd_9 hw) (wd_10 hw) (wd_3 hw) (wd_11 hw) (by decide) pd_5 rfl rfl rfl (by decide) 1 (Nat.le_of_ble_eq_true rfl) (by decide) (by decide) (by decide) ?_
  rintro v1164 h1164 ⟨rfl, rfl⟩
  show W _ _ _ _ _ _ _ _ _ _ _ 1 5 96 #[.val (.int p0), .val (.int p1), .val (.int p2), .val (.ref b1152), .val (.int (0 : Int32)), .val (.int (0 : Int32)), .val (.int (own_go 0 []))] [(.int (own_go 0 [])), (.int (own_go 0 []))]
  refine W.icmp_ne 103 99 at_96 rfl rfl (fun hc => absurd rfl hc) (fun _ => ?_)
  refine W.iconst 100 at_99 rfl (1 : Int32) rfl ?_
  refine W.goto 104 at_100 rfl ?_
  exact W.ireturnN (t := .boolean) at_104 rfl (by simp) (1 : Int32) rfl rfl (by decide) (by decide)
set_option maxRecDepth 65536 in
set_option maxHeartbeats 40000000 in
theorem law_01 (l : Launch) (Z : State) (a0 : Array Value) (hw : ∀ d ∈ tables_1, d.before a0 Z = true) (p0 p1 p2 : Int32) (h : Heap) (n0 : Nat) (hn : n0 ≤ h.size) (hF : (p2 &&& (1 : Int32)) = (0 : Int32)) (hC : ((((p2.toUInt32 >>> ((1 : Int32) &&& 31).toUInt32).toInt32) &&& (7 : Int32)) % (5 : Int32)) = (1 : Int32)) : ConW tables_1 l Z x code maxLocals ret room_1 #[(.int p0), (.int p1), (.int p2)] h n0 (fun r _ => r = some (.int 1)) := by
  refine ConW.of_W (Ls := #[.val (.int p0), .val (.int p1), .val (.int p2), .unset, .unset, .unset, .unset]) (plainFor_of_name pn_0) hn (fun m => by first | (simp [entryFrame, mkF, argsToLocals, Value.category, maxLocals]; done) | rfl) ?_
  refine W.iconst 1 at_0 rfl (5 : Int32) rfl ?_
  refine W.newarray 3 at_1 rfl (wd_0 hw) rfl (by decide) 5 5 (by decide) (by decide) (by decide) (by decide) (by decide) rfl ?_
  intro h1165 b1165 g1165 ge1165 X1165 K1165 A1165
  have A1165 : Ary _ _ b1165 .byte [(.int (0 : Int32)), (.int (0 : Int32)), (.int (0 : Int32)), (.int (0 : Int32)), (.int (0 : Int32))] := A1165
  show W _ _ _ _ _ _ _ _ _ _ _ 1 5 3 #[.val (.int p0), .val (.int p1), .val (.int p2), .unset, .unset, .unset, .unset] [(.ref b1165)]
  refine W.astoreN 4 at_3 rfl rfl #[.val (.int p0), .val (.int p1), .val (.int p2), .val (.ref b1165), .unset, .unset, .unset] rfl ?_
  refine W.aloadN 5 at_4 rfl rfl rfl ?_
  refine W.iconst 6 at_5 rfl (0 : Int32) rfl ?_
  refine W.iloadN 7 at_6 rfl rfl ?_
  refine W.iloadN 8 at_7 rfl rfl ?_
  refine W.iconst 9 at_8 rfl (0 : Int32) rfl ?_
  refine W.callS (rest := [(.int (0 : Int32)), (.ref b1165)]) (argsL := [(.int p0), (.int p1), (.int (0 : Int32))]) 12 at_9 rfl (fun hn => c_pick l Z a0 hw p0 p1 (0 : Int32) _ n0 hn) (wd_1 hw) (wd_2 hw) (wd_3 hw) (wd_4 hw) (by decide) pd_4 rfl rfl rfl (by decide) 2 (Nat.le_of_ble_eq_true rfl) (by decide) (by decide) (by decide) ?_
  rintro v1166 h1166 ⟨⟨z1166, rfl, Hz1166⟩, rfl⟩
  show W _ _ _ _ _ _ _ _ _ _ _ 1 5 12 #[.val (.int p0), .val (.int p1), .val (.int p2), .val (.ref b1165), .unset, .unset, .unset] [(.int z1166), (.int (0 : Int32)), (.ref b1165)]
  refine W.bastore 13 at_12 rfl A1165 0 (by decide) (by decide) (Nat.le_of_ble_eq_true rfl) z1166 (own_B_nar Hz1166) ge1165 ?_
  intro h1167 W1167 K1167 A1167
  have A1167 : Ary _ _ b1165 .byte [(.int z1166), (.int (0 : Int32)), (.int (0 : Int32)), (.int (0 : Int32)), (.int (0 : Int32))] := A1167
  refine W.aloadN 14 at_13 rfl rfl rfl ?_
  refine W.iconst 15 at_14 rfl (1 : Int32) rfl ?_
  refine W.iloadN 16 at_15 rfl rfl ?_
  refine W.bipush 18 at_16 rfl (8 : Int32) rfl ?_
  refine W.ishr 19 at_18 rfl (p0 >>> ((8 : Int32) &&& 31)) rfl ?_
  refine W.iloadN 20 at_19 rfl rfl ?_
  refine W.iconst 21 at_20 rfl (1 : Int32) rfl ?_
  refine W.callS (rest := [(.int (1 : Int32)), (.ref b1165)]) (argsL := [(.int (p0 >>> ((8 : Int32) &&& 31))), (.int p1), (.int (1 : Int32))]) 24 at_21 rfl (fun hn => c_pick l Z a0 hw (p0 >>> ((8 : Int32) &&& 31)) p1 (1 : Int32) _ n0 hn) (wd_1 hw) (wd_2 hw) (wd_3 hw) (wd_4 hw) (by decide) pd_4 rfl rfl rfl (by decide) 2 (Nat.le_of_ble_eq_true rfl) (by decide) (by decide) (by decide) ?_
  rintro v1168 h1168 ⟨⟨z1168, rfl, Hz1168⟩, rfl⟩
  show W _ _ _ _ _ _ _ _ _ _ _ 1 5 24 #[.val (.int p0), .val (.int p1), .val (.int p2), .val (.ref b1165), .unset, .unset, .unset] [(.int z1168), (.int (1 : Int32)), (.ref b1165)]
  refine W.bastore 25 at_24 rfl A1167 1 (by decide) (by decide) (Nat.le_of_ble_eq_true rfl) z1168 (own_B_nar Hz1168) ge1165 ?_
  intro h1169 W1169 K1169 A1169
  have A1169 : Ary _ _ b1165 .byte [(.int z1166), (.int z1168), (.int (0 : Int32)), (.int (0 : Int32)), (.int (0 : Int32))] := A1169
  refine W.aloadN 26 at_25 rfl rfl rfl ?_
  refine W.iconst 27 at_26 rfl (2 : Int32) rfl ?_
  refine W.iloadN 28 at_27 rfl rfl ?_
  refine W.bipush 30 at_28 rfl (16 : Int32) rfl ?_
  refine W.ishr 31 at_30 rfl (p0 >>> ((16 : Int32) &&& 31)) rfl ?_
  refine W.iloadN 32 at_31 rfl rfl ?_
  refine W.iconst 33 at_32 rfl (2 : Int32) rfl ?_
  refine W.callS (rest := [(.int (2 : Int32)), (.ref b1165)]) (argsL := [(.int (p0 >>> ((16 : Int32) &&& 31))), (.int p1), (.int (2 : Int32))]) 36 at_33 rfl (fun hn => c_pick l Z a0 hw (p0 >>> ((16 : Int32) &&& 31)) p1 (2 : Int32) _ n0 hn) (wd_1 hw) (wd_2 hw) (wd_3 hw) (wd_4 hw) (by decide) pd_4 rfl rfl rfl (by decide) 2 (Nat.le_of_ble_eq_true rfl) (by decide) (by decide) (by decide) ?_
  rintro v1170 h1170 ⟨⟨z1170, rfl, Hz1170⟩, rfl⟩
  show W _ _ _ _ _ _ _ _ _ _ _ 1 5 36 #[.val (.int p0), .val (.int p1), .val (.int p2), .val (.ref b1165), .unset, .unset, .unset] [(.int z1170), (.int (2 : Int32)), (.ref b1165)]
  refine W.bastore 37 at_36 rfl A1169 2 (by decide) (by decide) (Nat.le_of_ble_eq_true rfl) z1170 (own_B_nar Hz1170) ge1165 ?_
  intro h1171 W1171 K1171 A1171
  have A1171 : Ary _ _ b1165 .byte [(.int z1166), (.int z1168), (.int z1170), (.int (0 : Int32)), (.int (0 : Int32))] := A1171
  refine W.aloadN 38 at_37 rfl rfl rfl ?_
  refine W.iconst 39 at_38 rfl (3 : Int32) rfl ?_
  refine W.iloadN 40 at_39 rfl rfl ?_
  refine W.bipush 42 at_40 rfl (24 : Int32) rfl ?_
  refine W.ishr 43 at_42 rfl (p0 >>> ((24 : Int32) &&& 31)) rfl ?_
  refine W.iloadN 44 at_43 rfl rfl ?_
  refine W.iconst 45 at_44 rfl (3 : Int32) rfl ?_
  refine W.callS (rest := [(.int (3 : Int32)), (.ref b1165)]) (argsL := [(.int (p0 >>> ((24 : Int32) &&& 31))), (.int p1), (.int (3 : Int32))]) 48 at_45 rfl (fun hn => c_pick l Z a0 hw (p0 >>> ((24 : Int32) &&& 31)) p1 (3 : Int32) _ n0 hn) (wd_1 hw) (wd_2 hw) (wd_3 hw) (wd_4 hw) (by decide) pd_4 rfl rfl rfl (by decide) 2 (Nat.le_of_ble_eq_true rfl) (by decide) (by decide) (by decide) ?_
  rintro v1172 h1172 ⟨⟨z1172, rfl, Hz1172⟩, rfl⟩
  show W _ _ _ _ _ _ _ _ _ _ _ 1 5 48 #[.val (.int p0), .val (.int p1), .val (.int p2), .val (.ref b1165), .unset, .unset, .unset] [(.int z1172), (.int (3 : Int32)), (.ref b1165)]
  refine W.bastore 49 at_48 rfl A1171 3 (by decide) (by decide) (Nat.le_of_ble_eq_true rfl) z1172 (own_B_nar Hz1172) ge1165 ?_
  intro h1173 W1173 K1173 A1173
  have A1173 : Ary _ _ b1165 .byte [(.int z1166), (.int z1168), (.int z1170), (.int z1172), (.int (0 : Int32))] := A1173
  refine W.aloadN 50 at_49 rfl rfl rfl ?_
  refine W.iconst 51 at_50 rfl (4 : Int32) rfl ?_
  refine W.iloadN 52 at_51 rfl rfl ?_
  refine W.bipush 54 at_52 rfl (8 : Int32) rfl ?_
  refine W.ishr 55 at_54 rfl (p2 >>> ((8 : Int32) &&& 31)) rfl ?_
  refine W.iloadN 56 at_55 rfl rfl ?_
  refine W.iconst 57 at_56 rfl (4 : Int32) rfl ?_
  refine W.callS (rest := [(.int (4 : Int32)), (.ref b1165)]) (argsL := [(.int (p2 >>> ((8 : Int32) &&& 31))), (.int p1), (.int (4 : Int32))]) 60 at_57 rfl (fun hn => c_pick l Z a0 hw (p2 >>> ((8 : Int32) &&& 31)) p1 (4 : Int32) _ n0 hn) (wd_1 hw) (wd_2 hw) (wd_3 hw) (wd_4 hw) (by decide) pd_4 rfl rfl rfl (by decide) 2 (Nat.le_of_ble_eq_true rfl) (by decide) (by decide) (by decide) ?_
  rintro v1174 h1174 ⟨⟨z1174, rfl, Hz1174⟩, rfl⟩
  show W _ _ _ _ _ _ _ _ _ _ _ 1 5 60 #[.val (.int p0), .val (.int p1), .val (.int p2), .val (.ref b1165), .unset, .unset, .unset] [(.int z1174), (.int (4 : Int32)), (.ref b1165)]
  refine W.bastore 61 at_60 rfl A1173 4 (by decide) (by decide) (Nat.le_of_ble_eq_true rfl) z1174 (own_B_nar Hz1174) ge1165 ?_
  intro h1175 W1175 K1175 A1175
  have A1175 : Ary _ _ b1165 .byte [(.int z1166), (.int z1168), (.int z1170), (.int z1172), (.int z1174)] := A1175
  refine W.iloadN 62 at_61 rfl rfl ?_
  refine W.iconst 63 at_62 rfl (1 : Int32) rfl ?_
  refine W.iand 64 at_63 rfl (0 : Int32) hF ?_
  refine W.istore 66 at_64 rfl #[.val (.int p0), .val (.int p1), .val (.int p2), .val (.ref b1165), .val (.int (0 : Int32)), .unset, .unset] rfl ?_
  refine W.iloadN 67 at_66 rfl rfl ?_
  refine W.iconst 68 at_67 rfl (1 : Int32) rfl ?_
  refine W.iushr 69 at_68 rfl ((p2.toUInt32 >>> ((1 : Int32) &&& 31).toUInt32).toInt32) rfl ?_
  refine W.bipush 71 at_69 rfl (7 : Int32) rfl ?_
  refine W.iand 72 at_71 rfl (((p2.toUInt32 >>> ((1 : Int32) &&& 31).toUInt32).toInt32) &&& (7 : Int32)) rfl ?_
  refine W.iconst 73 at_72 rfl (5 : Int32) rfl ?_
  refine W.irem 74 at_73 rfl (by decide) (1 : Int32) hC ?_
  refine W.istore 76 at_74 rfl #[.val (.int p0), .val (.int p1), .val (.int p2), .val (.ref b1165), .val (.int (0 : Int32)), .val (.int (1 : Int32)), .unset] rfl ?_
  refine W.aloadN 77 at_76 rfl rfl rfl ?_
  refine W.iload 79 at_77 rfl rfl ?_
  refine W.iload 81 at_79 rfl rfl ?_
  refine W.callS (rest := []) (argsL := [(.ref b1165), (.int (0 : Int32)), (.int (1 : Int32))]) 84 at_81 rfl (fun hn => c_ds01 l Z a0 hw b1165 z1166 z1168 z1170 z1172 z1174 _ n0 hn A1175 Hz1166 Hz1168 Hz1170 Hz1172 Hz1174) (wd_5 hw) (wd_6 hw) (wd_7 hw) (wd_8 hw) (by decide) pd_5 rfl rfl rfl (by decide) 0 (Nat.le_of_ble_eq_true rfl) (by decide) (by decide) (by decide) ?_
  rintro v1176 h1176 ⟨rfl, rfl⟩
  show W _ _ _ _ _ _ _ _ _ _ _ 1 5 84 #[.val (.int p0), .val (.int p1), .val (.int p2), .val (.ref b1165), .val (.int (0 : Int32)), .val (.int (1 : Int32)), .unset] [(.int (own_go 0 [z1166]))]
  refine W.istore 86 at_84 rfl #[.val (.int p0), .val (.int p1), .val (.int p2), .val (.ref b1165), .val (.int (0 : Int32)), .val (.int (1 : Int32)), .val (.int (own_go 0 [z1166]))] rfl ?_
  refine W.iload 88 at_86 rfl rfl ?_
  refine W.aloadN 89 at_88 rfl rfl rfl ?_
  refine W.iload 91 at_89 rfl rfl ?_
  refine W.iload 93 at_91 rfl rfl ?_
  refine W.callS (rest := [(.int (own_go 0 [z1166]))]) (argsL := [(.ref b1165), (.int (0 : Int32)), (.int (1 : Int32))]) 96 at_93 rfl (fun hn => c_ref01 l Z a0 hw b1165 z1166 z1168 z1170 z1172 z1174 _ n0 hn A1175 Hz1166 Hz1168 Hz1170 Hz1172 Hz1174) (wd_9 hw) (wd_10 hw) (wd_3 hw) (wd_11 hw) (by decide) pd_5 rfl rfl rfl (by decide) 1 (Nat.le_of_ble_eq_true rfl) (by decide) (by decide) (by decide) ?_
  rintro v1177 h1177 ⟨rfl, rfl⟩
  show W _ _ _ _ _ _ _ _ _ _ _ 1 5 96 #[.val (.int p0), .val (.int p1), .val (.int p2), .val (.ref b1165), .val (.int (0 : Int32)), .val (.int (1 : Int32)), .val (.int (own_go 0 [z1166]))] [(.int (own_go 0 [z1166])), (.int (own_go 0 [z1166]))]
  refine W.icmp_ne 103 99 at_96 rfl rfl (fun hc => absurd rfl hc) (fun _ => ?_)
  refine W.iconst 100 at_99 rfl (1 : Int32) rfl ?_
  refine W.goto 104 at_100 rfl ?_
  exact W.ireturnN (t := .boolean) at_104 rfl (by simp) (1 : Int32) rfl rfl (by decide) (by decide)
set_option maxRecDepth 65536 in
set_option maxHeartbeats 40000000 in
theorem law_02 (l : Launch) (Z : State) (a0 : Array Value) (hw : ∀ d ∈ tables_1, d.before a0 Z = true) (p0 p1 p2 : Int32) (h : Heap) (n0 : Nat) (hn : n0 ≤ h.size) (hF : (p2 &&& (1 : Int32)) = (0 : Int32)) (hC : ((((p2.toUInt32 >>> ((1 : Int32) &&& 31).toUInt32).toInt32) &&& (7 : Int32)) % (5 : Int32)) = (2 : Int32)) : ConW tables_1 l Z x code maxLocals ret room_1 #[(.int p0), (.int p1), (.int p2)] h n0 (fun r _ => r = some (.int 1)) := by
  refine ConW.of_W (Ls := #[.val (.int p0), .val (.int p1), .val (.int p2), .unset, .unset, .unset, .unset]) (plainFor_of_name pn_0) hn (fun m => by first | (simp [entryFrame, mkF, argsToLocals, Value.category, maxLocals]; done) | rfl) ?_
  refine W.iconst 1 at_0 rfl (5 : Int32) rfl ?_
  refine W.newarray 3 at_1 rfl (wd_0 hw) rfl (by decide) 5 5 (by decide) (by decide) (by decide) (by decide) (by decide) rfl ?_
  intro h1178 b1178 g1178 ge1178 X1178 K1178 A1178
  have A1178 : Ary _ _ b1178 .byte [(.int (0 : Int32)), (.int (0 : Int32)), (.int (0 : Int32)), (.int (0 : Int32)), (.int (0 : Int32))] := A1178
  show W _ _ _ _ _ _ _ _ _ _ _ 1 5 3 #[.val (.int p0), .val (.int p1), .val (.int p2), .unset, .unset, .unset, .unset] [(.ref b1178)]
  refine W.astoreN 4 at_3 rfl rfl #[.val (.int p0), .val (.int p1), .val (.int p2), .val (.ref b1178), .unset, .unset, .unset] rfl ?_
  refine W.aloadN 5 at_4 rfl rfl rfl ?_
  refine W.iconst 6 at_5 rfl (0 : Int32) rfl ?_
  refine W.iloadN 7 at_6 rfl rfl ?_
  refine W.iloadN 8 at_7 rfl rfl ?_
  refine W.iconst 9 at_8 rfl (0 : Int32) rfl ?_
  refine W.callS (rest := [(.int (0 : Int32)), (.ref b1178)]) (argsL := [(.int p0), (.int p1), (.int (0 : Int32))]) 12 at_9 rfl (fun hn => c_pick l Z a0 hw p0 p1 (0 : Int32) _ n0 hn) (wd_1 hw) (wd_2 hw) (wd_3 hw) (wd_4 hw) (by decide) pd_4 rfl rfl rfl (by decide) 2 (Nat.le_of_ble_eq_true rfl) (by decide) (by decide) (by decide) ?_
  rintro v1179 h1179 ⟨⟨z1179, rfl, Hz1179⟩, rfl⟩
  show W _ _ _ _ _ _ _ _ _ _ _ 1 5 12 #[.val (.int p0), .val (.int p1), .val (.int p2), .val (.ref b1178), .unset, .unset, .unset] [(.int z1179), (.int (0 : Int32)), (.ref b1178)]
  refine W.bastore 13 at_12 rfl A1178 0 (by decide) (by decide) (Nat.le_of_ble_eq_true rfl) z1179 (own_B_nar Hz1179) ge1178 ?_
  intro h1180 W1180 K1180 A1180
  have A1180 : Ary _ _ b1178 .byte [(.int z1179), (.int (0 : Int32)), (.int (0 : Int32)), (.int (0 : Int32)), (.int (0 : Int32))] := A1180
  refine W.aloadN 14 at_13 rfl rfl rfl ?_
  refine W.iconst 15 at_14 rfl (1 : Int32) rfl ?_
  refine W.iloadN 16 at_15 rfl rfl ?_
  refine W.bipush 18 at_16 rfl (8 : Int32) rfl ?_
  refine W.ishr 19 at_18 rfl (p0 >>> ((8 : Int32) &&& 31)) rfl ?_
  refine W.iloadN 20 at_19 rfl rfl ?_
  refine W.iconst 21 at_20 rfl (1 : Int32) rfl ?_
  refine W.callS (rest := [(.int (1 : Int32)), (.ref b1178)]) (argsL := [(.int (p0 >>> ((8 : Int32) &&& 31))), (.int p1), (.int (1 : Int32))]) 24 at_21 rfl (fun hn => c_pick l Z a0 hw (p0 >>> ((8 : Int32) &&& 31)) p1 (1 : Int32) _ n0 hn) (wd_1 hw) (wd_2 hw) (wd_3 hw) (wd_4 hw) (by decide) pd_4 rfl rfl rfl (by decide) 2 (Nat.le_of_ble_eq_true rfl) (by decide) (by decide) (by decide) ?_
  rintro v1181 h1181 ⟨⟨z1181, rfl, Hz1181⟩, rfl⟩
  show W _ _ _ _ _ _ _ _ _ _ _ 1 5 24 #[.val (.int p0), .val (.int p1), .val (.int p2), .val (.ref b1178), .unset, .unset, .unset] [(.int z1181), (.int (1 : Int32)), (.ref b1178)]
  refine W.bastore 25 at_24 rfl A1180 1 (by decide) (by decide) (Nat.le_of_ble_eq_true rfl) z1181 (own_B_nar Hz1181) ge1178 ?_
  intro h1182 W1182 K1182 A1182
  have A1182 : Ary _ _ b1178 .byte [(.int z1179), (.int z1181), (.int (0 : Int32)), (.int (0 : Int32)), (.int (0 : Int32))] := A1182
  refine W.aloadN 26 at_25 rfl rfl rfl ?_
  refine W.iconst 27 at_26 rfl (2 : Int32) rfl ?_
  refine W.iloadN 28 at_27 rfl rfl ?_
  refine W.bipush 30 at_28 rfl (16 : Int32) rfl ?_
  refine W.ishr 31 at_30 rfl (p0 >>> ((16 : Int32) &&& 31)) rfl ?_
  refine W.iloadN 32 at_31 rfl rfl ?_
  refine W.iconst 33 at_32 rfl (2 : Int32) rfl ?_
  refine W.callS (rest := [(.int (2 : Int32)), (.ref b1178)]) (argsL := [(.int (p0 >>> ((16 : Int32) &&& 31))), (.int p1), (.int (2 : Int32))]) 36 at_33 rfl (fun hn => c_pick l Z a0 hw (p0 >>> ((16 : Int32) &&& 31)) p1 (2 : Int32) _ n0 hn) (wd_1 hw) (wd_2 hw) (wd_3 hw) (wd_4 hw) (by decide) pd_4 rfl rfl rfl (by decide) 2 (Nat.le_of_ble_eq_true rfl) (by decide) (by decide) (by decide) ?_
  rintro v1183 h1183 ⟨⟨z1183, rfl, Hz1183⟩, rfl⟩
  show W _ _ _ _ _ _ _ _ _ _ _ 1 5 36 #[.val (.int p0), .val (.int p1), .val (.int p2), .val (.ref b1178), .unset, .unset, .unset] [(.int z1183), (.int (2 : Int32)), (.ref b1178)]
  refine W.bastore 37 at_36 rfl A1182 2 (by decide) (by decide) (Nat.le_of_ble_eq_true rfl) z1183 (own_B_nar Hz1183) ge1178 ?_
  intro h1184 W1184 K1184 A1184
  have A1184 : Ary _ _ b1178 .byte [(.int z1179), (.int z1181), (.int z1183), (.int (0 : Int32)), (.int (0 : Int32))] := A1184
  refine W.aloadN 38 at_37 rfl rfl rfl ?_
  refine W.iconst 39 at_38 rfl (3 : Int32) rfl ?_
  refine W.iloadN 40 at_39 rfl rfl ?_
  refine W.bipush 42 at_40 rfl (24 : Int32) rfl ?_
  refine W.ishr 43 at_42 rfl (p0 >>> ((24 : Int32) &&& 31)) rfl ?_
  refine W.iloadN 44 at_43 rfl rfl ?_
  refine W.iconst 45 at_44 rfl (3 : Int32) rfl ?_
  refine W.callS (rest := [(.int (3 : Int32)), (.ref b1178)]) (argsL := [(.int (p0 >>> ((24 : Int32) &&& 31))), (.int p1), (.int (3 : Int32))]) 48 at_45 rfl (fun hn => c_pick l Z a0 hw (p0 >>> ((24 : Int32) &&& 31)) p1 (3 : Int32) _ n0 hn) (wd_1 hw) (wd_2 hw) (wd_3 hw) (wd_4 hw) (by decide) pd_4 rfl rfl rfl (by decide) 2 (Nat.le_of_ble_eq_true rfl) (by decide) (by decide) (by decide) ?_
  rintro v1185 h1185 ⟨⟨z1185, rfl, Hz1185⟩, rfl⟩
  show W _ _ _ _ _ _ _ _ _ _ _ 1 5 48 #[.val (.int p0), .val (.int p1), .val (.int p2), .val (.ref b1178), .unset, .unset, .unset] [(.int z1185), (.int (3 : Int32)), (.ref b1178)]
  refine W.bastore 49 at_48 rfl A1184 3 (by decide) (by decide) (Nat.le_of_ble_eq_true rfl) z1185 (own_B_nar Hz1185) ge1178 ?_
  intro h1186 W1186 K1186 A1186
  have A1186 : Ary _ _ b1178 .byte [(.int z1179), (.int z1181), (.int z1183), (.int z1185), (.int (0 : Int32))] := A1186
  refine W.aloadN 50 at_49 rfl rfl rfl ?_
  refine W.iconst 51 at_50 rfl (4 : Int32) rfl ?_
  refine W.iloadN 52 at_51 rfl rfl ?_
  refine W.bipush 54 at_52 rfl (8 : Int32) rfl ?_
  refine W.ishr 55 at_54 rfl (p2 >>> ((8 : Int32) &&& 31)) rfl ?_
  refine W.iloadN 56 at_55 rfl rfl ?_
  refine W.iconst 57 at_56 rfl (4 : Int32) rfl ?_
  refine W.callS (rest := [(.int (4 : Int32)), (.ref b1178)]) (argsL := [(.int (p2 >>> ((8 : Int32) &&& 31))), (.int p1), (.int (4 : Int32))]) 60 at_57 rfl (fun hn => c_pick l Z a0 hw (p2 >>> ((8 : Int32) &&& 31)) p1 (4 : Int32) _ n0 hn) (wd_1 hw) (wd_2 hw) (wd_3 hw) (wd_4 hw) (by decide) pd_4 rfl rfl rfl (by decide) 2 (Nat.le_of_ble_eq_true rfl) (by decide) (by decide) (by decide) ?_
  rintro v1187 h1187 ⟨⟨z1187, rfl, Hz1187⟩, rfl⟩
  show W _ _ _ _ _ _ _ _ _ _ _ 1 5 60 #[.val (.int p0), .val (.int p1), .val (.int p2), .val (.ref b1178), .unset, .unset, .unset] [(.int z1187), (.int (4 : Int32)), (.ref b1178)]
  refine W.bastore 61 at_60 rfl A1186 4 (by decide) (by decide) (Nat.le_of_ble_eq_true rfl) z1187 (own_B_nar Hz1187) ge1178 ?_
  intro h1188 W1188 K1188 A1188
  have A1188 : Ary _ _ b1178 .byte [(.int z1179), (.int z1181), (.int z1183), (.int z1185), (.int z1187)] := A1188
  refine W.iloadN 62 at_61 rfl rfl ?_
  refine W.iconst 63 at_62 rfl (1 : Int32) rfl ?_
  refine W.iand 64 at_63 rfl (0 : Int32) hF ?_
  refine W.istore 66 at_64 rfl #[.val (.int p0), .val (.int p1), .val (.int p2), .val (.ref b1178), .val (.int (0 : Int32)), .unset, .unset] rfl ?_
  refine W.iloadN 67 at_66 rfl rfl ?_
  refine W.iconst 68 at_67 rfl (1 : Int32) rfl ?_
  refine W.iushr 69 at_68 rfl ((p2.toUInt32 >>> ((1 : Int32) &&& 31).toUInt32).toInt32) rfl ?_
  refine W.bipush 71 at_69 rfl (7 : Int32) rfl ?_
  refine W.iand 72 at_71 rfl (((p2.toUInt32 >>> ((1 : Int32) &&& 31).toUInt32).toInt32) &&& (7 : Int32)) rfl ?_
  refine W.iconst 73 at_72 rfl (5 : Int32) rfl ?_
  refine W.irem 74 at_73 rfl (by decide) (2 : Int32) hC ?_
  refine W.istore 76 at_74 rfl #[.val (.int p0), .val (.int p1), .val (.int p2), .val (.ref b1178), .val (.int (0 : Int32)), .val (.int (2 : Int32)), .unset] rfl ?_
  refine W.aloadN 77 at_76 rfl rfl rfl ?_
  refine W.iload 79 at_77 rfl rfl ?_
  refine W.iload 81 at_79 rfl rfl ?_
  refine W.callS (rest := []) (argsL := [(.ref b1178), (.int (0 : Int32)), (.int (2 : Int32))]) 84 at_81 rfl (fun hn => c_ds02 l Z a0 hw b1178 z1179 z1181 z1183 z1185 z1187 _ n0 hn A1188 Hz1179 Hz1181 Hz1183 Hz1185 Hz1187) (wd_5 hw) (wd_6 hw) (wd_7 hw) (wd_8 hw) (by decide) pd_5 rfl rfl rfl (by decide) 0 (Nat.le_of_ble_eq_true rfl) (by decide) (by decide) (by decide) ?_
  rintro v1189 h1189 ⟨rfl, rfl⟩
  show W _ _ _ _ _ _ _ _ _ _ _ 1 5 84 #[.val (.int p0), .val (.int p1), .val (.int p2), .val (.ref b1178), .val (.int (0 : Int32)), .val (.int (2 : Int32)), .unset] [(.int (own_go 0 [z1179, z1181]))]
  refine W.istore 86 at_84 rfl #[.val (.int p0), .val (.int p1), .val (.int p2), .val (.ref b1178), .val (.int (0 : Int32)), .val (.int (2 : Int32)), .val (.int (own_go 0 [z1179, z1181]))] rfl ?_
  refine W.iload 88 at_86 rfl rfl ?_
  refine W.aloadN 89 at_88 rfl rfl rfl ?_
  refine W.iload 91 at_89 rfl rfl ?_
  refine W.iload 93 at_91 rfl rfl ?_
  refine W.callS (rest := [(.int (own_go 0 [z1179, z1181]))]) (argsL := [(.ref b1178), (.int (0 : Int32)), (.int (2 : Int32))]) 96 at_93 rfl (fun hn => c_ref02 l Z a0 hw b1178 z1179 z1181 z1183 z1185 z1187 _ n0 hn A1188 Hz1179 Hz1181 Hz1183 Hz1185 Hz1187) (wd_9 hw) (wd_10 hw) (wd_3 hw) (wd_11 hw) (by decide) pd_5 rfl rfl rfl (by decide) 1 (Nat.le_of_ble_eq_true rfl) (by decide) (by decide) (by decide) ?_
  rintro v1190 h1190 ⟨rfl, rfl⟩
  show W _ _ _ _ _ _ _ _ _ _ _ 1 5 96 #[.val (.int p0), .val (.int p1), .val (.int p2), .val (.ref b1178), .val (.int (0 : Int32)), .val (.int (2 : Int32)), .val (.int (own_go 0 [z1179, z1181]))] [(.int (own_go 0 [z1179, z1181])), (.int (own_go 0 [z1179, z1181]))]
  refine W.icmp_ne 103 99 at_96 rfl rfl (fun hc => absurd rfl hc) (fun _ => ?_)
  refine W.iconst 100 at_99 rfl (1 : Int32) rfl ?_
  refine W.goto 104 at_100 rfl ?_
  exact W.ireturnN (t := .boolean) at_104 rfl (by simp) (1 : Int32) rfl rfl (by decide) (by decide)
set_option maxRecDepth 65536 in
set_option maxHeartbeats 40000000 in
theorem law_03 (l : Launch) (Z : State) (a0 : Array Value) (hw : ∀ d ∈ tables_1, d.before a0 Z = true) (p0 p1 p2 : Int32) (h : Heap) (n0 : Nat) (hn : n0 ≤ h.size) (hF : (p2 &&& (1 : Int32)) = (0 : Int32)) (hC : ((((p2.toUInt32 >>> ((1 : Int32) &&& 31).toUInt32).toInt32) &&& (7 : Int32)) % (5 : Int32)) = (3 : Int32)) : ConW tables_1 l Z x code maxLocals ret room_1 #[(.int p0), (.int p1), (.int p2)] h n0 (fun r _ => r = some (.int 1)) := by
  refine ConW.of_W (Ls := #[.val (.int p0), .val (.int p1), .val (.int p2), .unset, .unset, .unset, .unset]) (plainFor_of_name pn_0) hn (fun m => by first | (simp [entryFrame, mkF, argsToLocals, Value.category, maxLocals]; done) | rfl) ?_
  refine W.iconst 1 at_0 rfl (5 : Int32) rfl ?_
  refine W.newarray 3 at_1 rfl (wd_0 hw) rfl (by decide) 5 5 (by decide) (by decide) (by decide) (by decide) (by decide) rfl ?_
  intro h1191 b1191 g1191 ge1191 X1191 K1191 A1191
  have A1191 : Ary _ _ b1191 .byte [(.int (0 : Int32)), (.int (0 : Int32)), (.int (0 : Int32)), (.int (0 : Int32)), (.int (0 : Int32))] := A1191
  show W _ _ _ _ _ _ _ _ _ _ _ 1 5 3 #[.val (.int p0), .val (.int p1), .val (.int p2), .unset, .unset, .unset, .unset] [(.ref b1191)]
  refine W.astoreN 4 at_3 rfl rfl #[.val (.int p0), .val (.int p1), .val (.int p2), .val (.ref b1191), .unset, .unset, .unset] rfl ?_
  refine W.aloadN 5 at_4 rfl rfl rfl ?_
  refine W.iconst 6 at_5 rfl (0 : Int32) rfl ?_
  refine W.iloadN 7 at_6 rfl rfl ?_
  refine W.iloadN 8 at_7 rfl rfl ?_
  refine W.iconst 9 at_8 rfl (0 : Int32) rfl ?_
  refine W.callS (rest := [(.int (0 : Int32)), (.ref b1191)]) (argsL := [(.int p0), (.int p1), (.int (0 : Int32))]) 12 at_9 rfl (fun hn => c_pick l Z a0 hw p0 p1 (0 : Int32) _ n0 hn) (wd_1 hw) (wd_2 hw) (wd_3 hw) (wd_4 hw) (by decide) pd_4 rfl rfl rfl (by decide) 2 (Nat.le_of_ble_eq_true rfl) (by decide) (by decide) (by decide) ?_
  rintro v1192 h1192 ⟨⟨z1192, rfl, Hz1192⟩, rfl⟩
  show W _ _ _ _ _ _ _ _ _ _ _ 1 5 12 #[.val (.int p0), .val (.int p1), .val (.int p2), .val (.ref b1191), .unset, .unset, .unset] [(.int z1192), (.int (0 : Int32)), (.ref b1191)]
  refine W.bastore 13 at_12 rfl A1191 0 (by decide) (by decide) (Nat.le_of_ble_eq_true rfl) z1192 (own_B_nar Hz1192) ge1191 ?_
  intro h1193 W1193 K1193 A1193
  have A1193 : Ary _ _ b1191 .byte [(.int z1192), (.int (0 : Int32)), (.int (0 : Int32)), (.int (0 : Int32)), (.int (0 : Int32))] := A1193
  refine W.aloadN 14 at_13 rfl rfl rfl ?_
  refine W.iconst 15 at_14 rfl (1 : Int32) rfl ?_
  refine W.iloadN 16 at_15 rfl rfl ?_
  refine W.bipush 18 at_16 rfl (8 : Int32) rfl ?_
  refine W.ishr 19 at_18 rfl (p0 >>> ((8 : Int32) &&& 31)) rfl ?_
  refine W.iloadN 20 at_19 rfl rfl ?_
  refine W.iconst 21 at_20 rfl (1 : Int32) rfl ?_
  refine W.callS (rest := [(.int (1 : Int32)), (.ref b1191)]) (argsL := [(.int (p0 >>> ((8 : Int32) &&& 31))), (.int p1), (.int (1 : Int32))]) 24 at_21 rfl (fun hn => c_pick l Z a0 hw (p0 >>> ((8 : Int32) &&& 31)) p1 (1 : Int32) _ n0 hn) (wd_1 hw) (wd_2 hw) (wd_3 hw) (wd_4 hw) (by decide) pd_4 rfl rfl rfl (by decide) 2 (Nat.le_of_ble_eq_true rfl) (by decide) (by decide) (by decide) ?_
  rintro v1194 h1194 ⟨⟨z1194, rfl, Hz1194⟩, rfl⟩
  show W _ _ _ _ _ _ _ _ _ _ _ 1 5 24 #[.val (.int p0), .val (.int p1), .val (.int p2), .val (.ref b1191), .unset, .unset, .unset] [(.int z1194), (.int (1 : Int32)), (.ref b1191)]
  refine W.bastore 25 at_24 rfl A1193 1 (by decide) (by decide) (Nat.le_of_ble_eq_true rfl) z1194 (own_B_nar Hz1194) ge1191 ?_
  intro h1195 W1195 K1195 A1195
  have A1195 : Ary _ _ b1191 .byte [(.int z1192), (.int z1194), (.int (0 : Int32)), (.int (0 : Int32)), (.int (0 : Int32))] := A1195
  refine W.aloadN 26 at_25 rfl rfl rfl ?_
  refine W.iconst 27 at_26 rfl (2 : Int32) rfl ?_
  refine W.iloadN 28 at_27 rfl rfl ?_
  refine W.bipush 30 at_28 rfl (16 : Int32) rfl ?_
  refine W.ishr 31 at_30 rfl (p0 >>> ((16 : Int32) &&& 31)) rfl ?_
  refine W.iloadN 32 at_31 rfl rfl ?_
  refine W.iconst 33 at_32 rfl (2 : Int32) rfl ?_
  refine W.callS (rest := [(.int (2 : Int32)), (.ref b1191)]) (argsL := [(.int (p0 >>> ((16 : Int32) &&& 31))), (.int p1), (.int (2 : Int32))]) 36 at_33 rfl (fun hn => c_pick l Z a0 hw (p0 >>> ((16 : Int32) &&& 31)) p1 (2 : Int32) _ n0 hn) (wd_1 hw) (wd_2 hw) (wd_3 hw) (wd_4 hw) (by decide) pd_4 rfl rfl rfl (by decide) 2 (Nat.le_of_ble_eq_true rfl) (by decide) (by decide) (by decide) ?_
  rintro v1196 h1196 ⟨⟨z1196, rfl, Hz1196⟩, rfl⟩
  show W _ _ _ _ _ _ _ _ _ _ _ 1 5 36 #[.val (.int p0), .val (.int p1), .val (.int p2), .val (.ref b1191), .unset, .unset, .unset] [(.int z1196), (.int (2 : Int32)), (.ref b1191)]
  refine W.bastore 37 at_36 rfl A1195 2 (by decide) (by decide) (Nat.le_of_ble_eq_true rfl) z1196 (own_B_nar Hz1196) ge1191 ?_
  intro h1197 W1197 K1197 A1197
  have A1197 : Ary _ _ b1191 .byte [(.int z1192), (.int z1194), (.int z1196), (.int (0 : Int32)), (.int (0 : Int32))] := A1197
  refine W.aloadN 38 at_37 rfl rfl rfl ?_
  refine W.iconst 39 at_38 rfl (3 : Int32) rfl ?_
  refine W.iloadN 40 at_39 rfl rfl ?_
  refine W.bipush 42 at_40 rfl (24 : Int32) rfl ?_
  refine W.ishr 43 at_42 rfl (p0 >>> ((24 : Int32) &&& 31)) rfl ?_
  refine W.iloadN 44 at_43 rfl rfl ?_
  refine W.iconst 45 at_44 rfl (3 : Int32) rfl ?_
  refine W.callS (rest := [(.int (3 : Int32)), (.ref b1191)]) (argsL := [(.int (p0 >>> ((24 : Int32) &&& 31))), (.int p1), (.int (3 : Int32))]) 48 at_45 rfl (fun hn => c_pick l Z a0 hw (p0 >>> ((24 : Int32) &&& 31)) p1 (3 : Int32) _ n0 hn) (wd_1 hw) (wd_2 hw) (wd_3 hw) (wd_4 hw) (by decide) pd_4 rfl rfl rfl (by decide) 2 (Nat.le_of_ble_eq_true rfl) (by decide) (by decide) (by decide) ?_
  rintro v1198 h1198 ⟨⟨z1198, rfl, Hz1198⟩, rfl⟩
  show W _ _ _ _ _ _ _ _ _ _ _ 1 5 48 #[.val (.int p0), .val (.int p1), .val (.int p2), .val (.ref b1191), .unset, .unset, .unset] [(.int z1198), (.int (3 : Int32)), (.ref b1191)]
  refine W.bastore 49 at_48 rfl A1197 3 (by decide) (by decide) (Nat.le_of_ble_eq_true rfl) z1198 (own_B_nar Hz1198) ge1191 ?_
  intro h1199 W1199 K1199 A1199
  have A1199 : Ary _ _ b1191 .byte [(.int z1192), (.int z1194), (.int z1196), (.int z1198), (.int (0 : Int32))] := A1199
  refine W.aloadN 50 at_49 rfl rfl rfl ?_
  refine W.iconst 51 at_50 rfl (4 : Int32) rfl ?_
  refine W.iloadN 52 at_51 rfl rfl ?_
  refine W.bipush 54 at_52 rfl (8 : Int32) rfl ?_
  refine W.ishr 55 at_54 rfl (p2 >>> ((8 : Int32) &&& 31)) rfl ?_
  refine W.iloadN 56 at_55 rfl rfl ?_
  refine W.iconst 57 at_56 rfl (4 : Int32) rfl ?_
  refine W.callS (rest := [(.int (4 : Int32)), (.ref b1191)]) (argsL := [(.int (p2 >>> ((8 : Int32) &&& 31))), (.int p1), (.int (4 : Int32))]) 60 at_57 rfl (fun hn => c_pick l Z a0 hw (p2 >>> ((8 : Int32) &&& 31)) p1 (4 : Int32) _ n0 hn) (wd_1 hw) (wd_2 hw) (wd_3 hw) (wd_4 hw) (by decide) pd_4 rfl rfl rfl (by decide) 2 (Nat.le_of_ble_eq_true rfl) (by decide) (by decide) (by decide) ?_
  rintro v1200 h1200 ⟨⟨z1200, rfl, Hz1200⟩, rfl⟩
  show W _ _ _ _ _ _ _ _ _ _ _ 1 5 60 #[.val (.int p0), .val (.int p1), .val (.int p2), .val (.ref b1191), .unset, .unset, .unset] [(.int z1200), (.int (4 : Int32)), (.ref b1191)]
  refine W.bastore 61 at_60 rfl A1199 4 (by decide) (by decide) (Nat.le_of_ble_eq_true rfl) z1200 (own_B_nar Hz1200) ge1191 ?_
  intro h1201 W1201 K1201 A1201
  have A1201 : Ary _ _ b1191 .byte [(.int z1192), (.int z1194), (.int z1196), (.int z1198), (.int z1200)] := A1201
  refine W.iloadN 62 at_61 rfl rfl ?_
  refine W.iconst 63 at_62 rfl (1 : Int32) rfl ?_
  refine W.iand 64 at_63 rfl (0 : Int32) hF ?_
  refine W.istore 66 at_64 rfl #[.val (.int p0), .val (.int p1), .val (.int p2), .val (.ref b1191), .val (.int (0 : Int32)), .unset, .unset] rfl ?_
  refine W.iloadN 67 at_66 rfl rfl ?_
  refine W.iconst 68 at_67 rfl (1 : Int32) rfl ?_
  refine W.iushr 69 at_68 rfl ((p2.toUInt32 >>> ((1 : Int32) &&& 31).toUInt32).toInt32) rfl ?_
  refine W.bipush 71 at_69 rfl (7 : Int32) rfl ?_
  refine W.iand 72 at_71 rfl (((p2.toUInt32 >>> ((1 : Int32) &&& 31).toUInt32).toInt32) &&& (7 : Int32)) rfl ?_
  refine W.iconst 73 at_72 rfl (5 : Int32) rfl ?_
  refine W.irem 74 at_73 rfl (by decide) (3 : Int32) hC ?_
  refine W.istore 76 at_74 rfl #[.val (.int p0), .val (.int p1), .val (.int p2), .val (.ref b1191), .val (.int (0 : Int32)), .val (.int (3 : Int32)), .unset] rfl ?_
  refine W.aloadN 77 at_76 rfl rfl rfl ?_
  refine W.iload 79 at_77 rfl rfl ?_
  refine W.iload 81 at_79 rfl rfl ?_
  refine W.callS (rest := []) (argsL := [(.ref b1191), (.int (0 : Int32)), (.int (3 : Int32))]) 84 at_81 rfl (fun hn => c_ds03 l Z a0 hw b1191 z1192 z1194 z1196 z1198 z1200 _ n0 hn A1201 Hz1192 Hz1194 Hz1196 Hz1198 Hz1200) (wd_5 hw) (wd_6 hw) (wd_7 hw) (wd_8 hw) (by decide) pd_5 rfl rfl rfl (by decide) 0 (Nat.le_of_ble_eq_true rfl) (by decide) (by decide) (by decide) ?_
  rintro v1202 h1202 ⟨rfl, rfl⟩
  show W _ _ _ _ _ _ _ _ _ _ _ 1 5 84 #[.val (.int p0), .val (.int p1), .val (.int p2), .val (.ref b1191), .val (.int (0 : Int32)), .val (.int (3 : Int32)), .unset] [(.int (own_go 0 [z1192, z1194, z1196]))]
  refine W.istore 86 at_84 rfl #[.val (.int p0), .val (.int p1), .val (.int p2), .val (.ref b1191), .val (.int (0 : Int32)), .val (.int (3 : Int32)), .val (.int (own_go 0 [z1192, z1194, z1196]))] rfl ?_
  refine W.iload 88 at_86 rfl rfl ?_
  refine W.aloadN 89 at_88 rfl rfl rfl ?_
  refine W.iload 91 at_89 rfl rfl ?_
  refine W.iload 93 at_91 rfl rfl ?_
  refine W.callS (rest := [(.int (own_go 0 [z1192, z1194, z1196]))]) (argsL := [(.ref b1191), (.int (0 : Int32)), (.int (3 : Int32))]) 96 at_93 rfl (fun hn => c_ref03 l Z a0 hw b1191 z1192 z1194 z1196 z1198 z1200 _ n0 hn A1201 Hz1192 Hz1194 Hz1196 Hz1198 Hz1200) (wd_9 hw) (wd_10 hw) (wd_3 hw) (wd_11 hw) (by decide) pd_5 rfl rfl rfl (by decide) 1 (Nat.le_of_ble_eq_true rfl) (by decide) (by decide) (by decide) ?_
  rintro v1203 h1203 ⟨rfl, rfl⟩
  show W _ _ _ _ _ _ _ _ _ _ _ 1 5 96 #[.val (.int p0), .val (.int p1), .val (.int p2), .val (.ref b1191), .val (.int (0 : Int32)), .val (.int (3 : Int32)), .val (.int (own_go 0 [z1192, z1194, z1196]))] [(.int (own_go 0 [z1192, z1194, z1196])), (.int (own_go 0 [z1192, z1194, z1196]))]
  refine W.icmp_ne 103 99 at_96 rfl rfl (fun hc => absurd rfl hc) (fun _ => ?_)
  refine W.iconst 100 at_99 rfl (1 : Int32) rfl ?_
  refine W.goto 104 at_100 rfl ?_
  exact W.ireturnN (t := .boolean) at_104 rfl (by simp) (1 : Int32) rfl rfl (by decide) (by decide)
set_option maxRecDepth 65536 in
set_option maxHeartbeats 40000000 in
theorem law_04 (l : Launch) (Z : State) (a0 : Array Value) (hw : ∀ d ∈ tables_1, d.before a0 Z = true) (p0 p1 p2 : Int32) (h : Heap) (n0 : Nat) (hn : n0 ≤ h.size) (hF : (p2 &&& (1 : Int32)) = (0 : Int32)) (hC : ((((p2.toUInt32 >>> ((1 : Int32) &&& 31).toUInt32).toInt32) &&& (7 : Int32)) % (5 : Int32)) = (4 : Int32)) : ConW tables_1 l Z x code maxLocals ret room_1 #[(.int p0), (.int p1), (.int p2)] h n0 (fun r _ => r = some (.int 1)) := by
  refine ConW.of_W (Ls := #[.val (.int p0), .val (.int p1), .val (.int p2), .unset, .unset, .unset, .unset]) (plainFor_of_name pn_0) hn (fun m => by first | (simp [entryFrame, mkF, argsToLocals, Value.category, maxLocals]; done) | rfl) ?_
  refine W.iconst 1 at_0 rfl (5 : Int32) rfl ?_
  refine W.newarray 3 at_1 rfl (wd_0 hw) rfl (by decide) 5 5 (by decide) (by decide) (by decide) (by decide) (by decide) rfl ?_
  intro h1204 b1204 g1204 ge1204 X1204 K1204 A1204
  have A1204 : Ary _ _ b1204 .byte [(.int (0 : Int32)), (.int (0 : Int32)), (.int (0 : Int32)), (.int (0 : Int32)), (.int (0 : Int32))] := A1204
  show W _ _ _ _ _ _ _ _ _ _ _ 1 5 3 #[.val (.int p0), .val (.int p1), .val (.int p2), .unset, .unset, .unset, .unset] [(.ref b1204)]
  refine W.astoreN 4 at_3 rfl rfl #[.val (.int p0), .val (.int p1), .val (.int p2), .val (.ref b1204), .unset, .unset, .unset] rfl ?_
  refine W.aloadN 5 at_4 rfl rfl rfl ?_
  refine W.iconst 6 at_5 rfl (0 : Int32) rfl ?_
  refine W.iloadN 7 at_6 rfl rfl ?_
  refine W.iloadN 8 at_7 rfl rfl ?_
  refine W.iconst 9 at_8 rfl (0 : Int32) rfl ?_
  refine W.callS (rest := [(.int (0 : Int32)), (.ref b1204)]) (argsL := [(.int p0), (.int p1), (.int (0 : Int32))]) 12 at_9 rfl (fun hn => c_pick l Z a0 hw p0 p1 (0 : Int32) _ n0 hn) (wd_1 hw) (wd_2 hw) (wd_3 hw) (wd_4 hw) (by decide) pd_4 rfl rfl rfl (by decide) 2 (Nat.le_of_ble_eq_true rfl) (by decide) (by decide) (by decide) ?_
  rintro v1205 h1205 ⟨⟨z1205, rfl, Hz1205⟩, rfl⟩
  show W _ _ _ _ _ _ _ _ _ _ _ 1 5 12 #[.val (.int p0), .val (.int p1), .val (.int p2), .val (.ref b1204), .unset, .unset, .unset] [(.int z1205), (.int (0 : Int32)), (.ref b1204)]
  refine W.bastore 13 at_12 rfl A1204 0 (by decide) (by decide) (Nat.le_of_ble_eq_true rfl) z1205 (own_B_nar Hz1205) ge1204 ?_
  intro h1206 W1206 K1206 A1206
  have A1206 : Ary _ _ b1204 .byte [(.int z1205), (.int (0 : Int32)), (.int (0 : Int32)), (.int (0 : Int32)), (.int (0 : Int32))] := A1206
  refine W.aloadN 14 at_13 rfl rfl rfl ?_
  refine W.iconst 15 at_14 rfl (1 : Int32) rfl ?_
  refine W.iloadN 16 at_15 rfl rfl ?_
  refine W.bipush 18 at_16 rfl (8 : Int32) rfl ?_
  refine W.ishr 19 at_18 rfl (p0 >>> ((8 : Int32) &&& 31)) rfl ?_
  refine W.iloadN 20 at_19 rfl rfl ?_
  refine W.iconst 21 at_20 rfl (1 : Int32) rfl ?_
  refine W.callS (rest := [(.int (1 : Int32)), (.ref b1204)]) (argsL := [(.int (p0 >>> ((8 : Int32) &&& 31))), (.int p1), (.int (1 : Int32))]) 24 at_21 rfl (fun hn => c_pick l Z a0 hw (p0 >>> ((8 : Int32) &&& 31)) p1 (1 : Int32) _ n0 hn) (wd_1 hw) (wd_2 hw) (wd_3 hw) (wd_4 hw) (by decide) pd_4 rfl rfl rfl (by decide) 2 (Nat.le_of_ble_eq_true rfl) (by decide) (by decide) (by decide) ?_
  rintro v1207 h1207 ⟨⟨z1207, rfl, Hz1207⟩, rfl⟩
  show W _ _ _ _ _ _ _ _ _ _ _ 1 5 24 #[.val (.int p0), .val (.int p1), .val (.int p2), .val (.ref b1204), .unset, .unset, .unset] [(.int z1207), (.int (1 : Int32)), (.ref b1204)]
  refine W.bastore 25 at_24 rfl A1206 1 (by decide) (by decide) (Nat.le_of_ble_eq_true rfl) z1207 (own_B_nar Hz1207) ge1204 ?_
  intro h1208 W1208 K1208 A1208
  have A1208 : Ary _ _ b1204 .byte [(.int z1205), (.int z1207), (.int (0 : Int32)), (.int (0 : Int32)), (.int (0 : Int32))] := A1208
  refine W.aloadN 26 at_25 rfl rfl rfl ?_
  refine W.iconst 27 at_26 rfl (2 : Int32) rfl ?_
  refine W.iloadN 28 at_27 rfl rfl ?_
  refine W.bipush 30 at_28 rfl (16 : Int32) rfl ?_
  refine W.ishr 31 at_30 rfl (p0 >>> ((16 : Int32) &&& 31)) rfl ?_
  refine W.iloadN 32 at_31 rfl rfl ?_
  refine W.iconst 33 at_32 rfl (2 : Int32) rfl ?_
  refine W.callS (rest := [(.int (2 : Int32)), (.ref b1204)]) (argsL := [(.int (p0 >>> ((16 : Int32) &&& 31))), (.int p1), (.int (2 : Int32))]) 36 at_33 rfl (fun hn => c_pick l Z a0 hw (p0 >>> ((16 : Int32) &&& 31)) p1 (2 : Int32) _ n0 hn) (wd_1 hw) (wd_2 hw) (wd_3 hw) (wd_4 hw) (by decide) pd_4 rfl rfl rfl (by decide) 2 (Nat.le_of_ble_eq_true rfl) (by decide) (by decide) (by decide) ?_
  rintro v1209 h1209 ⟨⟨z1209, rfl, Hz1209⟩, rfl⟩
  show W _ _ _ _ _ _ _ _ _ _ _ 1 5 36 #[.val (.int p0), .val (.int p1), .val (.int p2), .val (.ref b1204), .unset, .unset, .unset] [(.int z1209), (.int (2 : Int32)), (.ref b1204)]
  refine W.bastore 37 at_36 rfl A1208 2 (by decide) (by decide) (Nat.le_of_ble_eq_true rfl) z1209 (own_B_nar Hz1209) ge1204 ?_
  intro h1210 W1210 K1210 A1210
  have A1210 : Ary _ _ b1204 .byte [(.int z1205), (.int z1207), (.int z1209), (.int (0 : Int32)), (.int (0 : Int32))] := A1210
  refine W.aloadN 38 at_37 rfl rfl rfl ?_
  refine W.iconst 39 at_38 rfl (3 : Int32) rfl ?_
  refine W.iloadN 40 at_39 rfl rfl ?_
  refine W.bipush 42 at_40 rfl (24 : Int32) rfl ?_
  refine W.ishr 43 at_42 rfl (p0 >>> ((24 : Int32) &&& 31)) rfl ?_
  refine W.iloadN 44 at_43 rfl rfl ?_
  refine W.iconst 45 at_44 rfl (3 : Int32) rfl ?_
  refine W.callS (rest := [(.int (3 : Int32)), (.ref b1204)]) (argsL := [(.int (p0 >>> ((24 : Int32) &&& 31))), (.int p1), (.int (3 : Int32))]) 48 at_45 rfl (fun hn => c_pick l Z a0 hw (p0 >>> ((24 : Int32) &&& 31)) p1 (3 : Int32) _ n0 hn) (wd_1 hw) (wd_2 hw) (wd_3 hw) (wd_4 hw) (by decide) pd_4 rfl rfl rfl (by decide) 2 (Nat.le_of_ble_eq_true rfl) (by decide) (by decide) (by decide) ?_
  rintro v1211 h1211 ⟨⟨z1211, rfl, Hz1211⟩, rfl⟩
  show W _ _ _ _ _ _ _ _ _ _ _ 1 5 48 #[.val (.int p0), .val (.int p1), .val (.int p2), .val (.ref b1204), .unset, .unset, .unset] [(.int z1211), (.int (3 : Int32)), (.ref b1204)]
  refine W.bastore 49 at_48 rfl A1210 3 (by decide) (by decide) (Nat.le_of_ble_eq_true rfl) z1211 (own_B_nar Hz1211) ge1204 ?_
  intro h1212 W1212 K1212 A1212
  have A1212 : Ary _ _ b1204 .byte [(.int z1205), (.int z1207), (.int z1209), (.int z1211), (.int (0 : Int32))] := A1212
  refine W.aloadN 50 at_49 rfl rfl rfl ?_
  refine W.iconst 51 at_50 rfl (4 : Int32) rfl ?_
  refine W.iloadN 52 at_51 rfl rfl ?_
  refine W.bipush 54 at_52 rfl (8 : Int32) rfl ?_
  refine W.ishr 55 at_54 rfl (p2 >>> ((8 : Int32) &&& 31)) rfl ?_
  refine W.iloadN 56 at_55 rfl rfl ?_
  refine W.iconst 57 at_56 rfl (4 : Int32) rfl ?_
  refine W.callS (rest := [(.int (4 : Int32)), (.ref b1204)]) (argsL := [(.int (p2 >>> ((8 : Int32) &&& 31))), (.int p1), (.int (4 : Int32))]) 60 at_57 rfl (fun hn => c_pick l Z a0 hw (p2 >>> ((8 : Int32) &&& 31)) p1 (4 : Int32) _ n0 hn) (wd_1 hw) (wd_2 hw) (wd_3 hw) (wd_4 hw) (by decide) pd_4 rfl rfl rfl (by decide) 2 (Nat.le_of_ble_eq_true rfl) (by decide) (by decide) (by decide) ?_
  rintro v1213 h1213 ⟨⟨z1213, rfl, Hz1213⟩, rfl⟩
  show W _ _ _ _ _ _ _ _ _ _ _ 1 5 60 #[.val (.int p0), .val (.int p1), .val (.int p2), .val (.ref b1204), .unset, .unset, .unset] [(.int z1213), (.int (4 : Int32)), (.ref b1204)]
  refine W.bastore 61 at_60 rfl A1212 4 (by decide) (by decide) (Nat.le_of_ble_eq_true rfl) z1213 (own_B_nar Hz1213) ge1204 ?_
  intro h1214 W1214 K1214 A1214
  have A1214 : Ary _ _ b1204 .byte [(.int z1205), (.int z1207), (.int z1209), (.int z1211), (.int z1213)] := A1214
  refine W.iloadN 62 at_61 rfl rfl ?_
  refine W.iconst 63 at_62 rfl (1 : Int32) rfl ?_
  refine W.iand 64 at_63 rfl (0 : Int32) hF ?_
  refine W.istore 66 at_64 rfl #[.val (.int p0), .val (.int p1), .val (.int p2), .val (.ref b1204), .val (.int (0 : Int32)), .unset, .unset] rfl ?_
  refine W.iloadN 67 at_66 rfl rfl ?_
  refine W.iconst 68 at_67 rfl (1 : Int32) rfl ?_
  refine W.iushr 69 at_68 rfl ((p2.toUInt32 >>> ((1 : Int32) &&& 31).toUInt32).toInt32) rfl ?_
  refine W.bipush 71 at_69 rfl (7 : Int32) rfl ?_
  refine W.iand 72 at_71 rfl (((p2.toUInt32 >>> ((1 : Int32) &&& 31).toUInt32).toInt32) &&& (7 : Int32)) rfl ?_
  refine W.iconst 73 at_72 rfl (5 : Int32) rfl ?_
  refine W.irem 74 at_73 rfl (by decide) (4 : Int32) hC ?_
  refine W.istore 76 at_74 rfl #[.val (.int p0), .val (.int p1), .val (.int p2), .val (.ref b1204), .val (.int (0 : Int32)), .val (.int (4 : Int32)), .unset] rfl ?_
  refine W.aloadN 77 at_76 rfl rfl rfl ?_
  refine W.iload 79 at_77 rfl rfl ?_
  refine W.iload 81 at_79 rfl rfl ?_
  refine W.callS (rest := []) (argsL := [(.ref b1204), (.int (0 : Int32)), (.int (4 : Int32))]) 84 at_81 rfl (fun hn => c_ds04 l Z a0 hw b1204 z1205 z1207 z1209 z1211 z1213 _ n0 hn A1214 Hz1205 Hz1207 Hz1209 Hz1211 Hz1213) (wd_5 hw) (wd_6 hw) (wd_7 hw) (wd_8 hw) (by decide) pd_5 rfl rfl rfl (by decide) 0 (Nat.le_of_ble_eq_true rfl) (by decide) (by decide) (by decide) ?_
  rintro v1215 h1215 ⟨rfl, rfl⟩
  show W _ _ _ _ _ _ _ _ _ _ _ 1 5 84 #[.val (.int p0), .val (.int p1), .val (.int p2), .val (.ref b1204), .val (.int (0 : Int32)), .val (.int (4 : Int32)), .unset] [(.int (own_go 0 [z1205, z1207, z1209, z1211]))]
  refine W.istore 86 at_84 rfl #[.val (.int p0), .val (.int p1), .val (.int p2), .val (.ref b1204), .val (.int (0 : Int32)), .val (.int (4 : Int32)), .val (.int (own_go 0 [z1205, z1207, z1209, z1211]))] rfl ?_
  refine W.iload 88 at_86 rfl rfl ?_
  refine W.aloadN 89 at_88 rfl rfl rfl ?_
  refine W.iload 91 at_89 rfl rfl ?_
  refine W.iload 93 at_91 rfl rfl ?_
  refine W.callS (rest := [(.int (own_go 0 [z1205, z1207, z1209, z1211]))]) (argsL := [(.ref b1204), (.int (0 : Int32)), (.int (4 : Int32))]) 96 at_93 rfl (fun hn => c_ref04 l Z a0 hw b1204 z1205 z1207 z1209 z1211 z1213 _ n0 hn A1214 Hz1205 Hz1207 Hz1209 Hz1211 Hz1213) (wd_9 hw) (wd_10 hw) (wd_3 hw) (wd_11 hw) (by decide) pd_5 rfl rfl rfl (by decide) 1 (Nat.le_of_ble_eq_true rfl) (by decide) (by decide) (by decide) ?_
  rintro v1216 h1216 ⟨rfl, rfl⟩
  show W _ _ _ _ _ _ _ _ _ _ _ 1 5 96 #[.val (.int p0), .val (.int p1), .val (.int p2), .val (.ref b1204), .val (.int (0 : Int32)), .val (.int (4 : Int32)), .val (.int (own_go 0 [z1205, z1207, z1209, z1211]))] [(.int (own_go 0 [z1205, z1207, z1209, z1211])), (.int (own_go 0 [z1205, z1207, z1209, z1211]))]
  refine W.icmp_ne 103 99 at_96 rfl rfl (fun hc => absurd rfl hc) (fun _ => ?_)
  refine W.iconst 100 at_99 rfl (1 : Int32) rfl ?_
  refine W.goto 104 at_100 rfl ?_
  exact W.ireturnN (t := .boolean) at_104 rfl (by simp) (1 : Int32) rfl rfl (by decide) (by decide)
set_option maxRecDepth 65536 in
set_option maxHeartbeats 40000000 in
theorem law_10 (l : Launch) (Z : State) (a0 : Array Value) (hw : ∀ d ∈ tables_1, d.before a0 Z = true) (p0 p1 p2 : Int32) (h : Heap) (n0 : Nat) (hn : n0 ≤ h.size) (hF : (p2 &&& (1 : Int32)) = (1 : Int32)) (hC : ((((p2.toUInt32 >>> ((1 : Int32) &&& 31).toUInt32).toInt32) &&& (7 : Int32)) % (5 : Int32)) = (0 : Int32)) : ConW tables_1 l Z x code maxLocals ret room_1 #[(.int p0), (.int p1), (.int p2)] h n0 (fun r _ => r = some (.int 1)) := by
  refine ConW.of_W (Ls := #[.val (.int p0), .val (.int p1), .val (.int p2), .unset, .unset, .unset, .unset]) (plainFor_of_name pn_0) hn (fun m => by first | (simp [entryFrame, mkF, argsToLocals, Value.category, maxLocals]; done) | rfl) ?_
  refine W.iconst 1 at_0 rfl (5 : Int32) rfl ?_
  refine W.newarray 3 at_1 rfl (wd_0 hw) rfl (by decide) 5 5 (by decide) (by decide) (by decide) (by decide) (by decide) rfl ?_
  intro h1217 b1217 g1217 ge1217 X1217 K1217 A1217
  have A1217 : Ary _ _ b1217 .byte [(.int (0 : Int32)), (.int (0 : Int32)), (.int (0 : Int32)), (.int (0 : Int32)), (.int (0 : Int32))] := A1217
  show W _ _ _ _ _ _ _ _ _ _ _ 1 5 3 #[.val (.int p0), .val (.int p1), .val (.int p2), .unset, .unset, .unset, .unset] [(.ref b1217)]
  refine W.astoreN 4 at_3 rfl rfl #[.val (.int p0), .val (.int p1), .val (.int p2), .val (.ref b1217), .unset, .unset, .unset] rfl ?_
  refine W.aloadN 5 at_4 rfl rfl rfl ?_
  refine W.iconst 6 at_5 rfl (0 : Int32) rfl ?_
  refine W.iloadN 7 at_6 rfl rfl ?_
  refine W.iloadN 8 at_7 rfl rfl ?_
  refine W.iconst 9 at_8 rfl (0 : Int32) rfl ?_
  refine W.callS (rest := [(.int (0 : Int32)), (.ref b1217)]) (argsL := [(.int p0), (.int p1), (.int (0 : Int32))]) 12 at_9 rfl (fun hn => c_pick l Z a0 hw p0 p1 (0 : Int32) _ n0 hn) (wd_1 hw) (wd_2 hw) (wd_3 hw) (wd_4 hw) (by decide) pd_4 rfl rfl rfl (by decide) 2 (Nat.le_of_ble_eq_true rfl) (by decide) (by decide) (by decide) ?_
  rintro v1218 h1218 ⟨⟨z1218, rfl, Hz1218⟩, rfl⟩
  show W _ _ _ _ _ _ _ _ _ _ _ 1 5 12 #[.val (.int p0), .val (.int p1), .val (.int p2), .val (.ref b1217), .unset, .unset, .unset] [(.int z1218), (.int (0 : Int32)), (.ref b1217)]
  refine W.bastore 13 at_12 rfl A1217 0 (by decide) (by decide) (Nat.le_of_ble_eq_true rfl) z1218 (own_B_nar Hz1218) ge1217 ?_
  intro h1219 W1219 K1219 A1219
  have A1219 : Ary _ _ b1217 .byte [(.int z1218), (.int (0 : Int32)), (.int (0 : Int32)), (.int (0 : Int32)), (.int (0 : Int32))] := A1219
  refine W.aloadN 14 at_13 rfl rfl rfl ?_
  refine W.iconst 15 at_14 rfl (1 : Int32) rfl ?_
  refine W.iloadN 16 at_15 rfl rfl ?_
  refine W.bipush 18 at_16 rfl (8 : Int32) rfl ?_
  refine W.ishr 19 at_18 rfl (p0 >>> ((8 : Int32) &&& 31)) rfl ?_
  refine W.iloadN 20 at_19 rfl rfl ?_
  refine W.iconst 21 at_20 rfl (1 : Int32) rfl ?_
  refine W.callS (rest := [(.int (1 : Int32)), (.ref b1217)]) (argsL := [(.int (p0 >>> ((8 : Int32) &&& 31))), (.int p1), (.int (1 : Int32))]) 24 at_21 rfl (fun hn => c_pick l Z a0 hw (p0 >>> ((8 : Int32) &&& 31)) p1 (1 : Int32) _ n0 hn) (wd_1 hw) (wd_2 hw) (wd_3 hw) (wd_4 hw) (by decide) pd_4 rfl rfl rfl (by decide) 2 (Nat.le_of_ble_eq_true rfl) (by decide) (by decide) (by decide) ?_
  rintro v1220 h1220 ⟨⟨z1220, rfl, Hz1220⟩, rfl⟩
  show W _ _ _ _ _ _ _ _ _ _ _ 1 5 24 #[.val (.int p0), .val (.int p1), .val (.int p2), .val (.ref b1217), .unset, .unset, .unset] [(.int z1220), (.int (1 : Int32)), (.ref b1217)]
  refine W.bastore 25 at_24 rfl A1219 1 (by decide) (by decide) (Nat.le_of_ble_eq_true rfl) z1220 (own_B_nar Hz1220) ge1217 ?_
  intro h1221 W1221 K1221 A1221
  have A1221 : Ary _ _ b1217 .byte [(.int z1218), (.int z1220), (.int (0 : Int32)), (.int (0 : Int32)), (.int (0 : Int32))] := A1221
  refine W.aloadN 26 at_25 rfl rfl rfl ?_
  refine W.iconst 27 at_26 rfl (2 : Int32) rfl ?_
  refine W.iloadN 28 at_27 rfl rfl ?_
  refine W.bipush 30 at_28 rfl (16 : Int32) rfl ?_
  refine W.ishr 31 at_30 rfl (p0 >>> ((16 : Int32) &&& 31)) rfl ?_
  refine W.iloadN 32 at_31 rfl rfl ?_
  refine W.iconst 33 at_32 rfl (2 : Int32) rfl ?_
  refine W.callS (rest := [(.int (2 : Int32)), (.ref b1217)]) (argsL := [(.int (p0 >>> ((16 : Int32) &&& 31))), (.int p1), (.int (2 : Int32))]) 36 at_33 rfl (fun hn => c_pick l Z a0 hw (p0 >>> ((16 : Int32) &&& 31)) p1 (2 : Int32) _ n0 hn) (wd_1 hw) (wd_2 hw) (wd_3 hw) (wd_4 hw) (by decide) pd_4 rfl rfl rfl (by decide) 2 (Nat.le_of_ble_eq_true rfl) (by decide) (by decide) (by decide) ?_
  rintro v1222 h1222 ⟨⟨z1222, rfl, Hz1222⟩, rfl⟩
  show W _ _ _ _ _ _ _ _ _ _ _ 1 5 36 #[.val (.int p0), .val (.int p1), .val (.int p2), .val (.ref b1217), .unset, .unset, .unset] [(.int z1222), (.int (2 : Int32)), (.ref b1217)]
  refine W.bastore 37 at_36 rfl A1221 2 (by decide) (by decide) (Nat.le_of_ble_eq_true rfl) z1222 (own_B_nar Hz1222) ge1217 ?_
  intro h1223 W1223 K1223 A1223
  have A1223 : Ary _ _ b1217 .byte [(.int z1218), (.int z1220), (.int z1222), (.int (0 : Int32)), (.int (0 : Int32))] := A1223
  refine W.aloadN 38 at_37 rfl rfl rfl ?_
  refine W.iconst 39 at_38 rfl (3 : Int32) rfl ?_
  refine W.iloadN 40 at_39 rfl rfl ?_
  refine W.bipush 42 at_40 rfl (24 : Int32) rfl ?_
  refine W.ishr 43 at_42 rfl (p0 >>> ((24 : Int32) &&& 31)) rfl ?_
  refine W.iloadN 44 at_43 rfl rfl ?_
  refine W.iconst 45 at_44 rfl (3 : Int32) rfl ?_
  refine W.callS (rest := [(.int (3 : Int32)), (.ref b1217)]) (argsL := [(.int (p0 >>> ((24 : Int32) &&& 31))), (.int p1), (.int (3 : Int32))]) 48 at_45 rfl (fun hn => c_pick l Z a0 hw (p0 >>> ((24 : Int32) &&& 31)) p1 (3 : Int32) _ n0 hn) (wd_1 hw) (wd_2 hw) (wd_3 hw) (wd_4 hw) (by decide) pd_4 rfl rfl rfl (by decide) 2 (Nat.le_of_ble_eq_true rfl) (by decide) (by decide) (by decide) ?_
  rintro v1224 h1224 ⟨⟨z1224, rfl, Hz1224⟩, rfl⟩
  show W _ _ _ _ _ _ _ _ _ _ _ 1 5 48 #[.val (.int p0), .val (.int p1), .val (.int p2), .val (.ref b1217), .unset, .unset, .unset] [(.int z1224), (.int (3 : Int32)), (.ref b1217)]
  refine W.bastore 49 at_48 rfl A1223 3 (by decide) (by decide) (Nat.le_of_ble_eq_true rfl) z1224 (own_B_nar Hz1224) ge1217 ?_
  intro h1225 W1225 K1225 A1225
  have A1225 : Ary _ _ b1217 .byte [(.int z1218), (.int z1220), (.int z1222), (.int z1224), (.int (0 : Int32))] := A1225
  refine W.aloadN 50 at_49 rfl rfl rfl ?_
  refine W.iconst 51 at_50 rfl (4 : Int32) rfl ?_
  refine W.iloadN 52 at_51 rfl rfl ?_
  refine W.bipush 54 at_52 rfl (8 : Int32) rfl ?_
  refine W.ishr 55 at_54 rfl (p2 >>> ((8 : Int32) &&& 31)) rfl ?_
  refine W.iloadN 56 at_55 rfl rfl ?_
  refine W.iconst 57 at_56 rfl (4 : Int32) rfl ?_
  refine W.callS (rest := [(.int (4 : Int32)), (.ref b1217)]) (argsL := [(.int (p2 >>> ((8 : Int32) &&& 31))), (.int p1), (.int (4 : Int32))]) 60 at_57 rfl (fun hn => c_pick l Z a0 hw (p2 >>> ((8 : Int32) &&& 31)) p1 (4 : Int32) _ n0 hn) (wd_1 hw) (wd_2 hw) (wd_3 hw) (wd_4 hw) (by decide) pd_4 rfl rfl rfl (by decide) 2 (Nat.le_of_ble_eq_true rfl) (by decide) (by decide) (by decide) ?_
  rintro v1226 h1226 ⟨⟨z1226, rfl, Hz1226⟩, rfl⟩
  show W _ _ _ _ _ _ _ _ _ _ _ 1 5 60 #[.val (.int p0), .val (.int p1), .val (.int p2), .val (.ref b1217), .unset, .unset, .unset] [(.int z1226), (.int (4 : Int32)), (.ref b1217)]
  refine W.bastore 61 at_60 rfl A1225 4 (by decide) (by decide) (Nat.le_of_ble_eq_true rfl) z1226 (own_B_nar Hz1226) ge1217 ?_
  intro h1227 W1227 K1227 A1227
  have A1227 : Ary _ _ b1217 .byte [(.int z1218), (.int z1220), (.int z1222), (.int z1224), (.int z1226)] := A1227
  refine W.iloadN 62 at_61 rfl rfl ?_
  refine W.iconst 63 at_62 rfl (1 : Int32) rfl ?_
  refine W.iand 64 at_63 rfl (1 : Int32) hF ?_
  refine W.istore 66 at_64 rfl #[.val (.int p0), .val (.int p1), .val (.int p2), .val (.ref b1217), .val (.int (1 : Int32)), .unset, .unset] rfl ?_
  refine W.iloadN 67 at_66 rfl rfl ?_
  refine W.iconst 68 at_67 rfl (1 : Int32) rfl ?_
  refine W.iushr 69 at_68 rfl ((p2.toUInt32 >>> ((1 : Int32) &&& 31).toUInt32).toInt32) rfl ?_
  refine W.bipush 71 at_69 rfl (7 : Int32) rfl ?_
  refine W.iand 72 at_71 rfl (((p2.toUInt32 >>> ((1 : Int32) &&& 31).toUInt32).toInt32) &&& (7 : Int32)) rfl ?_
  refine W.iconst 73 at_72 rfl (5 : Int32) rfl ?_
  refine W.irem 74 at_73 rfl (by decide) (0 : Int32) hC ?_
  refine W.istore 76 at_74 rfl #[.val (.int p0), .val (.int p1), .val (.int p2), .val (.ref b1217), .val (.int (1 : Int32)), .val (.int (0 : Int32)), .unset] rfl ?_
  refine W.aloadN 77 at_76 rfl rfl rfl ?_
  refine W.iload 79 at_77 rfl rfl ?_
  refine W.iload 81 at_79 rfl rfl ?_
  refine W.callS (rest := []) (argsL := [(.ref b1217), (.int (1 : Int32)), (.int (0 : Int32))]) 84 at_81 rfl (fun hn => c_ds10 l Z a0 hw b1217 z1218 z1220 z1222 z1224 z1226 _ n0 hn A1227 Hz1218 Hz1220 Hz1222 Hz1224 Hz1226) (wd_5 hw) (wd_6 hw) (wd_7 hw) (wd_8 hw) (by decide) pd_5 rfl rfl rfl (by decide) 0 (Nat.le_of_ble_eq_true rfl) (by decide) (by decide) (by decide) ?_
  rintro v1228 h1228 ⟨rfl, rfl⟩
  show W _ _ _ _ _ _ _ _ _ _ _ 1 5 84 #[.val (.int p0), .val (.int p1), .val (.int p2), .val (.ref b1217), .val (.int (1 : Int32)), .val (.int (0 : Int32)), .unset] [(.int (own_go 0 []))]
  refine W.istore 86 at_84 rfl #[.val (.int p0), .val (.int p1), .val (.int p2), .val (.ref b1217), .val (.int (1 : Int32)), .val (.int (0 : Int32)), .val (.int (own_go 0 []))] rfl ?_
  refine W.iload 88 at_86 rfl rfl ?_
  refine W.aloadN 89 at_88 rfl rfl rfl ?_
  refine W.iload 91 at_89 rfl rfl ?_
  refine W.iload 93 at_91 rfl rfl ?_
  refine W.callS (rest := [(.int (own_go 0 []))]) (argsL := [(.ref b1217), (.int (1 : Int32)), (.int (0 : Int32))]) 96 at_93 rfl (fun hn => c_ref10 l Z a0 hw b1217 z1218 z1220 z1222 z1224 z1226 _ n0 hn A1227 Hz1218 Hz1220 Hz1222 Hz1224 Hz1226) (wd_9 hw) (wd_10 hw) (wd_3 hw) (wd_11 hw) (by decide) pd_5 rfl rfl rfl (by decide) 1 (Nat.le_of_ble_eq_true rfl) (by decide) (by decide) (by decide) ?_
  rintro v1229 h1229 ⟨rfl, rfl⟩
  show W _ _ _ _ _ _ _ _ _ _ _ 1 5 96 #[.val (.int p0), .val (.int p1), .val (.int p2), .val (.ref b1217), .val (.int (1 : Int32)), .val (.int (0 : Int32)), .val (.int (own_go 0 []))] [(.int (own_go 0 [])), (.int (own_go 0 []))]
  refine W.icmp_ne 103 99 at_96 rfl rfl (fun hc => absurd rfl hc) (fun _ => ?_)
  refine W.iconst 100 at_99 rfl (1 : Int32) rfl ?_
  refine W.goto 104 at_100 rfl ?_
  exact W.ireturnN (t := .boolean) at_104 rfl (by simp) (1 : Int32) rfl rfl (by decide) (by decide)
set_option maxRecDepth 65536 in
set_option maxHeartbeats 40000000 in
theorem law_11 (l : Launch) (Z : State) (a0 : Array Value) (hw : ∀ d ∈ tables_1, d.before a0 Z = true) (p0 p1 p2 : Int32) (h : Heap) (n0 : Nat) (hn : n0 ≤ h.size) (hF : (p2 &&& (1 : Int32)) = (1 : Int32)) (hC : ((((p2.toUInt32 >>> ((1 : Int32) &&& 31).toUInt32).toInt32) &&& (7 : Int32)) % (5 : Int32)) = (1 : Int32)) : ConW tables_1 l Z x code maxLocals ret room_1 #[(.int p0), (.int p1), (.int p2)] h n0 (fun r _ => r = some (.int 1)) := by
  refine ConW.of_W (Ls := #[.val (.int p0), .val (.int p1), .val (.int p2), .unset, .unset, .unset, .unset]) (plainFor_of_name pn_0) hn (fun m => by first | (simp [entryFrame, mkF, argsToLocals, Value.category, maxLocals]; done) | rfl) ?_
  refine W.iconst 1 at_0 rfl (5 : Int32) rfl ?_
  refine W.newarray 3 at_1 rfl (wd_0 hw) rfl (by decide) 5 5 (by decide) (by decide) (by decide) (by decide) (by decide) rfl ?_
  intro h1230 b1230 g1230 ge1230 X1230 K1230 A1230
  have A1230 : Ary _ _ b1230 .byte [(.int (0 : Int32)), (.int (0 : Int32)), (.int (0 : Int32)), (.int (0 : Int32)), (.int (0 : Int32))] := A1230
  show W _ _ _ _ _ _ _ _ _ _ _ 1 5 3 #[.val (.int p0), .val (.int p1), .val (.int p2), .unset, .unset, .unset, .unset] [(.ref b1230)]
  refine W.astoreN 4 at_3 rfl rfl #[.val (.int p0), .val (.int p1), .val (.int p2), .val (.ref b1230), .unset, .unset, .unset] rfl ?_
  refine W.aloadN 5 at_4 rfl rfl rfl ?_
  refine W.iconst 6 at_5 rfl (0 : Int32) rfl ?_
  refine W.iloadN 7 at_6 rfl rfl ?_
  refine W.iloadN 8 at_7 rfl rfl ?_
  refine W.iconst 9 at_8 rfl (0 : Int32) rfl ?_
  refine W.callS (rest := [(.int (0 : Int32)), (.ref b1230)]) (argsL := [(.int p0), (.int p1), (.int (0 : Int32))]) 12 at_9 rfl (fun hn => c_pick l Z a0 hw p0 p1 (0 : Int32) _ n0 hn) (wd_1 hw) (wd_2 hw) (wd_3 hw) (wd_4 hw) (by decide) pd_4 rfl rfl rfl (by decide) 2 (Nat.le_of_ble_eq_true rfl) (by decide) (by decide) (by decide) ?_
  rintro v1231 h1231 ⟨⟨z1231, rfl, Hz1231⟩, rfl⟩
  show W _ _ _ _ _ _ _ _ _ _ _ 1 5 12 #[.val (.int p0), .val (.int p1), .val (.int p2), .val (.ref b1230), .unset, .unset, .unset] [(.int z1231), (.int (0 : Int32)), (.ref b1230)]
  refine W.bastore 13 at_12 rfl A1230 0 (by decide) (by decide) (Nat.le_of_ble_eq_true rfl) z1231 (own_B_nar Hz1231) ge1230 ?_
  intro h1232 W1232 K1232 A1232
  have A1232 : Ary _ _ b1230 .byte [(.int z1231), (.int (0 : Int32)), (.int (0 : Int32)), (.int (0 : Int32)), (.int (0 : Int32))] := A1232
  refine W.aloadN 14 at_13 rfl rfl rfl ?_
  refine W.iconst 15 at_14 rfl (1 : Int32) rfl ?_
  refine W.iloadN 16 at_15 rfl rfl ?_
  refine W.bipush 18 at_16 rfl (8 : Int32) rfl ?_
  refine W.ishr 19 at_18 rfl (p0 >>> ((8 : Int32) &&& 31)) rfl ?_
  refine W.iloadN 20 at_19 rfl rfl ?_
  refine W.iconst 21 at_20 rfl (1 : Int32) rfl ?_
  refine W.callS (rest := [(.int (1 : Int32)), (.ref b1230)]) (argsL := [(.int (p0 >>> ((8 : Int32) &&& 31))), (.int p1), (.int (1 : Int32))]) 24 at_21 rfl (fun hn => c_pick l Z a0 hw (p0 >>> ((8 : Int32) &&& 31)) p1 (1 : Int32) _ n0 hn) (wd_1 hw) (wd_2 hw) (wd_3 hw) (wd_4 hw) (by decide) pd_4 rfl rfl rfl (by decide) 2 (Nat.le_of_ble_eq_true rfl) (by decide) (by decide) (by decide) ?_
  rintro v1233 h1233 ⟨⟨z1233, rfl, Hz1233⟩, rfl⟩
  show W _ _ _ _ _ _ _ _ _ _ _ 1 5 24 #[.val (.int p0), .val (.int p1), .val (.int p2), .val (.ref b1230), .unset, .unset, .unset] [(.int z1233), (.int (1 : Int32)), (.ref b1230)]
  refine W.bastore 25 at_24 rfl A1232 1 (by decide) (by decide) (Nat.le_of_ble_eq_true rfl) z1233 (own_B_nar Hz1233) ge1230 ?_
  intro h1234 W1234 K1234 A1234
  have A1234 : Ary _ _ b1230 .byte [(.int z1231), (.int z1233), (.int (0 : Int32)), (.int (0 : Int32)), (.int (0 : Int32))] := A1234
  refine W.aloadN 26 at_25 rfl rfl rfl ?_
  refine W.iconst 27 at_26 rfl (2 : Int32) rfl ?_
  refine W.iloadN 28 at_27 rfl rfl ?_
  refine W.bipush 30 at_28 rfl (16 : Int32) rfl ?_
  refine W.ishr 31 at_30 rfl (p0 >>> ((16 : Int32) &&& 31)) rfl ?_
  refine W.iloadN 32 at_31 rfl rfl ?_
  refine W.iconst 33 at_32 rfl (2 : Int32) rfl ?_
  refine W.callS (rest := [(.int (2 : Int32)), (.ref b1230)]) (argsL := [(.int (p0 >>> ((16 : Int32) &&& 31))), (.int p1), (.int (2 : Int32))]) 36 at_33 rfl (fun hn => c_pick l Z a0 hw (p0 >>> ((16 : Int32) &&& 31)) p1 (2 : Int32) _ n0 hn) (wd_1 hw) (wd_2 hw) (wd_3 hw) (wd_4 hw) (by decide) pd_4 rfl rfl rfl (by decide) 2 (Nat.le_of_ble_eq_true rfl) (by decide) (by decide) (by decide) ?_
  rintro v1235 h1235 ⟨⟨z1235, rfl, Hz1235⟩, rfl⟩
  show W _ _ _ _ _ _ _ _ _ _ _ 1 5 36 #[.val (.int p0), .val (.int p1), .val (.int p2), .val (.ref b1230), .unset, .unset, .unset] [(.int z1235), (.int (2 : Int32)), (.ref b1230)]
  refine W.bastore 37 at_36 rfl A1234 2 (by decide) (by decide) (Nat.le_of_ble_eq_true rfl) z1235 (own_B_nar Hz1235) ge1230 ?_
  intro h1236 W1236 K1236 A1236
  have A1236 : Ary _ _ b1230 .byte [(.int z1231), (.int z1233), (.int z1235), (.int (0 : Int32)), (.int (0 : Int32))] := A1236
  refine W.aloadN 38 at_37 rfl rfl rfl ?_
  refine W.iconst 39 at_38 rfl (3 : Int32) rfl ?_
  refine W.iloadN 40 at_39 rfl rfl ?_
  refine W.bipush 42 at_40 rfl (24 : Int32) rfl ?_
  refine W.ishr 43 at_42 rfl (p0 >>> ((24 : Int32) &&& 31)) rfl ?_
  refine W.iloadN 44 at_43 rfl rfl ?_
  refine W.iconst 45 at_44 rfl (3 : Int32) rfl ?_
  refine W.callS (rest := [(.int (3 : Int32)), (.ref b1230)]) (argsL := [(.int (p0 >>> ((24 : Int32) &&& 31))), (.int p1), (.int (3 : Int32))]) 48 at_45 rfl (fun hn => c_pick l Z a0 hw (p0 >>> ((24 : Int32) &&& 31)) p1 (3 : Int32) _ n0 hn) (wd_1 hw) (wd_2 hw) (wd_3 hw) (wd_4 hw) (by decide) pd_4 rfl rfl rfl (by decide) 2 (Nat.le_of_ble_eq_true rfl) (by decide) (by decide) (by decide) ?_
  rintro v1237 h1237 ⟨⟨z1237, rfl, Hz1237⟩, rfl⟩
  show W _ _ _ _ _ _ _ _ _ _ _ 1 5 48 #[.val (.int p0), .val (.int p1), .val (.int p2), .val (.ref b1230), .unset, .unset, .unset] [(.int z1237), (.int (3 : Int32)), (.ref b1230)]
  refine W.bastore 49 at_48 rfl A1236 3 (by decide) (by decide) (Nat.le_of_ble_eq_true rfl) z1237 (own_B_nar Hz1237) ge1230 ?_
  intro h1238 W1238 K1238 A1238
  have A1238 : Ary _ _ b1230 .byte [(.int z1231), (.int z1233), (.int z1235), (.int z1237), (.int (0 : Int32))] := A1238
  refine W.aloadN 50 at_49 rfl rfl rfl ?_
  refine W.iconst 51 at_50 rfl (4 : Int32) rfl ?_
  refine W.iloadN 52 at_51 rfl rfl ?_
  refine W.bipush 54 at_52 rfl (8 : Int32) rfl ?_
  refine W.ishr 55 at_54 rfl (p2 >>> ((8 : Int32) &&& 31)) rfl ?_
  refine W.iloadN 56 at_55 rfl rfl ?_
  refine W.iconst 57 at_56 rfl (4 : Int32) rfl ?_
  refine W.callS (rest := [(.int (4 : Int32)), (.ref b1230)]) (argsL := [(.int (p2 >>> ((8 : Int32) &&& 31))), (.int p1), (.int (4 : Int32))]) 60 at_57 rfl (fun hn => c_pick l Z a0 hw (p2 >>> ((8 : Int32) &&& 31)) p1 (4 : Int32) _ n0 hn) (wd_1 hw) (wd_2 hw) (wd_3 hw) (wd_4 hw) (by decide) pd_4 rfl rfl rfl (by decide) 2 (Nat.le_of_ble_eq_true rfl) (by decide) (by decide) (by decide) ?_
  rintro v1239 h1239 ⟨⟨z1239, rfl, Hz1239⟩, rfl⟩
  show W _ _ _ _ _ _ _ _ _ _ _ 1 5 60 #[.val (.int p0), .val (.int p1), .val (.int p2), .val (.ref b1230), .unset, .unset, .unset] [(.int z1239), (.int (4 : Int32)), (.ref b1230)]
  refine W.bastore 61 at_60 rfl A1238 4 (by decide) (by decide) (Nat.le_of_ble_eq_true rfl) z1239 (own_B_nar Hz1239) ge1230 ?_
  intro h1240 W1240 K1240 A1240
  have A1240 : Ary _ _ b1230 .byte [(.int z1231), (.int z1233), (.int z1235), (.int z1237), (.int z1239)] := A1240
  refine W.iloadN 62 at_61 rfl rfl ?_
  refine W.iconst 63 at_62 rfl (1 : Int32) rfl ?_
  refine W.iand 64 at_63 rfl (1 : Int32) hF ?_
  refine W.istore 66 at_64 rfl #[.val (.int p0), .val (.int p1), .val (.int p2), .val (.ref b1230), .val (.int (1 : Int32)), .unset, .unset] rfl ?_
  refine W.iloadN 67 at_66 rfl rfl ?_
  refine W.iconst 68 at_67 rfl (1 : Int32) rfl ?_
  refine W.iushr 69 at_68 rfl ((p2.toUInt32 >>> ((1 : Int32) &&& 31).toUInt32).toInt32) rfl ?_
  refine W.bipush 71 at_69 rfl (7 : Int32) rfl ?_
  refine W.iand 72 at_71 rfl (((p2.toUInt32 >>> ((1 : Int32) &&& 31).toUInt32).toInt32) &&& (7 : Int32)) rfl ?_
  refine W.iconst 73 at_72 rfl (5 : Int32) rfl ?_
  refine W.irem 74 at_73 rfl (by decide) (1 : Int32) hC ?_
  refine W.istore 76 at_74 rfl #[.val (.int p0), .val (.int p1), .val (.int p2), .val (.ref b1230), .val (.int (1 : Int32)), .val (.int (1 : Int32)), .unset] rfl ?_
  refine W.aloadN 77 at_76 rfl rfl rfl ?_
  refine W.iload 79 at_77 rfl rfl ?_
  refine W.iload 81 at_79 rfl rfl ?_
  refine W.callS (rest := []) (argsL := [(.ref b1230), (.int (1 : Int32)), (.int (1 : Int32))]) 84 at_81 rfl (fun hn => c_ds11 l Z a0 hw b1230 z1231 z1233 z1235 z1237 z1239 _ n0 hn A1240 Hz1231 Hz1233 Hz1235 Hz1237 Hz1239) (wd_5 hw) (wd_6 hw) (wd_7 hw) (wd_8 hw) (by decide) pd_5 rfl rfl rfl (by decide) 0 (Nat.le_of_ble_eq_true rfl) (by decide) (by decide) (by decide) ?_
  rintro v1241 h1241 ⟨rfl, rfl⟩
  show W _ _ _ _ _ _ _ _ _ _ _ 1 5 84 #[.val (.int p0), .val (.int p1), .val (.int p2), .val (.ref b1230), .val (.int (1 : Int32)), .val (.int (1 : Int32)), .unset] [(.int (own_go 0 [z1233]))]
  refine W.istore 86 at_84 rfl #[.val (.int p0), .val (.int p1), .val (.int p2), .val (.ref b1230), .val (.int (1 : Int32)), .val (.int (1 : Int32)), .val (.int (own_go 0 [z1233]))] rfl ?_
  refine W.iload 88 at_86 rfl rfl ?_
  refine W.aloadN 89 at_88 rfl rfl rfl ?_
  refine W.iload 91 at_89 rfl rfl ?_
  refine W.iload 93 at_91 rfl rfl ?_
  refine W.callS (rest := [(.int (own_go 0 [z1233]))]) (argsL := [(.ref b1230), (.int (1 : Int32)), (.int (1 : Int32))]) 96 at_93 rfl (fun hn => c_ref11 l Z a0 hw b1230 z1231 z1233 z1235 z1237 z1239 _ n0 hn A1240 Hz1231 Hz1233 Hz1235 Hz1237 Hz1239) (wd_9 hw) (wd_10 hw) (wd_3 hw) (wd_11 hw) (by decide) pd_5 rfl rfl rfl (by decide) 1 (Nat.le_of_ble_eq_true rfl) (by decide) (by decide) (by decide) ?_
  rintro v1242 h1242 ⟨rfl, rfl⟩
  show W _ _ _ _ _ _ _ _ _ _ _ 1 5 96 #[.val (.int p0), .val (.int p1), .val (.int p2), .val (.ref b1230), .val (.int (1 : Int32)), .val (.int (1 : Int32)), .val (.int (own_go 0 [z1233]))] [(.int (own_go 0 [z1233])), (.int (own_go 0 [z1233]))]
  refine W.icmp_ne 103 99 at_96 rfl rfl (fun hc => absurd rfl hc) (fun _ => ?_)
  refine W.iconst 100 at_99 rfl (1 : Int32) rfl ?_
  refine W.goto 104 at_100 rfl ?_
  exact W.ireturnN (t := .boolean) at_104 rfl (by simp) (1 : Int32) rfl rfl (by decide) (by decide)
set_option maxRecDepth 65536 in
set_option maxHeartbeats 40000000 in
theorem law_12 (l : Launch) (Z : State) (a0 : Array Value) (hw : ∀ d ∈ tables_1, d.before a0 Z = true) (p0 p1 p2 : Int32) (h : Heap) (n0 : Nat) (hn : n0 ≤ h.size) (hF : (p2 &&& (1 : Int32)) = (1 : Int32)) (hC : ((((p2.toUInt32 >>> ((1 : Int32) &&& 31).toUInt32).toInt32) &&& (7 : Int32)) % (5 : Int32)) = (2 : Int32)) : ConW tables_1 l Z x code maxLocals ret room_1 #[(.int p0), (.int p1), (.int p2)] h n0 (fun r _ => r = some (.int 1)) := by
  refine ConW.of_W (Ls := #[.val (.int p0), .val (.int p1), .val (.int p2), .unset, .unset, .unset, .unset]) (plainFor_of_name pn_0) hn (fun m => by first | (simp [entryFrame, mkF, argsToLocals, Value.category, maxLocals]; done) | rfl) ?_
  refine W.iconst 1 at_0 rfl (5 : Int32) rfl ?_
  refine W.newarray 3 at_1 rfl (wd_0 hw) rfl (by decide) 5 5 (by decide) (by decide) (by decide) (by decide) (by decide) rfl ?_
  intro h1243 b1243 g1243 ge1243 X1243 K1243 A1243
  have A1243 : Ary _ _ b1243 .byte [(.int (0 : Int32)), (.int (0 : Int32)), (.int (0 : Int32)), (.int (0 : Int32)), (.int (0 : Int32))] := A1243
  show W _ _ _ _ _ _ _ _ _ _ _ 1 5 3 #[.val (.int p0), .val (.int p1), .val (.int p2), .unset, .unset, .unset, .unset] [(.ref b1243)]
  refine W.astoreN 4 at_3 rfl rfl #[.val (.int p0), .val (.int p1), .val (.int p2), .val (.ref b1243), .unset, .unset, .unset] rfl ?_
  refine W.aloadN 5 at_4 rfl rfl rfl ?_
  refine W.iconst 6 at_5 rfl (0 : Int32) rfl ?_
  refine W.iloadN 7 at_6 rfl rfl ?_
  refine W.iloadN 8 at_7 rfl rfl ?_
  refine W.iconst 9 at_8 rfl (0 : Int32) rfl ?_
  refine W.callS (rest := [(.int (0 : Int32)), (.ref b1243)]) (argsL := [(.int p0), (.int p1), (.int (0 : Int32))]) 12 at_9 rfl (fun hn => c_pick l Z a0 hw p0 p1 (0 : Int32) _ n0 hn) (wd_1 hw) (wd_2 hw) (wd_3 hw) (wd_4 hw) (by decide) pd_4 rfl rfl rfl (by decide) 2 (Nat.le_of_ble_eq_true rfl) (by decide) (by decide) (by decide) ?_
  rintro v1244 h1244 ⟨⟨z1244, rfl, Hz1244⟩, rfl⟩
  show W _ _ _ _ _ _ _ _ _ _ _ 1 5 12 #[.val (.int p0), .val (.int p1), .val (.int p2), .val (.ref b1243), .unset, .unset, .unset] [(.int z1244), (.int (0 : Int32)), (.ref b1243)]
  refine W.bastore 13 at_12 rfl A1243 0 (by decide) (by decide) (Nat.le_of_ble_eq_true rfl) z1244 (own_B_nar Hz1244) ge1243 ?_
  intro h1245 W1245 K1245 A1245
  have A1245 : Ary _ _ b1243 .byte [(.int z1244), (.int (0 : Int32)), (.int (0 : Int32)), (.int (0 : Int32)), (.int (0 : Int32))] := A1245
  refine W.aloadN 14 at_13 rfl rfl rfl ?_
  refine W.iconst 15 at_14 rfl (1 : Int32) rfl ?_
  refine W.iloadN 16 at_15 rfl rfl ?_
  refine W.bipush 18 at_16 rfl (8 : Int32) rfl ?_
  refine W.ishr 19 at_18 rfl (p0 >>> ((8 : Int32) &&& 31)) rfl ?_
  refine W.iloadN 20 at_19 rfl rfl ?_
  refine W.iconst 21 at_20 rfl (1 : Int32) rfl ?_
  refine W.callS (rest := [(.int (1 : Int32)), (.ref b1243)]) (argsL := [(.int (p0 >>> ((8 : Int32) &&& 31))), (.int p1), (.int (1 : Int32))]) 24 at_21 rfl (fun hn => c_pick l Z a0 hw (p0 >>> ((8 : Int32) &&& 31)) p1 (1 : Int32) _ n0 hn) (wd_1 hw) (wd_2 hw) (wd_3 hw) (wd_4 hw) (by decide) pd_4 rfl rfl rfl (by decide) 2 (Nat.le_of_ble_eq_true rfl) (by decide) (by decide) (by decide) ?_
  rintro v1246 h1246 ⟨⟨z1246, rfl, Hz1246⟩, rfl⟩
  show W _ _ _ _ _ _ _ _ _ _ _ 1 5 24 #[.val (.int p0), .val (.int p1), .val (.int p2), .val (.ref b1243), .unset, .unset, .unset] [(.int z1246), (.int (1 : Int32)), (.ref b1243)]
  refine W.bastore 25 at_24 rfl A1245 1 (by decide) (by decide) (Nat.le_of_ble_eq_true rfl) z1246 (own_B_nar Hz1246) ge1243 ?_
  intro h1247 W1247 K1247 A1247
  have A1247 : Ary _ _ b1243 .byte [(.int z1244), (.int z1246), (.int (0 : Int32)), (.int (0 : Int32)), (.int (0 : Int32))] := A1247
  refine W.aloadN 26 at_25 rfl rfl rfl ?_
  refine W.iconst 27 at_26 rfl (2 : Int32) rfl ?_
  refine W.iloadN 28 at_27 rfl rfl ?_
  refine W.bipush 30 at_28 rfl (16 : Int32) rfl ?_
  refine W.ishr 31 at_30 rfl (p0 >>> ((16 : Int32) &&& 31)) rfl ?_
  refine W.iloadN 32 at_31 rfl rfl ?_
  refine W.iconst 33 at_32 rfl (2 : Int32) rfl ?_
  refine W.callS (rest := [(.int (2 : Int32)), (.ref b1243)]) (argsL := [(.int (p0 >>> ((16 : Int32) &&& 31))), (.int p1), (.int (2 : Int32))]) 36 at_33 rfl (fun hn => c_pick l Z a0 hw (p0 >>> ((16 : Int32) &&& 31)) p1 (2 : Int32) _ n0 hn) (wd_1 hw) (wd_2 hw) (wd_3 hw) (wd_4 hw) (by decide) pd_4 rfl rfl rfl (by decide) 2 (Nat.le_of_ble_eq_true rfl) (by decide) (by decide) (by decide) ?_
  rintro v1248 h1248 ⟨⟨z1248, rfl, Hz1248⟩, rfl⟩
  show W _ _ _ _ _ _ _ _ _ _ _ 1 5 36 #[.val (.int p0), .val (.int p1), .val (.int p2), .val (.ref b1243), .unset, .unset, .unset] [(.int z1248), (.int (2 : Int32)), (.ref b1243)]
  refine W.bastore 37 at_36 rfl A1247 2 (by decide) (by decide) (Nat.le_of_ble_eq_true rfl) z1248 (own_B_nar Hz1248) ge1243 ?_
  intro h1249 W1249 K1249 A1249
  have A1249 : Ary _ _ b1243 .byte [(.int z1244), (.int z1246), (.int z1248), (.int (0 : Int32)), (.int (0 : Int32))] := A1249
  refine W.aloadN 38 at_37 rfl rfl rfl ?_
  refine W.iconst 39 at_38 rfl (3 : Int32) rfl ?_
  refine W.iloadN 40 at_39 rfl rfl ?_
  refine W.bipush 42 at_40 rfl (24 : Int32) rfl ?_
  refine W.ishr 43 at_42 rfl (p0 >>> ((24 : Int32) &&& 31)) rfl ?_
  refine W.iloadN 44 at_43 rfl rfl ?_
  refine W.iconst 45 at_44 rfl (3 : Int32) rfl ?_
  refine W.callS (rest := [(.int (3 : Int32)), (.ref b1243)]) (argsL := [(.int (p0 >>> ((24 : Int32) &&& 31))), (.int p1), (.int (3 : Int32))]) 48 at_45 rfl (fun hn => c_pick l Z a0 hw (p0 >>> ((24 : Int32) &&& 31)) p1 (3 : Int32) _ n0 hn) (wd_1 hw) (wd_2 hw) (wd_3 hw) (wd_4 hw) (by decide) pd_4 rfl rfl rfl (by decide) 2 (Nat.le_of_ble_eq_true rfl) (by decide) (by decide) (by decide) ?_
  rintro v1250 h1250 ⟨⟨z1250, rfl, Hz1250⟩, rfl⟩
  show W _ _ _ _ _ _ _ _ _ _ _ 1 5 48 #[.val (.int p0), .val (.int p1), .val (.int p2), .val (.ref b1243), .unset, .unset, .unset] [(.int z1250), (.int (3 : Int32)), (.ref b1243)]
  refine W.bastore 49 at_48 rfl A1249 3 (by decide) (by decide) (Nat.le_of_ble_eq_true rfl) z1250 (own_B_nar Hz1250) ge1243 ?_
  intro h1251 W1251 K1251 A1251
  have A1251 : Ary _ _ b1243 .byte [(.int z1244), (.int z1246), (.int z1248), (.int z1250), (.int (0 : Int32))] := A1251
  refine W.aloadN 50 at_49 rfl rfl rfl ?_
  refine W.iconst 51 at_50 rfl (4 : Int32) rfl ?_
  refine W.iloadN 52 at_51 rfl rfl ?_
  refine W.bipush 54 at_52 rfl (8 : Int32) rfl ?_
  refine W.ishr 55 at_54 rfl (p2 >>> ((8 : Int32) &&& 31)) rfl ?_
  refine W.iloadN 56 at_55 rfl rfl ?_
  refine W.iconst 57 at_56 rfl (4 : Int32) rfl ?_
  refine W.callS (rest := [(.int (4 : Int32)), (.ref b1243)]) (argsL := [(.int (p2 >>> ((8 : Int32) &&& 31))), (.int p1), (.int (4 : Int32))]) 60 at_57 rfl (fun hn => c_pick l Z a0 hw (p2 >>> ((8 : Int32) &&& 31)) p1 (4 : Int32) _ n0 hn) (wd_1 hw) (wd_2 hw) (wd_3 hw) (wd_4 hw) (by decide) pd_4 rfl rfl rfl (by decide) 2 (Nat.le_of_ble_eq_true rfl) (by decide) (by decide) (by decide) ?_
  rintro v1252 h1252 ⟨⟨z1252, rfl, Hz1252⟩, rfl⟩
  show W _ _ _ _ _ _ _ _ _ _ _ 1 5 60 #[.val (.int p0), .val (.int p1), .val (.int p2), .val (.ref b1243), .unset, .unset, .unset] [(.int z1252), (.int (4 : Int32)), (.ref b1243)]
  refine W.bastore 61 at_60 rfl A1251 4 (by decide) (by decide) (Nat.le_of_ble_eq_true rfl) z1252 (own_B_nar Hz1252) ge1243 ?_
  intro h1253 W1253 K1253 A1253
  have A1253 : Ary _ _ b1243 .byte [(.int z1244), (.int z1246), (.int z1248), (.int z1250), (.int z1252)] := A1253
  refine W.iloadN 62 at_61 rfl rfl ?_
  refine W.iconst 63 at_62 rfl (1 : Int32) rfl ?_
  refine W.iand 64 at_63 rfl (1 : Int32) hF ?_
  refine W.istore 66 at_64 rfl #[.val (.int p0), .val (.int p1), .val (.int p2), .val (.ref b1243), .val (.int (1 : Int32)), .unset, .unset] rfl ?_
  refine W.iloadN 67 at_66 rfl rfl ?_
  refine W.iconst 68 at_67 rfl (1 : Int32) rfl ?_
  refine W.iushr 69 at_68 rfl ((p2.toUInt32 >>> ((1 : Int32) &&& 31).toUInt32).toInt32) rfl ?_
  refine W.bipush 71 at_69 rfl (7 : Int32) rfl ?_
  refine W.iand 72 at_71 rfl (((p2.toUInt32 >>> ((1 : Int32) &&& 31).toUInt32).toInt32) &&& (7 : Int32)) rfl ?_
  refine W.iconst 73 at_72 rfl (5 : Int32) rfl ?_
  refine W.irem 74 at_73 rfl (by decide) (2 : Int32) hC ?_
  refine W.istore 76 at_74 rfl #[.val (.int p0), .val (.int p1), .val (.int p2), .val (.ref b1243), .val (.int (1 : Int32)), .val (.int (2 : Int32)), .unset] rfl ?_
  refine W.aloadN 77 at_76 rfl rfl rfl ?_
  refine W.iload 79 at_77 rfl rfl ?_
  refine W.iload 81 at_79 rfl rfl ?_
  refine W.callS (rest := []) (argsL := [(.ref b1243), (.int (1 : Int32)), (.int (2 : Int32))]) 84 at_81 rfl (fun hn => c_ds12 l Z a0 hw b1243 z1244 z1246 z1248 z1250 z1252 _ n0 hn A1253 Hz1244 Hz1246 Hz1248 Hz1250 Hz1252) (wd_5 hw) (wd_6 hw) (wd_7 hw) (wd_8 hw) (by decide) pd_5 rfl rfl rfl (by decide) 0 (Nat.le_of_ble_eq_true rfl) (by decide) (by decide) (by decide) ?_
  rintro v1254 h1254 ⟨rfl, rfl⟩
  show W _ _ _ _ _ _ _ _ _ _ _ 1 5 84 #[.val (.int p0), .val (.int p1), .val (.int p2), .val (.ref b1243), .val (.int (1 : Int32)), .val (.int (2 : Int32)), .unset] [(.int (own_go 0 [z1246, z1248]))]
  refine W.istore 86 at_84 rfl #[.val (.int p0), .val (.int p1), .val (.int p2), .val (.ref b1243), .val (.int (1 : Int32)), .val (.int (2 : Int32)), .val (.int (own_go 0 [z1246, z1248]))] rfl ?_
  refine W.iload 88 at_86 rfl rfl ?_
  refine W.aloadN 89 at_88 rfl rfl rfl ?_
  refine W.iload 91 at_89 rfl rfl ?_
  refine W.iload 93 at_91 rfl rfl ?_
  refine W.callS (rest := [(.int (own_go 0 [z1246, z1248]))]) (argsL := [(.ref b1243), (.int (1 : Int32)), (.int (2 : Int32))]) 96 at_93 rfl (fun hn => c_ref12 l Z a0 hw b1243 z1244 z1246 z1248 z1250 z1252 _ n0 hn A1253 Hz1244 Hz1246 Hz1248 Hz1250 Hz1252) (wd_9 hw) (wd_10 hw) (wd_3 hw) (wd_11 hw) (by decide) pd_5 rfl rfl rfl (by decide) 1 (Nat.le_of_ble_eq_true rfl) (by decide) (by decide) (by decide) ?_
  rintro v1255 h1255 ⟨rfl, rfl⟩
  show W _ _ _ _ _ _ _ _ _ _ _ 1 5 96 #[.val (.int p0), .val (.int p1), .val (.int p2), .val (.ref b1243), .val (.int (1 : Int32)), .val (.int (2 : Int32)), .val (.int (own_go 0 [z1246, z1248]))] [(.int (own_go 0 [z1246, z1248])), (.int (own_go 0 [z1246, z1248]))]
  refine W.icmp_ne 103 99 at_96 rfl rfl (fun hc => absurd rfl hc) (fun _ => ?_)
  refine W.iconst 100 at_99 rfl (1 : Int32) rfl ?_
  refine W.goto 104 at_100 rfl ?_
  exact W.ireturnN (t := .boolean) at_104 rfl (by simp) (1 : Int32) rfl rfl (by decide) (by decide)
set_option maxRecDepth 65536 in
set_option maxHeartbeats 40000000 in
theorem law_13 (l : Launch) (Z : State) (a0 : Array Value) (hw : ∀ d ∈ tables_1, d.before a0 Z = true) (p0 p1 p2 : Int32) (h : Heap) (n0 : Nat) (hn : n0 ≤ h.size) (hF : (p2 &&& (1 : Int32)) = (1 : Int32)) (hC : ((((p2.toUInt32 >>> ((1 : Int32) &&& 31).toUInt32).toInt32) &&& (7 : Int32)) % (5 : Int32)) = (3 : Int32)) : ConW tables_1 l Z x code maxLocals ret room_1 #[(.int p0), (.int p1), (.int p2)] h n0 (fun r _ => r = some (.int 1)) := by
  refine ConW.of_W (Ls := #[.val (.int p0), .val (.int p1), .val (.int p2), .unset, .unset, .unset, .unset]) (plainFor_of_name pn_0) hn (fun m => by first | (simp [entryFrame, mkF, argsToLocals, Value.category, maxLocals]; done) | rfl) ?_
  refine W.iconst 1 at_0 rfl (5 : Int32) rfl ?_
  refine W.newarray 3 at_1 rfl (wd_0 hw) rfl (by decide) 5 5 (by decide) (by decide) (by decide) (by decide) (by decide) rfl ?_
  intro h1256 b1256 g1256 ge1256 X1256 K1256 A1256
  have A1256 : Ary _ _ b1256 .byte [(.int (0 : Int32)), (.int (0 : Int32)), (.int (0 : Int32)), (.int (0 : Int32)), (.int (0 : Int32))] := A1256
  show W _ _ _ _ _ _ _ _ _ _ _ 1 5 3 #[.val (.int p0), .val (.int p1), .val (.int p2), .unset, .unset, .unset, .unset] [(.ref b1256)]
  refine W.astoreN 4 at_3 rfl rfl #[.val (.int p0), .val (.int p1), .val (.int p2), .val (.ref b1256), .unset, .unset, .unset] rfl ?_
  refine W.aloadN 5 at_4 rfl rfl rfl ?_
  refine W.iconst 6 at_5 rfl (0 : Int32) rfl ?_
  refine W.iloadN 7 at_6 rfl rfl ?_
  refine W.iloadN 8 at_7 rfl rfl ?_
  refine W.iconst 9 at_8 rfl (0 : Int32) rfl ?_
  refine W.callS (rest := [(.int (0 : Int32)), (.ref b1256)]) (argsL := [(.int p0), (.int p1), (.int (0 : Int32))]) 12 at_9 rfl (fun hn => c_pick l Z a0 hw p0 p1 (0 : Int32) _ n0 hn) (wd_1 hw) (wd_2 hw) (wd_3 hw) (wd_4 hw) (by decide) pd_4 rfl rfl rfl (by decide) 2 (Nat.le_of_ble_eq_true rfl) (by decide) (by decide) (by decide) ?_
  rintro v1257 h1257 ⟨⟨z1257, rfl, Hz1257⟩, rfl⟩
  show W _ _ _ _ _ _ _ _ _ _ _ 1 5 12 #[.val (.int p0), .val (.int p1), .val (.int p2), .val (.ref b1256), .unset, .unset, .unset] [(.int z1257), (.int (0 : Int32)), (.ref b1256)]
  refine W.bastore 13 at_12 rfl A1256 0 (by decide) (by decide) (Nat.le_of_ble_eq_true rfl) z1257 (own_B_nar Hz1257) ge1256 ?_
  intro h1258 W1258 K1258 A1258
  have A1258 : Ary _ _ b1256 .byte [(.int z1257), (.int (0 : Int32)), (.int (0 : Int32)), (.int (0 : Int32)), (.int (0 : Int32))] := A1258
  refine W.aloadN 14 at_13 rfl rfl rfl ?_
  refine W.iconst 15 at_14 rfl (1 : Int32) rfl ?_
  refine W.iloadN 16 at_15 rfl rfl ?_
  refine W.bipush 18 at_16 rfl (8 : Int32) rfl ?_
  refine W.ishr 19 at_18 rfl (p0 >>> ((8 : Int32) &&& 31)) rfl ?_
  refine W.iloadN 20 at_19 rfl rfl ?_
  refine W.iconst 21 at_20 rfl (1 : Int32) rfl ?_
  refine W.callS (rest := [(.int (1 : Int32)), (.ref b1256)]) (argsL := [(.int (p0 >>> ((8 : Int32) &&& 31))), (.int p1), (.int (1 : Int32))]) 24 at_21 rfl (fun hn => c_pick l Z a0 hw (p0 >>> ((8 : Int32) &&& 31)) p1 (1 : Int32) _ n0 hn) (wd_1 hw) (wd_2 hw) (wd_3 hw) (wd_4 hw) (by decide) pd_4 rfl rfl rfl (by decide) 2 (Nat.le_of_ble_eq_true rfl) (by decide) (by decide) (by decide) ?_
  rintro v1259 h1259 ⟨⟨z1259, rfl, Hz1259⟩, rfl⟩
  show W _ _ _ _ _ _ _ _ _ _ _ 1 5 24 #[.val (.int p0), .val (.int p1), .val (.int p2), .val (.ref b1256), .unset, .unset, .unset] [(.int z1259), (.int (1 : Int32)), (.ref b1256)]
  refine W.bastore 25 at_24 rfl A1258 1 (by decide) (by decide) (Nat.le_of_ble_eq_true rfl) z1259 (own_B_nar Hz1259) ge1256 ?_
  intro h1260 W1260 K1260 A1260
  have A1260 : Ary _ _ b1256 .byte [(.int z1257), (.int z1259), (.int (0 : Int32)), (.int (0 : Int32)), (.int (0 : Int32))] := A1260
  refine W.aloadN 26 at_25 rfl rfl rfl ?_
  refine W.iconst 27 at_26 rfl (2 : Int32) rfl ?_
  refine W.iloadN 28 at_27 rfl rfl ?_
  refine W.bipush 30 at_28 rfl (16 : Int32) rfl ?_
  refine W.ishr 31 at_30 rfl (p0 >>> ((16 : Int32) &&& 31)) rfl ?_
  refine W.iloadN 32 at_31 rfl rfl ?_
  refine W.iconst 33 at_32 rfl (2 : Int32) rfl ?_
  refine W.callS (rest := [(.int (2 : Int32)), (.ref b1256)]) (argsL := [(.int (p0 >>> ((16 : Int32) &&& 31))), (.int p1), (.int (2 : Int32))]) 36 at_33 rfl (fun hn => c_pick l Z a0 hw (p0 >>> ((16 : Int32) &&& 31)) p1 (2 : Int32) _ n0 hn) (wd_1 hw) (wd_2 hw) (wd_3 hw) (wd_4 hw) (by decide) pd_4 rfl rfl rfl (by decide) 2 (Nat.le_of_ble_eq_true rfl) (by decide) (by decide) (by decide) ?_
  rintro v1261 h1261 ⟨⟨z1261, rfl, Hz1261⟩, rfl⟩
  show W _ _ _ _ _ _ _ _ _ _ _ 1 5 36 #[.val (.int p0), .val (.int p1), .val (.int p2), .val (.ref b1256), .unset, .unset, .unset] [(.int z1261), (.int (2 : Int32)), (.ref b1256)]
  refine W.bastore 37 at_36 rfl A1260 2 (by decide) (by decide) (Nat.le_of_ble_eq_true rfl) z1261 (own_B_nar Hz1261) ge1256 ?_
  intro h1262 W1262 K1262 A1262
  have A1262 : Ary _ _ b1256 .byte [(.int z1257), (.int z1259), (.int z1261), (.int (0 : Int32)), (.int (0 : Int32))] := A1262
  refine W.aloadN 38 at_37 rfl rfl rfl ?_
  refine W.iconst 39 at_38 rfl (3 : Int32) rfl ?_
  refine W.iloadN 40 at_39 rfl rfl ?_
  refine W.bipush 42 at_40 rfl (24 : Int32) rfl ?_
  refine W.ishr 43 at_42 rfl (p0 >>> ((24 : Int32) &&& 31)) rfl ?_
  refine W.iloadN 44 at_43 rfl rfl ?_
  refine W.iconst 45 at_44 rfl (3 : Int32) rfl ?_
  refine W.callS (rest := [(.int (3 : Int32)), (.ref b1256)]) (argsL := [(.int (p0 >>> ((24 : Int32) &&& 31))), (.int p1), (.int (3 : Int32))]) 48 at_45 rfl (fun hn => c_pick l Z a0 hw (p0 >>> ((24 : Int32) &&& 31)) p1 (3 : Int32) _ n0 hn) (wd_1 hw) (wd_2 hw) (wd_3 hw) (wd_4 hw) (by decide) pd_4 rfl rfl rfl (by decide) 2 (Nat.le_of_ble_eq_true rfl) (by decide) (by decide) (by decide) ?_
  rintro v1263 h1263 ⟨⟨z1263, rfl, Hz1263⟩, rfl⟩
  show W _ _ _ _ _ _ _ _ _ _ _ 1 5 48 #[.val (.int p0), .val (.int p1), .val (.int p2), .val (.ref b1256), .unset, .unset, .unset] [(.int z1263), (.int (3 : Int32)), (.ref b1256)]
  refine W.bastore 49 at_48 rfl A1262 3 (by decide) (by decide) (Nat.le_of_ble_eq_true rfl) z1263 (own_B_nar Hz1263) ge1256 ?_
  intro h1264 W1264 K1264 A1264
  have A1264 : Ary _ _ b1256 .byte [(.int z1257), (.int z1259), (.int z1261), (.int z1263), (.int (0 : Int32))] := A1264
  refine W.aloadN 50 at_49 rfl rfl rfl ?_
  refine W.iconst 51 at_50 rfl (4 : Int32) rfl ?_
  refine W.iloadN 52 at_51 rfl rfl ?_
  refine W.bipush 54 at_52 rfl (8 : Int32) rfl ?_
  refine W.ishr 55 at_54 rfl (p2 >>> ((8 : Int32) &&& 31)) rfl ?_
  refine W.iloadN 56 at_55 rfl rfl ?_
  refine W.iconst 57 at_56 rfl (4 : Int32) rfl ?_
  refine W.callS (rest := [(.int (4 : Int32)), (.ref b1256)]) (argsL := [(.int (p2 >>> ((8 : Int32) &&& 31))), (.int p1), (.int (4 : Int32))]) 60 at_57 rfl (fun hn => c_pick l Z a0 hw (p2 >>> ((8 : Int32) &&& 31)) p1 (4 : Int32) _ n0 hn) (wd_1 hw) (wd_2 hw) (wd_3 hw) (wd_4 hw) (by decide) pd_4 rfl rfl rfl (by decide) 2 (Nat.le_of_ble_eq_true rfl) (by decide) (by decide) (by decide) ?_
  rintro v1265 h1265 ⟨⟨z1265, rfl, Hz1265⟩, rfl⟩
  show W _ _ _ _ _ _ _ _ _ _ _ 1 5 60 #[.val (.int p0), .val (.int p1), .val (.int p2), .val (.ref b1256), .unset, .unset, .unset] [(.int z1265), (.int (4 : Int32)), (.ref b1256)]
  refine W.bastore 61 at_60 rfl A1264 4 (by decide) (by decide) (Nat.le_of_ble_eq_true rfl) z1265 (own_B_nar Hz1265) ge1256 ?_
  intro h1266 W1266 K1266 A1266
  have A1266 : Ary _ _ b1256 .byte [(.int z1257), (.int z1259), (.int z1261), (.int z1263), (.int z1265)] := A1266
  refine W.iloadN 62 at_61 rfl rfl ?_
  refine W.iconst 63 at_62 rfl (1 : Int32) rfl ?_
  refine W.iand 64 at_63 rfl (1 : Int32) hF ?_
  refine W.istore 66 at_64 rfl #[.val (.int p0), .val (.int p1), .val (.int p2), .val (.ref b1256), .val (.int (1 : Int32)), .unset, .unset] rfl ?_
  refine W.iloadN 67 at_66 rfl rfl ?_
  refine W.iconst 68 at_67 rfl (1 : Int32) rfl ?_
  refine W.iushr 69 at_68 rfl ((p2.toUInt32 >>> ((1 : Int32) &&& 31).toUInt32).toInt32) rfl ?_
  refine W.bipush 71 at_69 rfl (7 : Int32) rfl ?_
  refine W.iand 72 at_71 rfl (((p2.toUInt32 >>> ((1 : Int32) &&& 31).toUInt32).toInt32) &&& (7 : Int32)) rfl ?_
  refine W.iconst 73 at_72 rfl (5 : Int32) rfl ?_
  refine W.irem 74 at_73 rfl (by decide) (3 : Int32) hC ?_
  refine W.istore 76 at_74 rfl #[.val (.int p0), .val (.int p1), .val (.int p2), .val (.ref b1256), .val (.int (1 : Int32)), .val (.int (3 : Int32)), .unset] rfl ?_
  refine W.aloadN 77 at_76 rfl rfl rfl ?_
  refine W.iload 79 at_77 rfl rfl ?_
  refine W.iload 81 at_79 rfl rfl ?_
  refine W.callS (rest := []) (argsL := [(.ref b1256), (.int (1 : Int32)), (.int (3 : Int32))]) 84 at_81 rfl (fun hn => c_ds13 l Z a0 hw b1256 z1257 z1259 z1261 z1263 z1265 _ n0 hn A1266 Hz1257 Hz1259 Hz1261 Hz1263 Hz1265) (wd_5 hw) (wd_6 hw) (wd_7 hw) (wd_8 hw) (by decide) pd_5 rfl rfl rfl (by decide) 0 (Nat.le_of_ble_eq_true rfl) (by decide) (by decide) (by decide) ?_
  rintro v1267 h1267 ⟨rfl, rfl⟩
  show W _ _ _ _ _ _ _ _ _ _ _ 1 5 84 #[.val (.int p0), .val (.int p1), .val (.int p2), .val (.ref b1256), .val (.int (1 : Int32)), .val (.int (3 : Int32)), .unset] [(.int (own_go 0 [z1259, z1261, z1263]))]
  refine W.istore 86 at_84 rfl #[.val (.int p0), .val (.int p1), .val (.int p2), .val (.ref b1256), .val (.int (1 : Int32)), .val (.int (3 : Int32)), .val (.int (own_go 0 [z1259, z1261, z1263]))] rfl ?_
  refine W.iload 88 at_86 rfl rfl ?_
  refine W.aloadN 89 at_88 rfl rfl rfl ?_
  refine W.iload 91 at_89 rfl rfl ?_
  refine W.iload 93 at_91 rfl rfl ?_
  refine W.callS (rest := [(.int (own_go 0 [z1259, z1261, z1263]))]) (argsL := [(.ref b1256), (.int (1 : Int32)), (.int (3 : Int32))]) 96 at_93 rfl (fun hn => c_ref13 l Z a0 hw b1256 z1257 z1259 z1261 z1263 z1265 _ n0 hn A1266 Hz1257 Hz1259 Hz1261 Hz1263 Hz1265) (wd_9 hw) (wd_10 hw) (wd_3 hw) (wd_11 hw) (by decide) pd_5 rfl rfl rfl (by decide) 1 (Nat.le_of_ble_eq_true rfl) (by decide) (by decide) (by decide) ?_
  rintro v1268 h1268 ⟨rfl, rfl⟩
  show W _ _ _ _ _ _ _ _ _ _ _ 1 5 96 #[.val (.int p0), .val (.int p1), .val (.int p2), .val (.ref b1256), .val (.int (1 : Int32)), .val (.int (3 : Int32)), .val (.int (own_go 0 [z1259, z1261, z1263]))] [(.int (own_go 0 [z1259, z1261, z1263])), (.int (own_go 0 [z1259, z1261, z1263]))]
  refine W.icmp_ne 103 99 at_96 rfl rfl (fun hc => absurd rfl hc) (fun _ => ?_)
  refine W.iconst 100 at_99 rfl (1 : Int32) rfl ?_
  refine W.goto 104 at_100 rfl ?_
  exact W.ireturnN (t := .boolean) at_104 rfl (by simp) (1 : Int32) rfl rfl (by decide) (by decide)
set_option maxRecDepth 65536 in
set_option maxHeartbeats 40000000 in
theorem law_14 (l : Launch) (Z : State) (a0 : Array Value) (hw : ∀ d ∈ tables_1, d.before a0 Z = true) (p0 p1 p2 : Int32) (h : Heap) (n0 : Nat) (hn : n0 ≤ h.size) (hF : (p2 &&& (1 : Int32)) = (1 : Int32)) (hC : ((((p2.toUInt32 >>> ((1 : Int32) &&& 31).toUInt32).toInt32) &&& (7 : Int32)) % (5 : Int32)) = (4 : Int32)) : ConW tables_1 l Z x code maxLocals ret room_1 #[(.int p0), (.int p1), (.int p2)] h n0 (fun r _ => r = some (.int 1)) := by
  refine ConW.of_W (Ls := #[.val (.int p0), .val (.int p1), .val (.int p2), .unset, .unset, .unset, .unset]) (plainFor_of_name pn_0) hn (fun m => by first | (simp [entryFrame, mkF, argsToLocals, Value.category, maxLocals]; done) | rfl) ?_
  refine W.iconst 1 at_0 rfl (5 : Int32) rfl ?_
  refine W.newarray 3 at_1 rfl (wd_0 hw) rfl (by decide) 5 5 (by decide) (by decide) (by decide) (by decide) (by decide) rfl ?_
  intro h1269 b1269 g1269 ge1269 X1269 K1269 A1269
  have A1269 : Ary _ _ b1269 .byte [(.int (0 : Int32)), (.int (0 : Int32)), (.int (0 : Int32)), (.int (0 : Int32)), (.int (0 : Int32))] := A1269
  show W _ _ _ _ _ _ _ _ _ _ _ 1 5 3 #[.val (.int p0), .val (.int p1), .val (.int p2), .unset, .unset, .unset, .unset] [(.ref b1269)]
  refine W.astoreN 4 at_3 rfl rfl #[.val (.int p0), .val (.int p1), .val (.int p2), .val (.ref b1269), .unset, .unset, .unset] rfl ?_
  refine W.aloadN 5 at_4 rfl rfl rfl ?_
  refine W.iconst 6 at_5 rfl (0 : Int32) rfl ?_
  refine W.iloadN 7 at_6 rfl rfl ?_
  refine W.iloadN 8 at_7 rfl rfl ?_
  refine W.iconst 9 at_8 rfl (0 : Int32) rfl ?_
  refine W.callS (rest := [(.int (0 : Int32)), (.ref b1269)]) (argsL := [(.int p0), (.int p1), (.int (0 : Int32))]) 12 at_9 rfl (fun hn => c_pick l Z a0 hw p0 p1 (0 : Int32) _ n0 hn) (wd_1 hw) (wd_2 hw) (wd_3 hw) (wd_4 hw) (by decide) pd_4 rfl rfl rfl (by decide) 2 (Nat.le_of_ble_eq_true rfl) (by decide) (by decide) (by decide) ?_
  rintro v1270 h1270 ⟨⟨z1270, rfl, Hz1270⟩, rfl⟩
  show W _ _ _ _ _ _ _ _ _ _ _ 1 5 12 #[.val (.int p0), .val (.int p1), .val (.int p2), .val (.ref b1269), .unset, .unset, .unset] [(.int z1270), (.int (0 : Int32)), (.ref b1269)]
  refine W.bastore 13 at_12 rfl A1269 0 (by decide) (by decide) (Nat.le_of_ble_eq_true rfl) z1270 (own_B_nar Hz1270) ge1269 ?_
  intro h1271 W1271 K1271 A1271
  have A1271 : Ary _ _ b1269 .byte [(.int z1270), (.int (0 : Int32)), (.int (0 : Int32)), (.int (0 : Int32)), (.int (0 : Int32))] := A1271
  refine W.aloadN 14 at_13 rfl rfl rfl ?_
  refine W.iconst 15 at_14 rfl (1 : Int32) rfl ?_
  refine W.iloadN 16 at_15 rfl rfl ?_
  refine W.bipush 18 at_16 rfl (8 : Int32) rfl ?_
  refine W.ishr 19 at_18 rfl (p0 >>> ((8 : Int32) &&& 31)) rfl ?_
  refine W.iloadN 20 at_19 rfl rfl ?_
  refine W.iconst 21 at_20 rfl (1 : Int32) rfl ?_
  refine W.callS (rest := [(.int (1 : Int32)), (.ref b1269)]) (argsL := [(.int (p0 >>> ((8 : Int32) &&& 31))), (.int p1), (.int (1 : Int32))]) 24 at_21 rfl (fun hn => c_pick l Z a0 hw (p0 >>> ((8 : Int32) &&& 31)) p1 (1 : Int32) _ n0 hn) (wd_1 hw) (wd_2 hw) (wd_3 hw) (wd_4 hw) (by decide) pd_4 rfl rfl rfl (by decide) 2 (Nat.le_of_ble_eq_true rfl) (by decide) (by decide) (by decide) ?_
  rintro v1272 h1272 ⟨⟨z1272, rfl, Hz1272⟩, rfl⟩
  show W _ _ _ _ _ _ _ _ _ _ _ 1 5 24 #[.val (.int p0), .val (.int p1), .val (.int p2), .val (.ref b1269), .unset, .unset, .unset] [(.int z1272), (.int (1 : Int32)), (.ref b1269)]
  refine W.bastore 25 at_24 rfl A1271 1 (by decide) (by decide) (Nat.le_of_ble_eq_true rfl) z1272 (own_B_nar Hz1272) ge1269 ?_
  intro h1273 W1273 K1273 A1273
  have A1273 : Ary _ _ b1269 .byte [(.int z1270), (.int z1272), (.int (0 : Int32)), (.int (0 : Int32)), (.int (0 : Int32))] := A1273
  refine W.aloadN 26 at_25 rfl rfl rfl ?_
  refine W.iconst 27 at_26 rfl (2 : Int32) rfl ?_
  refine W.iloadN 28 at_27 rfl rfl ?_
  refine W.bipush 30 at_28 rfl (16 : Int32) rfl ?_
  refine W.ishr 31 at_30 rfl (p0 >>> ((16 : Int32) &&& 31)) rfl ?_
  refine W.iloadN 32 at_31 rfl rfl ?_
  refine W.iconst 33 at_32 rfl (2 : Int32) rfl ?_
  refine W.callS (rest := [(.int (2 : Int32)), (.ref b1269)]) (argsL := [(.int (p0 >>> ((16 : Int32) &&& 31))), (.int p1), (.int (2 : Int32))]) 36 at_33 rfl (fun hn => c_pick l Z a0 hw (p0 >>> ((16 : Int32) &&& 31)) p1 (2 : Int32) _ n0 hn) (wd_1 hw) (wd_2 hw) (wd_3 hw) (wd_4 hw) (by decide) pd_4 rfl rfl rfl (by decide) 2 (Nat.le_of_ble_eq_true rfl) (by decide) (by decide) (by decide) ?_
  rintro v1274 h1274 ⟨⟨z1274, rfl, Hz1274⟩, rfl⟩
  show W _ _ _ _ _ _ _ _ _ _ _ 1 5 36 #[.val (.int p0), .val (.int p1), .val (.int p2), .val (.ref b1269), .unset, .unset, .unset] [(.int z1274), (.int (2 : Int32)), (.ref b1269)]
  refine W.bastore 37 at_36 rfl A1273 2 (by decide) (by decide) (Nat.le_of_ble_eq_true rfl) z1274 (own_B_nar Hz1274) ge1269 ?_
  intro h1275 W1275 K1275 A1275
  have A1275 : Ary _ _ b1269 .byte [(.int z1270), (.int z1272), (.int z1274), (.int (0 : Int32)), (.int (0 : Int32))] := A1275
  refine W.aloadN 38 at_37 rfl rfl rfl ?_
  refine W.iconst 39 at_38 rfl (3 : Int32) rfl ?_
  refine W.iloadN 40 at_39 rfl rfl ?_
  refine W.bipush 42 at_40 rfl (24 : Int32) rfl ?_
  refine W.ishr 43 at_42 rfl (p0 >>> ((24 : Int32) &&& 31)) rfl ?_
  refine W.iloadN 44 at_43 rfl rfl ?_
  refine W.iconst 45 at_44 rfl (3 : Int32) rfl ?_
  refine W.callS (rest := [(.int (3 : Int32)), (.ref b1269)]) (argsL := [(.int (p0 >>> ((24 : Int32) &&& 31))), (.int p1), (.int (3 : Int32))]) 48 at_45 rfl (fun hn => c_pick l Z a0 hw (p0 >>> ((24 : Int32) &&& 31)) p1 (3 : Int32) _ n0 hn) (wd_1 hw) (wd_2 hw) (wd_3 hw) (wd_4 hw) (by decide) pd_4 rfl rfl rfl (by decide) 2 (Nat.le_of_ble_eq_true rfl) (by decide) (by decide) (by decide) ?_
  rintro v1276 h1276 ⟨⟨z1276, rfl, Hz1276⟩, rfl⟩
  show W _ _ _ _ _ _ _ _ _ _ _ 1 5 48 #[.val (.int p0), .val (.int p1), .val (.int p2), .val (.ref b1269), .unset, .unset, .unset] [(.int z1276), (.int (3 : Int32)), (.ref b1269)]
  refine W.bastore 49 at_48 rfl A1275 3 (by decide) (by decide) (Nat.le_of_ble_eq_true rfl) z1276 (own_B_nar Hz1276) ge1269 ?_
  intro h1277 W1277 K1277 A1277
  have A1277 : Ary _ _ b1269 .byte [(.int z1270), (.int z1272), (.int z1274), (.int z1276), (.int (0 : Int32))] := A1277
  refine W.aloadN 50 at_49 rfl rfl rfl ?_
  refine W.iconst 51 at_50 rfl (4 : Int32) rfl ?_
  refine W.iloadN 52 at_51 rfl rfl ?_
  refine W.bipush 54 at_52 rfl (8 : Int32) rfl ?_
  refine W.ishr 55 at_54 rfl (p2 >>> ((8 : Int32) &&& 31)) rfl ?_
  refine W.iloadN 56 at_55 rfl rfl ?_
  refine W.iconst 57 at_56 rfl (4 : Int32) rfl ?_
  refine W.callS (rest := [(.int (4 : Int32)), (.ref b1269)]) (argsL := [(.int (p2 >>> ((8 : Int32) &&& 31))), (.int p1), (.int (4 : Int32))]) 60 at_57 rfl (fun hn => c_pick l Z a0 hw (p2 >>> ((8 : Int32) &&& 31)) p1 (4 : Int32) _ n0 hn) (wd_1 hw) (wd_2 hw) (wd_3 hw) (wd_4 hw) (by decide) pd_4 rfl rfl rfl (by decide) 2 (Nat.le_of_ble_eq_true rfl) (by decide) (by decide) (by decide) ?_
  rintro v1278 h1278 ⟨⟨z1278, rfl, Hz1278⟩, rfl⟩
  show W _ _ _ _ _ _ _ _ _ _ _ 1 5 60 #[.val (.int p0), .val (.int p1), .val (.int p2), .val (.ref b1269), .unset, .unset, .unset] [(.int z1278), (.int (4 : Int32)), (.ref b1269)]
  refine W.bastore 61 at_60 rfl A1277 4 (by decide) (by decide) (Nat.le_of_ble_eq_true rfl) z1278 (own_B_nar Hz1278) ge1269 ?_
  intro h1279 W1279 K1279 A1279
  have A1279 : Ary _ _ b1269 .byte [(.int z1270), (.int z1272), (.int z1274), (.int z1276), (.int z1278)] := A1279
  refine W.iloadN 62 at_61 rfl rfl ?_
  refine W.iconst 63 at_62 rfl (1 : Int32) rfl ?_
  refine W.iand 64 at_63 rfl (1 : Int32) hF ?_
  refine W.istore 66 at_64 rfl #[.val (.int p0), .val (.int p1), .val (.int p2), .val (.ref b1269), .val (.int (1 : Int32)), .unset, .unset] rfl ?_
  refine W.iloadN 67 at_66 rfl rfl ?_
  refine W.iconst 68 at_67 rfl (1 : Int32) rfl ?_
  refine W.iushr 69 at_68 rfl ((p2.toUInt32 >>> ((1 : Int32) &&& 31).toUInt32).toInt32) rfl ?_
  refine W.bipush 71 at_69 rfl (7 : Int32) rfl ?_
  refine W.iand 72 at_71 rfl (((p2.toUInt32 >>> ((1 : Int32) &&& 31).toUInt32).toInt32) &&& (7 : Int32)) rfl ?_
  refine W.iconst 73 at_72 rfl (5 : Int32) rfl ?_
  refine W.irem 74 at_73 rfl (by decide) (4 : Int32) hC ?_
  refine W.istore 76 at_74 rfl #[.val (.int p0), .val (.int p1), .val (.int p2), .val (.ref b1269), .val (.int (1 : Int32)), .val (.int (4 : Int32)), .unset] rfl ?_
  refine W.aloadN 77 at_76 rfl rfl rfl ?_
  refine W.iload 79 at_77 rfl rfl ?_
  refine W.iload 81 at_79 rfl rfl ?_
  refine W.callS (rest := []) (argsL := [(.ref b1269), (.int (1 : Int32)), (.int (4 : Int32))]) 84 at_81 rfl (fun hn => c_ds14 l Z a0 hw b1269 z1270 z1272 z1274 z1276 z1278 _ n0 hn A1279 Hz1270 Hz1272 Hz1274 Hz1276 Hz1278) (wd_5 hw) (wd_6 hw) (wd_7 hw) (wd_8 hw) (by decide) pd_5 rfl rfl rfl (by decide) 0 (Nat.le_of_ble_eq_true rfl) (by decide) (by decide) (by decide) ?_
  rintro v1280 h1280 ⟨rfl, rfl⟩
  show W _ _ _ _ _ _ _ _ _ _ _ 1 5 84 #[.val (.int p0), .val (.int p1), .val (.int p2), .val (.ref b1269), .val (.int (1 : Int32)), .val (.int (4 : Int32)), .unset] [(.int (own_go 0 [z1272, z1274, z1276, z1278]))]
  refine W.istore 86 at_84 rfl #[.val (.int p0), .val (.int p1), .val (.int p2), .val (.ref b1269), .val (.int (1 : Int32)), .val (.int (4 : Int32)), .val (.int (own_go 0 [z1272, z1274, z1276, z1278]))] rfl ?_
  refine W.iload 88 at_86 rfl rfl ?_
  refine W.aloadN 89 at_88 rfl rfl rfl ?_
  refine W.iload 91 at_89 rfl rfl ?_
  refine W.iload 93 at_91 rfl rfl ?_
  refine W.callS (rest := [(.int (own_go 0 [z1272, z1274, z1276, z1278]))]) (argsL := [(.ref b1269), (.int (1 : Int32)), (.int (4 : Int32))]) 96 at_93 rfl (fun hn => c_ref14 l Z a0 hw b1269 z1270 z1272 z1274 z1276 z1278 _ n0 hn A1279 Hz1270 Hz1272 Hz1274 Hz1276 Hz1278) (wd_9 hw) (wd_10 hw) (wd_3 hw) (wd_11 hw) (by decide) pd_5 rfl rfl rfl (by decide) 1 (Nat.le_of_ble_eq_true rfl) (by decide) (by decide) (by decide) ?_
  rintro v1281 h1281 ⟨rfl, rfl⟩
  show W _ _ _ _ _ _ _ _ _ _ _ 1 5 96 #[.val (.int p0), .val (.int p1), .val (.int p2), .val (.ref b1269), .val (.int (1 : Int32)), .val (.int (4 : Int32)), .val (.int (own_go 0 [z1272, z1274, z1276, z1278]))] [(.int (own_go 0 [z1272, z1274, z1276, z1278])), (.int (own_go 0 [z1272, z1274, z1276, z1278]))]
  refine W.icmp_ne 103 99 at_96 rfl rfl (fun hc => absurd rfl hc) (fun _ => ?_)
  refine W.iconst 100 at_99 rfl (1 : Int32) rfl ?_
  refine W.goto 104 at_100 rfl ?_
  exact W.ireturnN (t := .boolean) at_104 rfl (by simp) (1 : Int32) rfl rfl (by decide) (by decide)
theorem own_mod5 (x : Int32) : (x &&& 7) % 5 = 0 ∨ (x &&& 7) % 5 = 1 ∨ (x &&& 7) % 5 = 2 ∨ (x &&& 7) % 5 = 3 ∨ (x &&& 7) % 5 = 4 := by
  have h1 := c_mask x 7 3 (by decide) (by decide)
  have h2 := (c_irem (x &&& 7) 5 5 rfl).1 (by omega)
  have e0 : (0 : Int32).toInt = 0 := rfl
  have e1 : (1 : Int32).toInt = 1 := rfl
  have e2 : (2 : Int32).toInt = 2 := rfl
  have e3 : (3 : Int32).toInt = 3 := rfl
  have e4 : (4 : Int32).toInt = 4 := rfl
  simp only [← Int32.toInt_inj]
  omega
theorem law_ok (l : Launch) (Z : State) (a0 : Array Value) (hw : ∀ d ∈ tables_1, d.before a0 Z = true) (p0 p1 p2 : Int32) (h : Heap) (n0 : Nat) (hn : n0 ≤ h.size) : ConW tables_1 l Z x code maxLocals ret room_1 #[(.int p0), (.int p1), (.int p2)] h n0 (fun r _ => r = some (.int 1)) := by
  rcases and_one p2 with hf | hf <;> rcases own_mod5 ((p2.toUInt32 >>> ((1 : Int32) &&& 31).toUInt32).toInt32) with q | q | q | q | q
  · exact law_00 l Z a0 hw p0 p1 p2 h n0 hn hf q
  · exact law_01 l Z a0 hw p0 p1 p2 h n0 hn hf q
  · exact law_02 l Z a0 hw p0 p1 p2 h n0 hn hf q
  · exact law_03 l Z a0 hw p0 p1 p2 h n0 hn hf q
  · exact law_04 l Z a0 hw p0 p1 p2 h n0 hn hf q
  · exact law_10 l Z a0 hw p0 p1 p2 h n0 hn hf q
  · exact law_11 l Z a0 hw p0 p1 p2 h n0 hn hf q
  · exact law_12 l Z a0 hw p0 p1 p2 h n0 hn hf q
  · exact law_13 l Z a0 hw p0 p1 p2 h n0 hn hf q
  · exact law_14 l Z a0 hw p0 p1 p2 h n0 hn hf q
set_option maxRecDepth 65536 in
set_option maxHeartbeats 40000000 in
theorem comes_1 {Post : Tables → Env → Array Value → State → Outcome → State → Prop} (hpost : ∀ tb e args s v u, (limb_1_1.after args s (.returned v) u = true ∧ limb_1_2.after args s (.returned v) u = true ∧ True) → FrameEnd s (.returned v) u (Jvm.fieldLocs frame_1_writes args s ++ Jvm.arrayLocs frame_1_arrays args s ++ Jvm.staticLocs frame_1_statics s) 16 128 → Post tb e args s (.returned v) u) :
    ArmFor flags0 classFile x code maxLocals ret World_1 tables_1 room_1 Calls_1 rest_1 Pre_1 Post := by
  intro l hfl _ _ p e ha hc hk s m args below hf hA hF happ hP
  obtain ⟨hcalls, hrest, hpre⟩ := hP
  obtain ⟨-, -, -, hnamed, -, -, -, hat⟩ := (Spec.applies_iff hf).mp happ
  obtain ⟨hg, hn⟩ := and_e (Cond.before_iff.mp (show (Jvm.Cond.and given_1 narrow_1).before args s = true from hpre))
  obtain ⟨hcnt, hg1⟩ := and_e hg
  obtain ⟨k0, hh0⟩ := and_e hg1
  obtain ⟨k1, hh1⟩ := and_e hh0
  have k2 := hh1
  obtain ⟨w0, w1, w2, rfl⟩ : ∃ w0 w1 w2 : Value, args = #[w0, w1, w2] := by
    have hs : args.size = 3 := by simpa [Cond.value, given_1] using hcnt
    obtain ⟨L⟩ := args
    match L, hs with
    | [w0, w1, w2], _ => exact ⟨w0, w1, w2, rfl⟩
  have hw := fun d (hd : d ∈ tables_1) => atoms_spec (ws := Jvm.Cond.code x code maxLocals ret :: tables_1) hat d (List.mem_cons_of_mem _ hd)
  have hfit : Fit s := fun {y c} hc i hi => by
    obtain ⟨ha, rfl⟩ := Array.getElem?_eq_some_iff.mp hc
    have q := List.all_eq_true.mp ((Array.all_eq_true_iff_forall_mem.mp hF) _ (Array.getElem_mem ha)) i (List.mem_range.mpr hi)
    simpa [Array.getElem?_eq_getElem hi] using q
  obtain ⟨i0, ei0⟩ := is_v k0
  obtain rfl : w0 = (.int i0) := Option.some.inj ei0
  obtain ⟨i1, ei1⟩ := is_v k1
  obtain rfl : w1 = (.int i1) := Option.some.inj ei1
  obtain ⟨i2, ei2⟩ := is_v k2
  obtain rfl : w2 = (.int i2) := Option.some.inj ei2
  obtain ⟨n, o, h1, h2, h3, _, L, rfl, ⟨rfl, N⟩, hq⟩ := law_ok l s _ hw i0 i1 i2 s.heap s.heap.size (Nat.le_refl _) p e ha hc hk s m _ below hf ((Spec.applies_iff_loose hf).mp happ).1 ⟨rfl, State.Warmed39.refl s, rfl⟩ trivial
  refine ⟨n, _, h1, h2, h3, hpost _ _ _ _ _ _ ⟨Cond.after_iff.mpr rfl, Cond.after_iff.mpr (eq_i res_at (Term.int_eval (1)) rfl), trivial⟩ ⟨hq.1, hq.2.1, (hq.2.2.sift fun y hy => Or.inr (N y hy)).mono (by decide) (by decide)⟩⟩
theorem main_1_1 : Claimed_1_1 := comes_1 fun _ _ _ _ _ _ h hF => ⟨h.1, hF⟩
theorem main_1_2 : Claimed_1_2 := comes_1 fun _ _ _ _ _ _ h hF => ⟨h.2.1, hF⟩
end Jvm.Pilot.@@N@@
namespace Jvm.Pilot.@@N@@
open Jvm Jvm.ClassFile Sem Op Lib Jvm.Free Jvm.Stand Jvm.Pilot.@@N@@.Jvm.D
/-! MADE BY PROGRAM (witnessworld.py) out of the Statement's table words and the real class files: 9 classes; the members and pool entries that the words name. The judged class is class 1, her method 1. -/
namespace start1
open Jvm.ClassFile
def u (s : String) : CpInfo := .utf8 (stringToUtf16 s)
/-- a pool by its gaps: so many unusable entries, then the entry; so many at the end -/
def gap : Nat → List CpInfo → List CpInfo
  | 0, r => r
  | n + 1, r => .unusable :: gap n r
def poolList (es : List (Nat × CpInfo)) (last : Nat) : List CpInfo := es.foldr (fun e r => gap e.1 (e.2 :: r)) (gap last [])
def pool (es : List (Nat × CpInfo)) (last : Nat) : Array CpInfo := ⟨poolList es last⟩
def fileOf (pool : Array CpInfo) (this : Nat) (attrs : Array Attribute := #[]) (ms : Array MethodInfo := #[]) (fl : Nat := 33) (sup : Nat := 0) (ifs : Array Nat := #[]) (fds : Array FieldInfo := #[]) : ClassFile where
  minorVersion := 0
  majorVersion := 65
  constantPool := pool
  accessFlags := fl
  thisClass := this
  superClass := sup
  interfaces := ifs
  fields := fds
  methods := ms
  attributes := attrs
def plain (name : String) (sup : Option ClassId) : Class where
  name := name
  kind := .ordinary
  loader := none
  accessFlags := 33
  super := sup
  interfaces := #[]
  cf := none
  fields := #[]
  methods := #[]
  instanceTypes := #[]
  staticTypes := #[]
  resolved := #[]
  callSites := []
  init := .initialized
  statics := none
  mirror := none

def pool0 : Array CpInfo := pool [(5, u "<init>"), (0, u "()V"), (1, .class_ 10), (1, u "java/lang/Object")] 113

def k0m0 : Method := { name := "<init>", desc := "()V", sig := { parameters := [], returnType := none }, accessFlags := 1, code := none }
/-- java/lang/Object -/
def k0 : Class := { plain "java/lang/Object" none with
  accessFlags := 33
  interfaces := #[]
  cf := some (fileOf pool0 8 #[] #[{ accessFlags := 1, nameIndex := 5, descriptorIndex := 6, attributes := #[] }] 33 0 #[] #[])
  fields := #[]
  methods := #[k0m0]
  instanceTypes := #[]
  staticTypes := #[]
  resolved := Array.replicate 124 none
  statics := none }

def pool1 : Array CpInfo := pool [(2, .class_ 4), (1, u "java/lang/Object"), (0, u "<init>"), (0, u "()V"), (0, .methodref 8 9), (0, .class_ 10), (0, .nameAndType 11 12), (0, u "com/example/tallymark/tallymark/InputTimesDigitsPinLaw"), (0, u "pick"), (0, u "(III)B"), (0, .methodref 14 15), (0, .class_ 16), (0, .nameAndType 17 18), (0, u "com/example/tallymark/tallymark/InputTimes"), (0, u "digits"), (0, u "([BII)I"), (0, .methodref 8 20), (0, .nameAndType 21 18), (0, u "ref"), (0, .methodref 8 23), (0, .nameAndType 24 25), (0, u "dig"), (0, u "(B)I"), (0, .methodref 8 27), (0, .nameAndType 28 29), (0, u "pow10"), (0, u "(I)I"), (0, .methodref 8 31), (0, .nameAndType 32 33), (0, u "badAt"), (0, u "([BIII)Z"), (0, .methodref 8 35), (0, .nameAndType 36 37), (0, u "term"), (0, u "([BIII)I"), (2, u "law"), (0, u "(III)Z")] 5

def k1m0 : Method := { name := "<init>", desc := "()V", sig := { parameters := [], returnType := none }, accessFlags := 1, code := none }
def k1c1 : Code := { maxStack := 5, maxLocals := 7, code := code, exceptionTable := #[], attributes := #[] }
def k1m1 : Method := { name := "law", desc := "(III)Z", sig := { parameters := [.int, .int, .int], returnType := some .boolean }, accessFlags := 9, code := some k1c1 }
def k1c2 : Code := { maxStack := 5, maxLocals := 3, code := method_3_code, exceptionTable := #[], attributes := #[] }
def k1m2 : Method := { name := "pick", desc := "(III)B", sig := { parameters := [.int, .int, .int], returnType := some .byte }, accessFlags := 10, code := some k1c2 }
def k1c3 : Code := { maxStack := 2, maxLocals := 1, code := method_4_code, exceptionTable := #[], attributes := #[] }
def k1m3 : Method := { name := "dig", desc := "(B)I", sig := { parameters := [.byte], returnType := some .int }, accessFlags := 10, code := some k1c3 }
def k1c4 : Code := { maxStack := 2, maxLocals := 1, code := method_5_code, exceptionTable := #[], attributes := #[] }
def k1m4 : Method := { name := "pow10", desc := "(I)I", sig := { parameters := [.int], returnType := some .int }, accessFlags := 10, code := some k1c4 }
def k1c5 : Code := { maxStack := 3, maxLocals := 4, code := method_6_code, exceptionTable := #[], attributes := #[] }
def k1m5 : Method := { name := "badAt", desc := "([BIII)Z", sig := { parameters := [(.array .byte), .int, .int, .int], returnType := some .boolean }, accessFlags := 10, code := some k1c5 }
def k1c6 : Code := { maxStack := 3, maxLocals := 4, code := method_7_code, exceptionTable := #[], attributes := #[] }
def k1m6 : Method := { name := "term", desc := "([BIII)I", sig := { parameters := [(.array .byte), .int, .int, .int], returnType := some .int }, accessFlags := 10, code := some k1c6 }
def k1c7 : Code := { maxStack := 5, maxLocals := 3, code := method_8_code, exceptionTable := #[], attributes := #[] }
def k1m7 : Method := { name := "ref", desc := "([BII)I", sig := { parameters := [(.array .byte), .int, .int], returnType := some .int }, accessFlags := 10, code := some k1c7 }
/-- com/example/tallymark/tallymark/InputTimesDigitsPinLaw -/
def k1 : Class := { plain "com/example/tallymark/tallymark/InputTimesDigitsPinLaw" (some 0) with
  accessFlags := 49
  interfaces := #[]
  cf := some (fileOf pool1 8 #[] #[{ accessFlags := 1, nameIndex := 5, descriptorIndex := 6, attributes := #[] }, { accessFlags := 9, nameIndex := 40, descriptorIndex := 41, attributes := #[] }, { accessFlags := 10, nameIndex := 11, descriptorIndex := 12, attributes := #[] }, { accessFlags := 10, nameIndex := 24, descriptorIndex := 25, attributes := #[] }, { accessFlags := 10, nameIndex := 28, descriptorIndex := 29, attributes := #[] }, { accessFlags := 10, nameIndex := 32, descriptorIndex := 33, attributes := #[] }, { accessFlags := 10, nameIndex := 36, descriptorIndex := 37, attributes := #[] }, { accessFlags := 10, nameIndex := 21, descriptorIndex := 18, attributes := #[] }] 49 2 #[] #[])
  fields := #[]
  methods := #[k1m0, k1m1, k1m2, k1m3, k1m4, k1m5, k1m6, k1m7]
  instanceTypes := #[]
  staticTypes := #[]
  resolved := Array.replicate 47 none
  statics := none }

def pool2 : Array CpInfo := pool [(4, .class_ 6), (1, u "java/lang/Object"), (0, u "<init>"), (0, u "()V"), (0, .class_ 10), (0, u "com/example/tallymark/tallymark/InputTimes"), (4, u "digits"), (0, u "([BII)I"), (32, u "DATES"), (0, u "[Ljava/time/LocalDate;"), (14, u "WRITTEN"), (0, u "Ljava/time/format/DateTimeFormatter;"), (75, u "DATE"), (2, u "MONTH"), (15, u "NOT_A_DATE"), (0, u "Ljava/lang/String;"), (3, u "NOT_A_TIME"), (0, u "J")] 10

def k2m0 : Method := { name := "<init>", desc := "()V", sig := { parameters := [], returnType := none }, accessFlags := 2, code := none }
def k2c1 : Code := { maxStack := 3, maxLocals := 6, code := prog_58_method_6_code, exceptionTable := #[], attributes := #[] }
def k2m1 : Method := { name := "digits", desc := "([BII)I", sig := { parameters := [(.array .byte), .int, .int], returnType := some .int }, accessFlags := 8, code := some k2c1 }
/-- com/example/tallymark/tallymark/InputTimes -/
def k2 : Class := { plain "com/example/tallymark/tallymark/InputTimes" (some 0) with
  accessFlags := 32
  interfaces := #[]
  cf := some (fileOf pool2 9 #[] #[{ accessFlags := 2, nameIndex := 7, descriptorIndex := 8, attributes := #[] }, { accessFlags := 8, nameIndex := 15, descriptorIndex := 16, attributes := #[] }] 32 4 #[] #[{ accessFlags := 24, nameIndex := 142, descriptorIndex := 66, attributes := #[] }, { accessFlags := 24, nameIndex := 161, descriptorIndex := 162, attributes := #[] }, { accessFlags := 24, nameIndex := 145, descriptorIndex := 66, attributes := #[] }, { accessFlags := 26, nameIndex := 65, descriptorIndex := 66, attributes := #[] }, { accessFlags := 24, nameIndex := 166, descriptorIndex := 167, attributes := #[] }, { accessFlags := 26, nameIndex := 49, descriptorIndex := 50, attributes := #[] }])
  fields := #[{ name := "DATE", type := (.object "java/time/format/DateTimeFormatter"), accessFlags := 24, slot := 0, constantValue := 0 }, { name := "NOT_A_DATE", type := (.object "java/lang/String"), accessFlags := 24, slot := 1, constantValue := 0 }, { name := "MONTH", type := (.object "java/time/format/DateTimeFormatter"), accessFlags := 24, slot := 2, constantValue := 0 }, { name := "WRITTEN", type := (.object "java/time/format/DateTimeFormatter"), accessFlags := 26, slot := 3, constantValue := 0 }, { name := "NOT_A_TIME", type := .long, accessFlags := 24, slot := 4, constantValue := 0 }, { name := "DATES", type := (.array (.object "java/time/LocalDate")), accessFlags := 26, slot := 5, constantValue := 0 }]
  methods := #[k2m0, k2m1]
  instanceTypes := #[]
  staticTypes := #[(.object "java/time/format/DateTimeFormatter"), (.object "java/lang/String"), (.object "java/time/format/DateTimeFormatter"), (.object "java/time/format/DateTimeFormatter"), .long, (.array (.object "java/time/LocalDate"))]
  resolved := Array.replicate 178 none
  statics := none }

def pool3 : Array CpInfo := pool [(1, u "java/lang/Cloneable"), (0, .class_ 1), (0, u "java/lang/Object"), (0, .class_ 3)] 3

/-- java/lang/Cloneable -/
def k3 : Class := { plain "java/lang/Cloneable" (some 0) with
  accessFlags := 1537
  interfaces := #[]
  cf := some (fileOf pool3 2 #[] #[] 1537 4 #[] #[])
  fields := #[]
  methods := #[]
  instanceTypes := #[]
  staticTypes := #[]
  resolved := Array.replicate 8 none
  statics := none }

def pool4 : Array CpInfo := pool [(1, u "java/io/Serializable"), (0, .class_ 1), (0, u "java/lang/Object"), (0, .class_ 3)] 3

/-- java/io/Serializable -/
def k4 : Class := { plain "java/io/Serializable" (some 0) with
  accessFlags := 1537
  interfaces := #[]
  cf := some (fileOf pool4 2 #[] #[] 1537 4 #[] #[])
  fields := #[]
  methods := #[]
  instanceTypes := #[]
  staticTypes := #[]
  resolved := Array.replicate 8 none
  statics := none }

/-- the primitive byte -/
def k5 : Class := { plain "byte" none with kind := .primitive 'B', accessFlags := 0x411 }
/-- [B -/
def k6 : Class := { plain "[B" (some 0) with kind := .array 5 .byte, interfaces := #[3, 4], accessFlags := 1041 }

/-- the primitive int -/
def k7 : Class := { plain "int" none with kind := .primitive 'I', accessFlags := 0x411 }
/-- [I -/
def k8 : Class := { plain "[I" (some 0) with kind := .array 7 .int, interfaces := #[3, 4], accessFlags := 1041 }

def heap : Heap := #[]
def classes : Array Class := #[k0, k1, k2, k3, k4, k5, k6, k7, k8]
def interned : List (Array UInt16 × Addr) := []
def slotsUsed : Nat := 0
def theMethod : MethodId := ⟨1, 1⟩
def args0 : Array Value := #[.int 3, .int 9, .int 4]
def aboutOver (below : List Frame) : State where
  vm := { classes := classes, interned := interned.toArray }
  heap := heap
  slotsUsed := slotsUsed
  threads := #[{ frames := .invoking theMethod args0 :: below }]
def below0 : List Frame := [.native { method := ⟨0, 0⟩, args := #[] }]
def about1 : State := aboutOver below0
def p0 : Program := .bare "" "" ""
def e0 : Env := launch0.env 0 0 0
theorem w_frames : about1.frames = Frame.invoking theMethod args0 :: below0 := rfl
set_option maxRecDepth 65536 in
theorem w_args : argsFit about1.vm theMethod args0 = true := by decide +kernel
set_option maxRecDepth 65536 in
theorem w_heap : heapFits about1 = true := by decide +kernel
set_option maxRecDepth 65536 in
theorem w_runnable : about1.curStatus? = some .runnable := by decide +kernel
set_option maxRecDepth 65536 in
theorem w_alone : about1.alone = true := by decide +kernel
set_option maxRecDepth 65536 in
theorem w_named : about1.methodNamed? x = some theMethod := by decide +kernel
set_option maxRecDepth 65536 in
theorem w_hears : about1.hears theMethod below0 = true := by decide +kernel
set_option maxRecDepth 65536 in
theorem w_ripe : about1.ripe theMethod args0 below0 = true := by decide +kernel
theorem w_running : about1.status = .running := rfl
set_option maxRecDepth 65536 in
theorem w_room : about1.hasRoom e0.platform room_1 = true :=
  launch0.hasRoom_least _ room_1 (by decide +kernel) (by decide +kernel) (by decide +kernel) (by decide +kernel) (by decide +kernel) (by decide +kernel)
theorem allAtoms_all (ts : List Jvm.Cond) (a : Array Jvm.Value) (st : Jvm.State) : (allAtoms ts).before a st = ts.all (fun c => c.before a st) := by
  induction ts with
  | nil => rfl
  | cons c t ih =>
    show (Jvm.Cond.and c (allAtoms t)).before a st = _
    rw [Jvm.Cond.before_and, ih, List.all_cons]
def words1 : List Jvm.Cond := Jvm.Cond.code x code maxLocals ret :: tables_1
/-- a 'code' word, met by the world's own term for the bytes: nothing is compared byte by byte -/
theorem code_word {y : MethodName} {bytes : ByteArray} {mx : Nat} {rt : Option FieldType} {a : Array Value} {s : State} {m : MethodId} {meth : Method} {c : Code} (h1 : s.methodNamed? y = some m) (h2 : s.vm.method? m = some meth) (h3 : meth.code = some c) (h4 : c.code = bytes)
    (h5 : (c.maxLocals == mx && c.exceptionTable.isEmpty && decide (c.maxStack ≤ mostOperands) && decide (meth.sig.returnType = rt) && !meth.locks && decide (parseMethodDescriptor y.desc = some meth.sig)) = true) : (Jvm.Cond.code y bytes mx rt).before a s = true := by
  simp only [Bool.and_eq_true, beq_iff_eq, Bool.not_eq_true', decide_eq_true_eq] at h5
  obtain ⟨⟨⟨⟨⟨g1, g2⟩, g3⟩, g4⟩, g5⟩, g6⟩ := h5
  simp [Cond.before, Cond.holds, Cond.value, h1, h2, h3, h4, g1, g2, g3, g4, g5, g6]
def isCode : Jvm.Cond → Bool
  | .code _ _ _ _ => true
  | _ => false
theorem all_split {L : List Jvm.Cond} {P : Jvm.Cond → Bool} (h1 : L.all (fun c => isCode c || P c) = true) (h2 : ∀ c ∈ L.filter isCode, P c = true) : L.all P = true := by
  refine List.all_eq_true.mpr fun c hc => ?_
  have h := List.all_eq_true.mp h1 c hc
  rcases Bool.eq_false_or_eq_true (isCode c) with hi | hi
  · exact h2 c (List.mem_filter.mpr ⟨hc, hi⟩)
  · simpa [hi] using h
set_option maxRecDepth 65536 in
theorem w_c0 : (Jvm.Cond.code x code maxLocals ret).before args0 about1 = true := code_word (m := ⟨1, 1⟩) (meth := k1m1) (c := k1c1) (by decide +kernel) rfl rfl rfl (by decide +kernel)
set_option maxRecDepth 65536 in
theorem w_c1 : (Jvm.Cond.code ({ cls := "com/example/tallymark/tallymark/InputTimesDigitsPinLaw", name := "pick", desc := "(III)B" } : Jvm.MethodName) method_3_code (3 : Nat) (Option.some Jvm.ClassFile.FieldType.byte)).before args0 about1 = true := code_word (m := ⟨1, 2⟩) (meth := k1m2) (c := k1c2) (by decide +kernel) rfl rfl rfl (by decide +kernel)
set_option maxRecDepth 65536 in
theorem w_c2 : (Jvm.Cond.code ({ cls := "com/example/tallymark/tallymark/InputTimes", name := "digits", desc := "([BII)I" } : Jvm.MethodName) prog_58_method_6_code (6 : Nat) (Option.some Jvm.ClassFile.FieldType.int)).before args0 about1 = true := code_word (m := ⟨2, 1⟩) (meth := k2m1) (c := k2c1) (by decide +kernel) rfl rfl rfl (by decide +kernel)
set_option maxRecDepth 65536 in
theorem w_c3 : (Jvm.Cond.code ({ cls := "com/example/tallymark/tallymark/InputTimesDigitsPinLaw", name := "ref", desc := "([BII)I" } : Jvm.MethodName) method_8_code (3 : Nat) (Option.some Jvm.ClassFile.FieldType.int)).before args0 about1 = true := code_word (m := ⟨1, 7⟩) (meth := k1m7) (c := k1c7) (by decide +kernel) rfl rfl rfl (by decide +kernel)
set_option maxRecDepth 65536 in
theorem w_c4 : (Jvm.Cond.code ({ cls := "com/example/tallymark/tallymark/InputTimesDigitsPinLaw", name := "badAt", desc := "([BIII)Z" } : Jvm.MethodName) method_6_code (4 : Nat) (Option.some Jvm.ClassFile.FieldType.boolean)).before args0 about1 = true := code_word (m := ⟨1, 5⟩) (meth := k1m5) (c := k1c5) (by decide +kernel) rfl rfl rfl (by decide +kernel)
set_option maxRecDepth 65536 in
theorem w_c5 : (Jvm.Cond.code ({ cls := "com/example/tallymark/tallymark/InputTimesDigitsPinLaw", name := "dig", desc := "(B)I" } : Jvm.MethodName) method_4_code (1 : Nat) (Option.some Jvm.ClassFile.FieldType.int)).before args0 about1 = true := code_word (m := ⟨1, 3⟩) (meth := k1m3) (c := k1c3) (by decide +kernel) rfl rfl rfl (by decide +kernel)
set_option maxRecDepth 65536 in
theorem w_c6 : (Jvm.Cond.code ({ cls := "com/example/tallymark/tallymark/InputTimesDigitsPinLaw", name := "term", desc := "([BIII)I" } : Jvm.MethodName) method_7_code (4 : Nat) (Option.some Jvm.ClassFile.FieldType.int)).before args0 about1 = true := code_word (m := ⟨1, 6⟩) (meth := k1m6) (c := k1c6) (by decide +kernel) rfl rfl rfl (by decide +kernel)
set_option maxRecDepth 65536 in
theorem w_c7 : (Jvm.Cond.code ({ cls := "com/example/tallymark/tallymark/InputTimesDigitsPinLaw", name := "pow10", desc := "(I)I" } : Jvm.MethodName) method_5_code (1 : Nat) (Option.some Jvm.ClassFile.FieldType.int)).before args0 about1 = true := code_word (m := ⟨1, 4⟩) (meth := k1m4) (c := k1c4) (by decide +kernel) rfl rfl rfl (by decide +kernel)
def codes1 : List Jvm.Cond := [Jvm.Cond.code x code maxLocals ret, Jvm.Cond.code ({ cls := "com/example/tallymark/tallymark/InputTimesDigitsPinLaw", name := "pick", desc := "(III)B" } : Jvm.MethodName) method_3_code (3 : Nat) (Option.some Jvm.ClassFile.FieldType.byte), Jvm.Cond.code ({ cls := "com/example/tallymark/tallymark/InputTimes", name := "digits", desc := "([BII)I" } : Jvm.MethodName) prog_58_method_6_code (6 : Nat) (Option.some Jvm.ClassFile.FieldType.int), Jvm.Cond.code ({ cls := "com/example/tallymark/tallymark/InputTimesDigitsPinLaw", name := "ref", desc := "([BII)I" } : Jvm.MethodName) method_8_code (3 : Nat) (Option.some Jvm.ClassFile.FieldType.int), Jvm.Cond.code ({ cls := "com/example/tallymark/tallymark/InputTimesDigitsPinLaw", name := "badAt", desc := "([BIII)Z" } : Jvm.MethodName) method_6_code (4 : Nat) (Option.some Jvm.ClassFile.FieldType.boolean), Jvm.Cond.code ({ cls := "com/example/tallymark/tallymark/InputTimesDigitsPinLaw", name := "dig", desc := "(B)I" } : Jvm.MethodName) method_4_code (1 : Nat) (Option.some Jvm.ClassFile.FieldType.int), Jvm.Cond.code ({ cls := "com/example/tallymark/tallymark/InputTimesDigitsPinLaw", name := "term", desc := "([BIII)I" } : Jvm.MethodName) method_7_code (4 : Nat) (Option.some Jvm.ClassFile.FieldType.int), Jvm.Cond.code ({ cls := "com/example/tallymark/tallymark/InputTimesDigitsPinLaw", name := "pow10", desc := "(I)I" } : Jvm.MethodName) method_5_code (1 : Nat) (Option.some Jvm.ClassFile.FieldType.int)]
set_option maxRecDepth 65536 in
theorem codes_eq : words1.filter isCode = codes1 := rfl
theorem w_codes : ∀ c ∈ words1.filter isCode, c.before args0 about1 = true := by
  rw [codes_eq]
  intro c hc
  simp only [codes1, List.mem_cons, List.not_mem_nil, or_false] at hc
  rcases hc with rfl | rfl | rfl | rfl | rfl | rfl | rfl | rfl
  · exact w_c0
  · exact w_c1
  · exact w_c2
  · exact w_c3
  · exact w_c4
  · exact w_c5
  · exact w_c6
  · exact w_c7
set_option maxRecDepth 65536 in
theorem w_t1 : (words1.take 24).all (fun c => isCode c || c.before args0 about1) = true := by decide +kernel
set_option maxRecDepth 65536 in
theorem w_t2 : (words1.drop 24).all (fun c => isCode c || c.before args0 about1) = true := by decide +kernel
theorem w_tables : (allAtoms (Jvm.Cond.code x code maxLocals ret :: tables_1)).before args0 about1 = true := by
  rw [allAtoms_all]
  show words1.all (fun c => c.before args0 about1) = true
  refine all_split ?_ w_codes
  rw [← List.take_append_drop 24 words1, List.all_append, w_t1, w_t2]
  rfl
set_option maxRecDepth 65536 in
theorem w_case : (Jvm.Cond.and given_1 narrow_1).before args0 about1 = true := by decide +kernel
theorem w_applies : (headSpec (Jvm.Cond.code x code maxLocals ret :: tables_1) room_1).applies x e0.platform about1 = true :=
  (Spec.applies_iff w_frames).mpr ⟨w_running, w_runnable, w_alone, w_named, w_hears, w_ripe, w_room, w_tables⟩
theorem atStart : AtStart classFile x code maxLocals ret World_1 tables_1 room_1 Calls_1 rest_1 Pre_1 launch0 p0 e0 about1 theMethod args0 below0 :=
  ⟨lists_1, trivial, launch0.admits_env _ _ _, launch0.least_env, fairChoices_fair.cas, fairChoices_fair.clock, w_frames, w_args, w_heap, w_applies, trivial, trivial, w_case⟩
end start1
theorem witness_1 : WitnessClaimed_1 := ⟨start1.p0, start1.e0, start1.about1, start1.theMethod, start1.args0, start1.below0, start1.atStart⟩
end Jvm.Pilot.@@N@@
