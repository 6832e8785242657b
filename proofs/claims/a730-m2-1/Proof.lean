import JvmDerived
import JvmDerived.Pilot.@@N@@Statement
import JvmDerived.Pilot.@@N@@Code
set_option linter.unusedVariables false
set_option linter.unusedSimpArgs false
namespace Jvm.Wk
abbrev F4 := Fin 4
abbrev F2 := Fin 2
open Sem ClassFile Op Lib Jvm.Stand Jvm.Free Jvm.LawKit Jvm.RoadKit
/-- the array at a holds just these values -/
def Ary (Z : State) (h : Heap) (a : Addr) (ty : FieldType) (vs : List Value) : Prop :=
  ∃ c : Cell, Arr Z h a c ty ∧ c.slots.toList = vs ∧ (∀ v ∈ vs, fits ty v = true) ∧ vs.length < 2 ^ 31
def Endz (p : Program) (e : Env) (below : List Frame) (s : State) (R : Room) (n0 : Nat) (P : Option Value → Heap → Prop) (T : State) (g : JFrame) : Prop :=
  ∃ s₂ o, Steps p.tables e below (T.setTop g) s₂ ∧ s₂.status = .running ∧ Ended s₂ below o ∧ ∃ v L, o = .returned v ∧ (P v s₂.heap ∧ Fr n0 L) ∧ FrameEnd s o s₂ L R.cells R.slots
/-- from pc, with these locals, this stack and this heap, the body comes to its end, and P holds there -/
def W (l : Launch) (R : Room) (Z : State) (own nm : String) (bytes : ByteArray) (maxL : Nat) (ret : Option FieldType) (n0 : Nat) (P : Option Value → Heap → Prop) (h : Heap) (cells slots pc : Nat) (Ls : Array Slot) (st : List Value) : Prop :=
  ∀ (p : Program) (e : Env) (s : State) (m : MethodId) (args : Array Value) (below : List Frame) (meth : Method) (c : Code) (T : State) (locs : List Loc),
    p.tables.exec = Jvm.exec → Z.Warmed39 s.vm → c.code = bytes → c.maxLocals = maxL → s.vm.findClass own = some m.cls → meth.sig.returnType = ret → meth.locks = false → meth.name = nm → n0 ≤ s.heap.size →
    Stand p l e R s m args below meth c T locs cells slots → T.heap = h → Fr n0 locs → Endz p e below s R n0 P T (mkF m pc Ls st)
/-- a method's contract where it is called with these arguments over this heap -/
def ConW (ws : List Jvm.Cond) (l : Launch) (Z : State) (y : MethodName) (bytes : ByteArray) (maxL : Nat) (ret : Option FieldType) (rm : Room) (as : Array Value) (h : Heap) (n0 : Nat) (P : Option Value → Heap → Prop) : Prop :=
  MetFree l y (head1 (Jvm.Cond.code y bytes maxL ret :: ws) rm) (fun a U => a = as ∧ Z.Warmed39 U.vm ∧ U.heap = h) (fun _ _ _ _ _ => True) (fun _ U o U' => ∃ v L, o = .returned v ∧ (P v U'.heap ∧ Fr n0 L) ∧ FrameEnd U o U' L rm.cells rm.slots)
abbrev Con := ConW []
section Rules
variable {l : Launch} {R : Room} {Z : State} {own nm : String} {bytes : ByteArray} {maxL : Nat} {ret : Option FieldType} {n0 : Nat} {P : Option Value → Heap → Prop} {h : Heap} {cells slots pc : Nat} {Ls : Array Slot} {st : List Value} {a0 : Array Value}
theorem Endz.step {p : Program} {e : Env} {below : List Frame} {s : State} {T T' : State} {g g' : JFrame} (k : Endz p e below s R n0 P T' g') (f : ∀ t, Steps p.tables e below (T'.setTop g') t → Steps p.tables e below (T.setTop g) t) : Endz p e below s R n0 P T g := by
  obtain ⟨s₂, o, h1, h2⟩ := k
  exact ⟨s₂, o, f _ h1, h2⟩
theorem W.step {pc' : Nat} {Ls' : Array Slot} {st' : List Value} (k : W l R Z own nm bytes maxL ret n0 P h cells slots pc' Ls' st')
    (f : ∀ (p : Program) (e : Env) (s : State) (m : MethodId) (args : Array Value) (below : List Frame) (meth : Method) (c : Code) (T : State) (locs : List Loc), p.tables.exec = Jvm.exec → Z.Warmed39 s.vm → c.code = bytes → s.vm.findClass own = some m.cls → Stand p l e R s m args below meth c T locs cells slots → T.heap = h →
      ∀ t, Steps p.tables e below (T.setTop (mkF m pc' Ls' st')) t → Steps p.tables e below (T.setTop (mkF m pc Ls st)) t) : W l R Z own nm bytes maxL ret n0 P h cells slots pc Ls st := by
  intro p e s m args below meth c T locs hx hZ hby hml hown hret hlk hnm hn0 X eT N
  exact (k p e s m args below meth c T locs hx hZ hby hml hown hret hlk hnm hn0 X eT N).step (f p e s m args below meth c T locs hx hZ hby hown X eT)
theorem W.post {P' : Option Value → Heap → Prop} (k : W l R Z own nm bytes maxL ret n0 P' h cells slots pc Ls st) (f : ∀ v h', P' v h' → P v h') : W l R Z own nm bytes maxL ret n0 P h cells slots pc Ls st := by
  intro p e s m args below meth c T locs hx hZ hby hml hown hret hlk hnm hn0 X eT N
  obtain ⟨s₂, o, h1, h2, h3, v, L, h4, h5, h6⟩ := k p e s m args below meth c T locs hx hZ hby hml hown hret hlk hnm hn0 X eT N
  exact ⟨s₂, o, h1, h2, h3, v, L, h4, ⟨f _ _ h5.1, h5.2⟩, h6⟩
theorem W.mono {cells' slots' : Nat} (k : W l R Z own nm bytes maxL ret n0 P h cells' slots' pc Ls st) (hc : cells ≤ cells') (hs : slots ≤ slots') : W l R Z own nm bytes maxL ret n0 P h cells slots pc Ls st := by
  intro p e s m args below meth c T locs hx hZ hby hml hown hret hlk hnm hn0 X eT N
  exact k p e s m args below meth c T locs hx hZ hby hml hown hret hlk hnm hn0 { X with same := X.same.mono hc hs } eT N
theorem ConW.post {ws : List Jvm.Cond} {y : MethodName} {rm : Room} {as : Array Value} {P' : Option Value → Heap → Prop} (k : ConW ws l Z y bytes maxL ret rm as h n0 P') (f : ∀ v h', P' v h' → P v h') : ConW ws l Z y bytes maxL ret rm as h n0 P := by
  intro p e ha hc hk s m args below hf happ hP hK
  obtain ⟨n, o, h1, h2, h3, v, L, h4, h5, h6⟩ := k p e ha hc hk s m args below hf happ hP hK
  exact ⟨n, o, h1, h2, h3, v, L, h4, ⟨f _ _ h5.1, h5.2⟩, h6⟩
theorem ConW.of_W {ws : List Jvm.Cond} {y : MethodName} {rm : Room} {as : Array Value} (hy : plainFor y = true) (hn : n0 ≤ h.size) (hef : ∀ m, entryFrame m as maxL = mkF m 0 Ls []) (k : W l rm Z y.cls y.name bytes maxL ret n0 P h 0 0 0 Ls []) : ConW ws l Z y bytes maxL ret rm as h n0 P := by
  refine MetFree.of_bodySF hy hisR ?_
  intro p e s m args below meth c s₁ Bd hml0 hP hK
  obtain ⟨rfl, hZ, hh⟩ := hP
  have hown : s.vm.findClass y.cls = some m.cls := findClass_of_methodNamed Bd.named
  have hnm := (name_of_methodNamed Bd.named Bd.method).1
  have X0 : Stand p l e rm s m _ below meth c s₁ [] 0 0 := Stand.of_body Bd
  have e0 : s₁.heap = h := by rw [← hh, Bd.state]; rfl
  obtain ⟨s₂, o, h1, h2⟩ := k p e s m _ below meth c s₁ [] Bd.exec hZ Bd.bytes hml0 hown Bd.returns (BodyLoose.notSynchronized Bd) hnm (by rw [hh]; exact hn) X0 e0 (Fr.nil n0)
  exact ⟨s₂, o, castTop (hef m) h1, h2⟩
/-! pure steps -/
theorem W.iadd {x y : Int32} (n : Nat) (hd : decode bytes pc = .ok (.iadd, 1)) (hn : pc + 1 = n) (v : Int32) (hv : x + y = v) (k : W l R Z own nm bytes maxL ret n0 P h cells slots n Ls (.int v :: st)) : W l R Z own nm bytes maxL ret n0 P h cells slots pc Ls (.int y :: .int x :: st) := by
  subst hn
  exact k.step fun p e s m args below meth c T locs hx hZ hby hown X eT t q => XS.iadd X.here hx rfl (hb hby hd) rfl (hv ▸ q)
theorem W.ladd {x y : Int64} (n : Nat) (hd : decode bytes pc = .ok (.ladd, 1)) (hn : pc + 1 = n) (v : Int64) (hv : x + y = v) (k : W l R Z own nm bytes maxL ret n0 P h cells slots n Ls (.long v :: st)) : W l R Z own nm bytes maxL ret n0 P h cells slots pc Ls (.long y :: .long x :: st) := by
  subst hn
  exact k.step fun p e s m args below meth c T locs hx hZ hby hown X eT t q => XS.ladd X.here hx rfl (hb hby hd) rfl (hv ▸ q)
theorem W.isub {x y : Int32} (n : Nat) (hd : decode bytes pc = .ok (.isub, 1)) (hn : pc + 1 = n) (v : Int32) (hv : x - y = v) (k : W l R Z own nm bytes maxL ret n0 P h cells slots n Ls (.int v :: st)) : W l R Z own nm bytes maxL ret n0 P h cells slots pc Ls (.int y :: .int x :: st) := by
  subst hn
  exact k.step fun p e s m args below meth c T locs hx hZ hby hown X eT t q => XS.isub X.here hx rfl (hb hby hd) rfl (hv ▸ q)
theorem W.lsub {x y : Int64} (n : Nat) (hd : decode bytes pc = .ok (.lsub, 1)) (hn : pc + 1 = n) (v : Int64) (hv : x - y = v) (k : W l R Z own nm bytes maxL ret n0 P h cells slots n Ls (.long v :: st)) : W l R Z own nm bytes maxL ret n0 P h cells slots pc Ls (.long y :: .long x :: st) := by
  subst hn
  exact k.step fun p e s m args below meth c T locs hx hZ hby hown X eT t q => XS.lsub X.here hx rfl (hb hby hd) rfl (hv ▸ q)
theorem W.imul {x y : Int32} (n : Nat) (hd : decode bytes pc = .ok (.imul, 1)) (hn : pc + 1 = n) (v : Int32) (hv : x * y = v) (k : W l R Z own nm bytes maxL ret n0 P h cells slots n Ls (.int v :: st)) : W l R Z own nm bytes maxL ret n0 P h cells slots pc Ls (.int y :: .int x :: st) := by
  subst hn
  exact k.step fun p e s m args below meth c T locs hx hZ hby hown X eT t q => XS.imul X.here hx rfl (hb hby hd) rfl (hv ▸ q)
theorem W.lmul {x y : Int64} (n : Nat) (hd : decode bytes pc = .ok (.lmul, 1)) (hn : pc + 1 = n) (v : Int64) (hv : x * y = v) (k : W l R Z own nm bytes maxL ret n0 P h cells slots n Ls (.long v :: st)) : W l R Z own nm bytes maxL ret n0 P h cells slots pc Ls (.long y :: .long x :: st) := by
  subst hn
  exact k.step fun p e s m args below meth c T locs hx hZ hby hown X eT t q => XS.lmul X.here hx rfl (hb hby hd) rfl (hv ▸ q)
theorem W.iand {x y : Int32} (n : Nat) (hd : decode bytes pc = .ok (.iand, 1)) (hn : pc + 1 = n) (v : Int32) (hv : x &&& y = v) (k : W l R Z own nm bytes maxL ret n0 P h cells slots n Ls (.int v :: st)) : W l R Z own nm bytes maxL ret n0 P h cells slots pc Ls (.int y :: .int x :: st) := by
  subst hn
  exact k.step fun p e s m args below meth c T locs hx hZ hby hown X eT t q => XS.iand X.here hx rfl (hb hby hd) rfl (hv ▸ q)
theorem W.land {x y : Int64} (n : Nat) (hd : decode bytes pc = .ok (.land, 1)) (hn : pc + 1 = n) (v : Int64) (hv : x &&& y = v) (k : W l R Z own nm bytes maxL ret n0 P h cells slots n Ls (.long v :: st)) : W l R Z own nm bytes maxL ret n0 P h cells slots pc Ls (.long y :: .long x :: st) := by
  subst hn
  exact k.step fun p e s m args below meth c T locs hx hZ hby hown X eT t q => XS.land X.here hx rfl (hb hby hd) rfl (hv ▸ q)
theorem W.ior {x y : Int32} (n : Nat) (hd : decode bytes pc = .ok (.ior, 1)) (hn : pc + 1 = n) (v : Int32) (hv : x ||| y = v) (k : W l R Z own nm bytes maxL ret n0 P h cells slots n Ls (.int v :: st)) : W l R Z own nm bytes maxL ret n0 P h cells slots pc Ls (.int y :: .int x :: st) := by
  subst hn
  exact k.step fun p e s m args below meth c T locs hx hZ hby hown X eT t q => XS.ior X.here hx rfl (hb hby hd) rfl (hv ▸ q)
theorem W.lor {x y : Int64} (n : Nat) (hd : decode bytes pc = .ok (.lor, 1)) (hn : pc + 1 = n) (v : Int64) (hv : x ||| y = v) (k : W l R Z own nm bytes maxL ret n0 P h cells slots n Ls (.long v :: st)) : W l R Z own nm bytes maxL ret n0 P h cells slots pc Ls (.long y :: .long x :: st) := by
  subst hn
  exact k.step fun p e s m args below meth c T locs hx hZ hby hown X eT t q => XS.lor X.here hx rfl (hb hby hd) rfl (hv ▸ q)
theorem W.ixor {x y : Int32} (n : Nat) (hd : decode bytes pc = .ok (.ixor, 1)) (hn : pc + 1 = n) (v : Int32) (hv : x ^^^ y = v) (k : W l R Z own nm bytes maxL ret n0 P h cells slots n Ls (.int v :: st)) : W l R Z own nm bytes maxL ret n0 P h cells slots pc Ls (.int y :: .int x :: st) := by
  subst hn
  exact k.step fun p e s m args below meth c T locs hx hZ hby hown X eT t q => XS.ixor X.here hx rfl (hb hby hd) rfl (hv ▸ q)
theorem W.lxor {x y : Int64} (n : Nat) (hd : decode bytes pc = .ok (.lxor, 1)) (hn : pc + 1 = n) (v : Int64) (hv : x ^^^ y = v) (k : W l R Z own nm bytes maxL ret n0 P h cells slots n Ls (.long v :: st)) : W l R Z own nm bytes maxL ret n0 P h cells slots pc Ls (.long y :: .long x :: st) := by
  subst hn
  exact k.step fun p e s m args below meth c T locs hx hZ hby hown X eT t q => XS.lxor X.here hx rfl (hb hby hd) rfl (hv ▸ q)
theorem W.idiv {x y : Int32} (n : Nat) (hd : decode bytes pc = .ok (.idiv, 1)) (hn : pc + 1 = n) (hy : y ≠ 0) (v : Int32) (hv : x / y = v) (k : W l R Z own nm bytes maxL ret n0 P h cells slots n Ls (.int v :: st)) : W l R Z own nm bytes maxL ret n0 P h cells slots pc Ls (.int y :: .int x :: st) := by
  subst hn
  exact k.step fun p e s m args below meth c T locs hx hZ hby hown X eT t q => XS.idiv X.here hx rfl (hb hby hd) rfl hy (hv ▸ q)
theorem W.irem {x y : Int32} (n : Nat) (hd : decode bytes pc = .ok (.irem, 1)) (hn : pc + 1 = n) (hy : y ≠ 0) (v : Int32) (hv : x % y = v) (k : W l R Z own nm bytes maxL ret n0 P h cells slots n Ls (.int v :: st)) : W l R Z own nm bytes maxL ret n0 P h cells slots pc Ls (.int y :: .int x :: st) := by
  subst hn
  exact k.step fun p e s m args below meth c T locs hx hZ hby hown X eT t q => iremM X hx rfl (hb hby hd) rfl hy (hv ▸ q)
theorem W.ldiv {x y : Int64} (n : Nat) (hd : decode bytes pc = .ok (.ldiv, 1)) (hn : pc + 1 = n) (hy : y ≠ 0) (v : Int64) (hv : x / y = v) (k : W l R Z own nm bytes maxL ret n0 P h cells slots n Ls (.long v :: st)) : W l R Z own nm bytes maxL ret n0 P h cells slots pc Ls (.long y :: .long x :: st) := by
  subst hn
  exact k.step fun p e s m args below meth c T locs hx hZ hby hown X eT t q => XS.ldiv X.here hx rfl (hb hby hd) rfl hy (hv ▸ q)
theorem W.lrem {x y : Int64} (n : Nat) (hd : decode bytes pc = .ok (.lrem, 1)) (hn : pc + 1 = n) (hy : y ≠ 0) (v : Int64) (hv : x % y = v) (k : W l R Z own nm bytes maxL ret n0 P h cells slots n Ls (.long v :: st)) : W l R Z own nm bytes maxL ret n0 P h cells slots pc Ls (.long y :: .long x :: st) := by
  subst hn
  exact k.step fun p e s m args below meth c T locs hx hZ hby hown X eT t q => XS.lrem X.here hx rfl (hb hby hd) rfl hy ((lrem_mod x y).trans hv ▸ q)
theorem W.ishl {x y : Int32} (n : Nat) (hd : decode bytes pc = .ok (.ishl, 1)) (hn : pc + 1 = n) (v : Int32) (hv : x <<< (y &&& 31) = v) (k : W l R Z own nm bytes maxL ret n0 P h cells slots n Ls (.int v :: st)) : W l R Z own nm bytes maxL ret n0 P h cells slots pc Ls (.int y :: .int x :: st) := by
  subst hn
  exact k.step fun p e s m args below meth c T locs hx hZ hby hown X eT t q => XS.ishl X.here hx rfl (hb hby hd) rfl (hv ▸ q)
theorem W.ishr {x y : Int32} (n : Nat) (hd : decode bytes pc = .ok (.ishr, 1)) (hn : pc + 1 = n) (v : Int32) (hv : x >>> (y &&& 31) = v) (k : W l R Z own nm bytes maxL ret n0 P h cells slots n Ls (.int v :: st)) : W l R Z own nm bytes maxL ret n0 P h cells slots pc Ls (.int y :: .int x :: st) := by
  subst hn
  exact k.step fun p e s m args below meth c T locs hx hZ hby hown X eT t q => XS.ishr X.here hx rfl (hb hby hd) rfl (hv ▸ q)
theorem W.iushr {x y : Int32} (n : Nat) (hd : decode bytes pc = .ok (.iushr, 1)) (hn : pc + 1 = n) (v : Int32) (hv : (x.toUInt32 >>> (y &&& 31).toUInt32).toInt32 = v) (k : W l R Z own nm bytes maxL ret n0 P h cells slots n Ls (.int v :: st)) : W l R Z own nm bytes maxL ret n0 P h cells slots pc Ls (.int y :: .int x :: st) := by
  subst hn
  exact k.step fun p e s m args below meth c T locs hx hZ hby hown X eT t q => XS.iushr X.here hx rfl (hb hby hd) rfl (hv ▸ q)
theorem W.lshl {x : Int64} {y : Int32} (n : Nat) (hd : decode bytes pc = .ok (.lshl, 1)) (hn : pc + 1 = n) (v : Int64) (hv : x <<< (y &&& 0x3f).toInt64 = v) (k : W l R Z own nm bytes maxL ret n0 P h cells slots n Ls (.long v :: st)) : W l R Z own nm bytes maxL ret n0 P h cells slots pc Ls (.int y :: .long x :: st) := by
  subst hn
  exact k.step fun p e s m args below meth c T locs hx hZ hby hown X eT t q => XS.lshl X.here hx rfl (hb hby hd) rfl (hv ▸ q)
theorem W.lshr {x : Int64} {y : Int32} (n : Nat) (hd : decode bytes pc = .ok (.lshr, 1)) (hn : pc + 1 = n) (v : Int64) (hv : x >>> (y &&& 0x3f).toInt64 = v) (k : W l R Z own nm bytes maxL ret n0 P h cells slots n Ls (.long v :: st)) : W l R Z own nm bytes maxL ret n0 P h cells slots pc Ls (.int y :: .long x :: st) := by
  subst hn
  exact k.step fun p e s m args below meth c T locs hx hZ hby hown X eT t q => XS.lshr X.here hx rfl (hb hby hd) rfl (hv ▸ q)
theorem W.lushr {x : Int64} {y : Int32} (n : Nat) (hd : decode bytes pc = .ok (.lushr, 1)) (hn : pc + 1 = n) (v : Int64) (hv : (x.toUInt64 >>> (y &&& 0x3f).toInt64.toUInt64).toInt64 = v) (k : W l R Z own nm bytes maxL ret n0 P h cells slots n Ls (.long v :: st)) : W l R Z own nm bytes maxL ret n0 P h cells slots pc Ls (.int y :: .long x :: st) := by
  subst hn
  exact k.step fun p e s m args below meth c T locs hx hZ hby hown X eT t q => XS.lushr X.here hx rfl (hb hby hd) rfl (hv ▸ q)
theorem W.ineg {x : Int32} (n : Nat) (hd : decode bytes pc = .ok (.ineg, 1)) (hn : pc + 1 = n) (v : Int32) (hv : -x = v) (k : W l R Z own nm bytes maxL ret n0 P h cells slots n Ls (.int v :: st)) : W l R Z own nm bytes maxL ret n0 P h cells slots pc Ls (.int x :: st) := by
  subst hn
  exact k.step fun p e s m args below meth c T locs hx hZ hby hown X eT t q => XS.ineg X.here hx rfl (hb hby hd) rfl (hv ▸ q)
theorem W.lneg {x : Int64} (n : Nat) (hd : decode bytes pc = .ok (.lneg, 1)) (hn : pc + 1 = n) (v : Int64) (hv : -x = v) (k : W l R Z own nm bytes maxL ret n0 P h cells slots n Ls (.long v :: st)) : W l R Z own nm bytes maxL ret n0 P h cells slots pc Ls (.long x :: st) := by
  subst hn
  exact k.step fun p e s m args below meth c T locs hx hZ hby hown X eT t q => XS.lneg X.here hx rfl (hb hby hd) rfl (hv ▸ q)
theorem W.i2l {x : Int32} (n : Nat) (hd : decode bytes pc = .ok (.i2l, 1)) (hn : pc + 1 = n) (v : Int64) (hv : x.toInt64 = v) (k : W l R Z own nm bytes maxL ret n0 P h cells slots n Ls (.long v :: st)) : W l R Z own nm bytes maxL ret n0 P h cells slots pc Ls (.int x :: st) := by
  subst hn
  exact k.step fun p e s m args below meth c T locs hx hZ hby hown X eT t q => XS.i2l X.here hx rfl (hb hby hd) rfl (hv ▸ q)
theorem W.l2i {x : Int64} (n : Nat) (hd : decode bytes pc = .ok (.l2i, 1)) (hn : pc + 1 = n) (v : Int32) (hv : x.toInt32 = v) (k : W l R Z own nm bytes maxL ret n0 P h cells slots n Ls (.int v :: st)) : W l R Z own nm bytes maxL ret n0 P h cells slots pc Ls (.long x :: st) := by
  subst hn
  exact k.step fun p e s m args below meth c T locs hx hZ hby hown X eT t q => XS.l2i X.here hx rfl (hb hby hd) rfl (hv ▸ q)
theorem W.i2b {x : Int32} (n : Nat) (hd : decode bytes pc = .ok (.i2b, 1)) (hn : pc + 1 = n) (v : Int32) (hv : x.toInt8.toInt32 = v) (k : W l R Z own nm bytes maxL ret n0 P h cells slots n Ls (.int v :: st)) : W l R Z own nm bytes maxL ret n0 P h cells slots pc Ls (.int x :: st) := by
  subst hn
  exact k.step fun p e s m args below meth c T locs hx hZ hby hown X eT t q => XS.i2b X.here hx rfl (hb hby hd) rfl (hv ▸ q)
theorem W.i2s {x : Int32} (n : Nat) (hd : decode bytes pc = .ok (.i2s, 1)) (hn : pc + 1 = n) (v : Int32) (hv : x.toInt16.toInt32 = v) (k : W l R Z own nm bytes maxL ret n0 P h cells slots n Ls (.int v :: st)) : W l R Z own nm bytes maxL ret n0 P h cells slots pc Ls (.int x :: st) := by
  subst hn
  exact k.step fun p e s m args below meth c T locs hx hZ hby hown X eT t q => XS.i2s X.here hx rfl (hb hby hd) rfl (hv ▸ q)
theorem W.i2c {x : Int32} (n : Nat) (hd : decode bytes pc = .ok (.i2c, 1)) (hn : pc + 1 = n) (v : Int32) (hv : x.toUInt32.toUInt16.toUInt32.toInt32 = v) (k : W l R Z own nm bytes maxL ret n0 P h cells slots n Ls (.int v :: st)) : W l R Z own nm bytes maxL ret n0 P h cells slots pc Ls (.int x :: st) := by
  subst hn
  exact k.step fun p e s m args below meth c T locs hx hZ hby hown X eT t q => XS.i2c X.here hx rfl (hb hby hd) rfl (hv ▸ q)
theorem W.lcmp {x y : Int64} (n : Nat) (hd : decode bytes pc = .ok (.lcmp, 1)) (hn : pc + 1 = n) (v : Int32) (hv : lcmpW x y = v) (k : W l R Z own nm bytes maxL ret n0 P h cells slots n Ls (.int v :: st)) : W l R Z own nm bytes maxL ret n0 P h cells slots pc Ls (.long y :: .long x :: st) := by
  subst hn
  exact k.step fun p e s m args below meth c T locs hx hZ hby hown X eT t q => XS.lcmp X.here hx rfl (hb hby hd) rfl ((show (if x > y then 1 else if x = y then 0 else -1) = v from hv) ▸ q)
theorem W.iconst {i : Int} (n : Nat) (hd : decode bytes pc = .ok (.iconst i, 1)) (hn : pc + 1 = n) (v : Int32) (hv : Int32.ofInt i = v) (k : W l R Z own nm bytes maxL ret n0 P h cells slots n Ls (.int v :: st)) : W l R Z own nm bytes maxL ret n0 P h cells slots pc Ls st := by
  subst hn
  exact k.step fun p e s m args below meth c T locs hx hZ hby hown X eT t q => XS.iconst X.here hx rfl (hb hby hd) (hv ▸ q)
theorem W.bipush {i : Int} (n : Nat) (hd : decode bytes pc = .ok (.bipush i, 2)) (hn : pc + 2 = n) (v : Int32) (hv : (Int8.ofInt i).toInt32 = v) (k : W l R Z own nm bytes maxL ret n0 P h cells slots n Ls (.int v :: st)) : W l R Z own nm bytes maxL ret n0 P h cells slots pc Ls st := by
  subst hn
  exact k.step fun p e s m args below meth c T locs hx hZ hby hown X eT t q => XS.bipush X.here hx rfl (hb hby hd) (hv ▸ q)
theorem W.sipush {i : Int} (n : Nat) (hd : decode bytes pc = .ok (.sipush i, 3)) (hn : pc + 3 = n) (v : Int32) (hv : (Int16.ofInt i).toInt32 = v) (k : W l R Z own nm bytes maxL ret n0 P h cells slots n Ls (.int v :: st)) : W l R Z own nm bytes maxL ret n0 P h cells slots pc Ls st := by
  subst hn
  exact k.step fun p e s m args below meth c T locs hx hZ hby hown X eT t q => XS.sipush X.here hx rfl (hb hby hd) (hv ▸ q)
theorem W.lconst {i : F2} (n : Nat) (hd : decode bytes pc = .ok (.lconst i, 1)) (hn : pc + 1 = n) (v : Int64) (hv : Int64.ofNat i = v) (k : W l R Z own nm bytes maxL ret n0 P h cells slots n Ls (.long v :: st)) : W l R Z own nm bytes maxL ret n0 P h cells slots pc Ls st := by
  subst hn
  exact k.step fun p e s m args below meth c T locs hx hZ hby hown X eT t q => XS.lconst X.here hx rfl (hb hby hd) (hv ▸ q)
theorem W.aconst_null (n : Nat) (hd : decode bytes pc = .ok (.aconst_null, 1)) (hn : pc + 1 = n) (k : W l R Z own nm bytes maxL ret n0 P h cells slots n Ls (.null :: st)) : W l R Z own nm bytes maxL ret n0 P h cells slots pc Ls st := by
  subst hn
  exact k.step fun p e s m args below meth c T locs hx hZ hby hown X eT t q => XS.aconstNull X.here hx rfl (hb hby hd) q
theorem W.ldcI {i : Nat} {v : Int32} (n : Nat) (hd : decode bytes pc = .ok (.ldc i, 2)) (hn : pc + 2 = n) (w : (Jvm.Cond.constant own i v).before a0 Z = true) (k : W l R Z own nm bytes maxL ret n0 P h cells slots n Ls (.int v :: st)) : W l R Z own nm bytes maxL ret n0 P h cells slots pc Ls st := by
  subst hn
  exact k.step fun p e s m args below meth c T locs hx hZ hby hown X eT t q => X.ldcI hx hown (mvT hZ w) rfl (hb hby hd) q
theorem W.ldcWI {i : Nat} {v : Int32} (n : Nat) (hd : decode bytes pc = .ok (.ldc_w i, 3)) (hn : pc + 3 = n) (w : (Jvm.Cond.constant own i v).before a0 Z = true) (k : W l R Z own nm bytes maxL ret n0 P h cells slots n Ls (.int v :: st)) : W l R Z own nm bytes maxL ret n0 P h cells slots pc Ls st := by
  subst hn
  exact k.step fun p e s m args below meth c T locs hx hZ hby hown X eT t q => X.ldcWI hx hown (mvT hZ w) rfl (hb hby hd) q
theorem W.ldc2J {i : Nat} {v : Int64} (n : Nat) (hd : decode bytes pc = .ok (.ldc2_w i, 3)) (hn : pc + 3 = n) (w : (Jvm.Cond.constantLong own i v).before a0 Z = true) (k : W l R Z own nm bytes maxL ret n0 P h cells slots n Ls (.long v :: st)) : W l R Z own nm bytes maxL ret n0 P h cells slots pc Ls st := by
  subst hn
  exact k.step fun p e s m args below meth c T locs hx hZ hby hown X eT t q => X.ldc2J hx hown (mvT hZ w) rfl (hb hby hd) q
theorem W.ldcR {i : Nat} {text : String} {a : Addr} (n : Nat) (hd : decode bytes pc = .ok (.ldc i, 2)) (hn : pc + 2 = n) (w : (Jvm.Cond.stringRef own i text).before a0 Z = true) (L : RoadKit.Lit Z own i a) (k : W l R Z own nm bytes maxL ret n0 P h cells slots n Ls (.ref a :: st)) : W l R Z own nm bytes maxL ret n0 P h cells slots pc Ls st := by
  subst hn
  exact k.step fun p e s m args below meth c T locs hx hZ hby hown X eT t q => RoadKit.ldcR X hx hZ hown w L (g := mkF m pc Ls st) rfl (hb hby hd) t q
theorem W.iload {i : Nat} {v : Int32} (n : Nat) (hd : decode bytes pc = .ok (.iload i, 2)) (hn : pc + 2 = n) (hl : Ls[i]? = some (.val (.int v))) (k : W l R Z own nm bytes maxL ret n0 P h cells slots n Ls (.int v :: st)) : W l R Z own nm bytes maxL ret n0 P h cells slots pc Ls st := by
  subst hn
  exact k.step fun p e s m args below meth c T locs hx hZ hby hown X eT t q => XS.iload X.here hx rfl (hb hby hd) hl q
theorem W.iloadN {i : F4} {v : Int32} (n : Nat) (hd : decode bytes pc = .ok (.iload_n i, 1)) (hn : pc + 1 = n) (hl : Ls[i.val]? = some (.val (.int v))) (k : W l R Z own nm bytes maxL ret n0 P h cells slots n Ls (.int v :: st)) : W l R Z own nm bytes maxL ret n0 P h cells slots pc Ls st := by
  subst hn
  exact k.step fun p e s m args below meth c T locs hx hZ hby hown X eT t q => XS.iloadN X.here hx rfl (hb hby hd) hl q
theorem W.lload {i : Nat} {v : Int64} (n : Nat) (hd : decode bytes pc = .ok (.lload i, 2)) (hn : pc + 2 = n) (hl : Ls[i]? = some (.val (.long v))) (k : W l R Z own nm bytes maxL ret n0 P h cells slots n Ls (.long v :: st)) : W l R Z own nm bytes maxL ret n0 P h cells slots pc Ls st := by
  subst hn
  exact k.step fun p e s m args below meth c T locs hx hZ hby hown X eT t q => XS.lload X.here hx rfl (hb hby hd) hl q
theorem W.lloadN {i : F4} {v : Int64} (n : Nat) (hd : decode bytes pc = .ok (.lload_n i, 1)) (hn : pc + 1 = n) (hl : Ls[i.val]? = some (.val (.long v))) (k : W l R Z own nm bytes maxL ret n0 P h cells slots n Ls (.long v :: st)) : W l R Z own nm bytes maxL ret n0 P h cells slots pc Ls st := by
  subst hn
  exact k.step fun p e s m args below meth c T locs hx hZ hby hown X eT t q => XS.lloadN X.here hx rfl (hb hby hd) hl q
theorem W.aload {i : Nat} {v : Value} (n : Nat) (hd : decode bytes pc = .ok (.aload i, 2)) (hn : pc + 2 = n) (hl : Ls[i]? = some (.val v)) (hv : v.isRef = true) (k : W l R Z own nm bytes maxL ret n0 P h cells slots n Ls (v :: st)) : W l R Z own nm bytes maxL ret n0 P h cells slots pc Ls st := by
  subst hn
  exact k.step fun p e s m args below meth c T locs hx hZ hby hown X eT t q => XS.aload X.here hx rfl (hb hby hd) hl hv q
theorem W.aloadN {i : F4} {v : Value} (n : Nat) (hd : decode bytes pc = .ok (.aload_n i, 1)) (hn : pc + 1 = n) (hl : Ls[i.val]? = some (.val v)) (hv : v.isRef = true) (k : W l R Z own nm bytes maxL ret n0 P h cells slots n Ls (v :: st)) : W l R Z own nm bytes maxL ret n0 P h cells slots pc Ls st := by
  subst hn
  exact k.step fun p e s m args below meth c T locs hx hZ hby hown X eT t q => XS.aloadN X.here hx rfl (hb hby hd) hl hv q
theorem W.istore {i : Nat} {v : Int32} (n : Nat) (hd : decode bytes pc = .ok (.istore i, 2)) (hn : pc + 2 = n) (Ls' : Array Slot) (hl : storeLocals Ls i (.int v) = some Ls') (k : W l R Z own nm bytes maxL ret n0 P h cells slots n Ls' st) : W l R Z own nm bytes maxL ret n0 P h cells slots pc Ls (.int v :: st) := by
  subst hn
  exact k.step fun p e s m args below meth c T locs hx hZ hby hown X eT t q => XS.istore X.here hx rfl (hb hby hd) rfl hl q
theorem W.istoreN {i : F4} {v : Int32} (n : Nat) (hd : decode bytes pc = .ok (.istore_n i, 1)) (hn : pc + 1 = n) (Ls' : Array Slot) (hl : storeLocals Ls i.val (.int v) = some Ls') (k : W l R Z own nm bytes maxL ret n0 P h cells slots n Ls' st) : W l R Z own nm bytes maxL ret n0 P h cells slots pc Ls (.int v :: st) := by
  subst hn
  exact k.step fun p e s m args below meth c T locs hx hZ hby hown X eT t q => XS.istoreN X.here hx rfl (hb hby hd) rfl hl q
theorem W.lstore {i : Nat} {v : Int64} (n : Nat) (hd : decode bytes pc = .ok (.lstore i, 2)) (hn : pc + 2 = n) (Ls' : Array Slot) (hl : storeLocals Ls i (.long v) = some Ls') (k : W l R Z own nm bytes maxL ret n0 P h cells slots n Ls' st) : W l R Z own nm bytes maxL ret n0 P h cells slots pc Ls (.long v :: st) := by
  subst hn
  exact k.step fun p e s m args below meth c T locs hx hZ hby hown X eT t q => XS.lstore X.here hx rfl (hb hby hd) rfl hl q
theorem W.lstoreN {i : F4} {v : Int64} (n : Nat) (hd : decode bytes pc = .ok (.lstore_n i, 1)) (hn : pc + 1 = n) (Ls' : Array Slot) (hl : storeLocals Ls i.val (.long v) = some Ls') (k : W l R Z own nm bytes maxL ret n0 P h cells slots n Ls' st) : W l R Z own nm bytes maxL ret n0 P h cells slots pc Ls (.long v :: st) := by
  subst hn
  exact k.step fun p e s m args below meth c T locs hx hZ hby hown X eT t q => XS.lstoreN X.here hx rfl (hb hby hd) rfl hl q
theorem W.astore {i : Nat} {v : Value} (n : Nat) (hd : decode bytes pc = .ok (.astore i, 2)) (hn : pc + 2 = n) (hv : v.isRef = true) (Ls' : Array Slot) (hl : storeLocals Ls i v = some Ls') (k : W l R Z own nm bytes maxL ret n0 P h cells slots n Ls' st) : W l R Z own nm bytes maxL ret n0 P h cells slots pc Ls (v :: st) := by
  subst hn
  exact k.step fun p e s m args below meth c T locs hx hZ hby hown X eT t q => XS.astore X.here hx rfl (hb hby hd) rfl hv hl q
theorem W.astoreN {i : F4} {v : Value} (n : Nat) (hd : decode bytes pc = .ok (.astore_n i, 1)) (hn : pc + 1 = n) (hv : v.isRef = true) (Ls' : Array Slot) (hl : storeLocals Ls i.val v = some Ls') (k : W l R Z own nm bytes maxL ret n0 P h cells slots n Ls' st) : W l R Z own nm bytes maxL ret n0 P h cells slots pc Ls (v :: st) := by
  subst hn
  exact k.step fun p e s m args below meth c T locs hx hZ hby hown X eT t q => XS.astoreN X.here hx rfl (hb hby hd) rfl hv hl q
theorem W.iinc {i : Nat} {cst : Int} {x : Int32} (n : Nat) (hd : decode bytes pc = .ok (.iinc i cst, 3)) (hn : pc + 3 = n) (hx0 : Ls[i]? = some (.val (.int x))) (v : Int32) (hv : x + Int32.ofInt cst = v) (Ls' : Array Slot) (hl : storeLocals Ls i (.int v) = some Ls') (k : W l R Z own nm bytes maxL ret n0 P h cells slots n Ls' st) : W l R Z own nm bytes maxL ret n0 P h cells slots pc Ls st := by
  subst hn
  exact k.step fun p e s m args below meth c T locs hx hZ hby hown X eT t q => XS.iinc X.here hx rfl (hb hby hd) hx0 (hv ▸ hl) q
theorem W.dup {v : Value} (n : Nat) (hd : decode bytes pc = .ok (.dup, 1)) (hn : pc + 1 = n) (hc : v.category = 1) (k : W l R Z own nm bytes maxL ret n0 P h cells slots n Ls (v :: v :: st)) : W l R Z own nm bytes maxL ret n0 P h cells slots pc Ls (v :: st) := by
  subst hn
  exact k.step fun p e s m args below meth c T locs hx hZ hby hown X eT t q => XS.dup X.here hx rfl (hb hby hd) rfl hc q
theorem W.pop {v : Value} (n : Nat) (hd : decode bytes pc = .ok (.pop, 1)) (hn : pc + 1 = n) (hc : v.category = 1) (k : W l R Z own nm bytes maxL ret n0 P h cells slots n Ls st) : W l R Z own nm bytes maxL ret n0 P h cells slots pc Ls (v :: st) := by
  subst hn
  exact k.step fun p e s m args below meth c T locs hx hZ hby hown X eT t q => XS.pop X.here hx rfl (hb hby hd) rfl hc q
theorem W.dup_x1 {v w : Value} (n : Nat) (hd : decode bytes pc = .ok (.dup_x1, 1)) (hn : pc + 1 = n) (hc : v.category = 1) (hc' : w.category = 1) (k : W l R Z own nm bytes maxL ret n0 P h cells slots n Ls (v :: w :: v :: st)) : W l R Z own nm bytes maxL ret n0 P h cells slots pc Ls (v :: w :: st) := by
  subst hn
  exact k.step fun p e s m args below meth c T locs hx hZ hby hown X eT t q => XS.dupX1 X.here hx rfl (hb hby hd) rfl hc hc' q
theorem W.dup2 {v w : Value} (n : Nat) (hd : decode bytes pc = .ok (.dup2, 1)) (hn : pc + 1 = n) (hc : v.category = 1) (hc' : w.category = 1) (k : W l R Z own nm bytes maxL ret n0 P h cells slots n Ls (v :: w :: v :: w :: st)) : W l R Z own nm bytes maxL ret n0 P h cells slots pc Ls (v :: w :: st) := by
  subst hn
  exact k.step fun p e s m args below meth c T locs hx hZ hby hown X eT t q => XT.dup2 X.here hx rfl (hb hby hd) rfl hc hc' q
theorem W.goto {o : Int} (n : Nat) (hd : decode bytes pc = .ok (.goto o, 3)) (hn : (pc : Int) + o = (n : Int)) (k : W l R Z own nm bytes maxL ret n0 P h cells slots n Ls st) : W l R Z own nm bytes maxL ret n0 P h cells slots pc Ls st :=
  k.step fun p e s m args below meth c T locs hx hZ hby hown X eT t q => XS.goto X.here hx rfl (pc0 := pc) (pc' := n) rfl (hb hby hd) (by omega) (by omega) q
theorem W.icmp_lt {x y : Int32} {o : Int} (n n' : Nat) (hd : decode bytes pc = .ok (.if_icmp .lt o, 3)) (hn : (pc : Int) + o = (n : Int)) (hn' : pc + 3 = n') (k : x < y → W l R Z own nm bytes maxL ret n0 P h cells slots n Ls st) (k' : ¬ x < y → W l R Z own nm bytes maxL ret n0 P h cells slots n' Ls st) : W l R Z own nm bytes maxL ret n0 P h cells slots pc Ls (.int y :: .int x :: st) := by
  subst hn'
  by_cases hc : x < y
  · exact (k hc).step fun p e s m args below meth c T locs hx hZ hby hown X eT t q => XS.icmpYes X.here hx rfl (pc0 := pc) (pc' := n) rfl (hb hby hd) rfl (tlt hc).1 (by omega) (by omega) q
  · exact (k' hc).step fun p e s m args below meth c T locs hx hZ hby hown X eT t q => XS.icmpNo X.here hx rfl (hb hby hd) rfl (flt hc).1 q
theorem W.if_lt {x : Int32} {o : Int} (n n' : Nat) (hd : decode bytes pc = .ok (.ifCond .lt o, 3)) (hn : (pc : Int) + o = (n : Int)) (hn' : pc + 3 = n') (k : x < (0 : Int32) → W l R Z own nm bytes maxL ret n0 P h cells slots n Ls st) (k' : ¬ x < (0 : Int32) → W l R Z own nm bytes maxL ret n0 P h cells slots n' Ls st) : W l R Z own nm bytes maxL ret n0 P h cells slots pc Ls (.int x :: st) := by
  subst hn'
  by_cases hc : x < (0 : Int32)
  · exact (k hc).step fun p e s m args below meth c T locs hx hZ hby hown X eT t q => XS.ifYes X.here hx rfl (pc0 := pc) (pc' := n) rfl (hb hby hd) rfl ((if0 _ _).trans (tlt hc).1) (by omega) (by omega) q
  · exact (k' hc).step fun p e s m args below meth c T locs hx hZ hby hown X eT t q => XS.ifNo X.here hx rfl (hb hby hd) rfl ((if0 _ _).trans (flt hc).1) q
theorem W.icmp_ge {x y : Int32} {o : Int} (n n' : Nat) (hd : decode bytes pc = .ok (.if_icmp .ge o, 3)) (hn : (pc : Int) + o = (n : Int)) (hn' : pc + 3 = n') (k : ¬ x < y → W l R Z own nm bytes maxL ret n0 P h cells slots n Ls st) (k' : x < y → W l R Z own nm bytes maxL ret n0 P h cells slots n' Ls st) : W l R Z own nm bytes maxL ret n0 P h cells slots pc Ls (.int y :: .int x :: st) := by
  subst hn'
  by_cases hc : x < y
  · exact (k' hc).step fun p e s m args below meth c T locs hx hZ hby hown X eT t q => XS.icmpNo X.here hx rfl (hb hby hd) rfl (tlt hc).2.1 q
  · exact (k hc).step fun p e s m args below meth c T locs hx hZ hby hown X eT t q => XS.icmpYes X.here hx rfl (pc0 := pc) (pc' := n) rfl (hb hby hd) rfl (flt hc).2.1 (by omega) (by omega) q
theorem W.if_ge {x : Int32} {o : Int} (n n' : Nat) (hd : decode bytes pc = .ok (.ifCond .ge o, 3)) (hn : (pc : Int) + o = (n : Int)) (hn' : pc + 3 = n') (k : ¬ x < (0 : Int32) → W l R Z own nm bytes maxL ret n0 P h cells slots n Ls st) (k' : x < (0 : Int32) → W l R Z own nm bytes maxL ret n0 P h cells slots n' Ls st) : W l R Z own nm bytes maxL ret n0 P h cells slots pc Ls (.int x :: st) := by
  subst hn'
  by_cases hc : x < (0 : Int32)
  · exact (k' hc).step fun p e s m args below meth c T locs hx hZ hby hown X eT t q => XS.ifNo X.here hx rfl (hb hby hd) rfl ((if0 _ _).trans (tlt hc).2.1) q
  · exact (k hc).step fun p e s m args below meth c T locs hx hZ hby hown X eT t q => XS.ifYes X.here hx rfl (pc0 := pc) (pc' := n) rfl (hb hby hd) rfl ((if0 _ _).trans (flt hc).2.1) (by omega) (by omega) q
theorem W.icmp_gt {x y : Int32} {o : Int} (n n' : Nat) (hd : decode bytes pc = .ok (.if_icmp .gt o, 3)) (hn : (pc : Int) + o = (n : Int)) (hn' : pc + 3 = n') (k : y < x → W l R Z own nm bytes maxL ret n0 P h cells slots n Ls st) (k' : ¬ y < x → W l R Z own nm bytes maxL ret n0 P h cells slots n' Ls st) : W l R Z own nm bytes maxL ret n0 P h cells slots pc Ls (.int y :: .int x :: st) := by
  subst hn'
  by_cases hc : y < x
  · exact (k hc).step fun p e s m args below meth c T locs hx hZ hby hown X eT t q => XS.icmpYes X.here hx rfl (pc0 := pc) (pc' := n) rfl (hb hby hd) rfl (tlt hc).2.2.1 (by omega) (by omega) q
  · exact (k' hc).step fun p e s m args below meth c T locs hx hZ hby hown X eT t q => XS.icmpNo X.here hx rfl (hb hby hd) rfl (flt hc).2.2.1 q
theorem W.if_gt {x : Int32} {o : Int} (n n' : Nat) (hd : decode bytes pc = .ok (.ifCond .gt o, 3)) (hn : (pc : Int) + o = (n : Int)) (hn' : pc + 3 = n') (k : (0 : Int32) < x → W l R Z own nm bytes maxL ret n0 P h cells slots n Ls st) (k' : ¬ (0 : Int32) < x → W l R Z own nm bytes maxL ret n0 P h cells slots n' Ls st) : W l R Z own nm bytes maxL ret n0 P h cells slots pc Ls (.int x :: st) := by
  subst hn'
  by_cases hc : (0 : Int32) < x
  · exact (k hc).step fun p e s m args below meth c T locs hx hZ hby hown X eT t q => XS.ifYes X.here hx rfl (pc0 := pc) (pc' := n) rfl (hb hby hd) rfl ((if0 _ _).trans (tlt hc).2.2.1) (by omega) (by omega) q
  · exact (k' hc).step fun p e s m args below meth c T locs hx hZ hby hown X eT t q => XS.ifNo X.here hx rfl (hb hby hd) rfl ((if0 _ _).trans (flt hc).2.2.1) q
theorem W.icmp_le {x y : Int32} {o : Int} (n n' : Nat) (hd : decode bytes pc = .ok (.if_icmp .le o, 3)) (hn : (pc : Int) + o = (n : Int)) (hn' : pc + 3 = n') (k : ¬ y < x → W l R Z own nm bytes maxL ret n0 P h cells slots n Ls st) (k' : y < x → W l R Z own nm bytes maxL ret n0 P h cells slots n' Ls st) : W l R Z own nm bytes maxL ret n0 P h cells slots pc Ls (.int y :: .int x :: st) := by
  subst hn'
  by_cases hc : y < x
  · exact (k' hc).step fun p e s m args below meth c T locs hx hZ hby hown X eT t q => XS.icmpNo X.here hx rfl (hb hby hd) rfl (tlt hc).2.2.2 q
  · exact (k hc).step fun p e s m args below meth c T locs hx hZ hby hown X eT t q => XS.icmpYes X.here hx rfl (pc0 := pc) (pc' := n) rfl (hb hby hd) rfl (flt hc).2.2.2 (by omega) (by omega) q
theorem W.if_le {x : Int32} {o : Int} (n n' : Nat) (hd : decode bytes pc = .ok (.ifCond .le o, 3)) (hn : (pc : Int) + o = (n : Int)) (hn' : pc + 3 = n') (k : ¬ (0 : Int32) < x → W l R Z own nm bytes maxL ret n0 P h cells slots n Ls st) (k' : (0 : Int32) < x → W l R Z own nm bytes maxL ret n0 P h cells slots n' Ls st) : W l R Z own nm bytes maxL ret n0 P h cells slots pc Ls (.int x :: st) := by
  subst hn'
  by_cases hc : (0 : Int32) < x
  · exact (k' hc).step fun p e s m args below meth c T locs hx hZ hby hown X eT t q => XS.ifNo X.here hx rfl (hb hby hd) rfl ((if0 _ _).trans (tlt hc).2.2.2) q
  · exact (k hc).step fun p e s m args below meth c T locs hx hZ hby hown X eT t q => XS.ifYes X.here hx rfl (pc0 := pc) (pc' := n) rfl (hb hby hd) rfl ((if0 _ _).trans (flt hc).2.2.2) (by omega) (by omega) q
theorem W.icmp_eq {x y : Int32} {o : Int} (n n' : Nat) (hd : decode bytes pc = .ok (.if_icmp .eq o, 3)) (hn : (pc : Int) + o = (n : Int)) (hn' : pc + 3 = n') (k : x = y → W l R Z own nm bytes maxL ret n0 P h cells slots n Ls st) (k' : ¬ x = y → W l R Z own nm bytes maxL ret n0 P h cells slots n' Ls st) : W l R Z own nm bytes maxL ret n0 P h cells slots pc Ls (.int y :: .int x :: st) := by
  subst hn'
  by_cases hc : x = y
  · exact (k hc).step fun p e s m args below meth c T locs hx hZ hby hown X eT t q => XS.icmpYes X.here hx rfl (pc0 := pc) (pc' := n) rfl (hb hby hd) rfl (teq hc).1 (by omega) (by omega) q
  · exact (k' hc).step fun p e s m args below meth c T locs hx hZ hby hown X eT t q => XS.icmpNo X.here hx rfl (hb hby hd) rfl (feq hc).1 q
theorem W.if_eq {x : Int32} {o : Int} (n n' : Nat) (hd : decode bytes pc = .ok (.ifCond .eq o, 3)) (hn : (pc : Int) + o = (n : Int)) (hn' : pc + 3 = n') (k : x = (0 : Int32) → W l R Z own nm bytes maxL ret n0 P h cells slots n Ls st) (k' : ¬ x = (0 : Int32) → W l R Z own nm bytes maxL ret n0 P h cells slots n' Ls st) : W l R Z own nm bytes maxL ret n0 P h cells slots pc Ls (.int x :: st) := by
  subst hn'
  by_cases hc : x = (0 : Int32)
  · exact (k hc).step fun p e s m args below meth c T locs hx hZ hby hown X eT t q => XS.ifYes X.here hx rfl (pc0 := pc) (pc' := n) rfl (hb hby hd) rfl ((if0 _ _).trans (teq hc).1) (by omega) (by omega) q
  · exact (k' hc).step fun p e s m args below meth c T locs hx hZ hby hown X eT t q => XS.ifNo X.here hx rfl (hb hby hd) rfl ((if0 _ _).trans (feq hc).1) q
theorem W.icmp_ne {x y : Int32} {o : Int} (n n' : Nat) (hd : decode bytes pc = .ok (.if_icmp .ne o, 3)) (hn : (pc : Int) + o = (n : Int)) (hn' : pc + 3 = n') (k : ¬ x = y → W l R Z own nm bytes maxL ret n0 P h cells slots n Ls st) (k' : x = y → W l R Z own nm bytes maxL ret n0 P h cells slots n' Ls st) : W l R Z own nm bytes maxL ret n0 P h cells slots pc Ls (.int y :: .int x :: st) := by
  subst hn'
  by_cases hc : x = y
  · exact (k' hc).step fun p e s m args below meth c T locs hx hZ hby hown X eT t q => XS.icmpNo X.here hx rfl (hb hby hd) rfl (teq hc).2 q
  · exact (k hc).step fun p e s m args below meth c T locs hx hZ hby hown X eT t q => XS.icmpYes X.here hx rfl (pc0 := pc) (pc' := n) rfl (hb hby hd) rfl (feq hc).2 (by omega) (by omega) q
theorem W.if_ne {x : Int32} {o : Int} (n n' : Nat) (hd : decode bytes pc = .ok (.ifCond .ne o, 3)) (hn : (pc : Int) + o = (n : Int)) (hn' : pc + 3 = n') (k : ¬ x = (0 : Int32) → W l R Z own nm bytes maxL ret n0 P h cells slots n Ls st) (k' : x = (0 : Int32) → W l R Z own nm bytes maxL ret n0 P h cells slots n' Ls st) : W l R Z own nm bytes maxL ret n0 P h cells slots pc Ls (.int x :: st) := by
  subst hn'
  by_cases hc : x = (0 : Int32)
  · exact (k' hc).step fun p e s m args below meth c T locs hx hZ hby hown X eT t q => XS.ifNo X.here hx rfl (hb hby hd) rfl ((if0 _ _).trans (teq hc).2) q
  · exact (k hc).step fun p e s m args below meth c T locs hx hZ hby hown X eT t q => XS.ifYes X.here hx rfl (pc0 := pc) (pc' := n) rfl (hb hby hd) rfl ((if0 _ _).trans (feq hc).2) (by omega) (by omega) q
theorem W.ifnull_null {o : Int} (n : Nat) (hd : decode bytes pc = .ok (.ifnull o, 3)) (hn : (pc : Int) + o = (n : Int)) (k : W l R Z own nm bytes maxL ret n0 P h cells slots n Ls st) : W l R Z own nm bytes maxL ret n0 P h cells slots pc Ls (.null :: st) := by
  exact k.step fun p e s m args below meth c T locs hx hZ hby hown X eT t q => XS.ifnullYes X.here hx rfl (pc0 := pc) (pc' := n) rfl (hb hby hd) rfl (by omega) (by omega) q
theorem W.ifnull_ref {o : Int} {a : Addr} (n : Nat) (hd : decode bytes pc = .ok (.ifnull o, 3)) (hn : pc + 3 = n) (k : W l R Z own nm bytes maxL ret n0 P h cells slots n Ls st) : W l R Z own nm bytes maxL ret n0 P h cells slots pc Ls (.ref a :: st) := by
  subst hn
  exact k.step fun p e s m args below meth c T locs hx hZ hby hown X eT t q => XS.ifnullNo X.here hx rfl (hb hby hd) rfl q
theorem W.ifnonnull_null {o : Int} (n : Nat) (hd : decode bytes pc = .ok (.ifnonnull o, 3)) (hn : pc + 3 = n) (k : W l R Z own nm bytes maxL ret n0 P h cells slots n Ls st) : W l R Z own nm bytes maxL ret n0 P h cells slots pc Ls (.null :: st) := by
  subst hn
  exact k.step fun p e s m args below meth c T locs hx hZ hby hown X eT t q => XS.ifnonnullNo X.here hx rfl (hb hby hd) rfl q
theorem W.ifnonnull_ref {o : Int} {a : Addr} (n : Nat) (hd : decode bytes pc = .ok (.ifnonnull o, 3)) (hn : (pc : Int) + o = (n : Int)) (k : W l R Z own nm bytes maxL ret n0 P h cells slots n Ls st) : W l R Z own nm bytes maxL ret n0 P h cells slots pc Ls (.ref a :: st) := by
  exact k.step fun p e s m args below meth c T locs hx hZ hby hown X eT t q => XS.ifnonnullYes X.here hx rfl (pc0 := pc) (pc' := n) rfl (hb hby hd) rfl (by omega) (by omega) q
theorem W.acmp_eq {x y : Value} {o : Int} (n n' : Nat) (hd : decode bytes pc = .ok (.if_acmp .eq o, 3)) (hn : (pc : Int) + o = (n : Int)) (hn' : pc + 3 = n') (h1 : x.isRef = true) (h2 : y.isRef = true) (k : x = y → W l R Z own nm bytes maxL ret n0 P h cells slots n Ls st) (k' : ¬ x = y → W l R Z own nm bytes maxL ret n0 P h cells slots n' Ls st) : W l R Z own nm bytes maxL ret n0 P h cells slots pc Ls (y :: x :: st) := by
  subst hn'
  by_cases hc : x = y
  · exact (k hc).step fun p e s m args below meth c T locs hx hZ hby hown X eT t q => RoadKit.acmp X hx rfl h1 h2 (pc0 := pc) (pc' := n) (same := true) rfl (hb hby hd) rfl (decide_eq_true hc) (by omega) (by simp [acV]; try omega) q
  · exact (k' hc).step fun p e s m args below meth c T locs hx hZ hby hown X eT t q => RoadKit.acmp X hx rfl h1 h2 (pc0 := pc) (pc' := pc + 3) (same := false) rfl (hb hby hd) rfl (decide_eq_false hc) (by omega) (by simp [acV]; try omega) q
theorem W.acmp_ne {x y : Value} {o : Int} (n n' : Nat) (hd : decode bytes pc = .ok (.if_acmp .ne o, 3)) (hn : (pc : Int) + o = (n : Int)) (hn' : pc + 3 = n') (h1 : x.isRef = true) (h2 : y.isRef = true) (k : ¬ x = y → W l R Z own nm bytes maxL ret n0 P h cells slots n Ls st) (k' : x = y → W l R Z own nm bytes maxL ret n0 P h cells slots n' Ls st) : W l R Z own nm bytes maxL ret n0 P h cells slots pc Ls (y :: x :: st) := by
  subst hn'
  by_cases hc : x = y
  · exact (k' hc).step fun p e s m args below meth c T locs hx hZ hby hown X eT t q => RoadKit.acmp X hx rfl h1 h2 (pc0 := pc) (pc' := pc + 3) (same := true) rfl (hb hby hd) rfl (decide_eq_true hc) (by omega) (by simp [acV]; try omega) q
  · exact (k hc).step fun p e s m args below meth c T locs hx hZ hby hown X eT t q => RoadKit.acmp X hx rfl h1 h2 (pc0 := pc) (pc' := n) (same := false) rfl (hb hby hd) rfl (decide_eq_false hc) (by omega) (by simp [acV]; try omega) q
theorem W.lookup {d : Int} {ps : Array (Int × Int)} {len : Nat} {x : Int32} (o : Int) (n : Nat) (hd : decode bytes pc = .ok (.lookupswitch d ps, len)) (hsort : (ps.toList.zip (ps.toList.drop 1)).all (fun (a, next) => a.1 < next.1) = true) (ho : Op.lookupswitch.offset ps.toList d x.toInt = o) (hn : (pc : Int) + o = (n : Int)) (k : W l R Z own nm bytes maxL ret n0 P h cells slots n Ls st) : W l R Z own nm bytes maxL ret n0 P h cells slots pc Ls (.int x :: st) := by
  refine k.step fun p e s m args below meth c T locs hx hZ hby hown X eT t q => ?_
  have hd' := hb hby hd
  have ho' : 0 ≤ (pc : Int) + o := by omega
  have hp : ((pc : Int) + o).toNat = n := by omega
  jvm_step X.here [X.here.top, hx, hd', Op.lookupswitch.wp_chain, hsort, ho, ho', hp]
  exact ⟨by simpa using hsort, q⟩
/-! the heap -/
theorem Fr.one {k : Nat} {L : List Loc} {a : Addr} {sl : Nat} (N : Fr k L) (q : k ≤ a) : Fr k (L ++ [⟨a, sl⟩]) := N.app fun y hy => by cases List.mem_singleton.mp hy; exact q
theorem Keep.of_ext {h h' : Heap} (E : Ext h h') : Keep h h' [] := (Keep.refl h []).ext E
theorem size_le {p : Program} {e : Env} {s : State} {m : MethodId} {args : Array Value} {below : List Frame} {meth : Method} {c : Code} {T : State} {locs : List Loc} (X : Stand p l e R s m args below meth c T locs cells slots) : s.heap.size ≤ T.heap.size := X.same.2.1
theorem W.getfield {i : Nat} {R0 O f d host : String} {a : Addr} {v : Value} (n : Nat) (hd : decode bytes pc = .ok (.getfield i, 3)) (hn : pc + 3 = n) (w : (Jvm.Cond.fieldLink own i R0 f d).before a0 Z = true ∨ (Jvm.Cond.fieldLinkNest own i R0 f d host).before a0 Z = true) (via : Via Z R0 O f d) (F : Fld Z h a O f d v) (k : W l R Z own nm bytes maxL ret n0 P h cells slots n Ls (v :: st)) : W l R Z own nm bytes maxL ret n0 P h cells slots pc Ls (.ref a :: st) := by
  subst hn
  intro p e s m args below meth c T locs hx hZ hby hml hown hret hlk hnm hn0 X eT N
  obtain ⟨T', X', e', st'⟩ := getF X hx hZ hown w via eT F (g := mkF m pc Ls (.ref a :: st)) rfl rfl (hb hby hd)
  exact (k p e s m args below meth c T' locs hx hZ hby hml hown hret hlk hnm hn0 X' e' N).step st'
theorem W.getstatic {i : Nat} {R0 O f d host : String} {v : Value} (n : Nat) (hd : decode bytes pc = .ok (.getstatic i, 3)) (hn : pc + 3 = n) (w : (Jvm.Cond.fieldLink own i R0 f d).before a0 Z = true ∨ (Jvm.Cond.fieldLinkNest own i R0 f d host).before a0 Z = true) (via : Via Z R0 O f d) (F : Sta Z h O f d v) (k : W l R Z own nm bytes maxL ret n0 P h cells slots n Ls (v :: st)) : W l R Z own nm bytes maxL ret n0 P h cells slots pc Ls st := by
  subst hn
  intro p e s m args below meth c T locs hx hZ hby hml hown hret hlk hnm hn0 X eT N
  obtain ⟨T', X', e', st'⟩ := getS2 X hx hZ hown w via eT F (g := mkF m pc Ls st) rfl (hb hby hd)
  exact (k p e s m args below meth c T' locs hx hZ hby hml hown hret hlk hnm hn0 X' e' N).step st'
theorem W.putfield {i kk : Nat} {R0 O f d host C : String} {ty : FieldType} {a : Addr} {v old : Value} (n : Nat) (hd : decode bytes pc = .ok (.putfield i, 3)) (hn : pc + 3 = n) (w : (Jvm.Cond.fieldLink own i R0 f d).before a0 Z = true ∨ (Jvm.Cond.fieldLinkNest own i R0 f d host).before a0 Z = true) (via : Via Z R0 O f d) (F : Fld Z h a O f d old) (E : Exa Z h a C)
    (L : (Jvm.Cond.lays C O f d).before a0 Z = true ∨ ((Jvm.Cond.laysFinal C O f d).before a0 Z = true ∧ own = O ∧ nm = "<init>")) (wi : (Jvm.Cond.instantiable C kk).before a0 Z = true) (hty : parseFieldDescriptor d = some ty) (hv : narrow ty v = v) (hf : fits ty v = true) (ge : n0 ≤ a)
    (k : ∀ h', Wr h h' a (RoadKit.slotOf Z O f d) v → Fld Z h' a O f d v → Exa Z h' a C → Keep h h' [a] → W l R Z own nm bytes maxL ret n0 P h' cells slots n Ls st) : W l R Z own nm bytes maxL ret n0 P h cells slots pc Ls (v :: .ref a :: st) := by
  subst hn
  intro p e s m args below meth c T locs hx hZ hby hml hown hret hlk hnm hn0 X eT N
  obtain ⟨T', h', X', e', W', st'⟩ := putF X hx hZ hown w via eT F E (L.imp id fun q => ⟨q.1, q.2.1, hnm.trans q.2.2⟩) wi hty hv hf (g := mkF m pc Ls (v :: .ref a :: st)) rfl rfl (hb hby hd)
  exact (k h' W' (F.same W') (E.wr W') (Keep.of_wr W') p e s m args below meth c T' _ hx hZ hby hml hown hret hlk hnm hn0 X' e' (Fr.one N ge)).step st'
theorem W.putfieldN {i kk : Nat} {R0 O f d C : String} {ty : FieldType} {a : Addr} {v old : Value} (n : Nat) (hd : decode bytes pc = .ok (.putfield i, 3)) (hn : pc + 3 = n) (w : (Jvm.Cond.fieldLink own i R0 f d).before a0 Z = true) (via : Via Z R0 O f d) (F : Fld Z h a O f d old) (E : Exa Z h a C)
    (L : (Jvm.Cond.lays C O f d).before a0 Z = true ∨ ((Jvm.Cond.laysFinal C O f d).before a0 Z = true ∧ own = O ∧ nm = "<init>")) (wi : (Jvm.Cond.instantiable C kk).before a0 Z = true) (hty : parseFieldDescriptor d = some ty) (v' : Value) (hv : narrow ty v = v') (hf : fits ty v' = true) (ge : n0 ≤ a)
    (k : ∀ h', Wr h h' a (RoadKit.slotOf Z O f d) v' → Fld Z h' a O f d v' → Exa Z h' a C → Keep h h' [a] → W l R Z own nm bytes maxL ret n0 P h' cells slots n Ls st) : W l R Z own nm bytes maxL ret n0 P h cells slots pc Ls (v :: .ref a :: st) := by
  subst hn
  intro p e s m args below meth c T locs hx hZ hby hml hown hret hlk hnm hn0 X eT N
  obtain ⟨T', h', X', e', W', st'⟩ := putFN X hx hZ hown w via eT F E (L.imp id fun q => ⟨q.1, q.2.1, hnm.trans q.2.2⟩) wi hty hv hf (g := mkF m pc Ls (v :: .ref a :: st)) rfl rfl (hb hby hd)
  exact (k h' W' (F.same W') (E.wr W') (Keep.of_wr W') p e s m args below meth c T' _ hx hZ hby hml hown hret hlk hnm hn0 X' e' (Fr.one N ge)).step st'
theorem W.new {i ns : Nat} {C : String} (n : Nat) (hd : decode bytes pc = .ok (.new i, 3)) (hn : pc + 3 = n) (w : (Jvm.Cond.classLink own i C).before a0 Z = true) (wi : (Jvm.Cond.instantiable C ns).before a0 Z = true) (wz : (Jvm.Cond.initialized C).before a0 Z = true) (hc : cells + 1 ≤ R.cells) (hs : slots + ns ≤ R.slots)
    (k : ∀ h' b, b = h.size → n0 ≤ b → Ext h h' → Keep h h' [] → Exa Z h' b C → (∀ {O f d : String} {ty : FieldType}, Laid Z a0 C O f d → parseFieldDescriptor d = some ty → Fld Z h' b O f d (defaultValue ty)) → W l R Z own nm bytes maxL ret n0 P h' (cells + 1) (slots + ns) n Ls (.ref b :: st)) : W l R Z own nm bytes maxL ret n0 P h cells slots pc Ls st := by
  subst hn
  intro p e s m args below meth c T locs hx hZ hby hml hown hret hlk hnm hn0 X eT N
  obtain ⟨T', h', X', e', E', A', D', -, st'⟩ := newO X hx hZ hown w wi wz eT (g := mkF m pc Ls st) rfl (hb hby hd) hc hs
  have hb0 : n0 ≤ h.size := Nat.le_trans hn0 (eT ▸ size_le X)
  exact (k h' h.size rfl hb0 E' (Keep.of_ext E') A' D' p e s m args below meth c T' _ hx hZ hby hml hown hret hlk hnm hn0 X' e' N).step st'
theorem Ary.lt {a : Addr} {ty : FieldType} {vs : List Value} (A : Ary Z h a ty vs) : a < h.size := by obtain ⟨c, A, -⟩ := A; exact A.lt
theorem Ary.keep {h' : Heap} {ws : List Addr} {a : Addr} {ty : FieldType} {vs : List Value} (A : Ary Z h a ty vs) (K : Keep h h' ws) (q : a ∉ ws) : Ary Z h' a ty vs := by obtain ⟨c, A, r⟩ := A; exact ⟨c, ⟨K.2.1 a c A.1 q, A.2⟩, r⟩
theorem Ary.new {k : ClassId} {a : Addr} {ty : FieldType} {z : Int32} (A : Arr Z h a (newA k ty z) ty) (hf : fits ty (defaultValue ty) = true) : Ary Z h a ty (List.replicate z.toNatClampNeg (defaultValue ty)) :=
  ⟨_, A, by simp [newA], fun v hv => by rw [(List.mem_replicate.mp hv).2]; exact hf, by rw [List.length_replicate]; have := Int32.toInt_lt z; simp only [Int32.toNatClampNeg]; omega⟩
theorem Ary.set {h' : Heap} {a : Addr} {ty : FieldType} {vs : List Value} {i : Nat} {v : Value} (A : Ary Z h a ty vs) (W' : Wr h h' a i v) (hf : fits ty v = true) : Ary Z h' a ty (vs.set i v) := by
  obtain ⟨c, A, rfl, F, S⟩ := A
  exact ⟨_, A.same W', by simp [Cell.setSlot], fun w hw => (List.mem_or_eq_of_mem_set hw).elim (fun q => F w q) (fun q => q ▸ hf), by simpa using S⟩
theorem Ary.arv {a : Addr} {ty : FieldType} {vs : List Value} (A : Ary Z h a ty vs) (d : Value) : ∃ k, Arv Z h a k ty vs.length.toInt32 vs d := by
  obtain ⟨c, A, rfl, F, S⟩ := A
  have hz : (c.slots.toList.length.toInt32).toInt = c.slots.toList.length := Int32.toInt_ofNat_small S
  have hn : (c.slots.toList.length.toInt32).toNatClampNeg = c.slots.size := by simp only [Int32.toNatClampNeg]; rw [hz]; simp
  refine ⟨c.cls, c, A, rfl, hn.symm, fun q => ?_, fun i hi => ?_, fun i hi => ?_⟩
  · have := Int32.lt_iff_toInt_lt.mp q; rw [hz] at this; have e0 : (0 : Int32).toInt = 0 := rfl; omega
  · rw [List.getD_eq_getElem?_getD]; simp [hi]
  · rw [List.getD_eq_getElem?_getD]; exact F _ (by simp [hi])
theorem Ary.of_arv {a : Addr} {k : ClassId} {ty : FieldType} {vs : List Value} {z : Int32} {d : Value} (A : Arv Z h a k ty z vs d) (hz : z.toNatClampNeg = vs.length) : Ary Z h a ty vs := by
  obtain ⟨c, A, q1, q2, q3, H, G⟩ := A
  have hl : c.slots.toList = vs := by
    apply List.ext_getElem?
    intro i
    by_cases hi : i < c.slots.size
    · have := H i hi
      rw [List.getD_eq_getElem?_getD, List.getElem?_eq_getElem (by omega)] at this
      rw [List.getElem?_eq_getElem (l := vs) (by omega)]
      simpa using this
    · rw [List.getElem?_eq_none (by simpa using hi), List.getElem?_eq_none (by omega)]
  refine ⟨c, A, hl, fun v hv => ?_, ?_⟩
  · obtain ⟨i, hi, rfl⟩ := List.getElem_of_mem hv
    have := G i (by omega)
    rwa [List.getD_eq_getElem?_getD, List.getElem?_eq_getElem hi] at this
  · have := Int32.toInt_lt z; simp only [Int32.toNatClampNeg] at hz; omega
theorem W.newarray {aty : ArrayType} {ty : FieldType} {x : Int32} (n : Nat) (hd : decode bytes pc = .ok (.newarray aty, 2)) (hn : pc + 2 = n) (w : (Jvm.Cond.arrayClass ty).before a0 Z = true) (hty : newarray.typeOf aty = ty) (hx0 : ¬ x < 0) (len cap : Nat) (hlen : x.toNatClampNeg = len) (hcap : len ≤ cap) (hb8 : cap * 8 ≤ 536870912) (hc : cells + 1 ≤ R.cells) (hs : slots + cap ≤ R.slots) (hfd : fits ty (defaultValue ty) = true)
    (k : ∀ h' b, b = h.size → n0 ≤ b → Ext h h' → Keep h h' [] → Ary Z h' b ty (List.replicate len (defaultValue ty)) → W l R Z own nm bytes maxL ret n0 P h' (cells + 1) (slots + cap) n Ls (.ref b :: st)) : W l R Z own nm bytes maxL ret n0 P h cells slots pc Ls (.int x :: st) := by
  subst hn hty hlen
  intro p e s m args below meth c T locs hx hZ hby hml hown hret hlk hnm hn0 X eT N
  obtain ⟨T', h', cA, X', e', E', A', st'⟩ := newP X hx hZ w eT (g := mkF m pc Ls (.int x :: st)) rfl (hb hby hd) rfl hx0 hcap hb8 hc hs
  have hb0 : n0 ≤ h.size := Nat.le_trans hn0 (eT ▸ size_le X)
  exact (k h' h.size rfl hb0 E' (Keep.of_ext E') (Ary.new A' hfd) p e s m args below meth c T' _ hx hZ hby hml hown hret hlk hnm hn0 X' e' N).step st'
theorem W.newarrayE {aty : ArrayType} {ty : FieldType} {x : Int32} {ad : String} (n : Nat) (hd : decode bytes pc = .ok (.newarray aty, 2)) (hn : pc + 2 = n) (w : (Jvm.Cond.arrayClass ty).before a0 Z = true) (hty : newarray.typeOf aty = ty) (had : "[" ++ ty.toString = ad) (hx0 : ¬ x < 0) (len cap : Nat) (hlen : x.toNatClampNeg = len) (hcap : len ≤ cap) (hb8 : cap * 8 ≤ 536870912) (hc : cells + 1 ≤ R.cells) (hs : slots + cap ≤ R.slots) (hfd : fits ty (defaultValue ty) = true)
    (k : ∀ h' b, b = h.size → n0 ≤ b → Ext h h' → Keep h h' [] → Ary Z h' b ty (List.replicate len (defaultValue ty)) → Exa Z h' b ad → W l R Z own nm bytes maxL ret n0 P h' (cells + 1) (slots + cap) n Ls (.ref b :: st)) : W l R Z own nm bytes maxL ret n0 P h cells slots pc Ls (.int x :: st) := by
  subst hn hty hlen
  intro p e s m args below meth c T locs hx hZ hby hml hown hret hlk hnm hn0 X eT N
  obtain ⟨T', h', cA, X', e', E', A', B', st'⟩ := newPE X hx hZ w eT (g := mkF m pc Ls (.int x :: st)) rfl (hb hby hd) rfl hx0 hcap hb8 hc hs had
  have hb0 : n0 ≤ h.size := Nat.le_trans hn0 (eT ▸ size_le X)
  exact (k h' h.size rfl hb0 E' (Keep.of_ext E') (Ary.new A' hfd) B' p e s m args below meth c T' _ hx hZ hby hml hown hret hlk hnm hn0 X' e' N).step st'
theorem ary_in {c : Cell} {vs : List Value} {j : Int32} {i : Nat} (hc : c.slots.toList = vs) (hj : j.toNatClampNeg = i) (h0 : ¬ j < 0) (hi : i < vs.length) : ¬ (j < 0 ∨ c.slots.size ≤ j.toNatClampNeg) := by
  subst hc hj; rintro (q | q)
  · exact h0 q
  · exact absurd hi (by simpa using q)
theorem W.arraylength {a : Addr} {ty : FieldType} {vs : List Value} (n : Nat) (hd : decode bytes pc = .ok (.arraylength, 1)) (hn : pc + 1 = n) (A : Ary Z h a ty vs) (v : Int32) (hv : vs.length.toInt32 = v) (k : W l R Z own nm bytes maxL ret n0 P h cells slots n Ls (.int v :: st)) : W l R Z own nm bytes maxL ret n0 P h cells slots pc Ls (.ref a :: st) := by
  subst hn
  obtain ⟨c, A, rfl, F, S⟩ := A
  have e : c.slots.size.toInt32 = v := by rw [← hv]; simp
  exact k.step fun p e' s m args below meth c' T locs hx hZ hby hown X eT t q => X.arraylength hx (by rw [eT]; exact A.1) (State.isArrayOf_alike hZ.alike A.2.1) (g := mkF m pc Ls (.ref a :: st)) rfl rfl (hb hby hd) t (e ▸ q)

theorem W.iaload {a : Addr} {vs : List Value} {j : Int32} (n : Nat) (hd : decode bytes pc = .ok (.iaload, 1)) (hn : pc + 1 = n) (A : Ary Z h a .int vs) (i : Nat) (hj : j.toNatClampNeg = i) (h0 : ¬ j < 0) (v : Value) (hv : vs[i]? = some v) (k : W l R Z own nm bytes maxL ret n0 P h cells slots n Ls (v :: st)) : W l R Z own nm bytes maxL ret n0 P h cells slots pc Ls (.int j :: .ref a :: st) := by
  subst hn
  obtain ⟨c, A, hc, F, S⟩ := A
  have hi : i < vs.length := (List.getElem?_eq_some_iff.mp hv).1
  have hin := ary_in hc hj h0 hi
  have hat : c.slots[j.toNatClampNeg]? = some v := by rw [hj, ← hv, ← hc]; simp
  exact k.step fun p e' s m args below meth c' T locs hx hZ hby hown X eT t q => X.iaload hx (j := j) (v := v) (by rw [eT]; exact A.1) (State.isArrayOf_alike hZ.alike A.2.1) A.2.2 hin hat (g := mkF m pc Ls (.int j :: .ref a :: st)) rfl rfl (hb hby hd) t q
theorem W.laload {a : Addr} {vs : List Value} {j : Int32} (n : Nat) (hd : decode bytes pc = .ok (.laload, 1)) (hn : pc + 1 = n) (A : Ary Z h a .long vs) (i : Nat) (hj : j.toNatClampNeg = i) (h0 : ¬ j < 0) (v : Value) (hv : vs[i]? = some v) (k : W l R Z own nm bytes maxL ret n0 P h cells slots n Ls (v :: st)) : W l R Z own nm bytes maxL ret n0 P h cells slots pc Ls (.int j :: .ref a :: st) := by
  subst hn
  obtain ⟨c, A, hc, F, S⟩ := A
  have hi : i < vs.length := (List.getElem?_eq_some_iff.mp hv).1
  have hin := ary_in hc hj h0 hi
  have hat : c.slots[j.toNatClampNeg]? = some v := by rw [hj, ← hv, ← hc]; simp
  exact k.step fun p e' s m args below meth c' T locs hx hZ hby hown X eT t q => X.laload hx (j := j) (v := v) (by rw [eT]; exact A.1) (State.isArrayOf_alike hZ.alike A.2.1) A.2.2 hin hat (g := mkF m pc Ls (.int j :: .ref a :: st)) rfl rfl (hb hby hd) t q
theorem W.caload {a : Addr} {vs : List Value} {j : Int32} (n : Nat) (hd : decode bytes pc = .ok (.caload, 1)) (hn : pc + 1 = n) (A : Ary Z h a .char vs) (i : Nat) (hj : j.toNatClampNeg = i) (h0 : ¬ j < 0) (v : Value) (hv : vs[i]? = some v) (k : W l R Z own nm bytes maxL ret n0 P h cells slots n Ls (v :: st)) : W l R Z own nm bytes maxL ret n0 P h cells slots pc Ls (.int j :: .ref a :: st) := by
  subst hn
  obtain ⟨c, A, hc, F, S⟩ := A
  have hi : i < vs.length := (List.getElem?_eq_some_iff.mp hv).1
  have hin := ary_in hc hj h0 hi
  have hat : c.slots[j.toNatClampNeg]? = some v := by rw [hj, ← hv, ← hc]; simp
  exact k.step fun p e' s m args below meth c' T locs hx hZ hby hown X eT t q => X.caload hx (j := j) (v := v) (by rw [eT]; exact A.1) (State.isArrayOf_alike hZ.alike A.2.1) A.2.2 hin hat (g := mkF m pc Ls (.int j :: .ref a :: st)) rfl rfl (hb hby hd) t q
theorem W.baload {a : Addr} {vs : List Value} {j : Int32} (n : Nat) (hd : decode bytes pc = .ok (.baload, 1)) (hn : pc + 1 = n) (A : Ary Z h a .byte vs) (i : Nat) (hj : j.toNatClampNeg = i) (h0 : ¬ j < 0) (v : Value) (hv : vs[i]? = some v) (k : W l R Z own nm bytes maxL ret n0 P h cells slots n Ls (v :: st)) : W l R Z own nm bytes maxL ret n0 P h cells slots pc Ls (.int j :: .ref a :: st) := by
  subst hn
  obtain ⟨c, A, hc, F, S⟩ := A
  have hi : i < vs.length := (List.getElem?_eq_some_iff.mp hv).1
  have hin := ary_in hc hj h0 hi
  have hat : c.slots[j.toNatClampNeg]? = some v := by rw [hj, ← hv, ← hc]; simp
  exact k.step fun p e' s m args below meth c' T locs hx hZ hby hown X eT t q => X.baloadBytes hx (j := j) (v := v) (by rw [eT]; exact A.1) (State.isArrayOf_alike hZ.alike A.2.1) A.2.2 hin hat (g := mkF m pc Ls (.int j :: .ref a :: st)) rfl rfl (hb hby hd) t q
theorem W.aaload {a : Addr} {vs : List Value} {j : Int32} {ty : FieldType} (n : Nat) (hd : decode bytes pc = .ok (.aaload, 1)) (hn : pc + 1 = n) (A : Ary Z h a ty vs) (hty : ty.isReference = true) (i : Nat) (hj : j.toNatClampNeg = i) (h0 : ¬ j < 0) (v : Value) (hv : vs[i]? = some v) (k : W l R Z own nm bytes maxL ret n0 P h cells slots n Ls (v :: st)) : W l R Z own nm bytes maxL ret n0 P h cells slots pc Ls (.int j :: .ref a :: st) := by
  subst hn
  obtain ⟨c, A, hc, F, S⟩ := A
  have hi : i < vs.length := (List.getElem?_eq_some_iff.mp hv).1
  have hin := ary_in hc hj h0 hi
  have hat : c.slots[j.toNatClampNeg]? = some v := by rw [hj, ← hv, ← hc]; simp
  exact k.step fun p e' s m args below meth c' T locs hx hZ hby hown X eT t q => X.aaload hx (j := j) (v := v) (by rw [eT]; exact A.1) (State.isArrayOf_alike hZ.alike A.2.1) hty A.2.2 hin hat (g := mkF m pc Ls (.int j :: .ref a :: st)) rfl rfl (hb hby hd) t q
theorem W.iastore {a : Addr} {vs : List Value} {j : Int32} {x : Int32} (n : Nat) (hd : decode bytes pc = .ok (.iastore, 1)) (hn : pc + 1 = n) (A : Ary Z h a .int vs) (i : Nat) (hj : j.toNatClampNeg = i) (h0 : ¬ j < 0) (hi : i < vs.length) (ge : n0 ≤ a)
    (k : ∀ h', Wr h h' a i (.int x) → Keep h h' [a] → Ary Z h' a .int (vs.set i (.int x)) → W l R Z own nm bytes maxL ret n0 P h' cells slots n Ls st) : W l R Z own nm bytes maxL ret n0 P h cells slots pc Ls (.int x :: .int j :: .ref a :: st) := by
  subst hn
  intro p e s m args below meth c T locs hx hZ hby hml hown hret hlk hnm hn0 X eT N
  have A0 := A
  obtain ⟨cl, A, hc, F, S⟩ := A
  obtain ⟨T', h', X', e', W', st'⟩ := stI X hx hZ eT A (ary_in hc hj h0 hi) (g := mkF m pc Ls (.int x :: .int j :: .ref a :: st)) rfl rfl (hb hby hd)
  subst hj
  exact (k h' W' (Keep.of_wr W') (A0.set W' rfl) p e s m args below meth c T' _ hx hZ hby hml hown hret hlk hnm hn0 X' e' (Fr.one N ge)).step st'

theorem W.lastore {a : Addr} {vs : List Value} {j : Int32} {x : Int64} (n : Nat) (hd : decode bytes pc = .ok (.lastore, 1)) (hn : pc + 1 = n) (A : Ary Z h a .long vs) (i : Nat) (hj : j.toNatClampNeg = i) (h0 : ¬ j < 0) (hi : i < vs.length) (ge : n0 ≤ a)
    (k : ∀ h', Wr h h' a i (.long x) → Keep h h' [a] → Ary Z h' a .long (vs.set i (.long x)) → W l R Z own nm bytes maxL ret n0 P h' cells slots n Ls st) : W l R Z own nm bytes maxL ret n0 P h cells slots pc Ls (.long x :: .int j :: .ref a :: st) := by
  subst hn
  intro p e s m args below meth c T locs hx hZ hby hml hown hret hlk hnm hn0 X eT N
  have A0 := A
  obtain ⟨cl, A, hc, F, S⟩ := A
  obtain ⟨T', h', X', e', W', st'⟩ := stJ X hx hZ eT A (ary_in hc hj h0 hi) (g := mkF m pc Ls (.long x :: .int j :: .ref a :: st)) rfl rfl (hb hby hd)
  subst hj
  exact (k h' W' (Keep.of_wr W') (A0.set W' rfl) p e s m args below meth c T' _ hx hZ hby hml hown hret hlk hnm hn0 X' e' (Fr.one N ge)).step st'

theorem W.castore {a : Addr} {vs : List Value} {j : Int32} {x : Int32} (n : Nat) (hd : decode bytes pc = .ok (.castore, 1)) (hn : pc + 1 = n) (A : Ary Z h a .char vs) (i : Nat) (hj : j.toNatClampNeg = i) (h0 : ¬ j < 0) (hi : i < vs.length) (x' : Int32) (hx' : nar .char x = x') (ge : n0 ≤ a)
    (k : ∀ h', Wr h h' a i (.int x') → Keep h h' [a] → Ary Z h' a .char (vs.set i (.int x')) → W l R Z own nm bytes maxL ret n0 P h' cells slots n Ls st) : W l R Z own nm bytes maxL ret n0 P h cells slots pc Ls (.int x :: .int j :: .ref a :: st) := by
  subst hn hx'
  intro p e s m args below meth c T locs hx hZ hby hml hown hret hlk hnm hn0 X eT N
  have A0 := A
  obtain ⟨cl, A, hc, F, S⟩ := A
  obtain ⟨T', h', X', e', W', st'⟩ := stC X hx hZ eT A (ary_in hc hj h0 hi) (g := mkF m pc Ls (.int x :: .int j :: .ref a :: st)) rfl rfl (hb hby hd)
  subst hj
  exact (k h' W' (Keep.of_wr W') (A0.set W' (fits_nar_char _)) p e s m args below meth c T' _ hx hZ hby hml hown hret hlk hnm hn0 X' e' (Fr.one N ge)).step st'

theorem W.bastore {a : Addr} {vs : List Value} {j : Int32} {x : Int32} (n : Nat) (hd : decode bytes pc = .ok (.bastore, 1)) (hn : pc + 1 = n) (A : Ary Z h a .byte vs) (i : Nat) (hj : j.toNatClampNeg = i) (h0 : ¬ j < 0) (hi : i < vs.length) (x' : Int32) (hx' : nar .byte x = x') (ge : n0 ≤ a)
    (k : ∀ h', Wr h h' a i (.int x') → Keep h h' [a] → Ary Z h' a .byte (vs.set i (.int x')) → W l R Z own nm bytes maxL ret n0 P h' cells slots n Ls st) : W l R Z own nm bytes maxL ret n0 P h cells slots pc Ls (.int x :: .int j :: .ref a :: st) := by
  subst hn hx'
  intro p e s m args below meth c T locs hx hZ hby hml hown hret hlk hnm hn0 X eT N
  have A0 := A
  obtain ⟨cl, A, hc, F, S⟩ := A
  obtain ⟨T', h', X', e', W', st'⟩ := stB X hx hZ eT A (ary_in hc hj h0 hi) (g := mkF m pc Ls (.int x :: .int j :: .ref a :: st)) rfl rfl (hb hby hd)
  subst hj
  exact (k h' W' (Keep.of_wr W') (A0.set W' (fits_nar_byte _)) p e s m args below meth c T' _ hx hZ hby hml hown hret hlk hnm hn0 X' e' (Fr.one N ge)).step st'

theorem W.bastoreZ {a : Addr} {vs : List Value} {j : Int32} {x : Int32} (n : Nat) (hd : decode bytes pc = .ok (.bastore, 1)) (hn : pc + 1 = n) (A : Ary Z h a .boolean vs) (i : Nat) (hj : j.toNatClampNeg = i) (h0 : ¬ j < 0) (hi : i < vs.length) (x' : Int32) (hx' : nar .boolean x = x') (ge : n0 ≤ a)
    (k : ∀ h', Wr h h' a i (.int x') → Keep h h' [a] → Ary Z h' a .boolean (vs.set i (.int x')) → W l R Z own nm bytes maxL ret n0 P h' cells slots n Ls st) : W l R Z own nm bytes maxL ret n0 P h cells slots pc Ls (.int x :: .int j :: .ref a :: st) := by
  subst hn hx'
  intro p e s m args below meth c T locs hx hZ hby hml hown hret hlk hnm hn0 X eT N
  have A0 := A
  obtain ⟨cl, A, hc, F, S⟩ := A
  obtain ⟨T', h', X', e', W', st'⟩ := stZ X hx hZ eT A (ary_in hc hj h0 hi) (g := mkF m pc Ls (.int x :: .int j :: .ref a :: st)) rfl rfl (hb hby hd)
  subst hj
  exact (k h' W' (Keep.of_wr W') (A0.set W' (fits_nar_bool _)) p e s m args below meth c T' _ hx hZ hby hml hown hret hlk hnm hn0 X' e' (Fr.one N ge)).step st'

/-! calls and returns -/
theorem W.initObj {i : Nat} {a : Addr} (n : Nat) (hd : decode bytes pc = .ok (.invokespecial i, 3)) (hn : pc + 3 = n) (w1 : (Jvm.Cond.methodLink own i Lib.objectInit).before a0 Z = true) (w2 : (Jvm.Cond.instanceMethod Lib.objectInit).before a0 Z = true) (w3 : (Jvm.Cond.code Lib.objectInit ⟨#[0xb1]⟩ 1 none).before a0 Z = true) (hsz : Ls.size = maxL) (hf : 1 ≤ R.frames) (W0 : Nat) (hW : (st.map fun v => v.category).sum ≤ W0) (hl : W0 + 12 ≤ R.locals)
    (k : W l R Z own nm bytes maxL ret n0 P h cells slots n Ls st) : W l R Z own nm bytes maxL ret n0 P h cells slots pc Ls (.ref a :: st) := by
  subst hn
  intro p e s m args below meth c T locs hx hZ hby hml hown hret hlk hnm hn0 X eT N
  obtain ⟨T', X', e', st'⟩ := initO X hx hZ hown w1 w2 w3 eT (g := mkF m pc Ls (.ref a :: st)) rfl (by rw [hml]; exact hsz) rfl (hb hby hd) hf (W := W0) (by show 2 * 0 + _ ≤ _; omega) hl
  exact (k p e s m args below meth c T' locs hx hZ hby hml hown hret hlk hnm hn0 X' e' N).step st'
section Calls
variable {y : MethodName} {bytes' : ByteArray} {maxL' : Nat} {ret' : Option FieldType} {rm : Room} {P' : Option Value → Heap → Prop} {rest argsL : List Value} {i : Nat}
theorem W.callS (n : Nat) (hd : decode bytes pc = .ok (.invokestatic i, 3)) (hn : pc + 3 = n) (C : n0 ≤ h.size → Con l Z y bytes' maxL' ret' rm argsL.toArray h n0 P') (w1 : (Jvm.Cond.methodLink own i y).before a0 Z = true) (w2 : (Jvm.Cond.static y).before a0 Z = true) (w3 : (Jvm.Cond.initialized y.cls).before a0 Z = true) (w4 : (Jvm.Cond.code y bytes' maxL' ret').before a0 Z = true)
    (hy : y.cls ≠ "java/lang/invoke/MethodHandle" ∧ y.cls ≠ "java/lang/invoke/VarHandle") {ps : List FieldType} {r : Option FieldType} (hpd : parseMethodDescriptor y.desc = some ⟨ps, r⟩) (hlen : argsL.length = ps.length) (hst : st = argsL.reverse ++ rest) (hsz : Ls.size = maxL) (hf : rm.frames + 1 ≤ R.frames) (W0 : Nat) (hW : (rest.map fun v => v.category).sum ≤ W0) (hl : W0 + (maxL' + 11) + rm.locals ≤ R.locals) (hc : cells + rm.cells ≤ R.cells) (hs : slots + rm.slots ≤ R.slots)
    (k : ∀ v h', P' v h' → W l R Z own nm bytes maxL ret n0 P h' (cells + rm.cells) (slots + rm.slots) n Ls (v.toList ++ rest)) : W l R Z own nm bytes maxL ret n0 P h cells slots pc Ls st := by
  subst hn hst
  intro p e s m args below meth c T locs hx hZ hby hml hown hret hlk hnm hn0 X eT N
  obtain ⟨v, _, ⟨T', L', c', n'⟩, -, X', ⟨Lc, hQ, l', y', z'⟩, st'⟩ := Jvm.LawKit.callS X hx (y := y) hown (mvT hZ w1) (mvT hZ w2) (mvT hZ w3) (mvT hZ w4) hy (backOf (W := W0) (Z := Z) (h := h) (bytes := bytes') (maxL := maxL') (rm := rm) (Q := fun v h' L => P' v h' ∧ Fr n0 L) (C (Nat.le_trans hn0 (eT ▸ size_le X))) hZ w4 w3 hf hl) (g := mkF m pc Ls (argsL.reverse ++ rest)) rfl (by rw [hml]; exact hsz) (argsL := argsL) (rest := rest) (lenOf hpd hlen) rfl (by show 2 * 0 + _ ≤ _; omega) (hb hby hd) (fun _ _ => ⟨rfl, eT, hc, hs⟩)
  dsimp only [Pt.U, Pt.locs, Pt.cells, Pt.slots] at X' l' y' z' st' hQ
  subst l' y' z'
  exact (k v T'.heap hQ.1 p e s m args below meth c T' _ hx hZ hby hml hown hret hlk hnm hn0 X' rfl (Fr.app N hQ.2)).step st'
theorem W.callInit {a : Addr} (n : Nat) (hd : decode bytes pc = .ok (.invokespecial i, 3)) (hn : pc + 3 = n) (C : n0 ≤ h.size → Con l Z y bytes' maxL' none rm (.ref a :: argsL).toArray h n0 P') (hi : y.name = "<init>") (w1 : (Jvm.Cond.methodLink own i y).before a0 Z = true) (w2 : (Jvm.Cond.instanceMethod y).before a0 Z = true) (w3 : (Jvm.Cond.initialized y.cls).before a0 Z = true) (w4 : (Jvm.Cond.code y bytes' maxL' none).before a0 Z = true)
    (hy : y.cls ≠ "java/lang/invoke/MethodHandle" ∧ y.cls ≠ "java/lang/invoke/VarHandle") {ps : List FieldType} {r : Option FieldType} (hpd : parseMethodDescriptor y.desc = some ⟨ps, r⟩) (hlen : argsL.length = ps.length) (hst : st = argsL.reverse ++ .ref a :: rest) (hsz : Ls.size = maxL) (hf : rm.frames + 1 ≤ R.frames) (W0 : Nat) (hW : (rest.map fun v => v.category).sum ≤ W0) (hl : W0 + (maxL' + 11) + rm.locals ≤ R.locals) (hc : cells + rm.cells ≤ R.cells) (hs : slots + rm.slots ≤ R.slots)
    (k : ∀ v h', P' v h' → W l R Z own nm bytes maxL ret n0 P h' (cells + rm.cells) (slots + rm.slots) n Ls (v.toList ++ rest)) : W l R Z own nm bytes maxL ret n0 P h cells slots pc Ls st := by
  subst hn hst
  intro p e s m args below meth c T locs hx hZ hby hml hown hret hlk hnm hn0 X eT N
  obtain ⟨v, _, ⟨T', L', c', n'⟩, -, X', ⟨Lc, hQ, l', y', z'⟩, st'⟩ := X.specialBack hx (y := y) hi hown (mvT hZ w1) (mvT hZ w2) (mvT hZ w4) hy (backOf (W := W0) (Z := Z) (h := h) (bytes := bytes') (maxL := maxL') (rm := rm) (Q := fun v h' L => P' v h' ∧ Fr n0 L) (C (Nat.le_trans hn0 (eT ▸ size_le X))) hZ w4 w3 hf hl) (g := mkF m pc Ls (argsL.reverse ++ .ref a :: rest)) rfl (by rw [hml]; exact hsz) (Steps.refl _) (a := a) (argsL := argsL) (rest := rest) (lenOf hpd hlen) rfl (by show 2 * 0 + _ ≤ _; omega) (hb hby hd) (fun _ _ => ⟨rfl, eT, hc, hs⟩)
  dsimp only [Pt.U, Pt.locs, Pt.cells, Pt.slots] at X' l' y' z' st' hQ
  subst l' y' z'
  exact (k v T'.heap hQ.1 p e s m args below meth c T' _ hx hZ hby hml hown hret hlk hnm hn0 X' rfl (Fr.app N hQ.2)).step fun t q => st'.trans q
theorem W.callV {C0 : String} {a : Addr} (n : Nat) (hd : decode bytes pc = .ok (.invokevirtual i, 3)) (hn : pc + 3 = n) (C : n0 ≤ h.size → Con l Z y bytes' maxL' ret' rm (.ref a :: argsL).toArray h n0 P') (E : Exa Z h a C0) (w1 : (Jvm.Cond.methodLink own i y).before a0 Z = true) (w2 : (Jvm.Cond.declares y).before a0 Z = true) (w5 : (Jvm.Cond.selects C0 y y).before a0 Z = true) (hcy : C0 = y.cls) (w6 : (Jvm.Cond.instanceMethod y).before a0 Z = true) (w3 : (Jvm.Cond.initialized y.cls).before a0 Z = true) (w4 : (Jvm.Cond.code y bytes' maxL' ret').before a0 Z = true)
    (hy : y.cls ≠ "java/lang/invoke/MethodHandle" ∧ y.cls ≠ "java/lang/invoke/VarHandle") {ps : List FieldType} {r : Option FieldType} (hpd : parseMethodDescriptor y.desc = some ⟨ps, r⟩) (hlen : argsL.length = ps.length) (hst : st = argsL.reverse ++ .ref a :: rest) (hsz : Ls.size = maxL) (hf : rm.frames + 1 ≤ R.frames) (W0 : Nat) (hW : (rest.map fun v => v.category).sum ≤ W0) (hl : W0 + (maxL' + 11) + rm.locals ≤ R.locals) (hc : cells + rm.cells ≤ R.cells) (hs : slots + rm.slots ≤ R.slots)
    (k : ∀ v h', P' v h' → W l R Z own nm bytes maxL ret n0 P h' (cells + rm.cells) (slots + rm.slots) n Ls (v.toList ++ rest)) : W l R Z own nm bytes maxL ret n0 P h cells slots pc Ls st := by
  subst hn hst hcy
  intro p e s m args below meth c T locs hx hZ hby hml hown hret hlk hnm hn0 X eT N
  obtain ⟨cq, kq, qa, qb, qc⟩ := isOf hZ eT E
  obtain ⟨v, _, ⟨T', L', c', n'⟩, -, X', ⟨Lc, hQ, l', y', z'⟩, st'⟩ := X.virtualBack hx (y := y) (z := y) hown (mvT hZ w1) (mvT hZ w2) (notFace_of_selects (args := #[]) (mvT hZ w5)) (mvT hZ w5) (mvT hZ w6) hy (backOf (W := W0) (Z := Z) (h := h) (bytes := bytes') (maxL := maxL') (rm := rm) (Q := fun v h' L => P' v h' ∧ Fr n0 L) (C (Nat.le_trans hn0 (eT ▸ size_le X))) hZ w4 w3 hf hl) qa qc (g := mkF m pc Ls (argsL.reverse ++ .ref a :: rest)) rfl (by rw [hml]; exact hsz) (Steps.refl _) (argsL := argsL) (rest := rest) (lenOf hpd hlen) rfl (by show 2 * 0 + _ ≤ _; omega) (hb hby hd) (fun _ _ => ⟨rfl, eT, hc, hs⟩)
  dsimp only [Pt.U, Pt.locs, Pt.cells, Pt.slots] at X' l' y' z' st' hQ
  subst l' y' z'
  exact (k v T'.heap hQ.1 p e s m args below meth c T' _ hx hZ hby hml hown hret hlk hnm hn0 X' rfl (Fr.app N hQ.2)).step fun t q => st'.trans q
end Calls
theorem W.checkcast {i : Nat} {K : String} {a : Addr} (n : Nat) (hd : decode bytes pc = .ok (.checkcast i, 3)) (hn : pc + 3 = n) (w : (Jvm.Cond.classLink own i K).before a0 Z = true) (F : Ins Z h a K true) (k : W l R Z own nm bytes maxL ret n0 P h cells slots n Ls (.ref a :: st)) : W l R Z own nm bytes maxL ret n0 P h cells slots pc Ls (.ref a :: st) := by
  subst hn
  intro p e s m args below meth c T locs hx hZ hby hml hown hret hlk hnm hn0 X eT N
  obtain ⟨T', X', e', st'⟩ := castY X hx hZ hown w eT F (g := mkF m pc Ls (.ref a :: st)) rfl rfl (hb hby hd)
  exact (k p e s m args below meth c T' locs hx hZ hby hml hown hret hlk hnm hn0 X' e' N).step st'
theorem W.instYes {i : Nat} {K : String} {a : Addr} (n : Nat) (hd : decode bytes pc = .ok (.instanceof i, 3)) (hn : pc + 3 = n) (w : (Jvm.Cond.classLink own i K).before a0 Z = true) (F : Ins Z h a K true) (k : W l R Z own nm bytes maxL ret n0 P h cells slots n Ls (.int 1 :: st)) : W l R Z own nm bytes maxL ret n0 P h cells slots pc Ls (.ref a :: st) := by
  subst hn
  intro p e s m args below meth c T locs hx hZ hby hml hown hret hlk hnm hn0 X eT N
  obtain ⟨T', X', e', st'⟩ := instY X hx hZ hown w eT F (g := mkF m pc Ls (.ref a :: st)) rfl rfl (hb hby hd)
  exact (k p e s m args below meth c T' locs hx hZ hby hml hown hret hlk hnm hn0 X' e' N).step st'
theorem W.instNo {i : Nat} {K C : String} {a : Addr} (n : Nat) (hd : decode bytes pc = .ok (.instanceof i, 3)) (hn : pc + 3 = n) (w : (Jvm.Cond.classLink own i K).before a0 Z = true) (E : Exa Z h a C) (F : ∃ c t, Z.vm.findClass C = some c ∧ Z.vm.findClass K = some t ∧ Z.vm.assignable c t = false) (k : W l R Z own nm bytes maxL ret n0 P h cells slots n Ls (.int 0 :: st)) : W l R Z own nm bytes maxL ret n0 P h cells slots pc Ls (.ref a :: st) := by
  subst hn
  intro p e s m args below meth c T locs hx hZ hby hml hown hret hlk hnm hn0 X eT N
  obtain ⟨T', X', e', st'⟩ := RoadKit.instNo X hx hZ hown w eT E F (g := mkF m pc Ls (.ref a :: st)) rfl rfl (hb hby hd)
  exact (k p e s m args below meth c T' locs hx hZ hby hml hown hret hlk hnm hn0 X' e' N).step st'
theorem W.instNull {i : Nat} (n : Nat) (hd : decode bytes pc = .ok (.instanceof i, 3)) (hn : pc + 3 = n) (k : W l R Z own nm bytes maxL ret n0 P h cells slots n Ls (.int 0 :: st)) : W l R Z own nm bytes maxL ret n0 P h cells slots pc Ls (.null :: st) := by
  subst hn
  exact k.step fun p e s m args below meth c T locs hx hZ hby hown X eT t q => X.instanceofNull hx (g := mkF m pc Ls (.null :: st)) rfl rfl (hb hby hd) t q
theorem ary_us {vs : List Value} {d : Value} (i k : Nat) (hs : i + k ≤ vs.length) : (List.range k).map (fun j => vs.getD (i + j) d) = (vs.drop i).take k := by
  apply List.ext_getElem?
  intro j
  by_cases hj : j < k
  · simp [hj, List.getD_eq_getElem?_getD, List.getElem?_eq_getElem (show i + j < vs.length by omega)]
  · simp [hj]; omega
theorem W.arraycopy {i : Nat} {a b : Addr} {ty : FieldType} {vs vd : List Value} {sp dp nn : Int32} (n : Nat) (hd : decode bytes pc = .ok (.invokestatic i, 3)) (hn : pc + 3 = n) (w1 : (Jvm.Cond.methodLink own i Jvm.Stand.acN).before a0 Z = true) (w2 : (Jvm.Cond.native Jvm.Stand.acN).before a0 Z = true) (w3 : (Jvm.Cond.static Jvm.Stand.acN).before a0 Z = true) (w4 : (Jvm.Cond.initialized "java/lang/System").before a0 Z = true)
    (A : Ary Z h a ty vs) (B : Ary Z h b ty vd) (hk : refKind ty = false) (si di ni : Nat) (h1 : sp.toNatClampNeg = si) (h1' : ¬ sp < 0) (h2 : dp.toNatClampNeg = di) (h2' : ¬ dp < 0) (h3 : nn.toNatClampNeg = ni) (h3' : ¬ nn < 0) (hs : si + ni ≤ vs.length) (hdl : di + ni ≤ vd.length) (ge : n0 ≤ b) (hsz : Ls.size = maxL) (hf : 1 ≤ R.frames) (W0 : Nat) (hW : (st.map fun v => v.category).sum ≤ W0) (hl : W0 + (nativeFrameWords "java/lang/System" "arraycopy" 5 + 11) ≤ R.locals)
    (k : ∀ h', Keep h h' [b] → Ary Z h' b ty (vd.take di ++ (vs.drop si).take ni ++ vd.drop (di + ni)) → W l R Z own nm bytes maxL ret n0 P h' cells slots n Ls st) : W l R Z own nm bytes maxL ret n0 P h cells slots pc Ls (.int nn :: .int dp :: .ref b :: .int sp :: .ref a :: st) := by
  subst hn h1 h2 h3
  intro p e s m args below meth c T locs hx hZ hby hml hown hret hlk hnm hn0 X eT N
  have za : vs.length.toInt32.toNatClampNeg = vs.length := by
    have S : vs.length < 2 ^ 31 := by obtain ⟨_, _, _, _, S⟩ := A; exact S
    have hz : (vs.length.toInt32).toInt = vs.length := Int32.toInt_ofNat_small S
    simp only [Int32.toNatClampNeg]; rw [hz]; simp
  have zb : vd.length.toInt32.toNatClampNeg = vd.length := by
    have S : vd.length < 2 ^ 31 := by obtain ⟨_, _, _, _, S⟩ := B; exact S
    have hz : (vd.length.toInt32).toInt = vd.length := Int32.toInt_ofNat_small S
    simp only [Int32.toNatClampNeg]; rw [hz]; simp
  obtain ⟨ka, A'⟩ := A.arv .null
  obtain ⟨kb, B'⟩ := B.arv .null
  obtain ⟨T', h', L', X', e', N', K', C', st'⟩ := cpA X hx hZ hown w1 w2 w3 w4 eT A' B' (Or.inl ⟨rfl, hk⟩) h1' h2' h3' (by rw [za]; exact hs) (by rw [zb]; exact hdl) rfl hdl N ge (g := mkF m pc Ls (.int nn :: .int dp :: .ref b :: .int sp :: .ref a :: st)) rfl (by rw [hml]; exact hsz) rfl (hb hby hd) hf (W := W0) (by show 2 * 0 + _ ≤ _; omega) hl
  rw [ary_us _ _ hs] at C'
  have hlen : vd.length.toInt32.toNatClampNeg = (vd.take dp.toNatClampNeg ++ (vs.drop sp.toNatClampNeg).take nn.toNatClampNeg ++ vd.drop (dp.toNatClampNeg + nn.toNatClampNeg)).length := by
    rw [zb]; simp only [List.length_append, List.length_take, List.length_drop]; omega
  exact (k h' K' (Ary.of_arv C' hlen) p e s m args below meth c T' L' hx hZ hby hml hown hret hlk hnm hn0 X' e' N').step st'
theorem W.cloneArr {i : Nat} {a : Addr} {ty : FieldType} {vs : List Value} {ad : String} (n : Nat) (hd : decode bytes pc = .ok (.invokevirtual i, 3)) (hn : pc + 3 = n) (w1 : (Jvm.Cond.methodLink own i ⟨ad, "clone", "()Ljava/lang/Object;"⟩).before a0 Z = true) (w2 : (Jvm.Cond.sameMethod ad "java/lang/Object" "clone" "()Ljava/lang/Object;").before a0 Z = true) (w3 : (Jvm.Cond.native ⟨"java/lang/Object", "clone", "()Ljava/lang/Object;"⟩).before a0 Z = true)
    (w4 : (Jvm.Cond.instanceMethod ⟨"java/lang/Object", "clone", "()Ljava/lang/Object;"⟩).before a0 Z = true) (w5 : (Jvm.Cond.selects ad ⟨ad, "clone", "()Ljava/lang/Object;"⟩ ⟨"java/lang/Object", "clone", "()Ljava/lang/Object;"⟩).before a0 Z = true) (w6 : (Jvm.Cond.castable ad "java/lang/Cloneable").before a0 Z = true)
    (A : Ary Z h a ty vs) (E : Exa Z h a ad) (hsz : Ls.size = maxL) (hf : 1 ≤ R.frames) (W0 cap : Nat) (hW : (st.map fun v => v.category).sum ≤ W0) (hl : W0 + 14 ≤ R.locals) (hcap : vs.length ≤ cap) (hc : cells + 1 ≤ R.cells) (hs : slots + cap ≤ R.slots)
    (k : ∀ h' b, b = h.size → n0 ≤ b → Ext h h' → Keep h h' [] → Ary Z h' b ty vs → Exa Z h' b ad → W l R Z own nm bytes maxL ret n0 P h' (cells + 1) (slots + cap) n Ls (.ref b :: st)) : W l R Z own nm bytes maxL ret n0 P h cells slots pc Ls (.ref a :: st) := by
  subst hn
  intro p e s m args below meth c T locs hx hZ hby hml hown hret hlk hnm hn0 X eT N
  have za : vs.length.toInt32.toNatClampNeg = vs.length := by
    have S : vs.length < 2 ^ 31 := by obtain ⟨_, _, _, _, S⟩ := A; exact S
    have hz : (vs.length.toInt32).toInt = vs.length := Int32.toInt_ofNat_small S
    simp only [Int32.toNatClampNeg]; rw [hz]; simp
  obtain ⟨ka, A'⟩ := A.arv .null
  obtain ⟨T', h', X', e', E', B', C', st'⟩ := cloneH X hx hZ hown w1 w2 w3 w4 w5 w6 eT A'.arh E (g := mkF m pc Ls (.ref a :: st)) rfl (by rw [hml]; exact hsz) rfl (hb hby hd) hf (W := W0) (cap := cap) (by show 2 * 0 + _ ≤ _; omega) hl (by rw [za]; exact hcap) hc hs
  have hb0 : n0 ≤ h.size := Nat.le_trans hn0 (eT ▸ size_le X)
  exact (k h' h.size rfl hb0 E' (Keep.of_ext E') (Ary.of_arv (show Arv Z h' h.size ka ty vs.length.toInt32 vs .null from B') za) C' p e s m args below meth c T' _ hx hZ hby hml hown hret hlk hnm hn0 X' e' N).step st'
theorem W.ireturn {x : Int32} (hd : decode bytes pc = .ok (.ireturn, 1)) (hr : ret = some .int) (hp : P (some (.int x)) h) (hc : cells ≤ R.cells) (hs : slots ≤ R.slots) : W l R Z own nm bytes maxL ret n0 P h cells slots pc Ls (.int x :: st) := by
  intro p e s m args below meth c T locs hx hZ hby hml hown hret hlk hnm hn0 X eT N
  obtain ⟨fs, hr', hrun, hended, hW, hsame⟩ := X.leave (v := some (.int x)) (fun q => by rw [hret, hr] at q; cases q) hlk
  exact ⟨_, _, retOut X hx (t := .int) (i := .ireturn) (hret.trans hr) rfl (Or.inl ⟨rfl, Or.inl rfl, _, rfl⟩) (hb hby hd) hr', hrun, hended, _, _, rfl, ⟨by show P _ T.heap; rw [eT]; exact hp, N⟩, ⟨_, rfl⟩, hW, hsame.mono hc hs⟩
theorem W.ireturnN {x : Int32} {t : FieldType} (hd : decode bytes pc = .ok (.ireturn, 1)) (hr : ret = some t) (ht : t = .boolean ∨ t = .byte ∨ t = .char ∨ t = .short) (x' : Int32) (hx' : nar t x = x') (hp : P (some (.int x')) h) (hc : cells ≤ R.cells) (hs : slots ≤ R.slots) : W l R Z own nm bytes maxL ret n0 P h cells slots pc Ls (.int x :: st) := by
  subst hx'
  intro p e s m args below meth c T locs hx hZ hby hml hown hret hlk hnm hn0 X eT N
  obtain ⟨fs, hr', hrun, hended, hW, hsame⟩ := X.leave (v := some (.int (nar t x))) (fun q => by rw [hret, hr] at q; cases q) hlk
  exact ⟨_, _, retN X hx (hret.trans hr) ht (hb hby hd) hr', hrun, hended, _, _, rfl, ⟨by show P _ T.heap; rw [eT]; exact hp, N⟩, ⟨_, rfl⟩, hW, hsame.mono hc hs⟩
theorem W.lreturn {x : Int64} (hd : decode bytes pc = .ok (.lreturn, 1)) (hr : ret = some .long) (hp : P (some (.long x)) h) (hc : cells ≤ R.cells) (hs : slots ≤ R.slots) : W l R Z own nm bytes maxL ret n0 P h cells slots pc Ls (.long x :: st) := by
  intro p e s m args below meth c T locs hx hZ hby hml hown hret hlk hnm hn0 X eT N
  obtain ⟨fs, hr', hrun, hended, hW, hsame⟩ := X.leave (v := some (.long x)) (fun q => by rw [hret, hr] at q; cases q) hlk
  exact ⟨_, _, retOut X hx (t := .long) (i := .lreturn) (hret.trans hr) rfl (Or.inr (Or.inl ⟨rfl, rfl, _, rfl⟩)) (hb hby hd) hr', hrun, hended, _, _, rfl, ⟨by show P _ T.heap; rw [eT]; exact hp, N⟩, ⟨_, rfl⟩, hW, hsame.mono hc hs⟩
theorem W.areturn {v : Value} {t : FieldType} (hd : decode bytes pc = .ok (.areturn, 1)) (hr : ret = some t) (ht : t.isReference = true) (hv : v.isRef = true) (hn : narrow t v = v) (hp : P (some v) h) (hc : cells ≤ R.cells) (hs : slots ≤ R.slots) : W l R Z own nm bytes maxL ret n0 P h cells slots pc Ls (v :: st) := by
  intro p e s m args below meth c T locs hx hZ hby hml hown hret hlk hnm hn0 X eT N
  obtain ⟨fs, hr', hrun, hended, hW, hsame⟩ := X.leave (v := some v) (fun q => by rw [hret, hr] at q; cases q) hlk
  exact ⟨_, _, retOut X hx (t := t) (i := .areturn) (hret.trans hr) hn (Or.inr (Or.inr (Or.inr (Or.inr ⟨rfl, ht, hv⟩)))) (hb hby hd) hr', hrun, hended, _, _, rfl, ⟨by show P _ T.heap; rw [eT]; exact hp, N⟩, ⟨_, rfl⟩, hW, hsame.mono hc hs⟩
theorem W.return_ (hd : decode bytes pc = .ok (.return_, 1)) (hr : ret = none) (hp : P none h) (hc : cells ≤ R.cells) (hs : slots ≤ R.slots) : W l R Z own nm bytes maxL ret n0 P h cells slots pc Ls [] := by
  intro p e s m args below meth c T locs hx hZ hby hml hown hret hlk hnm hn0 X eT N
  obtain ⟨fs, hr', hrun, hended, hW, hsame⟩ := X.leave (v := none) (fun q => rfl) hlk
  exact ⟨_, _, X.returnOut hx (hret.trans hr) (hb hby hd) hr', hrun, hended, _, _, rfl, ⟨by show P _ T.heap; rw [eT]; exact hp, N⟩, ⟨_, rfl⟩, hW, hsame.mono hc hs⟩
end Rules
end Jvm.Wk

namespace Jvm.Pilot.@@N@@
open Jvm Jvm.ClassFile Sem Op Lib Jvm.Free Jvm.Stand Jvm.LawKit Jvm.RoadKit Jvm.Wk Bundle Jvm.Pilot.@@N@@.Jvm.D
theorem wd_2 {Z : State} {a0 : Array Value} (hw : ∀ d ∈ tables_1, d.before a0 Z = true) : (Jvm.Cond.instantiable "com/example/keen_router/keenrouter/forwarding/packet/Ipv4Prefix" (2 : Nat)).before a0 Z = true := hw _ (List.mem_of_getElem? (i := 2) rfl)
theorem wd_40 {Z : State} {a0 : Array Value} (hw : ∀ d ∈ tables_1, d.before a0 Z = true) : (Jvm.Cond.superclass "java/lang/Integer" "java/lang/Number").before a0 Z = true := hw _ (List.mem_of_getElem? (i := 40) rfl)
theorem wd_41 {Z : State} {a0 : Array Value} (hw : ∀ d ∈ tables_1, d.before a0 Z = true) : (Jvm.Cond.superclass "java/lang/Number" "java/lang/Object").before a0 Z = true := hw _ (List.mem_of_getElem? (i := 41) rfl)
theorem wd_42 {Z : State} {a0 : Array Value} (hw : ∀ d ∈ tables_1, d.before a0 Z = true) : (Jvm.Cond.noSuperclass "java/lang/Object").before a0 Z = true := hw _ (List.mem_of_getElem? (i := 42) rfl)
theorem d_prog_30_method_1_0 : decode prog_30_method_1_code 0 = .ok (.aload_n 0, 1) := by decide +kernel
theorem d_prog_30_method_1_1 : decode prog_30_method_1_code 1 = .ok (.invokespecial 1, 3) := by decide +kernel
theorem wd_7 {Z : State} {a0 : Array Value} (hw : ∀ d ∈ tables_1, d.before a0 Z = true) : (Jvm.Cond.methodLink "com/example/keen_router/keenrouter/forwarding/packet/Ipv4Prefix" (1 : Nat) ({ cls := "java/lang/Object", name := "<init>", desc := "()V" } : Jvm.MethodName)).before a0 Z = true := hw _ (List.mem_of_getElem? (i := 7) rfl)
theorem wd_9 {Z : State} {a0 : Array Value} (hw : ∀ d ∈ tables_1, d.before a0 Z = true) : (Jvm.Cond.code ({ cls := "java/lang/Object", name := "<init>", desc := "()V" } : Jvm.MethodName) object_method_1_code (1 : Nat) (Option.none : Option Jvm.ClassFile.FieldType)).before a0 Z = true := hw _ (List.mem_of_getElem? (i := 9) rfl)
theorem wd_8 {Z : State} {a0 : Array Value} (hw : ∀ d ∈ tables_1, d.before a0 Z = true) : (Jvm.Cond.instanceMethod ({ cls := "java/lang/Object", name := "<init>", desc := "()V" } : Jvm.MethodName)).before a0 Z = true := hw _ (List.mem_of_getElem? (i := 8) rfl)
theorem d_prog_30_method_1_4 : decode prog_30_method_1_code 4 = .ok (.iload_n 2, 1) := by decide +kernel
theorem d_prog_30_method_1_5 : decode prog_30_method_1_code 5 = .ok (.ifCond .lt 9, 3) := by decide +kernel
theorem d_prog_30_method_1_8 : decode prog_30_method_1_code 8 = .ok (.iload_n 2, 1) := by decide +kernel
theorem d_prog_30_method_1_9 : decode prog_30_method_1_code 9 = .ok (.bipush 32, 2) := by decide +kernel
theorem d_prog_30_method_1_11 : decode prog_30_method_1_code 11 = .ok (.if_icmp .le 17, 3) := by decide +kernel
theorem d_prog_30_method_1_28 : decode prog_30_method_1_code 28 = .ok (.aload_n 0, 1) := by decide +kernel
theorem d_prog_30_method_1_29 : decode prog_30_method_1_code 29 = .ok (.iload_n 1, 1) := by decide +kernel
theorem d_prog_30_method_1_30 : decode prog_30_method_1_code 30 = .ok (.putfield 18, 3) := by decide +kernel
theorem wd_10 {Z : State} {a0 : Array Value} (hw : ∀ d ∈ tables_1, d.before a0 Z = true) : (Jvm.Cond.fieldLink "com/example/keen_router/keenrouter/forwarding/packet/Ipv4Prefix" (18 : Nat) "com/example/keen_router/keenrouter/forwarding/packet/Ipv4Prefix" "address" "I").before a0 Z = true := hw _ (List.mem_of_getElem? (i := 10) rfl)
theorem wd_11 {Z : State} {a0 : Array Value} (hw : ∀ d ∈ tables_1, d.before a0 Z = true) : (Jvm.Cond.laysFinal "com/example/keen_router/keenrouter/forwarding/packet/Ipv4Prefix" "com/example/keen_router/keenrouter/forwarding/packet/Ipv4Prefix" "address" "I").before a0 Z = true := hw _ (List.mem_of_getElem? (i := 11) rfl)
theorem d_prog_30_method_1_33 : decode prog_30_method_1_code 33 = .ok (.aload_n 0, 1) := by decide +kernel
theorem d_prog_30_method_1_34 : decode prog_30_method_1_code 34 = .ok (.iload_n 2, 1) := by decide +kernel
theorem d_prog_30_method_1_35 : decode prog_30_method_1_code 35 = .ok (.putfield 22, 3) := by decide +kernel
theorem wd_12 {Z : State} {a0 : Array Value} (hw : ∀ d ∈ tables_1, d.before a0 Z = true) : (Jvm.Cond.fieldLink "com/example/keen_router/keenrouter/forwarding/packet/Ipv4Prefix" (22 : Nat) "com/example/keen_router/keenrouter/forwarding/packet/Ipv4Prefix" "length" "I").before a0 Z = true := hw _ (List.mem_of_getElem? (i := 12) rfl)
theorem wd_13 {Z : State} {a0 : Array Value} (hw : ∀ d ∈ tables_1, d.before a0 Z = true) : (Jvm.Cond.laysFinal "com/example/keen_router/keenrouter/forwarding/packet/Ipv4Prefix" "com/example/keen_router/keenrouter/forwarding/packet/Ipv4Prefix" "length" "I").before a0 Z = true := hw _ (List.mem_of_getElem? (i := 13) rfl)
theorem sne_0 {Z : State} {a0 : Array Value} (hw : ∀ d ∈ tables_1, d.before a0 Z = true) : RoadKit.slotOf Z "com/example/keen_router/keenrouter/forwarding/packet/Ipv4Prefix" "length" "I" ≠ RoadKit.slotOf Z "com/example/keen_router/keenrouter/forwarding/packet/Ipv4Prefix" "address" "I" := slot_ne (C := "com/example/keen_router/keenrouter/forwarding/packet/Ipv4Prefix") (Or.inr (wd_13 hw)) (Or.inr (wd_11 hw)) (by decide) (t := .int) (t' := .int) (by decide) (by decide)
theorem d_prog_30_method_1_38 : decode prog_30_method_1_code 38 = .ok (.return_, 1) := by decide +kernel
theorem sne_1 {Z : State} {a0 : Array Value} (hw : ∀ d ∈ tables_1, d.before a0 Z = true) : RoadKit.slotOf Z "com/example/keen_router/keenrouter/forwarding/packet/Ipv4Prefix" "address" "I" ≠ RoadKit.slotOf Z "com/example/keen_router/keenrouter/forwarding/packet/Ipv4Prefix" "length" "I" := slot_ne (C := "com/example/keen_router/keenrouter/forwarding/packet/Ipv4Prefix") (Or.inr (wd_11 hw)) (Or.inr (wd_13 hw)) (by decide) (t := .int) (t' := .int) (by decide) (by decide)
theorem pn_0 : plainName "com/example/keen_router/keenrouter/forwarding/packet/Ipv4Prefix" = true := by first | (simp [plainName, overriddenIn]; done) | decide +kernel
theorem d_prog_30_method_10_0 : decode prog_30_method_10_code 0 = .ok (.aload_n 1, 1) := by decide +kernel
theorem d_prog_30_method_10_1 : decode prog_30_method_10_code 1 = .ok (.instanceof 7, 3) := by decide +kernel
theorem wd_19 {Z : State} {a0 : Array Value} (hw : ∀ d ∈ tables_1, d.before a0 Z = true) : (Jvm.Cond.classLink "com/example/keen_router/keenrouter/forwarding/packet/Ipv4Prefix" (7 : Nat) "com/example/keen_router/keenrouter/forwarding/packet/Ipv4Prefix").before a0 Z = true := hw _ (List.mem_of_getElem? (i := 19) rfl)
theorem d_prog_30_method_10_4 : decode prog_30_method_10_code 4 = .ok (.ifCond .eq 34, 3) := by decide +kernel
theorem d_prog_30_method_10_7 : decode prog_30_method_10_code 7 = .ok (.aload_n 1, 1) := by decide +kernel
theorem d_prog_30_method_10_8 : decode prog_30_method_10_code 8 = .ok (.checkcast 7, 3) := by decide +kernel
theorem d_prog_30_method_10_11 : decode prog_30_method_10_code 11 = .ok (.astore_n 2, 1) := by decide +kernel
theorem d_prog_30_method_10_12 : decode prog_30_method_10_code 12 = .ok (.aload_n 0, 1) := by decide +kernel
theorem d_prog_30_method_10_13 : decode prog_30_method_10_code 13 = .ok (.getfield 18, 3) := by decide +kernel
theorem d_prog_30_method_10_16 : decode prog_30_method_10_code 16 = .ok (.aload_n 2, 1) := by decide +kernel
theorem d_prog_30_method_10_17 : decode prog_30_method_10_code 17 = .ok (.getfield 18, 3) := by decide +kernel
theorem d_prog_30_method_10_20 : decode prog_30_method_10_code 20 = .ok (.if_icmp .ne 18, 3) := by decide +kernel
theorem d_prog_30_method_10_38 : decode prog_30_method_10_code 38 = .ok (.iconst 0, 1) := by decide +kernel
theorem d_prog_30_method_10_39 : decode prog_30_method_10_code 39 = .ok (.ireturn, 1) := by decide +kernel
theorem d_prog_30_method_10_23 : decode prog_30_method_10_code 23 = .ok (.aload_n 0, 1) := by decide +kernel
theorem d_prog_30_method_10_24 : decode prog_30_method_10_code 24 = .ok (.getfield 22, 3) := by decide +kernel
theorem d_prog_30_method_10_27 : decode prog_30_method_10_code 27 = .ok (.aload_n 2, 1) := by decide +kernel
theorem d_prog_30_method_10_28 : decode prog_30_method_10_code 28 = .ok (.getfield 22, 3) := by decide +kernel
theorem d_prog_30_method_10_31 : decode prog_30_method_10_code 31 = .ok (.if_icmp .ne 7, 3) := by decide +kernel
theorem d_prog_30_method_10_34 : decode prog_30_method_10_code 34 = .ok (.iconst 1, 1) := by decide +kernel
theorem d_prog_30_method_10_35 : decode prog_30_method_10_code 35 = .ok (.goto 4, 3) := by decide +kernel
theorem d_jdk_18_method_1_0 : decode jdk_18_method_1_code 0 = .ok (.aload_n 0, 1) := by decide +kernel
theorem d_jdk_18_method_1_1 : decode jdk_18_method_1_code 1 = .ok (.invokespecial 1, 3) := by decide +kernel
theorem wd_37 {Z : State} {a0 : Array Value} (hw : ∀ d ∈ tables_1, d.before a0 Z = true) : (Jvm.Cond.methodLink "java/lang/Number" (1 : Nat) ({ cls := "java/lang/Object", name := "<init>", desc := "()V" } : Jvm.MethodName)).before a0 Z = true := hw _ (List.mem_of_getElem? (i := 37) rfl)
theorem d_jdk_18_method_1_4 : decode jdk_18_method_1_code 4 = .ok (.return_, 1) := by decide +kernel
theorem pn_1 : plainName "java/lang/Number" = true := by first | (simp [plainName, overriddenIn]; done) | decide +kernel
theorem d_jdk_33_method_23_0 : decode jdk_33_method_23_code 0 = .ok (.aload_n 0, 1) := by decide +kernel
theorem d_jdk_33_method_23_1 : decode jdk_33_method_23_code 1 = .ok (.invokespecial 202, 3) := by decide +kernel
theorem wd_31 {Z : State} {a0 : Array Value} (hw : ∀ d ∈ tables_1, d.before a0 Z = true) : (Jvm.Cond.methodLink "java/lang/Integer" (202 : Nat) ({ cls := "java/lang/Number", name := "<init>", desc := "()V" } : Jvm.MethodName)).before a0 Z = true := hw _ (List.mem_of_getElem? (i := 31) rfl)
theorem wd_36 {Z : State} {a0 : Array Value} (hw : ∀ d ∈ tables_1, d.before a0 Z = true) : (Jvm.Cond.code ({ cls := "java/lang/Number", name := "<init>", desc := "()V" } : Jvm.MethodName) jdk_18_method_1_code (1 : Nat) (Option.none : Option Jvm.ClassFile.FieldType)).before a0 Z = true := hw _ (List.mem_of_getElem? (i := 36) rfl)
theorem pd_0 : parseMethodDescriptor "()V" = some ⟨[], none⟩ := by decide +kernel
theorem wd_32 {Z : State} {a0 : Array Value} (hw : ∀ d ∈ tables_1, d.before a0 Z = true) : (Jvm.Cond.instanceMethod ({ cls := "java/lang/Number", name := "<init>", desc := "()V" } : Jvm.MethodName)).before a0 Z = true := hw _ (List.mem_of_getElem? (i := 32) rfl)
theorem wd_35 {Z : State} {a0 : Array Value} (hw : ∀ d ∈ tables_1, d.before a0 Z = true) : (Jvm.Cond.initialized "java/lang/Number").before a0 Z = true := hw _ (List.mem_of_getElem? (i := 35) rfl)
theorem d_jdk_33_method_23_4 : decode jdk_33_method_23_code 4 = .ok (.aload_n 0, 1) := by decide +kernel
theorem d_jdk_33_method_23_5 : decode jdk_33_method_23_code 5 = .ok (.iload_n 1, 1) := by decide +kernel
theorem d_jdk_33_method_23_6 : decode jdk_33_method_23_code 6 = .ok (.putfield 205, 3) := by decide +kernel
theorem wd_38 {Z : State} {a0 : Array Value} (hw : ∀ d ∈ tables_1, d.before a0 Z = true) : (Jvm.Cond.fieldLink "java/lang/Integer" (205 : Nat) "java/lang/Integer" "value" "I").before a0 Z = true := hw _ (List.mem_of_getElem? (i := 38) rfl)
theorem wd_39 {Z : State} {a0 : Array Value} (hw : ∀ d ∈ tables_1, d.before a0 Z = true) : (Jvm.Cond.laysFinal "java/lang/Integer" "java/lang/Integer" "value" "I").before a0 Z = true := hw _ (List.mem_of_getElem? (i := 39) rfl)
theorem wd_26 {Z : State} {a0 : Array Value} (hw : ∀ d ∈ tables_1, d.before a0 Z = true) : (Jvm.Cond.instantiable "java/lang/Integer" (1 : Nat)).before a0 Z = true := hw _ (List.mem_of_getElem? (i := 26) rfl)
theorem d_jdk_33_method_23_9 : decode jdk_33_method_23_code 9 = .ok (.return_, 1) := by decide +kernel
theorem pn_2 : plainName "java/lang/Integer" = true := by first | (simp [plainName, overriddenIn]; done) | decide +kernel
theorem d_jdk_33_method_22_0 : decode jdk_33_method_22_code 0 = .ok (.iload_n 0, 1) := by decide +kernel
theorem d_jdk_33_method_22_1 : decode jdk_33_method_22_code 1 = .ok (.bipush (-128), 2) := by decide +kernel
theorem d_jdk_33_method_22_3 : decode jdk_33_method_22_code 3 = .ok (.if_icmp .lt 20, 3) := by decide +kernel
theorem d_jdk_33_method_22_23 : decode jdk_33_method_22_code 23 = .ok (.new 1, 3) := by decide +kernel
theorem wd_25 {Z : State} {a0 : Array Value} (hw : ∀ d ∈ tables_1, d.before a0 Z = true) : (Jvm.Cond.classLink "java/lang/Integer" (1 : Nat) "java/lang/Integer").before a0 Z = true := hw _ (List.mem_of_getElem? (i := 25) rfl)
theorem wd_23 {Z : State} {a0 : Array Value} (hw : ∀ d ∈ tables_1, d.before a0 Z = true) : (Jvm.Cond.initialized "java/lang/Integer").before a0 Z = true := hw _ (List.mem_of_getElem? (i := 23) rfl)
theorem d_jdk_33_method_22_26 : decode jdk_33_method_22_code 26 = .ok (.dup, 1) := by decide +kernel
theorem d_jdk_33_method_22_27 : decode jdk_33_method_22_code 27 = .ok (.iload_n 0, 1) := by decide +kernel
theorem d_jdk_33_method_22_28 : decode jdk_33_method_22_code 28 = .ok (.invokespecial 199, 3) := by decide +kernel
theorem wd_27 {Z : State} {a0 : Array Value} (hw : ∀ d ∈ tables_1, d.before a0 Z = true) : (Jvm.Cond.methodLink "java/lang/Integer" (199 : Nat) ({ cls := "java/lang/Integer", name := "<init>", desc := "(I)V" } : Jvm.MethodName)).before a0 Z = true := hw _ (List.mem_of_getElem? (i := 27) rfl)
theorem wd_30 {Z : State} {a0 : Array Value} (hw : ∀ d ∈ tables_1, d.before a0 Z = true) : (Jvm.Cond.code ({ cls := "java/lang/Integer", name := "<init>", desc := "(I)V" } : Jvm.MethodName) jdk_33_method_23_code (2 : Nat) (Option.none : Option Jvm.ClassFile.FieldType)).before a0 Z = true := hw _ (List.mem_of_getElem? (i := 30) rfl)
theorem pd_1 : parseMethodDescriptor "(I)V" = some ⟨[.int], none⟩ := by decide +kernel
theorem wd_28 {Z : State} {a0 : Array Value} (hw : ∀ d ∈ tables_1, d.before a0 Z = true) : (Jvm.Cond.instanceMethod ({ cls := "java/lang/Integer", name := "<init>", desc := "(I)V" } : Jvm.MethodName)).before a0 Z = true := hw _ (List.mem_of_getElem? (i := 28) rfl)
theorem d_jdk_33_method_22_31 : decode jdk_33_method_22_code 31 = .ok (.areturn, 1) := by decide +kernel
theorem d_jdk_33_method_22_6 : decode jdk_33_method_22_code 6 = .ok (.iload_n 0, 1) := by decide +kernel
theorem d_jdk_33_method_22_7 : decode jdk_33_method_22_code 7 = .ok (.getstatic 191, 3) := by decide +kernel
theorem wd_43 {Z : State} {a0 : Array Value} (hw : ∀ d ∈ tables_1, d.before a0 Z = true) : (Jvm.Cond.fieldLink "java/lang/Integer" (191 : Nat) "java/lang/Integer$IntegerCache" "high" "I").before a0 Z = true := hw _ (List.mem_of_getElem? (i := 43) rfl)
theorem d_jdk_33_method_22_10 : decode jdk_33_method_22_code 10 = .ok (.if_icmp .gt 13, 3) := by decide +kernel
theorem d_jdk_33_method_22_13 : decode jdk_33_method_22_code 13 = .ok (.getstatic 195, 3) := by decide +kernel
theorem wd_45 {Z : State} {a0 : Array Value} (hw : ∀ d ∈ tables_1, d.before a0 Z = true) : (Jvm.Cond.fieldLink "java/lang/Integer" (195 : Nat) "java/lang/Integer$IntegerCache" "cache" "[Ljava/lang/Integer;").before a0 Z = true := hw _ (List.mem_of_getElem? (i := 45) rfl)
theorem d_jdk_33_method_22_16 : decode jdk_33_method_22_code 16 = .ok (.iload_n 0, 1) := by decide +kernel
theorem d_jdk_33_method_22_17 : decode jdk_33_method_22_code 17 = .ok (.sipush 128, 3) := by decide +kernel
theorem d_jdk_33_method_22_20 : decode jdk_33_method_22_code 20 = .ok (.iadd, 1) := by decide +kernel
theorem d_jdk_33_method_22_21 : decode jdk_33_method_22_code 21 = .ok (.aaload, 1) := by decide +kernel
theorem d_jdk_33_method_22_22 : decode jdk_33_method_22_code 22 = .ok (.areturn, 1) := by decide +kernel
theorem wd_1 {Z : State} {a0 : Array Value} (hw : ∀ d ∈ tables_1, d.before a0 Z = true) : (Jvm.Cond.classLink "com/example/keen_router/keenrouter/forwarding/packet/Ipv4PrefixEqualsPinLaw" (8 : Nat) "com/example/keen_router/keenrouter/forwarding/packet/Ipv4Prefix").before a0 Z = true := hw _ (List.mem_of_getElem? (i := 1) rfl)
theorem wd_3 {Z : State} {a0 : Array Value} (hw : ∀ d ∈ tables_1, d.before a0 Z = true) : (Jvm.Cond.initialized "com/example/keen_router/keenrouter/forwarding/packet/Ipv4Prefix").before a0 Z = true := hw _ (List.mem_of_getElem? (i := 3) rfl)
theorem wd_4 {Z : State} {a0 : Array Value} (hw : ∀ d ∈ tables_1, d.before a0 Z = true) : (Jvm.Cond.methodLink "com/example/keen_router/keenrouter/forwarding/packet/Ipv4PrefixEqualsPinLaw" (10 : Nat) ({ cls := "com/example/keen_router/keenrouter/forwarding/packet/Ipv4Prefix", name := "<init>", desc := "(II)V" } : Jvm.MethodName)).before a0 Z = true := hw _ (List.mem_of_getElem? (i := 4) rfl)
theorem wd_6 {Z : State} {a0 : Array Value} (hw : ∀ d ∈ tables_1, d.before a0 Z = true) : (Jvm.Cond.code ({ cls := "com/example/keen_router/keenrouter/forwarding/packet/Ipv4Prefix", name := "<init>", desc := "(II)V" } : Jvm.MethodName) prog_30_method_1_code (3 : Nat) (Option.none : Option Jvm.ClassFile.FieldType)).before a0 Z = true := hw _ (List.mem_of_getElem? (i := 6) rfl)
theorem pd_2 : parseMethodDescriptor "(II)V" = some ⟨[.int, .int], none⟩ := by decide +kernel
theorem wd_5 {Z : State} {a0 : Array Value} (hw : ∀ d ∈ tables_1, d.before a0 Z = true) : (Jvm.Cond.instanceMethod ({ cls := "com/example/keen_router/keenrouter/forwarding/packet/Ipv4Prefix", name := "<init>", desc := "(II)V" } : Jvm.MethodName)).before a0 Z = true := hw _ (List.mem_of_getElem? (i := 5) rfl)
theorem wd_21 {Z : State} {a0 : Array Value} (hw : ∀ d ∈ tables_1, d.before a0 Z = true) : (Jvm.Cond.methodLink "com/example/keen_router/keenrouter/forwarding/packet/Ipv4PrefixEqualsPinLaw" (17 : Nat) ({ cls := "java/lang/Integer", name := "valueOf", desc := "(I)Ljava/lang/Integer;" } : Jvm.MethodName)).before a0 Z = true := hw _ (List.mem_of_getElem? (i := 21) rfl)
theorem wd_24 {Z : State} {a0 : Array Value} (hw : ∀ d ∈ tables_1, d.before a0 Z = true) : (Jvm.Cond.code ({ cls := "java/lang/Integer", name := "valueOf", desc := "(I)Ljava/lang/Integer;" } : Jvm.MethodName) jdk_33_method_22_code (1 : Nat) (Option.some (Jvm.ClassFile.FieldType.object "java/lang/Integer"))).before a0 Z = true := hw _ (List.mem_of_getElem? (i := 24) rfl)
theorem pd_3 : parseMethodDescriptor "(I)Ljava/lang/Integer;" = some ⟨[.int], some (.object "java/lang/Integer")⟩ := by decide +kernel
theorem wd_22 {Z : State} {a0 : Array Value} (hw : ∀ d ∈ tables_1, d.before a0 Z = true) : (Jvm.Cond.static ({ cls := "java/lang/Integer", name := "valueOf", desc := "(I)Ljava/lang/Integer;" } : Jvm.MethodName)).before a0 Z = true := hw _ (List.mem_of_getElem? (i := 22) rfl)
theorem wd_14 {Z : State} {a0 : Array Value} (hw : ∀ d ∈ tables_1, d.before a0 Z = true) : (Jvm.Cond.methodLink "com/example/keen_router/keenrouter/forwarding/packet/Ipv4PrefixEqualsPinLaw" (13 : Nat) ({ cls := "com/example/keen_router/keenrouter/forwarding/packet/Ipv4Prefix", name := "equals", desc := "(Ljava/lang/Object;)Z" } : Jvm.MethodName)).before a0 Z = true := hw _ (List.mem_of_getElem? (i := 14) rfl)
theorem wd_17 {Z : State} {a0 : Array Value} (hw : ∀ d ∈ tables_1, d.before a0 Z = true) : (Jvm.Cond.selects "com/example/keen_router/keenrouter/forwarding/packet/Ipv4Prefix" ({ cls := "com/example/keen_router/keenrouter/forwarding/packet/Ipv4Prefix", name := "equals", desc := "(Ljava/lang/Object;)Z" } : Jvm.MethodName) ({ cls := "com/example/keen_router/keenrouter/forwarding/packet/Ipv4Prefix", name := "equals", desc := "(Ljava/lang/Object;)Z" } : Jvm.MethodName)).before a0 Z = true := hw _ (List.mem_of_getElem? (i := 17) rfl)
theorem wd_18 {Z : State} {a0 : Array Value} (hw : ∀ d ∈ tables_1, d.before a0 Z = true) : (Jvm.Cond.code ({ cls := "com/example/keen_router/keenrouter/forwarding/packet/Ipv4Prefix", name := "equals", desc := "(Ljava/lang/Object;)Z" } : Jvm.MethodName) prog_30_method_10_code (3 : Nat) (Option.some Jvm.ClassFile.FieldType.boolean)).before a0 Z = true := hw _ (List.mem_of_getElem? (i := 18) rfl)
theorem pd_4 : parseMethodDescriptor "(Ljava/lang/Object;)Z" = some ⟨[(.object "java/lang/Object")], some .boolean⟩ := by decide +kernel
theorem wd_15 {Z : State} {a0 : Array Value} (hw : ∀ d ∈ tables_1, d.before a0 Z = true) : (Jvm.Cond.declares ({ cls := "com/example/keen_router/keenrouter/forwarding/packet/Ipv4Prefix", name := "equals", desc := "(Ljava/lang/Object;)Z" } : Jvm.MethodName)).before a0 Z = true := hw _ (List.mem_of_getElem? (i := 15) rfl)
theorem wd_16 {Z : State} {a0 : Array Value} (hw : ∀ d ∈ tables_1, d.before a0 Z = true) : (Jvm.Cond.instanceMethod ({ cls := "com/example/keen_router/keenrouter/forwarding/packet/Ipv4Prefix", name := "equals", desc := "(Ljava/lang/Object;)Z" } : Jvm.MethodName)).before a0 Z = true := hw _ (List.mem_of_getElem? (i := 16) rfl)
theorem wd_0 {Z : State} {a0 : Array Value} (hw : ∀ d ∈ tables_1, d.before a0 Z = true) : (Jvm.Cond.constant "com/example/keen_router/keenrouter/forwarding/packet/Ipv4PrefixEqualsPinLaw" (7 : Nat) (2147483647 : Int32)).before a0 Z = true := hw _ (List.mem_of_getElem? (i := 0) rfl)
theorem pn_3 : plainName "com/example/keen_router/keenrouter/forwarding/packet/Ipv4PrefixEqualsPinLaw" = true := by first | (simp [plainName, overriddenIn]; done) | decide +kernel
theorem wd_44 {Z : State} {a0 : Array Value} (hw : ∀ d ∈ tables_1, d.before a0 Z = true) : (Jvm.Cond.initialized "java/lang/Integer$IntegerCache").before a0 Z = true := hw _ (List.mem_of_getElem? (i := 44) rfl)
theorem own_notins {Z : State} {a0 : Array Value} (hw : ∀ d ∈ tables_1, d.before a0 Z = true) : ∃ c t, Z.vm.findClass "java/lang/Integer" = some c ∧ Z.vm.findClass "com/example/keen_router/keenrouter/forwarding/packet/Ipv4Prefix" = some t ∧ Z.vm.assignable c t = false := by
  obtain ⟨t, kt, t1, t2, t3, t4, -⟩ := Cond.instantiable_spec (wd_2 hw)
  have t5 : kt.isInterface = false := by cases hi : kt.isInterface <;> simp [hi] at t4 ⊢
  obtain ⟨o, ko, o1, o2, o3, o4, o5⟩ := Cond.noSuperclass_spec (wd_42 hw)
  obtain ⟨n, n0⟩ := found_sup (wd_41 hw)
  obtain ⟨o', kn, ko', n1, n2, n3, n4, n5, n6, n7⟩ := Cond.superclass_spec n0 (wd_41 hw)
  cases o1.symm.trans n1
  obtain ⟨i, i0⟩ := found_sup (wd_40 hw)
  obtain ⟨n', ki, kn', i1, i2, i3, i4, i5, i6, i7⟩ := Cond.superclass_spec i0 (wd_40 hw)
  cases n0.symm.trans i1
  have e1 := ids_ne i0 t1 (by decide)
  have e2 := ids_ne n0 t1 (by decide)
  have e3 := ids_ne o1 t1 (by decide)
  have q3 : ∀ fuel, Z.vm.isSubclassAux fuel o t = false := fun fuel => by
    cases fuel with
    | zero => rfl
    | succ f => simp [Vm.isSubclassAux, e3, o2, o3]
  have q2 : ∀ fuel, Z.vm.isSubclassAux fuel n t = false := fun fuel => by
    cases fuel with
    | zero => rfl
    | succ f => simp [Vm.isSubclassAux, e2, n2, n4, q3]
  have q1 : ∀ fuel, Z.vm.isSubclassAux fuel i t = false := fun fuel => by
    cases fuel with
    | zero => rfl
    | succ f => simp [Vm.isSubclassAux, e1, i2, i4, q2]
  refine ⟨i, t, i0, t1, ?_⟩
  show Z.vm.assignableAux (255 + 1) i t = false
  simp [Vm.assignableAux, e1, i2, t2, i5, t3, t5, Vm.isSubclass, q1]
set_option maxRecDepth 65536 in
set_option maxHeartbeats 40000000 in
theorem c_ctor (l : Launch) (Z : State) (a0 : Array Value) (hw : ∀ d ∈ tables_1, d.before a0 Z = true) (a : Addr) (x y : Int32) (h : Heap) (n0 : Nat) (hn : n0 ≤ h.size) (ga : n0 ≤ a) (E : Exa Z h a "com/example/keen_router/keenrouter/forwarding/packet/Ipv4Prefix") (F0 : Fld Z h a "com/example/keen_router/keenrouter/forwarding/packet/Ipv4Prefix" "address" "I" (.int (0 : Int32))) (F1 : Fld Z h a "com/example/keen_router/keenrouter/forwarding/packet/Ipv4Prefix" "length" "I" (.int (0 : Int32))) (h0 : ¬ y < 0) (h32 : ¬ (32 : Int32) < y) : Con l Z (⟨"com/example/keen_router/keenrouter/forwarding/packet/Ipv4Prefix", "<init>", "(II)V"⟩ : MethodName) prog_30_method_1_code 3 none ({ frames := 1, cells := 0, slots := 0, locals := 20 } : Room) #[(.ref a), (.int x), (.int y)] h n0 (fun r h' => r = none ∧ Exa Z h' a "com/example/keen_router/keenrouter/forwarding/packet/Ipv4Prefix" ∧ Fld Z h' a "com/example/keen_router/keenrouter/forwarding/packet/Ipv4Prefix" "address" "I" (.int x) ∧ Fld Z h' a "com/example/keen_router/keenrouter/forwarding/packet/Ipv4Prefix" "length" "I" (.int y) ∧ Keep h h' [a]) := by
  refine ConW.of_W (Ls := #[.val (.ref a), .val (.int x), .val (.int y)]) (plainFor_of_name pn_0) hn (fun m => by first | (simp [entryFrame, mkF, argsToLocals, Value.category]; done) | rfl) ?_
  refine W.aloadN 1 d_prog_30_method_1_0 rfl rfl rfl ?_
  refine W.initObj 4 d_prog_30_method_1_1 rfl (wd_7 hw) (wd_8 hw) (wd_9 hw) rfl (by decide) 0 (Nat.le_of_ble_eq_true rfl) (by decide) ?_
  refine W.iloadN 5 d_prog_30_method_1_4 rfl rfl ?_
  refine W.if_lt 14 8 d_prog_30_method_1_5 rfl rfl (fun hc => absurd hc h0) (fun _ => ?_)
  refine W.iloadN 9 d_prog_30_method_1_8 rfl rfl ?_
  refine W.bipush 11 d_prog_30_method_1_9 rfl (32 : Int32) rfl ?_
  refine W.icmp_le 28 14 d_prog_30_method_1_11 rfl rfl (fun _ => ?_) (fun hc => absurd hc h32)
  refine W.aloadN 29 d_prog_30_method_1_28 rfl rfl rfl ?_
  refine W.iloadN 30 d_prog_30_method_1_29 rfl rfl ?_
  refine W.putfield 33 d_prog_30_method_1_30 rfl (host := "") (Or.inl (wd_10 hw)) Via.refl F0 E (Or.inr ⟨(wd_11 hw), rfl, rfl⟩) (wd_2 hw) (ty := .int) (by decide) rfl rfl ga ?_
  intro h1001 W1001 F1001 E1001 K1001
  have kc1002 := Keep.trans (ws := [a]) (Keep.refl _ [a]) K1001 (allS (Or.inl (List.mem_of_getElem? (i := 0) rfl)) all0)
  refine W.aloadN 34 d_prog_30_method_1_33 rfl rfl rfl ?_
  refine W.iloadN 35 d_prog_30_method_1_34 rfl rfl ?_
  have q1003 := (F1.other W1001 (Or.inr (sne_0 hw)))
  refine W.putfield 38 d_prog_30_method_1_35 rfl (host := "") (Or.inl (wd_12 hw)) Via.refl q1003 E1001 (Or.inr ⟨(wd_13 hw), rfl, rfl⟩) (wd_2 hw) (ty := .int) (by decide) rfl rfl ga ?_
  intro h1004 W1004 F1004 E1004 K1004
  have kc1005 := Keep.trans (ws := [a]) kc1002 K1004 (allS (Or.inl (List.mem_of_getElem? (i := 0) rfl)) all0)
  have q1006 := (F1001.other W1004 (Or.inr (sne_1 hw)))
  exact W.return_ d_prog_30_method_1_38 rfl ⟨rfl, E1004, q1006, F1004, kc1005⟩ (by decide) (by decide)
def own_eq (x y x' y' : Int32) : Int32 := if x = x' ∧ y = y' then 1 else 0
theorem own_eq_def (x y x' y' : Int32) : own_eq x y x' y' = if x = x' ∧ y = y' then 1 else 0 := rfl
set_option maxRecDepth 65536 in
set_option maxHeartbeats 40000000 in
theorem c_eq (l : Launch) (Z : State) (a0 : Array Value) (hw : ∀ d ∈ tables_1, d.before a0 Z = true) (a b : Addr) (x y x' y' : Int32) (h : Heap) (n0 : Nat) (hn : n0 ≤ h.size) (F0 : Fld Z h a "com/example/keen_router/keenrouter/forwarding/packet/Ipv4Prefix" "address" "I" (.int x)) (F1 : Fld Z h a "com/example/keen_router/keenrouter/forwarding/packet/Ipv4Prefix" "length" "I" (.int y)) (E' : Exa Z h b "com/example/keen_router/keenrouter/forwarding/packet/Ipv4Prefix") (F0' : Fld Z h b "com/example/keen_router/keenrouter/forwarding/packet/Ipv4Prefix" "address" "I" (.int x')) (F1' : Fld Z h b "com/example/keen_router/keenrouter/forwarding/packet/Ipv4Prefix" "length" "I" (.int y')) : Con l Z (⟨"com/example/keen_router/keenrouter/forwarding/packet/Ipv4Prefix", "equals", "(Ljava/lang/Object;)Z"⟩ : MethodName) prog_30_method_10_code 3 (some .boolean) ({ frames := 0, cells := 0, slots := 0, locals := 0 } : Room) #[(.ref a), (.ref b)] h n0 (fun r h' => r = some (.int (own_eq x y x' y')) ∧ h' = h) := by
  refine ConW.of_W (Ls := #[.val (.ref a), .val (.ref b), .unset]) (plainFor_of_name pn_0) hn (fun m => by first | (simp [entryFrame, mkF, argsToLocals, Value.category]; done) | rfl) ?_
  refine W.aloadN 1 d_prog_30_method_10_0 rfl rfl rfl ?_
  refine W.instYes 4 d_prog_30_method_10_1 rfl (wd_19 hw) (Ins.self E') ?_
  refine W.if_eq 38 7 d_prog_30_method_10_4 rfl rfl (fun hc => absurd hc (by decide)) (fun _ => ?_)
  refine W.aloadN 8 d_prog_30_method_10_7 rfl rfl rfl ?_
  refine W.checkcast 11 d_prog_30_method_10_8 rfl (wd_19 hw) (Ins.self E') ?_
  refine W.astoreN 12 d_prog_30_method_10_11 rfl rfl #[.val (.ref a), .val (.ref b), .val (.ref b)] rfl ?_
  refine W.aloadN 13 d_prog_30_method_10_12 rfl rfl rfl ?_
  refine W.getfield 16 d_prog_30_method_10_13 rfl (host := "") (Or.inl (wd_10 hw)) Via.refl F0 ?_
  refine W.aloadN 17 d_prog_30_method_10_16 rfl rfl rfl ?_
  refine W.getfield 20 d_prog_30_method_10_17 rfl (host := "") (Or.inl (wd_10 hw)) Via.refl F0' ?_
  refine W.icmp_ne 38 23 d_prog_30_method_10_20 rfl rfl ?_ ?_
  · intro hc1007
    refine W.iconst 39 d_prog_30_method_10_38 rfl (0 : Int32) rfl ?_
    exact W.ireturnN (t := .boolean) d_prog_30_method_10_39 rfl (by simp) (0 : Int32) rfl ⟨by rw [own_eq_def]; simp [hc1007], rfl⟩ (by decide) (by decide)
  · intro hc1007
    refine W.aloadN 24 d_prog_30_method_10_23 rfl rfl rfl ?_
    refine W.getfield 27 d_prog_30_method_10_24 rfl (host := "") (Or.inl (wd_12 hw)) Via.refl F1 ?_
    refine W.aloadN 28 d_prog_30_method_10_27 rfl rfl rfl ?_
    refine W.getfield 31 d_prog_30_method_10_28 rfl (host := "") (Or.inl (wd_12 hw)) Via.refl F1' ?_
    refine W.icmp_ne 38 34 d_prog_30_method_10_31 rfl rfl ?_ ?_
    · intro hc1008
      refine W.iconst 39 d_prog_30_method_10_38 rfl (0 : Int32) rfl ?_
      exact W.ireturnN (t := .boolean) d_prog_30_method_10_39 rfl (by simp) (0 : Int32) rfl ⟨by rw [own_eq_def]; simp [hc1007, hc1008], rfl⟩ (by decide) (by decide)
    · intro hc1008
      refine W.iconst 35 d_prog_30_method_10_34 rfl (1 : Int32) rfl ?_
      refine W.goto 39 d_prog_30_method_10_35 rfl ?_
      exact W.ireturnN (t := .boolean) d_prog_30_method_10_39 rfl (by simp) (1 : Int32) rfl ⟨by rw [own_eq_def]; simp [hc1007, hc1008], rfl⟩ (by decide) (by decide)
set_option maxRecDepth 65536 in
set_option maxHeartbeats 40000000 in
theorem c_eqN (l : Launch) (Z : State) (a0 : Array Value) (hw : ∀ d ∈ tables_1, d.before a0 Z = true) (a : Addr) (h : Heap) (n0 : Nat) (hn : n0 ≤ h.size) : Con l Z (⟨"com/example/keen_router/keenrouter/forwarding/packet/Ipv4Prefix", "equals", "(Ljava/lang/Object;)Z"⟩ : MethodName) prog_30_method_10_code 3 (some .boolean) ({ frames := 0, cells := 0, slots := 0, locals := 0 } : Room) #[(.ref a), .null] h n0 (fun r h' => r = some (.int 0) ∧ h' = h) := by
  refine ConW.of_W (Ls := #[.val (.ref a), .val .null, .unset]) (plainFor_of_name pn_0) hn (fun m => by first | (simp [entryFrame, mkF, argsToLocals, Value.category]; done) | rfl) ?_
  refine W.aloadN 1 d_prog_30_method_10_0 rfl rfl rfl ?_
  refine W.instNull 4 d_prog_30_method_10_1 rfl ?_
  refine W.if_eq 38 7 d_prog_30_method_10_4 rfl rfl (fun _ => ?_) (fun hc => absurd (by decide) hc)
  refine W.iconst 39 d_prog_30_method_10_38 rfl (0 : Int32) rfl ?_
  exact W.ireturnN (t := .boolean) d_prog_30_method_10_39 rfl (by simp) (0 : Int32) rfl ⟨rfl, rfl⟩ (by decide) (by decide)
set_option maxRecDepth 65536 in
set_option maxHeartbeats 40000000 in
theorem c_eqI (l : Launch) (Z : State) (a0 : Array Value) (hw : ∀ d ∈ tables_1, d.before a0 Z = true) (a b : Addr) (h : Heap) (n0 : Nat) (hn : n0 ≤ h.size) (E : Exa Z h b "java/lang/Integer") : Con l Z (⟨"com/example/keen_router/keenrouter/forwarding/packet/Ipv4Prefix", "equals", "(Ljava/lang/Object;)Z"⟩ : MethodName) prog_30_method_10_code 3 (some .boolean) ({ frames := 0, cells := 0, slots := 0, locals := 0 } : Room) #[(.ref a), (.ref b)] h n0 (fun r h' => r = some (.int 0) ∧ h' = h) := by
  refine ConW.of_W (Ls := #[.val (.ref a), .val (.ref b), .unset]) (plainFor_of_name pn_0) hn (fun m => by first | (simp [entryFrame, mkF, argsToLocals, Value.category]; done) | rfl) ?_
  refine W.aloadN 1 d_prog_30_method_10_0 rfl rfl rfl ?_
  refine W.instNo 4 d_prog_30_method_10_1 rfl (wd_19 hw) E (own_notins hw) ?_
  refine W.if_eq 38 7 d_prog_30_method_10_4 rfl rfl (fun _ => ?_) (fun hc => absurd (by decide) hc)
  refine W.iconst 39 d_prog_30_method_10_38 rfl (0 : Int32) rfl ?_
  exact W.ireturnN (t := .boolean) d_prog_30_method_10_39 rfl (by simp) (0 : Int32) rfl ⟨rfl, rfl⟩ (by decide) (by decide)
set_option maxRecDepth 65536 in
set_option maxHeartbeats 40000000 in
theorem c_num (l : Launch) (Z : State) (a0 : Array Value) (hw : ∀ d ∈ tables_1, d.before a0 Z = true) (a : Addr) (h : Heap) (n0 : Nat) (hn : n0 ≤ h.size) : Con l Z (⟨"java/lang/Number", "<init>", "()V"⟩ : MethodName) jdk_18_method_1_code 1 none ({ frames := 1, cells := 0, slots := 0, locals := 20 } : Room) #[(.ref a)] h n0 (fun r h' => r = none ∧ h' = h) := by
  refine ConW.of_W (Ls := #[.val (.ref a)]) (plainFor_of_name pn_1) hn (fun m => by first | (simp [entryFrame, mkF, argsToLocals, Value.category]; done) | rfl) ?_
  refine W.aloadN 1 d_jdk_18_method_1_0 rfl rfl rfl ?_
  refine W.initObj 4 d_jdk_18_method_1_1 rfl (wd_37 hw) (wd_8 hw) (wd_9 hw) rfl (by decide) 0 (Nat.le_of_ble_eq_true rfl) (by decide) ?_
  exact W.return_ d_jdk_18_method_1_4 rfl ⟨rfl, rfl⟩ (by decide) (by decide)
set_option maxRecDepth 65536 in
set_option maxHeartbeats 40000000 in
theorem c_ic (l : Launch) (Z : State) (a0 : Array Value) (hw : ∀ d ∈ tables_1, d.before a0 Z = true) (a : Addr) (x : Int32) (h : Heap) (n0 : Nat) (hn : n0 ≤ h.size) (ga : n0 ≤ a) (E : Exa Z h a "java/lang/Integer") (F0 : Fld Z h a "java/lang/Integer" "value" "I" (.int (0 : Int32))) : Con l Z (⟨"java/lang/Integer", "<init>", "(I)V"⟩ : MethodName) jdk_33_method_23_code 2 none ({ frames := 2, cells := 0, slots := 0, locals := 50 } : Room) #[(.ref a), (.int x)] h n0 (fun r h' => r = none ∧ Exa Z h' a "java/lang/Integer" ∧ Keep h h' [a]) := by
  refine ConW.of_W (Ls := #[.val (.ref a), .val (.int x)]) (plainFor_of_name pn_2) hn (fun m => by first | (simp [entryFrame, mkF, argsToLocals, Value.category]; done) | rfl) ?_
  refine W.aloadN 1 d_jdk_33_method_23_0 rfl rfl rfl ?_
  refine W.callInit (rest := []) (argsL := []) (a := a) 4 d_jdk_33_method_23_1 rfl (fun hn => c_num l Z a0 hw a _ n0 hn) rfl (wd_31 hw) (wd_32 hw) (wd_35 hw) (wd_36 hw) (by decide) pd_0 rfl rfl rfl (by decide) 0 (Nat.le_of_ble_eq_true rfl) (by decide) (by decide) (by decide) ?_
  rintro v1009 h1009 ⟨rfl, rfl⟩
  show W _ _ _ _ _ _ _ _ _ _ _ 0 0 4 #[.val (.ref a), .val (.int x)] []
  refine W.aloadN 5 d_jdk_33_method_23_4 rfl rfl rfl ?_
  refine W.iloadN 6 d_jdk_33_method_23_5 rfl rfl ?_
  refine W.putfield 9 d_jdk_33_method_23_6 rfl (host := "") (Or.inl (wd_38 hw)) Via.refl F0 E (Or.inr ⟨(wd_39 hw), rfl, rfl⟩) (wd_26 hw) (ty := .int) (by decide) rfl rfl ga ?_
  intro h1010 W1010 F1010 E1010 K1010
  have kc1011 := Keep.trans (ws := [a]) (Keep.refl _ [a]) K1010 (allS (Or.inl (List.mem_of_getElem? (i := 0) rfl)) all0)
  exact W.return_ d_jdk_33_method_23_9 rfl ⟨rfl, E1010, kc1011⟩ (by decide) (by decide)
/-- the cache of small Integers, as it stands -/
def own_IC (Z : State) (h : Heap) : Prop := ∃ cb vs, Sta Z h "java/lang/Integer$IntegerCache" "high" "I" (.int (127 : Int32)) ∧ Sta Z h "java/lang/Integer$IntegerCache" "cache" "[Ljava/lang/Integer;" (.ref cb) ∧ Ary Z h cb (.object "java/lang/Integer") vs ∧ vs.length = 256 ∧ ∀ (i : Nat) (v : Value), vs[i]? = some v → ∃ y, v = .ref y ∧ Exa Z h y "java/lang/Integer"
theorem own_sta {Z : State} {h h' : Heap} {C n d : String} {v : Value} (K : Keep h h' []) (F : Sta Z h C n d v) : Sta Z h' C n d v := by
  obtain ⟨cf, i, k, f, st, cell, h1, h2, h3, h4, h5, r⟩ := F; exact ⟨cf, i, k, f, st, cell, h1, h2, h3, h4, K.2.1 _ _ h5 nin0, r⟩
theorem own_IC.keep {Z : State} {h h' : Heap} (F : own_IC Z h) (K : Keep h h' []) : own_IC Z h' := by
  obtain ⟨cb, vs, h1, h2, h3, h4, h5⟩ := F
  exact ⟨cb, vs, own_sta K h1, own_sta K h2, h3.keep K nin0, h4, fun i v q => by obtain ⟨y, e, E⟩ := h5 i v q; exact ⟨y, e, E.keep K⟩⟩
theorem own_ix (x : Int32) (h1 : ¬ x < -128) (h2 : ¬ (127 : Int32) < x) : ¬ (x + 128) < 0 ∧ (x + 128).toNatClampNeg < 256 := by
  have a := c_iadd x 128; have r := rng32 (x + 128); have e1 : (128 : Int32).toInt = 128 := rfl; have e2 : (-128 : Int32).toInt = -128 := rfl; have e3 : (127 : Int32).toInt = 127 := rfl; have e4 : (0 : Int32).toInt = 0 := rfl
  rw [Int32.lt_iff_toInt_lt] at h1 h2 ⊢
  simp only [Int32.toNatClampNeg]
  omega
theorem own_len {args : Array Value} {s : State} {t : Term} {a : Addr} {cell : Cell} {z : Int32} (ht : t.eval args s none [] s = some (.ref a)) (ha : s.arrayAt? a = some cell) (L : (Term.length t).eval args s none [] s = some (.int z)) : cell.slots.size < 2 ^ 31 ∧ cell.slots.size.toInt32 = z := by
  by_cases hq : cell.slots.size < 2 ^ 31
  · rw [len_f ht ha hq] at L; exact ⟨hq, by simpa using L⟩
  · simp [Term.eval, ht, ha, hq] at L
theorem sub_at {args : Array Value} {first s : State} {o : Option Outcome} {idx : List Nat} {a b : Term} {x y : Int32} (ha : a.eval args first o idx s = some (.int x)) (hb : b.eval args first o idx s = some (.int y)) : (Term.sub a b).eval args first o idx s = some (.int (x - y)) := by simp [Term.eval, ha, hb]
set_option maxRecDepth 65536 in
set_option maxHeartbeats 40000000 in
theorem c_vo (l : Launch) (Z : State) (a0 : Array Value) (hw : ∀ d ∈ tables_1, d.before a0 Z = true) (x : Int32) (h : Heap) (n0 : Nat) (hn : n0 ≤ h.size) (hic : own_IC Z h) : Con l Z (⟨"java/lang/Integer", "valueOf", "(I)Ljava/lang/Integer;"⟩ : MethodName) jdk_33_method_22_code 1 (some (.object "java/lang/Integer")) ({ frames := 3, cells := 1, slots := 1, locals := 90 } : Room) #[(.int x)] h n0 (fun r h' => ∃ b, r = some (.ref b) ∧ Exa Z h' b "java/lang/Integer" ∧ Keep h h' []) := by
  refine ConW.of_W (Ls := #[.val (.int x)]) (plainFor_of_name pn_2) hn (fun m => by first | (simp [entryFrame, mkF, argsToLocals, Value.category]; done) | rfl) ?_
  obtain ⟨cb, vs, S1, S2, A, hvs, hel⟩ := hic
  refine W.iloadN 1 d_jdk_33_method_22_0 rfl rfl ?_
  refine W.bipush 3 d_jdk_33_method_22_1 rfl (-128 : Int32) rfl ?_
  refine W.icmp_lt 23 6 d_jdk_33_method_22_3 rfl rfl ?_ ?_
  · intro hc1012
    refine W.new 26 d_jdk_33_method_22_23 rfl (wd_25 hw) (wd_26 hw) (wd_23 hw) (by decide) (by decide) ?_
    intro h1013 o1013 g1013 ge1013 X1013 K1013 E1013 D1013
    have ne1014 : cb ≠ o1013 := Nat.ne_of_lt (Nat.lt_of_lt_of_eq A.lt g1013.symm)
    have sz1015 := Nat.le_trans (Keep.refl _ []).1 (Nat.le_of_eq g1013.symm)
    have kc1016 := Keep.trans (ws := []) (Keep.refl _ []) K1013 all0
    have f1017 : Fld _ _ o1013 "java/lang/Integer" "value" "I" (.int (0 : Int32)) := D1013 (Or.inr (wd_39 hw)) (ty := .int) (by decide)
    show W _ _ _ _ _ _ _ _ _ _ _ 1 1 26 #[.val (.int x)] [(.ref o1013)]
    refine W.dup 27 d_jdk_33_method_22_26 rfl rfl ?_
    refine W.iloadN 28 d_jdk_33_method_22_27 rfl rfl ?_
    refine W.callInit (rest := [(.ref o1013)]) (argsL := [(.int x)]) (a := o1013) 31 d_jdk_33_method_22_28 rfl (fun hn => c_ic l Z a0 hw o1013 x _ n0 hn ge1013 E1013 f1017) rfl (wd_27 hw) (wd_28 hw) (wd_23 hw) (wd_30 hw) (by decide) pd_1 rfl rfl rfl (by decide) 1 (Nat.le_of_ble_eq_true rfl) (by decide) (by decide) (by decide) ?_
    rintro v1018 h1018 ⟨rfl, E1018, K1018⟩
    have kc1019 := Keep.trans (ws := []) kc1016 K1018 (allS (Or.inr sz1015) all0)
    show W _ _ _ _ _ _ _ _ _ _ _ 1 1 31 #[.val (.int x)] [(.ref o1013)]
    exact W.areturn d_jdk_33_method_22_31 rfl rfl rfl rfl ⟨_, rfl, E1018, kc1019⟩ (by decide) (by decide)
  · intro hc1012
    refine W.iloadN 7 d_jdk_33_method_22_6 rfl rfl ?_
    refine W.getstatic 10 d_jdk_33_method_22_7 rfl (host := "") (Or.inl (wd_43 hw)) Via.refl S1 ?_
    refine W.icmp_gt 23 13 d_jdk_33_method_22_10 rfl rfl ?_ ?_
    · intro hc1020
      refine W.new 26 d_jdk_33_method_22_23 rfl (wd_25 hw) (wd_26 hw) (wd_23 hw) (by decide) (by decide) ?_
      intro h1021 o1021 g1021 ge1021 X1021 K1021 E1021 D1021
      have ne1022 : cb ≠ o1021 := Nat.ne_of_lt (Nat.lt_of_lt_of_eq A.lt g1021.symm)
      have sz1023 := Nat.le_trans (Keep.refl _ []).1 (Nat.le_of_eq g1021.symm)
      have kc1024 := Keep.trans (ws := []) (Keep.refl _ []) K1021 all0
      have f1025 : Fld _ _ o1021 "java/lang/Integer" "value" "I" (.int (0 : Int32)) := D1021 (Or.inr (wd_39 hw)) (ty := .int) (by decide)
      show W _ _ _ _ _ _ _ _ _ _ _ 1 1 26 #[.val (.int x)] [(.ref o1021)]
      refine W.dup 27 d_jdk_33_method_22_26 rfl rfl ?_
      refine W.iloadN 28 d_jdk_33_method_22_27 rfl rfl ?_
      refine W.callInit (rest := [(.ref o1021)]) (argsL := [(.int x)]) (a := o1021) 31 d_jdk_33_method_22_28 rfl (fun hn => c_ic l Z a0 hw o1021 x _ n0 hn ge1021 E1021 f1025) rfl (wd_27 hw) (wd_28 hw) (wd_23 hw) (wd_30 hw) (by decide) pd_1 rfl rfl rfl (by decide) 1 (Nat.le_of_ble_eq_true rfl) (by decide) (by decide) (by decide) ?_
      rintro v1026 h1026 ⟨rfl, E1026, K1026⟩
      have kc1027 := Keep.trans (ws := []) kc1024 K1026 (allS (Or.inr sz1023) all0)
      show W _ _ _ _ _ _ _ _ _ _ _ 1 1 31 #[.val (.int x)] [(.ref o1021)]
      exact W.areturn d_jdk_33_method_22_31 rfl rfl rfl rfl ⟨_, rfl, E1026, kc1027⟩ (by decide) (by decide)
    · intro hc1020
      refine W.getstatic 16 d_jdk_33_method_22_13 rfl (host := "") (Or.inl (wd_45 hw)) Via.refl S2 ?_
      refine W.iloadN 17 d_jdk_33_method_22_16 rfl rfl ?_
      refine W.sipush 20 d_jdk_33_method_22_17 rfl (128 : Int32) rfl ?_
      refine W.iadd 21 d_jdk_33_method_22_20 rfl (x + (128 : Int32)) rfl ?_
      have hix := own_ix x hc1012 hc1020
      obtain ⟨ev, hev⟩ : ∃ v, vs[(x + (128 : Int32)).toNatClampNeg]? = some v := ⟨_, List.getElem?_eq_getElem (by rw [hvs]; exact hix.2)⟩
      obtain ⟨y, rfl, Ey⟩ := hel _ _ hev
      refine W.aaload 22 d_jdk_33_method_22_21 rfl A rfl (x + (128 : Int32)).toNatClampNeg rfl hix.1 (.ref y) hev ?_
      exact W.areturn d_jdk_33_method_22_22 rfl rfl rfl rfl ⟨_, rfl, Ey, (Keep.refl _ [])⟩ (by decide) (by decide)
set_option maxRecDepth 65536 in
set_option maxHeartbeats 40000000 in
theorem l_65 (l : Launch) (Z : State) (a0 : Array Value) (hw : ∀ d ∈ tables_1, d.before a0 Z = true) (p0 p1 p2 p3 p4 y1 y2 mm x2 : Int32) (h : Heap) (n0 : Nat) (hic : own_IC Z h) (hy1a : ¬ y1 < 0) (hy1b : ¬ (32 : Int32) < y1) (hy2a : ¬ y2 < 0) (hy2b : ¬ (32 : Int32) < y2) : W l room_1 Z "com/example/keen_router/keenrouter/forwarding/packet/Ipv4PrefixEqualsPinLaw" "law" code maxLocals ret n0 (fun r _ => r = some (.int 1)) h 0 0 65 #[.val (.int p0), .val (.int p1), .val (.int p2), .val (.int p3), .val (.int p4), .val (.int y1), .val (.int y2), .val (.int mm), .val (.int x2), .unset, .unset, .unset, .unset] [] := by
  refine W.new 68 at_65 rfl (wd_1 hw) (wd_2 hw) (wd_3 hw) (by decide) (by decide) ?_
  intro h1028 o1028 g1028 ge1028 X1028 K1028 E1028 D1028
  have sz1029 := Nat.le_trans (Keep.refl _ []).1 (Nat.le_of_eq g1028.symm)
  have kc1030 := Keep.trans (ws := []) (Keep.refl _ []) K1028 all0
  have f1031 : Fld _ _ o1028 "com/example/keen_router/keenrouter/forwarding/packet/Ipv4Prefix" "address" "I" (.int (0 : Int32)) := D1028 (Or.inr (wd_11 hw)) (ty := .int) (by decide)
  have f1032 : Fld _ _ o1028 "com/example/keen_router/keenrouter/forwarding/packet/Ipv4Prefix" "length" "I" (.int (0 : Int32)) := D1028 (Or.inr (wd_13 hw)) (ty := .int) (by decide)
  show W _ _ _ _ _ _ _ _ _ _ _ 1 2 68 #[.val (.int p0), .val (.int p1), .val (.int p2), .val (.int p3), .val (.int p4), .val (.int y1), .val (.int y2), .val (.int mm), .val (.int x2), .unset, .unset, .unset, .unset] [(.ref o1028)]
  refine W.dup 69 at_68 rfl rfl ?_
  refine W.iloadN 70 at_69 rfl rfl ?_
  refine W.iload 72 at_70 rfl rfl ?_
  refine W.callInit (rest := [(.ref o1028)]) (argsL := [(.int p0), (.int y1)]) (a := o1028) 75 at_72 rfl (fun hn => c_ctor l Z a0 hw o1028 p0 y1 _ n0 hn ge1028 E1028 f1031 f1032 hy1a hy1b) rfl (wd_4 hw) (wd_5 hw) (wd_3 hw) (wd_6 hw) (by decide) pd_2 rfl rfl rfl (by decide) 1 (Nat.le_of_ble_eq_true rfl) (by decide) (by decide) (by decide) ?_
  rintro v1033 h1033 ⟨rfl, E1033, F1033, G1033, K1033⟩
  have kc1034 := Keep.trans (ws := []) kc1030 K1033 (allS (Or.inr sz1029) all0)
  show W _ _ _ _ _ _ _ _ _ _ _ 1 2 75 #[.val (.int p0), .val (.int p1), .val (.int p2), .val (.int p3), .val (.int p4), .val (.int y1), .val (.int y2), .val (.int mm), .val (.int x2), .unset, .unset, .unset, .unset] [(.ref o1028)]
  refine W.astore 77 at_75 rfl rfl #[.val (.int p0), .val (.int p1), .val (.int p2), .val (.int p3), .val (.int p4), .val (.int y1), .val (.int y2), .val (.int mm), .val (.int x2), .val (.ref o1028), .unset, .unset, .unset] rfl ?_
  refine W.iload 79 at_77 rfl rfl ?_
  refine W.iconst 80 at_79 rfl (3 : Int32) rfl ?_
  refine W.iushr 81 at_80 rfl ((p4.toUInt32 >>> ((3 : Int32) &&& 31).toUInt32).toInt32) rfl ?_
  refine W.iconst 82 at_81 rfl (3 : Int32) rfl ?_
  refine W.iand 83 at_82 rfl (((p4.toUInt32 >>> ((3 : Int32) &&& 31).toUInt32).toInt32) &&& (3 : Int32)) rfl ?_
  refine W.istore 85 at_83 rfl #[.val (.int p0), .val (.int p1), .val (.int p2), .val (.int p3), .val (.int p4), .val (.int y1), .val (.int y2), .val (.int mm), .val (.int x2), .val (.ref o1028), .val (.int (((p4.toUInt32 >>> ((3 : Int32) &&& 31).toUInt32).toInt32) &&& (3 : Int32))), .unset, .unset] rfl ?_
  refine W.iload 87 at_85 rfl rfl ?_
  refine W.if_ne 153 90 at_87 rfl rfl ?_ ?_
  · intro hc1035
    refine W.iload 155 at_153 rfl rfl ?_
    refine W.iconst 156 at_155 rfl (1 : Int32) rfl ?_
    refine W.icmp_ne 167 159 at_156 rfl rfl ?_ ?_
    · intro hc1036
      refine W.iload 169 at_167 rfl rfl ?_
      refine W.iconst 170 at_169 rfl (2 : Int32) rfl ?_
      refine W.icmp_ne 188 173 at_170 rfl rfl ?_ ?_
      · intro hc1037
        refine W.iloadN 189 at_188 rfl rfl ?_
        refine W.callS (rest := []) (argsL := [(.int p0)]) 192 at_189 rfl (fun hn => c_vo l Z a0 hw p0 _ n0 hn (hic.keep kc1034)) (wd_21 hw) (wd_22 hw) (wd_23 hw) (wd_24 hw) (by decide) pd_3 rfl rfl rfl (by decide) 0 (Nat.le_of_ble_eq_true rfl) (by decide) (by decide) (by decide) ?_
        rintro v1038 h1038 ⟨b1038, rfl, E1038, K1038⟩
        have kc1039 := Keep.trans (ws := []) kc1034 K1038 all0
        show W _ _ _ _ _ _ _ _ _ _ _ 2 3 192 #[.val (.int p0), .val (.int p1), .val (.int p2), .val (.int p3), .val (.int p4), .val (.int y1), .val (.int y2), .val (.int mm), .val (.int x2), .val (.ref o1028), .val (.int (((p4.toUInt32 >>> ((3 : Int32) &&& 31).toUInt32).toInt32) &&& (3 : Int32))), .unset, .unset] [(.ref b1038)]
        refine W.astore 194 at_192 rfl rfl #[.val (.int p0), .val (.int p1), .val (.int p2), .val (.int p3), .val (.int p4), .val (.int y1), .val (.int y2), .val (.int mm), .val (.int x2), .val (.ref o1028), .val (.int (((p4.toUInt32 >>> ((3 : Int32) &&& 31).toUInt32).toInt32) &&& (3 : Int32))), .val (.ref b1038), .unset] rfl ?_
        refine W.aload 196 at_194 rfl rfl rfl ?_
        refine W.aload 198 at_196 rfl rfl rfl ?_
        have q1041 := (E1033.keep K1038)
        refine W.callV (rest := []) (argsL := [(.ref b1038)]) (a := o1028) 201 at_198 rfl (fun hn => c_eqI l Z a0 hw o1028 b1038 _ n0 hn E1038) q1041 (wd_14 hw) (wd_15 hw) (wd_17 hw) rfl (wd_16 hw) (wd_3 hw) (wd_18 hw) (by decide) pd_4 rfl rfl rfl (by decide) 0 (Nat.le_of_ble_eq_true rfl) (by decide) (by decide) (by decide) ?_
        rintro v1040 h1040 ⟨rfl, rfl⟩
        show W _ _ _ _ _ _ _ _ _ _ _ 2 3 201 #[.val (.int p0), .val (.int p1), .val (.int p2), .val (.int p3), .val (.int p4), .val (.int y1), .val (.int y2), .val (.int mm), .val (.int x2), .val (.ref o1028), .val (.int (((p4.toUInt32 >>> ((3 : Int32) &&& 31).toUInt32).toInt32) &&& (3 : Int32))), .val (.ref b1038), .unset] [(.int (0 : Int32))]
        refine W.if_ne 208 204 at_201 rfl rfl (fun hc => absurd (by decide) hc) (fun _ => ?_)
        refine W.iconst 205 at_204 rfl (1 : Int32) rfl ?_
        refine W.goto 209 at_205 rfl ?_
        exact W.ireturnN (t := .boolean) at_209 rfl (by simp) (1 : Int32) rfl rfl (by decide) (by decide)
      · intro hc1037
        refine W.aload 175 at_173 rfl rfl rfl ?_
        refine W.aconst_null 176 at_175 rfl ?_
        refine W.callV (rest := []) (argsL := [.null]) (a := o1028) 179 at_176 rfl (fun hn => c_eqN l Z a0 hw o1028 _ n0 hn) E1033 (wd_14 hw) (wd_15 hw) (wd_17 hw) rfl (wd_16 hw) (wd_3 hw) (wd_18 hw) (by decide) pd_4 rfl rfl rfl (by decide) 0 (Nat.le_of_ble_eq_true rfl) (by decide) (by decide) (by decide) ?_
        rintro v1042 h1042 ⟨rfl, rfl⟩
        show W _ _ _ _ _ _ _ _ _ _ _ 1 2 179 #[.val (.int p0), .val (.int p1), .val (.int p2), .val (.int p3), .val (.int p4), .val (.int y1), .val (.int y2), .val (.int mm), .val (.int x2), .val (.ref o1028), .val (.int (((p4.toUInt32 >>> ((3 : Int32) &&& 31).toUInt32).toInt32) &&& (3 : Int32))), .unset, .unset] [(.int (0 : Int32))]
        refine W.if_ne 186 182 at_179 rfl rfl (fun hc => absurd (by decide) hc) (fun _ => ?_)
        refine W.iconst 183 at_182 rfl (1 : Int32) rfl ?_
        refine W.goto 187 at_183 rfl ?_
        exact W.ireturnN (t := .boolean) at_187 rfl (by simp) (1 : Int32) rfl rfl (by decide) (by decide)
    · intro hc1036
      refine W.aload 161 at_159 rfl rfl rfl ?_
      refine W.aload 163 at_161 rfl rfl rfl ?_
      refine W.callV (rest := []) (argsL := [(.ref o1028)]) (a := o1028) 166 at_163 rfl (fun hn => (c_eq l Z a0 hw o1028 o1028 p0 y1 p0 y1 _ n0 hn F1033 G1033 E1033 F1033 G1033).post (P := fun r h' => r = some (.int (1 : Int32)) ∧ h' = _) (fun v h' q => ⟨q.1.trans (by rw [own_eq_def, if_pos ⟨rfl, rfl⟩]), q.2⟩)) E1033 (wd_14 hw) (wd_15 hw) (wd_17 hw) rfl (wd_16 hw) (wd_3 hw) (wd_18 hw) (by decide) pd_4 rfl rfl rfl (by decide) 0 (Nat.le_of_ble_eq_true rfl) (by decide) (by decide) (by decide) ?_
      rintro v1043 h1043 ⟨rfl, rfl⟩
      show W _ _ _ _ _ _ _ _ _ _ _ 1 2 166 #[.val (.int p0), .val (.int p1), .val (.int p2), .val (.int p3), .val (.int p4), .val (.int y1), .val (.int y2), .val (.int mm), .val (.int x2), .val (.ref o1028), .val (.int (((p4.toUInt32 >>> ((3 : Int32) &&& 31).toUInt32).toInt32) &&& (3 : Int32))), .unset, .unset] [(.int (1 : Int32))]
      exact W.ireturnN (t := .boolean) at_166 rfl (by simp) (1 : Int32) rfl rfl (by decide) (by decide)
  · intro hc1035
    refine W.new 93 at_90 rfl (wd_1 hw) (wd_2 hw) (wd_3 hw) (by decide) (by decide) ?_
    intro h1044 o1044 g1044 ge1044 X1044 K1044 E1044 D1044
    have ne1045 : o1028 ≠ o1044 := Nat.ne_of_lt (Nat.lt_of_lt_of_eq E1033.lt g1044.symm)
    have sz1046 := Nat.le_trans kc1034.1 (Nat.le_of_eq g1044.symm)
    have kc1047 := Keep.trans (ws := []) kc1034 K1044 all0
    have f1048 : Fld _ _ o1044 "com/example/keen_router/keenrouter/forwarding/packet/Ipv4Prefix" "address" "I" (.int (0 : Int32)) := D1044 (Or.inr (wd_11 hw)) (ty := .int) (by decide)
    have f1049 : Fld _ _ o1044 "com/example/keen_router/keenrouter/forwarding/packet/Ipv4Prefix" "length" "I" (.int (0 : Int32)) := D1044 (Or.inr (wd_13 hw)) (ty := .int) (by decide)
    show W _ _ _ _ _ _ _ _ _ _ _ 2 4 93 #[.val (.int p0), .val (.int p1), .val (.int p2), .val (.int p3), .val (.int p4), .val (.int y1), .val (.int y2), .val (.int mm), .val (.int x2), .val (.ref o1028), .val (.int (((p4.toUInt32 >>> ((3 : Int32) &&& 31).toUInt32).toInt32) &&& (3 : Int32))), .unset, .unset] [(.ref o1044)]
    refine W.dup 94 at_93 rfl rfl ?_
    refine W.iload 96 at_94 rfl rfl ?_
    refine W.iload 98 at_96 rfl rfl ?_
    refine W.callInit (rest := [(.ref o1044)]) (argsL := [(.int x2), (.int y2)]) (a := o1044) 101 at_98 rfl (fun hn => c_ctor l Z a0 hw o1044 x2 y2 _ n0 hn ge1044 E1044 f1048 f1049 hy2a hy2b) rfl (wd_4 hw) (wd_5 hw) (wd_3 hw) (wd_6 hw) (by decide) pd_2 rfl rfl rfl (by decide) 1 (Nat.le_of_ble_eq_true rfl) (by decide) (by decide) (by decide) ?_
    rintro v1050 h1050 ⟨rfl, E1050, F1050, G1050, K1050⟩
    have kc1051 := Keep.trans (ws := []) kc1047 K1050 (allS (Or.inr sz1046) all0)
    show W _ _ _ _ _ _ _ _ _ _ _ 2 4 101 #[.val (.int p0), .val (.int p1), .val (.int p2), .val (.int p3), .val (.int p4), .val (.int y1), .val (.int y2), .val (.int mm), .val (.int x2), .val (.ref o1028), .val (.int (((p4.toUInt32 >>> ((3 : Int32) &&& 31).toUInt32).toInt32) &&& (3 : Int32))), .unset, .unset] [(.ref o1044)]
    refine W.astore 103 at_101 rfl rfl #[.val (.int p0), .val (.int p1), .val (.int p2), .val (.int p3), .val (.int p4), .val (.int y1), .val (.int y2), .val (.int mm), .val (.int x2), .val (.ref o1028), .val (.int (((p4.toUInt32 >>> ((3 : Int32) &&& 31).toUInt32).toInt32) &&& (3 : Int32))), .val (.ref o1044), .unset] rfl ?_
    refine W.iloadN 104 at_103 rfl rfl ?_
    refine W.iload 106 at_104 rfl rfl ?_
    refine W.icmp_ne 120 109 at_106 rfl rfl ?_ ?_
    · intro hc1052
      refine W.iconst 121 at_120 rfl (0 : Int32) rfl ?_
      refine W.istore 123 at_121 rfl #[.val (.int p0), .val (.int p1), .val (.int p2), .val (.int p3), .val (.int p4), .val (.int y1), .val (.int y2), .val (.int mm), .val (.int x2), .val (.ref o1028), .val (.int (((p4.toUInt32 >>> ((3 : Int32) &&& 31).toUInt32).toInt32) &&& (3 : Int32))), .val (.ref o1044), .val (.int (0 : Int32))] rfl ?_
      refine W.aload 125 at_123 rfl rfl rfl ?_
      refine W.aload 127 at_125 rfl rfl rfl ?_
      have q1053 := ((F1033.keep K1044 nin0).keep K1050 (ninS ne1045 nin0))
      have q1054 := ((G1033.keep K1044 nin0).keep K1050 (ninS ne1045 nin0))
      have q1056 := ((E1033.keep K1044).keep K1050)
      refine W.callV (rest := []) (argsL := [(.ref o1044)]) (a := o1028) 130 at_127 rfl (fun hn => (c_eq l Z a0 hw o1028 o1044 p0 y1 x2 y2 _ n0 hn q1053 q1054 E1050 F1050 G1050).post (P := fun r h' => r = some (.int (0 : Int32)) ∧ h' = _) (fun v h' q => ⟨q.1.trans (by rw [own_eq_def, if_neg (fun q => hc1052 q.1)]), q.2⟩)) q1056 (wd_14 hw) (wd_15 hw) (wd_17 hw) rfl (wd_16 hw) (wd_3 hw) (wd_18 hw) (by decide) pd_4 rfl rfl rfl (by decide) 0 (Nat.le_of_ble_eq_true rfl) (by decide) (by decide) (by decide) ?_
      rintro v1055 h1055 ⟨rfl, rfl⟩
      show W _ _ _ _ _ _ _ _ _ _ _ 2 4 130 #[.val (.int p0), .val (.int p1), .val (.int p2), .val (.int p3), .val (.int p4), .val (.int y1), .val (.int y2), .val (.int mm), .val (.int x2), .val (.ref o1028), .val (.int (((p4.toUInt32 >>> ((3 : Int32) &&& 31).toUInt32).toInt32) &&& (3 : Int32))), .val (.ref o1044), .val (.int (0 : Int32))] [(.int (0 : Int32))]
      refine W.iload 132 at_130 rfl rfl ?_
      refine W.icmp_ne 151 135 at_132 rfl rfl (fun hc => absurd (by decide) hc) (fun _ => ?_)
      refine W.aload 137 at_135 rfl rfl rfl ?_
      refine W.aload 139 at_137 rfl rfl rfl ?_
      refine W.callV (rest := []) (argsL := [(.ref o1028)]) (a := o1044) 142 at_139 rfl (fun hn => (c_eq l Z a0 hw o1044 o1028 x2 y2 p0 y1 _ n0 hn F1050 G1050 q1056 q1053 q1054).post (P := fun r h' => r = some (.int (0 : Int32)) ∧ h' = _) (fun v h' q => ⟨q.1.trans (by rw [own_eq_def, if_neg (fun q => (fun z => hc1052 z.symm) q.1)]), q.2⟩)) E1050 (wd_14 hw) (wd_15 hw) (wd_17 hw) rfl (wd_16 hw) (wd_3 hw) (wd_18 hw) (by decide) pd_4 rfl rfl rfl (by decide) 0 (Nat.le_of_ble_eq_true rfl) (by decide) (by decide) (by decide) ?_
      rintro v1057 h1057 ⟨rfl, rfl⟩
      show W _ _ _ _ _ _ _ _ _ _ _ 2 4 142 #[.val (.int p0), .val (.int p1), .val (.int p2), .val (.int p3), .val (.int p4), .val (.int y1), .val (.int y2), .val (.int mm), .val (.int x2), .val (.ref o1028), .val (.int (((p4.toUInt32 >>> ((3 : Int32) &&& 31).toUInt32).toInt32) &&& (3 : Int32))), .val (.ref o1044), .val (.int (0 : Int32))] [(.int (0 : Int32))]
      refine W.iload 144 at_142 rfl rfl ?_
      refine W.icmp_ne 151 147 at_144 rfl rfl (fun hc => absurd (by decide) hc) (fun _ => ?_)
      refine W.iconst 148 at_147 rfl (1 : Int32) rfl ?_
      refine W.goto 152 at_148 rfl ?_
      exact W.ireturnN (t := .boolean) at_152 rfl (by simp) (1 : Int32) rfl rfl (by decide) (by decide)
    · intro hc1052
      refine W.iload 111 at_109 rfl rfl ?_
      refine W.iload 113 at_111 rfl rfl ?_
      refine W.icmp_ne 120 116 at_113 rfl rfl ?_ ?_
      · intro hc1058
        refine W.iconst 121 at_120 rfl (0 : Int32) rfl ?_
        refine W.istore 123 at_121 rfl #[.val (.int p0), .val (.int p1), .val (.int p2), .val (.int p3), .val (.int p4), .val (.int y1), .val (.int y2), .val (.int mm), .val (.int x2), .val (.ref o1028), .val (.int (((p4.toUInt32 >>> ((3 : Int32) &&& 31).toUInt32).toInt32) &&& (3 : Int32))), .val (.ref o1044), .val (.int (0 : Int32))] rfl ?_
        refine W.aload 125 at_123 rfl rfl rfl ?_
        refine W.aload 127 at_125 rfl rfl rfl ?_
        have q1059 := ((F1033.keep K1044 nin0).keep K1050 (ninS ne1045 nin0))
        have q1060 := ((G1033.keep K1044 nin0).keep K1050 (ninS ne1045 nin0))
        have q1062 := ((E1033.keep K1044).keep K1050)
        refine W.callV (rest := []) (argsL := [(.ref o1044)]) (a := o1028) 130 at_127 rfl (fun hn => (c_eq l Z a0 hw o1028 o1044 p0 y1 x2 y2 _ n0 hn q1059 q1060 E1050 F1050 G1050).post (P := fun r h' => r = some (.int (0 : Int32)) ∧ h' = _) (fun v h' q => ⟨q.1.trans (by rw [own_eq_def, if_neg (fun q => hc1058 q.2)]), q.2⟩)) q1062 (wd_14 hw) (wd_15 hw) (wd_17 hw) rfl (wd_16 hw) (wd_3 hw) (wd_18 hw) (by decide) pd_4 rfl rfl rfl (by decide) 0 (Nat.le_of_ble_eq_true rfl) (by decide) (by decide) (by decide) ?_
        rintro v1061 h1061 ⟨rfl, rfl⟩
        show W _ _ _ _ _ _ _ _ _ _ _ 2 4 130 #[.val (.int p0), .val (.int p1), .val (.int p2), .val (.int p3), .val (.int p4), .val (.int y1), .val (.int y2), .val (.int mm), .val (.int x2), .val (.ref o1028), .val (.int (((p4.toUInt32 >>> ((3 : Int32) &&& 31).toUInt32).toInt32) &&& (3 : Int32))), .val (.ref o1044), .val (.int (0 : Int32))] [(.int (0 : Int32))]
        refine W.iload 132 at_130 rfl rfl ?_
        refine W.icmp_ne 151 135 at_132 rfl rfl (fun hc => absurd (by decide) hc) (fun _ => ?_)
        refine W.aload 137 at_135 rfl rfl rfl ?_
        refine W.aload 139 at_137 rfl rfl rfl ?_
        refine W.callV (rest := []) (argsL := [(.ref o1028)]) (a := o1044) 142 at_139 rfl (fun hn => (c_eq l Z a0 hw o1044 o1028 x2 y2 p0 y1 _ n0 hn F1050 G1050 q1062 q1059 q1060).post (P := fun r h' => r = some (.int (0 : Int32)) ∧ h' = _) (fun v h' q => ⟨q.1.trans (by rw [own_eq_def, if_neg (fun q => (fun z => hc1058 z.symm) q.2)]), q.2⟩)) E1050 (wd_14 hw) (wd_15 hw) (wd_17 hw) rfl (wd_16 hw) (wd_3 hw) (wd_18 hw) (by decide) pd_4 rfl rfl rfl (by decide) 0 (Nat.le_of_ble_eq_true rfl) (by decide) (by decide) (by decide) ?_
        rintro v1063 h1063 ⟨rfl, rfl⟩
        show W _ _ _ _ _ _ _ _ _ _ _ 2 4 142 #[.val (.int p0), .val (.int p1), .val (.int p2), .val (.int p3), .val (.int p4), .val (.int y1), .val (.int y2), .val (.int mm), .val (.int x2), .val (.ref o1028), .val (.int (((p4.toUInt32 >>> ((3 : Int32) &&& 31).toUInt32).toInt32) &&& (3 : Int32))), .val (.ref o1044), .val (.int (0 : Int32))] [(.int (0 : Int32))]
        refine W.iload 144 at_142 rfl rfl ?_
        refine W.icmp_ne 151 147 at_144 rfl rfl (fun hc => absurd (by decide) hc) (fun _ => ?_)
        refine W.iconst 148 at_147 rfl (1 : Int32) rfl ?_
        refine W.goto 152 at_148 rfl ?_
        exact W.ireturnN (t := .boolean) at_152 rfl (by simp) (1 : Int32) rfl rfl (by decide) (by decide)
      · intro hc1058
        refine W.iconst 117 at_116 rfl (1 : Int32) rfl ?_
        refine W.goto 121 at_117 rfl ?_
        refine W.istore 123 at_121 rfl #[.val (.int p0), .val (.int p1), .val (.int p2), .val (.int p3), .val (.int p4), .val (.int y1), .val (.int y2), .val (.int mm), .val (.int x2), .val (.ref o1028), .val (.int (((p4.toUInt32 >>> ((3 : Int32) &&& 31).toUInt32).toInt32) &&& (3 : Int32))), .val (.ref o1044), .val (.int (1 : Int32))] rfl ?_
        refine W.aload 125 at_123 rfl rfl rfl ?_
        refine W.aload 127 at_125 rfl rfl rfl ?_
        have q1064 := ((F1033.keep K1044 nin0).keep K1050 (ninS ne1045 nin0))
        have q1065 := ((G1033.keep K1044 nin0).keep K1050 (ninS ne1045 nin0))
        have q1067 := ((E1033.keep K1044).keep K1050)
        refine W.callV (rest := []) (argsL := [(.ref o1044)]) (a := o1028) 130 at_127 rfl (fun hn => (c_eq l Z a0 hw o1028 o1044 p0 y1 x2 y2 _ n0 hn q1064 q1065 E1050 F1050 G1050).post (P := fun r h' => r = some (.int (1 : Int32)) ∧ h' = _) (fun v h' q => ⟨q.1.trans (by rw [own_eq_def, if_pos ⟨hc1052, hc1058⟩]), q.2⟩)) q1067 (wd_14 hw) (wd_15 hw) (wd_17 hw) rfl (wd_16 hw) (wd_3 hw) (wd_18 hw) (by decide) pd_4 rfl rfl rfl (by decide) 0 (Nat.le_of_ble_eq_true rfl) (by decide) (by decide) (by decide) ?_
        rintro v1066 h1066 ⟨rfl, rfl⟩
        show W _ _ _ _ _ _ _ _ _ _ _ 2 4 130 #[.val (.int p0), .val (.int p1), .val (.int p2), .val (.int p3), .val (.int p4), .val (.int y1), .val (.int y2), .val (.int mm), .val (.int x2), .val (.ref o1028), .val (.int (((p4.toUInt32 >>> ((3 : Int32) &&& 31).toUInt32).toInt32) &&& (3 : Int32))), .val (.ref o1044), .val (.int (1 : Int32))] [(.int (1 : Int32))]
        refine W.iload 132 at_130 rfl rfl ?_
        refine W.icmp_ne 151 135 at_132 rfl rfl (fun hc => absurd (by decide) hc) (fun _ => ?_)
        refine W.aload 137 at_135 rfl rfl rfl ?_
        refine W.aload 139 at_137 rfl rfl rfl ?_
        refine W.callV (rest := []) (argsL := [(.ref o1028)]) (a := o1044) 142 at_139 rfl (fun hn => (c_eq l Z a0 hw o1044 o1028 x2 y2 p0 y1 _ n0 hn F1050 G1050 q1067 q1064 q1065).post (P := fun r h' => r = some (.int (1 : Int32)) ∧ h' = _) (fun v h' q => ⟨q.1.trans (by rw [own_eq_def, if_pos ⟨hc1052.symm, hc1058.symm⟩]), q.2⟩)) E1050 (wd_14 hw) (wd_15 hw) (wd_17 hw) rfl (wd_16 hw) (wd_3 hw) (wd_18 hw) (by decide) pd_4 rfl rfl rfl (by decide) 0 (Nat.le_of_ble_eq_true rfl) (by decide) (by decide) (by decide) ?_
        rintro v1068 h1068 ⟨rfl, rfl⟩
        show W _ _ _ _ _ _ _ _ _ _ _ 2 4 142 #[.val (.int p0), .val (.int p1), .val (.int p2), .val (.int p3), .val (.int p4), .val (.int y1), .val (.int y2), .val (.int mm), .val (.int x2), .val (.ref o1028), .val (.int (((p4.toUInt32 >>> ((3 : Int32) &&& 31).toUInt32).toInt32) &&& (3 : Int32))), .val (.ref o1044), .val (.int (1 : Int32))] [(.int (1 : Int32))]
        refine W.iload 144 at_142 rfl rfl ?_
        refine W.icmp_ne 151 147 at_144 rfl rfl (fun hc => absurd (by decide) hc) (fun _ => ?_)
        refine W.iconst 148 at_147 rfl (1 : Int32) rfl ?_
        refine W.goto 152 at_148 rfl ?_
        exact W.ireturnN (t := .boolean) at_152 rfl (by simp) (1 : Int32) rfl rfl (by decide) (by decide)
theorem own_m33 (x : Int32) : ¬ ((x &&& 2147483647) % 33) < 0 ∧ ¬ (32 : Int32) < ((x &&& 2147483647) % 33) := by
  have h1 := c_mask x 2147483647 31 (by decide) (by decide)
  have h2 := (c_irem (x &&& 2147483647) 33 33 rfl).1 (by omega)
  have e0 : (0 : Int32).toInt = 0 := rfl
  have e1 : (32 : Int32).toInt = 32 := rfl
  rw [Int32.lt_iff_toInt_lt, Int32.lt_iff_toInt_lt]
  omega
set_option maxRecDepth 65536 in
set_option maxHeartbeats 40000000 in
theorem law_ok (l : Launch) (Z : State) (a0 : Array Value) (hw : ∀ d ∈ tables_1, d.before a0 Z = true) (p0 p1 p2 p3 p4 : Int32) (h : Heap) (n0 : Nat) (hn : n0 ≤ h.size) (hic : own_IC Z h) : ConW tables_1 l Z x code maxLocals ret room_1 #[(.int p0), (.int p1), (.int p2), (.int p3), (.int p4)] h n0 (fun r _ => r = some (.int 1)) := by
  refine ConW.of_W (Ls := #[.val (.int p0), .val (.int p1), .val (.int p2), .val (.int p3), .val (.int p4), .unset, .unset, .unset, .unset, .unset, .unset, .unset, .unset]) (plainFor_of_name pn_3) hn (fun m => by first | (simp [entryFrame, mkF, argsToLocals, Value.category, maxLocals]; done) | rfl) ?_
  refine W.iloadN 1 at_0 rfl rfl ?_
  refine W.ldcI 3 at_1 rfl (wd_0 hw) ?_
  refine W.iand 4 at_3 rfl (p1 &&& (2147483647 : Int32)) rfl ?_
  refine W.bipush 6 at_4 rfl (33 : Int32) rfl ?_
  refine W.irem 7 at_6 rfl (by decide) ((p1 &&& (2147483647 : Int32)) % (33 : Int32)) rfl ?_
  refine W.istore 9 at_7 rfl #[.val (.int p0), .val (.int p1), .val (.int p2), .val (.int p3), .val (.int p4), .val (.int ((p1 &&& (2147483647 : Int32)) % (33 : Int32))), .unset, .unset, .unset, .unset, .unset, .unset, .unset] rfl ?_
  refine W.iload 11 at_9 rfl rfl ?_
  refine W.iconst 12 at_11 rfl (4 : Int32) rfl ?_
  refine W.iand 13 at_12 rfl (p4 &&& (4 : Int32)) rfl ?_
  refine W.if_eq 21 16 at_13 rfl rfl ?_ ?_
  · intro hc1069
    refine W.iloadN 22 at_21 rfl rfl ?_
    refine W.ldcI 24 at_22 rfl (wd_0 hw) ?_
    refine W.iand 25 at_24 rfl (p3 &&& (2147483647 : Int32)) rfl ?_
    refine W.bipush 27 at_25 rfl (33 : Int32) rfl ?_
    refine W.irem 28 at_27 rfl (by decide) ((p3 &&& (2147483647 : Int32)) % (33 : Int32)) rfl ?_
    refine W.istore 30 at_28 rfl #[.val (.int p0), .val (.int p1), .val (.int p2), .val (.int p3), .val (.int p4), .val (.int ((p1 &&& (2147483647 : Int32)) % (33 : Int32))), .val (.int ((p3 &&& (2147483647 : Int32)) % (33 : Int32))), .unset, .unset, .unset, .unset, .unset, .unset] rfl ?_
    refine W.iload 32 at_30 rfl rfl ?_
    refine W.iconst 33 at_32 rfl (3 : Int32) rfl ?_
    refine W.iand 34 at_33 rfl (p4 &&& (3 : Int32)) rfl ?_
    refine W.istore 36 at_34 rfl #[.val (.int p0), .val (.int p1), .val (.int p2), .val (.int p3), .val (.int p4), .val (.int ((p1 &&& (2147483647 : Int32)) % (33 : Int32))), .val (.int ((p3 &&& (2147483647 : Int32)) % (33 : Int32))), .val (.int (p4 &&& (3 : Int32))), .unset, .unset, .unset, .unset, .unset] rfl ?_
    refine W.iload 38 at_36 rfl rfl ?_
    refine W.if_ne 45 41 at_38 rfl rfl ?_ ?_
    · intro hc1070
      refine W.iload 47 at_45 rfl rfl ?_
      refine W.iconst 48 at_47 rfl (1 : Int32) rfl ?_
      refine W.icmp_ne 62 51 at_48 rfl rfl ?_ ?_
      · intro hc1071
        refine W.iloadN 63 at_62 rfl rfl ?_
        refine W.istore 65 at_63 rfl #[.val (.int p0), .val (.int p1), .val (.int p2), .val (.int p3), .val (.int p4), .val (.int ((p1 &&& (2147483647 : Int32)) % (33 : Int32))), .val (.int ((p3 &&& (2147483647 : Int32)) % (33 : Int32))), .val (.int (p4 &&& (3 : Int32))), .val (.int p2), .unset, .unset, .unset, .unset] rfl ?_
        exact l_65 l Z a0 hw p0 p1 p2 p3 p4 _ _ _ _ _ n0 hic (own_m33 p1).1 (own_m33 p1).2 (own_m33 p3).1 (own_m33 p3).2
      · intro hc1071
        refine W.iloadN 52 at_51 rfl rfl ?_
        refine W.iconst 53 at_52 rfl (1 : Int32) rfl ?_
        refine W.iloadN 54 at_53 rfl rfl ?_
        refine W.bipush 56 at_54 rfl (31 : Int32) rfl ?_
        refine W.iand 57 at_56 rfl (p2 &&& (31 : Int32)) rfl ?_
        refine W.ishl 58 at_57 rfl ((1 : Int32) <<< ((p2 &&& (31 : Int32)) &&& 31)) rfl ?_
        refine W.ixor 59 at_58 rfl (p0 ^^^ ((1 : Int32) <<< ((p2 &&& (31 : Int32)) &&& 31))) rfl ?_
        refine W.goto 63 at_59 rfl ?_
        refine W.istore 65 at_63 rfl #[.val (.int p0), .val (.int p1), .val (.int p2), .val (.int p3), .val (.int p4), .val (.int ((p1 &&& (2147483647 : Int32)) % (33 : Int32))), .val (.int ((p3 &&& (2147483647 : Int32)) % (33 : Int32))), .val (.int (p4 &&& (3 : Int32))), .val (.int (p0 ^^^ ((1 : Int32) <<< ((p2 &&& (31 : Int32)) &&& 31)))), .unset, .unset, .unset, .unset] rfl ?_
        exact l_65 l Z a0 hw p0 p1 p2 p3 p4 _ _ _ _ _ n0 hic (own_m33 p1).1 (own_m33 p1).2 (own_m33 p3).1 (own_m33 p3).2
    · intro hc1070
      refine W.iloadN 42 at_41 rfl rfl ?_
      refine W.goto 63 at_42 rfl ?_
      refine W.istore 65 at_63 rfl #[.val (.int p0), .val (.int p1), .val (.int p2), .val (.int p3), .val (.int p4), .val (.int ((p1 &&& (2147483647 : Int32)) % (33 : Int32))), .val (.int ((p3 &&& (2147483647 : Int32)) % (33 : Int32))), .val (.int (p4 &&& (3 : Int32))), .val (.int p0), .unset, .unset, .unset, .unset] rfl ?_
      exact l_65 l Z a0 hw p0 p1 p2 p3 p4 _ _ _ _ _ n0 hic (own_m33 p1).1 (own_m33 p1).2 (own_m33 p3).1 (own_m33 p3).2
  · intro hc1069
    refine W.iload 18 at_16 rfl rfl ?_
    refine W.goto 28 at_18 rfl ?_
    refine W.istore 30 at_28 rfl #[.val (.int p0), .val (.int p1), .val (.int p2), .val (.int p3), .val (.int p4), .val (.int ((p1 &&& (2147483647 : Int32)) % (33 : Int32))), .val (.int ((p1 &&& (2147483647 : Int32)) % (33 : Int32))), .unset, .unset, .unset, .unset, .unset, .unset] rfl ?_
    refine W.iload 32 at_30 rfl rfl ?_
    refine W.iconst 33 at_32 rfl (3 : Int32) rfl ?_
    refine W.iand 34 at_33 rfl (p4 &&& (3 : Int32)) rfl ?_
    refine W.istore 36 at_34 rfl #[.val (.int p0), .val (.int p1), .val (.int p2), .val (.int p3), .val (.int p4), .val (.int ((p1 &&& (2147483647 : Int32)) % (33 : Int32))), .val (.int ((p1 &&& (2147483647 : Int32)) % (33 : Int32))), .val (.int (p4 &&& (3 : Int32))), .unset, .unset, .unset, .unset, .unset] rfl ?_
    refine W.iload 38 at_36 rfl rfl ?_
    refine W.if_ne 45 41 at_38 rfl rfl ?_ ?_
    · intro hc1072
      refine W.iload 47 at_45 rfl rfl ?_
      refine W.iconst 48 at_47 rfl (1 : Int32) rfl ?_
      refine W.icmp_ne 62 51 at_48 rfl rfl ?_ ?_
      · intro hc1073
        refine W.iloadN 63 at_62 rfl rfl ?_
        refine W.istore 65 at_63 rfl #[.val (.int p0), .val (.int p1), .val (.int p2), .val (.int p3), .val (.int p4), .val (.int ((p1 &&& (2147483647 : Int32)) % (33 : Int32))), .val (.int ((p1 &&& (2147483647 : Int32)) % (33 : Int32))), .val (.int (p4 &&& (3 : Int32))), .val (.int p2), .unset, .unset, .unset, .unset] rfl ?_
        exact l_65 l Z a0 hw p0 p1 p2 p3 p4 _ _ _ _ _ n0 hic (own_m33 p1).1 (own_m33 p1).2 (own_m33 p1).1 (own_m33 p1).2
      · intro hc1073
        refine W.iloadN 52 at_51 rfl rfl ?_
        refine W.iconst 53 at_52 rfl (1 : Int32) rfl ?_
        refine W.iloadN 54 at_53 rfl rfl ?_
        refine W.bipush 56 at_54 rfl (31 : Int32) rfl ?_
        refine W.iand 57 at_56 rfl (p2 &&& (31 : Int32)) rfl ?_
        refine W.ishl 58 at_57 rfl ((1 : Int32) <<< ((p2 &&& (31 : Int32)) &&& 31)) rfl ?_
        refine W.ixor 59 at_58 rfl (p0 ^^^ ((1 : Int32) <<< ((p2 &&& (31 : Int32)) &&& 31))) rfl ?_
        refine W.goto 63 at_59 rfl ?_
        refine W.istore 65 at_63 rfl #[.val (.int p0), .val (.int p1), .val (.int p2), .val (.int p3), .val (.int p4), .val (.int ((p1 &&& (2147483647 : Int32)) % (33 : Int32))), .val (.int ((p1 &&& (2147483647 : Int32)) % (33 : Int32))), .val (.int (p4 &&& (3 : Int32))), .val (.int (p0 ^^^ ((1 : Int32) <<< ((p2 &&& (31 : Int32)) &&& 31)))), .unset, .unset, .unset, .unset] rfl ?_
        exact l_65 l Z a0 hw p0 p1 p2 p3 p4 _ _ _ _ _ n0 hic (own_m33 p1).1 (own_m33 p1).2 (own_m33 p1).1 (own_m33 p1).2
    · intro hc1072
      refine W.iloadN 42 at_41 rfl rfl ?_
      refine W.goto 63 at_42 rfl ?_
      refine W.istore 65 at_63 rfl #[.val (.int p0), .val (.int p1), .val (.int p2), .val (.int p3), .val (.int p4), .val (.int ((p1 &&& (2147483647 : Int32)) % (33 : Int32))), .val (.int ((p1 &&& (2147483647 : Int32)) % (33 : Int32))), .val (.int (p4 &&& (3 : Int32))), .val (.int p0), .unset, .unset, .unset, .unset] rfl ?_
      exact l_65 l Z a0 hw p0 p1 p2 p3 p4 _ _ _ _ _ n0 hic (own_m33 p1).1 (own_m33 p1).2 (own_m33 p1).1 (own_m33 p1).2
set_option maxRecDepth 65536 in
set_option maxHeartbeats 40000000 in
theorem comes_1 {Post : Tables → Env → Array Value → State → Outcome → State → Prop} (hpost : ∀ tb e args s v u, (limb_1_1.after args s (.returned v) u = true ∧ limb_1_2.after args s (.returned v) u = true ∧ True) → FrameEnd s (.returned v) u (Jvm.fieldLocs frame_1_writes args s ++ Jvm.arrayLocs frame_1_arrays args s ++ Jvm.staticLocs frame_1_statics s) 16 128 → Post tb e args s (.returned v) u) :
    ArmFor flags0 classFile x code maxLocals ret World_1 tables_1 room_1 Calls_1 rest_1 Pre_1 Post := by
  intro l hfl _ _ p e ha hc hk s m args below hf hA hF happ hP
  obtain ⟨hcalls, hrest, hpre⟩ := hP
  obtain ⟨-, -, -, hnamed, -, -, -, hat⟩ := (Spec.applies_iff hf).mp happ
  obtain ⟨hg, hn⟩ := and_e (Cond.before_iff.mp (show (Jvm.Cond.and given_1 narrow_1).before args s = true from hpre))
  obtain ⟨hcnt, hg1⟩ := and_e hg
  obtain ⟨k0, hh0⟩ := and_e hg1
  obtain ⟨k1, hh1⟩ := and_e hh0
  obtain ⟨k2, hh2⟩ := and_e hh1
  obtain ⟨k3, hh3⟩ := and_e hh2
  have k4 := hh3
  obtain ⟨w0, w1, w2, w3, w4, rfl⟩ : ∃ w0 w1 w2 w3 w4 : Value, args = #[w0, w1, w2, w3, w4] := by
    have hs : args.size = 5 := by simpa [Cond.value, given_1] using hcnt
    obtain ⟨L⟩ := args
    match L, hs with
    | [w0, w1, w2, w3, w4], _ => exact ⟨w0, w1, w2, w3, w4, rfl⟩
  have hw := fun d (hd : d ∈ tables_1) => atoms_spec (ws := Jvm.Cond.code x code maxLocals ret :: tables_1) hat d (List.mem_cons_of_mem _ hd)
  have hfit : Fit s := fun {y c} hc i hi => by
    obtain ⟨ha, rfl⟩ := Array.getElem?_eq_some_iff.mp hc
    have q := List.all_eq_true.mp ((Array.all_eq_true_iff_forall_mem.mp hF) _ (Array.getElem_mem ha)) i (List.mem_range.mpr hi)
    simpa [Array.getElem?_eq_getElem hi] using q
  obtain ⟨i0, ei0⟩ := is_v k0
  obtain rfl : w0 = (.int i0) := Option.some.inj ei0
  obtain ⟨i1, ei1⟩ := is_v k1
  obtain rfl : w1 = (.int i1) := Option.some.inj ei1
  obtain ⟨i2, ei2⟩ := is_v k2
  obtain rfl : w2 = (.int i2) := Option.some.inj ei2
  obtain ⟨i3, ei3⟩ := is_v k3
  obtain rfl : w3 = (.int i3) := Option.some.inj ei3
  obtain ⟨i4, ei4⟩ := is_v k4
  obtain rfl : w4 = (.int i4) := Option.some.inj ei4
  obtain ⟨hsets, hown0⟩ := atoms_of _ (rest_1_c_eq ▸ (show rest_1_c.before _ s = true from hrest))
  have c0 := hsets _ (List.mem_of_getElem? (i := 0) rfl)
  have c1 := hsets _ (List.mem_of_getElem? (i := 1) rfl)
  have c2 := hsets _ (List.mem_of_getElem? (i := 2) rfl)
  have c3 := hsets _ (List.mem_of_getElem? (i := 3) rfl)
  have c4 := hsets _ (List.mem_of_getElem? (i := 4) rfl)
  have c6 := hsets _ (List.mem_of_getElem? (i := 6) rfl)
  have c7 := hsets _ (List.mem_of_getElem? (i := 7) rfl)
  have hic : own_IC s s.heap := by
    obtain ⟨v1, ev1, f1⟩ := static_fit hfit c0 (ty := .int) (by decide)
    obtain ⟨z1, rfl⟩ := fit_I f1 (Or.inl rfl)
    have z127 : z1 = 127 := by
      have q := Cond.before_iff.mp c3
      have := gotT (Cond.eq_ints ev1 (Term.int_eval _)) q
      exact this
    subst z127
    obtain ⟨cb, ecb⟩ := arr_v (Cond.before_iff.mp c4)
    obtain ⟨cell, AR⟩ := Arr.start ecb (Cond.before_iff.mp c4)
    have S1 : Sta s s.heap "java/lang/Integer$IntegerCache" "high" "I" (.int 127) := Sta.start ev1 (Or.inl c1)
    have S2 : Sta s s.heap "java/lang/Integer$IntegerCache" "cache" "[Ljava/lang/Integer;" (.ref cb) := Sta.start ecb (Or.inr ⟨(wd_44 hw), c2⟩)
    have L6 := eqv_i (F := .int 256) (Term.int_eval _) (Cond.before_iff.mp c6)
    obtain ⟨hsz, hsz2⟩ := own_len ecb (AR.fin (Vm.Alike.refl _)) L6
    have B := Bxs.start (z := 256) (d := "I") (val := fun j => .int (j - 128)) (fun _ => ecb) AR hsz hsz2 (by decide) (Cond.before_iff.mp c7) (fun X j nn hq => eqv_i (sub_at (idx_at nn) (Term.int_eval _)) hq)
    have hn256 : cell.slots.size = 256 := by have := B.2.1; rw [this]; decide
    have hel : ∀ (i : Nat) (v : Value), cell.slots.toList[i]? = some v → ∃ y, v = .ref y ∧ Exa s s.heap y "java/lang/Integer" := by
      intro i v hv
      have hi : i < cell.slots.size := by have := (List.getElem?_eq_some_iff.mp hv).1; simpa using this
      have hi32 : (i.toInt32).toNatClampNeg = i := by
        have e : (i.toInt32).toInt = i := Int32.toInt_ofNat_small (by omega)
        simp only [Int32.toNatClampNeg]; rw [e]; simp
      obtain ⟨b, hb1, hb2, -⟩ := B.2.2.2 i.toInt32 (idx_in hi hsz)
      rw [hi32] at hb1
      have : v = .ref b := by rw [Array.getElem?_toList, hb1] at hv; exact (Option.some.inj hv).symm
      exact ⟨b, this, hb2⟩
    exact ⟨cb, cell.slots.toList, S1, S2, ⟨cell, AR, rfl, fun v hv => by obtain ⟨i, hi, rfl⟩ := List.getElem_of_mem hv; obtain ⟨y, e, -⟩ := hel i _ (List.getElem?_eq_getElem hi); rw [e]; rfl, by rw [Array.length_toList]; exact hsz⟩, by rw [Array.length_toList]; exact hn256, hel⟩
  obtain ⟨n, o, h1, h2, h3, _, L, rfl, ⟨rfl, N⟩, hq⟩ := law_ok l s _ hw i0 i1 i2 i3 i4 s.heap s.heap.size (Nat.le_refl _) hic p e ha hc hk s m _ below hf ((Spec.applies_iff_loose hf).mp happ).1 ⟨rfl, State.Warmed39.refl s, rfl⟩ trivial
  refine ⟨n, _, h1, h2, h3, hpost _ _ _ _ _ _ ⟨Cond.after_iff.mpr rfl, Cond.after_iff.mpr (eq_i res_at (Term.int_eval (1)) rfl), trivial⟩ ⟨hq.1, hq.2.1, (hq.2.2.sift fun y hy => Or.inr (N y hy)).mono (by decide) (by decide)⟩⟩
theorem main_1_1 : Claimed_1_1 := comes_1 fun _ _ _ _ _ _ h hF => ⟨h.1, hF⟩
theorem main_1_2 : Claimed_1_2 := comes_1 fun _ _ _ _ _ _ h hF => ⟨h.2.1, hF⟩
end Jvm.Pilot.@@N@@
namespace Jvm.Pilot.@@N@@
open Jvm Jvm.ClassFile Sem Op Lib Jvm.Free Jvm.Stand Jvm.Pilot.@@N@@.Jvm.D
/-! MADE BY PROGRAM (witnessworld.py) out of the Statement's table words and the real class files: 16 classes; the members and pool entries that the words name. The judged class is class 1, her method 1. -/
namespace start1
open Jvm.ClassFile
def u (s : String) : CpInfo := .utf8 (stringToUtf16 s)
/-- a pool by its gaps: so many unusable entries, then the entry; so many at the end -/
def gap : Nat → List CpInfo → List CpInfo
  | 0, r => r
  | n + 1, r => .unusable :: gap n r
def poolList (es : List (Nat × CpInfo)) (last : Nat) : List CpInfo := es.foldr (fun e r => gap e.1 (e.2 :: r)) (gap last [])
def pool (es : List (Nat × CpInfo)) (last : Nat) : Array CpInfo := ⟨poolList es last⟩
def fileOf (pool : Array CpInfo) (this : Nat) (attrs : Array Attribute := #[]) (ms : Array MethodInfo := #[]) (fl : Nat := 33) (sup : Nat := 0) (ifs : Array Nat := #[]) (fds : Array FieldInfo := #[]) : ClassFile where
  minorVersion := 0
  majorVersion := 65
  constantPool := pool
  accessFlags := fl
  thisClass := this
  superClass := sup
  interfaces := ifs
  fields := fds
  methods := ms
  attributes := attrs
def plain (name : String) (sup : Option ClassId) : Class where
  name := name
  kind := .ordinary
  loader := none
  accessFlags := 33
  super := sup
  interfaces := #[]
  cf := none
  fields := #[]
  methods := #[]
  instanceTypes := #[]
  staticTypes := #[]
  resolved := #[]
  callSites := []
  init := .initialized
  statics := none
  mirror := none

def pool0 : Array CpInfo := pool [(5, u "<init>"), (0, u "()V"), (1, .class_ 10), (1, u "java/lang/Object")] 113

def k0c0 : Code := { maxStack := 0, maxLocals := 1, code := object_method_1_code, exceptionTable := #[], attributes := #[] }
def k0m0 : Method := { name := "<init>", desc := "()V", sig := { parameters := [], returnType := none }, accessFlags := 1, code := some k0c0 }
/-- java/lang/Object -/
def k0 : Class := { plain "java/lang/Object" none with
  accessFlags := 33
  interfaces := #[]
  cf := some (fileOf pool0 8 #[] #[{ accessFlags := 1, nameIndex := 5, descriptorIndex := 6, attributes := #[] }] 33 0 #[] #[])
  fields := #[]
  methods := #[k0m0]
  instanceTypes := #[]
  staticTypes := #[]
  resolved := Array.replicate 124 none
  statics := none }

def pool1 : Array CpInfo := pool [(2, .class_ 4), (1, u "java/lang/Object"), (0, u "<init>"), (0, u "()V"), (0, .integer 2147483647), (0, .class_ 9), (0, u "com/example/keen_router/keenrouter/forwarding/packet/Ipv4Prefix"), (0, .methodref 8 11), (0, .nameAndType 5 12), (0, u "(II)V"), (0, .methodref 8 14), (0, .nameAndType 15 16), (0, u "equals"), (0, u "(Ljava/lang/Object;)Z"), (0, .methodref 18 19), (0, .class_ 20), (0, .nameAndType 21 22), (0, u "java/lang/Integer"), (0, u "valueOf"), (0, u "(I)Ljava/lang/Integer;"), (0, .class_ 24), (0, u "com/example/keen_router/keenrouter/forwarding/packet/Ipv4PrefixEqualsPinLaw"), (2, u "law"), (0, u "(IIIII)Z")] 3

def k1m0 : Method := { name := "<init>", desc := "()V", sig := { parameters := [], returnType := none }, accessFlags := 2, code := none }
def k1c1 : Code := { maxStack := 4, maxLocals := 13, code := code, exceptionTable := #[], attributes := #[] }
def k1m1 : Method := { name := "law", desc := "(IIIII)Z", sig := { parameters := [.int, .int, .int, .int, .int], returnType := some .boolean }, accessFlags := 9, code := some k1c1 }
/-- com/example/keen_router/keenrouter/forwarding/packet/Ipv4PrefixEqualsPinLaw -/
def k1 : Class := { plain "com/example/keen_router/keenrouter/forwarding/packet/Ipv4PrefixEqualsPinLaw" (some 0) with
  accessFlags := 49
  interfaces := #[]
  cf := some (fileOf pool1 23 #[] #[{ accessFlags := 2, nameIndex := 5, descriptorIndex := 6, attributes := #[] }, { accessFlags := 9, nameIndex := 27, descriptorIndex := 28, attributes := #[] }] 49 2 #[] #[])
  fields := #[]
  methods := #[k1m0, k1m1]
  instanceTypes := #[]
  staticTypes := #[]
  resolved := Array.replicate 32 none
  statics := none }

def pool2 : Array CpInfo := pool [(1, .methodref 2 3), (0, .class_ 4), (0, .nameAndType 5 6), (0, u "java/lang/Object"), (0, u "<init>"), (0, u "()V"), (0, .class_ 8), (0, u "com/example/keen_router/keenrouter/forwarding/packet/Ipv4Prefix"), (9, .fieldref 7 19), (0, .nameAndType 20 21), (0, u "address"), (0, u "I"), (0, .fieldref 7 23), (0, .nameAndType 24 21), (0, u "length"), (35, u "(II)V"), (18, u "BITS"), (16, u "equals"), (0, u "(Ljava/lang/Object;)Z")] 24

def k2c0 : Code := { maxStack := 3, maxLocals := 3, code := prog_30_method_1_code, exceptionTable := #[], attributes := #[] }
def k2m0 : Method := { name := "<init>", desc := "(II)V", sig := { parameters := [.int, .int], returnType := none }, accessFlags := 1, code := some k2c0 }
def k2c1 : Code := { maxStack := 2, maxLocals := 3, code := prog_30_method_10_code, exceptionTable := #[], attributes := #[] }
def k2m1 : Method := { name := "equals", desc := "(Ljava/lang/Object;)Z", sig := { parameters := [(.object "java/lang/Object")], returnType := some .boolean }, accessFlags := 1, code := some k2c1 }
/-- com/example/keen_router/keenrouter/forwarding/packet/Ipv4Prefix -/
def k2 : Class := { plain "com/example/keen_router/keenrouter/forwarding/packet/Ipv4Prefix" (some 0) with
  accessFlags := 33
  interfaces := #[]
  cf := some (fileOf pool2 7 #[] #[{ accessFlags := 1, nameIndex := 5, descriptorIndex := 60, attributes := #[] }, { accessFlags := 1, nameIndex := 96, descriptorIndex := 97, attributes := #[] }] 33 2 #[] #[{ accessFlags := 26, nameIndex := 79, descriptorIndex := 21, attributes := #[] }, { accessFlags := 18, nameIndex := 20, descriptorIndex := 21, attributes := #[] }, { accessFlags := 18, nameIndex := 24, descriptorIndex := 21, attributes := #[] }])
  fields := #[{ name := "BITS", type := .int, accessFlags := 26, slot := 0, constantValue := 0 }, { name := "address", type := .int, accessFlags := 18, slot := 0, constantValue := 0 }, { name := "length", type := .int, accessFlags := 18, slot := 1, constantValue := 0 }]
  methods := #[k2m0, k2m1]
  instanceTypes := #[.int, .int]
  staticTypes := #[.int]
  resolved := Array.replicate 122 none
  statics := none }

def pool3 : Array CpInfo := pool [(1, .class_ 2), (0, u "java/io/Serializable"), (0, .class_ 4), (0, u "java/lang/Object")] 2

/-- java/io/Serializable -/
def k3 : Class := { plain "java/io/Serializable" (some 0) with
  accessFlags := 1537
  interfaces := #[]
  cf := some (fileOf pool3 1 #[] #[] 1537 3 #[] #[])
  fields := #[]
  methods := #[]
  instanceTypes := #[]
  staticTypes := #[]
  resolved := Array.replicate 7 none
  statics := none }

def pool4 : Array CpInfo := pool [(1, .methodref 2 3), (0, .class_ 4), (0, .nameAndType 5 6), (0, u "java/lang/Object"), (0, u "<init>"), (0, u "()V"), (1, .class_ 10), (1, u "java/lang/Number"), (2, .class_ 14), (0, u "java/io/Serializable"), (0, u "serialVersionUID"), (0, u "J")] 20

def k4c0 : Code := { maxStack := 1, maxLocals := 1, code := jdk_18_method_1_code, exceptionTable := #[], attributes := #[] }
def k4m0 : Method := { name := "<init>", desc := "()V", sig := { parameters := [], returnType := none }, accessFlags := 1, code := some k4c0 }
/-- java/lang/Number -/
def k4 : Class := { plain "java/lang/Number" (some 0) with
  accessFlags := 1057
  interfaces := #[3]
  cf := some (fileOf pool4 8 #[] #[{ accessFlags := 1, nameIndex := 5, descriptorIndex := 6, attributes := #[] }] 1057 2 #[13] #[{ accessFlags := 26, nameIndex := 15, descriptorIndex := 16, attributes := #[] }])
  fields := #[{ name := "serialVersionUID", type := .long, accessFlags := 26, slot := 0, constantValue := 0 }]
  methods := #[k4m0]
  instanceTypes := #[]
  staticTypes := #[.long]
  resolved := Array.replicate 37 none
  statics := none }

def pool5 : Array CpInfo := pool [(1, .class_ 2), (0, u "java/lang/Comparable"), (0, .class_ 4), (0, u "java/lang/Object")] 7

/-- java/lang/Comparable -/
def k5 : Class := { plain "java/lang/Comparable" (some 0) with
  accessFlags := 1537
  interfaces := #[]
  cf := some (fileOf pool5 1 #[] #[] 1537 3 #[] #[])
  fields := #[]
  methods := #[]
  instanceTypes := #[]
  staticTypes := #[]
  resolved := Array.replicate 12 none
  statics := none }

def pool6 : Array CpInfo := pool [(1, .class_ 2), (0, u "java/lang/constant/Constable"), (0, .class_ 4), (0, u "java/lang/Object")] 6

/-- java/lang/constant/Constable -/
def k6 : Class := { plain "java/lang/constant/Constable" (some 0) with
  accessFlags := 1537
  interfaces := #[]
  cf := some (fileOf pool6 1 #[] #[] 1537 3 #[] #[])
  fields := #[]
  methods := #[]
  instanceTypes := #[]
  staticTypes := #[]
  resolved := Array.replicate 11 none
  statics := none }

def pool7 : Array CpInfo := pool [(1, .class_ 2), (0, u "java/lang/constant/ConstantDesc"), (0, .class_ 4), (0, u "java/lang/Object")] 32

/-- java/lang/constant/ConstantDesc -/
def k7 : Class := { plain "java/lang/constant/ConstantDesc" (some 0) with
  accessFlags := 1537
  interfaces := #[]
  cf := some (fileOf pool7 1 #[] #[] 1537 3 #[] #[])
  fields := #[]
  methods := #[]
  instanceTypes := #[]
  staticTypes := #[]
  resolved := Array.replicate 37 none
  statics := none }

def pool8 : Array CpInfo := pool [(1, .class_ 2), (0, u "java/lang/Integer"), (16, u "digits"), (0, u "[C"), (46, u "<init>"), (17, u "DigitOnes"), (0, u "[B"), (2, u "DigitTens"), (10, .nameAndType 67 101), (0, u "()V"), (85, u "valueOf"), (0, u "(I)Ljava/lang/Integer;"), (0, .class_ 190), (0, u "java/lang/Integer$IntegerCache"), (0, .fieldref 189 192), (0, .nameAndType 193 194), (0, u "high"), (0, u "I"), (0, .fieldref 189 196), (0, .nameAndType 197 198), (0, u "cache"), (0, u "[Ljava/lang/Integer;"), (0, .methodref 1 200), (0, .nameAndType 67 201), (0, u "(I)V"), (0, .methodref 203 100), (0, .class_ 204), (0, u "java/lang/Number"), (0, .fieldref 1 206), (0, .nameAndType 207 194), (0, u "value"), (94, u "TYPE"), (0, u "Ljava/lang/Class;"), (0, .class_ 305), (0, u "java/lang/Comparable"), (0, .class_ 307), (0, u "java/lang/constant/Constable"), (0, .class_ 309), (0, u "java/lang/constant/ConstantDesc"), (0, u "MIN_VALUE"), (1, u "MAX_VALUE"), (3, u "SIZE"), (1, u "BYTES"), (1, u "serialVersionUID"), (0, u "J")] 131

def k8c0 : Code := { maxStack := 3, maxLocals := 1, code := jdk_33_method_22_code, exceptionTable := #[], attributes := #[] }
def k8m0 : Method := { name := "valueOf", desc := "(I)Ljava/lang/Integer;", sig := { parameters := [.int], returnType := some (.object "java/lang/Integer") }, accessFlags := 9, code := some k8c0 }
def k8c1 : Code := { maxStack := 2, maxLocals := 2, code := jdk_33_method_23_code, exceptionTable := #[], attributes := #[] }
def k8m1 : Method := { name := "<init>", desc := "(I)V", sig := { parameters := [.int], returnType := none }, accessFlags := 1, code := some k8c1 }
/-- java/lang/Integer -/
def k8 : Class := { plain "java/lang/Integer" (some 4) with
  accessFlags := 49
  interfaces := #[5, 6, 7]
  cf := some (fileOf pool8 1 #[.nestMembers #[189]] #[{ accessFlags := 9, nameIndex := 187, descriptorIndex := 188, attributes := #[] }, { accessFlags := 1, nameIndex := 67, descriptorIndex := 201, attributes := #[] }] 49 203 #[304, 306, 308] #[{ accessFlags := 25, nameIndex := 310, descriptorIndex := 194, attributes := #[] }, { accessFlags := 25, nameIndex := 312, descriptorIndex := 194, attributes := #[] }, { accessFlags := 25, nameIndex := 302, descriptorIndex := 303, attributes := #[] }, { accessFlags := 24, nameIndex := 19, descriptorIndex := 20, attributes := #[] }, { accessFlags := 24, nameIndex := 89, descriptorIndex := 86, attributes := #[] }, { accessFlags := 24, nameIndex := 85, descriptorIndex := 86, attributes := #[] }, { accessFlags := 18, nameIndex := 207, descriptorIndex := 194, attributes := #[] }, { accessFlags := 25, nameIndex := 316, descriptorIndex := 194, attributes := #[] }, { accessFlags := 25, nameIndex := 318, descriptorIndex := 194, attributes := #[] }, { accessFlags := 26, nameIndex := 320, descriptorIndex := 321, attributes := #[] }])
  fields := #[{ name := "MIN_VALUE", type := .int, accessFlags := 25, slot := 0, constantValue := 0 }, { name := "MAX_VALUE", type := .int, accessFlags := 25, slot := 1, constantValue := 0 }, { name := "TYPE", type := (.object "java/lang/Class"), accessFlags := 25, slot := 2, constantValue := 0 }, { name := "digits", type := (.array .char), accessFlags := 24, slot := 3, constantValue := 0 }, { name := "DigitTens", type := (.array .byte), accessFlags := 24, slot := 4, constantValue := 0 }, { name := "DigitOnes", type := (.array .byte), accessFlags := 24, slot := 5, constantValue := 0 }, { name := "value", type := .int, accessFlags := 18, slot := 0, constantValue := 0 }, { name := "SIZE", type := .int, accessFlags := 25, slot := 6, constantValue := 0 }, { name := "BYTES", type := .int, accessFlags := 25, slot := 7, constantValue := 0 }, { name := "serialVersionUID", type := .long, accessFlags := 26, slot := 8, constantValue := 0 }]
  methods := #[k8m0, k8m1]
  instanceTypes := #[.int]
  staticTypes := #[.int, .int, (.object "java/lang/Class"), (.array .char), (.array .byte), (.array .byte), .int, .int, .long]
  resolved := Array.replicate 453 none
  statics := none }

def pool9 : Array CpInfo := pool [(2, .class_ 4), (1, u "java/lang/Object"), (0, u "<init>"), (0, u "()V"), (0, .class_ 8), (0, u "java/lang/Integer"), (7, .class_ 18), (1, u "java/lang/Integer$IntegerCache"), (0, u "$assertionsDisabled"), (0, u "Z"), (26, u "high"), (0, u "I"), (8, u "archivedCache"), (0, u "[Ljava/lang/Integer;"), (12, u "cache"), (0, u "low")] 27

def k9m0 : Method := { name := "<init>", desc := "()V", sig := { parameters := [], returnType := none }, accessFlags := 2, code := none }
/-- java/lang/Integer$IntegerCache -/
def k9 : Class := { plain "java/lang/Integer$IntegerCache" (some 0) with
  accessFlags := 48
  interfaces := #[]
  cf := some (fileOf pool9 16 #[.nestHost 7] #[{ accessFlags := 2, nameIndex := 5, descriptorIndex := 6, attributes := #[] }] 48 2 #[] #[{ accessFlags := 24, nameIndex := 72, descriptorIndex := 48, attributes := #[] }, { accessFlags := 24, nameIndex := 47, descriptorIndex := 48, attributes := #[] }, { accessFlags := 24, nameIndex := 71, descriptorIndex := 58, attributes := #[] }, { accessFlags := 8, nameIndex := 57, descriptorIndex := 58, attributes := #[] }, { accessFlags := 4120, nameIndex := 19, descriptorIndex := 20, attributes := #[] }])
  fields := #[{ name := "low", type := .int, accessFlags := 24, slot := 0, constantValue := 0 }, { name := "high", type := .int, accessFlags := 24, slot := 1, constantValue := 0 }, { name := "cache", type := (.array (.object "java/lang/Integer")), accessFlags := 24, slot := 2, constantValue := 0 }, { name := "archivedCache", type := (.array (.object "java/lang/Integer")), accessFlags := 8, slot := 3, constantValue := 0 }, { name := "$assertionsDisabled", type := .boolean, accessFlags := 4120, slot := 4, constantValue := 0 }]
  methods := #[k9m0]
  instanceTypes := #[]
  staticTypes := #[.int, .int, (.array (.object "java/lang/Integer")), (.array (.object "java/lang/Integer")), .boolean]
  resolved := Array.replicate 100 none
  statics := some 0 }

def pool10 : Array CpInfo := pool [(1, u "java/lang/Cloneable"), (0, .class_ 1), (0, u "java/lang/Object"), (0, .class_ 3)] 3

/-- java/lang/Cloneable -/
def k10 : Class := { plain "java/lang/Cloneable" (some 0) with
  accessFlags := 1537
  interfaces := #[]
  cf := some (fileOf pool10 2 #[] #[] 1537 4 #[] #[])
  fields := #[]
  methods := #[]
  instanceTypes := #[]
  staticTypes := #[]
  resolved := Array.replicate 8 none
  statics := none }

/-- the primitive byte -/
def k11 : Class := { plain "byte" none with kind := .primitive 'B', accessFlags := 0x411 }
/-- [B -/
def k12 : Class := { plain "[B" (some 0) with kind := .array 11 .byte, interfaces := #[10, 3], accessFlags := 1041 }

/-- the primitive int -/
def k13 : Class := { plain "int" none with kind := .primitive 'I', accessFlags := 0x411 }
/-- [I -/
def k14 : Class := { plain "[I" (some 0) with kind := .array 13 .int, interfaces := #[10, 3], accessFlags := 1041 }

/-- [Ljava/lang/Integer; -/
def k15 : Class := { plain "[Ljava/lang/Integer;" (some 0) with kind := .array 8 (.object "java/lang/Integer"), interfaces := #[10, 3], accessFlags := 1041 }

def heap : Heap := #[{ cls := 9, slots := #[.int 0, .int 127, .ref 1, .null, .int 0], vm := .statics 9 },
  { cls := 15, slots := #[.ref 2, .ref 3, .ref 4, .ref 5, .ref 6, .ref 7, .ref 8, .ref 9, .ref 10, .ref 11, .ref 12, .ref 13, .ref 14, .ref 15, .ref 16, .ref 17, .ref 18, .ref 19, .ref 20, .ref 21, .ref 22, .ref 23, .ref 24, .ref 25, .ref 26, .ref 27, .ref 28, .ref 29, .ref 30, .ref 31, .ref 32, .ref 33, .ref 34, .ref 35, .ref 36, .ref 37, .ref 38, .ref 39, .ref 40, .ref 41, .ref 42, .ref 43, .ref 44, .ref 45, .ref 46, .ref 47, .ref 48, .ref 49, .ref 50, .ref 51, .ref 52, .ref 53, .ref 54, .ref 55, .ref 56, .ref 57, .ref 58, .ref 59, .ref 60, .ref 61, .ref 62, .ref 63, .ref 64, .ref 65, .ref 66, .ref 67, .ref 68, .ref 69, .ref 70, .ref 71, .ref 72, .ref 73, .ref 74, .ref 75, .ref 76, .ref 77, .ref 78, .ref 79, .ref 80, .ref 81, .ref 82, .ref 83, .ref 84, .ref 85, .ref 86, .ref 87, .ref 88, .ref 89, .ref 90, .ref 91, .ref 92, .ref 93, .ref 94, .ref 95, .ref 96, .ref 97, .ref 98, .ref 99, .ref 100, .ref 101, .ref 102, .ref 103, .ref 104, .ref 105, .ref 106, .ref 107, .ref 108, .ref 109, .ref 110, .ref 111, .ref 112, .ref 113, .ref 114, .ref 115, .ref 116, .ref 117, .ref 118, .ref 119, .ref 120, .ref 121, .ref 122, .ref 123, .ref 124, .ref 125, .ref 126, .ref 127, .ref 128, .ref 129, .ref 130, .ref 131, .ref 132, .ref 133, .ref 134, .ref 135, .ref 136, .ref 137, .ref 138, .ref 139, .ref 140, .ref 141, .ref 142, .ref 143, .ref 144, .ref 145, .ref 146, .ref 147, .ref 148, .ref 149, .ref 150, .ref 151, .ref 152, .ref 153, .ref 154, .ref 155, .ref 156, .ref 157, .ref 158, .ref 159, .ref 160, .ref 161, .ref 162, .ref 163, .ref 164, .ref 165, .ref 166, .ref 167, .ref 168, .ref 169, .ref 170, .ref 171, .ref 172, .ref 173, .ref 174, .ref 175, .ref 176, .ref 177, .ref 178, .ref 179, .ref 180, .ref 181, .ref 182, .ref 183, .ref 184, .ref 185, .ref 186, .ref 187, .ref 188, .ref 189, .ref 190, .ref 191, .ref 192, .ref 193, .ref 194, .ref 195, .ref 196, .ref 197, .ref 198, .ref 199, .ref 200, .ref 201, .ref 202, .ref 203, .ref 204, .ref 205, .ref 206, .ref 207, .ref 208, .ref 209, .ref 210, .ref 211, .ref 212, .ref 213, .ref 214, .ref 215, .ref 216, .ref 217, .ref 218, .ref 219, .ref 220, .ref 221, .ref 222, .ref 223, .ref 224, .ref 225, .ref 226, .ref 227, .ref 228, .ref 229, .ref 230, .ref 231, .ref 232, .ref 233, .ref 234, .ref 235, .ref 236, .ref 237, .ref 238, .ref 239, .ref 240, .ref 241, .ref 242, .ref 243, .ref 244, .ref 245, .ref 246, .ref 247, .ref 248, .ref 249, .ref 250, .ref 251, .ref 252, .ref 253, .ref 254, .ref 255, .ref 256, .ref 257], vm := .none },
  { cls := 8, slots := #[.int (-128)], vm := .none },
  { cls := 8, slots := #[.int (-127)], vm := .none },
  { cls := 8, slots := #[.int (-126)], vm := .none },
  { cls := 8, slots := #[.int (-125)], vm := .none },
  { cls := 8, slots := #[.int (-124)], vm := .none },
  { cls := 8, slots := #[.int (-123)], vm := .none },
  { cls := 8, slots := #[.int (-122)], vm := .none },
  { cls := 8, slots := #[.int (-121)], vm := .none },
  { cls := 8, slots := #[.int (-120)], vm := .none },
  { cls := 8, slots := #[.int (-119)], vm := .none },
  { cls := 8, slots := #[.int (-118)], vm := .none },
  { cls := 8, slots := #[.int (-117)], vm := .none },
  { cls := 8, slots := #[.int (-116)], vm := .none },
  { cls := 8, slots := #[.int (-115)], vm := .none },
  { cls := 8, slots := #[.int (-114)], vm := .none },
  { cls := 8, slots := #[.int (-113)], vm := .none },
  { cls := 8, slots := #[.int (-112)], vm := .none },
  { cls := 8, slots := #[.int (-111)], vm := .none },
  { cls := 8, slots := #[.int (-110)], vm := .none },
  { cls := 8, slots := #[.int (-109)], vm := .none },
  { cls := 8, slots := #[.int (-108)], vm := .none },
  { cls := 8, slots := #[.int (-107)], vm := .none },
  { cls := 8, slots := #[.int (-106)], vm := .none },
  { cls := 8, slots := #[.int (-105)], vm := .none },
  { cls := 8, slots := #[.int (-104)], vm := .none },
  { cls := 8, slots := #[.int (-103)], vm := .none },
  { cls := 8, slots := #[.int (-102)], vm := .none },
  { cls := 8, slots := #[.int (-101)], vm := .none },
  { cls := 8, slots := #[.int (-100)], vm := .none },
  { cls := 8, slots := #[.int (-99)], vm := .none },
  { cls := 8, slots := #[.int (-98)], vm := .none },
  { cls := 8, slots := #[.int (-97)], vm := .none },
  { cls := 8, slots := #[.int (-96)], vm := .none },
  { cls := 8, slots := #[.int (-95)], vm := .none },
  { cls := 8, slots := #[.int (-94)], vm := .none },
  { cls := 8, slots := #[.int (-93)], vm := .none },
  { cls := 8, slots := #[.int (-92)], vm := .none },
  { cls := 8, slots := #[.int (-91)], vm := .none },
  { cls := 8, slots := #[.int (-90)], vm := .none },
  { cls := 8, slots := #[.int (-89)], vm := .none },
  { cls := 8, slots := #[.int (-88)], vm := .none },
  { cls := 8, slots := #[.int (-87)], vm := .none },
  { cls := 8, slots := #[.int (-86)], vm := .none },
  { cls := 8, slots := #[.int (-85)], vm := .none },
  { cls := 8, slots := #[.int (-84)], vm := .none },
  { cls := 8, slots := #[.int (-83)], vm := .none },
  { cls := 8, slots := #[.int (-82)], vm := .none },
  { cls := 8, slots := #[.int (-81)], vm := .none },
  { cls := 8, slots := #[.int (-80)], vm := .none },
  { cls := 8, slots := #[.int (-79)], vm := .none },
  { cls := 8, slots := #[.int (-78)], vm := .none },
  { cls := 8, slots := #[.int (-77)], vm := .none },
  { cls := 8, slots := #[.int (-76)], vm := .none },
  { cls := 8, slots := #[.int (-75)], vm := .none },
  { cls := 8, slots := #[.int (-74)], vm := .none },
  { cls := 8, slots := #[.int (-73)], vm := .none },
  { cls := 8, slots := #[.int (-72)], vm := .none },
  { cls := 8, slots := #[.int (-71)], vm := .none },
  { cls := 8, slots := #[.int (-70)], vm := .none },
  { cls := 8, slots := #[.int (-69)], vm := .none },
  { cls := 8, slots := #[.int (-68)], vm := .none },
  { cls := 8, slots := #[.int (-67)], vm := .none },
  { cls := 8, slots := #[.int (-66)], vm := .none },
  { cls := 8, slots := #[.int (-65)], vm := .none },
  { cls := 8, slots := #[.int (-64)], vm := .none },
  { cls := 8, slots := #[.int (-63)], vm := .none },
  { cls := 8, slots := #[.int (-62)], vm := .none },
  { cls := 8, slots := #[.int (-61)], vm := .none },
  { cls := 8, slots := #[.int (-60)], vm := .none },
  { cls := 8, slots := #[.int (-59)], vm := .none },
  { cls := 8, slots := #[.int (-58)], vm := .none },
  { cls := 8, slots := #[.int (-57)], vm := .none },
  { cls := 8, slots := #[.int (-56)], vm := .none },
  { cls := 8, slots := #[.int (-55)], vm := .none },
  { cls := 8, slots := #[.int (-54)], vm := .none },
  { cls := 8, slots := #[.int (-53)], vm := .none },
  { cls := 8, slots := #[.int (-52)], vm := .none },
  { cls := 8, slots := #[.int (-51)], vm := .none },
  { cls := 8, slots := #[.int (-50)], vm := .none },
  { cls := 8, slots := #[.int (-49)], vm := .none },
  { cls := 8, slots := #[.int (-48)], vm := .none },
  { cls := 8, slots := #[.int (-47)], vm := .none },
  { cls := 8, slots := #[.int (-46)], vm := .none },
  { cls := 8, slots := #[.int (-45)], vm := .none },
  { cls := 8, slots := #[.int (-44)], vm := .none },
  { cls := 8, slots := #[.int (-43)], vm := .none },
  { cls := 8, slots := #[.int (-42)], vm := .none },
  { cls := 8, slots := #[.int (-41)], vm := .none },
  { cls := 8, slots := #[.int (-40)], vm := .none },
  { cls := 8, slots := #[.int (-39)], vm := .none },
  { cls := 8, slots := #[.int (-38)], vm := .none },
  { cls := 8, slots := #[.int (-37)], vm := .none },
  { cls := 8, slots := #[.int (-36)], vm := .none },
  { cls := 8, slots := #[.int (-35)], vm := .none },
  { cls := 8, slots := #[.int (-34)], vm := .none },
  { cls := 8, slots := #[.int (-33)], vm := .none },
  { cls := 8, slots := #[.int (-32)], vm := .none },
  { cls := 8, slots := #[.int (-31)], vm := .none },
  { cls := 8, slots := #[.int (-30)], vm := .none },
  { cls := 8, slots := #[.int (-29)], vm := .none },
  { cls := 8, slots := #[.int (-28)], vm := .none },
  { cls := 8, slots := #[.int (-27)], vm := .none },
  { cls := 8, slots := #[.int (-26)], vm := .none },
  { cls := 8, slots := #[.int (-25)], vm := .none },
  { cls := 8, slots := #[.int (-24)], vm := .none },
  { cls := 8, slots := #[.int (-23)], vm := .none },
  { cls := 8, slots := #[.int (-22)], vm := .none },
  { cls := 8, slots := #[.int (-21)], vm := .none },
  { cls := 8, slots := #[.int (-20)], vm := .none },
  { cls := 8, slots := #[.int (-19)], vm := .none },
  { cls := 8, slots := #[.int (-18)], vm := .none },
  { cls := 8, slots := #[.int (-17)], vm := .none },
  { cls := 8, slots := #[.int (-16)], vm := .none },
  { cls := 8, slots := #[.int (-15)], vm := .none },
  { cls := 8, slots := #[.int (-14)], vm := .none },
  { cls := 8, slots := #[.int (-13)], vm := .none },
  { cls := 8, slots := #[.int (-12)], vm := .none },
  { cls := 8, slots := #[.int (-11)], vm := .none },
  { cls := 8, slots := #[.int (-10)], vm := .none },
  { cls := 8, slots := #[.int (-9)], vm := .none },
  { cls := 8, slots := #[.int (-8)], vm := .none },
  { cls := 8, slots := #[.int (-7)], vm := .none },
  { cls := 8, slots := #[.int (-6)], vm := .none },
  { cls := 8, slots := #[.int (-5)], vm := .none },
  { cls := 8, slots := #[.int (-4)], vm := .none },
  { cls := 8, slots := #[.int (-3)], vm := .none },
  { cls := 8, slots := #[.int (-2)], vm := .none },
  { cls := 8, slots := #[.int (-1)], vm := .none },
  { cls := 8, slots := #[.int 0], vm := .none },
  { cls := 8, slots := #[.int 1], vm := .none },
  { cls := 8, slots := #[.int 2], vm := .none },
  { cls := 8, slots := #[.int 3], vm := .none },
  { cls := 8, slots := #[.int 4], vm := .none },
  { cls := 8, slots := #[.int 5], vm := .none },
  { cls := 8, slots := #[.int 6], vm := .none },
  { cls := 8, slots := #[.int 7], vm := .none },
  { cls := 8, slots := #[.int 8], vm := .none },
  { cls := 8, slots := #[.int 9], vm := .none },
  { cls := 8, slots := #[.int 10], vm := .none },
  { cls := 8, slots := #[.int 11], vm := .none },
  { cls := 8, slots := #[.int 12], vm := .none },
  { cls := 8, slots := #[.int 13], vm := .none },
  { cls := 8, slots := #[.int 14], vm := .none },
  { cls := 8, slots := #[.int 15], vm := .none },
  { cls := 8, slots := #[.int 16], vm := .none },
  { cls := 8, slots := #[.int 17], vm := .none },
  { cls := 8, slots := #[.int 18], vm := .none },
  { cls := 8, slots := #[.int 19], vm := .none },
  { cls := 8, slots := #[.int 20], vm := .none },
  { cls := 8, slots := #[.int 21], vm := .none },
  { cls := 8, slots := #[.int 22], vm := .none },
  { cls := 8, slots := #[.int 23], vm := .none },
  { cls := 8, slots := #[.int 24], vm := .none },
  { cls := 8, slots := #[.int 25], vm := .none },
  { cls := 8, slots := #[.int 26], vm := .none },
  { cls := 8, slots := #[.int 27], vm := .none },
  { cls := 8, slots := #[.int 28], vm := .none },
  { cls := 8, slots := #[.int 29], vm := .none },
  { cls := 8, slots := #[.int 30], vm := .none },
  { cls := 8, slots := #[.int 31], vm := .none },
  { cls := 8, slots := #[.int 32], vm := .none },
  { cls := 8, slots := #[.int 33], vm := .none },
  { cls := 8, slots := #[.int 34], vm := .none },
  { cls := 8, slots := #[.int 35], vm := .none },
  { cls := 8, slots := #[.int 36], vm := .none },
  { cls := 8, slots := #[.int 37], vm := .none },
  { cls := 8, slots := #[.int 38], vm := .none },
  { cls := 8, slots := #[.int 39], vm := .none },
  { cls := 8, slots := #[.int 40], vm := .none },
  { cls := 8, slots := #[.int 41], vm := .none },
  { cls := 8, slots := #[.int 42], vm := .none },
  { cls := 8, slots := #[.int 43], vm := .none },
  { cls := 8, slots := #[.int 44], vm := .none },
  { cls := 8, slots := #[.int 45], vm := .none },
  { cls := 8, slots := #[.int 46], vm := .none },
  { cls := 8, slots := #[.int 47], vm := .none },
  { cls := 8, slots := #[.int 48], vm := .none },
  { cls := 8, slots := #[.int 49], vm := .none },
  { cls := 8, slots := #[.int 50], vm := .none },
  { cls := 8, slots := #[.int 51], vm := .none },
  { cls := 8, slots := #[.int 52], vm := .none },
  { cls := 8, slots := #[.int 53], vm := .none },
  { cls := 8, slots := #[.int 54], vm := .none },
  { cls := 8, slots := #[.int 55], vm := .none },
  { cls := 8, slots := #[.int 56], vm := .none },
  { cls := 8, slots := #[.int 57], vm := .none },
  { cls := 8, slots := #[.int 58], vm := .none },
  { cls := 8, slots := #[.int 59], vm := .none },
  { cls := 8, slots := #[.int 60], vm := .none },
  { cls := 8, slots := #[.int 61], vm := .none },
  { cls := 8, slots := #[.int 62], vm := .none },
  { cls := 8, slots := #[.int 63], vm := .none },
  { cls := 8, slots := #[.int 64], vm := .none },
  { cls := 8, slots := #[.int 65], vm := .none },
  { cls := 8, slots := #[.int 66], vm := .none },
  { cls := 8, slots := #[.int 67], vm := .none },
  { cls := 8, slots := #[.int 68], vm := .none },
  { cls := 8, slots := #[.int 69], vm := .none },
  { cls := 8, slots := #[.int 70], vm := .none },
  { cls := 8, slots := #[.int 71], vm := .none },
  { cls := 8, slots := #[.int 72], vm := .none },
  { cls := 8, slots := #[.int 73], vm := .none },
  { cls := 8, slots := #[.int 74], vm := .none },
  { cls := 8, slots := #[.int 75], vm := .none },
  { cls := 8, slots := #[.int 76], vm := .none },
  { cls := 8, slots := #[.int 77], vm := .none },
  { cls := 8, slots := #[.int 78], vm := .none },
  { cls := 8, slots := #[.int 79], vm := .none },
  { cls := 8, slots := #[.int 80], vm := .none },
  { cls := 8, slots := #[.int 81], vm := .none },
  { cls := 8, slots := #[.int 82], vm := .none },
  { cls := 8, slots := #[.int 83], vm := .none },
  { cls := 8, slots := #[.int 84], vm := .none },
  { cls := 8, slots := #[.int 85], vm := .none },
  { cls := 8, slots := #[.int 86], vm := .none },
  { cls := 8, slots := #[.int 87], vm := .none },
  { cls := 8, slots := #[.int 88], vm := .none },
  { cls := 8, slots := #[.int 89], vm := .none },
  { cls := 8, slots := #[.int 90], vm := .none },
  { cls := 8, slots := #[.int 91], vm := .none },
  { cls := 8, slots := #[.int 92], vm := .none },
  { cls := 8, slots := #[.int 93], vm := .none },
  { cls := 8, slots := #[.int 94], vm := .none },
  { cls := 8, slots := #[.int 95], vm := .none },
  { cls := 8, slots := #[.int 96], vm := .none },
  { cls := 8, slots := #[.int 97], vm := .none },
  { cls := 8, slots := #[.int 98], vm := .none },
  { cls := 8, slots := #[.int 99], vm := .none },
  { cls := 8, slots := #[.int 100], vm := .none },
  { cls := 8, slots := #[.int 101], vm := .none },
  { cls := 8, slots := #[.int 102], vm := .none },
  { cls := 8, slots := #[.int 103], vm := .none },
  { cls := 8, slots := #[.int 104], vm := .none },
  { cls := 8, slots := #[.int 105], vm := .none },
  { cls := 8, slots := #[.int 106], vm := .none },
  { cls := 8, slots := #[.int 107], vm := .none },
  { cls := 8, slots := #[.int 108], vm := .none },
  { cls := 8, slots := #[.int 109], vm := .none },
  { cls := 8, slots := #[.int 110], vm := .none },
  { cls := 8, slots := #[.int 111], vm := .none },
  { cls := 8, slots := #[.int 112], vm := .none },
  { cls := 8, slots := #[.int 113], vm := .none },
  { cls := 8, slots := #[.int 114], vm := .none },
  { cls := 8, slots := #[.int 115], vm := .none },
  { cls := 8, slots := #[.int 116], vm := .none },
  { cls := 8, slots := #[.int 117], vm := .none },
  { cls := 8, slots := #[.int 118], vm := .none },
  { cls := 8, slots := #[.int 119], vm := .none },
  { cls := 8, slots := #[.int 120], vm := .none },
  { cls := 8, slots := #[.int 121], vm := .none },
  { cls := 8, slots := #[.int 122], vm := .none },
  { cls := 8, slots := #[.int 123], vm := .none },
  { cls := 8, slots := #[.int 124], vm := .none },
  { cls := 8, slots := #[.int 125], vm := .none },
  { cls := 8, slots := #[.int 126], vm := .none },
  { cls := 8, slots := #[.int 127], vm := .none }]
def classes : Array Class := #[k0, k1, k2, k3, k4, k5, k6, k7, k8, k9, k10, k11, k12, k13, k14, k15]
def interned : List (Array UInt16 × Addr) := []
def slotsUsed : Nat := 517
def theMethod : MethodId := ⟨1, 1⟩
def args0 : Array Value := #[.int 5, .int 24, .int 3, .int 9, .int 0]
def aboutOver (below : List Frame) : State where
  vm := { classes := classes, interned := interned.toArray }
  heap := heap
  slotsUsed := slotsUsed
  threads := #[{ frames := .invoking theMethod args0 :: below }]
def below0 : List Frame := [.native { method := ⟨0, 0⟩, args := #[] }]
def about1 : State := aboutOver below0
def p0 : Program := .bare "" "" ""
def e0 : Env := launch0.env 0 0 0
theorem w_frames : about1.frames = Frame.invoking theMethod args0 :: below0 := rfl
set_option maxRecDepth 65536 in
theorem w_args : argsFit about1.vm theMethod args0 = true := by decide +kernel
set_option maxRecDepth 65536 in
theorem w_heap : heapFits about1 = true := by decide +kernel
set_option maxRecDepth 65536 in
theorem w_runnable : about1.curStatus? = some .runnable := by decide +kernel
set_option maxRecDepth 65536 in
theorem w_alone : about1.alone = true := by decide +kernel
set_option maxRecDepth 65536 in
theorem w_named : about1.methodNamed? x = some theMethod := by decide +kernel
set_option maxRecDepth 65536 in
theorem w_hears : about1.hears theMethod below0 = true := by decide +kernel
set_option maxRecDepth 65536 in
theorem w_ripe : about1.ripe theMethod args0 below0 = true := by decide +kernel
theorem w_running : about1.status = .running := rfl
set_option maxRecDepth 65536 in
theorem w_room : about1.hasRoom e0.platform room_1 = true :=
  launch0.hasRoom_least _ room_1 (by decide +kernel) (by decide +kernel) (by decide +kernel) (by decide +kernel) (by decide +kernel) (by decide +kernel)
theorem allAtoms_all (ts : List Jvm.Cond) (a : Array Jvm.Value) (st : Jvm.State) : (allAtoms ts).before a st = ts.all (fun c => c.before a st) := by
  induction ts with
  | nil => rfl
  | cons c t ih =>
    show (Jvm.Cond.and c (allAtoms t)).before a st = _
    rw [Jvm.Cond.before_and, ih, List.all_cons]
def words1 : List Jvm.Cond := Jvm.Cond.code x code maxLocals ret :: tables_1
/-- a 'code' word, met by the world's own term for the bytes: nothing is compared byte by byte -/
theorem code_word {y : MethodName} {bytes : ByteArray} {mx : Nat} {rt : Option FieldType} {a : Array Value} {s : State} {m : MethodId} {meth : Method} {c : Code} (h1 : s.methodNamed? y = some m) (h2 : s.vm.method? m = some meth) (h3 : meth.code = some c) (h4 : c.code = bytes)
    (h5 : (c.maxLocals == mx && c.exceptionTable.isEmpty && decide (c.maxStack ≤ mostOperands) && decide (meth.sig.returnType = rt) && !meth.locks && decide (parseMethodDescriptor y.desc = some meth.sig)) = true) : (Jvm.Cond.code y bytes mx rt).before a s = true := by
  simp only [Bool.and_eq_true, beq_iff_eq, Bool.not_eq_true', decide_eq_true_eq] at h5
  obtain ⟨⟨⟨⟨⟨g1, g2⟩, g3⟩, g4⟩, g5⟩, g6⟩ := h5
  simp [Cond.before, Cond.holds, Cond.value, h1, h2, h3, h4, g1, g2, g3, g4, g5, g6]
def isCode : Jvm.Cond → Bool
  | .code _ _ _ _ => true
  | _ => false
theorem all_split {L : List Jvm.Cond} {P : Jvm.Cond → Bool} (h1 : L.all (fun c => isCode c || P c) = true) (h2 : ∀ c ∈ L.filter isCode, P c = true) : L.all P = true := by
  refine List.all_eq_true.mpr fun c hc => ?_
  have h := List.all_eq_true.mp h1 c hc
  rcases Bool.eq_false_or_eq_true (isCode c) with hi | hi
  · exact h2 c (List.mem_filter.mpr ⟨hc, hi⟩)
  · simpa [hi] using h
set_option maxRecDepth 65536 in
theorem w_c0 : (Jvm.Cond.code x code maxLocals ret).before args0 about1 = true := code_word (m := ⟨1, 1⟩) (meth := k1m1) (c := k1c1) (by decide +kernel) rfl rfl rfl (by decide +kernel)
set_option maxRecDepth 65536 in
theorem w_c1 : (Jvm.Cond.code ({ cls := "com/example/keen_router/keenrouter/forwarding/packet/Ipv4Prefix", name := "<init>", desc := "(II)V" } : Jvm.MethodName) prog_30_method_1_code (3 : Nat) (Option.none : Option Jvm.ClassFile.FieldType)).before args0 about1 = true := code_word (m := ⟨2, 0⟩) (meth := k2m0) (c := k2c0) (by decide +kernel) rfl rfl rfl (by decide +kernel)
set_option maxRecDepth 65536 in
theorem w_c2 : (Jvm.Cond.code ({ cls := "java/lang/Object", name := "<init>", desc := "()V" } : Jvm.MethodName) object_method_1_code (1 : Nat) (Option.none : Option Jvm.ClassFile.FieldType)).before args0 about1 = true := code_word (m := ⟨0, 0⟩) (meth := k0m0) (c := k0c0) (by decide +kernel) rfl rfl rfl (by decide +kernel)
set_option maxRecDepth 65536 in
theorem w_c3 : (Jvm.Cond.code ({ cls := "com/example/keen_router/keenrouter/forwarding/packet/Ipv4Prefix", name := "equals", desc := "(Ljava/lang/Object;)Z" } : Jvm.MethodName) prog_30_method_10_code (3 : Nat) (Option.some Jvm.ClassFile.FieldType.boolean)).before args0 about1 = true := code_word (m := ⟨2, 1⟩) (meth := k2m1) (c := k2c1) (by decide +kernel) rfl rfl rfl (by decide +kernel)
set_option maxRecDepth 65536 in
theorem w_c4 : (Jvm.Cond.code ({ cls := "java/lang/Integer", name := "valueOf", desc := "(I)Ljava/lang/Integer;" } : Jvm.MethodName) jdk_33_method_22_code (1 : Nat) (Option.some (Jvm.ClassFile.FieldType.object "java/lang/Integer"))).before args0 about1 = true := code_word (m := ⟨8, 0⟩) (meth := k8m0) (c := k8c0) (by decide +kernel) rfl rfl rfl (by decide +kernel)
set_option maxRecDepth 65536 in
theorem w_c5 : (Jvm.Cond.code ({ cls := "java/lang/Integer", name := "<init>", desc := "(I)V" } : Jvm.MethodName) jdk_33_method_23_code (2 : Nat) (Option.none : Option Jvm.ClassFile.FieldType)).before args0 about1 = true := code_word (m := ⟨8, 1⟩) (meth := k8m1) (c := k8c1) (by decide +kernel) rfl rfl rfl (by decide +kernel)
set_option maxRecDepth 65536 in
theorem w_c6 : (Jvm.Cond.code ({ cls := "java/lang/Number", name := "<init>", desc := "()V" } : Jvm.MethodName) jdk_18_method_1_code (1 : Nat) (Option.none : Option Jvm.ClassFile.FieldType)).before args0 about1 = true := code_word (m := ⟨4, 0⟩) (meth := k4m0) (c := k4c0) (by decide +kernel) rfl rfl rfl (by decide +kernel)
def codes1 : List Jvm.Cond := [Jvm.Cond.code x code maxLocals ret, Jvm.Cond.code ({ cls := "com/example/keen_router/keenrouter/forwarding/packet/Ipv4Prefix", name := "<init>", desc := "(II)V" } : Jvm.MethodName) prog_30_method_1_code (3 : Nat) (Option.none : Option Jvm.ClassFile.FieldType), Jvm.Cond.code ({ cls := "java/lang/Object", name := "<init>", desc := "()V" } : Jvm.MethodName) object_method_1_code (1 : Nat) (Option.none : Option Jvm.ClassFile.FieldType), Jvm.Cond.code ({ cls := "com/example/keen_router/keenrouter/forwarding/packet/Ipv4Prefix", name := "equals", desc := "(Ljava/lang/Object;)Z" } : Jvm.MethodName) prog_30_method_10_code (3 : Nat) (Option.some Jvm.ClassFile.FieldType.boolean), Jvm.Cond.code ({ cls := "java/lang/Integer", name := "valueOf", desc := "(I)Ljava/lang/Integer;" } : Jvm.MethodName) jdk_33_method_22_code (1 : Nat) (Option.some (Jvm.ClassFile.FieldType.object "java/lang/Integer")), Jvm.Cond.code ({ cls := "java/lang/Integer", name := "<init>", desc := "(I)V" } : Jvm.MethodName) jdk_33_method_23_code (2 : Nat) (Option.none : Option Jvm.ClassFile.FieldType), Jvm.Cond.code ({ cls := "java/lang/Number", name := "<init>", desc := "()V" } : Jvm.MethodName) jdk_18_method_1_code (1 : Nat) (Option.none : Option Jvm.ClassFile.FieldType)]
set_option maxRecDepth 65536 in
theorem codes_eq : words1.filter isCode = codes1 := rfl
theorem w_codes : ∀ c ∈ words1.filter isCode, c.before args0 about1 = true := by
  rw [codes_eq]
  intro c hc
  simp only [codes1, List.mem_cons, List.not_mem_nil, or_false] at hc
  rcases hc with rfl | rfl | rfl | rfl | rfl | rfl | rfl
  · exact w_c0
  · exact w_c1
  · exact w_c2
  · exact w_c3
  · exact w_c4
  · exact w_c5
  · exact w_c6
set_option maxRecDepth 65536 in
theorem w_t1 : (words1.take 24).all (fun c => isCode c || c.before args0 about1) = true := by decide +kernel
set_option maxRecDepth 65536 in
theorem w_t2 : (words1.drop 24).all (fun c => isCode c || c.before args0 about1) = true := by decide +kernel
theorem w_tables : (allAtoms (Jvm.Cond.code x code maxLocals ret :: tables_1)).before args0 about1 = true := by
  rw [allAtoms_all]
  show words1.all (fun c => c.before args0 about1) = true
  refine all_split ?_ w_codes
  rw [← List.take_append_drop 24 words1, List.all_append, w_t1, w_t2]
  rfl
set_option maxRecDepth 65536 in
theorem w_rest : rest_1_c.before args0 about1 = true := by decide +kernel
set_option maxRecDepth 65536 in
theorem w_case : (Jvm.Cond.and given_1 narrow_1).before args0 about1 = true := by decide +kernel
theorem w_applies : (headSpec (Jvm.Cond.code x code maxLocals ret :: tables_1) room_1).applies x e0.platform about1 = true :=
  (Spec.applies_iff w_frames).mpr ⟨w_running, w_runnable, w_alone, w_named, w_hears, w_ripe, w_room, w_tables⟩
theorem atStart : AtStart classFile x code maxLocals ret World_1 tables_1 room_1 Calls_1 rest_1 Pre_1 launch0 p0 e0 about1 theMethod args0 below0 :=
  ⟨lists_1, trivial, launch0.admits_env _ _ _, launch0.least_env, fairChoices_fair.cas, fairChoices_fair.clock, w_frames, w_args, w_heap, w_applies, trivial, w_rest, w_case⟩
end start1
theorem witness_1 : WitnessClaimed_1 := ⟨start1.p0, start1.e0, start1.about1, start1.theMethod, start1.args0, start1.below0, start1.atStart⟩
end Jvm.Pilot.@@N@@
