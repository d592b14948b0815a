import JvmDerived
import JvmDerived.Pilot.@@N@@Statement
import JvmDerived.Pilot.@@N@@Code
set_option linter.unusedVariables false
set_option linter.unusedSimpArgs false
namespace Jvm.Pilot.@@N@@
open Jvm Jvm.ClassFile Sem Op Lib Jvm.Free Jvm.Stand Jvm.LawKit Jvm.RoadKit Bundle Jvm.Pilot.@@N@@.Jvm.D
section OwnKit
variable {p : Program} {l : Launch} {e : Env} {R : Room} {s : State} {m : MethodId} {args : Array Value} {below : List Frame} {meth : Method} {c : Code} {T : State} {locs : List Loc} {cells slots : Nat} {Z : State} {a0 : Array Value} {h : Heap} {W : State → Outcome → Prop}
/-- what a walk owes from a frame on -/
def Go (p : Program) (e : Env) (below : List Frame) (W : State → Outcome → Prop) (T : State) (g : JFrame) : Prop := ∃ t o, Steps p.tables e below (T.setTop g) t ∧ t.status = .running ∧ Ended t below o ∧ W t o
theorem Go.of {T T' : State} {g g' : JFrame} (q : ∀ t, Steps p.tables e below (T'.setTop g') t → Steps p.tables e below (T.setTop g) t) (k : Go p e below W T' g') : Go p e below W T g := by
  obtain ⟨t, o, h1, h2⟩ := k
  exact ⟨t, o, q t h1, h2⟩
theorem Go.ret (X : Stand p l e R s m args below meth c T locs cells slots) {g : JFrame} {v : Option Value} (hv : meth.sig.returnType = none → v = none) (hk : meth.locks = false)
    (st : ∀ fs, (∀ (f : JFrame) (acts : List Action), f.method = m → f.locked = none → f.entered = [] → (doReturn e (T.setTop f) acts v).1 = T.setFrames fs) → Steps p.tables e below (T.setTop g) (T.setFrames fs))
    (hq : ∀ t : State, t.heap = T.heap → FrameEnd s (.returned v) t locs cells slots → W t (.returned v)) : Go p e below W T g := by
  obtain ⟨fs, hr, hrun, hended, hW, hsame⟩ := X.leave (v := v) hv hk
  exact ⟨_, _, st fs hr, hrun, hended, hq _ rfl ⟨⟨_, rfl⟩, hW, hsame⟩⟩
/-- ireturn of a boolean, byte, char, short -/
theorem Go.retN (X : Stand p l e R s m args below meth c T locs cells slots) (hx : p.tables.exec = Jvm.exec) {pc : Nat} {Ls : Array Slot} {z w : Int32} {t : FieldType} {rest : List Value} (hret : meth.sig.returnType = some t) (ht : t = .boolean ∨ t = .byte ∨ t = .char ∨ t = .short) (hd : decode c.code pc = .ok (.ireturn, 1)) (hk : meth.locks = false) (hn : nar t z = w)
    (hq : ∀ t : State, t.heap = T.heap → FrameEnd s (.returned (some (.int w))) t locs cells slots → W t (.returned (some (.int w)))) : Go p e below W T (mkF m pc Ls (.int z :: rest)) := by
  subst hn
  exact Go.ret X (fun q => by rw [hret] at q; cases q) hk (fun fs hr => Jvm.RoadKit.retN X hx hret ht hd hr) hq
theorem Go.retI (X : Stand p l e R s m args below meth c T locs cells slots) (hx : p.tables.exec = Jvm.exec) {pc : Nat} {Ls : Array Slot} {z w : Int32} {rest : List Value} (hret : meth.sig.returnType = some .int) (hd : decode c.code pc = .ok (.ireturn, 1)) (hk : meth.locks = false) (hn : z = w)
    (hq : ∀ t : State, t.heap = T.heap → FrameEnd s (.returned (some (.int w))) t locs cells slots → W t (.returned (some (.int w)))) : Go p e below W T (mkF m pc Ls (.int z :: rest)) := by
  subst hn
  exact Go.ret X (fun q => by rw [hret] at q; cases q) hk (fun fs hr => retOut X hx hret rfl (Or.inl ⟨rfl, Or.inl rfl, z, rfl⟩) hd hr) hq
theorem Go.retJ (X : Stand p l e R s m args below meth c T locs cells slots) (hx : p.tables.exec = Jvm.exec) {pc : Nat} {Ls : Array Slot} {z w : Int64} {rest : List Value} (hret : meth.sig.returnType = some .long) (hd : decode c.code pc = .ok (.lreturn, 1)) (hk : meth.locks = false) (hn : z = w)
    (hq : ∀ t : State, t.heap = T.heap → FrameEnd s (.returned (some (.long w))) t locs cells slots → W t (.returned (some (.long w)))) : Go p e below W T (mkF m pc Ls (.long z :: rest)) := by
  subst hn
  exact Go.ret X (fun q => by rw [hret] at q; cases q) hk (fun fs hr => retOut X hx hret rfl (Or.inr (Or.inl ⟨rfl, rfl, z, rfl⟩)) hd hr) hq
theorem Go.retA (X : Stand p l e R s m args below meth c T locs cells slots) (hx : p.tables.exec = Jvm.exec) {pc : Nat} {Ls : Array Slot} {t : FieldType} {a : Addr} {rest : List Value} (hret : meth.sig.returnType = some t) (ht : t.isReference = true) (hnr : narrow t (.ref a) = .ref a) (hd : decode c.code pc = .ok (.areturn, 1)) (hk : meth.locks = false)
    (hq : ∀ t : State, t.heap = T.heap → FrameEnd s (.returned (some (.ref a))) t locs cells slots → W t (.returned (some (.ref a)))) : Go p e below W T (mkF m pc Ls (.ref a :: rest)) :=
  Go.ret X (fun q => by rw [hret] at q; cases q) hk (fun fs hr => retOut X hx hret hnr (Or.inr (Or.inr (Or.inr (Or.inr ⟨rfl, ht, rfl⟩)))) hd hr) hq
theorem Go.retV (X : Stand p l e R s m args below meth c T locs cells slots) (hx : p.tables.exec = Jvm.exec) {pc : Nat} {Ls : Array Slot} (hret : meth.sig.returnType = none) (hd : decode c.code pc = .ok (.return_, 1)) (hk : meth.locks = false)
    (hq : ∀ t : State, t.heap = T.heap → FrameEnd s (.returned none) t locs cells slots → W t (.returned none)) : Go p e below W T (mkF m pc Ls []) :=
  Go.ret X (fun _ => rfl) hk (fun fs hr => X.returnOut hx hret hd hr) hq
/-- a body's contract out of its walk -/
theorem own_body {y : MethodName} {bytes : ByteArray} {maxL : Nat} {ret : Option FieldType} {ws : List Jvm.Cond} {rm : Room} {as' : Array Value} {Q : Option Value → Heap → List Loc → Prop} {Ls : Array Slot} (hpn : plainFor y = true) (hef : ∀ m, entryFrame m as' maxL = mkF m 0 Ls [])
    (walk : ∀ (p : Program) (e : Env) (s : State) (m : MethodId) (below : List Frame) (meth : Method) (c : Code) (T : State) (W : State → Outcome → Prop), Stand p l e rm s m as' below meth c T [] 0 0 → p.tables.exec = Jvm.exec → c.code = bytes → c.maxLocals = maxL → meth.sig.returnType = ret → meth.locks = false → s.vm.findClass y.cls = some m.cls → meth.name = y.name → Z.Warmed39 s.vm → T.heap = h →
      (∀ (t : State) v L cells slots, Q v t.heap L → FrameEnd s (.returned v) t L cells slots → cells ≤ rm.cells → slots ≤ rm.slots → W t (.returned v)) → Go p e below W T (mkF m 0 Ls [])) :
    MetFree l y (head1 (Jvm.Cond.code y bytes maxL ret :: ws) rm) (fun a U => a = as' ∧ Z.Warmed39 U.vm ∧ U.heap = h) (fun _ _ _ _ _ => True) (fun _ U o U' => ∃ v L, o = .returned v ∧ Q v U'.heap L ∧ FrameEnd U o U' L rm.cells rm.slots) := by
  refine MetFree.of_bodySF hpn hisR ?_
  intro p e s m args below meth c s₁ Bd hml hP hK
  obtain ⟨rfl, hZ, hh⟩ := hP
  obtain ⟨t, o, h1, h2, h3, h4⟩ := walk p e s m below meth c s₁ (fun t o => ∃ v L, o = .returned v ∧ Q v t.heap L ∧ FrameEnd s o t L rm.cells rm.slots) (Stand.of_body Bd) Bd.exec Bd.bytes hml Bd.returns (BodyLoose.notSynchronized Bd) (findClass_of_methodNamed Bd.named) (name_of_methodNamed Bd.named Bd.method).1 hZ (by rw [← hh, Bd.state]; rfl)
    (fun t v L cells slots hQ hF hc hs => ⟨v, L, rfl, hQ, hF.1, hF.2.1, hF.2.2.mono hc hs⟩)
  exact ⟨t, o, castTop (hef m) h1, h2, h3, h4⟩
/-- a contract, written short -/
abbrev Con (l : Launch) (Z : State) (y : MethodName) (bytes : ByteArray) (maxL : Nat) (ret : Option FieldType) (ws : List Jvm.Cond) (rm : Room) (as' : Array Value) (h : Heap) (Q : Option Value → Heap → List Loc → Prop) : Prop :=
  MetFree l y (head1 (Jvm.Cond.code y bytes maxL ret :: ws) rm) (fun a U => a = as' ∧ Z.Warmed39 U.vm ∧ U.heap = h) (fun _ _ _ _ _ => True) (fun _ U o U' => ∃ v L, o = .returned v ∧ Q v U'.heap L ∧ FrameEnd U o U' L rm.cells rm.slots)
/-- what a callee that leaves the heap as it is says -/
def PQ (w : Value) (h0 : Heap) (v : Option Value) (h : Heap) (L : List Loc) : Prop := v = some w ∧ L = [] ∧ h = h0
theorem Go.callS (X : Stand p l e R s m args below meth c T locs cells slots) (hx : p.tables.exec = Jvm.exec) (hZ : Z.Warmed39 s.vm) {own : String} {index : Nat} {y : MethodName} {bytes : ByteArray} {maxL : Nat} {ret : Option FieldType} {rm : Room} {as' : Array Value} {Q : Option Value → Heap → List Loc → Prop} (hown : s.vm.findClass own = some m.cls)
    (w1 : (Jvm.Cond.methodLink own index y).before a0 Z = true) (w2 : (Jvm.Cond.static y).before a0 Z = true) (w3 : (Jvm.Cond.initialized y.cls).before a0 Z = true) (w4 : (Jvm.Cond.code y bytes maxL ret).before a0 Z = true) (hy : y.cls ≠ "java/lang/invoke/MethodHandle" ∧ y.cls ≠ "java/lang/invoke/VarHandle") (eT : T.heap = h)
    (hM : Con l Z y bytes maxL ret [] rm as' h Q) {V : Nat} (hf : rm.frames + 1 ≤ R.frames) (hl : V + (maxL + 11) + rm.locals ≤ R.locals) (hc : cells + rm.cells ≤ R.cells) (hs : slots + rm.slots ≤ R.slots)
    {pc : Nat} {Ls : Array Slot} {st : List Value} (hsize : Ls.size = c.maxLocals) {argsL rest : List Value} (has : argsL.toArray = as') (hlen : ∀ sig, parseMethodDescriptor y.desc = some sig → argsL.length = sig.parameters.length) (hstack : st = argsL.reverse ++ rest) (hV : (rest.map fun v => v.category).sum ≤ V) (hd : decode c.code pc = .ok (.invokestatic index, 3))
    (K : ∀ T' v L, Q v T'.heap L → Stand p l e R s m args below meth c T' (locs ++ L) (cells + rm.cells) (slots + rm.slots) → Go p e below W T' (mkF m (pc + 3) Ls (v.toList ++ rest))) : Go p e below W T (mkF m pc Ls st) := by
  obtain ⟨v, vm₁, ⟨T', L', k', n'⟩, -, X', ⟨L, hQ, e1, e2, e3⟩, st'⟩ := Jvm.LawKit.callS X hx hown (mvT hZ w1) (mvT hZ w2) (mvT hZ w3) (mvT hZ w4) hy (backOf (W := V) hM hZ w4 w3 hf hl) (g := mkF m pc Ls st) rfl hsize hlen hstack (by show 2 * 0 + _ ≤ _; omega) hd (fun _ _ => ⟨has, eT, hc, hs⟩)
  dsimp only [Pt.U, Pt.locs, Pt.cells, Pt.slots] at X' e1 e2 e3 st' hQ
  subst e1 e2 e3
  exact Go.of st' (K _ _ _ hQ X')
theorem Go.callP (X : Stand p l e R s m args below meth c T locs cells slots) (hx : p.tables.exec = Jvm.exec) (hZ : Z.Warmed39 s.vm) {own : String} {index : Nat} {y : MethodName} {bytes : ByteArray} {maxL : Nat} {ret : Option FieldType} {rm : Room} {as' : Array Value} {w : Value} (hown : s.vm.findClass own = some m.cls)
    (w1 : (Jvm.Cond.methodLink own index y).before a0 Z = true) (w2 : (Jvm.Cond.static y).before a0 Z = true) (w3 : (Jvm.Cond.initialized y.cls).before a0 Z = true) (w4 : (Jvm.Cond.code y bytes maxL ret).before a0 Z = true) (hy : y.cls ≠ "java/lang/invoke/MethodHandle" ∧ y.cls ≠ "java/lang/invoke/VarHandle") (eT : T.heap = h)
    (hM : Con l Z y bytes maxL ret [] rm as' h (PQ w h)) {V : Nat} (hf : rm.frames + 1 ≤ R.frames) (hl : V + (maxL + 11) + rm.locals ≤ R.locals) (z1 : rm.cells = 0) (z2 : rm.slots = 0) (hc : cells ≤ R.cells) (hs : slots ≤ R.slots)
    {pc : Nat} {Ls : Array Slot} {st : List Value} (hsize : Ls.size = c.maxLocals) {argsL rest : List Value} (has : argsL.toArray = as') (hlen : ∀ sig, parseMethodDescriptor y.desc = some sig → argsL.length = sig.parameters.length) (hstack : st = argsL.reverse ++ rest) (hV : (rest.map fun v => v.category).sum ≤ V) (hd : decode c.code pc = .ok (.invokestatic index, 3))
    (K : ∀ T', Stand p l e R s m args below meth c T' locs cells slots → T'.heap = h → Go p e below W T' (mkF m (pc + 3) Ls (w :: rest))) : Go p e below W T (mkF m pc Ls st) := by
  refine Go.callS X hx hZ hown w1 w2 w3 w4 hy eT hM hf hl (by rw [z1]; exact hc) (by rw [z2]; exact hs) hsize has hlen hstack hV hd ?_
  rintro T' v L ⟨rfl, rfl, h3⟩ X'
  rw [z1, z2, List.append_nil] at X'
  exact K T' X' h3
end OwnKit
section OwnHeap
variable {p : Program} {l : Launch} {e : Env} {R : Room} {s : State} {m : MethodId} {args : Array Value} {below : List Frame} {meth : Method} {c : Code} {T : State} {locs : List Loc} {cells slots : Nat} {Z : State} {a0 : Array Value} {h h' : Heap} {W : State → Outcome → Prop}
/-- an array: its kind, its length, the ints in its places -/
def AI (Z : State) (h : Heap) (a : Addr) (ty : FieldType) (n : Nat) (f : Nat → Int32) : Prop := ∃ cl : Cell, Arr Z h a cl ty ∧ cl.slots.size = n ∧ n < 2 ^ 31 ∧ ∀ j, j < n → cl.slots[j]? = some (.int (f j)) ∧ fits ty (.int (f j)) = true
theorem AI.lt {a : Addr} {ty : FieldType} {n : Nat} {f : Nat → Int32} (A : AI Z h a ty n f) : a < h.size := by obtain ⟨cl, A, -⟩ := A; exact A.lt
theorem AI.small {a : Addr} {ty : FieldType} {n : Nat} {f : Nat → Int32} (A : AI Z h a ty n f) : n < 2 ^ 31 := by obtain ⟨cl, -, -, h, -⟩ := A; exact h
theorem AI.ext {a : Addr} {ty : FieldType} {n : Nat} {f : Nat → Int32} (A : AI Z h a ty n f) (E : Ext h h') : AI Z h' a ty n f := by obtain ⟨cl, A, r⟩ := A; exact ⟨cl, A.ext E, r⟩
theorem AI.other {a b : Addr} {ty : FieldType} {n sl : Nat} {f : Nat → Int32} {v : Value} (A : AI Z h b ty n f) (W : Wr h h' a sl v) (q : b ≠ a) : AI Z h' b ty n f := by obtain ⟨cl, A, r⟩ := A; exact ⟨cl, A.other W q, r⟩
theorem AI.keep {a : Addr} {ty : FieldType} {n : Nat} {f : Nat → Int32} {ws : List Addr} (A : AI Z h a ty n f) (K : Keep h h' ws) (q : a ∉ ws) : AI Z h' a ty n f := by obtain ⟨cl, A, r⟩ := A; exact ⟨cl, ⟨K.2.1 a cl A.1 q, A.2⟩, r⟩
theorem AI.congr {a : Addr} {ty : FieldType} {n : Nat} {f g : Nat → Int32} (A : AI Z h a ty n f) (q : ∀ j, j < n → f j = g j) : AI Z h a ty n g := by obtain ⟨cl, A, r1, r2, r3⟩ := A; exact ⟨cl, A, r1, r2, fun j hj => by rw [← q j hj]; exact r3 j hj⟩
def upd (f : Nat → Int32) (i : Nat) (x : Int32) : Nat → Int32 := fun j => if j = i then x else f j
theorem AI.set {a : Addr} {ty : FieldType} {n i : Nat} {f : Nat → Int32} {x : Int32} (A : AI Z h a ty n f) (W : Wr h h' a i (.int x)) (hv : fits ty (.int x) = true) : AI Z h' a ty n (upd f i x) := by
  obtain ⟨cl, A, r1, r2, r3⟩ := A
  refine ⟨_, A.same W, by rw [sz_set]; exact r1, r2, fun j hj => ?_⟩
  simp only [Cell.setSlot, upd]
  by_cases q : j = i
  · subst q; rw [if_pos rfl]; exact ⟨by simp [r1, hj], hv⟩
  · rw [if_neg q, Array.getElem?_setIfInBounds_ne (Ne.symm q)]; exact r3 j hj
/-- a place within the length -/
def PV (h0 : Heap) (v : Option Value) (h : Heap) (L : List Loc) : Prop := v = none ∧ L = [] ∧ h = h0
def inb (j : Int32) (n : Nat) : Prop := ¬ j < 0 ∧ j.toNatClampNeg < n
theorem inb.no {cl : Cell} {j : Int32} {n : Nat} (q : inb j n) (r : cl.slots.size = n) : ¬ (j < 0 ∨ cl.slots.size ≤ j.toNatClampNeg) := by rw [r]; exact fun z => z.elim q.1 (fun z => absurd q.2 (Nat.not_lt.mpr z))
theorem Go.alen (X : Stand p l e R s m args below meth c T locs cells slots) (hx : p.tables.exec = Jvm.exec) (hZ : Z.Warmed39 s.vm) (eT : T.heap = h) {a : Addr} {ty : FieldType} {n : Nat} {f : Nat → Int32} (A : AI Z h a ty n f) {pc : Nat} {Ls : Array Slot} {st : List Value} (hd : decode c.code pc = .ok (.arraylength, 1))
    (K : Go p e below W T (mkF m (pc + 1) Ls (.int n.toInt32 :: st))) : Go p e below W T (mkF m pc Ls (.ref a :: st)) := by
  obtain ⟨cl, A, r1, -⟩ := A
  subst r1
  exact Go.of (fun t k => X.arraylength hx (by rw [eT]; exact A.1) (State.isArrayOf_alike hZ.alike A.2.1) (g := mkF m pc Ls (.ref a :: st)) rfl rfl hd t k) K
theorem Go.iald (X : Stand p l e R s m args below meth c T locs cells slots) (hx : p.tables.exec = Jvm.exec) (hZ : Z.Warmed39 s.vm) (eT : T.heap = h) {a : Addr} {n : Nat} {f : Nat → Int32} (A : AI Z h a .int n f) {j : Int32} (hj : inb j n) {pc : Nat} {Ls : Array Slot} {st : List Value} (hd : decode c.code pc = .ok (.iaload, 1))
    (K : Go p e below W T (mkF m (pc + 1) Ls (.int (f j.toNatClampNeg) :: st))) : Go p e below W T (mkF m pc Ls (.int j :: .ref a :: st)) := by
  obtain ⟨cl, A, r1, -, r3⟩ := A
  exact Go.of (fun t k => X.iaload hx (j := j) (v := .int (f j.toNatClampNeg)) (by rw [eT]; exact A.1) (State.isArrayOf_alike hZ.alike A.2.1) A.2.2 (hj.no r1) (r3 _ hj.2).1 (g := mkF m pc Ls (.int j :: .ref a :: st)) rfl rfl hd t k) K
theorem Go.cald (X : Stand p l e R s m args below meth c T locs cells slots) (hx : p.tables.exec = Jvm.exec) (hZ : Z.Warmed39 s.vm) (eT : T.heap = h) {a : Addr} {n : Nat} {f : Nat → Int32} (A : AI Z h a .char n f) {j : Int32} (hj : inb j n) {pc : Nat} {Ls : Array Slot} {st : List Value} (hd : decode c.code pc = .ok (.caload, 1))
    (K : Go p e below W T (mkF m (pc + 1) Ls (.int (f j.toNatClampNeg) :: st))) : Go p e below W T (mkF m pc Ls (.int j :: .ref a :: st)) := by
  obtain ⟨cl, A, r1, -, r3⟩ := A
  exact Go.of (fun t k => X.caload hx (j := j) (v := .int (f j.toNatClampNeg)) (by rw [eT]; exact A.1) (State.isArrayOf_alike hZ.alike A.2.1) A.2.2 (hj.no r1) (r3 _ hj.2).1 (g := mkF m pc Ls (.int j :: .ref a :: st)) rfl rfl hd t k) K
theorem Go.bald (X : Stand p l e R s m args below meth c T locs cells slots) (hx : p.tables.exec = Jvm.exec) (hZ : Z.Warmed39 s.vm) (eT : T.heap = h) {a : Addr} {n : Nat} {f : Nat → Int32} (A : AI Z h a .byte n f) {j : Int32} (hj : inb j n) {pc : Nat} {Ls : Array Slot} {st : List Value} (hd : decode c.code pc = .ok (.baload, 1))
    (K : Go p e below W T (mkF m (pc + 1) Ls (.int (f j.toNatClampNeg) :: st))) : Go p e below W T (mkF m pc Ls (.int j :: .ref a :: st)) := by
  obtain ⟨cl, A, r1, -, r3⟩ := A
  exact Go.of (fun t k => X.baloadBytes hx (j := j) (v := .int (f j.toNatClampNeg)) (by rw [eT]; exact A.1) (State.isArrayOf_alike hZ.alike A.2.1) A.2.2 (hj.no r1) (r3 _ hj.2).1 (g := mkF m pc Ls (.int j :: .ref a :: st)) rfl rfl hd t k) K
theorem Go.zald (X : Stand p l e R s m args below meth c T locs cells slots) (hx : p.tables.exec = Jvm.exec) (hZ : Z.Warmed39 s.vm) (eT : T.heap = h) {a : Addr} {n : Nat} {f : Nat → Int32} (A : AI Z h a .boolean n f) {j : Int32} (hj : inb j n) {pc : Nat} {Ls : Array Slot} {st : List Value} (hd : decode c.code pc = .ok (.baload, 1))
    (K : Go p e below W T (mkF m (pc + 1) Ls (.int (f j.toNatClampNeg) :: st))) : Go p e below W T (mkF m pc Ls (.int j :: .ref a :: st)) := by
  obtain ⟨cl, A, r1, -, r3⟩ := A
  exact Go.of (fun t k => X.baloadBooleans hx (j := j) (v := .int (f j.toNatClampNeg)) (by rw [eT]; exact A.1) (State.isArrayOf_alike hZ.alike A.2.1) A.2.2 (hj.no r1) (r3 _ hj.2).1 (g := mkF m pc Ls (.int j :: .ref a :: st)) rfl rfl hd t k) K
theorem Go.ist (X : Stand p l e R s m args below meth c T locs cells slots) (hx : p.tables.exec = Jvm.exec) (hZ : Z.Warmed39 s.vm) (eT : T.heap = h) {n0 : Nat} (N : Fr n0 locs) {a : Addr} (ga : n0 ≤ a) {n : Nat} {f : Nat → Int32} (A : AI Z h a .int n f) {j x : Int32} (hj : inb j n) {pc : Nat} {Ls : Array Slot} {st : List Value} (hd : decode c.code pc = .ok (.iastore, 1))
    (K : ∀ T' h' L', Stand p l e R s m args below meth c T' L' cells slots → Fr n0 L' → T'.heap = h' → Wr h h' a j.toNatClampNeg (.int x) → AI Z h' a .int n (upd f j.toNatClampNeg x) → Go p e below W T' (mkF m (pc + 1) Ls st)) : Go p e below W T (mkF m pc Ls (.int x :: .int j :: .ref a :: st)) := by
  obtain ⟨cl, A', r1, r2, r3⟩ := id A
  obtain ⟨T', h', X', e', W', st'⟩ := stI X hx hZ eT A' (j := j) (hj.no r1) (g := mkF m pc Ls (.int x :: .int j :: .ref a :: st)) rfl rfl hd
  exact Go.of st' (K _ _ _ X' (Fr.snoc X' N ga) e' W' (A.set W' rfl))
theorem Go.bst (X : Stand p l e R s m args below meth c T locs cells slots) (hx : p.tables.exec = Jvm.exec) (hZ : Z.Warmed39 s.vm) (eT : T.heap = h) {n0 : Nat} (N : Fr n0 locs) {a : Addr} (ga : n0 ≤ a) {n : Nat} {f : Nat → Int32} (A : AI Z h a .byte n f) {j x : Int32} (hj : inb j n) {pc : Nat} {Ls : Array Slot} {st : List Value} (hd : decode c.code pc = .ok (.bastore, 1))
    (K : ∀ T' h' L', Stand p l e R s m args below meth c T' L' cells slots → Fr n0 L' → T'.heap = h' → Wr h h' a j.toNatClampNeg (.int (nar .byte x)) → AI Z h' a .byte n (upd f j.toNatClampNeg (nar .byte x)) → Go p e below W T' (mkF m (pc + 1) Ls st)) : Go p e below W T (mkF m pc Ls (.int x :: .int j :: .ref a :: st)) := by
  obtain ⟨cl, A', r1, r2, r3⟩ := id A
  obtain ⟨T', h', X', e', W', st'⟩ := stB X hx hZ eT A' (j := j) (hj.no r1) (g := mkF m pc Ls (.int x :: .int j :: .ref a :: st)) rfl rfl hd
  exact Go.of st' (K _ _ _ X' (Fr.snoc X' N ga) e' W' (A.set W' (fits_nar_byte _)))
theorem Go.zst (X : Stand p l e R s m args below meth c T locs cells slots) (hx : p.tables.exec = Jvm.exec) (hZ : Z.Warmed39 s.vm) (eT : T.heap = h) {n0 : Nat} (N : Fr n0 locs) {a : Addr} (ga : n0 ≤ a) {n : Nat} {f : Nat → Int32} (A : AI Z h a .boolean n f) {j x : Int32} (hj : inb j n) {pc : Nat} {Ls : Array Slot} {st : List Value} (hd : decode c.code pc = .ok (.bastore, 1))
    (K : ∀ T' h' L', Stand p l e R s m args below meth c T' L' cells slots → Fr n0 L' → T'.heap = h' → Wr h h' a j.toNatClampNeg (.int (nar .boolean x)) → AI Z h' a .boolean n (upd f j.toNatClampNeg (nar .boolean x)) → Go p e below W T' (mkF m (pc + 1) Ls st)) : Go p e below W T (mkF m pc Ls (.int x :: .int j :: .ref a :: st)) := by
  obtain ⟨cl, A', r1, r2, r3⟩ := id A
  obtain ⟨T', h', X', e', W', st'⟩ := stZ X hx hZ eT A' (j := j) (hj.no r1) (g := mkF m pc Ls (.int x :: .int j :: .ref a :: st)) rfl rfl hd
  exact Go.of st' (K _ _ _ X' (Fr.snoc X' N ga) e' W' (A.set W' (fits_nar_bool _)))
theorem Go.cst (X : Stand p l e R s m args below meth c T locs cells slots) (hx : p.tables.exec = Jvm.exec) (hZ : Z.Warmed39 s.vm) (eT : T.heap = h) {n0 : Nat} (N : Fr n0 locs) {a : Addr} (ga : n0 ≤ a) {n : Nat} {f : Nat → Int32} (A : AI Z h a .char n f) {j x : Int32} (hj : inb j n) {pc : Nat} {Ls : Array Slot} {st : List Value} (hd : decode c.code pc = .ok (.castore, 1))
    (K : ∀ T' h' L', Stand p l e R s m args below meth c T' L' cells slots → Fr n0 L' → T'.heap = h' → Wr h h' a j.toNatClampNeg (.int (nar .char x)) → AI Z h' a .char n (upd f j.toNatClampNeg (nar .char x)) → Go p e below W T' (mkF m (pc + 1) Ls st)) : Go p e below W T (mkF m pc Ls (.int x :: .int j :: .ref a :: st)) := by
  obtain ⟨cl, A', r1, r2, r3⟩ := id A
  obtain ⟨T', h', X', e', W', st'⟩ := stC X hx hZ eT A' (j := j) (hj.no r1) (g := mkF m pc Ls (.int x :: .int j :: .ref a :: st)) rfl rfl hd
  exact Go.of st' (K _ _ _ X' (Fr.snoc X' N ga) e' W' (A.set W' (fits_nar_char _)))
theorem AI.new {b cA : Nat} {ty : FieldType} {n : Int32} (A : Arr Z h b (newA cA ty n) ty) (hd : defaultValue ty = .int 0) (hf : fits ty (.int 0) = true) : AI Z h b ty n.toNatClampNeg (fun _ => 0) := by
  refine ⟨_, A, sz_new _ _ _, ?_, fun j hj => ?_⟩
  · show n.toInt.toNat < 2 ^ 31
    have := n.toInt_lt; omega
  · exact ⟨by simp [newA, hj, hd], hf⟩
theorem Go.newA (X : Stand p l e R s m args below meth c T locs cells slots) (hx : p.tables.exec = Jvm.exec) (hZ : Z.Warmed39 s.vm) {aty : ArrayType} (w : (Jvm.Cond.arrayClass (newarray.typeOf aty)).before a0 Z = true) (hdef : defaultValue (newarray.typeOf aty) = .int 0) (hft : fits (newarray.typeOf aty) (.int 0) = true) {ad : String} (had : "[" ++ (newarray.typeOf aty).toString = ad) (eT : T.heap = h) {pc : Nat} {Ls : Array Slot} {n : Int32} {st : List Value} (hd : decode c.code pc = .ok (.newarray aty, 2))
    (hn : ¬ n < 0) {cap : Nat} (hcap : n.toNatClampNeg ≤ cap) (hb : cap * 8 ≤ 536870912) (hc : cells + 1 ≤ R.cells) (hl : slots + cap ≤ R.slots)
    (K : ∀ T' h' b, b = h.size → Stand p l e R s m args below meth c T' locs (cells + 1) (slots + cap) → T'.heap = h' → Ext h h' → Exa Z h' b ad → AI Z h' b (newarray.typeOf aty) n.toNatClampNeg (fun _ => 0) → Go p e below W T' (mkF m (pc + 2) Ls (.ref b :: st))) : Go p e below W T (mkF m pc Ls (.int n :: st)) := by
  obtain ⟨T', h', cA, X', e', E', A', B', st'⟩ := newPE X hx hZ w eT (g := mkF m pc Ls (.int n :: st)) rfl hd rfl hn hcap hb hc hl had
  exact Go.of st' (K _ _ _ rfl X' e' E' B' (AI.new A' hdef hft))
theorem Go.newO (X : Stand p l e R s m args below meth c T locs cells slots) (hx : p.tables.exec = Jvm.exec) (hZ : Z.Warmed39 s.vm) {own C : String} {index n : Nat} (hown : s.vm.findClass own = some m.cls) (w : (Jvm.Cond.classLink own index C).before a0 Z = true) (wi : (Jvm.Cond.instantiable C n).before a0 Z = true) (wz : (Jvm.Cond.initialized C).before a0 Z = true) (eT : T.heap = h)
    {pc : Nat} {Ls : Array Slot} {st : List Value} (hd : decode c.code pc = .ok (.new index, 3)) (hc : cells + 1 ≤ R.cells) (hl : slots + n ≤ R.slots)
    (K : ∀ T' h' b, b = h.size → Stand p l e R s m args below meth c T' locs (cells + 1) (slots + n) → T'.heap = h' → Ext h h' → Exa Z h' b C → (∀ {O nm d : String} {ty : FieldType}, Laid Z a0 C O nm d → parseFieldDescriptor d = some ty → Fld Z h' b O nm d (defaultValue ty)) → Go p e below W T' (mkF m (pc + 3) Ls (.ref b :: st))) : Go p e below W T (mkF m pc Ls st) := by
  obtain ⟨T', h', X', e', E', A', D', -, st'⟩ := Jvm.RoadKit.newO X hx hZ hown w wi wz eT (g := mkF m pc Ls st) rfl hd hc hl
  exact Go.of st' (K _ _ _ rfl X' e' E' A' D')
theorem Go.getF (X : Stand p l e R s m args below meth c T locs cells slots) (hx : p.tables.exec = Jvm.exec) (hZ : Z.Warmed39 s.vm) {own O n d : String} {index : Nat} (hown : s.vm.findClass own = some m.cls) (w : (Jvm.Cond.fieldLink own index O n d).before a0 Z = true) (eT : T.heap = h) {a : Addr} {v : Value} (F : Fld Z h a O n d v)
    {pc : Nat} {Ls : Array Slot} {st : List Value} (hd : decode c.code pc = .ok (.getfield index, 3)) (K : ∀ T', Stand p l e R s m args below meth c T' locs cells slots → T'.heap = h → Go p e below W T' (mkF m (pc + 3) Ls (v :: st))) : Go p e below W T (mkF m pc Ls (.ref a :: st)) := by
  obtain ⟨T', X', e', st'⟩ := Jvm.RoadKit.getF X hx hZ hown (host := "") (Or.inl w) Via.refl eT F (g := mkF m pc Ls (.ref a :: st)) rfl rfl hd
  exact Go.of st' (K _ X' e')
theorem Go.putF (X : Stand p l e R s m args below meth c T locs cells slots) (hx : p.tables.exec = Jvm.exec) (hZ : Z.Warmed39 s.vm) {own O n d C : String} {index kk : Nat} {ty : FieldType} (hown : s.vm.findClass own = some m.cls) (w : (Jvm.Cond.fieldLink own index O n d).before a0 Z = true) (eT : T.heap = h) {n0 : Nat} (N : Fr n0 locs) {a : Addr} (ga : n0 ≤ a) {v old : Value} (F : Fld Z h a O n d old) (E : Exa Z h a C)
    (L : (Jvm.Cond.lays C O n d).before a0 Z = true ∨ ((Jvm.Cond.laysFinal C O n d).before a0 Z = true ∧ own = O ∧ meth.name = "<init>")) (wi : (Jvm.Cond.instantiable C kk).before a0 Z = true) (hty : parseFieldDescriptor d = some ty) {v' : Value} (hn : narrow ty v = v') (hf : fits ty v' = true)
    {pc : Nat} {Ls : Array Slot} {st : List Value} (hd : decode c.code pc = .ok (.putfield index, 3)) (K : ∀ T' h' L', Stand p l e R s m args below meth c T' L' cells slots → Fr n0 L' → T'.heap = h' → Wr h h' a (Jvm.RoadKit.slotOf Z O n d) v' → Fld Z h' a O n d v' → Go p e below W T' (mkF m (pc + 3) Ls st)) : Go p e below W T (mkF m pc Ls (v :: .ref a :: st)) := by
  obtain ⟨T', h', X', e', W', st'⟩ := putFN X hx hZ hown w Via.refl eT F E L wi hty hn hf (g := mkF m pc Ls (v :: .ref a :: st)) rfl rfl hd
  exact Go.of st' (K _ _ _ X' (Fr.snoc X' N ga) e' W' (F.same W'))
theorem Go.initO (X : Stand p l e R s m args below meth c T locs cells slots) (hx : p.tables.exec = Jvm.exec) (hZ : Z.Warmed39 s.vm) {own : String} {idx : Nat} (hown : s.vm.findClass own = some m.cls) (w1 : (Jvm.Cond.methodLink own idx Lib.objectInit).before a0 Z = true) (w2 : (Jvm.Cond.instanceMethod Lib.objectInit).before a0 Z = true)
    (w3 : (Jvm.Cond.code Lib.objectInit Jvm.LibCode.Object.Init0.code 1 none).before a0 Z = true) (eT : T.heap = h) {pc : Nat} {Ls : Array Slot} {st : List Value} (hsize : Ls.size = c.maxLocals) {a : Addr} (hd : decode c.code pc = .ok (.invokespecial idx, 3)) (hf : 1 ≤ R.frames) {V : Nat} (hV : (st.map fun v => v.category).sum ≤ V) (hl : V + 12 ≤ R.locals)
    (K : ∀ T', Stand p l e R s m args below meth c T' locs cells slots → T'.heap = h → Go p e below W T' (mkF m (pc + 3) Ls st)) : Go p e below W T (mkF m pc Ls (.ref a :: st)) := by
  obtain ⟨T', X', e', st'⟩ := Jvm.RoadKit.initO X hx hZ hown w1 w2 w3 eT (g := mkF m pc Ls (.ref a :: st)) rfl hsize rfl hd hf (W := V) (by show 2 * 0 + _ ≤ _; omega) hl
  exact Go.of st' (K _ X' e')
/-- a constructor by its contract -/
theorem Go.callI (X : Stand p l e R s m args below meth c T locs cells slots) (hx : p.tables.exec = Jvm.exec) (hZ : Z.Warmed39 s.vm) {own : String} {index : Nat} {y : MethodName} {bytes : ByteArray} {maxL : Nat} {rm : Room} {as' : Array Value} {Q : Option Value → Heap → List Loc → Prop} (hy1 : y.name = "<init>") (hown : s.vm.findClass own = some m.cls)
    (w1 : (Jvm.Cond.methodLink own index y).before a0 Z = true) (w2 : (Jvm.Cond.instanceMethod y).before a0 Z = true) (w3 : (Jvm.Cond.initialized y.cls).before a0 Z = true) (w4 : (Jvm.Cond.code y bytes maxL none).before a0 Z = true) (hy : y.cls ≠ "java/lang/invoke/MethodHandle" ∧ y.cls ≠ "java/lang/invoke/VarHandle") (eT : T.heap = h)
    (hM : Con l Z y bytes maxL none [] rm as' h Q) {V : Nat} (hf : rm.frames + 1 ≤ R.frames) (hl : V + (maxL + 11) + rm.locals ≤ R.locals) (hc : cells + rm.cells ≤ R.cells) (hs : slots + rm.slots ≤ R.slots)
    {pc : Nat} {Ls : Array Slot} {st : List Value} (hsize : Ls.size = c.maxLocals) {a : Addr} {argsL rest : List Value} (has : (.ref a :: argsL).toArray = as') (hlen : ∀ sig, parseMethodDescriptor y.desc = some sig → argsL.length = sig.parameters.length) (hstack : st = argsL.reverse ++ .ref a :: rest) (hV : (rest.map fun v => v.category).sum ≤ V) (hd : decode c.code pc = .ok (.invokespecial index, 3))
    (K : ∀ T' v L, Q v T'.heap L → Stand p l e R s m args below meth c T' (locs ++ L) (cells + rm.cells) (slots + rm.slots) → Go p e below W T' (mkF m (pc + 3) Ls (v.toList ++ rest))) : Go p e below W T (mkF m pc Ls st) := by
  obtain ⟨v, vm₁, ⟨T', L', k', n'⟩, -, X', ⟨L, hQ, e1, e2, e3⟩, st'⟩ := X.specialBack hx hy1 hown (mvT hZ w1) (mvT hZ w2) (mvT hZ w4) hy (backOf (W := V) hM hZ w4 w3 hf hl) (g := mkF m pc Ls st) rfl hsize (Steps.refl _) hlen hstack (by show 2 * 0 + _ ≤ _; omega) hd (fun _ _ => ⟨has, eT, hc, hs⟩)
  dsimp only [Pt.U, Pt.locs, Pt.cells, Pt.slots] at X' e1 e2 e3 st' hQ
  subst e1 e2 e3
  exact Go.of (fun _ k => st'.trans k) (K _ _ _ hQ X')
/-- an instance method by the contract of the body that the receiver's class selects -/
theorem Go.callV (X : Stand p l e R s m args below meth c T locs cells slots) (hx : p.tables.exec = Jvm.exec) (hZ : Z.Warmed39 s.vm) {own C : String} {index : Nat} {y : MethodName} {bytes : ByteArray} {maxL : Nat} {ret : Option FieldType} {rm : Room} {as' : Array Value} {Q : Option Value → Heap → List Loc → Prop} (hown : s.vm.findClass own = some m.cls)
    (w1 : (Jvm.Cond.methodLink own index y).before a0 Z = true) (w5 : (Jvm.Cond.declares y).before a0 Z = true) (w6 : (Jvm.Cond.selects C y y).before a0 Z = true) (w2 : (Jvm.Cond.instanceMethod y).before a0 Z = true) (w3 : (Jvm.Cond.initialized y.cls).before a0 Z = true) (w4 : (Jvm.Cond.code y bytes maxL ret).before a0 Z = true) (hy : y.cls ≠ "java/lang/invoke/MethodHandle" ∧ y.cls ≠ "java/lang/invoke/VarHandle") (eT : T.heap = h)
    {a : Addr} (E : Exa Z h a C) (hM : Con l Z y bytes maxL ret [] rm as' h Q) {V : Nat} (hf : rm.frames + 1 ≤ R.frames) (hl : V + (maxL + 11) + rm.locals ≤ R.locals) (hc : cells + rm.cells ≤ R.cells) (hs : slots + rm.slots ≤ R.slots)
    {pc : Nat} {Ls : Array Slot} {st : List Value} (hsize : Ls.size = c.maxLocals) {argsL rest : List Value} (has : (.ref a :: argsL).toArray = as') (hlen : ∀ sig, parseMethodDescriptor y.desc = some sig → argsL.length = sig.parameters.length) (hstack : st = argsL.reverse ++ .ref a :: rest) (hV : (rest.map fun v => v.category).sum ≤ V) (hd : decode c.code pc = .ok (.invokevirtual index, 3))
    (K : ∀ T' v L, Q v T'.heap L → Stand p l e R s m args below meth c T' (locs ++ L) (cells + rm.cells) (slots + rm.slots) → Go p e below W T' (mkF m (pc + 3) Ls (v.toList ++ rest))) : Go p e below W T (mkF m pc Ls st) := by
  obtain ⟨cq, kq, qa, qb, qc⟩ := isOf hZ eT E
  obtain ⟨v, vm₁, ⟨T', L', k', n'⟩, -, X', ⟨L, hQ, e1, e2, e3⟩, st'⟩ := X.virtualBack hx hown (mvT hZ w1) (mvT hZ w5) (notFace_of_selects (args := #[]) (mvT hZ w6)) (mvT hZ w6) (mvT hZ w2) hy (backOf (W := V) hM hZ w4 w3 hf hl) qa qc (g := mkF m pc Ls st) rfl hsize (Steps.refl _) hlen hstack (by show 2 * 0 + _ ≤ _; omega) hd (fun _ _ => ⟨has, eT, hc, hs⟩)
  dsimp only [Pt.U, Pt.locs, Pt.cells, Pt.slots] at X' e1 e2 e3 st' hQ
  subst e1 e2 e3
  exact Go.of (fun _ k => st'.trans k) (K _ _ _ hQ X')
end OwnHeap
theorem pd__I_Z : parseMethodDescriptor "(I)Z" = some ⟨[.int], some .boolean⟩ := by decide +kernel
theorem d1_0 : decode prog_117_method_12_code 0 = .ok (.iload_n 0, 1) := by decide +kernel
theorem d1_1 : decode prog_117_method_12_code 1 = .ok (.bipush 97, 2) := by decide +kernel
theorem d1_3 : decode prog_117_method_12_code 3 = .ok (.if_icmp .lt 9, 3) := by decide +kernel
theorem d1_6 : decode prog_117_method_12_code 6 = .ok (.iload_n 0, 1) := by decide +kernel
theorem d1_7 : decode prog_117_method_12_code 7 = .ok (.bipush 122, 2) := by decide +kernel
theorem d1_9 : decode prog_117_method_12_code 9 = .ok (.if_icmp .le 188, 3) := by decide +kernel
theorem d1_12 : decode prog_117_method_12_code 12 = .ok (.iload_n 0, 1) := by decide +kernel
theorem d1_13 : decode prog_117_method_12_code 13 = .ok (.bipush 65, 2) := by decide +kernel
theorem d1_15 : decode prog_117_method_12_code 15 = .ok (.if_icmp .lt 9, 3) := by decide +kernel
theorem d1_18 : decode prog_117_method_12_code 18 = .ok (.iload_n 0, 1) := by decide +kernel
theorem d1_19 : decode prog_117_method_12_code 19 = .ok (.bipush 90, 2) := by decide +kernel
theorem d1_21 : decode prog_117_method_12_code 21 = .ok (.if_icmp .le 176, 3) := by decide +kernel
theorem d1_24 : decode prog_117_method_12_code 24 = .ok (.iload_n 0, 1) := by decide +kernel
theorem d1_25 : decode prog_117_method_12_code 25 = .ok (.bipush 95, 2) := by decide +kernel
theorem d1_27 : decode prog_117_method_12_code 27 = .ok (.if_icmp .eq 170, 3) := by decide +kernel
theorem d1_30 : decode prog_117_method_12_code 30 = .ok (.iload_n 0, 1) := by decide +kernel
theorem d1_31 : decode prog_117_method_12_code 31 = .ok (.bipush 58, 2) := by decide +kernel
theorem d1_33 : decode prog_117_method_12_code 33 = .ok (.if_icmp .eq 164, 3) := by decide +kernel
theorem d1_36 : decode prog_117_method_12_code 36 = .ok (.iload_n 0, 1) := by decide +kernel
theorem d1_37 : decode prog_117_method_12_code 37 = .ok (.sipush 192, 3) := by decide +kernel
theorem d1_40 : decode prog_117_method_12_code 40 = .ok (.if_icmp .lt 10, 3) := by decide +kernel
theorem d1_43 : decode prog_117_method_12_code 43 = .ok (.iload_n 0, 1) := by decide +kernel
theorem d1_44 : decode prog_117_method_12_code 44 = .ok (.sipush 214, 3) := by decide +kernel
theorem d1_47 : decode prog_117_method_12_code 47 = .ok (.if_icmp .le 150, 3) := by decide +kernel
theorem d1_50 : decode prog_117_method_12_code 50 = .ok (.iload_n 0, 1) := by decide +kernel
theorem d1_51 : decode prog_117_method_12_code 51 = .ok (.sipush 216, 3) := by decide +kernel
theorem d1_54 : decode prog_117_method_12_code 54 = .ok (.if_icmp .lt 10, 3) := by decide +kernel
theorem d1_57 : decode prog_117_method_12_code 57 = .ok (.iload_n 0, 1) := by decide +kernel
theorem d1_58 : decode prog_117_method_12_code 58 = .ok (.sipush 246, 3) := by decide +kernel
theorem d1_61 : decode prog_117_method_12_code 61 = .ok (.if_icmp .le 136, 3) := by decide +kernel
theorem d1_64 : decode prog_117_method_12_code 64 = .ok (.iload_n 0, 1) := by decide +kernel
theorem d1_65 : decode prog_117_method_12_code 65 = .ok (.sipush 248, 3) := by decide +kernel
theorem d1_68 : decode prog_117_method_12_code 68 = .ok (.if_icmp .lt 10, 3) := by decide +kernel
theorem d1_71 : decode prog_117_method_12_code 71 = .ok (.iload_n 0, 1) := by decide +kernel
theorem d1_72 : decode prog_117_method_12_code 72 = .ok (.sipush 767, 3) := by decide +kernel
theorem d1_75 : decode prog_117_method_12_code 75 = .ok (.if_icmp .le 122, 3) := by decide +kernel
theorem d1_78 : decode prog_117_method_12_code 78 = .ok (.iload_n 0, 1) := by decide +kernel
theorem d1_79 : decode prog_117_method_12_code 79 = .ok (.sipush 880, 3) := by decide +kernel
theorem d1_82 : decode prog_117_method_12_code 82 = .ok (.if_icmp .lt 10, 3) := by decide +kernel
theorem d1_85 : decode prog_117_method_12_code 85 = .ok (.iload_n 0, 1) := by decide +kernel
theorem d1_86 : decode prog_117_method_12_code 86 = .ok (.sipush 893, 3) := by decide +kernel
theorem d1_89 : decode prog_117_method_12_code 89 = .ok (.if_icmp .le 108, 3) := by decide +kernel
theorem d1_92 : decode prog_117_method_12_code 92 = .ok (.iload_n 0, 1) := by decide +kernel
theorem d1_93 : decode prog_117_method_12_code 93 = .ok (.sipush 895, 3) := by decide +kernel
theorem d1_96 : decode prog_117_method_12_code 96 = .ok (.if_icmp .lt 10, 3) := by decide +kernel
theorem d1_99 : decode prog_117_method_12_code 99 = .ok (.iload_n 0, 1) := by decide +kernel
theorem d1_100 : decode prog_117_method_12_code 100 = .ok (.sipush 8191, 3) := by decide +kernel
theorem d1_103 : decode prog_117_method_12_code 103 = .ok (.if_icmp .le 94, 3) := by decide +kernel
theorem d1_106 : decode prog_117_method_12_code 106 = .ok (.iload_n 0, 1) := by decide +kernel
theorem d1_107 : decode prog_117_method_12_code 107 = .ok (.sipush 8204, 3) := by decide +kernel
theorem d1_110 : decode prog_117_method_12_code 110 = .ok (.if_icmp .lt 10, 3) := by decide +kernel
theorem d1_113 : decode prog_117_method_12_code 113 = .ok (.iload_n 0, 1) := by decide +kernel
theorem d1_114 : decode prog_117_method_12_code 114 = .ok (.sipush 8205, 3) := by decide +kernel
theorem d1_117 : decode prog_117_method_12_code 117 = .ok (.if_icmp .le 80, 3) := by decide +kernel
theorem d1_120 : decode prog_117_method_12_code 120 = .ok (.iload_n 0, 1) := by decide +kernel
theorem d1_121 : decode prog_117_method_12_code 121 = .ok (.sipush 8304, 3) := by decide +kernel
theorem d1_124 : decode prog_117_method_12_code 124 = .ok (.if_icmp .lt 10, 3) := by decide +kernel
theorem d1_127 : decode prog_117_method_12_code 127 = .ok (.iload_n 0, 1) := by decide +kernel
theorem d1_128 : decode prog_117_method_12_code 128 = .ok (.sipush 8591, 3) := by decide +kernel
theorem d1_131 : decode prog_117_method_12_code 131 = .ok (.if_icmp .le 66, 3) := by decide +kernel
theorem d1_134 : decode prog_117_method_12_code 134 = .ok (.iload_n 0, 1) := by decide +kernel
theorem d1_135 : decode prog_117_method_12_code 135 = .ok (.sipush 11264, 3) := by decide +kernel
theorem d1_138 : decode prog_117_method_12_code 138 = .ok (.if_icmp .lt 10, 3) := by decide +kernel
theorem d1_141 : decode prog_117_method_12_code 141 = .ok (.iload_n 0, 1) := by decide +kernel
theorem d1_142 : decode prog_117_method_12_code 142 = .ok (.sipush 12271, 3) := by decide +kernel
theorem d1_145 : decode prog_117_method_12_code 145 = .ok (.if_icmp .le 52, 3) := by decide +kernel
theorem d1_148 : decode prog_117_method_12_code 148 = .ok (.iload_n 0, 1) := by decide +kernel
theorem d1_149 : decode prog_117_method_12_code 149 = .ok (.sipush 12289, 3) := by decide +kernel
theorem d1_152 : decode prog_117_method_12_code 152 = .ok (.if_icmp .lt 9, 3) := by decide +kernel
theorem d1_155 : decode prog_117_method_12_code 155 = .ok (.iload_n 0, 1) := by decide +kernel
theorem d1_156 : decode prog_117_method_12_code 156 = .ok (.ldc 167, 2) := by decide +kernel
theorem d1_158 : decode prog_117_method_12_code 158 = .ok (.if_icmp .le 39, 3) := by decide +kernel
theorem d1_161 : decode prog_117_method_12_code 161 = .ok (.iload_n 0, 1) := by decide +kernel
theorem d1_162 : decode prog_117_method_12_code 162 = .ok (.ldc 168, 2) := by decide +kernel
theorem d1_164 : decode prog_117_method_12_code 164 = .ok (.if_icmp .lt 9, 3) := by decide +kernel
theorem d1_167 : decode prog_117_method_12_code 167 = .ok (.iload_n 0, 1) := by decide +kernel
theorem d1_168 : decode prog_117_method_12_code 168 = .ok (.ldc 169, 2) := by decide +kernel
theorem d1_170 : decode prog_117_method_12_code 170 = .ok (.if_icmp .le 27, 3) := by decide +kernel
theorem d1_173 : decode prog_117_method_12_code 173 = .ok (.iload_n 0, 1) := by decide +kernel
theorem d1_174 : decode prog_117_method_12_code 174 = .ok (.ldc 170, 2) := by decide +kernel
theorem d1_176 : decode prog_117_method_12_code 176 = .ok (.if_icmp .lt 9, 3) := by decide +kernel
theorem d1_179 : decode prog_117_method_12_code 179 = .ok (.iload_n 0, 1) := by decide +kernel
theorem d1_180 : decode prog_117_method_12_code 180 = .ok (.ldc 171, 2) := by decide +kernel
theorem d1_182 : decode prog_117_method_12_code 182 = .ok (.if_icmp .le 15, 3) := by decide +kernel
theorem d1_185 : decode prog_117_method_12_code 185 = .ok (.iload_n 0, 1) := by decide +kernel
theorem d1_186 : decode prog_117_method_12_code 186 = .ok (.ldc 172, 2) := by decide +kernel
theorem d1_188 : decode prog_117_method_12_code 188 = .ok (.if_icmp .lt 13, 3) := by decide +kernel
theorem d1_191 : decode prog_117_method_12_code 191 = .ok (.iload_n 0, 1) := by decide +kernel
theorem d1_192 : decode prog_117_method_12_code 192 = .ok (.ldc 173, 2) := by decide +kernel
theorem d1_194 : decode prog_117_method_12_code 194 = .ok (.if_icmp .gt 7, 3) := by decide +kernel
theorem d1_197 : decode prog_117_method_12_code 197 = .ok (.iconst 1, 1) := by decide +kernel
theorem d1_198 : decode prog_117_method_12_code 198 = .ok (.goto 4, 3) := by decide +kernel
theorem d1_201 : decode prog_117_method_12_code 201 = .ok (.iconst 0, 1) := by decide +kernel
theorem d1_202 : decode prog_117_method_12_code 202 = .ok (.ireturn, 1) := by decide +kernel
theorem pn_1 : plainFor (⟨"com/example/redefine/redefine/assessment/NameLiteral", "isNameStartChar", "(I)Z"⟩ : MethodName) = true := plainFor_of_name (by show plainName "com/example/redefine/redefine/assessment/NameLiteral" = true; first | (simp [plainName, overriddenIn]; done) | decide +kernel)
theorem ef_1 (m : MethodId) (p1 : Int32) : entryFrame m #[(.int p1)] 1 = mkF m 0 #[.val (.int p1)] [] := by first | (simp [entryFrame, mkF, argsToLocals, Value.category]; done) | rfl
def f1_185 (p1 : Int32) : Int32 := (if p1 < (65536 : Int32) then (0 : Int32) else (if (983039 : Int32) < p1 then (0 : Int32) else (1 : Int32)))
def f1_173 (p1 : Int32) : Int32 := (if p1 < (65008 : Int32) then (f1_185 p1) else (if (65533 : Int32) < p1 then (f1_185 p1) else (1 : Int32)))
def f1_161 (p1 : Int32) : Int32 := (if p1 < (63744 : Int32) then (f1_173 p1) else (if (64975 : Int32) < p1 then (f1_173 p1) else (1 : Int32)))
def f1_148 (p1 : Int32) : Int32 := (if p1 < (12289 : Int32) then (f1_161 p1) else (if (55295 : Int32) < p1 then (f1_161 p1) else (1 : Int32)))
def f1_134 (p1 : Int32) : Int32 := (if p1 < (11264 : Int32) then (f1_148 p1) else (if (12271 : Int32) < p1 then (f1_148 p1) else (1 : Int32)))
def f1_120 (p1 : Int32) : Int32 := (if p1 < (8304 : Int32) then (f1_134 p1) else (if (8591 : Int32) < p1 then (f1_134 p1) else (1 : Int32)))
def f1_106 (p1 : Int32) : Int32 := (if p1 < (8204 : Int32) then (f1_120 p1) else (if (8205 : Int32) < p1 then (f1_120 p1) else (1 : Int32)))
def f1_92 (p1 : Int32) : Int32 := (if p1 < (895 : Int32) then (f1_106 p1) else (if (8191 : Int32) < p1 then (f1_106 p1) else (1 : Int32)))
def f1_78 (p1 : Int32) : Int32 := (if p1 < (880 : Int32) then (f1_92 p1) else (if (893 : Int32) < p1 then (f1_92 p1) else (1 : Int32)))
def f1_64 (p1 : Int32) : Int32 := (if p1 < (248 : Int32) then (f1_78 p1) else (if (767 : Int32) < p1 then (f1_78 p1) else (1 : Int32)))
def f1_50 (p1 : Int32) : Int32 := (if p1 < (216 : Int32) then (f1_64 p1) else (if (246 : Int32) < p1 then (f1_64 p1) else (1 : Int32)))
def f1_24 (p1 : Int32) : Int32 := (if p1 = (95 : Int32) then (1 : Int32) else (if p1 = (58 : Int32) then (1 : Int32) else (if p1 < (192 : Int32) then (f1_50 p1) else (if (214 : Int32) < p1 then (f1_50 p1) else (1 : Int32)))))
def f1_12 (p1 : Int32) : Int32 := (if p1 < (65 : Int32) then (f1_24 p1) else (if (90 : Int32) < p1 then (f1_24 p1) else (1 : Int32)))
def f1 (p1 : Int32) : Int32 := (if p1 < (97 : Int32) then (f1_12 p1) else (if (122 : Int32) < p1 then (f1_12 p1) else (1 : Int32)))
theorem d2_0 : decode method_3_code 0 = .ok (.iload_n 0, 1) := by decide +kernel
theorem d2_1 : decode method_3_code 1 = .ok (.bipush 58, 2) := by decide +kernel
theorem d2_3 : decode method_3_code 3 = .ok (.if_icmp .ge 5, 3) := by decide +kernel
theorem d2_6 : decode method_3_code 6 = .ok (.iconst 0, 1) := by decide +kernel
theorem d2_7 : decode method_3_code 7 = .ok (.ireturn, 1) := by decide +kernel
theorem d2_8 : decode method_3_code 8 = .ok (.iload_n 0, 1) := by decide +kernel
theorem d2_9 : decode method_3_code 9 = .ok (.bipush 58, 2) := by decide +kernel
theorem d2_11 : decode method_3_code 11 = .ok (.if_icmp .ne 5, 3) := by decide +kernel
theorem d2_14 : decode method_3_code 14 = .ok (.iconst 1, 1) := by decide +kernel
theorem d2_15 : decode method_3_code 15 = .ok (.ireturn, 1) := by decide +kernel
theorem d2_16 : decode method_3_code 16 = .ok (.iload_n 0, 1) := by decide +kernel
theorem d2_17 : decode method_3_code 17 = .ok (.bipush 65, 2) := by decide +kernel
theorem d2_19 : decode method_3_code 19 = .ok (.if_icmp .ge 5, 3) := by decide +kernel
theorem d2_22 : decode method_3_code 22 = .ok (.iconst 0, 1) := by decide +kernel
theorem d2_23 : decode method_3_code 23 = .ok (.ireturn, 1) := by decide +kernel
theorem d2_24 : decode method_3_code 24 = .ok (.iload_n 0, 1) := by decide +kernel
theorem d2_25 : decode method_3_code 25 = .ok (.bipush 90, 2) := by decide +kernel
theorem d2_27 : decode method_3_code 27 = .ok (.if_icmp .gt 5, 3) := by decide +kernel
theorem d2_30 : decode method_3_code 30 = .ok (.iconst 1, 1) := by decide +kernel
theorem d2_31 : decode method_3_code 31 = .ok (.ireturn, 1) := by decide +kernel
theorem d2_32 : decode method_3_code 32 = .ok (.iload_n 0, 1) := by decide +kernel
theorem d2_33 : decode method_3_code 33 = .ok (.bipush 95, 2) := by decide +kernel
theorem d2_35 : decode method_3_code 35 = .ok (.if_icmp .ge 5, 3) := by decide +kernel
theorem d2_38 : decode method_3_code 38 = .ok (.iconst 0, 1) := by decide +kernel
theorem d2_39 : decode method_3_code 39 = .ok (.ireturn, 1) := by decide +kernel
theorem d2_40 : decode method_3_code 40 = .ok (.iload_n 0, 1) := by decide +kernel
theorem d2_41 : decode method_3_code 41 = .ok (.bipush 95, 2) := by decide +kernel
theorem d2_43 : decode method_3_code 43 = .ok (.if_icmp .ne 5, 3) := by decide +kernel
theorem d2_46 : decode method_3_code 46 = .ok (.iconst 1, 1) := by decide +kernel
theorem d2_47 : decode method_3_code 47 = .ok (.ireturn, 1) := by decide +kernel
theorem d2_48 : decode method_3_code 48 = .ok (.iload_n 0, 1) := by decide +kernel
theorem d2_49 : decode method_3_code 49 = .ok (.bipush 97, 2) := by decide +kernel
theorem d2_51 : decode method_3_code 51 = .ok (.if_icmp .ge 5, 3) := by decide +kernel
theorem d2_54 : decode method_3_code 54 = .ok (.iconst 0, 1) := by decide +kernel
theorem d2_55 : decode method_3_code 55 = .ok (.ireturn, 1) := by decide +kernel
theorem d2_56 : decode method_3_code 56 = .ok (.iload_n 0, 1) := by decide +kernel
theorem d2_57 : decode method_3_code 57 = .ok (.bipush 122, 2) := by decide +kernel
theorem d2_59 : decode method_3_code 59 = .ok (.if_icmp .gt 5, 3) := by decide +kernel
theorem d2_62 : decode method_3_code 62 = .ok (.iconst 1, 1) := by decide +kernel
theorem d2_63 : decode method_3_code 63 = .ok (.ireturn, 1) := by decide +kernel
theorem d2_64 : decode method_3_code 64 = .ok (.iload_n 0, 1) := by decide +kernel
theorem d2_65 : decode method_3_code 65 = .ok (.sipush 192, 3) := by decide +kernel
theorem d2_68 : decode method_3_code 68 = .ok (.if_icmp .ge 5, 3) := by decide +kernel
theorem d2_71 : decode method_3_code 71 = .ok (.iconst 0, 1) := by decide +kernel
theorem d2_72 : decode method_3_code 72 = .ok (.ireturn, 1) := by decide +kernel
theorem d2_73 : decode method_3_code 73 = .ok (.iload_n 0, 1) := by decide +kernel
theorem d2_74 : decode method_3_code 74 = .ok (.sipush 215, 3) := by decide +kernel
theorem d2_77 : decode method_3_code 77 = .ok (.if_icmp .eq 10, 3) := by decide +kernel
theorem d2_80 : decode method_3_code 80 = .ok (.iload_n 0, 1) := by decide +kernel
theorem d2_81 : decode method_3_code 81 = .ok (.sipush 247, 3) := by decide +kernel
theorem d2_84 : decode method_3_code 84 = .ok (.if_icmp .ne 5, 3) := by decide +kernel
theorem d2_87 : decode method_3_code 87 = .ok (.iconst 0, 1) := by decide +kernel
theorem d2_88 : decode method_3_code 88 = .ok (.ireturn, 1) := by decide +kernel
theorem d2_89 : decode method_3_code 89 = .ok (.iload_n 0, 1) := by decide +kernel
theorem d2_90 : decode method_3_code 90 = .ok (.sipush 767, 3) := by decide +kernel
theorem d2_93 : decode method_3_code 93 = .ok (.if_icmp .gt 5, 3) := by decide +kernel
theorem d2_96 : decode method_3_code 96 = .ok (.iconst 1, 1) := by decide +kernel
theorem d2_97 : decode method_3_code 97 = .ok (.ireturn, 1) := by decide +kernel
theorem d2_98 : decode method_3_code 98 = .ok (.iload_n 0, 1) := by decide +kernel
theorem d2_99 : decode method_3_code 99 = .ok (.sipush 880, 3) := by decide +kernel
theorem d2_102 : decode method_3_code 102 = .ok (.if_icmp .ge 5, 3) := by decide +kernel
theorem d2_105 : decode method_3_code 105 = .ok (.iconst 0, 1) := by decide +kernel
theorem d2_106 : decode method_3_code 106 = .ok (.ireturn, 1) := by decide +kernel
theorem d2_107 : decode method_3_code 107 = .ok (.iload_n 0, 1) := by decide +kernel
theorem d2_108 : decode method_3_code 108 = .ok (.sipush 894, 3) := by decide +kernel
theorem d2_111 : decode method_3_code 111 = .ok (.if_icmp .ne 5, 3) := by decide +kernel
theorem d2_114 : decode method_3_code 114 = .ok (.iconst 0, 1) := by decide +kernel
theorem d2_115 : decode method_3_code 115 = .ok (.ireturn, 1) := by decide +kernel
theorem d2_116 : decode method_3_code 116 = .ok (.iload_n 0, 1) := by decide +kernel
theorem d2_117 : decode method_3_code 117 = .ok (.sipush 8191, 3) := by decide +kernel
theorem d2_120 : decode method_3_code 120 = .ok (.if_icmp .gt 5, 3) := by decide +kernel
theorem d2_123 : decode method_3_code 123 = .ok (.iconst 1, 1) := by decide +kernel
theorem d2_124 : decode method_3_code 124 = .ok (.ireturn, 1) := by decide +kernel
theorem d2_125 : decode method_3_code 125 = .ok (.iload_n 0, 1) := by decide +kernel
theorem d2_126 : decode method_3_code 126 = .ok (.sipush 8204, 3) := by decide +kernel
theorem d2_129 : decode method_3_code 129 = .ok (.if_icmp .ge 5, 3) := by decide +kernel
theorem d2_132 : decode method_3_code 132 = .ok (.iconst 0, 1) := by decide +kernel
theorem d2_133 : decode method_3_code 133 = .ok (.ireturn, 1) := by decide +kernel
theorem d2_134 : decode method_3_code 134 = .ok (.iload_n 0, 1) := by decide +kernel
theorem d2_135 : decode method_3_code 135 = .ok (.sipush 8205, 3) := by decide +kernel
theorem d2_138 : decode method_3_code 138 = .ok (.if_icmp .gt 5, 3) := by decide +kernel
theorem d2_141 : decode method_3_code 141 = .ok (.iconst 1, 1) := by decide +kernel
theorem d2_142 : decode method_3_code 142 = .ok (.ireturn, 1) := by decide +kernel
theorem d2_143 : decode method_3_code 143 = .ok (.iload_n 0, 1) := by decide +kernel
theorem d2_144 : decode method_3_code 144 = .ok (.sipush 8304, 3) := by decide +kernel
theorem d2_147 : decode method_3_code 147 = .ok (.if_icmp .ge 5, 3) := by decide +kernel
theorem d2_150 : decode method_3_code 150 = .ok (.iconst 0, 1) := by decide +kernel
theorem d2_151 : decode method_3_code 151 = .ok (.ireturn, 1) := by decide +kernel
theorem d2_152 : decode method_3_code 152 = .ok (.iload_n 0, 1) := by decide +kernel
theorem d2_153 : decode method_3_code 153 = .ok (.sipush 8591, 3) := by decide +kernel
theorem d2_156 : decode method_3_code 156 = .ok (.if_icmp .gt 5, 3) := by decide +kernel
theorem d2_159 : decode method_3_code 159 = .ok (.iconst 1, 1) := by decide +kernel
theorem d2_160 : decode method_3_code 160 = .ok (.ireturn, 1) := by decide +kernel
theorem d2_161 : decode method_3_code 161 = .ok (.iload_n 0, 1) := by decide +kernel
theorem d2_162 : decode method_3_code 162 = .ok (.sipush 11264, 3) := by decide +kernel
theorem d2_165 : decode method_3_code 165 = .ok (.if_icmp .ge 5, 3) := by decide +kernel
theorem d2_168 : decode method_3_code 168 = .ok (.iconst 0, 1) := by decide +kernel
theorem d2_169 : decode method_3_code 169 = .ok (.ireturn, 1) := by decide +kernel
theorem d2_170 : decode method_3_code 170 = .ok (.iload_n 0, 1) := by decide +kernel
theorem d2_171 : decode method_3_code 171 = .ok (.sipush 12271, 3) := by decide +kernel
theorem d2_174 : decode method_3_code 174 = .ok (.if_icmp .gt 5, 3) := by decide +kernel
theorem d2_177 : decode method_3_code 177 = .ok (.iconst 1, 1) := by decide +kernel
theorem d2_178 : decode method_3_code 178 = .ok (.ireturn, 1) := by decide +kernel
theorem d2_179 : decode method_3_code 179 = .ok (.iload_n 0, 1) := by decide +kernel
theorem d2_180 : decode method_3_code 180 = .ok (.sipush 12289, 3) := by decide +kernel
theorem d2_183 : decode method_3_code 183 = .ok (.if_icmp .ge 5, 3) := by decide +kernel
theorem d2_186 : decode method_3_code 186 = .ok (.iconst 0, 1) := by decide +kernel
theorem d2_187 : decode method_3_code 187 = .ok (.ireturn, 1) := by decide +kernel
theorem d2_188 : decode method_3_code 188 = .ok (.iload_n 0, 1) := by decide +kernel
theorem d2_189 : decode method_3_code 189 = .ok (.ldc 7, 2) := by decide +kernel
theorem d2_191 : decode method_3_code 191 = .ok (.if_icmp .gt 5, 3) := by decide +kernel
theorem d2_194 : decode method_3_code 194 = .ok (.iconst 1, 1) := by decide +kernel
theorem d2_195 : decode method_3_code 195 = .ok (.ireturn, 1) := by decide +kernel
theorem d2_196 : decode method_3_code 196 = .ok (.iload_n 0, 1) := by decide +kernel
theorem d2_197 : decode method_3_code 197 = .ok (.ldc 8, 2) := by decide +kernel
theorem d2_199 : decode method_3_code 199 = .ok (.if_icmp .ge 5, 3) := by decide +kernel
theorem d2_202 : decode method_3_code 202 = .ok (.iconst 0, 1) := by decide +kernel
theorem d2_203 : decode method_3_code 203 = .ok (.ireturn, 1) := by decide +kernel
theorem d2_204 : decode method_3_code 204 = .ok (.iload_n 0, 1) := by decide +kernel
theorem d2_205 : decode method_3_code 205 = .ok (.ldc 9, 2) := by decide +kernel
theorem d2_207 : decode method_3_code 207 = .ok (.if_icmp .gt 5, 3) := by decide +kernel
theorem d2_210 : decode method_3_code 210 = .ok (.iconst 1, 1) := by decide +kernel
theorem d2_211 : decode method_3_code 211 = .ok (.ireturn, 1) := by decide +kernel
theorem d2_212 : decode method_3_code 212 = .ok (.iload_n 0, 1) := by decide +kernel
theorem d2_213 : decode method_3_code 213 = .ok (.ldc 10, 2) := by decide +kernel
theorem d2_215 : decode method_3_code 215 = .ok (.if_icmp .ge 5, 3) := by decide +kernel
theorem d2_218 : decode method_3_code 218 = .ok (.iconst 0, 1) := by decide +kernel
theorem d2_219 : decode method_3_code 219 = .ok (.ireturn, 1) := by decide +kernel
theorem d2_220 : decode method_3_code 220 = .ok (.iload_n 0, 1) := by decide +kernel
theorem d2_221 : decode method_3_code 221 = .ok (.ldc 11, 2) := by decide +kernel
theorem d2_223 : decode method_3_code 223 = .ok (.if_icmp .gt 5, 3) := by decide +kernel
theorem d2_226 : decode method_3_code 226 = .ok (.iconst 1, 1) := by decide +kernel
theorem d2_227 : decode method_3_code 227 = .ok (.ireturn, 1) := by decide +kernel
theorem d2_228 : decode method_3_code 228 = .ok (.iload_n 0, 1) := by decide +kernel
theorem d2_229 : decode method_3_code 229 = .ok (.ldc 12, 2) := by decide +kernel
theorem d2_231 : decode method_3_code 231 = .ok (.if_icmp .ge 5, 3) := by decide +kernel
theorem d2_234 : decode method_3_code 234 = .ok (.iconst 0, 1) := by decide +kernel
theorem d2_235 : decode method_3_code 235 = .ok (.ireturn, 1) := by decide +kernel
theorem d2_236 : decode method_3_code 236 = .ok (.iload_n 0, 1) := by decide +kernel
theorem d2_237 : decode method_3_code 237 = .ok (.ldc 13, 2) := by decide +kernel
theorem d2_239 : decode method_3_code 239 = .ok (.if_icmp .gt 7, 3) := by decide +kernel
theorem d2_242 : decode method_3_code 242 = .ok (.iconst 1, 1) := by decide +kernel
theorem d2_243 : decode method_3_code 243 = .ok (.goto 4, 3) := by decide +kernel
theorem d2_246 : decode method_3_code 246 = .ok (.iconst 0, 1) := by decide +kernel
theorem d2_247 : decode method_3_code 247 = .ok (.ireturn, 1) := by decide +kernel
theorem pn_2 : plainFor (⟨"com/example/redefine/redefine/assessment/NameLiteralIsNameStartCharPinLaw", "reference", "(I)Z"⟩ : MethodName) = true := plainFor_of_name (by show plainName "com/example/redefine/redefine/assessment/NameLiteralIsNameStartCharPinLaw" = true; first | (simp [plainName, overriddenIn]; done) | decide +kernel)
theorem ef_2 (m : MethodId) (p1 : Int32) : entryFrame m #[(.int p1)] 1 = mkF m 0 #[.val (.int p1)] [] := by first | (simp [entryFrame, mkF, argsToLocals, Value.category]; done) | rfl
def f2 (p1 : Int32) : Int32 := (if p1 < (58 : Int32) then (0 : Int32) else (if p1 = (58 : Int32) then (1 : Int32) else (if p1 < (65 : Int32) then (0 : Int32) else (if (90 : Int32) < p1 then (if p1 < (95 : Int32) then (0 : Int32) else (if p1 = (95 : Int32) then (1 : Int32) else (if p1 < (97 : Int32) then (0 : Int32) else (if (122 : Int32) < p1 then (if p1 < (192 : Int32) then (0 : Int32) else (if p1 = (215 : Int32) then (0 : Int32) else (if p1 = (247 : Int32) then (0 : Int32) else (if (767 : Int32) < p1 then (if p1 < (880 : Int32) then (0 : Int32) else (if p1 = (894 : Int32) then (0 : Int32) else (if (8191 : Int32) < p1 then (if p1 < (8204 : Int32) then (0 : Int32) else (if (8205 : Int32) < p1 then (if p1 < (8304 : Int32) then (0 : Int32) else (if (8591 : Int32) < p1 then (if p1 < (11264 : Int32) then (0 : Int32) else (if (12271 : Int32) < p1 then (if p1 < (12289 : Int32) then (0 : Int32) else (if (55295 : Int32) < p1 then (if p1 < (63744 : Int32) then (0 : Int32) else (if (64975 : Int32) < p1 then (if p1 < (65008 : Int32) then (0 : Int32) else (if (65533 : Int32) < p1 then (if p1 < (65536 : Int32) then (0 : Int32) else (if (983039 : Int32) < p1 then (0 : Int32) else (1 : Int32))) else (1 : Int32))) else (1 : Int32))) else (1 : Int32))) else (1 : Int32))) else (1 : Int32))) else (1 : Int32))) else (1 : Int32)))) else (1 : Int32))))) else (1 : Int32))))) else (1 : Int32)))))
theorem pn_0 : plainFor x = true := plainFor_of_name (by show plainName "com/example/redefine/redefine/assessment/NameLiteralIsNameStartCharPinLaw" = true; first | (simp [plainName, overriddenIn]; done) | decide +kernel)
theorem ef_0 (m : MethodId) (p1 : Int32) (p2 : Int32) (p3 : Int32) : entryFrame m #[(.int p1), (.int p2), (.int p3)] maxLocals = mkF m 0 #[.val (.int p1), .val (.int p2), .val (.int p3), .unset, .unset, .unset, .unset, .unset] [] := by first | (simp [entryFrame, mkF, argsToLocals, Value.category, maxLocals]; done) | rfl
def w0_2 (p1 : Int32) (p2 : Int32) (p3 : Int32) : Nat → Int32 := fun _ => 0
def w0_4 (p1 : Int32) (p2 : Int32) (p3 : Int32) : Nat → Int32 := upd (w0_2 p1 p2 p3) 0 (0 : Int32)
def w0_6 (p1 : Int32) (p2 : Int32) (p3 : Int32) : Nat → Int32 := upd (w0_4 p1 p2 p3) 1 (58 : Int32)
def w0_8 (p1 : Int32) (p2 : Int32) (p3 : Int32) : Nat → Int32 := upd (w0_6 p1 p2 p3) 2 (65 : Int32)
def w0_10 (p1 : Int32) (p2 : Int32) (p3 : Int32) : Nat → Int32 := upd (w0_8 p1 p2 p3) 3 (90 : Int32)
def w0_12 (p1 : Int32) (p2 : Int32) (p3 : Int32) : Nat → Int32 := upd (w0_10 p1 p2 p3) 4 (95 : Int32)
def w0_14 (p1 : Int32) (p2 : Int32) (p3 : Int32) : Nat → Int32 := upd (w0_12 p1 p2 p3) 5 (97 : Int32)
def w0_16 (p1 : Int32) (p2 : Int32) (p3 : Int32) : Nat → Int32 := upd (w0_14 p1 p2 p3) 6 (122 : Int32)
def w0_18 (p1 : Int32) (p2 : Int32) (p3 : Int32) : Nat → Int32 := upd (w0_16 p1 p2 p3) 7 (192 : Int32)
def w0_20 (p1 : Int32) (p2 : Int32) (p3 : Int32) : Nat → Int32 := upd (w0_18 p1 p2 p3) 8 (215 : Int32)
def w0_22 (p1 : Int32) (p2 : Int32) (p3 : Int32) : Nat → Int32 := upd (w0_20 p1 p2 p3) 9 (247 : Int32)
def w0_24 (p1 : Int32) (p2 : Int32) (p3 : Int32) : Nat → Int32 := upd (w0_22 p1 p2 p3) 10 (767 : Int32)
def w0_26 (p1 : Int32) (p2 : Int32) (p3 : Int32) : Nat → Int32 := upd (w0_24 p1 p2 p3) 11 (880 : Int32)
def w0_28 (p1 : Int32) (p2 : Int32) (p3 : Int32) : Nat → Int32 := upd (w0_26 p1 p2 p3) 12 (894 : Int32)
def w0_30 (p1 : Int32) (p2 : Int32) (p3 : Int32) : Nat → Int32 := upd (w0_28 p1 p2 p3) 13 (8191 : Int32)
def w0_32 (p1 : Int32) (p2 : Int32) (p3 : Int32) : Nat → Int32 := upd (w0_30 p1 p2 p3) 14 (8204 : Int32)
def w0_34 (p1 : Int32) (p2 : Int32) (p3 : Int32) : Nat → Int32 := upd (w0_32 p1 p2 p3) 15 (8205 : Int32)
def w0_36 (p1 : Int32) (p2 : Int32) (p3 : Int32) : Nat → Int32 := upd (w0_34 p1 p2 p3) 16 (8304 : Int32)
def w0_38 (p1 : Int32) (p2 : Int32) (p3 : Int32) : Nat → Int32 := upd (w0_36 p1 p2 p3) 17 (8591 : Int32)
def w0_40 (p1 : Int32) (p2 : Int32) (p3 : Int32) : Nat → Int32 := upd (w0_38 p1 p2 p3) 18 (11264 : Int32)
def w0_42 (p1 : Int32) (p2 : Int32) (p3 : Int32) : Nat → Int32 := upd (w0_40 p1 p2 p3) 19 (12271 : Int32)
def w0_44 (p1 : Int32) (p2 : Int32) (p3 : Int32) : Nat → Int32 := upd (w0_42 p1 p2 p3) 20 (12289 : Int32)
def w0_46 (p1 : Int32) (p2 : Int32) (p3 : Int32) : Nat → Int32 := upd (w0_44 p1 p2 p3) 21 (55295 : Int32)
def w0_48 (p1 : Int32) (p2 : Int32) (p3 : Int32) : Nat → Int32 := upd (w0_46 p1 p2 p3) 22 (63744 : Int32)
def w0_50 (p1 : Int32) (p2 : Int32) (p3 : Int32) : Nat → Int32 := upd (w0_48 p1 p2 p3) 23 (64975 : Int32)
def w0_52 (p1 : Int32) (p2 : Int32) (p3 : Int32) : Nat → Int32 := upd (w0_50 p1 p2 p3) 24 (65008 : Int32)
def w0_54 (p1 : Int32) (p2 : Int32) (p3 : Int32) : Nat → Int32 := upd (w0_52 p1 p2 p3) 25 (65533 : Int32)
def w0_56 (p1 : Int32) (p2 : Int32) (p3 : Int32) : Nat → Int32 := upd (w0_54 p1 p2 p3) 26 (65536 : Int32)
def w0_58 (p1 : Int32) (p2 : Int32) (p3 : Int32) : Nat → Int32 := upd (w0_56 p1 p2 p3) 27 (983039 : Int32)
def v0_59 (p1 : Int32) (p2 : Int32) (p3 : Int32) : Int32 := (w0_58 p1 p2 p3 ((p2 &&& (2147483647 : Int32)) % (28 : Int32)).toNatClampNeg)
def v0_60 (p1 : Int32) (p2 : Int32) (p3 : Int32) : Int32 := ((v0_59 p1 p2 p3) + ((p3 &&& (3 : Int32)) - (1 : Int32)))
def v0_65 (p1 : Int32) (p2 : Int32) (p3 : Int32) : Int32 := (if (f1 p1) = (f2 p1) then (1 : Int32) else (0 : Int32))
def v0_70 (p1 : Int32) (p2 : Int32) (p3 : Int32) : Int32 := (if (f1 (v0_60 p1 p2 p3)) = (f2 (v0_60 p1 p2 p3)) then (1 : Int32) else (0 : Int32))
def f0 (p1 : Int32) (p2 : Int32) (p3 : Int32) : Int32 := (if (v0_65 p1 p2 p3) = (0 : Int32) then (0 : Int32) else (if (v0_70 p1 p2 p3) = (0 : Int32) then (0 : Int32) else (1 : Int32)))
def Q0 (Z : State) (p1 : Int32) (p2 : Int32) (p3 : Int32) (h0 : Heap) (n0 : Nat) (v : Option Value) (h : Heap) (L : List Loc) : Prop := v = some (.int (f0 p1 p2 p3)) ∧ Fr n0 L ∧ Keep h0 h []
theorem own_inb (x y z : Int32) : inb ((y &&& (2147483647 : Int32)) % (28 : Int32)) 28 := by
  have a1 : (y &&& 2147483647).toInt = y.toInt % (2 ^ 31 : Nat) := c_mask y 2147483647 31 (by decide) (by decide)
  have m1 : ((y &&& 2147483647) % 28).toInt = (y &&& 2147483647).toInt % 28 := (c_irem (y &&& 2147483647) 28 28 rfl).1 (by omega)
  refine ⟨?_, ?_⟩
  · rw [Int32.lt_iff_toInt_lt, show (0 : Int32).toInt = 0 from rfl]; omega
  · show ((y &&& 2147483647) % 28).toInt.toNat < 28
    omega
abbrev own_R0 (n : Int) : Prop := (65536 ≤ n ∧ n ≤ 983039)
theorem own_f1_185 (c : Int32) : f1_185 c = if own_R0 c.toInt then 1 else 0 := by
  simp only [f1_185, Int32.lt_iff_toInt_lt, ← Int32.toInt_inj, own_R0, show (65536 : Int32).toInt = 65536 from rfl, show (983039 : Int32).toInt = 983039 from rfl]
  generalize c.toInt = n
  repeat' split
  all_goals first | rfl | (exfalso; omega)
abbrev own_R1 (n : Int) : Prop := (65008 ≤ n ∧ n ≤ 65533) ∨ (65536 ≤ n ∧ n ≤ 983039)
theorem own_f1_173 (c : Int32) : f1_173 c = if own_R1 c.toInt then 1 else 0 := by
  simp only [f1_173, own_f1_185, own_R0, Int32.lt_iff_toInt_lt, ← Int32.toInt_inj, own_R1, show (65008 : Int32).toInt = 65008 from rfl, show (65533 : Int32).toInt = 65533 from rfl]
  generalize c.toInt = n
  repeat' split
  all_goals first | rfl | (exfalso; omega)
abbrev own_R2 (n : Int) : Prop := (63744 ≤ n ∧ n ≤ 64975) ∨ (65008 ≤ n ∧ n ≤ 65533) ∨ (65536 ≤ n ∧ n ≤ 983039)
theorem own_f1_161 (c : Int32) : f1_161 c = if own_R2 c.toInt then 1 else 0 := by
  simp only [f1_161, own_f1_173, own_R1, Int32.lt_iff_toInt_lt, ← Int32.toInt_inj, own_R2, show (63744 : Int32).toInt = 63744 from rfl, show (64975 : Int32).toInt = 64975 from rfl]
  generalize c.toInt = n
  repeat' split
  all_goals first | rfl | (exfalso; omega)
abbrev own_R3 (n : Int) : Prop := (12289 ≤ n ∧ n ≤ 55295) ∨ (63744 ≤ n ∧ n ≤ 64975) ∨ (65008 ≤ n ∧ n ≤ 65533) ∨ (65536 ≤ n ∧ n ≤ 983039)
theorem own_f1_148 (c : Int32) : f1_148 c = if own_R3 c.toInt then 1 else 0 := by
  simp only [f1_148, own_f1_161, own_R2, Int32.lt_iff_toInt_lt, ← Int32.toInt_inj, own_R3, show (12289 : Int32).toInt = 12289 from rfl, show (55295 : Int32).toInt = 55295 from rfl]
  generalize c.toInt = n
  repeat' split
  all_goals first | rfl | (exfalso; omega)
abbrev own_R4 (n : Int) : Prop := (11264 ≤ n ∧ n ≤ 12271) ∨ (12289 ≤ n ∧ n ≤ 55295) ∨ (63744 ≤ n ∧ n ≤ 64975) ∨ (65008 ≤ n ∧ n ≤ 65533) ∨ (65536 ≤ n ∧ n ≤ 983039)
theorem own_f1_134 (c : Int32) : f1_134 c = if own_R4 c.toInt then 1 else 0 := by
  simp only [f1_134, own_f1_148, own_R3, Int32.lt_iff_toInt_lt, ← Int32.toInt_inj, own_R4, show (11264 : Int32).toInt = 11264 from rfl, show (12271 : Int32).toInt = 12271 from rfl]
  generalize c.toInt = n
  repeat' split
  all_goals first | rfl | (exfalso; omega)
abbrev own_R5 (n : Int) : Prop := (8304 ≤ n ∧ n ≤ 8591) ∨ (11264 ≤ n ∧ n ≤ 12271) ∨ (12289 ≤ n ∧ n ≤ 55295) ∨ (63744 ≤ n ∧ n ≤ 64975) ∨ (65008 ≤ n ∧ n ≤ 65533) ∨ (65536 ≤ n ∧ n ≤ 983039)
theorem own_f1_120 (c : Int32) : f1_120 c = if own_R5 c.toInt then 1 else 0 := by
  simp only [f1_120, own_f1_134, own_R4, Int32.lt_iff_toInt_lt, ← Int32.toInt_inj, own_R5, show (8304 : Int32).toInt = 8304 from rfl, show (8591 : Int32).toInt = 8591 from rfl]
  generalize c.toInt = n
  repeat' split
  all_goals first | rfl | (exfalso; omega)
abbrev own_R6 (n : Int) : Prop := (8204 ≤ n ∧ n ≤ 8205) ∨ (8304 ≤ n ∧ n ≤ 8591) ∨ (11264 ≤ n ∧ n ≤ 12271) ∨ (12289 ≤ n ∧ n ≤ 55295) ∨ (63744 ≤ n ∧ n ≤ 64975) ∨ (65008 ≤ n ∧ n ≤ 65533) ∨ (65536 ≤ n ∧ n ≤ 983039)
theorem own_f1_106 (c : Int32) : f1_106 c = if own_R6 c.toInt then 1 else 0 := by
  simp only [f1_106, own_f1_120, own_R5, Int32.lt_iff_toInt_lt, ← Int32.toInt_inj, own_R6, show (8204 : Int32).toInt = 8204 from rfl, show (8205 : Int32).toInt = 8205 from rfl]
  generalize c.toInt = n
  repeat' split
  all_goals first | rfl | (exfalso; omega)
abbrev own_R7 (n : Int) : Prop := (895 ≤ n ∧ n ≤ 8191) ∨ (8204 ≤ n ∧ n ≤ 8205) ∨ (8304 ≤ n ∧ n ≤ 8591) ∨ (11264 ≤ n ∧ n ≤ 12271) ∨ (12289 ≤ n ∧ n ≤ 55295) ∨ (63744 ≤ n ∧ n ≤ 64975) ∨ (65008 ≤ n ∧ n ≤ 65533) ∨ (65536 ≤ n ∧ n ≤ 983039)
theorem own_f1_92 (c : Int32) : f1_92 c = if own_R7 c.toInt then 1 else 0 := by
  simp only [f1_92, own_f1_106, own_R6, Int32.lt_iff_toInt_lt, ← Int32.toInt_inj, own_R7, show (895 : Int32).toInt = 895 from rfl, show (8191 : Int32).toInt = 8191 from rfl]
  generalize c.toInt = n
  repeat' split
  all_goals first | rfl | (exfalso; omega)
abbrev own_R8 (n : Int) : Prop := (880 ≤ n ∧ n ≤ 893) ∨ (895 ≤ n ∧ n ≤ 8191) ∨ (8204 ≤ n ∧ n ≤ 8205) ∨ (8304 ≤ n ∧ n ≤ 8591) ∨ (11264 ≤ n ∧ n ≤ 12271) ∨ (12289 ≤ n ∧ n ≤ 55295) ∨ (63744 ≤ n ∧ n ≤ 64975) ∨ (65008 ≤ n ∧ n ≤ 65533) ∨ (65536 ≤ n ∧ n ≤ 983039)
theorem own_f1_78 (c : Int32) : f1_78 c = if own_R8 c.toInt then 1 else 0 := by
  simp only [f1_78, own_f1_92, own_R7, Int32.lt_iff_toInt_lt, ← Int32.toInt_inj, own_R8, show (880 : Int32).toInt = 880 from rfl, show (893 : Int32).toInt = 893 from rfl]
  generalize c.toInt = n
  repeat' split
  all_goals first | rfl | (exfalso; omega)
abbrev own_R9 (n : Int) : Prop := (248 ≤ n ∧ n ≤ 767) ∨ (880 ≤ n ∧ n ≤ 893) ∨ (895 ≤ n ∧ n ≤ 8191) ∨ (8204 ≤ n ∧ n ≤ 8205) ∨ (8304 ≤ n ∧ n ≤ 8591) ∨ (11264 ≤ n ∧ n ≤ 12271) ∨ (12289 ≤ n ∧ n ≤ 55295) ∨ (63744 ≤ n ∧ n ≤ 64975) ∨ (65008 ≤ n ∧ n ≤ 65533) ∨ (65536 ≤ n ∧ n ≤ 983039)
theorem own_f1_64 (c : Int32) : f1_64 c = if own_R9 c.toInt then 1 else 0 := by
  simp only [f1_64, own_f1_78, own_R8, Int32.lt_iff_toInt_lt, ← Int32.toInt_inj, own_R9, show (248 : Int32).toInt = 248 from rfl, show (767 : Int32).toInt = 767 from rfl]
  generalize c.toInt = n
  repeat' split
  all_goals first | rfl | (exfalso; omega)
abbrev own_R10 (n : Int) : Prop := (216 ≤ n ∧ n ≤ 246) ∨ (248 ≤ n ∧ n ≤ 767) ∨ (880 ≤ n ∧ n ≤ 893) ∨ (895 ≤ n ∧ n ≤ 8191) ∨ (8204 ≤ n ∧ n ≤ 8205) ∨ (8304 ≤ n ∧ n ≤ 8591) ∨ (11264 ≤ n ∧ n ≤ 12271) ∨ (12289 ≤ n ∧ n ≤ 55295) ∨ (63744 ≤ n ∧ n ≤ 64975) ∨ (65008 ≤ n ∧ n ≤ 65533) ∨ (65536 ≤ n ∧ n ≤ 983039)
theorem own_f1_50 (c : Int32) : f1_50 c = if own_R10 c.toInt then 1 else 0 := by
  simp only [f1_50, own_f1_64, own_R9, Int32.lt_iff_toInt_lt, ← Int32.toInt_inj, own_R10, show (216 : Int32).toInt = 216 from rfl, show (246 : Int32).toInt = 246 from rfl]
  generalize c.toInt = n
  repeat' split
  all_goals first | rfl | (exfalso; omega)
abbrev own_R11 (n : Int) : Prop := n = 95 ∨ n = 58 ∨ (192 ≤ n ∧ n ≤ 214) ∨ (216 ≤ n ∧ n ≤ 246) ∨ (248 ≤ n ∧ n ≤ 767) ∨ (880 ≤ n ∧ n ≤ 893) ∨ (895 ≤ n ∧ n ≤ 8191) ∨ (8204 ≤ n ∧ n ≤ 8205) ∨ (8304 ≤ n ∧ n ≤ 8591) ∨ (11264 ≤ n ∧ n ≤ 12271) ∨ (12289 ≤ n ∧ n ≤ 55295) ∨ (63744 ≤ n ∧ n ≤ 64975) ∨ (65008 ≤ n ∧ n ≤ 65533) ∨ (65536 ≤ n ∧ n ≤ 983039)
theorem own_f1_24 (c : Int32) : f1_24 c = if own_R11 c.toInt then 1 else 0 := by
  simp only [f1_24, own_f1_50, own_R10, Int32.lt_iff_toInt_lt, ← Int32.toInt_inj, own_R11, show (58 : Int32).toInt = 58 from rfl, show (95 : Int32).toInt = 95 from rfl, show (192 : Int32).toInt = 192 from rfl, show (214 : Int32).toInt = 214 from rfl]
  generalize c.toInt = n
  repeat' split
  all_goals first | rfl | (exfalso; omega)
abbrev own_R12 (n : Int) : Prop := (65 ≤ n ∧ n ≤ 90) ∨ n = 95 ∨ n = 58 ∨ (192 ≤ n ∧ n ≤ 214) ∨ (216 ≤ n ∧ n ≤ 246) ∨ (248 ≤ n ∧ n ≤ 767) ∨ (880 ≤ n ∧ n ≤ 893) ∨ (895 ≤ n ∧ n ≤ 8191) ∨ (8204 ≤ n ∧ n ≤ 8205) ∨ (8304 ≤ n ∧ n ≤ 8591) ∨ (11264 ≤ n ∧ n ≤ 12271) ∨ (12289 ≤ n ∧ n ≤ 55295) ∨ (63744 ≤ n ∧ n ≤ 64975) ∨ (65008 ≤ n ∧ n ≤ 65533) ∨ (65536 ≤ n ∧ n ≤ 983039)
theorem own_f1_12 (c : Int32) : f1_12 c = if own_R12 c.toInt then 1 else 0 := by
  simp only [f1_12, own_f1_24, own_R11, Int32.lt_iff_toInt_lt, ← Int32.toInt_inj, own_R12, show (65 : Int32).toInt = 65 from rfl, show (90 : Int32).toInt = 90 from rfl]
  generalize c.toInt = n
  repeat' split
  all_goals first | rfl | (exfalso; omega)
abbrev own_R13 (n : Int) : Prop := (97 ≤ n ∧ n ≤ 122) ∨ (65 ≤ n ∧ n ≤ 90) ∨ n = 95 ∨ n = 58 ∨ (192 ≤ n ∧ n ≤ 214) ∨ (216 ≤ n ∧ n ≤ 246) ∨ (248 ≤ n ∧ n ≤ 767) ∨ (880 ≤ n ∧ n ≤ 893) ∨ (895 ≤ n ∧ n ≤ 8191) ∨ (8204 ≤ n ∧ n ≤ 8205) ∨ (8304 ≤ n ∧ n ≤ 8591) ∨ (11264 ≤ n ∧ n ≤ 12271) ∨ (12289 ≤ n ∧ n ≤ 55295) ∨ (63744 ≤ n ∧ n ≤ 64975) ∨ (65008 ≤ n ∧ n ≤ 65533) ∨ (65536 ≤ n ∧ n ≤ 983039)
theorem own_f1 (c : Int32) : f1 c = if own_R13 c.toInt then 1 else 0 := by
  simp only [f1, own_f1_12, own_R12, Int32.lt_iff_toInt_lt, ← Int32.toInt_inj, own_R13, show (97 : Int32).toInt = 97 from rfl, show (122 : Int32).toInt = 122 from rfl]
  generalize c.toInt = n
  repeat' split
  all_goals first | rfl | (exfalso; omega)
theorem own_stp {p : Prop} [Decidable p] {r a b : Int32} (h1 : p → r.toInt = a.toInt) (h2 : ¬ p → r.toInt = b.toInt) : r.toInt = (if p then a else b).toInt := by
  by_cases h : p
  · rw [if_pos h]; exact h1 h
  · rw [if_neg h]; exact h2 h
set_option maxRecDepth 65536 in
set_option maxHeartbeats 4000000 in
theorem own_eq (c : Int32) : f1 c = f2 c := by
  rw [own_f1]
  simp only [f2, own_R13, Int32.lt_iff_toInt_lt, ← Int32.toInt_inj, show (58 : Int32).toInt = 58 from rfl, show (65 : Int32).toInt = 65 from rfl, show (90 : Int32).toInt = 90 from rfl, show (95 : Int32).toInt = 95 from rfl, show (97 : Int32).toInt = 97 from rfl, show (122 : Int32).toInt = 122 from rfl, show (192 : Int32).toInt = 192 from rfl, show (215 : Int32).toInt = 215 from rfl, show (247 : Int32).toInt = 247 from rfl, show (767 : Int32).toInt = 767 from rfl, show (880 : Int32).toInt = 880 from rfl, show (894 : Int32).toInt = 894 from rfl, show (8191 : Int32).toInt = 8191 from rfl, show (8204 : Int32).toInt = 8204 from rfl, show (8205 : Int32).toInt = 8205 from rfl, show (8304 : Int32).toInt = 8304 from rfl, show (8591 : Int32).toInt = 8591 from rfl, show (11264 : Int32).toInt = 11264 from rfl, show (12271 : Int32).toInt = 12271 from rfl, show (12289 : Int32).toInt = 12289 from rfl, show (55295 : Int32).toInt = 55295 from rfl, show (63744 : Int32).toInt = 63744 from rfl, show (64975 : Int32).toInt = 64975 from rfl, show (65008 : Int32).toInt = 65008 from rfl, show (65533 : Int32).toInt = 65533 from rfl, show (65536 : Int32).toInt = 65536 from rfl, show (983039 : Int32).toInt = 983039 from rfl]
  generalize c.toInt = n
  repeat' (refine own_stp (fun _ => ?_) (fun _ => ?_))
  all_goals first | (rw [if_pos (by omega)]; done) | (rw [if_neg (by omega)]; done)
theorem own_law (x y z : Int32) : f0 x y z = 1 := by
  have h1 : v0_65 x y z = 1 := by rw [v0_65, if_pos (own_eq _)]
  have h2 : v0_70 x y z = 1 := by rw [v0_70, if_pos (own_eq _)]
  rw [f0, h1, h2]; decide
set_option maxRecDepth 65536 in
set_option maxHeartbeats 40000000 in
theorem rm1 (l : Launch) (Z : State) (a0 : Array Value) (hw : ∀ d ∈ tables_1, d.before a0 Z = true) (ws : List Jvm.Cond) (p1 : Int32) (h0 : Heap) :
    Con l Z (⟨"com/example/redefine/redefine/assessment/NameLiteral", "isNameStartChar", "(I)Z"⟩ : MethodName) prog_117_method_12_code 1 (some .boolean) ws ({ frames := 0, cells := 0, slots := 0, locals := 0 } : Room) #[(.int p1)] h0 (PQ (.int (f1 p1)) h0) := by
  refine own_body pn_1 (fun m => ef_1 m p1) ?_
  intro p e s m below meth c T0 W X0 hx hby hml hret hlk hown hnm hZ e0 hW
  show Go p e below W T0 (mkF m 0 #[.val (.int p1)] [])
  refine Go.of (fun _ k => XS.iloadN X0.here hx rfl (hb hby d1_0) rfl k) ?_
  show Go p e below W T0 (mkF m 1 #[.val (.int p1)] [(.int p1)])
  refine Go.of (fun _ k => XS.bipush X0.here hx rfl (hb hby d1_1) k) ?_
  show Go p e below W T0 (mkF m 3 #[.val (.int p1)] [(.int (97 : Int32)), (.int p1)])
  have J3 : (f1 p1) = (f1_12 p1) → Go p e below W T0 (mkF m 12 #[.val (.int p1)] []) := by
    intro hJ3
    show Go p e below W T0 (mkF m 12 #[.val (.int p1)] [])
    refine Go.of (fun _ k => XS.iloadN X0.here hx rfl (hb hby d1_12) rfl k) ?_
    show Go p e below W T0 (mkF m 13 #[.val (.int p1)] [(.int p1)])
    refine Go.of (fun _ k => XS.bipush X0.here hx rfl (hb hby d1_13) k) ?_
    show Go p e below W T0 (mkF m 15 #[.val (.int p1)] [(.int (65 : Int32)), (.int p1)])
    have J6 : (f1_12 p1) = (f1_24 p1) → Go p e below W T0 (mkF m 24 #[.val (.int p1)] []) := by
      intro hJ6
      show Go p e below W T0 (mkF m 24 #[.val (.int p1)] [])
      refine Go.of (fun _ k => XS.iloadN X0.here hx rfl (hb hby d1_24) rfl k) ?_
      show Go p e below W T0 (mkF m 25 #[.val (.int p1)] [(.int p1)])
      refine Go.of (fun _ k => XS.bipush X0.here hx rfl (hb hby d1_25) k) ?_
      show Go p e below W T0 (mkF m 27 #[.val (.int p1)] [(.int (95 : Int32)), (.int p1)])
      by_cases c7 : p1 = (95 : Int32)
      · refine Go.of (fun _ k => XS.icmpYes X0.here hx rfl (pc0 := 27) (pc' := 197) rfl (hb hby d1_27) rfl (Jvm.Free.XT.ii_eq_t c7) (by decide) (by decide) k) ?_
        show Go p e below W T0 (mkF m 197 #[.val (.int p1)] [])
        refine Go.of (fun _ k => XS.iconst X0.here hx rfl (hb hby d1_197) k) ?_
        show Go p e below W T0 (mkF m 198 #[.val (.int p1)] [(.int (1 : Int32))])
        refine Go.of (fun _ k => XS.goto X0.here hx rfl (pc0 := 198) (pc' := 202) rfl (hb hby d1_198) (by decide) (by decide) k) ?_
        show Go p e below W T0 (mkF m 202 #[.val (.int p1)] [(.int (1 : Int32))])
        have q : (f1_24 p1) = (1 : Int32) := by rw [f1_24, if_pos c7]
        replace q : (f1 p1) = (1 : Int32) := (hJ3.trans hJ6).trans q
        exact Go.retN X0 hx hret (Or.inl rfl) (hb hby d1_202) hlk (Eq.trans rfl q.symm) (fun t ht fe => hW t _ _ _ _ ⟨rfl, rfl, ht.trans e0⟩ fe (by decide) (by decide))
      · refine Go.of (fun _ k => XS.icmpNo X0.here hx rfl (hb hby d1_27) rfl (Jvm.Free.XT.ii_eq_f c7) k) ?_
        show Go p e below W T0 (mkF m 30 #[.val (.int p1)] [])
        refine Go.of (fun _ k => XS.iloadN X0.here hx rfl (hb hby d1_30) rfl k) ?_
        show Go p e below W T0 (mkF m 31 #[.val (.int p1)] [(.int p1)])
        refine Go.of (fun _ k => XS.bipush X0.here hx rfl (hb hby d1_31) k) ?_
        show Go p e below W T0 (mkF m 33 #[.val (.int p1)] [(.int (58 : Int32)), (.int p1)])
        by_cases c8 : p1 = (58 : Int32)
        · refine Go.of (fun _ k => XS.icmpYes X0.here hx rfl (pc0 := 33) (pc' := 197) rfl (hb hby d1_33) rfl (Jvm.Free.XT.ii_eq_t c8) (by decide) (by decide) k) ?_
          show Go p e below W T0 (mkF m 197 #[.val (.int p1)] [])
          refine Go.of (fun _ k => XS.iconst X0.here hx rfl (hb hby d1_197) k) ?_
          show Go p e below W T0 (mkF m 198 #[.val (.int p1)] [(.int (1 : Int32))])
          refine Go.of (fun _ k => XS.goto X0.here hx rfl (pc0 := 198) (pc' := 202) rfl (hb hby d1_198) (by decide) (by decide) k) ?_
          show Go p e below W T0 (mkF m 202 #[.val (.int p1)] [(.int (1 : Int32))])
          have q : (f1_24 p1) = (1 : Int32) := by rw [f1_24, if_neg c7, if_pos c8]
          replace q : (f1 p1) = (1 : Int32) := (hJ3.trans hJ6).trans q
          exact Go.retN X0 hx hret (Or.inl rfl) (hb hby d1_202) hlk (Eq.trans rfl q.symm) (fun t ht fe => hW t _ _ _ _ ⟨rfl, rfl, ht.trans e0⟩ fe (by decide) (by decide))
        · refine Go.of (fun _ k => XS.icmpNo X0.here hx rfl (hb hby d1_33) rfl (Jvm.Free.XT.ii_eq_f c8) k) ?_
          show Go p e below W T0 (mkF m 36 #[.val (.int p1)] [])
          refine Go.of (fun _ k => XS.iloadN X0.here hx rfl (hb hby d1_36) rfl k) ?_
          show Go p e below W T0 (mkF m 37 #[.val (.int p1)] [(.int p1)])
          refine Go.of (fun _ k => XS.sipush X0.here hx rfl (hb hby d1_37) k) ?_
          show Go p e below W T0 (mkF m 40 #[.val (.int p1)] [(.int (192 : Int32)), (.int p1)])
          have J11 : (f1_24 p1) = (f1_50 p1) → Go p e below W T0 (mkF m 50 #[.val (.int p1)] []) := by
            intro hJ11
            show Go p e below W T0 (mkF m 50 #[.val (.int p1)] [])
            refine Go.of (fun _ k => XS.iloadN X0.here hx rfl (hb hby d1_50) rfl k) ?_
            show Go p e below W T0 (mkF m 51 #[.val (.int p1)] [(.int p1)])
            refine Go.of (fun _ k => XS.sipush X0.here hx rfl (hb hby d1_51) k) ?_
            show Go p e below W T0 (mkF m 54 #[.val (.int p1)] [(.int (216 : Int32)), (.int p1)])
            have J14 : (f1_50 p1) = (f1_64 p1) → Go p e below W T0 (mkF m 64 #[.val (.int p1)] []) := by
              intro hJ14
              show Go p e below W T0 (mkF m 64 #[.val (.int p1)] [])
              refine Go.of (fun _ k => XS.iloadN X0.here hx rfl (hb hby d1_64) rfl k) ?_
              show Go p e below W T0 (mkF m 65 #[.val (.int p1)] [(.int p1)])
              refine Go.of (fun _ k => XS.sipush X0.here hx rfl (hb hby d1_65) k) ?_
              show Go p e below W T0 (mkF m 68 #[.val (.int p1)] [(.int (248 : Int32)), (.int p1)])
              have J17 : (f1_64 p1) = (f1_78 p1) → Go p e below W T0 (mkF m 78 #[.val (.int p1)] []) := by
                intro hJ17
                show Go p e below W T0 (mkF m 78 #[.val (.int p1)] [])
                refine Go.of (fun _ k => XS.iloadN X0.here hx rfl (hb hby d1_78) rfl k) ?_
                show Go p e below W T0 (mkF m 79 #[.val (.int p1)] [(.int p1)])
                refine Go.of (fun _ k => XS.sipush X0.here hx rfl (hb hby d1_79) k) ?_
                show Go p e below W T0 (mkF m 82 #[.val (.int p1)] [(.int (880 : Int32)), (.int p1)])
                have J20 : (f1_78 p1) = (f1_92 p1) → Go p e below W T0 (mkF m 92 #[.val (.int p1)] []) := by
                  intro hJ20
                  show Go p e below W T0 (mkF m 92 #[.val (.int p1)] [])
                  refine Go.of (fun _ k => XS.iloadN X0.here hx rfl (hb hby d1_92) rfl k) ?_
                  show Go p e below W T0 (mkF m 93 #[.val (.int p1)] [(.int p1)])
                  refine Go.of (fun _ k => XS.sipush X0.here hx rfl (hb hby d1_93) k) ?_
                  show Go p e below W T0 (mkF m 96 #[.val (.int p1)] [(.int (895 : Int32)), (.int p1)])
                  have J23 : (f1_92 p1) = (f1_106 p1) → Go p e below W T0 (mkF m 106 #[.val (.int p1)] []) := by
                    intro hJ23
                    show Go p e below W T0 (mkF m 106 #[.val (.int p1)] [])
                    refine Go.of (fun _ k => XS.iloadN X0.here hx rfl (hb hby d1_106) rfl k) ?_
                    show Go p e below W T0 (mkF m 107 #[.val (.int p1)] [(.int p1)])
                    refine Go.of (fun _ k => XS.sipush X0.here hx rfl (hb hby d1_107) k) ?_
                    show Go p e below W T0 (mkF m 110 #[.val (.int p1)] [(.int (8204 : Int32)), (.int p1)])
                    have J26 : (f1_106 p1) = (f1_120 p1) → Go p e below W T0 (mkF m 120 #[.val (.int p1)] []) := by
                      intro hJ26
                      show Go p e below W T0 (mkF m 120 #[.val (.int p1)] [])
                      refine Go.of (fun _ k => XS.iloadN X0.here hx rfl (hb hby d1_120) rfl k) ?_
                      show Go p e below W T0 (mkF m 121 #[.val (.int p1)] [(.int p1)])
                      refine Go.of (fun _ k => XS.sipush X0.here hx rfl (hb hby d1_121) k) ?_
                      show Go p e below W T0 (mkF m 124 #[.val (.int p1)] [(.int (8304 : Int32)), (.int p1)])
                      have J29 : (f1_120 p1) = (f1_134 p1) → Go p e below W T0 (mkF m 134 #[.val (.int p1)] []) := by
                        intro hJ29
                        show Go p e below W T0 (mkF m 134 #[.val (.int p1)] [])
                        refine Go.of (fun _ k => XS.iloadN X0.here hx rfl (hb hby d1_134) rfl k) ?_
                        show Go p e below W T0 (mkF m 135 #[.val (.int p1)] [(.int p1)])
                        refine Go.of (fun _ k => XS.sipush X0.here hx rfl (hb hby d1_135) k) ?_
                        show Go p e below W T0 (mkF m 138 #[.val (.int p1)] [(.int (11264 : Int32)), (.int p1)])
                        have J32 : (f1_134 p1) = (f1_148 p1) → Go p e below W T0 (mkF m 148 #[.val (.int p1)] []) := by
                          intro hJ32
                          show Go p e below W T0 (mkF m 148 #[.val (.int p1)] [])
                          refine Go.of (fun _ k => XS.iloadN X0.here hx rfl (hb hby d1_148) rfl k) ?_
                          show Go p e below W T0 (mkF m 149 #[.val (.int p1)] [(.int p1)])
                          refine Go.of (fun _ k => XS.sipush X0.here hx rfl (hb hby d1_149) k) ?_
                          show Go p e below W T0 (mkF m 152 #[.val (.int p1)] [(.int (12289 : Int32)), (.int p1)])
                          have J35 : (f1_148 p1) = (f1_161 p1) → Go p e below W T0 (mkF m 161 #[.val (.int p1)] []) := by
                            intro hJ35
                            show Go p e below W T0 (mkF m 161 #[.val (.int p1)] [])
                            refine Go.of (fun _ k => XS.iloadN X0.here hx rfl (hb hby d1_161) rfl k) ?_
                            show Go p e below W T0 (mkF m 162 #[.val (.int p1)] [(.int p1)])
                            refine Go.of (fun _ k => X0.ldcI hx hown (mvT hZ (hw _ (List.mem_of_getElem? (i := 13) rfl))) rfl (hb hby d1_162) k) ?_
                            show Go p e below W T0 (mkF m 164 #[.val (.int p1)] [(.int (63744 : Int32)), (.int p1)])
                            have J38 : (f1_161 p1) = (f1_173 p1) → Go p e below W T0 (mkF m 173 #[.val (.int p1)] []) := by
                              intro hJ38
                              show Go p e below W T0 (mkF m 173 #[.val (.int p1)] [])
                              refine Go.of (fun _ k => XS.iloadN X0.here hx rfl (hb hby d1_173) rfl k) ?_
                              show Go p e below W T0 (mkF m 174 #[.val (.int p1)] [(.int p1)])
                              refine Go.of (fun _ k => X0.ldcI hx hown (mvT hZ (hw _ (List.mem_of_getElem? (i := 14) rfl))) rfl (hb hby d1_174) k) ?_
                              show Go p e below W T0 (mkF m 176 #[.val (.int p1)] [(.int (65008 : Int32)), (.int p1)])
                              have J41 : (f1_173 p1) = (f1_185 p1) → Go p e below W T0 (mkF m 185 #[.val (.int p1)] []) := by
                                intro hJ41
                                show Go p e below W T0 (mkF m 185 #[.val (.int p1)] [])
                                refine Go.of (fun _ k => XS.iloadN X0.here hx rfl (hb hby d1_185) rfl k) ?_
                                show Go p e below W T0 (mkF m 186 #[.val (.int p1)] [(.int p1)])
                                refine Go.of (fun _ k => X0.ldcI hx hown (mvT hZ (hw _ (List.mem_of_getElem? (i := 15) rfl))) rfl (hb hby d1_186) k) ?_
                                show Go p e below W T0 (mkF m 188 #[.val (.int p1)] [(.int (65536 : Int32)), (.int p1)])
                                by_cases c42 : p1 < (65536 : Int32)
                                · refine Go.of (fun _ k => XS.icmpYes X0.here hx rfl (pc0 := 188) (pc' := 201) rfl (hb hby d1_188) rfl (Jvm.Free.XT.ii_lt_t c42) (by decide) (by decide) k) ?_
                                  show Go p e below W T0 (mkF m 201 #[.val (.int p1)] [])
                                  refine Go.of (fun _ k => XS.iconst X0.here hx rfl (hb hby d1_201) k) ?_
                                  show Go p e below W T0 (mkF m 202 #[.val (.int p1)] [(.int (0 : Int32))])
                                  have q : (f1_185 p1) = (0 : Int32) := by rw [f1_185, if_pos c42]
                                  replace q : (f1 p1) = (0 : Int32) := ((((((((((((hJ3.trans hJ6).trans hJ11).trans hJ14).trans hJ17).trans hJ20).trans hJ23).trans hJ26).trans hJ29).trans hJ32).trans hJ35).trans hJ38).trans hJ41).trans q
                                  exact Go.retN X0 hx hret (Or.inl rfl) (hb hby d1_202) hlk (Eq.trans rfl q.symm) (fun t ht fe => hW t _ _ _ _ ⟨rfl, rfl, ht.trans e0⟩ fe (by decide) (by decide))
                                · refine Go.of (fun _ k => XS.icmpNo X0.here hx rfl (hb hby d1_188) rfl (Jvm.Free.XT.ii_lt_f c42) k) ?_
                                  show Go p e below W T0 (mkF m 191 #[.val (.int p1)] [])
                                  refine Go.of (fun _ k => XS.iloadN X0.here hx rfl (hb hby d1_191) rfl k) ?_
                                  show Go p e below W T0 (mkF m 192 #[.val (.int p1)] [(.int p1)])
                                  refine Go.of (fun _ k => X0.ldcI hx hown (mvT hZ (hw _ (List.mem_of_getElem? (i := 23) rfl))) rfl (hb hby d1_192) k) ?_
                                  show Go p e below W T0 (mkF m 194 #[.val (.int p1)] [(.int (983039 : Int32)), (.int p1)])
                                  by_cases c43 : (983039 : Int32) < p1
                                  · refine Go.of (fun _ k => XS.icmpYes X0.here hx rfl (pc0 := 194) (pc' := 201) rfl (hb hby d1_194) rfl (Jvm.Free.XT.ii_gt_t c43) (by decide) (by decide) k) ?_
                                    show Go p e below W T0 (mkF m 201 #[.val (.int p1)] [])
                                    refine Go.of (fun _ k => XS.iconst X0.here hx rfl (hb hby d1_201) k) ?_
                                    show Go p e below W T0 (mkF m 202 #[.val (.int p1)] [(.int (0 : Int32))])
                                    have q : (f1_185 p1) = (0 : Int32) := by rw [f1_185, if_neg c42, if_pos c43]
                                    replace q : (f1 p1) = (0 : Int32) := ((((((((((((hJ3.trans hJ6).trans hJ11).trans hJ14).trans hJ17).trans hJ20).trans hJ23).trans hJ26).trans hJ29).trans hJ32).trans hJ35).trans hJ38).trans hJ41).trans q
                                    exact Go.retN X0 hx hret (Or.inl rfl) (hb hby d1_202) hlk (Eq.trans rfl q.symm) (fun t ht fe => hW t _ _ _ _ ⟨rfl, rfl, ht.trans e0⟩ fe (by decide) (by decide))
                                  · refine Go.of (fun _ k => XS.icmpNo X0.here hx rfl (hb hby d1_194) rfl (Jvm.Free.XT.ii_gt_f c43) k) ?_
                                    show Go p e below W T0 (mkF m 197 #[.val (.int p1)] [])
                                    refine Go.of (fun _ k => XS.iconst X0.here hx rfl (hb hby d1_197) k) ?_
                                    show Go p e below W T0 (mkF m 198 #[.val (.int p1)] [(.int (1 : Int32))])
                                    refine Go.of (fun _ k => XS.goto X0.here hx rfl (pc0 := 198) (pc' := 202) rfl (hb hby d1_198) (by decide) (by decide) k) ?_
                                    show Go p e below W T0 (mkF m 202 #[.val (.int p1)] [(.int (1 : Int32))])
                                    have q : (f1_185 p1) = (1 : Int32) := by rw [f1_185, if_neg c42, if_neg c43]
                                    replace q : (f1 p1) = (1 : Int32) := ((((((((((((hJ3.trans hJ6).trans hJ11).trans hJ14).trans hJ17).trans hJ20).trans hJ23).trans hJ26).trans hJ29).trans hJ32).trans hJ35).trans hJ38).trans hJ41).trans q
                                    exact Go.retN X0 hx hret (Or.inl rfl) (hb hby d1_202) hlk (Eq.trans rfl q.symm) (fun t ht fe => hW t _ _ _ _ ⟨rfl, rfl, ht.trans e0⟩ fe (by decide) (by decide))
                              by_cases c39 : p1 < (65008 : Int32)
                              · refine Go.of (fun _ k => XS.icmpYes X0.here hx rfl (pc0 := 176) (pc' := 185) rfl (hb hby d1_176) rfl (Jvm.Free.XT.ii_lt_t c39) (by decide) (by decide) k) ?_
                                exact J41 (by rw [f1_173, if_pos c39])
                              · refine Go.of (fun _ k => XS.icmpNo X0.here hx rfl (hb hby d1_176) rfl (Jvm.Free.XT.ii_lt_f c39) k) ?_
                                show Go p e below W T0 (mkF m 179 #[.val (.int p1)] [])
                                refine Go.of (fun _ k => XS.iloadN X0.here hx rfl (hb hby d1_179) rfl k) ?_
                                show Go p e below W T0 (mkF m 180 #[.val (.int p1)] [(.int p1)])
                                refine Go.of (fun _ k => X0.ldcI hx hown (mvT hZ (hw _ (List.mem_of_getElem? (i := 22) rfl))) rfl (hb hby d1_180) k) ?_
                                show Go p e below W T0 (mkF m 182 #[.val (.int p1)] [(.int (65533 : Int32)), (.int p1)])
                                by_cases c40 : (65533 : Int32) < p1
                                · refine Go.of (fun _ k => XS.icmpNo X0.here hx rfl (hb hby d1_182) rfl (Jvm.Free.XT.ii_le_f c40) k) ?_
                                  exact J41 (by rw [f1_173, if_neg c39, if_pos c40])
                                · refine Go.of (fun _ k => XS.icmpYes X0.here hx rfl (pc0 := 182) (pc' := 197) rfl (hb hby d1_182) rfl (Jvm.Free.XT.ii_le_t c40) (by decide) (by decide) k) ?_
                                  show Go p e below W T0 (mkF m 197 #[.val (.int p1)] [])
                                  refine Go.of (fun _ k => XS.iconst X0.here hx rfl (hb hby d1_197) k) ?_
                                  show Go p e below W T0 (mkF m 198 #[.val (.int p1)] [(.int (1 : Int32))])
                                  refine Go.of (fun _ k => XS.goto X0.here hx rfl (pc0 := 198) (pc' := 202) rfl (hb hby d1_198) (by decide) (by decide) k) ?_
                                  show Go p e below W T0 (mkF m 202 #[.val (.int p1)] [(.int (1 : Int32))])
                                  have q : (f1_173 p1) = (1 : Int32) := by rw [f1_173, if_neg c39, if_neg c40]
                                  replace q : (f1 p1) = (1 : Int32) := (((((((((((hJ3.trans hJ6).trans hJ11).trans hJ14).trans hJ17).trans hJ20).trans hJ23).trans hJ26).trans hJ29).trans hJ32).trans hJ35).trans hJ38).trans q
                                  exact Go.retN X0 hx hret (Or.inl rfl) (hb hby d1_202) hlk (Eq.trans rfl q.symm) (fun t ht fe => hW t _ _ _ _ ⟨rfl, rfl, ht.trans e0⟩ fe (by decide) (by decide))
                            by_cases c36 : p1 < (63744 : Int32)
                            · refine Go.of (fun _ k => XS.icmpYes X0.here hx rfl (pc0 := 164) (pc' := 173) rfl (hb hby d1_164) rfl (Jvm.Free.XT.ii_lt_t c36) (by decide) (by decide) k) ?_
                              exact J38 (by rw [f1_161, if_pos c36])
                            · refine Go.of (fun _ k => XS.icmpNo X0.here hx rfl (hb hby d1_164) rfl (Jvm.Free.XT.ii_lt_f c36) k) ?_
                              show Go p e below W T0 (mkF m 167 #[.val (.int p1)] [])
                              refine Go.of (fun _ k => XS.iloadN X0.here hx rfl (hb hby d1_167) rfl k) ?_
                              show Go p e below W T0 (mkF m 168 #[.val (.int p1)] [(.int p1)])
                              refine Go.of (fun _ k => X0.ldcI hx hown (mvT hZ (hw _ (List.mem_of_getElem? (i := 21) rfl))) rfl (hb hby d1_168) k) ?_
                              show Go p e below W T0 (mkF m 170 #[.val (.int p1)] [(.int (64975 : Int32)), (.int p1)])
                              by_cases c37 : (64975 : Int32) < p1
                              · refine Go.of (fun _ k => XS.icmpNo X0.here hx rfl (hb hby d1_170) rfl (Jvm.Free.XT.ii_le_f c37) k) ?_
                                exact J38 (by rw [f1_161, if_neg c36, if_pos c37])
                              · refine Go.of (fun _ k => XS.icmpYes X0.here hx rfl (pc0 := 170) (pc' := 197) rfl (hb hby d1_170) rfl (Jvm.Free.XT.ii_le_t c37) (by decide) (by decide) k) ?_
                                show Go p e below W T0 (mkF m 197 #[.val (.int p1)] [])
                                refine Go.of (fun _ k => XS.iconst X0.here hx rfl (hb hby d1_197) k) ?_
                                show Go p e below W T0 (mkF m 198 #[.val (.int p1)] [(.int (1 : Int32))])
                                refine Go.of (fun _ k => XS.goto X0.here hx rfl (pc0 := 198) (pc' := 202) rfl (hb hby d1_198) (by decide) (by decide) k) ?_
                                show Go p e below W T0 (mkF m 202 #[.val (.int p1)] [(.int (1 : Int32))])
                                have q : (f1_161 p1) = (1 : Int32) := by rw [f1_161, if_neg c36, if_neg c37]
                                replace q : (f1 p1) = (1 : Int32) := ((((((((((hJ3.trans hJ6).trans hJ11).trans hJ14).trans hJ17).trans hJ20).trans hJ23).trans hJ26).trans hJ29).trans hJ32).trans hJ35).trans q
                                exact Go.retN X0 hx hret (Or.inl rfl) (hb hby d1_202) hlk (Eq.trans rfl q.symm) (fun t ht fe => hW t _ _ _ _ ⟨rfl, rfl, ht.trans e0⟩ fe (by decide) (by decide))
                          by_cases c33 : p1 < (12289 : Int32)
                          · refine Go.of (fun _ k => XS.icmpYes X0.here hx rfl (pc0 := 152) (pc' := 161) rfl (hb hby d1_152) rfl (Jvm.Free.XT.ii_lt_t c33) (by decide) (by decide) k) ?_
                            exact J35 (by rw [f1_148, if_pos c33])
                          · refine Go.of (fun _ k => XS.icmpNo X0.here hx rfl (hb hby d1_152) rfl (Jvm.Free.XT.ii_lt_f c33) k) ?_
                            show Go p e below W T0 (mkF m 155 #[.val (.int p1)] [])
                            refine Go.of (fun _ k => XS.iloadN X0.here hx rfl (hb hby d1_155) rfl k) ?_
                            show Go p e below W T0 (mkF m 156 #[.val (.int p1)] [(.int p1)])
                            refine Go.of (fun _ k => X0.ldcI hx hown (mvT hZ (hw _ (List.mem_of_getElem? (i := 20) rfl))) rfl (hb hby d1_156) k) ?_
                            show Go p e below W T0 (mkF m 158 #[.val (.int p1)] [(.int (55295 : Int32)), (.int p1)])
                            by_cases c34 : (55295 : Int32) < p1
                            · refine Go.of (fun _ k => XS.icmpNo X0.here hx rfl (hb hby d1_158) rfl (Jvm.Free.XT.ii_le_f c34) k) ?_
                              exact J35 (by rw [f1_148, if_neg c33, if_pos c34])
                            · refine Go.of (fun _ k => XS.icmpYes X0.here hx rfl (pc0 := 158) (pc' := 197) rfl (hb hby d1_158) rfl (Jvm.Free.XT.ii_le_t c34) (by decide) (by decide) k) ?_
                              show Go p e below W T0 (mkF m 197 #[.val (.int p1)] [])
                              refine Go.of (fun _ k => XS.iconst X0.here hx rfl (hb hby d1_197) k) ?_
                              show Go p e below W T0 (mkF m 198 #[.val (.int p1)] [(.int (1 : Int32))])
                              refine Go.of (fun _ k => XS.goto X0.here hx rfl (pc0 := 198) (pc' := 202) rfl (hb hby d1_198) (by decide) (by decide) k) ?_
                              show Go p e below W T0 (mkF m 202 #[.val (.int p1)] [(.int (1 : Int32))])
                              have q : (f1_148 p1) = (1 : Int32) := by rw [f1_148, if_neg c33, if_neg c34]
                              replace q : (f1 p1) = (1 : Int32) := (((((((((hJ3.trans hJ6).trans hJ11).trans hJ14).trans hJ17).trans hJ20).trans hJ23).trans hJ26).trans hJ29).trans hJ32).trans q
                              exact Go.retN X0 hx hret (Or.inl rfl) (hb hby d1_202) hlk (Eq.trans rfl q.symm) (fun t ht fe => hW t _ _ _ _ ⟨rfl, rfl, ht.trans e0⟩ fe (by decide) (by decide))
                        by_cases c30 : p1 < (11264 : Int32)
                        · refine Go.of (fun _ k => XS.icmpYes X0.here hx rfl (pc0 := 138) (pc' := 148) rfl (hb hby d1_138) rfl (Jvm.Free.XT.ii_lt_t c30) (by decide) (by decide) k) ?_
                          exact J32 (by rw [f1_134, if_pos c30])
                        · refine Go.of (fun _ k => XS.icmpNo X0.here hx rfl (hb hby d1_138) rfl (Jvm.Free.XT.ii_lt_f c30) k) ?_
                          show Go p e below W T0 (mkF m 141 #[.val (.int p1)] [])
                          refine Go.of (fun _ k => XS.iloadN X0.here hx rfl (hb hby d1_141) rfl k) ?_
                          show Go p e below W T0 (mkF m 142 #[.val (.int p1)] [(.int p1)])
                          refine Go.of (fun _ k => XS.sipush X0.here hx rfl (hb hby d1_142) k) ?_
                          show Go p e below W T0 (mkF m 145 #[.val (.int p1)] [(.int (12271 : Int32)), (.int p1)])
                          by_cases c31 : (12271 : Int32) < p1
                          · refine Go.of (fun _ k => XS.icmpNo X0.here hx rfl (hb hby d1_145) rfl (Jvm.Free.XT.ii_le_f c31) k) ?_
                            exact J32 (by rw [f1_134, if_neg c30, if_pos c31])
                          · refine Go.of (fun _ k => XS.icmpYes X0.here hx rfl (pc0 := 145) (pc' := 197) rfl (hb hby d1_145) rfl (Jvm.Free.XT.ii_le_t c31) (by decide) (by decide) k) ?_
                            show Go p e below W T0 (mkF m 197 #[.val (.int p1)] [])
                            refine Go.of (fun _ k => XS.iconst X0.here hx rfl (hb hby d1_197) k) ?_
                            show Go p e below W T0 (mkF m 198 #[.val (.int p1)] [(.int (1 : Int32))])
                            refine Go.of (fun _ k => XS.goto X0.here hx rfl (pc0 := 198) (pc' := 202) rfl (hb hby d1_198) (by decide) (by decide) k) ?_
                            show Go p e below W T0 (mkF m 202 #[.val (.int p1)] [(.int (1 : Int32))])
                            have q : (f1_134 p1) = (1 : Int32) := by rw [f1_134, if_neg c30, if_neg c31]
                            replace q : (f1 p1) = (1 : Int32) := ((((((((hJ3.trans hJ6).trans hJ11).trans hJ14).trans hJ17).trans hJ20).trans hJ23).trans hJ26).trans hJ29).trans q
                            exact Go.retN X0 hx hret (Or.inl rfl) (hb hby d1_202) hlk (Eq.trans rfl q.symm) (fun t ht fe => hW t _ _ _ _ ⟨rfl, rfl, ht.trans e0⟩ fe (by decide) (by decide))
                      by_cases c27 : p1 < (8304 : Int32)
                      · refine Go.of (fun _ k => XS.icmpYes X0.here hx rfl (pc0 := 124) (pc' := 134) rfl (hb hby d1_124) rfl (Jvm.Free.XT.ii_lt_t c27) (by decide) (by decide) k) ?_
                        exact J29 (by rw [f1_120, if_pos c27])
                      · refine Go.of (fun _ k => XS.icmpNo X0.here hx rfl (hb hby d1_124) rfl (Jvm.Free.XT.ii_lt_f c27) k) ?_
                        show Go p e below W T0 (mkF m 127 #[.val (.int p1)] [])
                        refine Go.of (fun _ k => XS.iloadN X0.here hx rfl (hb hby d1_127) rfl k) ?_
                        show Go p e below W T0 (mkF m 128 #[.val (.int p1)] [(.int p1)])
                        refine Go.of (fun _ k => XS.sipush X0.here hx rfl (hb hby d1_128) k) ?_
                        show Go p e below W T0 (mkF m 131 #[.val (.int p1)] [(.int (8591 : Int32)), (.int p1)])
                        by_cases c28 : (8591 : Int32) < p1
                        · refine Go.of (fun _ k => XS.icmpNo X0.here hx rfl (hb hby d1_131) rfl (Jvm.Free.XT.ii_le_f c28) k) ?_
                          exact J29 (by rw [f1_120, if_neg c27, if_pos c28])
                        · refine Go.of (fun _ k => XS.icmpYes X0.here hx rfl (pc0 := 131) (pc' := 197) rfl (hb hby d1_131) rfl (Jvm.Free.XT.ii_le_t c28) (by decide) (by decide) k) ?_
                          show Go p e below W T0 (mkF m 197 #[.val (.int p1)] [])
                          refine Go.of (fun _ k => XS.iconst X0.here hx rfl (hb hby d1_197) k) ?_
                          show Go p e below W T0 (mkF m 198 #[.val (.int p1)] [(.int (1 : Int32))])
                          refine Go.of (fun _ k => XS.goto X0.here hx rfl (pc0 := 198) (pc' := 202) rfl (hb hby d1_198) (by decide) (by decide) k) ?_
                          show Go p e below W T0 (mkF m 202 #[.val (.int p1)] [(.int (1 : Int32))])
                          have q : (f1_120 p1) = (1 : Int32) := by rw [f1_120, if_neg c27, if_neg c28]
                          replace q : (f1 p1) = (1 : Int32) := (((((((hJ3.trans hJ6).trans hJ11).trans hJ14).trans hJ17).trans hJ20).trans hJ23).trans hJ26).trans q
                          exact Go.retN X0 hx hret (Or.inl rfl) (hb hby d1_202) hlk (Eq.trans rfl q.symm) (fun t ht fe => hW t _ _ _ _ ⟨rfl, rfl, ht.trans e0⟩ fe (by decide) (by decide))
                    by_cases c24 : p1 < (8204 : Int32)
                    · refine Go.of (fun _ k => XS.icmpYes X0.here hx rfl (pc0 := 110) (pc' := 120) rfl (hb hby d1_110) rfl (Jvm.Free.XT.ii_lt_t c24) (by decide) (by decide) k) ?_
                      exact J26 (by rw [f1_106, if_pos c24])
                    · refine Go.of (fun _ k => XS.icmpNo X0.here hx rfl (hb hby d1_110) rfl (Jvm.Free.XT.ii_lt_f c24) k) ?_
                      show Go p e below W T0 (mkF m 113 #[.val (.int p1)] [])
                      refine Go.of (fun _ k => XS.iloadN X0.here hx rfl (hb hby d1_113) rfl k) ?_
                      show Go p e below W T0 (mkF m 114 #[.val (.int p1)] [(.int p1)])
                      refine Go.of (fun _ k => XS.sipush X0.here hx rfl (hb hby d1_114) k) ?_
                      show Go p e below W T0 (mkF m 117 #[.val (.int p1)] [(.int (8205 : Int32)), (.int p1)])
                      by_cases c25 : (8205 : Int32) < p1
                      · refine Go.of (fun _ k => XS.icmpNo X0.here hx rfl (hb hby d1_117) rfl (Jvm.Free.XT.ii_le_f c25) k) ?_
                        exact J26 (by rw [f1_106, if_neg c24, if_pos c25])
                      · refine Go.of (fun _ k => XS.icmpYes X0.here hx rfl (pc0 := 117) (pc' := 197) rfl (hb hby d1_117) rfl (Jvm.Free.XT.ii_le_t c25) (by decide) (by decide) k) ?_
                        show Go p e below W T0 (mkF m 197 #[.val (.int p1)] [])
                        refine Go.of (fun _ k => XS.iconst X0.here hx rfl (hb hby d1_197) k) ?_
                        show Go p e below W T0 (mkF m 198 #[.val (.int p1)] [(.int (1 : Int32))])
                        refine Go.of (fun _ k => XS.goto X0.here hx rfl (pc0 := 198) (pc' := 202) rfl (hb hby d1_198) (by decide) (by decide) k) ?_
                        show Go p e below W T0 (mkF m 202 #[.val (.int p1)] [(.int (1 : Int32))])
                        have q : (f1_106 p1) = (1 : Int32) := by rw [f1_106, if_neg c24, if_neg c25]
                        replace q : (f1 p1) = (1 : Int32) := ((((((hJ3.trans hJ6).trans hJ11).trans hJ14).trans hJ17).trans hJ20).trans hJ23).trans q
                        exact Go.retN X0 hx hret (Or.inl rfl) (hb hby d1_202) hlk (Eq.trans rfl q.symm) (fun t ht fe => hW t _ _ _ _ ⟨rfl, rfl, ht.trans e0⟩ fe (by decide) (by decide))
                  by_cases c21 : p1 < (895 : Int32)
                  · refine Go.of (fun _ k => XS.icmpYes X0.here hx rfl (pc0 := 96) (pc' := 106) rfl (hb hby d1_96) rfl (Jvm.Free.XT.ii_lt_t c21) (by decide) (by decide) k) ?_
                    exact J23 (by rw [f1_92, if_pos c21])
                  · refine Go.of (fun _ k => XS.icmpNo X0.here hx rfl (hb hby d1_96) rfl (Jvm.Free.XT.ii_lt_f c21) k) ?_
                    show Go p e below W T0 (mkF m 99 #[.val (.int p1)] [])
                    refine Go.of (fun _ k => XS.iloadN X0.here hx rfl (hb hby d1_99) rfl k) ?_
                    show Go p e below W T0 (mkF m 100 #[.val (.int p1)] [(.int p1)])
                    refine Go.of (fun _ k => XS.sipush X0.here hx rfl (hb hby d1_100) k) ?_
                    show Go p e below W T0 (mkF m 103 #[.val (.int p1)] [(.int (8191 : Int32)), (.int p1)])
                    by_cases c22 : (8191 : Int32) < p1
                    · refine Go.of (fun _ k => XS.icmpNo X0.here hx rfl (hb hby d1_103) rfl (Jvm.Free.XT.ii_le_f c22) k) ?_
                      exact J23 (by rw [f1_92, if_neg c21, if_pos c22])
                    · refine Go.of (fun _ k => XS.icmpYes X0.here hx rfl (pc0 := 103) (pc' := 197) rfl (hb hby d1_103) rfl (Jvm.Free.XT.ii_le_t c22) (by decide) (by decide) k) ?_
                      show Go p e below W T0 (mkF m 197 #[.val (.int p1)] [])
                      refine Go.of (fun _ k => XS.iconst X0.here hx rfl (hb hby d1_197) k) ?_
                      show Go p e below W T0 (mkF m 198 #[.val (.int p1)] [(.int (1 : Int32))])
                      refine Go.of (fun _ k => XS.goto X0.here hx rfl (pc0 := 198) (pc' := 202) rfl (hb hby d1_198) (by decide) (by decide) k) ?_
                      show Go p e below W T0 (mkF m 202 #[.val (.int p1)] [(.int (1 : Int32))])
                      have q : (f1_92 p1) = (1 : Int32) := by rw [f1_92, if_neg c21, if_neg c22]
                      replace q : (f1 p1) = (1 : Int32) := (((((hJ3.trans hJ6).trans hJ11).trans hJ14).trans hJ17).trans hJ20).trans q
                      exact Go.retN X0 hx hret (Or.inl rfl) (hb hby d1_202) hlk (Eq.trans rfl q.symm) (fun t ht fe => hW t _ _ _ _ ⟨rfl, rfl, ht.trans e0⟩ fe (by decide) (by decide))
                by_cases c18 : p1 < (880 : Int32)
                · refine Go.of (fun _ k => XS.icmpYes X0.here hx rfl (pc0 := 82) (pc' := 92) rfl (hb hby d1_82) rfl (Jvm.Free.XT.ii_lt_t c18) (by decide) (by decide) k) ?_
                  exact J20 (by rw [f1_78, if_pos c18])
                · refine Go.of (fun _ k => XS.icmpNo X0.here hx rfl (hb hby d1_82) rfl (Jvm.Free.XT.ii_lt_f c18) k) ?_
                  show Go p e below W T0 (mkF m 85 #[.val (.int p1)] [])
                  refine Go.of (fun _ k => XS.iloadN X0.here hx rfl (hb hby d1_85) rfl k) ?_
                  show Go p e below W T0 (mkF m 86 #[.val (.int p1)] [(.int p1)])
                  refine Go.of (fun _ k => XS.sipush X0.here hx rfl (hb hby d1_86) k) ?_
                  show Go p e below W T0 (mkF m 89 #[.val (.int p1)] [(.int (893 : Int32)), (.int p1)])
                  by_cases c19 : (893 : Int32) < p1
                  · refine Go.of (fun _ k => XS.icmpNo X0.here hx rfl (hb hby d1_89) rfl (Jvm.Free.XT.ii_le_f c19) k) ?_
                    exact J20 (by rw [f1_78, if_neg c18, if_pos c19])
                  · refine Go.of (fun _ k => XS.icmpYes X0.here hx rfl (pc0 := 89) (pc' := 197) rfl (hb hby d1_89) rfl (Jvm.Free.XT.ii_le_t c19) (by decide) (by decide) k) ?_
                    show Go p e below W T0 (mkF m 197 #[.val (.int p1)] [])
                    refine Go.of (fun _ k => XS.iconst X0.here hx rfl (hb hby d1_197) k) ?_
                    show Go p e below W T0 (mkF m 198 #[.val (.int p1)] [(.int (1 : Int32))])
                    refine Go.of (fun _ k => XS.goto X0.here hx rfl (pc0 := 198) (pc' := 202) rfl (hb hby d1_198) (by decide) (by decide) k) ?_
                    show Go p e below W T0 (mkF m 202 #[.val (.int p1)] [(.int (1 : Int32))])
                    have q : (f1_78 p1) = (1 : Int32) := by rw [f1_78, if_neg c18, if_neg c19]
                    replace q : (f1 p1) = (1 : Int32) := ((((hJ3.trans hJ6).trans hJ11).trans hJ14).trans hJ17).trans q
                    exact Go.retN X0 hx hret (Or.inl rfl) (hb hby d1_202) hlk (Eq.trans rfl q.symm) (fun t ht fe => hW t _ _ _ _ ⟨rfl, rfl, ht.trans e0⟩ fe (by decide) (by decide))
              by_cases c15 : p1 < (248 : Int32)
              · refine Go.of (fun _ k => XS.icmpYes X0.here hx rfl (pc0 := 68) (pc' := 78) rfl (hb hby d1_68) rfl (Jvm.Free.XT.ii_lt_t c15) (by decide) (by decide) k) ?_
                exact J17 (by rw [f1_64, if_pos c15])
              · refine Go.of (fun _ k => XS.icmpNo X0.here hx rfl (hb hby d1_68) rfl (Jvm.Free.XT.ii_lt_f c15) k) ?_
                show Go p e below W T0 (mkF m 71 #[.val (.int p1)] [])
                refine Go.of (fun _ k => XS.iloadN X0.here hx rfl (hb hby d1_71) rfl k) ?_
                show Go p e below W T0 (mkF m 72 #[.val (.int p1)] [(.int p1)])
                refine Go.of (fun _ k => XS.sipush X0.here hx rfl (hb hby d1_72) k) ?_
                show Go p e below W T0 (mkF m 75 #[.val (.int p1)] [(.int (767 : Int32)), (.int p1)])
                by_cases c16 : (767 : Int32) < p1
                · refine Go.of (fun _ k => XS.icmpNo X0.here hx rfl (hb hby d1_75) rfl (Jvm.Free.XT.ii_le_f c16) k) ?_
                  exact J17 (by rw [f1_64, if_neg c15, if_pos c16])
                · refine Go.of (fun _ k => XS.icmpYes X0.here hx rfl (pc0 := 75) (pc' := 197) rfl (hb hby d1_75) rfl (Jvm.Free.XT.ii_le_t c16) (by decide) (by decide) k) ?_
                  show Go p e below W T0 (mkF m 197 #[.val (.int p1)] [])
                  refine Go.of (fun _ k => XS.iconst X0.here hx rfl (hb hby d1_197) k) ?_
                  show Go p e below W T0 (mkF m 198 #[.val (.int p1)] [(.int (1 : Int32))])
                  refine Go.of (fun _ k => XS.goto X0.here hx rfl (pc0 := 198) (pc' := 202) rfl (hb hby d1_198) (by decide) (by decide) k) ?_
                  show Go p e below W T0 (mkF m 202 #[.val (.int p1)] [(.int (1 : Int32))])
                  have q : (f1_64 p1) = (1 : Int32) := by rw [f1_64, if_neg c15, if_neg c16]
                  replace q : (f1 p1) = (1 : Int32) := (((hJ3.trans hJ6).trans hJ11).trans hJ14).trans q
                  exact Go.retN X0 hx hret (Or.inl rfl) (hb hby d1_202) hlk (Eq.trans rfl q.symm) (fun t ht fe => hW t _ _ _ _ ⟨rfl, rfl, ht.trans e0⟩ fe (by decide) (by decide))
            by_cases c12 : p1 < (216 : Int32)
            · refine Go.of (fun _ k => XS.icmpYes X0.here hx rfl (pc0 := 54) (pc' := 64) rfl (hb hby d1_54) rfl (Jvm.Free.XT.ii_lt_t c12) (by decide) (by decide) k) ?_
              exact J14 (by rw [f1_50, if_pos c12])
            · refine Go.of (fun _ k => XS.icmpNo X0.here hx rfl (hb hby d1_54) rfl (Jvm.Free.XT.ii_lt_f c12) k) ?_
              show Go p e below W T0 (mkF m 57 #[.val (.int p1)] [])
              refine Go.of (fun _ k => XS.iloadN X0.here hx rfl (hb hby d1_57) rfl k) ?_
              show Go p e below W T0 (mkF m 58 #[.val (.int p1)] [(.int p1)])
              refine Go.of (fun _ k => XS.sipush X0.here hx rfl (hb hby d1_58) k) ?_
              show Go p e below W T0 (mkF m 61 #[.val (.int p1)] [(.int (246 : Int32)), (.int p1)])
              by_cases c13 : (246 : Int32) < p1
              · refine Go.of (fun _ k => XS.icmpNo X0.here hx rfl (hb hby d1_61) rfl (Jvm.Free.XT.ii_le_f c13) k) ?_
                exact J14 (by rw [f1_50, if_neg c12, if_pos c13])
              · refine Go.of (fun _ k => XS.icmpYes X0.here hx rfl (pc0 := 61) (pc' := 197) rfl (hb hby d1_61) rfl (Jvm.Free.XT.ii_le_t c13) (by decide) (by decide) k) ?_
                show Go p e below W T0 (mkF m 197 #[.val (.int p1)] [])
                refine Go.of (fun _ k => XS.iconst X0.here hx rfl (hb hby d1_197) k) ?_
                show Go p e below W T0 (mkF m 198 #[.val (.int p1)] [(.int (1 : Int32))])
                refine Go.of (fun _ k => XS.goto X0.here hx rfl (pc0 := 198) (pc' := 202) rfl (hb hby d1_198) (by decide) (by decide) k) ?_
                show Go p e below W T0 (mkF m 202 #[.val (.int p1)] [(.int (1 : Int32))])
                have q : (f1_50 p1) = (1 : Int32) := by rw [f1_50, if_neg c12, if_neg c13]
                replace q : (f1 p1) = (1 : Int32) := ((hJ3.trans hJ6).trans hJ11).trans q
                exact Go.retN X0 hx hret (Or.inl rfl) (hb hby d1_202) hlk (Eq.trans rfl q.symm) (fun t ht fe => hW t _ _ _ _ ⟨rfl, rfl, ht.trans e0⟩ fe (by decide) (by decide))
          by_cases c9 : p1 < (192 : Int32)
          · refine Go.of (fun _ k => XS.icmpYes X0.here hx rfl (pc0 := 40) (pc' := 50) rfl (hb hby d1_40) rfl (Jvm.Free.XT.ii_lt_t c9) (by decide) (by decide) k) ?_
            exact J11 (by rw [f1_24, if_neg c7, if_neg c8, if_pos c9])
          · refine Go.of (fun _ k => XS.icmpNo X0.here hx rfl (hb hby d1_40) rfl (Jvm.Free.XT.ii_lt_f c9) k) ?_
            show Go p e below W T0 (mkF m 43 #[.val (.int p1)] [])
            refine Go.of (fun _ k => XS.iloadN X0.here hx rfl (hb hby d1_43) rfl k) ?_
            show Go p e below W T0 (mkF m 44 #[.val (.int p1)] [(.int p1)])
            refine Go.of (fun _ k => XS.sipush X0.here hx rfl (hb hby d1_44) k) ?_
            show Go p e below W T0 (mkF m 47 #[.val (.int p1)] [(.int (214 : Int32)), (.int p1)])
            by_cases c10 : (214 : Int32) < p1
            · refine Go.of (fun _ k => XS.icmpNo X0.here hx rfl (hb hby d1_47) rfl (Jvm.Free.XT.ii_le_f c10) k) ?_
              exact J11 (by rw [f1_24, if_neg c7, if_neg c8, if_neg c9, if_pos c10])
            · refine Go.of (fun _ k => XS.icmpYes X0.here hx rfl (pc0 := 47) (pc' := 197) rfl (hb hby d1_47) rfl (Jvm.Free.XT.ii_le_t c10) (by decide) (by decide) k) ?_
              show Go p e below W T0 (mkF m 197 #[.val (.int p1)] [])
              refine Go.of (fun _ k => XS.iconst X0.here hx rfl (hb hby d1_197) k) ?_
              show Go p e below W T0 (mkF m 198 #[.val (.int p1)] [(.int (1 : Int32))])
              refine Go.of (fun _ k => XS.goto X0.here hx rfl (pc0 := 198) (pc' := 202) rfl (hb hby d1_198) (by decide) (by decide) k) ?_
              show Go p e below W T0 (mkF m 202 #[.val (.int p1)] [(.int (1 : Int32))])
              have q : (f1_24 p1) = (1 : Int32) := by rw [f1_24, if_neg c7, if_neg c8, if_neg c9, if_neg c10]
              replace q : (f1 p1) = (1 : Int32) := (hJ3.trans hJ6).trans q
              exact Go.retN X0 hx hret (Or.inl rfl) (hb hby d1_202) hlk (Eq.trans rfl q.symm) (fun t ht fe => hW t _ _ _ _ ⟨rfl, rfl, ht.trans e0⟩ fe (by decide) (by decide))
    by_cases c4 : p1 < (65 : Int32)
    · refine Go.of (fun _ k => XS.icmpYes X0.here hx rfl (pc0 := 15) (pc' := 24) rfl (hb hby d1_15) rfl (Jvm.Free.XT.ii_lt_t c4) (by decide) (by decide) k) ?_
      exact J6 (by rw [f1_12, if_pos c4])
    · refine Go.of (fun _ k => XS.icmpNo X0.here hx rfl (hb hby d1_15) rfl (Jvm.Free.XT.ii_lt_f c4) k) ?_
      show Go p e below W T0 (mkF m 18 #[.val (.int p1)] [])
      refine Go.of (fun _ k => XS.iloadN X0.here hx rfl (hb hby d1_18) rfl k) ?_
      show Go p e below W T0 (mkF m 19 #[.val (.int p1)] [(.int p1)])
      refine Go.of (fun _ k => XS.bipush X0.here hx rfl (hb hby d1_19) k) ?_
      show Go p e below W T0 (mkF m 21 #[.val (.int p1)] [(.int (90 : Int32)), (.int p1)])
      by_cases c5 : (90 : Int32) < p1
      · refine Go.of (fun _ k => XS.icmpNo X0.here hx rfl (hb hby d1_21) rfl (Jvm.Free.XT.ii_le_f c5) k) ?_
        exact J6 (by rw [f1_12, if_neg c4, if_pos c5])
      · refine Go.of (fun _ k => XS.icmpYes X0.here hx rfl (pc0 := 21) (pc' := 197) rfl (hb hby d1_21) rfl (Jvm.Free.XT.ii_le_t c5) (by decide) (by decide) k) ?_
        show Go p e below W T0 (mkF m 197 #[.val (.int p1)] [])
        refine Go.of (fun _ k => XS.iconst X0.here hx rfl (hb hby d1_197) k) ?_
        show Go p e below W T0 (mkF m 198 #[.val (.int p1)] [(.int (1 : Int32))])
        refine Go.of (fun _ k => XS.goto X0.here hx rfl (pc0 := 198) (pc' := 202) rfl (hb hby d1_198) (by decide) (by decide) k) ?_
        show Go p e below W T0 (mkF m 202 #[.val (.int p1)] [(.int (1 : Int32))])
        have q : (f1_12 p1) = (1 : Int32) := by rw [f1_12, if_neg c4, if_neg c5]
        replace q : (f1 p1) = (1 : Int32) := hJ3.trans q
        exact Go.retN X0 hx hret (Or.inl rfl) (hb hby d1_202) hlk (Eq.trans rfl q.symm) (fun t ht fe => hW t _ _ _ _ ⟨rfl, rfl, ht.trans e0⟩ fe (by decide) (by decide))
  by_cases c1 : p1 < (97 : Int32)
  · refine Go.of (fun _ k => XS.icmpYes X0.here hx rfl (pc0 := 3) (pc' := 12) rfl (hb hby d1_3) rfl (Jvm.Free.XT.ii_lt_t c1) (by decide) (by decide) k) ?_
    exact J3 (by rw [f1, if_pos c1])
  · refine Go.of (fun _ k => XS.icmpNo X0.here hx rfl (hb hby d1_3) rfl (Jvm.Free.XT.ii_lt_f c1) k) ?_
    show Go p e below W T0 (mkF m 6 #[.val (.int p1)] [])
    refine Go.of (fun _ k => XS.iloadN X0.here hx rfl (hb hby d1_6) rfl k) ?_
    show Go p e below W T0 (mkF m 7 #[.val (.int p1)] [(.int p1)])
    refine Go.of (fun _ k => XS.bipush X0.here hx rfl (hb hby d1_7) k) ?_
    show Go p e below W T0 (mkF m 9 #[.val (.int p1)] [(.int (122 : Int32)), (.int p1)])
    by_cases c2 : (122 : Int32) < p1
    · refine Go.of (fun _ k => XS.icmpNo X0.here hx rfl (hb hby d1_9) rfl (Jvm.Free.XT.ii_le_f c2) k) ?_
      exact J3 (by rw [f1, if_neg c1, if_pos c2])
    · refine Go.of (fun _ k => XS.icmpYes X0.here hx rfl (pc0 := 9) (pc' := 197) rfl (hb hby d1_9) rfl (Jvm.Free.XT.ii_le_t c2) (by decide) (by decide) k) ?_
      show Go p e below W T0 (mkF m 197 #[.val (.int p1)] [])
      refine Go.of (fun _ k => XS.iconst X0.here hx rfl (hb hby d1_197) k) ?_
      show Go p e below W T0 (mkF m 198 #[.val (.int p1)] [(.int (1 : Int32))])
      refine Go.of (fun _ k => XS.goto X0.here hx rfl (pc0 := 198) (pc' := 202) rfl (hb hby d1_198) (by decide) (by decide) k) ?_
      show Go p e below W T0 (mkF m 202 #[.val (.int p1)] [(.int (1 : Int32))])
      have q : (f1 p1) = (1 : Int32) := by rw [f1, if_neg c1, if_neg c2]
      exact Go.retN X0 hx hret (Or.inl rfl) (hb hby d1_202) hlk (Eq.trans rfl q.symm) (fun t ht fe => hW t _ _ _ _ ⟨rfl, rfl, ht.trans e0⟩ fe (by decide) (by decide))
set_option maxRecDepth 65536 in
set_option maxHeartbeats 40000000 in
theorem rm2 (l : Launch) (Z : State) (a0 : Array Value) (hw : ∀ d ∈ tables_1, d.before a0 Z = true) (ws : List Jvm.Cond) (p1 : Int32) (h0 : Heap) :
    Con l Z (⟨"com/example/redefine/redefine/assessment/NameLiteralIsNameStartCharPinLaw", "reference", "(I)Z"⟩ : MethodName) method_3_code 1 (some .boolean) ws ({ frames := 0, cells := 0, slots := 0, locals := 0 } : Room) #[(.int p1)] h0 (PQ (.int (f2 p1)) h0) := by
  refine own_body pn_2 (fun m => ef_2 m p1) ?_
  intro p e s m below meth c T0 W X0 hx hby hml hret hlk hown hnm hZ e0 hW
  show Go p e below W T0 (mkF m 0 #[.val (.int p1)] [])
  refine Go.of (fun _ k => XS.iloadN X0.here hx rfl (hb hby d2_0) rfl k) ?_
  show Go p e below W T0 (mkF m 1 #[.val (.int p1)] [(.int p1)])
  refine Go.of (fun _ k => XS.bipush X0.here hx rfl (hb hby d2_1) k) ?_
  show Go p e below W T0 (mkF m 3 #[.val (.int p1)] [(.int (58 : Int32)), (.int p1)])
  by_cases c1 : p1 < (58 : Int32)
  · refine Go.of (fun _ k => XS.icmpNo X0.here hx rfl (hb hby d2_3) rfl (Jvm.Free.XT.ii_ge_f c1) k) ?_
    show Go p e below W T0 (mkF m 6 #[.val (.int p1)] [])
    refine Go.of (fun _ k => XS.iconst X0.here hx rfl (hb hby d2_6) k) ?_
    show Go p e below W T0 (mkF m 7 #[.val (.int p1)] [(.int (0 : Int32))])
    have q : (f2 p1) = (0 : Int32) := by rw [f2, if_pos c1]
    exact Go.retN X0 hx hret (Or.inl rfl) (hb hby d2_7) hlk (Eq.trans rfl q.symm) (fun t ht fe => hW t _ _ _ _ ⟨rfl, rfl, ht.trans e0⟩ fe (by decide) (by decide))
  · refine Go.of (fun _ k => XS.icmpYes X0.here hx rfl (pc0 := 3) (pc' := 8) rfl (hb hby d2_3) rfl (Jvm.Free.XT.ii_ge_t c1) (by decide) (by decide) k) ?_
    show Go p e below W T0 (mkF m 8 #[.val (.int p1)] [])
    refine Go.of (fun _ k => XS.iloadN X0.here hx rfl (hb hby d2_8) rfl k) ?_
    show Go p e below W T0 (mkF m 9 #[.val (.int p1)] [(.int p1)])
    refine Go.of (fun _ k => XS.bipush X0.here hx rfl (hb hby d2_9) k) ?_
    show Go p e below W T0 (mkF m 11 #[.val (.int p1)] [(.int (58 : Int32)), (.int p1)])
    by_cases c2 : p1 = (58 : Int32)
    · refine Go.of (fun _ k => XS.icmpNo X0.here hx rfl (hb hby d2_11) rfl (Jvm.Free.XT.ii_ne_f c2) k) ?_
      show Go p e below W T0 (mkF m 14 #[.val (.int p1)] [])
      refine Go.of (fun _ k => XS.iconst X0.here hx rfl (hb hby d2_14) k) ?_
      show Go p e below W T0 (mkF m 15 #[.val (.int p1)] [(.int (1 : Int32))])
      have q : (f2 p1) = (1 : Int32) := by rw [f2, if_neg c1, if_pos c2]
      exact Go.retN X0 hx hret (Or.inl rfl) (hb hby d2_15) hlk (Eq.trans rfl q.symm) (fun t ht fe => hW t _ _ _ _ ⟨rfl, rfl, ht.trans e0⟩ fe (by decide) (by decide))
    · refine Go.of (fun _ k => XS.icmpYes X0.here hx rfl (pc0 := 11) (pc' := 16) rfl (hb hby d2_11) rfl (Jvm.Free.XT.ii_ne_t c2) (by decide) (by decide) k) ?_
      show Go p e below W T0 (mkF m 16 #[.val (.int p1)] [])
      refine Go.of (fun _ k => XS.iloadN X0.here hx rfl (hb hby d2_16) rfl k) ?_
      show Go p e below W T0 (mkF m 17 #[.val (.int p1)] [(.int p1)])
      refine Go.of (fun _ k => XS.bipush X0.here hx rfl (hb hby d2_17) k) ?_
      show Go p e below W T0 (mkF m 19 #[.val (.int p1)] [(.int (65 : Int32)), (.int p1)])
      by_cases c3 : p1 < (65 : Int32)
      · refine Go.of (fun _ k => XS.icmpNo X0.here hx rfl (hb hby d2_19) rfl (Jvm.Free.XT.ii_ge_f c3) k) ?_
        show Go p e below W T0 (mkF m 22 #[.val (.int p1)] [])
        refine Go.of (fun _ k => XS.iconst X0.here hx rfl (hb hby d2_22) k) ?_
        show Go p e below W T0 (mkF m 23 #[.val (.int p1)] [(.int (0 : Int32))])
        have q : (f2 p1) = (0 : Int32) := by rw [f2, if_neg c1, if_neg c2, if_pos c3]
        exact Go.retN X0 hx hret (Or.inl rfl) (hb hby d2_23) hlk (Eq.trans rfl q.symm) (fun t ht fe => hW t _ _ _ _ ⟨rfl, rfl, ht.trans e0⟩ fe (by decide) (by decide))
      · refine Go.of (fun _ k => XS.icmpYes X0.here hx rfl (pc0 := 19) (pc' := 24) rfl (hb hby d2_19) rfl (Jvm.Free.XT.ii_ge_t c3) (by decide) (by decide) k) ?_
        show Go p e below W T0 (mkF m 24 #[.val (.int p1)] [])
        refine Go.of (fun _ k => XS.iloadN X0.here hx rfl (hb hby d2_24) rfl k) ?_
        show Go p e below W T0 (mkF m 25 #[.val (.int p1)] [(.int p1)])
        refine Go.of (fun _ k => XS.bipush X0.here hx rfl (hb hby d2_25) k) ?_
        show Go p e below W T0 (mkF m 27 #[.val (.int p1)] [(.int (90 : Int32)), (.int p1)])
        by_cases c4 : (90 : Int32) < p1
        · refine Go.of (fun _ k => XS.icmpYes X0.here hx rfl (pc0 := 27) (pc' := 32) rfl (hb hby d2_27) rfl (Jvm.Free.XT.ii_gt_t c4) (by decide) (by decide) k) ?_
          show Go p e below W T0 (mkF m 32 #[.val (.int p1)] [])
          refine Go.of (fun _ k => XS.iloadN X0.here hx rfl (hb hby d2_32) rfl k) ?_
          show Go p e below W T0 (mkF m 33 #[.val (.int p1)] [(.int p1)])
          refine Go.of (fun _ k => XS.bipush X0.here hx rfl (hb hby d2_33) k) ?_
          show Go p e below W T0 (mkF m 35 #[.val (.int p1)] [(.int (95 : Int32)), (.int p1)])
          by_cases c5 : p1 < (95 : Int32)
          · refine Go.of (fun _ k => XS.icmpNo X0.here hx rfl (hb hby d2_35) rfl (Jvm.Free.XT.ii_ge_f c5) k) ?_
            show Go p e below W T0 (mkF m 38 #[.val (.int p1)] [])
            refine Go.of (fun _ k => XS.iconst X0.here hx rfl (hb hby d2_38) k) ?_
            show Go p e below W T0 (mkF m 39 #[.val (.int p1)] [(.int (0 : Int32))])
            have q : (f2 p1) = (0 : Int32) := by rw [f2, if_neg c1, if_neg c2, if_neg c3, if_pos c4, if_pos c5]
            exact Go.retN X0 hx hret (Or.inl rfl) (hb hby d2_39) hlk (Eq.trans rfl q.symm) (fun t ht fe => hW t _ _ _ _ ⟨rfl, rfl, ht.trans e0⟩ fe (by decide) (by decide))
          · refine Go.of (fun _ k => XS.icmpYes X0.here hx rfl (pc0 := 35) (pc' := 40) rfl (hb hby d2_35) rfl (Jvm.Free.XT.ii_ge_t c5) (by decide) (by decide) k) ?_
            show Go p e below W T0 (mkF m 40 #[.val (.int p1)] [])
            refine Go.of (fun _ k => XS.iloadN X0.here hx rfl (hb hby d2_40) rfl k) ?_
            show Go p e below W T0 (mkF m 41 #[.val (.int p1)] [(.int p1)])
            refine Go.of (fun _ k => XS.bipush X0.here hx rfl (hb hby d2_41) k) ?_
            show Go p e below W T0 (mkF m 43 #[.val (.int p1)] [(.int (95 : Int32)), (.int p1)])
            by_cases c6 : p1 = (95 : Int32)
            · refine Go.of (fun _ k => XS.icmpNo X0.here hx rfl (hb hby d2_43) rfl (Jvm.Free.XT.ii_ne_f c6) k) ?_
              show Go p e below W T0 (mkF m 46 #[.val (.int p1)] [])
              refine Go.of (fun _ k => XS.iconst X0.here hx rfl (hb hby d2_46) k) ?_
              show Go p e below W T0 (mkF m 47 #[.val (.int p1)] [(.int (1 : Int32))])
              have q : (f2 p1) = (1 : Int32) := by rw [f2, if_neg c1, if_neg c2, if_neg c3, if_pos c4, if_neg c5, if_pos c6]
              exact Go.retN X0 hx hret (Or.inl rfl) (hb hby d2_47) hlk (Eq.trans rfl q.symm) (fun t ht fe => hW t _ _ _ _ ⟨rfl, rfl, ht.trans e0⟩ fe (by decide) (by decide))
            · refine Go.of (fun _ k => XS.icmpYes X0.here hx rfl (pc0 := 43) (pc' := 48) rfl (hb hby d2_43) rfl (Jvm.Free.XT.ii_ne_t c6) (by decide) (by decide) k) ?_
              show Go p e below W T0 (mkF m 48 #[.val (.int p1)] [])
              refine Go.of (fun _ k => XS.iloadN X0.here hx rfl (hb hby d2_48) rfl k) ?_
              show Go p e below W T0 (mkF m 49 #[.val (.int p1)] [(.int p1)])
              refine Go.of (fun _ k => XS.bipush X0.here hx rfl (hb hby d2_49) k) ?_
              show Go p e below W T0 (mkF m 51 #[.val (.int p1)] [(.int (97 : Int32)), (.int p1)])
              by_cases c7 : p1 < (97 : Int32)
              · refine Go.of (fun _ k => XS.icmpNo X0.here hx rfl (hb hby d2_51) rfl (Jvm.Free.XT.ii_ge_f c7) k) ?_
                show Go p e below W T0 (mkF m 54 #[.val (.int p1)] [])
                refine Go.of (fun _ k => XS.iconst X0.here hx rfl (hb hby d2_54) k) ?_
                show Go p e below W T0 (mkF m 55 #[.val (.int p1)] [(.int (0 : Int32))])
                have q : (f2 p1) = (0 : Int32) := by rw [f2, if_neg c1, if_neg c2, if_neg c3, if_pos c4, if_neg c5, if_neg c6, if_pos c7]
                exact Go.retN X0 hx hret (Or.inl rfl) (hb hby d2_55) hlk (Eq.trans rfl q.symm) (fun t ht fe => hW t _ _ _ _ ⟨rfl, rfl, ht.trans e0⟩ fe (by decide) (by decide))
              · refine Go.of (fun _ k => XS.icmpYes X0.here hx rfl (pc0 := 51) (pc' := 56) rfl (hb hby d2_51) rfl (Jvm.Free.XT.ii_ge_t c7) (by decide) (by decide) k) ?_
                show Go p e below W T0 (mkF m 56 #[.val (.int p1)] [])
                refine Go.of (fun _ k => XS.iloadN X0.here hx rfl (hb hby d2_56) rfl k) ?_
                show Go p e below W T0 (mkF m 57 #[.val (.int p1)] [(.int p1)])
                refine Go.of (fun _ k => XS.bipush X0.here hx rfl (hb hby d2_57) k) ?_
                show Go p e below W T0 (mkF m 59 #[.val (.int p1)] [(.int (122 : Int32)), (.int p1)])
                by_cases c8 : (122 : Int32) < p1
                · refine Go.of (fun _ k => XS.icmpYes X0.here hx rfl (pc0 := 59) (pc' := 64) rfl (hb hby d2_59) rfl (Jvm.Free.XT.ii_gt_t c8) (by decide) (by decide) k) ?_
                  show Go p e below W T0 (mkF m 64 #[.val (.int p1)] [])
                  refine Go.of (fun _ k => XS.iloadN X0.here hx rfl (hb hby d2_64) rfl k) ?_
                  show Go p e below W T0 (mkF m 65 #[.val (.int p1)] [(.int p1)])
                  refine Go.of (fun _ k => XS.sipush X0.here hx rfl (hb hby d2_65) k) ?_
                  show Go p e below W T0 (mkF m 68 #[.val (.int p1)] [(.int (192 : Int32)), (.int p1)])
                  by_cases c9 : p1 < (192 : Int32)
                  · refine Go.of (fun _ k => XS.icmpNo X0.here hx rfl (hb hby d2_68) rfl (Jvm.Free.XT.ii_ge_f c9) k) ?_
                    show Go p e below W T0 (mkF m 71 #[.val (.int p1)] [])
                    refine Go.of (fun _ k => XS.iconst X0.here hx rfl (hb hby d2_71) k) ?_
                    show Go p e below W T0 (mkF m 72 #[.val (.int p1)] [(.int (0 : Int32))])
                    have q : (f2 p1) = (0 : Int32) := by rw [f2, if_neg c1, if_neg c2, if_neg c3, if_pos c4, if_neg c5, if_neg c6, if_neg c7, if_pos c8, if_pos c9]
                    exact Go.retN X0 hx hret (Or.inl rfl) (hb hby d2_72) hlk (Eq.trans rfl q.symm) (fun t ht fe => hW t _ _ _ _ ⟨rfl, rfl, ht.trans e0⟩ fe (by decide) (by decide))
                  · refine Go.of (fun _ k => XS.icmpYes X0.here hx rfl (pc0 := 68) (pc' := 73) rfl (hb hby d2_68) rfl (Jvm.Free.XT.ii_ge_t c9) (by decide) (by decide) k) ?_
                    show Go p e below W T0 (mkF m 73 #[.val (.int p1)] [])
                    refine Go.of (fun _ k => XS.iloadN X0.here hx rfl (hb hby d2_73) rfl k) ?_
                    show Go p e below W T0 (mkF m 74 #[.val (.int p1)] [(.int p1)])
                    refine Go.of (fun _ k => XS.sipush X0.here hx rfl (hb hby d2_74) k) ?_
                    show Go p e below W T0 (mkF m 77 #[.val (.int p1)] [(.int (215 : Int32)), (.int p1)])
                    by_cases c10 : p1 = (215 : Int32)
                    · refine Go.of (fun _ k => XS.icmpYes X0.here hx rfl (pc0 := 77) (pc' := 87) rfl (hb hby d2_77) rfl (Jvm.Free.XT.ii_eq_t c10) (by decide) (by decide) k) ?_
                      show Go p e below W T0 (mkF m 87 #[.val (.int p1)] [])
                      refine Go.of (fun _ k => XS.iconst X0.here hx rfl (hb hby d2_87) k) ?_
                      show Go p e below W T0 (mkF m 88 #[.val (.int p1)] [(.int (0 : Int32))])
                      have q : (f2 p1) = (0 : Int32) := by rw [f2, if_neg c1, if_neg c2, if_neg c3, if_pos c4, if_neg c5, if_neg c6, if_neg c7, if_pos c8, if_neg c9, if_pos c10]
                      exact Go.retN X0 hx hret (Or.inl rfl) (hb hby d2_88) hlk (Eq.trans rfl q.symm) (fun t ht fe => hW t _ _ _ _ ⟨rfl, rfl, ht.trans e0⟩ fe (by decide) (by decide))
                    · refine Go.of (fun _ k => XS.icmpNo X0.here hx rfl (hb hby d2_77) rfl (Jvm.Free.XT.ii_eq_f c10) k) ?_
                      show Go p e below W T0 (mkF m 80 #[.val (.int p1)] [])
                      refine Go.of (fun _ k => XS.iloadN X0.here hx rfl (hb hby d2_80) rfl k) ?_
                      show Go p e below W T0 (mkF m 81 #[.val (.int p1)] [(.int p1)])
                      refine Go.of (fun _ k => XS.sipush X0.here hx rfl (hb hby d2_81) k) ?_
                      show Go p e below W T0 (mkF m 84 #[.val (.int p1)] [(.int (247 : Int32)), (.int p1)])
                      by_cases c11 : p1 = (247 : Int32)
                      · refine Go.of (fun _ k => XS.icmpNo X0.here hx rfl (hb hby d2_84) rfl (Jvm.Free.XT.ii_ne_f c11) k) ?_
                        show Go p e below W T0 (mkF m 87 #[.val (.int p1)] [])
                        refine Go.of (fun _ k => XS.iconst X0.here hx rfl (hb hby d2_87) k) ?_
                        show Go p e below W T0 (mkF m 88 #[.val (.int p1)] [(.int (0 : Int32))])
                        have q : (f2 p1) = (0 : Int32) := by rw [f2, if_neg c1, if_neg c2, if_neg c3, if_pos c4, if_neg c5, if_neg c6, if_neg c7, if_pos c8, if_neg c9, if_neg c10, if_pos c11]
                        exact Go.retN X0 hx hret (Or.inl rfl) (hb hby d2_88) hlk (Eq.trans rfl q.symm) (fun t ht fe => hW t _ _ _ _ ⟨rfl, rfl, ht.trans e0⟩ fe (by decide) (by decide))
                      · refine Go.of (fun _ k => XS.icmpYes X0.here hx rfl (pc0 := 84) (pc' := 89) rfl (hb hby d2_84) rfl (Jvm.Free.XT.ii_ne_t c11) (by decide) (by decide) k) ?_
                        show Go p e below W T0 (mkF m 89 #[.val (.int p1)] [])
                        refine Go.of (fun _ k => XS.iloadN X0.here hx rfl (hb hby d2_89) rfl k) ?_
                        show Go p e below W T0 (mkF m 90 #[.val (.int p1)] [(.int p1)])
                        refine Go.of (fun _ k => XS.sipush X0.here hx rfl (hb hby d2_90) k) ?_
                        show Go p e below W T0 (mkF m 93 #[.val (.int p1)] [(.int (767 : Int32)), (.int p1)])
                        by_cases c12 : (767 : Int32) < p1
                        · refine Go.of (fun _ k => XS.icmpYes X0.here hx rfl (pc0 := 93) (pc' := 98) rfl (hb hby d2_93) rfl (Jvm.Free.XT.ii_gt_t c12) (by decide) (by decide) k) ?_
                          show Go p e below W T0 (mkF m 98 #[.val (.int p1)] [])
                          refine Go.of (fun _ k => XS.iloadN X0.here hx rfl (hb hby d2_98) rfl k) ?_
                          show Go p e below W T0 (mkF m 99 #[.val (.int p1)] [(.int p1)])
                          refine Go.of (fun _ k => XS.sipush X0.here hx rfl (hb hby d2_99) k) ?_
                          show Go p e below W T0 (mkF m 102 #[.val (.int p1)] [(.int (880 : Int32)), (.int p1)])
                          by_cases c13 : p1 < (880 : Int32)
                          · refine Go.of (fun _ k => XS.icmpNo X0.here hx rfl (hb hby d2_102) rfl (Jvm.Free.XT.ii_ge_f c13) k) ?_
                            show Go p e below W T0 (mkF m 105 #[.val (.int p1)] [])
                            refine Go.of (fun _ k => XS.iconst X0.here hx rfl (hb hby d2_105) k) ?_
                            show Go p e below W T0 (mkF m 106 #[.val (.int p1)] [(.int (0 : Int32))])
                            have q : (f2 p1) = (0 : Int32) := by rw [f2, if_neg c1, if_neg c2, if_neg c3, if_pos c4, if_neg c5, if_neg c6, if_neg c7, if_pos c8, if_neg c9, if_neg c10, if_neg c11, if_pos c12, if_pos c13]
                            exact Go.retN X0 hx hret (Or.inl rfl) (hb hby d2_106) hlk (Eq.trans rfl q.symm) (fun t ht fe => hW t _ _ _ _ ⟨rfl, rfl, ht.trans e0⟩ fe (by decide) (by decide))
                          · refine Go.of (fun _ k => XS.icmpYes X0.here hx rfl (pc0 := 102) (pc' := 107) rfl (hb hby d2_102) rfl (Jvm.Free.XT.ii_ge_t c13) (by decide) (by decide) k) ?_
                            show Go p e below W T0 (mkF m 107 #[.val (.int p1)] [])
                            refine Go.of (fun _ k => XS.iloadN X0.here hx rfl (hb hby d2_107) rfl k) ?_
                            show Go p e below W T0 (mkF m 108 #[.val (.int p1)] [(.int p1)])
                            refine Go.of (fun _ k => XS.sipush X0.here hx rfl (hb hby d2_108) k) ?_
                            show Go p e below W T0 (mkF m 111 #[.val (.int p1)] [(.int (894 : Int32)), (.int p1)])
                            by_cases c14 : p1 = (894 : Int32)
                            · refine Go.of (fun _ k => XS.icmpNo X0.here hx rfl (hb hby d2_111) rfl (Jvm.Free.XT.ii_ne_f c14) k) ?_
                              show Go p e below W T0 (mkF m 114 #[.val (.int p1)] [])
                              refine Go.of (fun _ k => XS.iconst X0.here hx rfl (hb hby d2_114) k) ?_
                              show Go p e below W T0 (mkF m 115 #[.val (.int p1)] [(.int (0 : Int32))])
                              have q : (f2 p1) = (0 : Int32) := by rw [f2, if_neg c1, if_neg c2, if_neg c3, if_pos c4, if_neg c5, if_neg c6, if_neg c7, if_pos c8, if_neg c9, if_neg c10, if_neg c11, if_pos c12, if_neg c13, if_pos c14]
                              exact Go.retN X0 hx hret (Or.inl rfl) (hb hby d2_115) hlk (Eq.trans rfl q.symm) (fun t ht fe => hW t _ _ _ _ ⟨rfl, rfl, ht.trans e0⟩ fe (by decide) (by decide))
                            · refine Go.of (fun _ k => XS.icmpYes X0.here hx rfl (pc0 := 111) (pc' := 116) rfl (hb hby d2_111) rfl (Jvm.Free.XT.ii_ne_t c14) (by decide) (by decide) k) ?_
                              show Go p e below W T0 (mkF m 116 #[.val (.int p1)] [])
                              refine Go.of (fun _ k => XS.iloadN X0.here hx rfl (hb hby d2_116) rfl k) ?_
                              show Go p e below W T0 (mkF m 117 #[.val (.int p1)] [(.int p1)])
                              refine Go.of (fun _ k => XS.sipush X0.here hx rfl (hb hby d2_117) k) ?_
                              show Go p e below W T0 (mkF m 120 #[.val (.int p1)] [(.int (8191 : Int32)), (.int p1)])
                              by_cases c15 : (8191 : Int32) < p1
                              · refine Go.of (fun _ k => XS.icmpYes X0.here hx rfl (pc0 := 120) (pc' := 125) rfl (hb hby d2_120) rfl (Jvm.Free.XT.ii_gt_t c15) (by decide) (by decide) k) ?_
                                show Go p e below W T0 (mkF m 125 #[.val (.int p1)] [])
                                refine Go.of (fun _ k => XS.iloadN X0.here hx rfl (hb hby d2_125) rfl k) ?_
                                show Go p e below W T0 (mkF m 126 #[.val (.int p1)] [(.int p1)])
                                refine Go.of (fun _ k => XS.sipush X0.here hx rfl (hb hby d2_126) k) ?_
                                show Go p e below W T0 (mkF m 129 #[.val (.int p1)] [(.int (8204 : Int32)), (.int p1)])
                                by_cases c16 : p1 < (8204 : Int32)
                                · refine Go.of (fun _ k => XS.icmpNo X0.here hx rfl (hb hby d2_129) rfl (Jvm.Free.XT.ii_ge_f c16) k) ?_
                                  show Go p e below W T0 (mkF m 132 #[.val (.int p1)] [])
                                  refine Go.of (fun _ k => XS.iconst X0.here hx rfl (hb hby d2_132) k) ?_
                                  show Go p e below W T0 (mkF m 133 #[.val (.int p1)] [(.int (0 : Int32))])
                                  have q : (f2 p1) = (0 : Int32) := by rw [f2, if_neg c1, if_neg c2, if_neg c3, if_pos c4, if_neg c5, if_neg c6, if_neg c7, if_pos c8, if_neg c9, if_neg c10, if_neg c11, if_pos c12, if_neg c13, if_neg c14, if_pos c15, if_pos c16]
                                  exact Go.retN X0 hx hret (Or.inl rfl) (hb hby d2_133) hlk (Eq.trans rfl q.symm) (fun t ht fe => hW t _ _ _ _ ⟨rfl, rfl, ht.trans e0⟩ fe (by decide) (by decide))
                                · refine Go.of (fun _ k => XS.icmpYes X0.here hx rfl (pc0 := 129) (pc' := 134) rfl (hb hby d2_129) rfl (Jvm.Free.XT.ii_ge_t c16) (by decide) (by decide) k) ?_
                                  show Go p e below W T0 (mkF m 134 #[.val (.int p1)] [])
                                  refine Go.of (fun _ k => XS.iloadN X0.here hx rfl (hb hby d2_134) rfl k) ?_
                                  show Go p e below W T0 (mkF m 135 #[.val (.int p1)] [(.int p1)])
                                  refine Go.of (fun _ k => XS.sipush X0.here hx rfl (hb hby d2_135) k) ?_
                                  show Go p e below W T0 (mkF m 138 #[.val (.int p1)] [(.int (8205 : Int32)), (.int p1)])
                                  by_cases c17 : (8205 : Int32) < p1
                                  · refine Go.of (fun _ k => XS.icmpYes X0.here hx rfl (pc0 := 138) (pc' := 143) rfl (hb hby d2_138) rfl (Jvm.Free.XT.ii_gt_t c17) (by decide) (by decide) k) ?_
                                    show Go p e below W T0 (mkF m 143 #[.val (.int p1)] [])
                                    refine Go.of (fun _ k => XS.iloadN X0.here hx rfl (hb hby d2_143) rfl k) ?_
                                    show Go p e below W T0 (mkF m 144 #[.val (.int p1)] [(.int p1)])
                                    refine Go.of (fun _ k => XS.sipush X0.here hx rfl (hb hby d2_144) k) ?_
                                    show Go p e below W T0 (mkF m 147 #[.val (.int p1)] [(.int (8304 : Int32)), (.int p1)])
                                    by_cases c18 : p1 < (8304 : Int32)
                                    · refine Go.of (fun _ k => XS.icmpNo X0.here hx rfl (hb hby d2_147) rfl (Jvm.Free.XT.ii_ge_f c18) k) ?_
                                      show Go p e below W T0 (mkF m 150 #[.val (.int p1)] [])
                                      refine Go.of (fun _ k => XS.iconst X0.here hx rfl (hb hby d2_150) k) ?_
                                      show Go p e below W T0 (mkF m 151 #[.val (.int p1)] [(.int (0 : Int32))])
                                      have q : (f2 p1) = (0 : Int32) := by rw [f2, if_neg c1, if_neg c2, if_neg c3, if_pos c4, if_neg c5, if_neg c6, if_neg c7, if_pos c8, if_neg c9, if_neg c10, if_neg c11, if_pos c12, if_neg c13, if_neg c14, if_pos c15, if_neg c16, if_pos c17, if_pos c18]
                                      exact Go.retN X0 hx hret (Or.inl rfl) (hb hby d2_151) hlk (Eq.trans rfl q.symm) (fun t ht fe => hW t _ _ _ _ ⟨rfl, rfl, ht.trans e0⟩ fe (by decide) (by decide))
                                    · refine Go.of (fun _ k => XS.icmpYes X0.here hx rfl (pc0 := 147) (pc' := 152) rfl (hb hby d2_147) rfl (Jvm.Free.XT.ii_ge_t c18) (by decide) (by decide) k) ?_
                                      show Go p e below W T0 (mkF m 152 #[.val (.int p1)] [])
                                      refine Go.of (fun _ k => XS.iloadN X0.here hx rfl (hb hby d2_152) rfl k) ?_
                                      show Go p e below W T0 (mkF m 153 #[.val (.int p1)] [(.int p1)])
                                      refine Go.of (fun _ k => XS.sipush X0.here hx rfl (hb hby d2_153) k) ?_
                                      show Go p e below W T0 (mkF m 156 #[.val (.int p1)] [(.int (8591 : Int32)), (.int p1)])
                                      by_cases c19 : (8591 : Int32) < p1
                                      · refine Go.of (fun _ k => XS.icmpYes X0.here hx rfl (pc0 := 156) (pc' := 161) rfl (hb hby d2_156) rfl (Jvm.Free.XT.ii_gt_t c19) (by decide) (by decide) k) ?_
                                        show Go p e below W T0 (mkF m 161 #[.val (.int p1)] [])
                                        refine Go.of (fun _ k => XS.iloadN X0.here hx rfl (hb hby d2_161) rfl k) ?_
                                        show Go p e below W T0 (mkF m 162 #[.val (.int p1)] [(.int p1)])
                                        refine Go.of (fun _ k => XS.sipush X0.here hx rfl (hb hby d2_162) k) ?_
                                        show Go p e below W T0 (mkF m 165 #[.val (.int p1)] [(.int (11264 : Int32)), (.int p1)])
                                        by_cases c20 : p1 < (11264 : Int32)
                                        · refine Go.of (fun _ k => XS.icmpNo X0.here hx rfl (hb hby d2_165) rfl (Jvm.Free.XT.ii_ge_f c20) k) ?_
                                          show Go p e below W T0 (mkF m 168 #[.val (.int p1)] [])
                                          refine Go.of (fun _ k => XS.iconst X0.here hx rfl (hb hby d2_168) k) ?_
                                          show Go p e below W T0 (mkF m 169 #[.val (.int p1)] [(.int (0 : Int32))])
                                          have q : (f2 p1) = (0 : Int32) := by rw [f2, if_neg c1, if_neg c2, if_neg c3, if_pos c4, if_neg c5, if_neg c6, if_neg c7, if_pos c8, if_neg c9, if_neg c10, if_neg c11, if_pos c12, if_neg c13, if_neg c14, if_pos c15, if_neg c16, if_pos c17, if_neg c18, if_pos c19, if_pos c20]
                                          exact Go.retN X0 hx hret (Or.inl rfl) (hb hby d2_169) hlk (Eq.trans rfl q.symm) (fun t ht fe => hW t _ _ _ _ ⟨rfl, rfl, ht.trans e0⟩ fe (by decide) (by decide))
                                        · refine Go.of (fun _ k => XS.icmpYes X0.here hx rfl (pc0 := 165) (pc' := 170) rfl (hb hby d2_165) rfl (Jvm.Free.XT.ii_ge_t c20) (by decide) (by decide) k) ?_
                                          show Go p e below W T0 (mkF m 170 #[.val (.int p1)] [])
                                          refine Go.of (fun _ k => XS.iloadN X0.here hx rfl (hb hby d2_170) rfl k) ?_
                                          show Go p e below W T0 (mkF m 171 #[.val (.int p1)] [(.int p1)])
                                          refine Go.of (fun _ k => XS.sipush X0.here hx rfl (hb hby d2_171) k) ?_
                                          show Go p e below W T0 (mkF m 174 #[.val (.int p1)] [(.int (12271 : Int32)), (.int p1)])
                                          by_cases c21 : (12271 : Int32) < p1
                                          · refine Go.of (fun _ k => XS.icmpYes X0.here hx rfl (pc0 := 174) (pc' := 179) rfl (hb hby d2_174) rfl (Jvm.Free.XT.ii_gt_t c21) (by decide) (by decide) k) ?_
                                            show Go p e below W T0 (mkF m 179 #[.val (.int p1)] [])
                                            refine Go.of (fun _ k => XS.iloadN X0.here hx rfl (hb hby d2_179) rfl k) ?_
                                            show Go p e below W T0 (mkF m 180 #[.val (.int p1)] [(.int p1)])
                                            refine Go.of (fun _ k => XS.sipush X0.here hx rfl (hb hby d2_180) k) ?_
                                            show Go p e below W T0 (mkF m 183 #[.val (.int p1)] [(.int (12289 : Int32)), (.int p1)])
                                            by_cases c22 : p1 < (12289 : Int32)
                                            · refine Go.of (fun _ k => XS.icmpNo X0.here hx rfl (hb hby d2_183) rfl (Jvm.Free.XT.ii_ge_f c22) k) ?_
                                              show Go p e below W T0 (mkF m 186 #[.val (.int p1)] [])
                                              refine Go.of (fun _ k => XS.iconst X0.here hx rfl (hb hby d2_186) k) ?_
                                              show Go p e below W T0 (mkF m 187 #[.val (.int p1)] [(.int (0 : Int32))])
                                              have q : (f2 p1) = (0 : Int32) := by rw [f2, if_neg c1, if_neg c2, if_neg c3, if_pos c4, if_neg c5, if_neg c6, if_neg c7, if_pos c8, if_neg c9, if_neg c10, if_neg c11, if_pos c12, if_neg c13, if_neg c14, if_pos c15, if_neg c16, if_pos c17, if_neg c18, if_pos c19, if_neg c20, if_pos c21, if_pos c22]
                                              exact Go.retN X0 hx hret (Or.inl rfl) (hb hby d2_187) hlk (Eq.trans rfl q.symm) (fun t ht fe => hW t _ _ _ _ ⟨rfl, rfl, ht.trans e0⟩ fe (by decide) (by decide))
                                            · refine Go.of (fun _ k => XS.icmpYes X0.here hx rfl (pc0 := 183) (pc' := 188) rfl (hb hby d2_183) rfl (Jvm.Free.XT.ii_ge_t c22) (by decide) (by decide) k) ?_
                                              show Go p e below W T0 (mkF m 188 #[.val (.int p1)] [])
                                              refine Go.of (fun _ k => XS.iloadN X0.here hx rfl (hb hby d2_188) rfl k) ?_
                                              show Go p e below W T0 (mkF m 189 #[.val (.int p1)] [(.int p1)])
                                              refine Go.of (fun _ k => X0.ldcI hx hown (mvT hZ (hw _ (List.mem_of_getElem? (i := 1) rfl))) rfl (hb hby d2_189) k) ?_
                                              show Go p e below W T0 (mkF m 191 #[.val (.int p1)] [(.int (55295 : Int32)), (.int p1)])
                                              by_cases c23 : (55295 : Int32) < p1
                                              · refine Go.of (fun _ k => XS.icmpYes X0.here hx rfl (pc0 := 191) (pc' := 196) rfl (hb hby d2_191) rfl (Jvm.Free.XT.ii_gt_t c23) (by decide) (by decide) k) ?_
                                                show Go p e below W T0 (mkF m 196 #[.val (.int p1)] [])
                                                refine Go.of (fun _ k => XS.iloadN X0.here hx rfl (hb hby d2_196) rfl k) ?_
                                                show Go p e below W T0 (mkF m 197 #[.val (.int p1)] [(.int p1)])
                                                refine Go.of (fun _ k => X0.ldcI hx hown (mvT hZ (hw _ (List.mem_of_getElem? (i := 2) rfl))) rfl (hb hby d2_197) k) ?_
                                                show Go p e below W T0 (mkF m 199 #[.val (.int p1)] [(.int (63744 : Int32)), (.int p1)])
                                                by_cases c24 : p1 < (63744 : Int32)
                                                · refine Go.of (fun _ k => XS.icmpNo X0.here hx rfl (hb hby d2_199) rfl (Jvm.Free.XT.ii_ge_f c24) k) ?_
                                                  show Go p e below W T0 (mkF m 202 #[.val (.int p1)] [])
                                                  refine Go.of (fun _ k => XS.iconst X0.here hx rfl (hb hby d2_202) k) ?_
                                                  show Go p e below W T0 (mkF m 203 #[.val (.int p1)] [(.int (0 : Int32))])
                                                  have q : (f2 p1) = (0 : Int32) := by rw [f2, if_neg c1, if_neg c2, if_neg c3, if_pos c4, if_neg c5, if_neg c6, if_neg c7, if_pos c8, if_neg c9, if_neg c10, if_neg c11, if_pos c12, if_neg c13, if_neg c14, if_pos c15, if_neg c16, if_pos c17, if_neg c18, if_pos c19, if_neg c20, if_pos c21, if_neg c22, if_pos c23, if_pos c24]
                                                  exact Go.retN X0 hx hret (Or.inl rfl) (hb hby d2_203) hlk (Eq.trans rfl q.symm) (fun t ht fe => hW t _ _ _ _ ⟨rfl, rfl, ht.trans e0⟩ fe (by decide) (by decide))
                                                · refine Go.of (fun _ k => XS.icmpYes X0.here hx rfl (pc0 := 199) (pc' := 204) rfl (hb hby d2_199) rfl (Jvm.Free.XT.ii_ge_t c24) (by decide) (by decide) k) ?_
                                                  show Go p e below W T0 (mkF m 204 #[.val (.int p1)] [])
                                                  refine Go.of (fun _ k => XS.iloadN X0.here hx rfl (hb hby d2_204) rfl k) ?_
                                                  show Go p e below W T0 (mkF m 205 #[.val (.int p1)] [(.int p1)])
                                                  refine Go.of (fun _ k => X0.ldcI hx hown (mvT hZ (hw _ (List.mem_of_getElem? (i := 3) rfl))) rfl (hb hby d2_205) k) ?_
                                                  show Go p e below W T0 (mkF m 207 #[.val (.int p1)] [(.int (64975 : Int32)), (.int p1)])
                                                  by_cases c25 : (64975 : Int32) < p1
                                                  · refine Go.of (fun _ k => XS.icmpYes X0.here hx rfl (pc0 := 207) (pc' := 212) rfl (hb hby d2_207) rfl (Jvm.Free.XT.ii_gt_t c25) (by decide) (by decide) k) ?_
                                                    show Go p e below W T0 (mkF m 212 #[.val (.int p1)] [])
                                                    refine Go.of (fun _ k => XS.iloadN X0.here hx rfl (hb hby d2_212) rfl k) ?_
                                                    show Go p e below W T0 (mkF m 213 #[.val (.int p1)] [(.int p1)])
                                                    refine Go.of (fun _ k => X0.ldcI hx hown (mvT hZ (hw _ (List.mem_of_getElem? (i := 4) rfl))) rfl (hb hby d2_213) k) ?_
                                                    show Go p e below W T0 (mkF m 215 #[.val (.int p1)] [(.int (65008 : Int32)), (.int p1)])
                                                    by_cases c26 : p1 < (65008 : Int32)
                                                    · refine Go.of (fun _ k => XS.icmpNo X0.here hx rfl (hb hby d2_215) rfl (Jvm.Free.XT.ii_ge_f c26) k) ?_
                                                      show Go p e below W T0 (mkF m 218 #[.val (.int p1)] [])
                                                      refine Go.of (fun _ k => XS.iconst X0.here hx rfl (hb hby d2_218) k) ?_
                                                      show Go p e below W T0 (mkF m 219 #[.val (.int p1)] [(.int (0 : Int32))])
                                                      have q : (f2 p1) = (0 : Int32) := by rw [f2, if_neg c1, if_neg c2, if_neg c3, if_pos c4, if_neg c5, if_neg c6, if_neg c7, if_pos c8, if_neg c9, if_neg c10, if_neg c11, if_pos c12, if_neg c13, if_neg c14, if_pos c15, if_neg c16, if_pos c17, if_neg c18, if_pos c19, if_neg c20, if_pos c21, if_neg c22, if_pos c23, if_neg c24, if_pos c25, if_pos c26]
                                                      exact Go.retN X0 hx hret (Or.inl rfl) (hb hby d2_219) hlk (Eq.trans rfl q.symm) (fun t ht fe => hW t _ _ _ _ ⟨rfl, rfl, ht.trans e0⟩ fe (by decide) (by decide))
                                                    · refine Go.of (fun _ k => XS.icmpYes X0.here hx rfl (pc0 := 215) (pc' := 220) rfl (hb hby d2_215) rfl (Jvm.Free.XT.ii_ge_t c26) (by decide) (by decide) k) ?_
                                                      show Go p e below W T0 (mkF m 220 #[.val (.int p1)] [])
                                                      refine Go.of (fun _ k => XS.iloadN X0.here hx rfl (hb hby d2_220) rfl k) ?_
                                                      show Go p e below W T0 (mkF m 221 #[.val (.int p1)] [(.int p1)])
                                                      refine Go.of (fun _ k => X0.ldcI hx hown (mvT hZ (hw _ (List.mem_of_getElem? (i := 5) rfl))) rfl (hb hby d2_221) k) ?_
                                                      show Go p e below W T0 (mkF m 223 #[.val (.int p1)] [(.int (65533 : Int32)), (.int p1)])
                                                      by_cases c27 : (65533 : Int32) < p1
                                                      · refine Go.of (fun _ k => XS.icmpYes X0.here hx rfl (pc0 := 223) (pc' := 228) rfl (hb hby d2_223) rfl (Jvm.Free.XT.ii_gt_t c27) (by decide) (by decide) k) ?_
                                                        show Go p e below W T0 (mkF m 228 #[.val (.int p1)] [])
                                                        refine Go.of (fun _ k => XS.iloadN X0.here hx rfl (hb hby d2_228) rfl k) ?_
                                                        show Go p e below W T0 (mkF m 229 #[.val (.int p1)] [(.int p1)])
                                                        refine Go.of (fun _ k => X0.ldcI hx hown (mvT hZ (hw _ (List.mem_of_getElem? (i := 6) rfl))) rfl (hb hby d2_229) k) ?_
                                                        show Go p e below W T0 (mkF m 231 #[.val (.int p1)] [(.int (65536 : Int32)), (.int p1)])
                                                        by_cases c28 : p1 < (65536 : Int32)
                                                        · refine Go.of (fun _ k => XS.icmpNo X0.here hx rfl (hb hby d2_231) rfl (Jvm.Free.XT.ii_ge_f c28) k) ?_
                                                          show Go p e below W T0 (mkF m 234 #[.val (.int p1)] [])
                                                          refine Go.of (fun _ k => XS.iconst X0.here hx rfl (hb hby d2_234) k) ?_
                                                          show Go p e below W T0 (mkF m 235 #[.val (.int p1)] [(.int (0 : Int32))])
                                                          have q : (f2 p1) = (0 : Int32) := by rw [f2, if_neg c1, if_neg c2, if_neg c3, if_pos c4, if_neg c5, if_neg c6, if_neg c7, if_pos c8, if_neg c9, if_neg c10, if_neg c11, if_pos c12, if_neg c13, if_neg c14, if_pos c15, if_neg c16, if_pos c17, if_neg c18, if_pos c19, if_neg c20, if_pos c21, if_neg c22, if_pos c23, if_neg c24, if_pos c25, if_neg c26, if_pos c27, if_pos c28]
                                                          exact Go.retN X0 hx hret (Or.inl rfl) (hb hby d2_235) hlk (Eq.trans rfl q.symm) (fun t ht fe => hW t _ _ _ _ ⟨rfl, rfl, ht.trans e0⟩ fe (by decide) (by decide))
                                                        · refine Go.of (fun _ k => XS.icmpYes X0.here hx rfl (pc0 := 231) (pc' := 236) rfl (hb hby d2_231) rfl (Jvm.Free.XT.ii_ge_t c28) (by decide) (by decide) k) ?_
                                                          show Go p e below W T0 (mkF m 236 #[.val (.int p1)] [])
                                                          refine Go.of (fun _ k => XS.iloadN X0.here hx rfl (hb hby d2_236) rfl k) ?_
                                                          show Go p e below W T0 (mkF m 237 #[.val (.int p1)] [(.int p1)])
                                                          refine Go.of (fun _ k => X0.ldcI hx hown (mvT hZ (hw _ (List.mem_of_getElem? (i := 7) rfl))) rfl (hb hby d2_237) k) ?_
                                                          show Go p e below W T0 (mkF m 239 #[.val (.int p1)] [(.int (983039 : Int32)), (.int p1)])
                                                          by_cases c29 : (983039 : Int32) < p1
                                                          · refine Go.of (fun _ k => XS.icmpYes X0.here hx rfl (pc0 := 239) (pc' := 246) rfl (hb hby d2_239) rfl (Jvm.Free.XT.ii_gt_t c29) (by decide) (by decide) k) ?_
                                                            show Go p e below W T0 (mkF m 246 #[.val (.int p1)] [])
                                                            refine Go.of (fun _ k => XS.iconst X0.here hx rfl (hb hby d2_246) k) ?_
                                                            show Go p e below W T0 (mkF m 247 #[.val (.int p1)] [(.int (0 : Int32))])
                                                            have q : (f2 p1) = (0 : Int32) := by rw [f2, if_neg c1, if_neg c2, if_neg c3, if_pos c4, if_neg c5, if_neg c6, if_neg c7, if_pos c8, if_neg c9, if_neg c10, if_neg c11, if_pos c12, if_neg c13, if_neg c14, if_pos c15, if_neg c16, if_pos c17, if_neg c18, if_pos c19, if_neg c20, if_pos c21, if_neg c22, if_pos c23, if_neg c24, if_pos c25, if_neg c26, if_pos c27, if_neg c28, if_pos c29]
                                                            exact Go.retN X0 hx hret (Or.inl rfl) (hb hby d2_247) hlk (Eq.trans rfl q.symm) (fun t ht fe => hW t _ _ _ _ ⟨rfl, rfl, ht.trans e0⟩ fe (by decide) (by decide))
                                                          · refine Go.of (fun _ k => XS.icmpNo X0.here hx rfl (hb hby d2_239) rfl (Jvm.Free.XT.ii_gt_f c29) k) ?_
                                                            show Go p e below W T0 (mkF m 242 #[.val (.int p1)] [])
                                                            refine Go.of (fun _ k => XS.iconst X0.here hx rfl (hb hby d2_242) k) ?_
                                                            show Go p e below W T0 (mkF m 243 #[.val (.int p1)] [(.int (1 : Int32))])
                                                            refine Go.of (fun _ k => XS.goto X0.here hx rfl (pc0 := 243) (pc' := 247) rfl (hb hby d2_243) (by decide) (by decide) k) ?_
                                                            show Go p e below W T0 (mkF m 247 #[.val (.int p1)] [(.int (1 : Int32))])
                                                            have q : (f2 p1) = (1 : Int32) := by rw [f2, if_neg c1, if_neg c2, if_neg c3, if_pos c4, if_neg c5, if_neg c6, if_neg c7, if_pos c8, if_neg c9, if_neg c10, if_neg c11, if_pos c12, if_neg c13, if_neg c14, if_pos c15, if_neg c16, if_pos c17, if_neg c18, if_pos c19, if_neg c20, if_pos c21, if_neg c22, if_pos c23, if_neg c24, if_pos c25, if_neg c26, if_pos c27, if_neg c28, if_neg c29]
                                                            exact Go.retN X0 hx hret (Or.inl rfl) (hb hby d2_247) hlk (Eq.trans rfl q.symm) (fun t ht fe => hW t _ _ _ _ ⟨rfl, rfl, ht.trans e0⟩ fe (by decide) (by decide))
                                                      · refine Go.of (fun _ k => XS.icmpNo X0.here hx rfl (hb hby d2_223) rfl (Jvm.Free.XT.ii_gt_f c27) k) ?_
                                                        show Go p e below W T0 (mkF m 226 #[.val (.int p1)] [])
                                                        refine Go.of (fun _ k => XS.iconst X0.here hx rfl (hb hby d2_226) k) ?_
                                                        show Go p e below W T0 (mkF m 227 #[.val (.int p1)] [(.int (1 : Int32))])
                                                        have q : (f2 p1) = (1 : Int32) := by rw [f2, if_neg c1, if_neg c2, if_neg c3, if_pos c4, if_neg c5, if_neg c6, if_neg c7, if_pos c8, if_neg c9, if_neg c10, if_neg c11, if_pos c12, if_neg c13, if_neg c14, if_pos c15, if_neg c16, if_pos c17, if_neg c18, if_pos c19, if_neg c20, if_pos c21, if_neg c22, if_pos c23, if_neg c24, if_pos c25, if_neg c26, if_neg c27]
                                                        exact Go.retN X0 hx hret (Or.inl rfl) (hb hby d2_227) hlk (Eq.trans rfl q.symm) (fun t ht fe => hW t _ _ _ _ ⟨rfl, rfl, ht.trans e0⟩ fe (by decide) (by decide))
                                                  · refine Go.of (fun _ k => XS.icmpNo X0.here hx rfl (hb hby d2_207) rfl (Jvm.Free.XT.ii_gt_f c25) k) ?_
                                                    show Go p e below W T0 (mkF m 210 #[.val (.int p1)] [])
                                                    refine Go.of (fun _ k => XS.iconst X0.here hx rfl (hb hby d2_210) k) ?_
                                                    show Go p e below W T0 (mkF m 211 #[.val (.int p1)] [(.int (1 : Int32))])
                                                    have q : (f2 p1) = (1 : Int32) := by rw [f2, if_neg c1, if_neg c2, if_neg c3, if_pos c4, if_neg c5, if_neg c6, if_neg c7, if_pos c8, if_neg c9, if_neg c10, if_neg c11, if_pos c12, if_neg c13, if_neg c14, if_pos c15, if_neg c16, if_pos c17, if_neg c18, if_pos c19, if_neg c20, if_pos c21, if_neg c22, if_pos c23, if_neg c24, if_neg c25]
                                                    exact Go.retN X0 hx hret (Or.inl rfl) (hb hby d2_211) hlk (Eq.trans rfl q.symm) (fun t ht fe => hW t _ _ _ _ ⟨rfl, rfl, ht.trans e0⟩ fe (by decide) (by decide))
                                              · refine Go.of (fun _ k => XS.icmpNo X0.here hx rfl (hb hby d2_191) rfl (Jvm.Free.XT.ii_gt_f c23) k) ?_
                                                show Go p e below W T0 (mkF m 194 #[.val (.int p1)] [])
                                                refine Go.of (fun _ k => XS.iconst X0.here hx rfl (hb hby d2_194) k) ?_
                                                show Go p e below W T0 (mkF m 195 #[.val (.int p1)] [(.int (1 : Int32))])
                                                have q : (f2 p1) = (1 : Int32) := by rw [f2, if_neg c1, if_neg c2, if_neg c3, if_pos c4, if_neg c5, if_neg c6, if_neg c7, if_pos c8, if_neg c9, if_neg c10, if_neg c11, if_pos c12, if_neg c13, if_neg c14, if_pos c15, if_neg c16, if_pos c17, if_neg c18, if_pos c19, if_neg c20, if_pos c21, if_neg c22, if_neg c23]
                                                exact Go.retN X0 hx hret (Or.inl rfl) (hb hby d2_195) hlk (Eq.trans rfl q.symm) (fun t ht fe => hW t _ _ _ _ ⟨rfl, rfl, ht.trans e0⟩ fe (by decide) (by decide))
                                          · refine Go.of (fun _ k => XS.icmpNo X0.here hx rfl (hb hby d2_174) rfl (Jvm.Free.XT.ii_gt_f c21) k) ?_
                                            show Go p e below W T0 (mkF m 177 #[.val (.int p1)] [])
                                            refine Go.of (fun _ k => XS.iconst X0.here hx rfl (hb hby d2_177) k) ?_
                                            show Go p e below W T0 (mkF m 178 #[.val (.int p1)] [(.int (1 : Int32))])
                                            have q : (f2 p1) = (1 : Int32) := by rw [f2, if_neg c1, if_neg c2, if_neg c3, if_pos c4, if_neg c5, if_neg c6, if_neg c7, if_pos c8, if_neg c9, if_neg c10, if_neg c11, if_pos c12, if_neg c13, if_neg c14, if_pos c15, if_neg c16, if_pos c17, if_neg c18, if_pos c19, if_neg c20, if_neg c21]
                                            exact Go.retN X0 hx hret (Or.inl rfl) (hb hby d2_178) hlk (Eq.trans rfl q.symm) (fun t ht fe => hW t _ _ _ _ ⟨rfl, rfl, ht.trans e0⟩ fe (by decide) (by decide))
                                      · refine Go.of (fun _ k => XS.icmpNo X0.here hx rfl (hb hby d2_156) rfl (Jvm.Free.XT.ii_gt_f c19) k) ?_
                                        show Go p e below W T0 (mkF m 159 #[.val (.int p1)] [])
                                        refine Go.of (fun _ k => XS.iconst X0.here hx rfl (hb hby d2_159) k) ?_
                                        show Go p e below W T0 (mkF m 160 #[.val (.int p1)] [(.int (1 : Int32))])
                                        have q : (f2 p1) = (1 : Int32) := by rw [f2, if_neg c1, if_neg c2, if_neg c3, if_pos c4, if_neg c5, if_neg c6, if_neg c7, if_pos c8, if_neg c9, if_neg c10, if_neg c11, if_pos c12, if_neg c13, if_neg c14, if_pos c15, if_neg c16, if_pos c17, if_neg c18, if_neg c19]
                                        exact Go.retN X0 hx hret (Or.inl rfl) (hb hby d2_160) hlk (Eq.trans rfl q.symm) (fun t ht fe => hW t _ _ _ _ ⟨rfl, rfl, ht.trans e0⟩ fe (by decide) (by decide))
                                  · refine Go.of (fun _ k => XS.icmpNo X0.here hx rfl (hb hby d2_138) rfl (Jvm.Free.XT.ii_gt_f c17) k) ?_
                                    show Go p e below W T0 (mkF m 141 #[.val (.int p1)] [])
                                    refine Go.of (fun _ k => XS.iconst X0.here hx rfl (hb hby d2_141) k) ?_
                                    show Go p e below W T0 (mkF m 142 #[.val (.int p1)] [(.int (1 : Int32))])
                                    have q : (f2 p1) = (1 : Int32) := by rw [f2, if_neg c1, if_neg c2, if_neg c3, if_pos c4, if_neg c5, if_neg c6, if_neg c7, if_pos c8, if_neg c9, if_neg c10, if_neg c11, if_pos c12, if_neg c13, if_neg c14, if_pos c15, if_neg c16, if_neg c17]
                                    exact Go.retN X0 hx hret (Or.inl rfl) (hb hby d2_142) hlk (Eq.trans rfl q.symm) (fun t ht fe => hW t _ _ _ _ ⟨rfl, rfl, ht.trans e0⟩ fe (by decide) (by decide))
                              · refine Go.of (fun _ k => XS.icmpNo X0.here hx rfl (hb hby d2_120) rfl (Jvm.Free.XT.ii_gt_f c15) k) ?_
                                show Go p e below W T0 (mkF m 123 #[.val (.int p1)] [])
                                refine Go.of (fun _ k => XS.iconst X0.here hx rfl (hb hby d2_123) k) ?_
                                show Go p e below W T0 (mkF m 124 #[.val (.int p1)] [(.int (1 : Int32))])
                                have q : (f2 p1) = (1 : Int32) := by rw [f2, if_neg c1, if_neg c2, if_neg c3, if_pos c4, if_neg c5, if_neg c6, if_neg c7, if_pos c8, if_neg c9, if_neg c10, if_neg c11, if_pos c12, if_neg c13, if_neg c14, if_neg c15]
                                exact Go.retN X0 hx hret (Or.inl rfl) (hb hby d2_124) hlk (Eq.trans rfl q.symm) (fun t ht fe => hW t _ _ _ _ ⟨rfl, rfl, ht.trans e0⟩ fe (by decide) (by decide))
                        · refine Go.of (fun _ k => XS.icmpNo X0.here hx rfl (hb hby d2_93) rfl (Jvm.Free.XT.ii_gt_f c12) k) ?_
                          show Go p e below W T0 (mkF m 96 #[.val (.int p1)] [])
                          refine Go.of (fun _ k => XS.iconst X0.here hx rfl (hb hby d2_96) k) ?_
                          show Go p e below W T0 (mkF m 97 #[.val (.int p1)] [(.int (1 : Int32))])
                          have q : (f2 p1) = (1 : Int32) := by rw [f2, if_neg c1, if_neg c2, if_neg c3, if_pos c4, if_neg c5, if_neg c6, if_neg c7, if_pos c8, if_neg c9, if_neg c10, if_neg c11, if_neg c12]
                          exact Go.retN X0 hx hret (Or.inl rfl) (hb hby d2_97) hlk (Eq.trans rfl q.symm) (fun t ht fe => hW t _ _ _ _ ⟨rfl, rfl, ht.trans e0⟩ fe (by decide) (by decide))
                · refine Go.of (fun _ k => XS.icmpNo X0.here hx rfl (hb hby d2_59) rfl (Jvm.Free.XT.ii_gt_f c8) k) ?_
                  show Go p e below W T0 (mkF m 62 #[.val (.int p1)] [])
                  refine Go.of (fun _ k => XS.iconst X0.here hx rfl (hb hby d2_62) k) ?_
                  show Go p e below W T0 (mkF m 63 #[.val (.int p1)] [(.int (1 : Int32))])
                  have q : (f2 p1) = (1 : Int32) := by rw [f2, if_neg c1, if_neg c2, if_neg c3, if_pos c4, if_neg c5, if_neg c6, if_neg c7, if_neg c8]
                  exact Go.retN X0 hx hret (Or.inl rfl) (hb hby d2_63) hlk (Eq.trans rfl q.symm) (fun t ht fe => hW t _ _ _ _ ⟨rfl, rfl, ht.trans e0⟩ fe (by decide) (by decide))
        · refine Go.of (fun _ k => XS.icmpNo X0.here hx rfl (hb hby d2_27) rfl (Jvm.Free.XT.ii_gt_f c4) k) ?_
          show Go p e below W T0 (mkF m 30 #[.val (.int p1)] [])
          refine Go.of (fun _ k => XS.iconst X0.here hx rfl (hb hby d2_30) k) ?_
          show Go p e below W T0 (mkF m 31 #[.val (.int p1)] [(.int (1 : Int32))])
          have q : (f2 p1) = (1 : Int32) := by rw [f2, if_neg c1, if_neg c2, if_neg c3, if_neg c4]
          exact Go.retN X0 hx hret (Or.inl rfl) (hb hby d2_31) hlk (Eq.trans rfl q.symm) (fun t ht fe => hW t _ _ _ _ ⟨rfl, rfl, ht.trans e0⟩ fe (by decide) (by decide))
set_option maxRecDepth 65536 in
set_option maxHeartbeats 40000000 in
theorem rm0 (l : Launch) (Z : State) (a0 : Array Value) (hw : ∀ d ∈ tables_1, d.before a0 Z = true) (ws : List Jvm.Cond) (p1 : Int32) (p2 : Int32) (p3 : Int32) (h0 : Heap) (n0 : Nat) (Z0 : n0 ≤ h0.size) :
    Con l Z x code maxLocals ret ws room_1 #[(.int p1), (.int p2), (.int p3)] h0 (Q0 Z p1 p2 p3 h0 n0) := by
  refine own_body pn_0 (fun m => ef_0 m p1 p2 p3) ?_
  intro p e s m below meth c T0 W X0 hx hby hml hret hlk hown hnm hZ e0 hW
  have K : Keep h0 h0 [] := Keep.refl _ _
  have N := Fr.nil n0
  show Go p e below W T0 (mkF m 0 #[.val (.int p1), .val (.int p2), .val (.int p3), .unset, .unset, .unset, .unset, .unset] [])
  refine Go.of (fun _ k => XS.bipush X0.here hx rfl (hb hby at_0) k) ?_
  show Go p e below W T0 (mkF m 2 #[.val (.int p1), .val (.int p2), .val (.int p3), .unset, .unset, .unset, .unset, .unset] [(.int (28 : Int32))])
  refine Go.newA X0 hx hZ (hw _ (List.mem_of_getElem? (i := 0) rfl)) rfl rfl rfl e0 (hb hby at_2) (by decide) (cap := 28) (by decide) (by decide) (by decide) (by decide) ?_
  intro T1 h1 b1 zq1 X1 e1 E1 E_b1 A_b1
  have g_b1 : n0 ≤ b1 := by rw [zq1]; exact Z0
  have s_b1 : h0.size ≤ b1 := by rw [zq1]; exact K.1
  have K := K.ext E1
  have Z0 := Nat.le_trans Z0 E1.1
  have A_b1 : AI Z h1 b1 .int 28 (w0_2 p1 p2 p3) := A_b1
  show Go p e below W T1 (mkF m 4 #[.val (.int p1), .val (.int p2), .val (.int p3), .unset, .unset, .unset, .unset, .unset] [(.ref b1)])
  refine Go.of (fun _ k => XS.dup X1.here hx rfl (hb hby at_4) rfl rfl k) ?_
  show Go p e below W T1 (mkF m 5 #[.val (.int p1), .val (.int p2), .val (.int p3), .unset, .unset, .unset, .unset, .unset] [(.ref b1), (.ref b1)])
  refine Go.of (fun _ k => XS.iconst X1.here hx rfl (hb hby at_5) k) ?_
  show Go p e below W T1 (mkF m 6 #[.val (.int p1), .val (.int p2), .val (.int p3), .unset, .unset, .unset, .unset, .unset] [(.int (0 : Int32)), (.ref b1), (.ref b1)])
  refine Go.of (fun _ k => XS.iconst X1.here hx rfl (hb hby at_6) k) ?_
  show Go p e below W T1 (mkF m 7 #[.val (.int p1), .val (.int p2), .val (.int p3), .unset, .unset, .unset, .unset, .unset] [(.int (0 : Int32)), (.int (0 : Int32)), (.ref b1), (.ref b1)])
  refine Go.ist X1 hx hZ e1 N g_b1 A_b1 ⟨by decide, by decide⟩ (hb hby at_7) ?_
  intro T3 h3 L3 X3 N e3 W3 A_b1
  have K := K.wr W3 (Or.inr s_b1)
  have Z0 := Nat.le_trans Z0 (Keep.of_wr W3).1
  have A_b1 : AI Z h3 b1 .int 28 (w0_4 p1 p2 p3) := A_b1
  show Go p e below W T3 (mkF m 8 #[.val (.int p1), .val (.int p2), .val (.int p3), .unset, .unset, .unset, .unset, .unset] [(.ref b1)])
  refine Go.of (fun _ k => XS.dup X3.here hx rfl (hb hby at_8) rfl rfl k) ?_
  show Go p e below W T3 (mkF m 9 #[.val (.int p1), .val (.int p2), .val (.int p3), .unset, .unset, .unset, .unset, .unset] [(.ref b1), (.ref b1)])
  refine Go.of (fun _ k => XS.iconst X3.here hx rfl (hb hby at_9) k) ?_
  show Go p e below W T3 (mkF m 10 #[.val (.int p1), .val (.int p2), .val (.int p3), .unset, .unset, .unset, .unset, .unset] [(.int (1 : Int32)), (.ref b1), (.ref b1)])
  refine Go.of (fun _ k => XS.bipush X3.here hx rfl (hb hby at_10) k) ?_
  show Go p e below W T3 (mkF m 12 #[.val (.int p1), .val (.int p2), .val (.int p3), .unset, .unset, .unset, .unset, .unset] [(.int (58 : Int32)), (.int (1 : Int32)), (.ref b1), (.ref b1)])
  refine Go.ist X3 hx hZ e3 N g_b1 A_b1 ⟨by decide, by decide⟩ (hb hby at_12) ?_
  intro T5 h5 L5 X5 N e5 W5 A_b1
  have K := K.wr W5 (Or.inr s_b1)
  have Z0 := Nat.le_trans Z0 (Keep.of_wr W5).1
  have A_b1 : AI Z h5 b1 .int 28 (w0_6 p1 p2 p3) := A_b1
  show Go p e below W T5 (mkF m 13 #[.val (.int p1), .val (.int p2), .val (.int p3), .unset, .unset, .unset, .unset, .unset] [(.ref b1)])
  refine Go.of (fun _ k => XS.dup X5.here hx rfl (hb hby at_13) rfl rfl k) ?_
  show Go p e below W T5 (mkF m 14 #[.val (.int p1), .val (.int p2), .val (.int p3), .unset, .unset, .unset, .unset, .unset] [(.ref b1), (.ref b1)])
  refine Go.of (fun _ k => XS.iconst X5.here hx rfl (hb hby at_14) k) ?_
  show Go p e below W T5 (mkF m 15 #[.val (.int p1), .val (.int p2), .val (.int p3), .unset, .unset, .unset, .unset, .unset] [(.int (2 : Int32)), (.ref b1), (.ref b1)])
  refine Go.of (fun _ k => XS.bipush X5.here hx rfl (hb hby at_15) k) ?_
  show Go p e below W T5 (mkF m 17 #[.val (.int p1), .val (.int p2), .val (.int p3), .unset, .unset, .unset, .unset, .unset] [(.int (65 : Int32)), (.int (2 : Int32)), (.ref b1), (.ref b1)])
  refine Go.ist X5 hx hZ e5 N g_b1 A_b1 ⟨by decide, by decide⟩ (hb hby at_17) ?_
  intro T7 h7 L7 X7 N e7 W7 A_b1
  have K := K.wr W7 (Or.inr s_b1)
  have Z0 := Nat.le_trans Z0 (Keep.of_wr W7).1
  have A_b1 : AI Z h7 b1 .int 28 (w0_8 p1 p2 p3) := A_b1
  show Go p e below W T7 (mkF m 18 #[.val (.int p1), .val (.int p2), .val (.int p3), .unset, .unset, .unset, .unset, .unset] [(.ref b1)])
  refine Go.of (fun _ k => XS.dup X7.here hx rfl (hb hby at_18) rfl rfl k) ?_
  show Go p e below W T7 (mkF m 19 #[.val (.int p1), .val (.int p2), .val (.int p3), .unset, .unset, .unset, .unset, .unset] [(.ref b1), (.ref b1)])
  refine Go.of (fun _ k => XS.iconst X7.here hx rfl (hb hby at_19) k) ?_
  show Go p e below W T7 (mkF m 20 #[.val (.int p1), .val (.int p2), .val (.int p3), .unset, .unset, .unset, .unset, .unset] [(.int (3 : Int32)), (.ref b1), (.ref b1)])
  refine Go.of (fun _ k => XS.bipush X7.here hx rfl (hb hby at_20) k) ?_
  show Go p e below W T7 (mkF m 22 #[.val (.int p1), .val (.int p2), .val (.int p3), .unset, .unset, .unset, .unset, .unset] [(.int (90 : Int32)), (.int (3 : Int32)), (.ref b1), (.ref b1)])
  refine Go.ist X7 hx hZ e7 N g_b1 A_b1 ⟨by decide, by decide⟩ (hb hby at_22) ?_
  intro T9 h9 L9 X9 N e9 W9 A_b1
  have K := K.wr W9 (Or.inr s_b1)
  have Z0 := Nat.le_trans Z0 (Keep.of_wr W9).1
  have A_b1 : AI Z h9 b1 .int 28 (w0_10 p1 p2 p3) := A_b1
  show Go p e below W T9 (mkF m 23 #[.val (.int p1), .val (.int p2), .val (.int p3), .unset, .unset, .unset, .unset, .unset] [(.ref b1)])
  refine Go.of (fun _ k => XS.dup X9.here hx rfl (hb hby at_23) rfl rfl k) ?_
  show Go p e below W T9 (mkF m 24 #[.val (.int p1), .val (.int p2), .val (.int p3), .unset, .unset, .unset, .unset, .unset] [(.ref b1), (.ref b1)])
  refine Go.of (fun _ k => XS.iconst X9.here hx rfl (hb hby at_24) k) ?_
  show Go p e below W T9 (mkF m 25 #[.val (.int p1), .val (.int p2), .val (.int p3), .unset, .unset, .unset, .unset, .unset] [(.int (4 : Int32)), (.ref b1), (.ref b1)])
  refine Go.of (fun _ k => XS.bipush X9.here hx rfl (hb hby at_25) k) ?_
  show Go p e below W T9 (mkF m 27 #[.val (.int p1), .val (.int p2), .val (.int p3), .unset, .unset, .unset, .unset, .unset] [(.int (95 : Int32)), (.int (4 : Int32)), (.ref b1), (.ref b1)])
  refine Go.ist X9 hx hZ e9 N g_b1 A_b1 ⟨by decide, by decide⟩ (hb hby at_27) ?_
  intro T11 h11 L11 X11 N e11 W11 A_b1
  have K := K.wr W11 (Or.inr s_b1)
  have Z0 := Nat.le_trans Z0 (Keep.of_wr W11).1
  have A_b1 : AI Z h11 b1 .int 28 (w0_12 p1 p2 p3) := A_b1
  show Go p e below W T11 (mkF m 28 #[.val (.int p1), .val (.int p2), .val (.int p3), .unset, .unset, .unset, .unset, .unset] [(.ref b1)])
  refine Go.of (fun _ k => XS.dup X11.here hx rfl (hb hby at_28) rfl rfl k) ?_
  show Go p e below W T11 (mkF m 29 #[.val (.int p1), .val (.int p2), .val (.int p3), .unset, .unset, .unset, .unset, .unset] [(.ref b1), (.ref b1)])
  refine Go.of (fun _ k => XS.iconst X11.here hx rfl (hb hby at_29) k) ?_
  show Go p e below W T11 (mkF m 30 #[.val (.int p1), .val (.int p2), .val (.int p3), .unset, .unset, .unset, .unset, .unset] [(.int (5 : Int32)), (.ref b1), (.ref b1)])
  refine Go.of (fun _ k => XS.bipush X11.here hx rfl (hb hby at_30) k) ?_
  show Go p e below W T11 (mkF m 32 #[.val (.int p1), .val (.int p2), .val (.int p3), .unset, .unset, .unset, .unset, .unset] [(.int (97 : Int32)), (.int (5 : Int32)), (.ref b1), (.ref b1)])
  refine Go.ist X11 hx hZ e11 N g_b1 A_b1 ⟨by decide, by decide⟩ (hb hby at_32) ?_
  intro T13 h13 L13 X13 N e13 W13 A_b1
  have K := K.wr W13 (Or.inr s_b1)
  have Z0 := Nat.le_trans Z0 (Keep.of_wr W13).1
  have A_b1 : AI Z h13 b1 .int 28 (w0_14 p1 p2 p3) := A_b1
  show Go p e below W T13 (mkF m 33 #[.val (.int p1), .val (.int p2), .val (.int p3), .unset, .unset, .unset, .unset, .unset] [(.ref b1)])
  refine Go.of (fun _ k => XS.dup X13.here hx rfl (hb hby at_33) rfl rfl k) ?_
  show Go p e below W T13 (mkF m 34 #[.val (.int p1), .val (.int p2), .val (.int p3), .unset, .unset, .unset, .unset, .unset] [(.ref b1), (.ref b1)])
  refine Go.of (fun _ k => XS.bipush X13.here hx rfl (hb hby at_34) k) ?_
  show Go p e below W T13 (mkF m 36 #[.val (.int p1), .val (.int p2), .val (.int p3), .unset, .unset, .unset, .unset, .unset] [(.int (6 : Int32)), (.ref b1), (.ref b1)])
  refine Go.of (fun _ k => XS.bipush X13.here hx rfl (hb hby at_36) k) ?_
  show Go p e below W T13 (mkF m 38 #[.val (.int p1), .val (.int p2), .val (.int p3), .unset, .unset, .unset, .unset, .unset] [(.int (122 : Int32)), (.int (6 : Int32)), (.ref b1), (.ref b1)])
  refine Go.ist X13 hx hZ e13 N g_b1 A_b1 ⟨by decide, by decide⟩ (hb hby at_38) ?_
  intro T15 h15 L15 X15 N e15 W15 A_b1
  have K := K.wr W15 (Or.inr s_b1)
  have Z0 := Nat.le_trans Z0 (Keep.of_wr W15).1
  have A_b1 : AI Z h15 b1 .int 28 (w0_16 p1 p2 p3) := A_b1
  show Go p e below W T15 (mkF m 39 #[.val (.int p1), .val (.int p2), .val (.int p3), .unset, .unset, .unset, .unset, .unset] [(.ref b1)])
  refine Go.of (fun _ k => XS.dup X15.here hx rfl (hb hby at_39) rfl rfl k) ?_
  show Go p e below W T15 (mkF m 40 #[.val (.int p1), .val (.int p2), .val (.int p3), .unset, .unset, .unset, .unset, .unset] [(.ref b1), (.ref b1)])
  refine Go.of (fun _ k => XS.bipush X15.here hx rfl (hb hby at_40) k) ?_
  show Go p e below W T15 (mkF m 42 #[.val (.int p1), .val (.int p2), .val (.int p3), .unset, .unset, .unset, .unset, .unset] [(.int (7 : Int32)), (.ref b1), (.ref b1)])
  refine Go.of (fun _ k => XS.sipush X15.here hx rfl (hb hby at_42) k) ?_
  show Go p e below W T15 (mkF m 45 #[.val (.int p1), .val (.int p2), .val (.int p3), .unset, .unset, .unset, .unset, .unset] [(.int (192 : Int32)), (.int (7 : Int32)), (.ref b1), (.ref b1)])
  refine Go.ist X15 hx hZ e15 N g_b1 A_b1 ⟨by decide, by decide⟩ (hb hby at_45) ?_
  intro T17 h17 L17 X17 N e17 W17 A_b1
  have K := K.wr W17 (Or.inr s_b1)
  have Z0 := Nat.le_trans Z0 (Keep.of_wr W17).1
  have A_b1 : AI Z h17 b1 .int 28 (w0_18 p1 p2 p3) := A_b1
  show Go p e below W T17 (mkF m 46 #[.val (.int p1), .val (.int p2), .val (.int p3), .unset, .unset, .unset, .unset, .unset] [(.ref b1)])
  refine Go.of (fun _ k => XS.dup X17.here hx rfl (hb hby at_46) rfl rfl k) ?_
  show Go p e below W T17 (mkF m 47 #[.val (.int p1), .val (.int p2), .val (.int p3), .unset, .unset, .unset, .unset, .unset] [(.ref b1), (.ref b1)])
  refine Go.of (fun _ k => XS.bipush X17.here hx rfl (hb hby at_47) k) ?_
  show Go p e below W T17 (mkF m 49 #[.val (.int p1), .val (.int p2), .val (.int p3), .unset, .unset, .unset, .unset, .unset] [(.int (8 : Int32)), (.ref b1), (.ref b1)])
  refine Go.of (fun _ k => XS.sipush X17.here hx rfl (hb hby at_49) k) ?_
  show Go p e below W T17 (mkF m 52 #[.val (.int p1), .val (.int p2), .val (.int p3), .unset, .unset, .unset, .unset, .unset] [(.int (215 : Int32)), (.int (8 : Int32)), (.ref b1), (.ref b1)])
  refine Go.ist X17 hx hZ e17 N g_b1 A_b1 ⟨by decide, by decide⟩ (hb hby at_52) ?_
  intro T19 h19 L19 X19 N e19 W19 A_b1
  have K := K.wr W19 (Or.inr s_b1)
  have Z0 := Nat.le_trans Z0 (Keep.of_wr W19).1
  have A_b1 : AI Z h19 b1 .int 28 (w0_20 p1 p2 p3) := A_b1
  show Go p e below W T19 (mkF m 53 #[.val (.int p1), .val (.int p2), .val (.int p3), .unset, .unset, .unset, .unset, .unset] [(.ref b1)])
  refine Go.of (fun _ k => XS.dup X19.here hx rfl (hb hby at_53) rfl rfl k) ?_
  show Go p e below W T19 (mkF m 54 #[.val (.int p1), .val (.int p2), .val (.int p3), .unset, .unset, .unset, .unset, .unset] [(.ref b1), (.ref b1)])
  refine Go.of (fun _ k => XS.bipush X19.here hx rfl (hb hby at_54) k) ?_
  show Go p e below W T19 (mkF m 56 #[.val (.int p1), .val (.int p2), .val (.int p3), .unset, .unset, .unset, .unset, .unset] [(.int (9 : Int32)), (.ref b1), (.ref b1)])
  refine Go.of (fun _ k => XS.sipush X19.here hx rfl (hb hby at_56) k) ?_
  show Go p e below W T19 (mkF m 59 #[.val (.int p1), .val (.int p2), .val (.int p3), .unset, .unset, .unset, .unset, .unset] [(.int (247 : Int32)), (.int (9 : Int32)), (.ref b1), (.ref b1)])
  refine Go.ist X19 hx hZ e19 N g_b1 A_b1 ⟨by decide, by decide⟩ (hb hby at_59) ?_
  intro T21 h21 L21 X21 N e21 W21 A_b1
  have K := K.wr W21 (Or.inr s_b1)
  have Z0 := Nat.le_trans Z0 (Keep.of_wr W21).1
  have A_b1 : AI Z h21 b1 .int 28 (w0_22 p1 p2 p3) := A_b1
  show Go p e below W T21 (mkF m 60 #[.val (.int p1), .val (.int p2), .val (.int p3), .unset, .unset, .unset, .unset, .unset] [(.ref b1)])
  refine Go.of (fun _ k => XS.dup X21.here hx rfl (hb hby at_60) rfl rfl k) ?_
  show Go p e below W T21 (mkF m 61 #[.val (.int p1), .val (.int p2), .val (.int p3), .unset, .unset, .unset, .unset, .unset] [(.ref b1), (.ref b1)])
  refine Go.of (fun _ k => XS.bipush X21.here hx rfl (hb hby at_61) k) ?_
  show Go p e below W T21 (mkF m 63 #[.val (.int p1), .val (.int p2), .val (.int p3), .unset, .unset, .unset, .unset, .unset] [(.int (10 : Int32)), (.ref b1), (.ref b1)])
  refine Go.of (fun _ k => XS.sipush X21.here hx rfl (hb hby at_63) k) ?_
  show Go p e below W T21 (mkF m 66 #[.val (.int p1), .val (.int p2), .val (.int p3), .unset, .unset, .unset, .unset, .unset] [(.int (767 : Int32)), (.int (10 : Int32)), (.ref b1), (.ref b1)])
  refine Go.ist X21 hx hZ e21 N g_b1 A_b1 ⟨by decide, by decide⟩ (hb hby at_66) ?_
  intro T23 h23 L23 X23 N e23 W23 A_b1
  have K := K.wr W23 (Or.inr s_b1)
  have Z0 := Nat.le_trans Z0 (Keep.of_wr W23).1
  have A_b1 : AI Z h23 b1 .int 28 (w0_24 p1 p2 p3) := A_b1
  show Go p e below W T23 (mkF m 67 #[.val (.int p1), .val (.int p2), .val (.int p3), .unset, .unset, .unset, .unset, .unset] [(.ref b1)])
  refine Go.of (fun _ k => XS.dup X23.here hx rfl (hb hby at_67) rfl rfl k) ?_
  show Go p e below W T23 (mkF m 68 #[.val (.int p1), .val (.int p2), .val (.int p3), .unset, .unset, .unset, .unset, .unset] [(.ref b1), (.ref b1)])
  refine Go.of (fun _ k => XS.bipush X23.here hx rfl (hb hby at_68) k) ?_
  show Go p e below W T23 (mkF m 70 #[.val (.int p1), .val (.int p2), .val (.int p3), .unset, .unset, .unset, .unset, .unset] [(.int (11 : Int32)), (.ref b1), (.ref b1)])
  refine Go.of (fun _ k => XS.sipush X23.here hx rfl (hb hby at_70) k) ?_
  show Go p e below W T23 (mkF m 73 #[.val (.int p1), .val (.int p2), .val (.int p3), .unset, .unset, .unset, .unset, .unset] [(.int (880 : Int32)), (.int (11 : Int32)), (.ref b1), (.ref b1)])
  refine Go.ist X23 hx hZ e23 N g_b1 A_b1 ⟨by decide, by decide⟩ (hb hby at_73) ?_
  intro T25 h25 L25 X25 N e25 W25 A_b1
  have K := K.wr W25 (Or.inr s_b1)
  have Z0 := Nat.le_trans Z0 (Keep.of_wr W25).1
  have A_b1 : AI Z h25 b1 .int 28 (w0_26 p1 p2 p3) := A_b1
  show Go p e below W T25 (mkF m 74 #[.val (.int p1), .val (.int p2), .val (.int p3), .unset, .unset, .unset, .unset, .unset] [(.ref b1)])
  refine Go.of (fun _ k => XS.dup X25.here hx rfl (hb hby at_74) rfl rfl k) ?_
  show Go p e below W T25 (mkF m 75 #[.val (.int p1), .val (.int p2), .val (.int p3), .unset, .unset, .unset, .unset, .unset] [(.ref b1), (.ref b1)])
  refine Go.of (fun _ k => XS.bipush X25.here hx rfl (hb hby at_75) k) ?_
  show Go p e below W T25 (mkF m 77 #[.val (.int p1), .val (.int p2), .val (.int p3), .unset, .unset, .unset, .unset, .unset] [(.int (12 : Int32)), (.ref b1), (.ref b1)])
  refine Go.of (fun _ k => XS.sipush X25.here hx rfl (hb hby at_77) k) ?_
  show Go p e below W T25 (mkF m 80 #[.val (.int p1), .val (.int p2), .val (.int p3), .unset, .unset, .unset, .unset, .unset] [(.int (894 : Int32)), (.int (12 : Int32)), (.ref b1), (.ref b1)])
  refine Go.ist X25 hx hZ e25 N g_b1 A_b1 ⟨by decide, by decide⟩ (hb hby at_80) ?_
  intro T27 h27 L27 X27 N e27 W27 A_b1
  have K := K.wr W27 (Or.inr s_b1)
  have Z0 := Nat.le_trans Z0 (Keep.of_wr W27).1
  have A_b1 : AI Z h27 b1 .int 28 (w0_28 p1 p2 p3) := A_b1
  show Go p e below W T27 (mkF m 81 #[.val (.int p1), .val (.int p2), .val (.int p3), .unset, .unset, .unset, .unset, .unset] [(.ref b1)])
  refine Go.of (fun _ k => XS.dup X27.here hx rfl (hb hby at_81) rfl rfl k) ?_
  show Go p e below W T27 (mkF m 82 #[.val (.int p1), .val (.int p2), .val (.int p3), .unset, .unset, .unset, .unset, .unset] [(.ref b1), (.ref b1)])
  refine Go.of (fun _ k => XS.bipush X27.here hx rfl (hb hby at_82) k) ?_
  show Go p e below W T27 (mkF m 84 #[.val (.int p1), .val (.int p2), .val (.int p3), .unset, .unset, .unset, .unset, .unset] [(.int (13 : Int32)), (.ref b1), (.ref b1)])
  refine Go.of (fun _ k => XS.sipush X27.here hx rfl (hb hby at_84) k) ?_
  show Go p e below W T27 (mkF m 87 #[.val (.int p1), .val (.int p2), .val (.int p3), .unset, .unset, .unset, .unset, .unset] [(.int (8191 : Int32)), (.int (13 : Int32)), (.ref b1), (.ref b1)])
  refine Go.ist X27 hx hZ e27 N g_b1 A_b1 ⟨by decide, by decide⟩ (hb hby at_87) ?_
  intro T29 h29 L29 X29 N e29 W29 A_b1
  have K := K.wr W29 (Or.inr s_b1)
  have Z0 := Nat.le_trans Z0 (Keep.of_wr W29).1
  have A_b1 : AI Z h29 b1 .int 28 (w0_30 p1 p2 p3) := A_b1
  show Go p e below W T29 (mkF m 88 #[.val (.int p1), .val (.int p2), .val (.int p3), .unset, .unset, .unset, .unset, .unset] [(.ref b1)])
  refine Go.of (fun _ k => XS.dup X29.here hx rfl (hb hby at_88) rfl rfl k) ?_
  show Go p e below W T29 (mkF m 89 #[.val (.int p1), .val (.int p2), .val (.int p3), .unset, .unset, .unset, .unset, .unset] [(.ref b1), (.ref b1)])
  refine Go.of (fun _ k => XS.bipush X29.here hx rfl (hb hby at_89) k) ?_
  show Go p e below W T29 (mkF m 91 #[.val (.int p1), .val (.int p2), .val (.int p3), .unset, .unset, .unset, .unset, .unset] [(.int (14 : Int32)), (.ref b1), (.ref b1)])
  refine Go.of (fun _ k => XS.sipush X29.here hx rfl (hb hby at_91) k) ?_
  show Go p e below W T29 (mkF m 94 #[.val (.int p1), .val (.int p2), .val (.int p3), .unset, .unset, .unset, .unset, .unset] [(.int (8204 : Int32)), (.int (14 : Int32)), (.ref b1), (.ref b1)])
  refine Go.ist X29 hx hZ e29 N g_b1 A_b1 ⟨by decide, by decide⟩ (hb hby at_94) ?_
  intro T31 h31 L31 X31 N e31 W31 A_b1
  have K := K.wr W31 (Or.inr s_b1)
  have Z0 := Nat.le_trans Z0 (Keep.of_wr W31).1
  have A_b1 : AI Z h31 b1 .int 28 (w0_32 p1 p2 p3) := A_b1
  show Go p e below W T31 (mkF m 95 #[.val (.int p1), .val (.int p2), .val (.int p3), .unset, .unset, .unset, .unset, .unset] [(.ref b1)])
  refine Go.of (fun _ k => XS.dup X31.here hx rfl (hb hby at_95) rfl rfl k) ?_
  show Go p e below W T31 (mkF m 96 #[.val (.int p1), .val (.int p2), .val (.int p3), .unset, .unset, .unset, .unset, .unset] [(.ref b1), (.ref b1)])
  refine Go.of (fun _ k => XS.bipush X31.here hx rfl (hb hby at_96) k) ?_
  show Go p e below W T31 (mkF m 98 #[.val (.int p1), .val (.int p2), .val (.int p3), .unset, .unset, .unset, .unset, .unset] [(.int (15 : Int32)), (.ref b1), (.ref b1)])
  refine Go.of (fun _ k => XS.sipush X31.here hx rfl (hb hby at_98) k) ?_
  show Go p e below W T31 (mkF m 101 #[.val (.int p1), .val (.int p2), .val (.int p3), .unset, .unset, .unset, .unset, .unset] [(.int (8205 : Int32)), (.int (15 : Int32)), (.ref b1), (.ref b1)])
  refine Go.ist X31 hx hZ e31 N g_b1 A_b1 ⟨by decide, by decide⟩ (hb hby at_101) ?_
  intro T33 h33 L33 X33 N e33 W33 A_b1
  have K := K.wr W33 (Or.inr s_b1)
  have Z0 := Nat.le_trans Z0 (Keep.of_wr W33).1
  have A_b1 : AI Z h33 b1 .int 28 (w0_34 p1 p2 p3) := A_b1
  show Go p e below W T33 (mkF m 102 #[.val (.int p1), .val (.int p2), .val (.int p3), .unset, .unset, .unset, .unset, .unset] [(.ref b1)])
  refine Go.of (fun _ k => XS.dup X33.here hx rfl (hb hby at_102) rfl rfl k) ?_
  show Go p e below W T33 (mkF m 103 #[.val (.int p1), .val (.int p2), .val (.int p3), .unset, .unset, .unset, .unset, .unset] [(.ref b1), (.ref b1)])
  refine Go.of (fun _ k => XS.bipush X33.here hx rfl (hb hby at_103) k) ?_
  show Go p e below W T33 (mkF m 105 #[.val (.int p1), .val (.int p2), .val (.int p3), .unset, .unset, .unset, .unset, .unset] [(.int (16 : Int32)), (.ref b1), (.ref b1)])
  refine Go.of (fun _ k => XS.sipush X33.here hx rfl (hb hby at_105) k) ?_
  show Go p e below W T33 (mkF m 108 #[.val (.int p1), .val (.int p2), .val (.int p3), .unset, .unset, .unset, .unset, .unset] [(.int (8304 : Int32)), (.int (16 : Int32)), (.ref b1), (.ref b1)])
  refine Go.ist X33 hx hZ e33 N g_b1 A_b1 ⟨by decide, by decide⟩ (hb hby at_108) ?_
  intro T35 h35 L35 X35 N e35 W35 A_b1
  have K := K.wr W35 (Or.inr s_b1)
  have Z0 := Nat.le_trans Z0 (Keep.of_wr W35).1
  have A_b1 : AI Z h35 b1 .int 28 (w0_36 p1 p2 p3) := A_b1
  show Go p e below W T35 (mkF m 109 #[.val (.int p1), .val (.int p2), .val (.int p3), .unset, .unset, .unset, .unset, .unset] [(.ref b1)])
  refine Go.of (fun _ k => XS.dup X35.here hx rfl (hb hby at_109) rfl rfl k) ?_
  show Go p e below W T35 (mkF m 110 #[.val (.int p1), .val (.int p2), .val (.int p3), .unset, .unset, .unset, .unset, .unset] [(.ref b1), (.ref b1)])
  refine Go.of (fun _ k => XS.bipush X35.here hx rfl (hb hby at_110) k) ?_
  show Go p e below W T35 (mkF m 112 #[.val (.int p1), .val (.int p2), .val (.int p3), .unset, .unset, .unset, .unset, .unset] [(.int (17 : Int32)), (.ref b1), (.ref b1)])
  refine Go.of (fun _ k => XS.sipush X35.here hx rfl (hb hby at_112) k) ?_
  show Go p e below W T35 (mkF m 115 #[.val (.int p1), .val (.int p2), .val (.int p3), .unset, .unset, .unset, .unset, .unset] [(.int (8591 : Int32)), (.int (17 : Int32)), (.ref b1), (.ref b1)])
  refine Go.ist X35 hx hZ e35 N g_b1 A_b1 ⟨by decide, by decide⟩ (hb hby at_115) ?_
  intro T37 h37 L37 X37 N e37 W37 A_b1
  have K := K.wr W37 (Or.inr s_b1)
  have Z0 := Nat.le_trans Z0 (Keep.of_wr W37).1
  have A_b1 : AI Z h37 b1 .int 28 (w0_38 p1 p2 p3) := A_b1
  show Go p e below W T37 (mkF m 116 #[.val (.int p1), .val (.int p2), .val (.int p3), .unset, .unset, .unset, .unset, .unset] [(.ref b1)])
  refine Go.of (fun _ k => XS.dup X37.here hx rfl (hb hby at_116) rfl rfl k) ?_
  show Go p e below W T37 (mkF m 117 #[.val (.int p1), .val (.int p2), .val (.int p3), .unset, .unset, .unset, .unset, .unset] [(.ref b1), (.ref b1)])
  refine Go.of (fun _ k => XS.bipush X37.here hx rfl (hb hby at_117) k) ?_
  show Go p e below W T37 (mkF m 119 #[.val (.int p1), .val (.int p2), .val (.int p3), .unset, .unset, .unset, .unset, .unset] [(.int (18 : Int32)), (.ref b1), (.ref b1)])
  refine Go.of (fun _ k => XS.sipush X37.here hx rfl (hb hby at_119) k) ?_
  show Go p e below W T37 (mkF m 122 #[.val (.int p1), .val (.int p2), .val (.int p3), .unset, .unset, .unset, .unset, .unset] [(.int (11264 : Int32)), (.int (18 : Int32)), (.ref b1), (.ref b1)])
  refine Go.ist X37 hx hZ e37 N g_b1 A_b1 ⟨by decide, by decide⟩ (hb hby at_122) ?_
  intro T39 h39 L39 X39 N e39 W39 A_b1
  have K := K.wr W39 (Or.inr s_b1)
  have Z0 := Nat.le_trans Z0 (Keep.of_wr W39).1
  have A_b1 : AI Z h39 b1 .int 28 (w0_40 p1 p2 p3) := A_b1
  show Go p e below W T39 (mkF m 123 #[.val (.int p1), .val (.int p2), .val (.int p3), .unset, .unset, .unset, .unset, .unset] [(.ref b1)])
  refine Go.of (fun _ k => XS.dup X39.here hx rfl (hb hby at_123) rfl rfl k) ?_
  show Go p e below W T39 (mkF m 124 #[.val (.int p1), .val (.int p2), .val (.int p3), .unset, .unset, .unset, .unset, .unset] [(.ref b1), (.ref b1)])
  refine Go.of (fun _ k => XS.bipush X39.here hx rfl (hb hby at_124) k) ?_
  show Go p e below W T39 (mkF m 126 #[.val (.int p1), .val (.int p2), .val (.int p3), .unset, .unset, .unset, .unset, .unset] [(.int (19 : Int32)), (.ref b1), (.ref b1)])
  refine Go.of (fun _ k => XS.sipush X39.here hx rfl (hb hby at_126) k) ?_
  show Go p e below W T39 (mkF m 129 #[.val (.int p1), .val (.int p2), .val (.int p3), .unset, .unset, .unset, .unset, .unset] [(.int (12271 : Int32)), (.int (19 : Int32)), (.ref b1), (.ref b1)])
  refine Go.ist X39 hx hZ e39 N g_b1 A_b1 ⟨by decide, by decide⟩ (hb hby at_129) ?_
  intro T41 h41 L41 X41 N e41 W41 A_b1
  have K := K.wr W41 (Or.inr s_b1)
  have Z0 := Nat.le_trans Z0 (Keep.of_wr W41).1
  have A_b1 : AI Z h41 b1 .int 28 (w0_42 p1 p2 p3) := A_b1
  show Go p e below W T41 (mkF m 130 #[.val (.int p1), .val (.int p2), .val (.int p3), .unset, .unset, .unset, .unset, .unset] [(.ref b1)])
  refine Go.of (fun _ k => XS.dup X41.here hx rfl (hb hby at_130) rfl rfl k) ?_
  show Go p e below W T41 (mkF m 131 #[.val (.int p1), .val (.int p2), .val (.int p3), .unset, .unset, .unset, .unset, .unset] [(.ref b1), (.ref b1)])
  refine Go.of (fun _ k => XS.bipush X41.here hx rfl (hb hby at_131) k) ?_
  show Go p e below W T41 (mkF m 133 #[.val (.int p1), .val (.int p2), .val (.int p3), .unset, .unset, .unset, .unset, .unset] [(.int (20 : Int32)), (.ref b1), (.ref b1)])
  refine Go.of (fun _ k => XS.sipush X41.here hx rfl (hb hby at_133) k) ?_
  show Go p e below W T41 (mkF m 136 #[.val (.int p1), .val (.int p2), .val (.int p3), .unset, .unset, .unset, .unset, .unset] [(.int (12289 : Int32)), (.int (20 : Int32)), (.ref b1), (.ref b1)])
  refine Go.ist X41 hx hZ e41 N g_b1 A_b1 ⟨by decide, by decide⟩ (hb hby at_136) ?_
  intro T43 h43 L43 X43 N e43 W43 A_b1
  have K := K.wr W43 (Or.inr s_b1)
  have Z0 := Nat.le_trans Z0 (Keep.of_wr W43).1
  have A_b1 : AI Z h43 b1 .int 28 (w0_44 p1 p2 p3) := A_b1
  show Go p e below W T43 (mkF m 137 #[.val (.int p1), .val (.int p2), .val (.int p3), .unset, .unset, .unset, .unset, .unset] [(.ref b1)])
  refine Go.of (fun _ k => XS.dup X43.here hx rfl (hb hby at_137) rfl rfl k) ?_
  show Go p e below W T43 (mkF m 138 #[.val (.int p1), .val (.int p2), .val (.int p3), .unset, .unset, .unset, .unset, .unset] [(.ref b1), (.ref b1)])
  refine Go.of (fun _ k => XS.bipush X43.here hx rfl (hb hby at_138) k) ?_
  show Go p e below W T43 (mkF m 140 #[.val (.int p1), .val (.int p2), .val (.int p3), .unset, .unset, .unset, .unset, .unset] [(.int (21 : Int32)), (.ref b1), (.ref b1)])
  refine Go.of (fun _ k => X43.ldcI hx hown (mvT hZ (hw _ (List.mem_of_getElem? (i := 1) rfl))) rfl (hb hby at_140) k) ?_
  show Go p e below W T43 (mkF m 142 #[.val (.int p1), .val (.int p2), .val (.int p3), .unset, .unset, .unset, .unset, .unset] [(.int (55295 : Int32)), (.int (21 : Int32)), (.ref b1), (.ref b1)])
  refine Go.ist X43 hx hZ e43 N g_b1 A_b1 ⟨by decide, by decide⟩ (hb hby at_142) ?_
  intro T45 h45 L45 X45 N e45 W45 A_b1
  have K := K.wr W45 (Or.inr s_b1)
  have Z0 := Nat.le_trans Z0 (Keep.of_wr W45).1
  have A_b1 : AI Z h45 b1 .int 28 (w0_46 p1 p2 p3) := A_b1
  show Go p e below W T45 (mkF m 143 #[.val (.int p1), .val (.int p2), .val (.int p3), .unset, .unset, .unset, .unset, .unset] [(.ref b1)])
  refine Go.of (fun _ k => XS.dup X45.here hx rfl (hb hby at_143) rfl rfl k) ?_
  show Go p e below W T45 (mkF m 144 #[.val (.int p1), .val (.int p2), .val (.int p3), .unset, .unset, .unset, .unset, .unset] [(.ref b1), (.ref b1)])
  refine Go.of (fun _ k => XS.bipush X45.here hx rfl (hb hby at_144) k) ?_
  show Go p e below W T45 (mkF m 146 #[.val (.int p1), .val (.int p2), .val (.int p3), .unset, .unset, .unset, .unset, .unset] [(.int (22 : Int32)), (.ref b1), (.ref b1)])
  refine Go.of (fun _ k => X45.ldcI hx hown (mvT hZ (hw _ (List.mem_of_getElem? (i := 2) rfl))) rfl (hb hby at_146) k) ?_
  show Go p e below W T45 (mkF m 148 #[.val (.int p1), .val (.int p2), .val (.int p3), .unset, .unset, .unset, .unset, .unset] [(.int (63744 : Int32)), (.int (22 : Int32)), (.ref b1), (.ref b1)])
  refine Go.ist X45 hx hZ e45 N g_b1 A_b1 ⟨by decide, by decide⟩ (hb hby at_148) ?_
  intro T47 h47 L47 X47 N e47 W47 A_b1
  have K := K.wr W47 (Or.inr s_b1)
  have Z0 := Nat.le_trans Z0 (Keep.of_wr W47).1
  have A_b1 : AI Z h47 b1 .int 28 (w0_48 p1 p2 p3) := A_b1
  show Go p e below W T47 (mkF m 149 #[.val (.int p1), .val (.int p2), .val (.int p3), .unset, .unset, .unset, .unset, .unset] [(.ref b1)])
  refine Go.of (fun _ k => XS.dup X47.here hx rfl (hb hby at_149) rfl rfl k) ?_
  show Go p e below W T47 (mkF m 150 #[.val (.int p1), .val (.int p2), .val (.int p3), .unset, .unset, .unset, .unset, .unset] [(.ref b1), (.ref b1)])
  refine Go.of (fun _ k => XS.bipush X47.here hx rfl (hb hby at_150) k) ?_
  show Go p e below W T47 (mkF m 152 #[.val (.int p1), .val (.int p2), .val (.int p3), .unset, .unset, .unset, .unset, .unset] [(.int (23 : Int32)), (.ref b1), (.ref b1)])
  refine Go.of (fun _ k => X47.ldcI hx hown (mvT hZ (hw _ (List.mem_of_getElem? (i := 3) rfl))) rfl (hb hby at_152) k) ?_
  show Go p e below W T47 (mkF m 154 #[.val (.int p1), .val (.int p2), .val (.int p3), .unset, .unset, .unset, .unset, .unset] [(.int (64975 : Int32)), (.int (23 : Int32)), (.ref b1), (.ref b1)])
  refine Go.ist X47 hx hZ e47 N g_b1 A_b1 ⟨by decide, by decide⟩ (hb hby at_154) ?_
  intro T49 h49 L49 X49 N e49 W49 A_b1
  have K := K.wr W49 (Or.inr s_b1)
  have Z0 := Nat.le_trans Z0 (Keep.of_wr W49).1
  have A_b1 : AI Z h49 b1 .int 28 (w0_50 p1 p2 p3) := A_b1
  show Go p e below W T49 (mkF m 155 #[.val (.int p1), .val (.int p2), .val (.int p3), .unset, .unset, .unset, .unset, .unset] [(.ref b1)])
  refine Go.of (fun _ k => XS.dup X49.here hx rfl (hb hby at_155) rfl rfl k) ?_
  show Go p e below W T49 (mkF m 156 #[.val (.int p1), .val (.int p2), .val (.int p3), .unset, .unset, .unset, .unset, .unset] [(.ref b1), (.ref b1)])
  refine Go.of (fun _ k => XS.bipush X49.here hx rfl (hb hby at_156) k) ?_
  show Go p e below W T49 (mkF m 158 #[.val (.int p1), .val (.int p2), .val (.int p3), .unset, .unset, .unset, .unset, .unset] [(.int (24 : Int32)), (.ref b1), (.ref b1)])
  refine Go.of (fun _ k => X49.ldcI hx hown (mvT hZ (hw _ (List.mem_of_getElem? (i := 4) rfl))) rfl (hb hby at_158) k) ?_
  show Go p e below W T49 (mkF m 160 #[.val (.int p1), .val (.int p2), .val (.int p3), .unset, .unset, .unset, .unset, .unset] [(.int (65008 : Int32)), (.int (24 : Int32)), (.ref b1), (.ref b1)])
  refine Go.ist X49 hx hZ e49 N g_b1 A_b1 ⟨by decide, by decide⟩ (hb hby at_160) ?_
  intro T51 h51 L51 X51 N e51 W51 A_b1
  have K := K.wr W51 (Or.inr s_b1)
  have Z0 := Nat.le_trans Z0 (Keep.of_wr W51).1
  have A_b1 : AI Z h51 b1 .int 28 (w0_52 p1 p2 p3) := A_b1
  show Go p e below W T51 (mkF m 161 #[.val (.int p1), .val (.int p2), .val (.int p3), .unset, .unset, .unset, .unset, .unset] [(.ref b1)])
  refine Go.of (fun _ k => XS.dup X51.here hx rfl (hb hby at_161) rfl rfl k) ?_
  show Go p e below W T51 (mkF m 162 #[.val (.int p1), .val (.int p2), .val (.int p3), .unset, .unset, .unset, .unset, .unset] [(.ref b1), (.ref b1)])
  refine Go.of (fun _ k => XS.bipush X51.here hx rfl (hb hby at_162) k) ?_
  show Go p e below W T51 (mkF m 164 #[.val (.int p1), .val (.int p2), .val (.int p3), .unset, .unset, .unset, .unset, .unset] [(.int (25 : Int32)), (.ref b1), (.ref b1)])
  refine Go.of (fun _ k => X51.ldcI hx hown (mvT hZ (hw _ (List.mem_of_getElem? (i := 5) rfl))) rfl (hb hby at_164) k) ?_
  show Go p e below W T51 (mkF m 166 #[.val (.int p1), .val (.int p2), .val (.int p3), .unset, .unset, .unset, .unset, .unset] [(.int (65533 : Int32)), (.int (25 : Int32)), (.ref b1), (.ref b1)])
  refine Go.ist X51 hx hZ e51 N g_b1 A_b1 ⟨by decide, by decide⟩ (hb hby at_166) ?_
  intro T53 h53 L53 X53 N e53 W53 A_b1
  have K := K.wr W53 (Or.inr s_b1)
  have Z0 := Nat.le_trans Z0 (Keep.of_wr W53).1
  have A_b1 : AI Z h53 b1 .int 28 (w0_54 p1 p2 p3) := A_b1
  show Go p e below W T53 (mkF m 167 #[.val (.int p1), .val (.int p2), .val (.int p3), .unset, .unset, .unset, .unset, .unset] [(.ref b1)])
  refine Go.of (fun _ k => XS.dup X53.here hx rfl (hb hby at_167) rfl rfl k) ?_
  show Go p e below W T53 (mkF m 168 #[.val (.int p1), .val (.int p2), .val (.int p3), .unset, .unset, .unset, .unset, .unset] [(.ref b1), (.ref b1)])
  refine Go.of (fun _ k => XS.bipush X53.here hx rfl (hb hby at_168) k) ?_
  show Go p e below W T53 (mkF m 170 #[.val (.int p1), .val (.int p2), .val (.int p3), .unset, .unset, .unset, .unset, .unset] [(.int (26 : Int32)), (.ref b1), (.ref b1)])
  refine Go.of (fun _ k => X53.ldcI hx hown (mvT hZ (hw _ (List.mem_of_getElem? (i := 6) rfl))) rfl (hb hby at_170) k) ?_
  show Go p e below W T53 (mkF m 172 #[.val (.int p1), .val (.int p2), .val (.int p3), .unset, .unset, .unset, .unset, .unset] [(.int (65536 : Int32)), (.int (26 : Int32)), (.ref b1), (.ref b1)])
  refine Go.ist X53 hx hZ e53 N g_b1 A_b1 ⟨by decide, by decide⟩ (hb hby at_172) ?_
  intro T55 h55 L55 X55 N e55 W55 A_b1
  have K := K.wr W55 (Or.inr s_b1)
  have Z0 := Nat.le_trans Z0 (Keep.of_wr W55).1
  have A_b1 : AI Z h55 b1 .int 28 (w0_56 p1 p2 p3) := A_b1
  show Go p e below W T55 (mkF m 173 #[.val (.int p1), .val (.int p2), .val (.int p3), .unset, .unset, .unset, .unset, .unset] [(.ref b1)])
  refine Go.of (fun _ k => XS.dup X55.here hx rfl (hb hby at_173) rfl rfl k) ?_
  show Go p e below W T55 (mkF m 174 #[.val (.int p1), .val (.int p2), .val (.int p3), .unset, .unset, .unset, .unset, .unset] [(.ref b1), (.ref b1)])
  refine Go.of (fun _ k => XS.bipush X55.here hx rfl (hb hby at_174) k) ?_
  show Go p e below W T55 (mkF m 176 #[.val (.int p1), .val (.int p2), .val (.int p3), .unset, .unset, .unset, .unset, .unset] [(.int (27 : Int32)), (.ref b1), (.ref b1)])
  refine Go.of (fun _ k => X55.ldcI hx hown (mvT hZ (hw _ (List.mem_of_getElem? (i := 7) rfl))) rfl (hb hby at_176) k) ?_
  show Go p e below W T55 (mkF m 178 #[.val (.int p1), .val (.int p2), .val (.int p3), .unset, .unset, .unset, .unset, .unset] [(.int (983039 : Int32)), (.int (27 : Int32)), (.ref b1), (.ref b1)])
  refine Go.ist X55 hx hZ e55 N g_b1 A_b1 ⟨by decide, by decide⟩ (hb hby at_178) ?_
  intro T57 h57 L57 X57 N e57 W57 A_b1
  have K := K.wr W57 (Or.inr s_b1)
  have Z0 := Nat.le_trans Z0 (Keep.of_wr W57).1
  have A_b1 : AI Z h57 b1 .int 28 (w0_58 p1 p2 p3) := A_b1
  show Go p e below W T57 (mkF m 179 #[.val (.int p1), .val (.int p2), .val (.int p3), .unset, .unset, .unset, .unset, .unset] [(.ref b1)])
  refine Go.of (fun _ k => XS.astoreN X57.here hx rfl (hb hby at_179) rfl rfl (l' := #[.val (.int p1), .val (.int p2), .val (.int p3), .val (.ref b1), .unset, .unset, .unset, .unset]) rfl k) ?_
  show Go p e below W T57 (mkF m 180 #[.val (.int p1), .val (.int p2), .val (.int p3), .val (.ref b1), .unset, .unset, .unset, .unset] [])
  refine Go.of (fun _ k => XS.aloadN X57.here hx rfl (hb hby at_180) rfl rfl k) ?_
  show Go p e below W T57 (mkF m 181 #[.val (.int p1), .val (.int p2), .val (.int p3), .val (.ref b1), .unset, .unset, .unset, .unset] [(.ref b1)])
  refine Go.of (fun _ k => XS.iloadN X57.here hx rfl (hb hby at_181) rfl k) ?_
  show Go p e below W T57 (mkF m 182 #[.val (.int p1), .val (.int p2), .val (.int p3), .val (.ref b1), .unset, .unset, .unset, .unset] [(.int p2), (.ref b1)])
  refine Go.of (fun _ k => X57.ldcI hx hown (mvT hZ (hw _ (List.mem_of_getElem? (i := 8) rfl))) rfl (hb hby at_182) k) ?_
  show Go p e below W T57 (mkF m 184 #[.val (.int p1), .val (.int p2), .val (.int p3), .val (.ref b1), .unset, .unset, .unset, .unset] [(.int (2147483647 : Int32)), (.int p2), (.ref b1)])
  refine Go.of (fun _ k => XS.iand X57.here hx rfl (hb hby at_184) rfl k) ?_
  show Go p e below W T57 (mkF m 185 #[.val (.int p1), .val (.int p2), .val (.int p3), .val (.ref b1), .unset, .unset, .unset, .unset] [(.int (p2 &&& (2147483647 : Int32))), (.ref b1)])
  refine Go.of (fun _ k => XS.aloadN X57.here hx rfl (hb hby at_185) rfl rfl k) ?_
  show Go p e below W T57 (mkF m 186 #[.val (.int p1), .val (.int p2), .val (.int p3), .val (.ref b1), .unset, .unset, .unset, .unset] [(.ref b1), (.int (p2 &&& (2147483647 : Int32))), (.ref b1)])
  refine Go.alen X57 hx hZ e57 A_b1 (hb hby at_186) ?_
  show Go p e below W T57 (mkF m 187 #[.val (.int p1), .val (.int p2), .val (.int p3), .val (.ref b1), .unset, .unset, .unset, .unset] [(.int (28 : Int32)), (.int (p2 &&& (2147483647 : Int32))), (.ref b1)])
  refine Go.of (fun _ k => iremM X57 hx rfl (hb hby at_187) rfl (by decide) k) ?_
  show Go p e below W T57 (mkF m 188 #[.val (.int p1), .val (.int p2), .val (.int p3), .val (.ref b1), .unset, .unset, .unset, .unset] [(.int ((p2 &&& (2147483647 : Int32)) % (28 : Int32))), (.ref b1)])
  refine Go.iald X57 hx hZ e57 A_b1 (own_inb p1 p2 p3) (hb hby at_188) ?_
  show Go p e below W T57 (mkF m 189 #[.val (.int p1), .val (.int p2), .val (.int p3), .val (.ref b1), .unset, .unset, .unset, .unset] [(.int (w0_58 p1 p2 p3 ((p2 &&& (2147483647 : Int32)) % (28 : Int32)).toNatClampNeg))])
  refine Go.of (fun _ k => XS.istore X57.here hx rfl (hb hby at_189) rfl (l' := #[.val (.int p1), .val (.int p2), .val (.int p3), .val (.ref b1), .val (.int (v0_59 p1 p2 p3)), .unset, .unset, .unset]) rfl k) ?_
  show Go p e below W T57 (mkF m 191 #[.val (.int p1), .val (.int p2), .val (.int p3), .val (.ref b1), .val (.int (v0_59 p1 p2 p3)), .unset, .unset, .unset] [])
  refine Go.of (fun _ k => XS.iload X57.here hx rfl (hb hby at_191) rfl k) ?_
  show Go p e below W T57 (mkF m 193 #[.val (.int p1), .val (.int p2), .val (.int p3), .val (.ref b1), .val (.int (v0_59 p1 p2 p3)), .unset, .unset, .unset] [(.int (v0_59 p1 p2 p3))])
  refine Go.of (fun _ k => XS.iloadN X57.here hx rfl (hb hby at_193) rfl k) ?_
  show Go p e below W T57 (mkF m 194 #[.val (.int p1), .val (.int p2), .val (.int p3), .val (.ref b1), .val (.int (v0_59 p1 p2 p3)), .unset, .unset, .unset] [(.int p3), (.int (v0_59 p1 p2 p3))])
  refine Go.of (fun _ k => XS.iconst X57.here hx rfl (hb hby at_194) k) ?_
  show Go p e below W T57 (mkF m 195 #[.val (.int p1), .val (.int p2), .val (.int p3), .val (.ref b1), .val (.int (v0_59 p1 p2 p3)), .unset, .unset, .unset] [(.int (3 : Int32)), (.int p3), (.int (v0_59 p1 p2 p3))])
  refine Go.of (fun _ k => XS.iand X57.here hx rfl (hb hby at_195) rfl k) ?_
  show Go p e below W T57 (mkF m 196 #[.val (.int p1), .val (.int p2), .val (.int p3), .val (.ref b1), .val (.int (v0_59 p1 p2 p3)), .unset, .unset, .unset] [(.int (p3 &&& (3 : Int32))), (.int (v0_59 p1 p2 p3))])
  refine Go.of (fun _ k => XS.iconst X57.here hx rfl (hb hby at_196) k) ?_
  show Go p e below W T57 (mkF m 197 #[.val (.int p1), .val (.int p2), .val (.int p3), .val (.ref b1), .val (.int (v0_59 p1 p2 p3)), .unset, .unset, .unset] [(.int (1 : Int32)), (.int (p3 &&& (3 : Int32))), (.int (v0_59 p1 p2 p3))])
  refine Go.of (fun _ k => XS.isub X57.here hx rfl (hb hby at_197) rfl k) ?_
  show Go p e below W T57 (mkF m 198 #[.val (.int p1), .val (.int p2), .val (.int p3), .val (.ref b1), .val (.int (v0_59 p1 p2 p3)), .unset, .unset, .unset] [(.int ((p3 &&& (3 : Int32)) - (1 : Int32))), (.int (v0_59 p1 p2 p3))])
  refine Go.of (fun _ k => XS.iadd X57.here hx rfl (hb hby at_198) rfl k) ?_
  show Go p e below W T57 (mkF m 199 #[.val (.int p1), .val (.int p2), .val (.int p3), .val (.ref b1), .val (.int (v0_59 p1 p2 p3)), .unset, .unset, .unset] [(.int ((v0_59 p1 p2 p3) + ((p3 &&& (3 : Int32)) - (1 : Int32))))])
  refine Go.of (fun _ k => XS.istore X57.here hx rfl (hb hby at_199) rfl (l' := #[.val (.int p1), .val (.int p2), .val (.int p3), .val (.ref b1), .val (.int (v0_59 p1 p2 p3)), .val (.int (v0_60 p1 p2 p3)), .unset, .unset]) rfl k) ?_
  show Go p e below W T57 (mkF m 201 #[.val (.int p1), .val (.int p2), .val (.int p3), .val (.ref b1), .val (.int (v0_59 p1 p2 p3)), .val (.int (v0_60 p1 p2 p3)), .unset, .unset] [])
  refine Go.of (fun _ k => XS.iloadN X57.here hx rfl (hb hby at_201) rfl k) ?_
  show Go p e below W T57 (mkF m 202 #[.val (.int p1), .val (.int p2), .val (.int p3), .val (.ref b1), .val (.int (v0_59 p1 p2 p3)), .val (.int (v0_60 p1 p2 p3)), .unset, .unset] [(.int p1)])
  refine Go.callP X57 hx hZ hown (hw _ (List.mem_of_getElem? (i := 9) rfl)) (hw _ (List.mem_of_getElem? (i := 10) rfl)) (hw _ (List.mem_of_getElem? (i := 11) rfl)) (hw _ (List.mem_of_getElem? (i := 12) rfl)) (by decide) e57 (rm1 l Z a0 hw [] p1 h57) (V := 0) (by decide) (by decide) rfl rfl (by decide) (by decide) (by rw [hml]; rfl) (argsL := [(.int p1)]) (rest := []) rfl (lenOf pd__I_Z rfl) rfl (Nat.le_of_ble_eq_true rfl) (hb hby at_202) ?_
  intro T61 X61 e61
  show Go p e below W T61 (mkF m 205 #[.val (.int p1), .val (.int p2), .val (.int p3), .val (.ref b1), .val (.int (v0_59 p1 p2 p3)), .val (.int (v0_60 p1 p2 p3)), .unset, .unset] [(.int (f1 p1))])
  refine Go.of (fun _ k => XS.iloadN X61.here hx rfl (hb hby at_205) rfl k) ?_
  show Go p e below W T61 (mkF m 206 #[.val (.int p1), .val (.int p2), .val (.int p3), .val (.ref b1), .val (.int (v0_59 p1 p2 p3)), .val (.int (v0_60 p1 p2 p3)), .unset, .unset] [(.int p1), (.int (f1 p1))])
  refine Go.callP X61 hx hZ hown (hw _ (List.mem_of_getElem? (i := 16) rfl)) (hw _ (List.mem_of_getElem? (i := 17) rfl)) (hw _ (List.mem_of_getElem? (i := 18) rfl)) (hw _ (List.mem_of_getElem? (i := 19) rfl)) (by decide) e61 (rm2 l Z a0 hw [] p1 h57) (V := 1) (by decide) (by decide) rfl rfl (by decide) (by decide) (by rw [hml]; rfl) (argsL := [(.int p1)]) (rest := [(.int (f1 p1))]) rfl (lenOf pd__I_Z rfl) rfl (Nat.le_of_ble_eq_true rfl) (hb hby at_206) ?_
  intro T62 X62 e62
  show Go p e below W T62 (mkF m 209 #[.val (.int p1), .val (.int p2), .val (.int p3), .val (.ref b1), .val (.int (v0_59 p1 p2 p3)), .val (.int (v0_60 p1 p2 p3)), .unset, .unset] [(.int (f2 p1)), (.int (f1 p1))])
  suffices G64 : ∀ T', Stand p l e room_1 s m #[(.int p1), (.int p2), (.int p3)] below meth c T' L57 1 28 → T'.heap = h57 → Go p e below W T' (mkF m 217 #[.val (.int p1), .val (.int p2), .val (.int p3), .val (.ref b1), .val (.int (v0_59 p1 p2 p3)), .val (.int (v0_60 p1 p2 p3)), .unset, .unset] [(.int (v0_65 p1 p2 p3))]) by
    by_cases c63 : (f1 p1) = (f2 p1)
    · refine Go.of (fun _ k => XS.icmpNo X62.here hx rfl (hb hby at_209) rfl (Jvm.Free.XT.ii_ne_f c63) k) ?_
      show Go p e below W T62 (mkF m 212 #[.val (.int p1), .val (.int p2), .val (.int p3), .val (.ref b1), .val (.int (v0_59 p1 p2 p3)), .val (.int (v0_60 p1 p2 p3)), .unset, .unset] [])
      refine Go.of (fun _ k => XS.iconst X62.here hx rfl (hb hby at_212) k) ?_
      show Go p e below W T62 (mkF m 213 #[.val (.int p1), .val (.int p2), .val (.int p3), .val (.ref b1), .val (.int (v0_59 p1 p2 p3)), .val (.int (v0_60 p1 p2 p3)), .unset, .unset] [(.int (1 : Int32))])
      refine Go.of (fun _ k => XS.goto X62.here hx rfl (pc0 := 213) (pc' := 217) rfl (hb hby at_213) (by decide) (by decide) k) ?_
      have G64 := G64
      have q_v0_65 : (v0_65 p1 p2 p3) = (1 : Int32) := by rw [v0_65, if_pos c63]
      rw [q_v0_65] at G64
      exact G64 _ X62 e62
    · refine Go.of (fun _ k => XS.icmpYes X62.here hx rfl (pc0 := 209) (pc' := 216) rfl (hb hby at_209) rfl (Jvm.Free.XT.ii_ne_t c63) (by decide) (by decide) k) ?_
      show Go p e below W T62 (mkF m 216 #[.val (.int p1), .val (.int p2), .val (.int p3), .val (.ref b1), .val (.int (v0_59 p1 p2 p3)), .val (.int (v0_60 p1 p2 p3)), .unset, .unset] [])
      refine Go.of (fun _ k => XS.iconst X62.here hx rfl (hb hby at_216) k) ?_
      have G64 := G64
      have q_v0_65 : (v0_65 p1 p2 p3) = (0 : Int32) := by rw [v0_65, if_neg c63]
      rw [q_v0_65] at G64
      exact G64 _ X62 e62
  intro T64 X64 e64
  show Go p e below W T64 (mkF m 217 #[.val (.int p1), .val (.int p2), .val (.int p3), .val (.ref b1), .val (.int (v0_59 p1 p2 p3)), .val (.int (v0_60 p1 p2 p3)), .unset, .unset] [(.int (v0_65 p1 p2 p3))])
  refine Go.of (fun _ k => XS.istore X64.here hx rfl (hb hby at_217) rfl (l' := #[.val (.int p1), .val (.int p2), .val (.int p3), .val (.ref b1), .val (.int (v0_59 p1 p2 p3)), .val (.int (v0_60 p1 p2 p3)), .val (.int (v0_65 p1 p2 p3)), .unset]) rfl k) ?_
  show Go p e below W T64 (mkF m 219 #[.val (.int p1), .val (.int p2), .val (.int p3), .val (.ref b1), .val (.int (v0_59 p1 p2 p3)), .val (.int (v0_60 p1 p2 p3)), .val (.int (v0_65 p1 p2 p3)), .unset] [])
  refine Go.of (fun _ k => XS.iload X64.here hx rfl (hb hby at_219) rfl k) ?_
  show Go p e below W T64 (mkF m 221 #[.val (.int p1), .val (.int p2), .val (.int p3), .val (.ref b1), .val (.int (v0_59 p1 p2 p3)), .val (.int (v0_60 p1 p2 p3)), .val (.int (v0_65 p1 p2 p3)), .unset] [(.int (v0_60 p1 p2 p3))])
  refine Go.callP X64 hx hZ hown (hw _ (List.mem_of_getElem? (i := 9) rfl)) (hw _ (List.mem_of_getElem? (i := 10) rfl)) (hw _ (List.mem_of_getElem? (i := 11) rfl)) (hw _ (List.mem_of_getElem? (i := 12) rfl)) (by decide) e64 (rm1 l Z a0 hw [] (v0_60 p1 p2 p3) h57) (V := 0) (by decide) (by decide) rfl rfl (by decide) (by decide) (by rw [hml]; rfl) (argsL := [(.int (v0_60 p1 p2 p3))]) (rest := []) rfl (lenOf pd__I_Z rfl) rfl (Nat.le_of_ble_eq_true rfl) (hb hby at_221) ?_
  intro T66 X66 e66
  show Go p e below W T66 (mkF m 224 #[.val (.int p1), .val (.int p2), .val (.int p3), .val (.ref b1), .val (.int (v0_59 p1 p2 p3)), .val (.int (v0_60 p1 p2 p3)), .val (.int (v0_65 p1 p2 p3)), .unset] [(.int (f1 (v0_60 p1 p2 p3)))])
  refine Go.of (fun _ k => XS.iload X66.here hx rfl (hb hby at_224) rfl k) ?_
  show Go p e below W T66 (mkF m 226 #[.val (.int p1), .val (.int p2), .val (.int p3), .val (.ref b1), .val (.int (v0_59 p1 p2 p3)), .val (.int (v0_60 p1 p2 p3)), .val (.int (v0_65 p1 p2 p3)), .unset] [(.int (v0_60 p1 p2 p3)), (.int (f1 (v0_60 p1 p2 p3)))])
  refine Go.callP X66 hx hZ hown (hw _ (List.mem_of_getElem? (i := 16) rfl)) (hw _ (List.mem_of_getElem? (i := 17) rfl)) (hw _ (List.mem_of_getElem? (i := 18) rfl)) (hw _ (List.mem_of_getElem? (i := 19) rfl)) (by decide) e66 (rm2 l Z a0 hw [] (v0_60 p1 p2 p3) h57) (V := 1) (by decide) (by decide) rfl rfl (by decide) (by decide) (by rw [hml]; rfl) (argsL := [(.int (v0_60 p1 p2 p3))]) (rest := [(.int (f1 (v0_60 p1 p2 p3)))]) rfl (lenOf pd__I_Z rfl) rfl (Nat.le_of_ble_eq_true rfl) (hb hby at_226) ?_
  intro T67 X67 e67
  show Go p e below W T67 (mkF m 229 #[.val (.int p1), .val (.int p2), .val (.int p3), .val (.ref b1), .val (.int (v0_59 p1 p2 p3)), .val (.int (v0_60 p1 p2 p3)), .val (.int (v0_65 p1 p2 p3)), .unset] [(.int (f2 (v0_60 p1 p2 p3))), (.int (f1 (v0_60 p1 p2 p3)))])
  suffices G69 : ∀ T', Stand p l e room_1 s m #[(.int p1), (.int p2), (.int p3)] below meth c T' L57 1 28 → T'.heap = h57 → Go p e below W T' (mkF m 237 #[.val (.int p1), .val (.int p2), .val (.int p3), .val (.ref b1), .val (.int (v0_59 p1 p2 p3)), .val (.int (v0_60 p1 p2 p3)), .val (.int (v0_65 p1 p2 p3)), .unset] [(.int (v0_70 p1 p2 p3))]) by
    by_cases c68 : (f1 (v0_60 p1 p2 p3)) = (f2 (v0_60 p1 p2 p3))
    · refine Go.of (fun _ k => XS.icmpNo X67.here hx rfl (hb hby at_229) rfl (Jvm.Free.XT.ii_ne_f c68) k) ?_
      show Go p e below W T67 (mkF m 232 #[.val (.int p1), .val (.int p2), .val (.int p3), .val (.ref b1), .val (.int (v0_59 p1 p2 p3)), .val (.int (v0_60 p1 p2 p3)), .val (.int (v0_65 p1 p2 p3)), .unset] [])
      refine Go.of (fun _ k => XS.iconst X67.here hx rfl (hb hby at_232) k) ?_
      show Go p e below W T67 (mkF m 233 #[.val (.int p1), .val (.int p2), .val (.int p3), .val (.ref b1), .val (.int (v0_59 p1 p2 p3)), .val (.int (v0_60 p1 p2 p3)), .val (.int (v0_65 p1 p2 p3)), .unset] [(.int (1 : Int32))])
      refine Go.of (fun _ k => XS.goto X67.here hx rfl (pc0 := 233) (pc' := 237) rfl (hb hby at_233) (by decide) (by decide) k) ?_
      have G69 := G69
      have q_v0_70 : (v0_70 p1 p2 p3) = (1 : Int32) := by rw [v0_70, if_pos c68]
      rw [q_v0_70] at G69
      exact G69 _ X67 e67
    · refine Go.of (fun _ k => XS.icmpYes X67.here hx rfl (pc0 := 229) (pc' := 236) rfl (hb hby at_229) rfl (Jvm.Free.XT.ii_ne_t c68) (by decide) (by decide) k) ?_
      show Go p e below W T67 (mkF m 236 #[.val (.int p1), .val (.int p2), .val (.int p3), .val (.ref b1), .val (.int (v0_59 p1 p2 p3)), .val (.int (v0_60 p1 p2 p3)), .val (.int (v0_65 p1 p2 p3)), .unset] [])
      refine Go.of (fun _ k => XS.iconst X67.here hx rfl (hb hby at_236) k) ?_
      have G69 := G69
      have q_v0_70 : (v0_70 p1 p2 p3) = (0 : Int32) := by rw [v0_70, if_neg c68]
      rw [q_v0_70] at G69
      exact G69 _ X67 e67
  intro T69 X69 e69
  show Go p e below W T69 (mkF m 237 #[.val (.int p1), .val (.int p2), .val (.int p3), .val (.ref b1), .val (.int (v0_59 p1 p2 p3)), .val (.int (v0_60 p1 p2 p3)), .val (.int (v0_65 p1 p2 p3)), .unset] [(.int (v0_70 p1 p2 p3))])
  refine Go.of (fun _ k => XS.istore X69.here hx rfl (hb hby at_237) rfl (l' := #[.val (.int p1), .val (.int p2), .val (.int p3), .val (.ref b1), .val (.int (v0_59 p1 p2 p3)), .val (.int (v0_60 p1 p2 p3)), .val (.int (v0_65 p1 p2 p3)), .val (.int (v0_70 p1 p2 p3))]) rfl k) ?_
  show Go p e below W T69 (mkF m 239 #[.val (.int p1), .val (.int p2), .val (.int p3), .val (.ref b1), .val (.int (v0_59 p1 p2 p3)), .val (.int (v0_60 p1 p2 p3)), .val (.int (v0_65 p1 p2 p3)), .val (.int (v0_70 p1 p2 p3))] [])
  refine Go.of (fun _ k => XS.iload X69.here hx rfl (hb hby at_239) rfl k) ?_
  show Go p e below W T69 (mkF m 241 #[.val (.int p1), .val (.int p2), .val (.int p3), .val (.ref b1), .val (.int (v0_59 p1 p2 p3)), .val (.int (v0_60 p1 p2 p3)), .val (.int (v0_65 p1 p2 p3)), .val (.int (v0_70 p1 p2 p3))] [(.int (v0_65 p1 p2 p3))])
  by_cases c71 : (v0_65 p1 p2 p3) = (0 : Int32)
  · refine Go.of (fun _ k => XS.ifYes X69.here hx rfl (pc0 := 241) (pc' := 253) rfl (hb hby at_241) rfl (Jvm.Free.XT.i0_eq_t c71) (by decide) (by decide) k) ?_
    show Go p e below W T69 (mkF m 253 #[.val (.int p1), .val (.int p2), .val (.int p3), .val (.ref b1), .val (.int (v0_59 p1 p2 p3)), .val (.int (v0_60 p1 p2 p3)), .val (.int (v0_65 p1 p2 p3)), .val (.int (v0_70 p1 p2 p3))] [])
    refine Go.of (fun _ k => XS.iconst X69.here hx rfl (hb hby at_253) k) ?_
    show Go p e below W T69 (mkF m 254 #[.val (.int p1), .val (.int p2), .val (.int p3), .val (.ref b1), .val (.int (v0_59 p1 p2 p3)), .val (.int (v0_60 p1 p2 p3)), .val (.int (v0_65 p1 p2 p3)), .val (.int (v0_70 p1 p2 p3))] [(.int (0 : Int32))])
    have u_f0 : (f0 p1 p2 p3) = (0 : Int32) := by rw [f0, if_pos c71]
    have fin : Q0 Z p1 p2 p3 h0 n0 (some (.int (f0 p1 p2 p3))) h57 L57 := ⟨rfl, N, K⟩
    exact Go.retN X69 hx hret (Or.inl rfl) (hb hby at_254) hlk (Eq.trans rfl u_f0.symm) (fun t ht fe => hW t _ _ _ _ (by rw [ht, e69]; exact fin) fe (by decide) (by decide))
  · refine Go.of (fun _ k => XS.ifNo X69.here hx rfl (hb hby at_241) rfl (Jvm.Free.XT.i0_eq_f c71) k) ?_
    show Go p e below W T69 (mkF m 244 #[.val (.int p1), .val (.int p2), .val (.int p3), .val (.ref b1), .val (.int (v0_59 p1 p2 p3)), .val (.int (v0_60 p1 p2 p3)), .val (.int (v0_65 p1 p2 p3)), .val (.int (v0_70 p1 p2 p3))] [])
    refine Go.of (fun _ k => XS.iload X69.here hx rfl (hb hby at_244) rfl k) ?_
    show Go p e below W T69 (mkF m 246 #[.val (.int p1), .val (.int p2), .val (.int p3), .val (.ref b1), .val (.int (v0_59 p1 p2 p3)), .val (.int (v0_60 p1 p2 p3)), .val (.int (v0_65 p1 p2 p3)), .val (.int (v0_70 p1 p2 p3))] [(.int (v0_70 p1 p2 p3))])
    by_cases c72 : (v0_70 p1 p2 p3) = (0 : Int32)
    · refine Go.of (fun _ k => XS.ifYes X69.here hx rfl (pc0 := 246) (pc' := 253) rfl (hb hby at_246) rfl (Jvm.Free.XT.i0_eq_t c72) (by decide) (by decide) k) ?_
      show Go p e below W T69 (mkF m 253 #[.val (.int p1), .val (.int p2), .val (.int p3), .val (.ref b1), .val (.int (v0_59 p1 p2 p3)), .val (.int (v0_60 p1 p2 p3)), .val (.int (v0_65 p1 p2 p3)), .val (.int (v0_70 p1 p2 p3))] [])
      refine Go.of (fun _ k => XS.iconst X69.here hx rfl (hb hby at_253) k) ?_
      show Go p e below W T69 (mkF m 254 #[.val (.int p1), .val (.int p2), .val (.int p3), .val (.ref b1), .val (.int (v0_59 p1 p2 p3)), .val (.int (v0_60 p1 p2 p3)), .val (.int (v0_65 p1 p2 p3)), .val (.int (v0_70 p1 p2 p3))] [(.int (0 : Int32))])
      have u_f0 : (f0 p1 p2 p3) = (0 : Int32) := by rw [f0, if_neg c71, if_pos c72]
      have fin : Q0 Z p1 p2 p3 h0 n0 (some (.int (f0 p1 p2 p3))) h57 L57 := ⟨rfl, N, K⟩
      exact Go.retN X69 hx hret (Or.inl rfl) (hb hby at_254) hlk (Eq.trans rfl u_f0.symm) (fun t ht fe => hW t _ _ _ _ (by rw [ht, e69]; exact fin) fe (by decide) (by decide))
    · refine Go.of (fun _ k => XS.ifNo X69.here hx rfl (hb hby at_246) rfl (Jvm.Free.XT.i0_eq_f c72) k) ?_
      show Go p e below W T69 (mkF m 249 #[.val (.int p1), .val (.int p2), .val (.int p3), .val (.ref b1), .val (.int (v0_59 p1 p2 p3)), .val (.int (v0_60 p1 p2 p3)), .val (.int (v0_65 p1 p2 p3)), .val (.int (v0_70 p1 p2 p3))] [])
      refine Go.of (fun _ k => XS.iconst X69.here hx rfl (hb hby at_249) k) ?_
      show Go p e below W T69 (mkF m 250 #[.val (.int p1), .val (.int p2), .val (.int p3), .val (.ref b1), .val (.int (v0_59 p1 p2 p3)), .val (.int (v0_60 p1 p2 p3)), .val (.int (v0_65 p1 p2 p3)), .val (.int (v0_70 p1 p2 p3))] [(.int (1 : Int32))])
      refine Go.of (fun _ k => XS.goto X69.here hx rfl (pc0 := 250) (pc' := 254) rfl (hb hby at_250) (by decide) (by decide) k) ?_
      show Go p e below W T69 (mkF m 254 #[.val (.int p1), .val (.int p2), .val (.int p3), .val (.ref b1), .val (.int (v0_59 p1 p2 p3)), .val (.int (v0_60 p1 p2 p3)), .val (.int (v0_65 p1 p2 p3)), .val (.int (v0_70 p1 p2 p3))] [(.int (1 : Int32))])
      have u_f0 : (f0 p1 p2 p3) = (1 : Int32) := by rw [f0, if_neg c71, if_neg c72]
      have fin : Q0 Z p1 p2 p3 h0 n0 (some (.int (f0 p1 p2 p3))) h57 L57 := ⟨rfl, N, K⟩
      exact Go.retN X69 hx hret (Or.inl rfl) (hb hby at_254) hlk (Eq.trans rfl u_f0.symm) (fun t ht fe => hW t _ _ _ _ (by rw [ht, e69]; exact fin) fe (by decide) (by decide))
set_option maxRecDepth 65536 in
set_option maxHeartbeats 40000000 in
theorem comes_1 {Post : Tables → Env → Array Value → State → Outcome → State → Prop} (hpost : ∀ tb e args s v u, (limb_1_1.after args s (.returned v) u = true ∧ limb_1_2.after args s (.returned v) u = true ∧ True) → FrameEnd s (.returned v) u (Jvm.fieldLocs frame_1_writes args s ++ Jvm.arrayLocs frame_1_arrays args s ++ Jvm.staticLocs frame_1_statics s) 16 128 → Post tb e args s (.returned v) u) :
    ArmFor flags0 classFile x code maxLocals ret World_1 tables_1 room_1 Calls_1 rest_1 Pre_1 Post := by
  intro l hfl _ _ p e ha hc hk s m args below hf hA hF happ hP
  obtain ⟨hcalls, hrest, hpre⟩ := hP
  obtain ⟨-, -, -, hnamed, -, -, -, hat⟩ := (Spec.applies_iff hf).mp happ
  obtain ⟨hg, hn⟩ := and_e (Cond.before_iff.mp (show (Jvm.Cond.and given_1 narrow_1).before args s = true from hpre))
  obtain ⟨g0, y0⟩ := and_e hg
  obtain ⟨x0, y1⟩ := and_e y0
  obtain ⟨x1, y2⟩ := and_e y1
  obtain ⟨w0, w1, w2, rfl⟩ : ∃ w0 w1 w2 : Value, args = #[w0, w1, w2] := by
    have hs : args.size = 3 := by simpa [Cond.value, given_1] using g0
    obtain ⟨L⟩ := args
    match L, hs with
    | [w0, w1, w2], _ => exact ⟨w0, w1, w2, rfl⟩
  have hw := fun d (hd : d ∈ tables_1) => atoms_spec (ws := Jvm.Cond.code x code maxLocals ret :: tables_1) hat d (List.mem_cons_of_mem _ hd)
  obtain ⟨i0, ei0⟩ := is_v x0
  obtain rfl : w0 = (.int i0) := Option.some.inj ei0
  obtain ⟨i1, ei1⟩ := is_v x1
  obtain rfl : w1 = (.int i1) := Option.some.inj ei1
  obtain ⟨i2, ei2⟩ := is_v y2
  obtain rfl : w2 = (.int i2) := Option.some.inj ei2
  obtain ⟨n, o, h1, h2, h3, _, L, rfl, ⟨rfl, N, -⟩, hq⟩ := rm0 l s _ hw tables_1 i0 i1 i2 s.heap s.heap.size (Nat.le_refl _) p e ha hc hk s m _ below hf ((Spec.applies_iff_loose hf).mp happ).1 ⟨rfl, State.Warmed39.refl s, rfl⟩ trivial
  rw [own_law i0 i1 i2] at h3 hq
  refine ⟨n, _, h1, h2, h3, hpost _ _ _ _ _ _ ⟨Cond.after_iff.mpr rfl, Cond.after_iff.mpr (eq_i res_at (Term.int_eval (1)) rfl), trivial⟩ ⟨hq.1, hq.2.1, (hq.2.2.sift fun y hy => Or.inr (N y hy)).mono (by decide) (by decide)⟩⟩
theorem main_1_1 : Claimed_1_1 := comes_1 fun _ _ _ _ _ _ h hF => ⟨h.1, hF⟩
theorem main_1_2 : Claimed_1_2 := comes_1 fun _ _ _ _ _ _ h hF => ⟨h.2.1, hF⟩
end Jvm.Pilot.@@N@@
namespace Jvm.Pilot.@@N@@
open Jvm Jvm.ClassFile Sem Op Lib Jvm.Free Jvm.Stand Jvm.Pilot.@@N@@.Jvm.D
/-! MADE BY PROGRAM (witnessworld.py) out of the Statement's table words and the real class files: 11 classes; the members and pool entries that the words name. The judged class is class 1, her method 1. -/
namespace start1
open Jvm.ClassFile
def u (s : String) : CpInfo := .utf8 (stringToUtf16 s)
/-- a pool by its gaps: so many unusable entries, then the entry; so many at the end -/
def gap : Nat → List CpInfo → List CpInfo
  | 0, r => r
  | n + 1, r => .unusable :: gap n r
def poolList (es : List (Nat × CpInfo)) (last : Nat) : List CpInfo := es.foldr (fun e r => gap e.1 (e.2 :: r)) (gap last [])
def pool (es : List (Nat × CpInfo)) (last : Nat) : Array CpInfo := ⟨poolList es last⟩
def fileOf (pool : Array CpInfo) (this : Nat) (attrs : Array Attribute := #[]) (ms : Array MethodInfo := #[]) (fl : Nat := 33) (sup : Nat := 0) (ifs : Array Nat := #[]) (fds : Array FieldInfo := #[]) : ClassFile where
  minorVersion := 0
  majorVersion := 65
  constantPool := pool
  accessFlags := fl
  thisClass := this
  superClass := sup
  interfaces := ifs
  fields := fds
  methods := ms
  attributes := attrs
def plain (name : String) (sup : Option ClassId) : Class where
  name := name
  kind := .ordinary
  loader := none
  accessFlags := 33
  super := sup
  interfaces := #[]
  cf := none
  fields := #[]
  methods := #[]
  instanceTypes := #[]
  staticTypes := #[]
  resolved := #[]
  callSites := []
  init := .initialized
  statics := none
  mirror := none

def pool0 : Array CpInfo := pool [(5, u "<init>"), (0, u "()V"), (1, .class_ 10), (1, u "java/lang/Object")] 113

def k0m0 : Method := { name := "<init>", desc := "()V", sig := { parameters := [], returnType := none }, accessFlags := 1, code := none }
/-- java/lang/Object -/
def k0 : Class := { plain "java/lang/Object" none with
  accessFlags := 33
  interfaces := #[]
  cf := some (fileOf pool0 8 #[] #[{ accessFlags := 1, nameIndex := 5, descriptorIndex := 6, attributes := #[] }] 33 0 #[] #[])
  fields := #[]
  methods := #[k0m0]
  instanceTypes := #[]
  staticTypes := #[]
  resolved := Array.replicate 124 none
  statics := none }

def pool1 : Array CpInfo := pool [(2, .class_ 4), (1, u "java/lang/Object"), (0, u "<init>"), (0, u "()V"), (0, .integer 55295), (0, .integer 63744), (0, .integer 64975), (0, .integer 65008), (0, .integer 65533), (0, .integer 65536), (0, .integer 983039), (0, .integer 2147483647), (0, .methodref 16 17), (0, .class_ 18), (0, .nameAndType 19 20), (0, u "com/example/redefine/redefine/assessment/NameLiteral"), (0, u "isNameStartChar"), (0, u "(I)Z"), (0, .methodref 22 23), (0, .class_ 24), (0, .nameAndType 25 20), (0, u "com/example/redefine/redefine/assessment/NameLiteralIsNameStartCharPinLaw"), (0, u "reference"), (2, u "law"), (0, u "(III)Z")] 5

def k1m0 : Method := { name := "<init>", desc := "()V", sig := { parameters := [], returnType := none }, accessFlags := 1, code := none }
def k1c1 : Code := { maxStack := 4, maxLocals := 8, code := code, exceptionTable := #[], attributes := #[] }
def k1m1 : Method := { name := "law", desc := "(III)Z", sig := { parameters := [.int, .int, .int], returnType := some .boolean }, accessFlags := 9, code := some k1c1 }
def k1c2 : Code := { maxStack := 2, maxLocals := 1, code := method_3_code, exceptionTable := #[], attributes := #[] }
def k1m2 : Method := { name := "reference", desc := "(I)Z", sig := { parameters := [.int], returnType := some .boolean }, accessFlags := 10, code := some k1c2 }
/-- com/example/redefine/redefine/assessment/NameLiteralIsNameStartCharPinLaw -/
def k1 : Class := { plain "com/example/redefine/redefine/assessment/NameLiteralIsNameStartCharPinLaw" (some 0) with
  accessFlags := 49
  interfaces := #[]
  cf := some (fileOf pool1 22 #[] #[{ accessFlags := 1, nameIndex := 5, descriptorIndex := 6, attributes := #[] }, { accessFlags := 9, nameIndex := 28, descriptorIndex := 29, attributes := #[] }, { accessFlags := 10, nameIndex := 25, descriptorIndex := 20, attributes := #[] }] 49 2 #[] #[])
  fields := #[]
  methods := #[k1m0, k1m1, k1m2]
  instanceTypes := #[]
  staticTypes := #[]
  resolved := Array.replicate 35 none
  statics := none }

def pool2 : Array CpInfo := pool [(7, .class_ 8), (0, u "com/example/redefine/redefine/assessment/CharSink"), (14, .class_ 24), (0, u "java/lang/Object"), (0, u "STRING_PART"), (0, u "I")] 12

/-- com/example/redefine/redefine/assessment/CharSink -/
def k2 : Class := { plain "com/example/redefine/redefine/assessment/CharSink" (some 0) with
  accessFlags := 1536
  interfaces := #[]
  cf := some (fileOf pool2 7 #[] #[] 1536 23 #[] #[{ accessFlags := 25, nameIndex := 25, descriptorIndex := 26, attributes := #[] }])
  fields := #[{ name := "STRING_PART", type := .int, accessFlags := 25, slot := 0, constantValue := 0 }]
  methods := #[]
  instanceTypes := #[]
  staticTypes := #[.int]
  resolved := Array.replicate 39 none
  statics := none }

def pool3 : Array CpInfo := pool [(1, .class_ 2), (0, u "com/example/redefine/redefine/assessment/LiteralCheck"), (0, .class_ 4), (0, u "java/lang/Object"), (0, .class_ 6), (0, u "com/example/redefine/redefine/assessment/CharSink")] 20

/-- com/example/redefine/redefine/assessment/LiteralCheck -/
def k3 : Class := { plain "com/example/redefine/redefine/assessment/LiteralCheck" (some 0) with
  accessFlags := 1536
  interfaces := #[2]
  cf := some (fileOf pool3 1 #[] #[] 1536 3 #[5] #[])
  fields := #[]
  methods := #[]
  instanceTypes := #[]
  staticTypes := #[]
  resolved := Array.replicate 27 none
  statics := none }

def pool4 : Array CpInfo := pool [(2, .class_ 4), (1, u "java/lang/Object"), (3, .class_ 10), (1, u "com/example/redefine/redefine/assessment/NameLiteral"), (0, u "primitive"), (0, u "Ljava/lang/String;"), (2, u "form"), (0, u "Lcom/example/redefine/redefine/assessment/NameLiteral$Form;"), (2, u "entity"), (0, u "Z"), (2, u "context"), (0, u "Lcom/example/redefine/redefine/assessment/ValueContext;"), (7, u "text"), (0, u "Lcom/example/redefine/redefine/assessment/KeptText;"), (1, .class_ 37), (1, u "com/example/redefine/redefine/assessment/NameLiteral$Form"), (9, u "looked"), (0, .class_ 49), (0, u "com/example/redefine/redefine/assessment/NameLiteral$Space"), (33, u "namespace"), (12, u "refused"), (2, u "high"), (0, u "C"), (23, u "colon"), (2, u "nameLength"), (0, u "J"), (16, u "isNameStartChar"), (0, u "(I)Z"), (20, .integer 55295), (0, .integer 63744), (0, .integer 64975), (0, .integer 65008), (0, .integer 65533), (0, .integer 65536), (0, .integer 983039), (0, .class_ 175), (0, u "com/example/redefine/redefine/assessment/LiteralCheck")] 24

def k4c0 : Code := { maxStack := 2, maxLocals := 1, code := prog_117_method_12_code, exceptionTable := #[], attributes := #[] }
def k4m0 : Method := { name := "isNameStartChar", desc := "(I)Z", sig := { parameters := [.int], returnType := some .boolean }, accessFlags := 8, code := some k4c0 }
/-- com/example/redefine/redefine/assessment/NameLiteral -/
def k4 : Class := { plain "com/example/redefine/redefine/assessment/NameLiteral" (some 0) with
  accessFlags := 48
  interfaces := #[3]
  cf := some (fileOf pool4 8 #[.nestMembers #[48, 35]] #[{ accessFlags := 8, nameIndex := 145, descriptorIndex := 146, attributes := #[] }] 48 2 #[174] #[{ accessFlags := 18, nameIndex := 11, descriptorIndex := 12, attributes := #[] }, { accessFlags := 18, nameIndex := 15, descriptorIndex := 16, attributes := #[] }, { accessFlags := 18, nameIndex := 19, descriptorIndex := 20, attributes := #[] }, { accessFlags := 18, nameIndex := 23, descriptorIndex := 24, attributes := #[] }, { accessFlags := 18, nameIndex := 32, descriptorIndex := 33, attributes := #[] }, { accessFlags := 18, nameIndex := 47, descriptorIndex := 33, attributes := #[] }, { accessFlags := 2, nameIndex := 96, descriptorIndex := 20, attributes := #[] }, { accessFlags := 2, nameIndex := 99, descriptorIndex := 100, attributes := #[] }, { accessFlags := 2, nameIndex := 127, descriptorIndex := 128, attributes := #[] }, { accessFlags := 2, nameIndex := 124, descriptorIndex := 20, attributes := #[] }, { accessFlags := 2, nameIndex := 83, descriptorIndex := 12, attributes := #[] }])
  fields := #[{ name := "primitive", type := (.object "java/lang/String"), accessFlags := 18, slot := 0, constantValue := 0 }, { name := "form", type := (.object "com/example/redefine/redefine/assessment/NameLiteral$Form"), accessFlags := 18, slot := 1, constantValue := 0 }, { name := "entity", type := .boolean, accessFlags := 18, slot := 2, constantValue := 0 }, { name := "context", type := (.object "com/example/redefine/redefine/assessment/ValueContext"), accessFlags := 18, slot := 3, constantValue := 0 }, { name := "text", type := (.object "com/example/redefine/redefine/assessment/KeptText"), accessFlags := 18, slot := 4, constantValue := 0 }, { name := "looked", type := (.object "com/example/redefine/redefine/assessment/KeptText"), accessFlags := 18, slot := 5, constantValue := 0 }, { name := "refused", type := .boolean, accessFlags := 2, slot := 6, constantValue := 0 }, { name := "high", type := .char, accessFlags := 2, slot := 7, constantValue := 0 }, { name := "nameLength", type := .long, accessFlags := 2, slot := 8, constantValue := 0 }, { name := "colon", type := .boolean, accessFlags := 2, slot := 9, constantValue := 0 }, { name := "namespace", type := (.object "java/lang/String"), accessFlags := 2, slot := 10, constantValue := 0 }]
  methods := #[k4m0]
  instanceTypes := #[(.object "java/lang/String"), (.object "com/example/redefine/redefine/assessment/NameLiteral$Form"), .boolean, (.object "com/example/redefine/redefine/assessment/ValueContext"), (.object "com/example/redefine/redefine/assessment/KeptText"), (.object "com/example/redefine/redefine/assessment/KeptText"), .boolean, .char, .long, .boolean, (.object "java/lang/String")]
  staticTypes := #[]
  resolved := Array.replicate 200 none
  statics := none }

def pool5 : Array CpInfo := pool [(1, u "java/lang/Cloneable"), (0, .class_ 1), (0, u "java/lang/Object"), (0, .class_ 3)] 3

/-- java/lang/Cloneable -/
def k5 : Class := { plain "java/lang/Cloneable" (some 0) with
  accessFlags := 1537
  interfaces := #[]
  cf := some (fileOf pool5 2 #[] #[] 1537 4 #[] #[])
  fields := #[]
  methods := #[]
  instanceTypes := #[]
  staticTypes := #[]
  resolved := Array.replicate 8 none
  statics := none }

def pool6 : Array CpInfo := pool [(1, u "java/io/Serializable"), (0, .class_ 1), (0, u "java/lang/Object"), (0, .class_ 3)] 3

/-- java/io/Serializable -/
def k6 : Class := { plain "java/io/Serializable" (some 0) with
  accessFlags := 1537
  interfaces := #[]
  cf := some (fileOf pool6 2 #[] #[] 1537 4 #[] #[])
  fields := #[]
  methods := #[]
  instanceTypes := #[]
  staticTypes := #[]
  resolved := Array.replicate 8 none
  statics := none }

/-- the primitive byte -/
def k7 : Class := { plain "byte" none with kind := .primitive 'B', accessFlags := 0x411 }
/-- [B -/
def k8 : Class := { plain "[B" (some 0) with kind := .array 7 .byte, interfaces := #[5, 6], accessFlags := 1041 }

/-- the primitive int -/
def k9 : Class := { plain "int" none with kind := .primitive 'I', accessFlags := 0x411 }
/-- [I -/
def k10 : Class := { plain "[I" (some 0) with kind := .array 9 .int, interfaces := #[5, 6], accessFlags := 1041 }

def heap : Heap := #[]
def classes : Array Class := #[k0, k1, k2, k3, k4, k5, k6, k7, k8, k9, k10]
def interned : List (Array UInt16 × Addr) := []
def slotsUsed : Nat := 0
def theMethod : MethodId := ⟨1, 1⟩
def args0 : Array Value := #[.int 5, .int 6, .int 7]
def aboutOver (below : List Frame) : State where
  vm := { classes := classes, interned := interned.toArray }
  heap := heap
  slotsUsed := slotsUsed
  threads := #[{ frames := .invoking theMethod args0 :: below }]
def below0 : List Frame := [.native { method := ⟨0, 0⟩, args := #[] }]
def about1 : State := aboutOver below0
def p0 : Program := .bare "" "" ""
def e0 : Env := launch0.env 0 0 0
theorem w_frames : about1.frames = Frame.invoking theMethod args0 :: below0 := rfl
set_option maxRecDepth 65536 in
theorem w_args : argsFit about1.vm theMethod args0 = true := by decide +kernel
set_option maxRecDepth 65536 in
theorem w_heap : heapFits about1 = true := by decide +kernel
set_option maxRecDepth 65536 in
theorem w_runnable : about1.curStatus? = some .runnable := by decide +kernel
set_option maxRecDepth 65536 in
theorem w_alone : about1.alone = true := by decide +kernel
set_option maxRecDepth 65536 in
theorem w_named : about1.methodNamed? x = some theMethod := by decide +kernel
set_option maxRecDepth 65536 in
theorem w_hears : about1.hears theMethod below0 = true := by decide +kernel
set_option maxRecDepth 65536 in
theorem w_ripe : about1.ripe theMethod args0 below0 = true := by decide +kernel
theorem w_running : about1.status = .running := rfl
set_option maxRecDepth 65536 in
theorem w_room : about1.hasRoom e0.platform room_1 = true :=
  launch0.hasRoom_least _ room_1 (by decide +kernel) (by decide +kernel) (by decide +kernel) (by decide +kernel) (by decide +kernel) (by decide +kernel)
theorem allAtoms_all (ts : List Jvm.Cond) (a : Array Jvm.Value) (st : Jvm.State) : (allAtoms ts).before a st = ts.all (fun c => c.before a st) := by
  induction ts with
  | nil => rfl
  | cons c t ih =>
    show (Jvm.Cond.and c (allAtoms t)).before a st = _
    rw [Jvm.Cond.before_and, ih, List.all_cons]
def words1 : List Jvm.Cond := Jvm.Cond.code x code maxLocals ret :: tables_1
/-- a 'code' word, met by the world's own term for the bytes: nothing is compared byte by byte -/
theorem code_word {y : MethodName} {bytes : ByteArray} {mx : Nat} {rt : Option FieldType} {a : Array Value} {s : State} {m : MethodId} {meth : Method} {c : Code} (h1 : s.methodNamed? y = some m) (h2 : s.vm.method? m = some meth) (h3 : meth.code = some c) (h4 : c.code = bytes)
    (h5 : (c.maxLocals == mx && c.exceptionTable.isEmpty && decide (c.maxStack ≤ mostOperands) && decide (meth.sig.returnType = rt) && !meth.locks && decide (parseMethodDescriptor y.desc = some meth.sig)) = true) : (Jvm.Cond.code y bytes mx rt).before a s = true := by
  simp only [Bool.and_eq_true, beq_iff_eq, Bool.not_eq_true', decide_eq_true_eq] at h5
  obtain ⟨⟨⟨⟨⟨g1, g2⟩, g3⟩, g4⟩, g5⟩, g6⟩ := h5
  simp [Cond.before, Cond.holds, Cond.value, h1, h2, h3, h4, g1, g2, g3, g4, g5, g6]
def isCode : Jvm.Cond → Bool
  | .code _ _ _ _ => true
  | _ => false
theorem all_split {L : List Jvm.Cond} {P : Jvm.Cond → Bool} (h1 : L.all (fun c => isCode c || P c) = true) (h2 : ∀ c ∈ L.filter isCode, P c = true) : L.all P = true := by
  refine List.all_eq_true.mpr fun c hc => ?_
  have h := List.all_eq_true.mp h1 c hc
  rcases Bool.eq_false_or_eq_true (isCode c) with hi | hi
  · exact h2 c (List.mem_filter.mpr ⟨hc, hi⟩)
  · simpa [hi] using h
set_option maxRecDepth 65536 in
theorem w_c0 : (Jvm.Cond.code x code maxLocals ret).before args0 about1 = true := code_word (m := ⟨1, 1⟩) (meth := k1m1) (c := k1c1) (by decide +kernel) rfl rfl rfl (by decide +kernel)
set_option maxRecDepth 65536 in
theorem w_c1 : (Jvm.Cond.code ({ cls := "com/example/redefine/redefine/assessment/NameLiteral", name := "isNameStartChar", desc := "(I)Z" } : Jvm.MethodName) prog_117_method_12_code (1 : Nat) (Option.some Jvm.ClassFile.FieldType.boolean)).before args0 about1 = true := code_word (m := ⟨4, 0⟩) (meth := k4m0) (c := k4c0) (by decide +kernel) rfl rfl rfl (by decide +kernel)
set_option maxRecDepth 65536 in
theorem w_c2 : (Jvm.Cond.code ({ cls := "com/example/redefine/redefine/assessment/NameLiteralIsNameStartCharPinLaw", name := "reference", desc := "(I)Z" } : Jvm.MethodName) method_3_code (1 : Nat) (Option.some Jvm.ClassFile.FieldType.boolean)).before args0 about1 = true := code_word (m := ⟨1, 2⟩) (meth := k1m2) (c := k1c2) (by decide +kernel) rfl rfl rfl (by decide +kernel)
def codes1 : List Jvm.Cond := [Jvm.Cond.code x code maxLocals ret, Jvm.Cond.code ({ cls := "com/example/redefine/redefine/assessment/NameLiteral", name := "isNameStartChar", desc := "(I)Z" } : Jvm.MethodName) prog_117_method_12_code (1 : Nat) (Option.some Jvm.ClassFile.FieldType.boolean), Jvm.Cond.code ({ cls := "com/example/redefine/redefine/assessment/NameLiteralIsNameStartCharPinLaw", name := "reference", desc := "(I)Z" } : Jvm.MethodName) method_3_code (1 : Nat) (Option.some Jvm.ClassFile.FieldType.boolean)]
set_option maxRecDepth 65536 in
theorem codes_eq : words1.filter isCode = codes1 := rfl
theorem w_codes : ∀ c ∈ words1.filter isCode, c.before args0 about1 = true := by
  rw [codes_eq]
  intro c hc
  simp only [codes1, List.mem_cons, List.not_mem_nil, or_false] at hc
  rcases hc with rfl | rfl | rfl
  · exact w_c0
  · exact w_c1
  · exact w_c2
set_option maxRecDepth 65536 in
theorem w_t1 : (words1.take 24).all (fun c => isCode c || c.before args0 about1) = true := by decide +kernel
set_option maxRecDepth 65536 in
theorem w_t2 : (words1.drop 24).all (fun c => isCode c || c.before args0 about1) = true := by decide +kernel
theorem w_tables : (allAtoms (Jvm.Cond.code x code maxLocals ret :: tables_1)).before args0 about1 = true := by
  rw [allAtoms_all]
  show words1.all (fun c => c.before args0 about1) = true
  refine all_split ?_ w_codes
  rw [← List.take_append_drop 24 words1, List.all_append, w_t1, w_t2]
  rfl
set_option maxRecDepth 65536 in
theorem w_case : (Jvm.Cond.and given_1 narrow_1).before args0 about1 = true := by decide +kernel
theorem w_applies : (headSpec (Jvm.Cond.code x code maxLocals ret :: tables_1) room_1).applies x e0.platform about1 = true :=
  (Spec.applies_iff w_frames).mpr ⟨w_running, w_runnable, w_alone, w_named, w_hears, w_ripe, w_room, w_tables⟩
theorem atStart : AtStart classFile x code maxLocals ret World_1 tables_1 room_1 Calls_1 rest_1 Pre_1 launch0 p0 e0 about1 theMethod args0 below0 :=
  ⟨lists_1, trivial, launch0.admits_env _ _ _, launch0.least_env, fairChoices_fair.cas, fairChoices_fair.clock, w_frames, w_args, w_heap, w_applies, trivial, trivial, w_case⟩
end start1
theorem witness_1 : WitnessClaimed_1 := ⟨start1.p0, start1.e0, start1.about1, start1.theMethod, start1.args0, start1.below0, start1.atStart⟩
end Jvm.Pilot.@@N@@
