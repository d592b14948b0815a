import JvmDerived
import JvmDerived.Pilot.@@N@@Statement
import JvmDerived.Pilot.@@N@@Code
set_option linter.unusedVariables false
set_option linter.unusedSimpArgs false
namespace Jvm.Pilot.@@N@@
open Jvm Jvm.ClassFile Sem Op Lib Jvm.Free Jvm.Stand Jvm.LawKit Jvm.RoadKit Bundle Jvm.Pilot.@@N@@.Jvm.D
section OwnKit
variable {p : Program} {l : Launch} {e : Env} {R : Room} {s : State} {m : MethodId} {args : Array Value} {below : List Frame} {meth : Method} {c : Code} {T : State} {locs : List Loc} {cells slots : Nat} {Z : State} {a0 : Array Value} {h : Heap} {W : State → Outcome → Prop}
/-- what a walk owes from a frame on -/
def Go (p : Program) (e : Env) (below : List Frame) (W : State → Outcome → Prop) (T : State) (g : JFrame) : Prop := ∃ t o, Steps p.tables e below (T.setTop g) t ∧ t.status = .running ∧ Ended t below o ∧ W t o
theorem Go.of {T T' : State} {g g' : JFrame} (q : ∀ t, Steps p.tables e below (T'.setTop g') t → Steps p.tables e below (T.setTop g) t) (k : Go p e below W T' g') : Go p e below W T g := by
  obtain ⟨t, o, h1, h2⟩ := k
  exact ⟨t, o, q t h1, h2⟩
theorem Go.ret (X : Stand p l e R s m args below meth c T locs cells slots) {g : JFrame} {v : Option Value} (hv : meth.sig.returnType = none → v = none) (hk : meth.locks = false)
    (st : ∀ fs, (∀ (f : JFrame) (acts : List Action), f.method = m → f.locked = none → f.entered = [] → (doReturn e (T.setTop f) acts v).1 = T.setFrames fs) → Steps p.tables e below (T.setTop g) (T.setFrames fs))
    (hq : ∀ t : State, t.heap = T.heap → FrameEnd s (.returned v) t locs cells slots → W t (.returned v)) : Go p e below W T g := by
  obtain ⟨fs, hr, hrun, hended, hW, hsame⟩ := X.leave (v := v) hv hk
  exact ⟨_, _, st fs hr, hrun, hended, hq _ rfl ⟨⟨_, rfl⟩, hW, hsame⟩⟩
/-- ireturn of a boolean, byte, char, short -/
theorem Go.retN (X : Stand p l e R s m args below meth c T locs cells slots) (hx : p.tables.exec = Jvm.exec) {pc : Nat} {Ls : Array Slot} {z w : Int32} {t : FieldType} {rest : List Value} (hret : meth.sig.returnType = some t) (ht : t = .boolean ∨ t = .byte ∨ t = .char ∨ t = .short) (hd : decode c.code pc = .ok (.ireturn, 1)) (hk : meth.locks = false) (hn : nar t z = w)
    (hq : ∀ t : State, t.heap = T.heap → FrameEnd s (.returned (some (.int w))) t locs cells slots → W t (.returned (some (.int w)))) : Go p e below W T (mkF m pc Ls (.int z :: rest)) := by
  subst hn
  exact Go.ret X (fun q => by rw [hret] at q; cases q) hk (fun fs hr => Jvm.RoadKit.retN X hx hret ht hd hr) hq
theorem Go.retI (X : Stand p l e R s m args below meth c T locs cells slots) (hx : p.tables.exec = Jvm.exec) {pc : Nat} {Ls : Array Slot} {z w : Int32} {rest : List Value} (hret : meth.sig.returnType = some .int) (hd : decode c.code pc = .ok (.ireturn, 1)) (hk : meth.locks = false) (hn : z = w)
    (hq : ∀ t : State, t.heap = T.heap → FrameEnd s (.returned (some (.int w))) t locs cells slots → W t (.returned (some (.int w)))) : Go p e below W T (mkF m pc Ls (.int z :: rest)) := by
  subst hn
  exact Go.ret X (fun q => by rw [hret] at q; cases q) hk (fun fs hr => retOut X hx hret rfl (Or.inl ⟨rfl, Or.inl rfl, z, rfl⟩) hd hr) hq
theorem Go.retJ (X : Stand p l e R s m args below meth c T locs cells slots) (hx : p.tables.exec = Jvm.exec) {pc : Nat} {Ls : Array Slot} {z w : Int64} {rest : List Value} (hret : meth.sig.returnType = some .long) (hd : decode c.code pc = .ok (.lreturn, 1)) (hk : meth.locks = false) (hn : z = w)
    (hq : ∀ t : State, t.heap = T.heap → FrameEnd s (.returned (some (.long w))) t locs cells slots → W t (.returned (some (.long w)))) : Go p e below W T (mkF m pc Ls (.long z :: rest)) := by
  subst hn
  exact Go.ret X (fun q => by rw [hret] at q; cases q) hk (fun fs hr => retOut X hx hret rfl (Or.inr (Or.inl ⟨rfl, rfl, z, rfl⟩)) hd hr) hq
theorem Go.retA (X : Stand p l e R s m args below meth c T locs cells slots) (hx : p.tables.exec = Jvm.exec) {pc : Nat} {Ls : Array Slot} {t : FieldType} {a : Addr} {rest : List Value} (hret : meth.sig.returnType = some t) (ht : t.isReference = true) (hnr : narrow t (.ref a) = .ref a) (hd : decode c.code pc = .ok (.areturn, 1)) (hk : meth.locks = false)
    (hq : ∀ t : State, t.heap = T.heap → FrameEnd s (.returned (some (.ref a))) t locs cells slots → W t (.returned (some (.ref a)))) : Go p e below W T (mkF m pc Ls (.ref a :: rest)) :=
  Go.ret X (fun q => by rw [hret] at q; cases q) hk (fun fs hr => retOut X hx hret hnr (Or.inr (Or.inr (Or.inr (Or.inr ⟨rfl, ht, rfl⟩)))) hd hr) hq
theorem Go.retV (X : Stand p l e R s m args below meth c T locs cells slots) (hx : p.tables.exec = Jvm.exec) {pc : Nat} {Ls : Array Slot} (hret : meth.sig.returnType = none) (hd : decode c.code pc = .ok (.return_, 1)) (hk : meth.locks = false)
    (hq : ∀ t : State, t.heap = T.heap → FrameEnd s (.returned none) t locs cells slots → W t (.returned none)) : Go p e below W T (mkF m pc Ls []) :=
  Go.ret X (fun _ => rfl) hk (fun fs hr => X.returnOut hx hret hd hr) hq
/-- a body's contract out of its walk -/
theorem own_body {y : MethodName} {bytes : ByteArray} {maxL : Nat} {ret : Option FieldType} {ws : List Jvm.Cond} {rm : Room} {as' : Array Value} {Q : Option Value → Heap → List Loc → Prop} {Ls : Array Slot} (hpn : plainFor y = true) (hef : ∀ m, entryFrame m as' maxL = mkF m 0 Ls [])
    (walk : ∀ (p : Program) (e : Env) (s : State) (m : MethodId) (below : List Frame) (meth : Method) (c : Code) (T : State) (W : State → Outcome → Prop), Stand p l e rm s m as' below meth c T [] 0 0 → p.tables.exec = Jvm.exec → c.code = bytes → c.maxLocals = maxL → meth.sig.returnType = ret → meth.locks = false → s.vm.findClass y.cls = some m.cls → meth.name = y.name → Z.Warmed39 s.vm → T.heap = h →
      (∀ (t : State) v L cells slots, Q v t.heap L → FrameEnd s (.returned v) t L cells slots → cells ≤ rm.cells → slots ≤ rm.slots → W t (.returned v)) → Go p e below W T (mkF m 0 Ls [])) :
    MetFree l y (head1 (Jvm.Cond.code y bytes maxL ret :: ws) rm) (fun a U => a = as' ∧ Z.Warmed39 U.vm ∧ U.heap = h) (fun _ _ _ _ _ => True) (fun _ U o U' => ∃ v L, o = .returned v ∧ Q v U'.heap L ∧ FrameEnd U o U' L rm.cells rm.slots) := by
  refine MetFree.of_bodySF hpn hisR ?_
  intro p e s m args below meth c s₁ Bd hml hP hK
  obtain ⟨rfl, hZ, hh⟩ := hP
  obtain ⟨t, o, h1, h2, h3, h4⟩ := walk p e s m below meth c s₁ (fun t o => ∃ v L, o = .returned v ∧ Q v t.heap L ∧ FrameEnd s o t L rm.cells rm.slots) (Stand.of_body Bd) Bd.exec Bd.bytes hml Bd.returns (BodyLoose.notSynchronized Bd) (findClass_of_methodNamed Bd.named) (name_of_methodNamed Bd.named Bd.method).1 hZ (by rw [← hh, Bd.state]; rfl)
    (fun t v L cells slots hQ hF hc hs => ⟨v, L, rfl, hQ, hF.1, hF.2.1, hF.2.2.mono hc hs⟩)
  exact ⟨t, o, castTop (hef m) h1, h2, h3, h4⟩
/-- a contract, written short -/
abbrev Con (l : Launch) (Z : State) (y : MethodName) (bytes : ByteArray) (maxL : Nat) (ret : Option FieldType) (ws : List Jvm.Cond) (rm : Room) (as' : Array Value) (h : Heap) (Q : Option Value → Heap → List Loc → Prop) : Prop :=
  MetFree l y (head1 (Jvm.Cond.code y bytes maxL ret :: ws) rm) (fun a U => a = as' ∧ Z.Warmed39 U.vm ∧ U.heap = h) (fun _ _ _ _ _ => True) (fun _ U o U' => ∃ v L, o = .returned v ∧ Q v U'.heap L ∧ FrameEnd U o U' L rm.cells rm.slots)
/-- what a callee that leaves the heap as it is says -/
def PQ (w : Value) (h0 : Heap) (v : Option Value) (h : Heap) (L : List Loc) : Prop := v = some w ∧ L = [] ∧ h = h0
theorem Go.callS (X : Stand p l e R s m args below meth c T locs cells slots) (hx : p.tables.exec = Jvm.exec) (hZ : Z.Warmed39 s.vm) {own : String} {index : Nat} {y : MethodName} {bytes : ByteArray} {maxL : Nat} {ret : Option FieldType} {rm : Room} {as' : Array Value} {Q : Option Value → Heap → List Loc → Prop} (hown : s.vm.findClass own = some m.cls)
    (w1 : (Jvm.Cond.methodLink own index y).before a0 Z = true) (w2 : (Jvm.Cond.static y).before a0 Z = true) (w3 : (Jvm.Cond.initialized y.cls).before a0 Z = true) (w4 : (Jvm.Cond.code y bytes maxL ret).before a0 Z = true) (hy : y.cls ≠ "java/lang/invoke/MethodHandle" ∧ y.cls ≠ "java/lang/invoke/VarHandle") (eT : T.heap = h)
    (hM : Con l Z y bytes maxL ret [] rm as' h Q) {V : Nat} (hf : rm.frames + 1 ≤ R.frames) (hl : V + (maxL + 11) + rm.locals ≤ R.locals) (hc : cells + rm.cells ≤ R.cells) (hs : slots + rm.slots ≤ R.slots)
    {pc : Nat} {Ls : Array Slot} {st : List Value} (hsize : Ls.size = c.maxLocals) {argsL rest : List Value} (has : argsL.toArray = as') (hlen : ∀ sig, parseMethodDescriptor y.desc = some sig → argsL.length = sig.parameters.length) (hstack : st = argsL.reverse ++ rest) (hV : (rest.map fun v => v.category).sum ≤ V) (hd : decode c.code pc = .ok (.invokestatic index, 3))
    (K : ∀ T' v L, Q v T'.heap L → Stand p l e R s m args below meth c T' (locs ++ L) (cells + rm.cells) (slots + rm.slots) → Go p e below W T' (mkF m (pc + 3) Ls (v.toList ++ rest))) : Go p e below W T (mkF m pc Ls st) := by
  obtain ⟨v, vm₁, ⟨T', L', k', n'⟩, -, X', ⟨L, hQ, e1, e2, e3⟩, st'⟩ := Jvm.LawKit.callS X hx hown (mvT hZ w1) (mvT hZ w2) (mvT hZ w3) (mvT hZ w4) hy (backOf (W := V) hM hZ w4 w3 hf hl) (g := mkF m pc Ls st) rfl hsize hlen hstack (by show 2 * 0 + _ ≤ _; omega) hd (fun _ _ => ⟨has, eT, hc, hs⟩)
  dsimp only [Pt.U, Pt.locs, Pt.cells, Pt.slots] at X' e1 e2 e3 st' hQ
  subst e1 e2 e3
  exact Go.of st' (K _ _ _ hQ X')
theorem Go.callP (X : Stand p l e R s m args below meth c T locs cells slots) (hx : p.tables.exec = Jvm.exec) (hZ : Z.Warmed39 s.vm) {own : String} {index : Nat} {y : MethodName} {bytes : ByteArray} {maxL : Nat} {ret : Option FieldType} {rm : Room} {as' : Array Value} {w : Value} (hown : s.vm.findClass own = some m.cls)
    (w1 : (Jvm.Cond.methodLink own index y).before a0 Z = true) (w2 : (Jvm.Cond.static y).before a0 Z = true) (w3 : (Jvm.Cond.initialized y.cls).before a0 Z = true) (w4 : (Jvm.Cond.code y bytes maxL ret).before a0 Z = true) (hy : y.cls ≠ "java/lang/invoke/MethodHandle" ∧ y.cls ≠ "java/lang/invoke/VarHandle") (eT : T.heap = h)
    (hM : Con l Z y bytes maxL ret [] rm as' h (PQ w h)) {V : Nat} (hf : rm.frames + 1 ≤ R.frames) (hl : V + (maxL + 11) + rm.locals ≤ R.locals) (z1 : rm.cells = 0) (z2 : rm.slots = 0) (hc : cells ≤ R.cells) (hs : slots ≤ R.slots)
    {pc : Nat} {Ls : Array Slot} {st : List Value} (hsize : Ls.size = c.maxLocals) {argsL rest : List Value} (has : argsL.toArray = as') (hlen : ∀ sig, parseMethodDescriptor y.desc = some sig → argsL.length = sig.parameters.length) (hstack : st = argsL.reverse ++ rest) (hV : (rest.map fun v => v.category).sum ≤ V) (hd : decode c.code pc = .ok (.invokestatic index, 3))
    (K : ∀ T', Stand p l e R s m args below meth c T' locs cells slots → T'.heap = h → Go p e below W T' (mkF m (pc + 3) Ls (w :: rest))) : Go p e below W T (mkF m pc Ls st) := by
  refine Go.callS X hx hZ hown w1 w2 w3 w4 hy eT hM hf hl (by rw [z1]; exact hc) (by rw [z2]; exact hs) hsize has hlen hstack hV hd ?_
  rintro T' v L ⟨rfl, rfl, h3⟩ X'
  rw [z1, z2, List.append_nil] at X'
  exact K T' X' h3
end OwnKit
section OwnHeap
variable {p : Program} {l : Launch} {e : Env} {R : Room} {s : State} {m : MethodId} {args : Array Value} {below : List Frame} {meth : Method} {c : Code} {T : State} {locs : List Loc} {cells slots : Nat} {Z : State} {a0 : Array Value} {h h' : Heap} {W : State → Outcome → Prop}
/-- an array: its kind, its length, the ints in its places -/
def AI (Z : State) (h : Heap) (a : Addr) (ty : FieldType) (n : Nat) (f : Nat → Int32) : Prop := ∃ cl : Cell, Arr Z h a cl ty ∧ cl.slots.size = n ∧ n < 2 ^ 31 ∧ ∀ j, j < n → cl.slots[j]? = some (.int (f j)) ∧ fits ty (.int (f j)) = true
theorem AI.lt {a : Addr} {ty : FieldType} {n : Nat} {f : Nat → Int32} (A : AI Z h a ty n f) : a < h.size := by obtain ⟨cl, A, -⟩ := A; exact A.lt
theorem AI.small {a : Addr} {ty : FieldType} {n : Nat} {f : Nat → Int32} (A : AI Z h a ty n f) : n < 2 ^ 31 := by obtain ⟨cl, -, -, h, -⟩ := A; exact h
theorem AI.ext {a : Addr} {ty : FieldType} {n : Nat} {f : Nat → Int32} (A : AI Z h a ty n f) (E : Ext h h') : AI Z h' a ty n f := by obtain ⟨cl, A, r⟩ := A; exact ⟨cl, A.ext E, r⟩
theorem AI.other {a b : Addr} {ty : FieldType} {n sl : Nat} {f : Nat → Int32} {v : Value} (A : AI Z h b ty n f) (W : Wr h h' a sl v) (q : b ≠ a) : AI Z h' b ty n f := by obtain ⟨cl, A, r⟩ := A; exact ⟨cl, A.other W q, r⟩
theorem AI.keep {a : Addr} {ty : FieldType} {n : Nat} {f : Nat → Int32} {ws : List Addr} (A : AI Z h a ty n f) (K : Keep h h' ws) (q : a ∉ ws) : AI Z h' a ty n f := by obtain ⟨cl, A, r⟩ := A; exact ⟨cl, ⟨K.2.1 a cl A.1 q, A.2⟩, r⟩
theorem AI.congr {a : Addr} {ty : FieldType} {n : Nat} {f g : Nat → Int32} (A : AI Z h a ty n f) (q : ∀ j, j < n → f j = g j) : AI Z h a ty n g := by obtain ⟨cl, A, r1, r2, r3⟩ := A; exact ⟨cl, A, r1, r2, fun j hj => by rw [← q j hj]; exact r3 j hj⟩
def upd (f : Nat → Int32) (i : Nat) (x : Int32) : Nat → Int32 := fun j => if j = i then x else f j
theorem AI.set {a : Addr} {ty : FieldType} {n i : Nat} {f : Nat → Int32} {x : Int32} (A : AI Z h a ty n f) (W : Wr h h' a i (.int x)) (hv : fits ty (.int x) = true) : AI Z h' a ty n (upd f i x) := by
  obtain ⟨cl, A, r1, r2, r3⟩ := A
  refine ⟨_, A.same W, by rw [sz_set]; exact r1, r2, fun j hj => ?_⟩
  simp only [Cell.setSlot, upd]
  by_cases q : j = i
  · subst q; rw [if_pos rfl]; exact ⟨by simp [r1, hj], hv⟩
  · rw [if_neg q, Array.getElem?_setIfInBounds_ne (Ne.symm q)]; exact r3 j hj
/-- a place within the length -/
def PV (h0 : Heap) (v : Option Value) (h : Heap) (L : List Loc) : Prop := v = none ∧ L = [] ∧ h = h0
def inb (j : Int32) (n : Nat) : Prop := ¬ j < 0 ∧ j.toNatClampNeg < n
theorem inb.no {cl : Cell} {j : Int32} {n : Nat} (q : inb j n) (r : cl.slots.size = n) : ¬ (j < 0 ∨ cl.slots.size ≤ j.toNatClampNeg) := by rw [r]; exact fun z => z.elim q.1 (fun z => absurd q.2 (Nat.not_lt.mpr z))
theorem Go.alen (X : Stand p l e R s m args below meth c T locs cells slots) (hx : p.tables.exec = Jvm.exec) (hZ : Z.Warmed39 s.vm) (eT : T.heap = h) {a : Addr} {ty : FieldType} {n : Nat} {f : Nat → Int32} (A : AI Z h a ty n f) {pc : Nat} {Ls : Array Slot} {st : List Value} (hd : decode c.code pc = .ok (.arraylength, 1))
    (K : Go p e below W T (mkF m (pc + 1) Ls (.int n.toInt32 :: st))) : Go p e below W T (mkF m pc Ls (.ref a :: st)) := by
  obtain ⟨cl, A, r1, -⟩ := A
  subst r1
  exact Go.of (fun t k => X.arraylength hx (by rw [eT]; exact A.1) (State.isArrayOf_alike hZ.alike A.2.1) (g := mkF m pc Ls (.ref a :: st)) rfl rfl hd t k) K
theorem Go.iald (X : Stand p l e R s m args below meth c T locs cells slots) (hx : p.tables.exec = Jvm.exec) (hZ : Z.Warmed39 s.vm) (eT : T.heap = h) {a : Addr} {n : Nat} {f : Nat → Int32} (A : AI Z h a .int n f) {j : Int32} (hj : inb j n) {pc : Nat} {Ls : Array Slot} {st : List Value} (hd : decode c.code pc = .ok (.iaload, 1))
    (K : Go p e below W T (mkF m (pc + 1) Ls (.int (f j.toNatClampNeg) :: st))) : Go p e below W T (mkF m pc Ls (.int j :: .ref a :: st)) := by
  obtain ⟨cl, A, r1, -, r3⟩ := A
  exact Go.of (fun t k => X.iaload hx (j := j) (v := .int (f j.toNatClampNeg)) (by rw [eT]; exact A.1) (State.isArrayOf_alike hZ.alike A.2.1) A.2.2 (hj.no r1) (r3 _ hj.2).1 (g := mkF m pc Ls (.int j :: .ref a :: st)) rfl rfl hd t k) K
theorem Go.cald (X : Stand p l e R s m args below meth c T locs cells slots) (hx : p.tables.exec = Jvm.exec) (hZ : Z.Warmed39 s.vm) (eT : T.heap = h) {a : Addr} {n : Nat} {f : Nat → Int32} (A : AI Z h a .char n f) {j : Int32} (hj : inb j n) {pc : Nat} {Ls : Array Slot} {st : List Value} (hd : decode c.code pc = .ok (.caload, 1))
    (K : Go p e below W T (mkF m (pc + 1) Ls (.int (f j.toNatClampNeg) :: st))) : Go p e below W T (mkF m pc Ls (.int j :: .ref a :: st)) := by
  obtain ⟨cl, A, r1, -, r3⟩ := A
  exact Go.of (fun t k => X.caload hx (j := j) (v := .int (f j.toNatClampNeg)) (by rw [eT]; exact A.1) (State.isArrayOf_alike hZ.alike A.2.1) A.2.2 (hj.no r1) (r3 _ hj.2).1 (g := mkF m pc Ls (.int j :: .ref a :: st)) rfl rfl hd t k) K
theorem Go.bald (X : Stand p l e R s m args below meth c T locs cells slots) (hx : p.tables.exec = Jvm.exec) (hZ : Z.Warmed39 s.vm) (eT : T.heap = h) {a : Addr} {n : Nat} {f : Nat → Int32} (A : AI Z h a .byte n f) {j : Int32} (hj : inb j n) {pc : Nat} {Ls : Array Slot} {st : List Value} (hd : decode c.code pc = .ok (.baload, 1))
    (K : Go p e below W T (mkF m (pc + 1) Ls (.int (f j.toNatClampNeg) :: st))) : Go p e below W T (mkF m pc Ls (.int j :: .ref a :: st)) := by
  obtain ⟨cl, A, r1, -, r3⟩ := A
  exact Go.of (fun t k => X.baloadBytes hx (j := j) (v := .int (f j.toNatClampNeg)) (by rw [eT]; exact A.1) (State.isArrayOf_alike hZ.alike A.2.1) A.2.2 (hj.no r1) (r3 _ hj.2).1 (g := mkF m pc Ls (.int j :: .ref a :: st)) rfl rfl hd t k) K
theorem Go.zald (X : Stand p l e R s m args below meth c T locs cells slots) (hx : p.tables.exec = Jvm.exec) (hZ : Z.Warmed39 s.vm) (eT : T.heap = h) {a : Addr} {n : Nat} {f : Nat → Int32} (A : AI Z h a .boolean n f) {j : Int32} (hj : inb j n) {pc : Nat} {Ls : Array Slot} {st : List Value} (hd : decode c.code pc = .ok (.baload, 1))
    (K : Go p e below W T (mkF m (pc + 1) Ls (.int (f j.toNatClampNeg) :: st))) : Go p e below W T (mkF m pc Ls (.int j :: .ref a :: st)) := by
  obtain ⟨cl, A, r1, -, r3⟩ := A
  exact Go.of (fun t k => X.baloadBooleans hx (j := j) (v := .int (f j.toNatClampNeg)) (by rw [eT]; exact A.1) (State.isArrayOf_alike hZ.alike A.2.1) A.2.2 (hj.no r1) (r3 _ hj.2).1 (g := mkF m pc Ls (.int j :: .ref a :: st)) rfl rfl hd t k) K
theorem Go.ist (X : Stand p l e R s m args below meth c T locs cells slots) (hx : p.tables.exec = Jvm.exec) (hZ : Z.Warmed39 s.vm) (eT : T.heap = h) {n0 : Nat} (N : Fr n0 locs) {a : Addr} (ga : n0 ≤ a) {n : Nat} {f : Nat → Int32} (A : AI Z h a .int n f) {j x : Int32} (hj : inb j n) {pc : Nat} {Ls : Array Slot} {st : List Value} (hd : decode c.code pc = .ok (.iastore, 1))
    (K : ∀ T' h' L', Stand p l e R s m args below meth c T' L' cells slots → Fr n0 L' → T'.heap = h' → Wr h h' a j.toNatClampNeg (.int x) → AI Z h' a .int n (upd f j.toNatClampNeg x) → Go p e below W T' (mkF m (pc + 1) Ls st)) : Go p e below W T (mkF m pc Ls (.int x :: .int j :: .ref a :: st)) := by
  obtain ⟨cl, A', r1, r2, r3⟩ := id A
  obtain ⟨T', h', X', e', W', st'⟩ := stI X hx hZ eT A' (j := j) (hj.no r1) (g := mkF m pc Ls (.int x :: .int j :: .ref a :: st)) rfl rfl hd
  exact Go.of st' (K _ _ _ X' (Fr.snoc X' N ga) e' W' (A.set W' rfl))
theorem Go.bst (X : Stand p l e R s m args below meth c T locs cells slots) (hx : p.tables.exec = Jvm.exec) (hZ : Z.Warmed39 s.vm) (eT : T.heap = h) {n0 : Nat} (N : Fr n0 locs) {a : Addr} (ga : n0 ≤ a) {n : Nat} {f : Nat → Int32} (A : AI Z h a .byte n f) {j x : Int32} (hj : inb j n) {pc : Nat} {Ls : Array Slot} {st : List Value} (hd : decode c.code pc = .ok (.bastore, 1))
    (K : ∀ T' h' L', Stand p l e R s m args below meth c T' L' cells slots → Fr n0 L' → T'.heap = h' → Wr h h' a j.toNatClampNeg (.int (nar .byte x)) → AI Z h' a .byte n (upd f j.toNatClampNeg (nar .byte x)) → Go p e below W T' (mkF m (pc + 1) Ls st)) : Go p e below W T (mkF m pc Ls (.int x :: .int j :: .ref a :: st)) := by
  obtain ⟨cl, A', r1, r2, r3⟩ := id A
  obtain ⟨T', h', X', e', W', st'⟩ := stB X hx hZ eT A' (j := j) (hj.no r1) (g := mkF m pc Ls (.int x :: .int j :: .ref a :: st)) rfl rfl hd
  exact Go.of st' (K _ _ _ X' (Fr.snoc X' N ga) e' W' (A.set W' (fits_nar_byte _)))
theorem Go.zst (X : Stand p l e R s m args below meth c T locs cells slots) (hx : p.tables.exec = Jvm.exec) (hZ : Z.Warmed39 s.vm) (eT : T.heap = h) {n0 : Nat} (N : Fr n0 locs) {a : Addr} (ga : n0 ≤ a) {n : Nat} {f : Nat → Int32} (A : AI Z h a .boolean n f) {j x : Int32} (hj : inb j n) {pc : Nat} {Ls : Array Slot} {st : List Value} (hd : decode c.code pc = .ok (.bastore, 1))
    (K : ∀ T' h' L', Stand p l e R s m args below meth c T' L' cells slots → Fr n0 L' → T'.heap = h' → Wr h h' a j.toNatClampNeg (.int (nar .boolean x)) → AI Z h' a .boolean n (upd f j.toNatClampNeg (nar .boolean x)) → Go p e below W T' (mkF m (pc + 1) Ls st)) : Go p e below W T (mkF m pc Ls (.int x :: .int j :: .ref a :: st)) := by
  obtain ⟨cl, A', r1, r2, r3⟩ := id A
  obtain ⟨T', h', X', e', W', st'⟩ := stZ X hx hZ eT A' (j := j) (hj.no r1) (g := mkF m pc Ls (.int x :: .int j :: .ref a :: st)) rfl rfl hd
  exact Go.of st' (K _ _ _ X' (Fr.snoc X' N ga) e' W' (A.set W' (fits_nar_bool _)))
theorem Go.cst (X : Stand p l e R s m args below meth c T locs cells slots) (hx : p.tables.exec = Jvm.exec) (hZ : Z.Warmed39 s.vm) (eT : T.heap = h) {n0 : Nat} (N : Fr n0 locs) {a : Addr} (ga : n0 ≤ a) {n : Nat} {f : Nat → Int32} (A : AI Z h a .char n f) {j x : Int32} (hj : inb j n) {pc : Nat} {Ls : Array Slot} {st : List Value} (hd : decode c.code pc = .ok (.castore, 1))
    (K : ∀ T' h' L', Stand p l e R s m args below meth c T' L' cells slots → Fr n0 L' → T'.heap = h' → Wr h h' a j.toNatClampNeg (.int (nar .char x)) → AI Z h' a .char n (upd f j.toNatClampNeg (nar .char x)) → Go p e below W T' (mkF m (pc + 1) Ls st)) : Go p e below W T (mkF m pc Ls (.int x :: .int j :: .ref a :: st)) := by
  obtain ⟨cl, A', r1, r2, r3⟩ := id A
  obtain ⟨T', h', X', e', W', st'⟩ := stC X hx hZ eT A' (j := j) (hj.no r1) (g := mkF m pc Ls (.int x :: .int j :: .ref a :: st)) rfl rfl hd
  exact Go.of st' (K _ _ _ X' (Fr.snoc X' N ga) e' W' (A.set W' (fits_nar_char _)))
theorem AI.new {b cA : Nat} {ty : FieldType} {n : Int32} (A : Arr Z h b (newA cA ty n) ty) (hd : defaultValue ty = .int 0) (hf : fits ty (.int 0) = true) : AI Z h b ty n.toNatClampNeg (fun _ => 0) := by
  refine ⟨_, A, sz_new _ _ _, ?_, fun j hj => ?_⟩
  · show n.toInt.toNat < 2 ^ 31
    have := n.toInt_lt; omega
  · exact ⟨by simp [newA, hj, hd], hf⟩
theorem Go.newA (X : Stand p l e R s m args below meth c T locs cells slots) (hx : p.tables.exec = Jvm.exec) (hZ : Z.Warmed39 s.vm) {aty : ArrayType} (w : (Jvm.Cond.arrayClass (newarray.typeOf aty)).before a0 Z = true) (hdef : defaultValue (newarray.typeOf aty) = .int 0) (hft : fits (newarray.typeOf aty) (.int 0) = true) {ad : String} (had : "[" ++ (newarray.typeOf aty).toString = ad) (eT : T.heap = h) {pc : Nat} {Ls : Array Slot} {n : Int32} {st : List Value} (hd : decode c.code pc = .ok (.newarray aty, 2))
    (hn : ¬ n < 0) {cap : Nat} (hcap : n.toNatClampNeg ≤ cap) (hb : cap * 8 ≤ 536870912) (hc : cells + 1 ≤ R.cells) (hl : slots + cap ≤ R.slots)
    (K : ∀ T' h' b, b = h.size → Stand p l e R s m args below meth c T' locs (cells + 1) (slots + cap) → T'.heap = h' → Ext h h' → Exa Z h' b ad → AI Z h' b (newarray.typeOf aty) n.toNatClampNeg (fun _ => 0) → Go p e below W T' (mkF m (pc + 2) Ls (.ref b :: st))) : Go p e below W T (mkF m pc Ls (.int n :: st)) := by
  obtain ⟨T', h', cA, X', e', E', A', B', st'⟩ := newPE X hx hZ w eT (g := mkF m pc Ls (.int n :: st)) rfl hd rfl hn hcap hb hc hl had
  exact Go.of st' (K _ _ _ rfl X' e' E' B' (AI.new A' hdef hft))
theorem Go.newO (X : Stand p l e R s m args below meth c T locs cells slots) (hx : p.tables.exec = Jvm.exec) (hZ : Z.Warmed39 s.vm) {own C : String} {index n : Nat} (hown : s.vm.findClass own = some m.cls) (w : (Jvm.Cond.classLink own index C).before a0 Z = true) (wi : (Jvm.Cond.instantiable C n).before a0 Z = true) (wz : (Jvm.Cond.initialized C).before a0 Z = true) (eT : T.heap = h)
    {pc : Nat} {Ls : Array Slot} {st : List Value} (hd : decode c.code pc = .ok (.new index, 3)) (hc : cells + 1 ≤ R.cells) (hl : slots + n ≤ R.slots)
    (K : ∀ T' h' b, b = h.size → Stand p l e R s m args below meth c T' locs (cells + 1) (slots + n) → T'.heap = h' → Ext h h' → Exa Z h' b C → (∀ {O nm d : String} {ty : FieldType}, Laid Z a0 C O nm d → parseFieldDescriptor d = some ty → Fld Z h' b O nm d (defaultValue ty)) → Go p e below W T' (mkF m (pc + 3) Ls (.ref b :: st))) : Go p e below W T (mkF m pc Ls st) := by
  obtain ⟨T', h', X', e', E', A', D', -, st'⟩ := Jvm.RoadKit.newO X hx hZ hown w wi wz eT (g := mkF m pc Ls st) rfl hd hc hl
  exact Go.of st' (K _ _ _ rfl X' e' E' A' D')
theorem Go.getF (X : Stand p l e R s m args below meth c T locs cells slots) (hx : p.tables.exec = Jvm.exec) (hZ : Z.Warmed39 s.vm) {own O n d : String} {index : Nat} (hown : s.vm.findClass own = some m.cls) (w : (Jvm.Cond.fieldLink own index O n d).before a0 Z = true) (eT : T.heap = h) {a : Addr} {v : Value} (F : Fld Z h a O n d v)
    {pc : Nat} {Ls : Array Slot} {st : List Value} (hd : decode c.code pc = .ok (.getfield index, 3)) (K : ∀ T', Stand p l e R s m args below meth c T' locs cells slots → T'.heap = h → Go p e below W T' (mkF m (pc + 3) Ls (v :: st))) : Go p e below W T (mkF m pc Ls (.ref a :: st)) := by
  obtain ⟨T', X', e', st'⟩ := Jvm.RoadKit.getF X hx hZ hown (host := "") (Or.inl w) Via.refl eT F (g := mkF m pc Ls (.ref a :: st)) rfl rfl hd
  exact Go.of st' (K _ X' e')
theorem Go.putF (X : Stand p l e R s m args below meth c T locs cells slots) (hx : p.tables.exec = Jvm.exec) (hZ : Z.Warmed39 s.vm) {own O n d C : String} {index kk : Nat} {ty : FieldType} (hown : s.vm.findClass own = some m.cls) (w : (Jvm.Cond.fieldLink own index O n d).before a0 Z = true) (eT : T.heap = h) {n0 : Nat} (N : Fr n0 locs) {a : Addr} (ga : n0 ≤ a) {v old : Value} (F : Fld Z h a O n d old) (E : Exa Z h a C)
    (L : (Jvm.Cond.lays C O n d).before a0 Z = true ∨ ((Jvm.Cond.laysFinal C O n d).before a0 Z = true ∧ own = O ∧ meth.name = "<init>")) (wi : (Jvm.Cond.instantiable C kk).before a0 Z = true) (hty : parseFieldDescriptor d = some ty) {v' : Value} (hn : narrow ty v = v') (hf : fits ty v' = true)
    {pc : Nat} {Ls : Array Slot} {st : List Value} (hd : decode c.code pc = .ok (.putfield index, 3)) (K : ∀ T' h' L', Stand p l e R s m args below meth c T' L' cells slots → Fr n0 L' → T'.heap = h' → Wr h h' a (Jvm.RoadKit.slotOf Z O n d) v' → Fld Z h' a O n d v' → Go p e below W T' (mkF m (pc + 3) Ls st)) : Go p e below W T (mkF m pc Ls (v :: .ref a :: st)) := by
  obtain ⟨T', h', X', e', W', st'⟩ := putFN X hx hZ hown w Via.refl eT F E L wi hty hn hf (g := mkF m pc Ls (v :: .ref a :: st)) rfl rfl hd
  exact Go.of st' (K _ _ _ X' (Fr.snoc X' N ga) e' W' (F.same W'))
theorem Go.initO (X : Stand p l e R s m args below meth c T locs cells slots) (hx : p.tables.exec = Jvm.exec) (hZ : Z.Warmed39 s.vm) {own : String} {idx : Nat} (hown : s.vm.findClass own = some m.cls) (w1 : (Jvm.Cond.methodLink own idx Lib.objectInit).before a0 Z = true) (w2 : (Jvm.Cond.instanceMethod Lib.objectInit).before a0 Z = true)
    (w3 : (Jvm.Cond.code Lib.objectInit Jvm.LibCode.Object.Init0.code 1 none).before a0 Z = true) (eT : T.heap = h) {pc : Nat} {Ls : Array Slot} {st : List Value} (hsize : Ls.size = c.maxLocals) {a : Addr} (hd : decode c.code pc = .ok (.invokespecial idx, 3)) (hf : 1 ≤ R.frames) {V : Nat} (hV : (st.map fun v => v.category).sum ≤ V) (hl : V + 12 ≤ R.locals)
    (K : ∀ T', Stand p l e R s m args below meth c T' locs cells slots → T'.heap = h → Go p e below W T' (mkF m (pc + 3) Ls st)) : Go p e below W T (mkF m pc Ls (.ref a :: st)) := by
  obtain ⟨T', X', e', st'⟩ := Jvm.RoadKit.initO X hx hZ hown w1 w2 w3 eT (g := mkF m pc Ls (.ref a :: st)) rfl hsize rfl hd hf (W := V) (by show 2 * 0 + _ ≤ _; omega) hl
  exact Go.of st' (K _ X' e')
/-- a constructor by its contract -/
theorem Go.callI (X : Stand p l e R s m args below meth c T locs cells slots) (hx : p.tables.exec = Jvm.exec) (hZ : Z.Warmed39 s.vm) {own : String} {index : Nat} {y : MethodName} {bytes : ByteArray} {maxL : Nat} {rm : Room} {as' : Array Value} {Q : Option Value → Heap → List Loc → Prop} (hy1 : y.name = "<init>") (hown : s.vm.findClass own = some m.cls)
    (w1 : (Jvm.Cond.methodLink own index y).before a0 Z = true) (w2 : (Jvm.Cond.instanceMethod y).before a0 Z = true) (w3 : (Jvm.Cond.initialized y.cls).before a0 Z = true) (w4 : (Jvm.Cond.code y bytes maxL none).before a0 Z = true) (hy : y.cls ≠ "java/lang/invoke/MethodHandle" ∧ y.cls ≠ "java/lang/invoke/VarHandle") (eT : T.heap = h)
    (hM : Con l Z y bytes maxL none [] rm as' h Q) {V : Nat} (hf : rm.frames + 1 ≤ R.frames) (hl : V + (maxL + 11) + rm.locals ≤ R.locals) (hc : cells + rm.cells ≤ R.cells) (hs : slots + rm.slots ≤ R.slots)
    {pc : Nat} {Ls : Array Slot} {st : List Value} (hsize : Ls.size = c.maxLocals) {a : Addr} {argsL rest : List Value} (has : (.ref a :: argsL).toArray = as') (hlen : ∀ sig, parseMethodDescriptor y.desc = some sig → argsL.length = sig.parameters.length) (hstack : st = argsL.reverse ++ .ref a :: rest) (hV : (rest.map fun v => v.category).sum ≤ V) (hd : decode c.code pc = .ok (.invokespecial index, 3))
    (K : ∀ T' v L, Q v T'.heap L → Stand p l e R s m args below meth c T' (locs ++ L) (cells + rm.cells) (slots + rm.slots) → Go p e below W T' (mkF m (pc + 3) Ls (v.toList ++ rest))) : Go p e below W T (mkF m pc Ls st) := by
  obtain ⟨v, vm₁, ⟨T', L', k', n'⟩, -, X', ⟨L, hQ, e1, e2, e3⟩, st'⟩ := X.specialBack hx hy1 hown (mvT hZ w1) (mvT hZ w2) (mvT hZ w4) hy (backOf (W := V) hM hZ w4 w3 hf hl) (g := mkF m pc Ls st) rfl hsize (Steps.refl _) hlen hstack (by show 2 * 0 + _ ≤ _; omega) hd (fun _ _ => ⟨has, eT, hc, hs⟩)
  dsimp only [Pt.U, Pt.locs, Pt.cells, Pt.slots] at X' e1 e2 e3 st' hQ
  subst e1 e2 e3
  exact Go.of (fun _ k => st'.trans k) (K _ _ _ hQ X')
/-- an instance method by the contract of the body that the receiver's class selects -/
theorem Go.callV (X : Stand p l e R s m args below meth c T locs cells slots) (hx : p.tables.exec = Jvm.exec) (hZ : Z.Warmed39 s.vm) {own C : String} {index : Nat} {y : MethodName} {bytes : ByteArray} {maxL : Nat} {ret : Option FieldType} {rm : Room} {as' : Array Value} {Q : Option Value → Heap → List Loc → Prop} (hown : s.vm.findClass own = some m.cls)
    (w1 : (Jvm.Cond.methodLink own index y).before a0 Z = true) (w5 : (Jvm.Cond.declares y).before a0 Z = true) (w6 : (Jvm.Cond.selects C y y).before a0 Z = true) (w2 : (Jvm.Cond.instanceMethod y).before a0 Z = true) (w3 : (Jvm.Cond.initialized y.cls).before a0 Z = true) (w4 : (Jvm.Cond.code y bytes maxL ret).before a0 Z = true) (hy : y.cls ≠ "java/lang/invoke/MethodHandle" ∧ y.cls ≠ "java/lang/invoke/VarHandle") (eT : T.heap = h)
    {a : Addr} (E : Exa Z h a C) (hM : Con l Z y bytes maxL ret [] rm as' h Q) {V : Nat} (hf : rm.frames + 1 ≤ R.frames) (hl : V + (maxL + 11) + rm.locals ≤ R.locals) (hc : cells + rm.cells ≤ R.cells) (hs : slots + rm.slots ≤ R.slots)
    {pc : Nat} {Ls : Array Slot} {st : List Value} (hsize : Ls.size = c.maxLocals) {argsL rest : List Value} (has : (.ref a :: argsL).toArray = as') (hlen : ∀ sig, parseMethodDescriptor y.desc = some sig → argsL.length = sig.parameters.length) (hstack : st = argsL.reverse ++ .ref a :: rest) (hV : (rest.map fun v => v.category).sum ≤ V) (hd : decode c.code pc = .ok (.invokevirtual index, 3))
    (K : ∀ T' v L, Q v T'.heap L → Stand p l e R s m args below meth c T' (locs ++ L) (cells + rm.cells) (slots + rm.slots) → Go p e below W T' (mkF m (pc + 3) Ls (v.toList ++ rest))) : Go p e below W T (mkF m pc Ls st) := by
  obtain ⟨cq, kq, qa, qb, qc⟩ := isOf hZ eT E
  obtain ⟨v, vm₁, ⟨T', L', k', n'⟩, -, X', ⟨L, hQ, e1, e2, e3⟩, st'⟩ := X.virtualBack hx hown (mvT hZ w1) (mvT hZ w5) (notFace_of_selects (args := #[]) (mvT hZ w6)) (mvT hZ w6) (mvT hZ w2) hy (backOf (W := V) hM hZ w4 w3 hf hl) qa qc (g := mkF m pc Ls st) rfl hsize (Steps.refl _) hlen hstack (by show 2 * 0 + _ ≤ _; omega) hd (fun _ _ => ⟨has, eT, hc, hs⟩)
  dsimp only [Pt.U, Pt.locs, Pt.cells, Pt.slots] at X' e1 e2 e3 st' hQ
  subst e1 e2 e3
  exact Go.of (fun _ k => st'.trans k) (K _ _ _ hQ X')
end OwnHeap
theorem pd__J_V : parseMethodDescriptor "(J)V" = some ⟨[.long], none⟩ := by decide +kernel
theorem pd___Z : parseMethodDescriptor "()Z" = some ⟨[], some .boolean⟩ := by decide +kernel
theorem pd__J_Z : parseMethodDescriptor "(J)Z" = some ⟨[.long], some .boolean⟩ := by decide +kernel
theorem d1_0 : decode prog_137_method_2_code 0 = .ok (.aload_n 0, 1) := by decide +kernel
theorem d1_1 : decode prog_137_method_2_code 1 = .ok (.invokespecial 9, 3) := by decide +kernel
theorem d1_4 : decode prog_137_method_2_code 4 = .ok (.aload_n 0, 1) := by decide +kernel
theorem d1_5 : decode prog_137_method_2_code 5 = .ok (.iconst 1, 1) := by decide +kernel
theorem d1_6 : decode prog_137_method_2_code 6 = .ok (.putfield 14, 3) := by decide +kernel
theorem d1_9 : decode prog_137_method_2_code 9 = .ok (.aload_n 0, 1) := by decide +kernel
theorem d1_10 : decode prog_137_method_2_code 10 = .ok (.lload_n 1, 1) := by decide +kernel
theorem d1_11 : decode prog_137_method_2_code 11 = .ok (.putfield 18, 3) := by decide +kernel
theorem d1_14 : decode prog_137_method_2_code 14 = .ok (.return_, 1) := by decide +kernel
theorem pn_1 : plainFor (⟨"com/example/redefine/redefine/assessment/PatternWork", "<init>", "(J)V"⟩ : MethodName) = true := plainFor_of_name (by show plainName "com/example/redefine/redefine/assessment/PatternWork" = true; first | (simp [plainName, overriddenIn]; done) | decide +kernel)
theorem ef_1 (m : MethodId) (a1 : Addr) (q2 : Int64) : entryFrame m #[(.ref a1), (.long q2)] 3 = mkF m 0 #[.val (.ref a1), .val (.long q2), .second] [] := by first | (simp [entryFrame, mkF, argsToLocals, Value.category]; done) | rfl
def Q1 (Z : State) (a1 : Addr) (q2 : Int64) (h0 : Heap) (n0 : Nat) (v : Option Value) (h : Heap) (L : List Loc) : Prop := v = none ∧ Fr n0 L ∧ Keep h0 h [a1] ∧ Fld Z h a1 "com/example/redefine/redefine/assessment/PatternWork" "bounded" "Z" (.int (1 : Int32)) ∧ Fld Z h a1 "com/example/redefine/redefine/assessment/PatternWork" "left" "J" (.long q2) ∧ Fld Z h a1 "com/example/redefine/redefine/assessment/PatternWork" "spent" "Z" (.int (0 : Int32))
theorem d3_0 : decode prog_137_method_5_code 0 = .ok (.aload_n 0, 1) := by decide +kernel
theorem d3_1 : decode prog_137_method_5_code 1 = .ok (.getfield 22, 3) := by decide +kernel
theorem d3_4 : decode prog_137_method_5_code 4 = .ok (.ireturn, 1) := by decide +kernel
theorem pn_3 : plainFor (⟨"com/example/redefine/redefine/assessment/PatternWork", "isSpent", "()Z"⟩ : MethodName) = true := plainFor_of_name (by show plainName "com/example/redefine/redefine/assessment/PatternWork" = true; first | (simp [plainName, overriddenIn]; done) | decide +kernel)
theorem ef_3 (m : MethodId) (a1 : Addr) : entryFrame m #[(.ref a1)] 1 = mkF m 0 #[.val (.ref a1)] [] := by first | (simp [entryFrame, mkF, argsToLocals, Value.category]; done) | rfl
def f3 (sp : Int32) : Int32 := (nar .boolean sp)
theorem d4_0 : decode prog_137_method_4_code 0 = .ok (.aload_n 0, 1) := by decide +kernel
theorem d4_1 : decode prog_137_method_4_code 1 = .ok (.getfield 14, 3) := by decide +kernel
theorem d4_4 : decode prog_137_method_4_code 4 = .ok (.ifCond .eq 12, 3) := by decide +kernel
theorem d4_7 : decode prog_137_method_4_code 7 = .ok (.lload_n 1, 1) := by decide +kernel
theorem d4_8 : decode prog_137_method_4_code 8 = .ok (.aload_n 0, 1) := by decide +kernel
theorem d4_9 : decode prog_137_method_4_code 9 = .ok (.getfield 18, 3) := by decide +kernel
theorem d4_12 : decode prog_137_method_4_code 12 = .ok (.lcmp, 1) := by decide +kernel
theorem d4_13 : decode prog_137_method_4_code 13 = .ok (.ifCond .gt 7, 3) := by decide +kernel
theorem d4_16 : decode prog_137_method_4_code 16 = .ok (.iconst 1, 1) := by decide +kernel
theorem d4_17 : decode prog_137_method_4_code 17 = .ok (.goto 4, 3) := by decide +kernel
theorem d4_20 : decode prog_137_method_4_code 20 = .ok (.iconst 0, 1) := by decide +kernel
theorem d4_21 : decode prog_137_method_4_code 21 = .ok (.istore_n 3, 1) := by decide +kernel
theorem d4_22 : decode prog_137_method_4_code 22 = .ok (.iload_n 3, 1) := by decide +kernel
theorem d4_23 : decode prog_137_method_4_code 23 = .ok (.ifCond .ne 11, 3) := by decide +kernel
theorem d4_26 : decode prog_137_method_4_code 26 = .ok (.aload_n 0, 1) := by decide +kernel
theorem d4_27 : decode prog_137_method_4_code 27 = .ok (.iconst 1, 1) := by decide +kernel
theorem d4_28 : decode prog_137_method_4_code 28 = .ok (.putfield 22, 3) := by decide +kernel
theorem d4_31 : decode prog_137_method_4_code 31 = .ok (.goto 20, 3) := by decide +kernel
theorem d4_34 : decode prog_137_method_4_code 34 = .ok (.aload_n 0, 1) := by decide +kernel
theorem d4_35 : decode prog_137_method_4_code 35 = .ok (.getfield 14, 3) := by decide +kernel
theorem d4_38 : decode prog_137_method_4_code 38 = .ok (.ifCond .eq 13, 3) := by decide +kernel
theorem d4_41 : decode prog_137_method_4_code 41 = .ok (.aload_n 0, 1) := by decide +kernel
theorem d4_42 : decode prog_137_method_4_code 42 = .ok (.dup, 1) := by decide +kernel
theorem d4_43 : decode prog_137_method_4_code 43 = .ok (.getfield 18, 3) := by decide +kernel
theorem d4_46 : decode prog_137_method_4_code 46 = .ok (.lload_n 1, 1) := by decide +kernel
theorem d4_47 : decode prog_137_method_4_code 47 = .ok (.lsub, 1) := by decide +kernel
theorem d4_48 : decode prog_137_method_4_code 48 = .ok (.putfield 18, 3) := by decide +kernel
theorem d4_51 : decode prog_137_method_4_code 51 = .ok (.iload_n 3, 1) := by decide +kernel
theorem d4_52 : decode prog_137_method_4_code 52 = .ok (.ireturn, 1) := by decide +kernel
theorem pn_4 : plainFor (⟨"com/example/redefine/redefine/assessment/PatternWork", "take", "(J)Z"⟩ : MethodName) = true := plainFor_of_name (by show plainName "com/example/redefine/redefine/assessment/PatternWork" = true; first | (simp [plainName, overriddenIn]; done) | decide +kernel)
theorem ef_4 (m : MethodId) (a1 : Addr) (q2 : Int64) : entryFrame m #[(.ref a1), (.long q2)] 4 = mkF m 0 #[.val (.ref a1), .val (.long q2), .second, .unset] [] := by first | (simp [entryFrame, mkF, argsToLocals, Value.category]; done) | rfl
def v4_5 (q2 : Int64) (lf : Int64) (sp : Int32) : Int32 := (if lf < q2 then (0 : Int32) else (1 : Int32))
def v4_10 (q2 : Int64) (lf : Int64) (sp : Int32) : Int64 := (lf - q2)
def f4 (q2 : Int64) (lf : Int64) (sp : Int32) : Int32 := (if (v4_5 q2 lf sp) = (0 : Int32) then (nar .boolean (v4_5 q2 lf sp)) else (nar .boolean (v4_5 q2 lf sp)))
def f4_left (q2 : Int64) (lf : Int64) (sp : Int32) : Int64 := (if (v4_5 q2 lf sp) = (0 : Int32) then lf else (v4_10 q2 lf sp))
def f4_spent (q2 : Int64) (lf : Int64) (sp : Int32) : Int32 := (if (v4_5 q2 lf sp) = (0 : Int32) then (1 : Int32) else sp)
def Q4 (Z : State) (a1 : Addr) (q2 : Int64) (lf : Int64) (sp : Int32) (h0 : Heap) (n0 : Nat) (v : Option Value) (h : Heap) (L : List Loc) : Prop := v = some (.int (f4 q2 lf sp)) ∧ Fr n0 L ∧ Keep h0 h [a1] ∧ Fld Z h a1 "com/example/redefine/redefine/assessment/PatternWork" "bounded" "Z" (.int (1 : Int32)) ∧ Fld Z h a1 "com/example/redefine/redefine/assessment/PatternWork" "left" "J" (.long (f4_left q2 lf sp)) ∧ Fld Z h a1 "com/example/redefine/redefine/assessment/PatternWork" "spent" "Z" (.int (f4_spent q2 lf sp))
theorem pn_0 : plainFor x = true := plainFor_of_name (by show plainName "com/example/redefine/redefine/assessment/PatternWorkTakePinLaw" = true; first | (simp [plainName, overriddenIn]; done) | decide +kernel)
theorem ef_0 (m : MethodId) (q1 : Int64) (q2 : Int64) (q3 : Int64) (q4 : Int64) : entryFrame m #[(.long q1), (.long q2), (.long q3), (.long q4)] maxLocals = mkF m 0 #[.val (.long q1), .second, .val (.long q2), .second, .val (.long q3), .second, .val (.long q4), .second, .unset, .unset, .unset, .unset, .unset, .unset, .unset, .unset, .unset, .unset, .unset, .unset, .unset, .unset, .unset, .unset, .unset, .unset, .unset, .unset, .unset, .unset, .unset, .unset] [] := by first | (simp [entryFrame, mkF, argsToLocals, Value.category, maxLocals]; done) | rfl
def v0_1 (q1 : Int64) (q2 : Int64) (q3 : Int64) (q4 : Int64) : Int64 := (q2 &&& (9223372036854775807 : Int64))
def v0_2 (q1 : Int64) (q2 : Int64) (q3 : Int64) (q4 : Int64) : Int64 := (q3 &&& (9223372036854775807 : Int64))
def v0_3 (q1 : Int64) (q2 : Int64) (q3 : Int64) (q4 : Int64) : Int64 := (q4 &&& (9223372036854775807 : Int64))
def v0_7 (q1 : Int64) (q2 : Int64) (q3 : Int64) (q4 : Int64) : Int32 := (f3 (0 : Int32))
def v0_9 (q1 : Int64) (q2 : Int64) (q3 : Int64) (q4 : Int64) : Int32 := (f4 (v0_1 q1 q2 q3 q4) q1 (0 : Int32))
def v0_11 (q1 : Int64) (q2 : Int64) (q3 : Int64) (q4 : Int64) : Int32 := (f3 (f4_spent (v0_1 q1 q2 q3 q4) q1 (0 : Int32)))
def v0_13 (q1 : Int64) (q2 : Int64) (q3 : Int64) (q4 : Int64) : Int32 := (f4 (v0_2 q1 q2 q3 q4) (f4_left (v0_1 q1 q2 q3 q4) q1 (0 : Int32)) (f4_spent (v0_1 q1 q2 q3 q4) q1 (0 : Int32)))
def v0_15 (q1 : Int64) (q2 : Int64) (q3 : Int64) (q4 : Int64) : Int32 := (f3 (f4_spent (v0_2 q1 q2 q3 q4) (f4_left (v0_1 q1 q2 q3 q4) q1 (0 : Int32)) (f4_spent (v0_1 q1 q2 q3 q4) q1 (0 : Int32))))
def v0_17 (q1 : Int64) (q2 : Int64) (q3 : Int64) (q4 : Int64) : Int32 := (f4 (v0_3 q1 q2 q3 q4) (f4_left (v0_2 q1 q2 q3 q4) (f4_left (v0_1 q1 q2 q3 q4) q1 (0 : Int32)) (f4_spent (v0_1 q1 q2 q3 q4) q1 (0 : Int32))) (f4_spent (v0_2 q1 q2 q3 q4) (f4_left (v0_1 q1 q2 q3 q4) q1 (0 : Int32)) (f4_spent (v0_1 q1 q2 q3 q4) q1 (0 : Int32))))
def v0_19 (q1 : Int64) (q2 : Int64) (q3 : Int64) (q4 : Int64) : Int32 := (f3 (f4_spent (v0_3 q1 q2 q3 q4) (f4_left (v0_2 q1 q2 q3 q4) (f4_left (v0_1 q1 q2 q3 q4) q1 (0 : Int32)) (f4_spent (v0_1 q1 q2 q3 q4) q1 (0 : Int32))) (f4_spent (v0_2 q1 q2 q3 q4) (f4_left (v0_1 q1 q2 q3 q4) q1 (0 : Int32)) (f4_spent (v0_1 q1 q2 q3 q4) q1 (0 : Int32)))))
def v0_22 (q1 : Int64) (q2 : Int64) (q3 : Int64) (q4 : Int64) : Int32 := (if q1 < (v0_1 q1 q2 q3 q4) then (0 : Int32) else (1 : Int32))
def v0_25 (q1 : Int64) (q2 : Int64) (q3 : Int64) (q4 : Int64) : Int64 := (if (v0_22 q1 q2 q3 q4) = (0 : Int32) then q1 else (q1 - (v0_1 q1 q2 q3 q4)))
def v0_28 (q1 : Int64) (q2 : Int64) (q3 : Int64) (q4 : Int64) : Int32 := (if (v0_25 q1 q2 q3 q4) < (v0_2 q1 q2 q3 q4) then (0 : Int32) else (1 : Int32))
def v0_31 (q1 : Int64) (q2 : Int64) (q3 : Int64) (q4 : Int64) : Int64 := (if (v0_28 q1 q2 q3 q4) = (0 : Int32) then (v0_25 q1 q2 q3 q4) else ((v0_25 q1 q2 q3 q4) - (v0_2 q1 q2 q3 q4)))
def v0_34 (q1 : Int64) (q2 : Int64) (q3 : Int64) (q4 : Int64) : Int32 := (if (v0_31 q1 q2 q3 q4) < (v0_3 q1 q2 q3 q4) then (0 : Int32) else (1 : Int32))
def v0_37 (q1 : Int64) (q2 : Int64) (q3 : Int64) (q4 : Int64) : Int32 := (if (v0_22 q1 q2 q3 q4) = (0 : Int32) then (1 : Int32) else (0 : Int32))
def v0_41 (q1 : Int64) (q2 : Int64) (q3 : Int64) (q4 : Int64) : Int32 := (if (v0_37 q1 q2 q3 q4) = (0 : Int32) then (if (v0_28 q1 q2 q3 q4) = (0 : Int32) then (1 : Int32) else (0 : Int32)) else (1 : Int32))
def v0_45 (q1 : Int64) (q2 : Int64) (q3 : Int64) (q4 : Int64) : Int32 := (if (v0_41 q1 q2 q3 q4) = (0 : Int32) then (if (v0_34 q1 q2 q3 q4) = (0 : Int32) then (1 : Int32) else (0 : Int32)) else (1 : Int32))
def f0 (q1 : Int64) (q2 : Int64) (q3 : Int64) (q4 : Int64) : Int32 := (if (v0_7 q1 q2 q3 q4) = (0 : Int32) then (if (v0_9 q1 q2 q3 q4) = (v0_22 q1 q2 q3 q4) then (if (v0_11 q1 q2 q3 q4) = (v0_37 q1 q2 q3 q4) then (if (v0_13 q1 q2 q3 q4) = (v0_28 q1 q2 q3 q4) then (if (v0_15 q1 q2 q3 q4) = (v0_41 q1 q2 q3 q4) then (if (v0_17 q1 q2 q3 q4) = (v0_34 q1 q2 q3 q4) then (if (v0_19 q1 q2 q3 q4) = (v0_45 q1 q2 q3 q4) then (1 : Int32) else (0 : Int32)) else (0 : Int32)) else (0 : Int32)) else (0 : Int32)) else (0 : Int32)) else (0 : Int32)) else (0 : Int32))
def Q0 (Z : State) (q1 : Int64) (q2 : Int64) (q3 : Int64) (q4 : Int64) (h0 : Heap) (n0 : Nat) (v : Option Value) (h : Heap) (L : List Loc) : Prop := v = some (.int (f0 q1 q2 q3 q4)) ∧ Fr n0 L ∧ Keep h0 h []
theorem own_f4 (u l : Int64) (s : Int32) : f4 u l s = (if l < u then 0 else 1) ∧ f4_left u l s = (if l < u then l else l - u) ∧ f4_spent u l s = (if l < u then 1 else s) := by
  have d : ¬ (1 : Int32) = 0 := by decide
  simp only [f4, f4_left, f4_spent, v4_5, v4_10]
  by_cases h : l < u
  · simp only [if_pos h, if_true, and_self]; exact ⟨rfl, trivial⟩
  · simp only [if_neg h, if_neg d, and_self]; exact ⟨rfl, trivial⟩
theorem own_f3 (c : Prop) [Decidable c] (s : Int32) : f3 (if c then 1 else s) = if c then 1 else f3 s := by
  by_cases h : c
  · rw [if_pos h, if_pos h]; rfl
  · rw [if_neg h, if_neg h]
theorem own_law (q1 q2 q3 q4 : Int64) : f0 q1 q2 q3 q4 = 1 := by
  have d : ¬ (1 : Int32) = 0 := by decide
  have z : f3 0 = 0 := rfl
  simp only [f0, v0_7, v0_9, v0_11, v0_13, v0_15, v0_17, v0_19, v0_22, v0_25, v0_28, v0_31, v0_34, v0_37, v0_41, v0_45, (own_f4 _ _ _).1, (own_f4 _ _ _).2.1, (own_f4 _ _ _).2.2, own_f3, z]
  by_cases h1 : q1 < v0_1 q1 q2 q3 q4
  · simp only [if_pos h1, if_true]
    by_cases h2 : q1 < v0_2 q1 q2 q3 q4
    · simp only [if_pos h2, if_true]
      by_cases h3 : q1 < v0_3 q1 q2 q3 q4
      · simp only [if_pos h3, if_true, if_neg d]
      · simp only [if_neg h3, if_true, if_neg d]
    · simp only [if_neg h2, if_true, if_neg d]
      by_cases h3 : q1 - v0_2 q1 q2 q3 q4 < v0_3 q1 q2 q3 q4
      · simp only [if_pos h3, if_true, if_neg d]
      · simp only [if_neg h3, if_true, if_neg d]
  · simp only [if_neg h1, if_true, if_neg d]
    by_cases h2 : q1 - v0_1 q1 q2 q3 q4 < v0_2 q1 q2 q3 q4
    · simp only [if_pos h2, if_true, if_neg d]
      by_cases h3 : q1 - v0_1 q1 q2 q3 q4 < v0_3 q1 q2 q3 q4
      · simp only [if_pos h3, if_true, if_neg d]
      · simp only [if_neg h3, if_true, if_neg d]
    · simp only [if_neg h2, if_true, if_neg d]
      by_cases h3 : q1 - v0_1 q1 q2 q3 q4 - v0_2 q1 q2 q3 q4 < v0_3 q1 q2 q3 q4
      · simp only [if_pos h3, if_true, if_neg d]
      · simp only [if_neg h3, if_true, if_neg d]
set_option maxRecDepth 65536 in
set_option maxHeartbeats 40000000 in
theorem rm1 (l : Launch) (Z : State) (a0 : Array Value) (hw : ∀ d ∈ tables_1, d.before a0 Z = true) (ws : List Jvm.Cond) (a1 : Addr) (q2 : Int64) (h0 : Heap) (n0 : Nat) (Z0 : n0 ≤ h0.size) (E_a1 : Exa Z h0 a1 "com/example/redefine/redefine/assessment/PatternWork") (F_a1_bounded : Fld Z h0 a1 "com/example/redefine/redefine/assessment/PatternWork" "bounded" "Z" (.int (0 : Int32))) (F_a1_left : Fld Z h0 a1 "com/example/redefine/redefine/assessment/PatternWork" "left" "J" (.long (0 : Int64))) (F_a1_spent : Fld Z h0 a1 "com/example/redefine/redefine/assessment/PatternWork" "spent" "Z" (.int (0 : Int32))) (g_a1 : n0 ≤ a1) :
    Con l Z (⟨"com/example/redefine/redefine/assessment/PatternWork", "<init>", "(J)V"⟩ : MethodName) prog_137_method_2_code 3 none ws ({ frames := 1, cells := 0, slots := 0, locals := 12 } : Room) #[(.ref a1), (.long q2)] h0 (Q1 Z a1 q2 h0 n0) := by
  refine own_body pn_1 (fun m => ef_1 m a1 q2) ?_
  intro p e s m below meth c T0 W X0 hx hby hml hret hlk hown hnm hZ e0 hW
  have K : Keep h0 h0 [a1] := Keep.refl _ _
  have N := Fr.nil n0
  show Go p e below W T0 (mkF m 0 #[.val (.ref a1), .val (.long q2), .second] [])
  refine Go.of (fun _ k => XS.aloadN X0.here hx rfl (hb hby d1_0) rfl rfl k) ?_
  show Go p e below W T0 (mkF m 1 #[.val (.ref a1), .val (.long q2), .second] [(.ref a1)])
  refine Go.initO X0 hx hZ hown (hw _ (List.mem_of_getElem? (i := 7) rfl)) (hw _ (List.mem_of_getElem? (i := 8) rfl)) (hw _ (List.mem_of_getElem? (i := 9) rfl)) e0 (by rw [hml]; rfl) (hb hby d1_1) (by decide) (V := 0) (Nat.le_of_ble_eq_true rfl) (by decide) ?_
  intro T1 X1 e1
  show Go p e below W T1 (mkF m 4 #[.val (.ref a1), .val (.long q2), .second] [])
  refine Go.of (fun _ k => XS.aloadN X1.here hx rfl (hb hby d1_4) rfl rfl k) ?_
  show Go p e below W T1 (mkF m 5 #[.val (.ref a1), .val (.long q2), .second] [(.ref a1)])
  refine Go.of (fun _ k => XS.iconst X1.here hx rfl (hb hby d1_5) k) ?_
  show Go p e below W T1 (mkF m 6 #[.val (.ref a1), .val (.long q2), .second] [(.int (1 : Int32)), (.ref a1)])
  refine Go.putF X1 hx hZ hown (hw _ (List.mem_of_getElem? (i := 10) rfl)) e1 N g_a1 F_a1_bounded E_a1 (Or.inr ⟨(hw _ (List.mem_of_getElem? (i := 11) rfl)), rfl, hnm⟩) (hw _ (List.mem_of_getElem? (i := 2) rfl)) (ty := .boolean) (by decide) (v' := (.int (1 : Int32))) rfl rfl (hb hby d1_6) ?_
  intro T2 h2 L2 X2 N e2 W2 F_a1_bounded
  have E_a1 := E_a1.wr W2
  have F_a1_left := F_a1_left.other W2 (Or.inr (slot_ne (Or.inl (hw _ (List.mem_of_getElem? (i := 13) rfl))) (Or.inr (hw _ (List.mem_of_getElem? (i := 11) rfl))) (by decide) (t := .long) (t' := .boolean) (by decide) (by decide)))
  have F_a1_spent := F_a1_spent.other W2 (Or.inr (slot_ne (Or.inl (hw _ (List.mem_of_getElem? (i := 20) rfl))) (Or.inr (hw _ (List.mem_of_getElem? (i := 11) rfl))) (by decide) (t := .boolean) (t' := .boolean) (by decide) (by decide)))
  have K := K.wr W2 (Or.inl (List.mem_of_getElem? (i := 0) rfl))
  have Z0 := Nat.le_trans Z0 (Keep.of_wr W2).1
  show Go p e below W T2 (mkF m 9 #[.val (.ref a1), .val (.long q2), .second] [])
  refine Go.of (fun _ k => XS.aloadN X2.here hx rfl (hb hby d1_9) rfl rfl k) ?_
  show Go p e below W T2 (mkF m 10 #[.val (.ref a1), .val (.long q2), .second] [(.ref a1)])
  refine Go.of (fun _ k => XS.lloadN X2.here hx rfl (hb hby d1_10) rfl k) ?_
  show Go p e below W T2 (mkF m 11 #[.val (.ref a1), .val (.long q2), .second] [(.long q2), (.ref a1)])
  refine Go.putF X2 hx hZ hown (hw _ (List.mem_of_getElem? (i := 12) rfl)) e2 N g_a1 F_a1_left E_a1 (Or.inl (hw _ (List.mem_of_getElem? (i := 13) rfl))) (hw _ (List.mem_of_getElem? (i := 2) rfl)) (ty := .long) (by decide) (v' := (.long q2)) rfl rfl (hb hby d1_11) ?_
  intro T3 h3 L3 X3 N e3 W3 F_a1_left
  have E_a1 := E_a1.wr W3
  have F_a1_bounded := F_a1_bounded.other W3 (Or.inr (slot_ne (Or.inr (hw _ (List.mem_of_getElem? (i := 11) rfl))) (Or.inl (hw _ (List.mem_of_getElem? (i := 13) rfl))) (by decide) (t := .boolean) (t' := .long) (by decide) (by decide)))
  have F_a1_spent := F_a1_spent.other W3 (Or.inr (slot_ne (Or.inl (hw _ (List.mem_of_getElem? (i := 20) rfl))) (Or.inl (hw _ (List.mem_of_getElem? (i := 13) rfl))) (by decide) (t := .boolean) (t' := .long) (by decide) (by decide)))
  have K := K.wr W3 (Or.inl (List.mem_of_getElem? (i := 0) rfl))
  have Z0 := Nat.le_trans Z0 (Keep.of_wr W3).1
  show Go p e below W T3 (mkF m 14 #[.val (.ref a1), .val (.long q2), .second] [])
  have fin : Q1 Z a1 q2 h0 n0 (none) h3 L3 := ⟨rfl, N, K, F_a1_bounded, F_a1_left, F_a1_spent⟩
  exact Go.retV X3 hx hret (hb hby d1_14) hlk (fun t ht fe => hW t _ _ _ _ (by rw [ht, e3]; exact fin) fe (by decide) (by decide))
set_option maxRecDepth 65536 in
set_option maxHeartbeats 40000000 in
theorem rm3 (l : Launch) (Z : State) (a0 : Array Value) (hw : ∀ d ∈ tables_1, d.before a0 Z = true) (ws : List Jvm.Cond) (a1 : Addr) (sp : Int32) (h0 : Heap) (F_a1_spent : Fld Z h0 a1 "com/example/redefine/redefine/assessment/PatternWork" "spent" "Z" (.int sp)) :
    Con l Z (⟨"com/example/redefine/redefine/assessment/PatternWork", "isSpent", "()Z"⟩ : MethodName) prog_137_method_5_code 1 (some .boolean) ws ({ frames := 0, cells := 0, slots := 0, locals := 0 } : Room) #[(.ref a1)] h0 (PQ (.int (f3 sp)) h0) := by
  refine own_body pn_3 (fun m => ef_3 m a1) ?_
  intro p e s m below meth c T0 W X0 hx hby hml hret hlk hown hnm hZ e0 hW
  show Go p e below W T0 (mkF m 0 #[.val (.ref a1)] [])
  refine Go.of (fun _ k => XS.aloadN X0.here hx rfl (hb hby d3_0) rfl rfl k) ?_
  show Go p e below W T0 (mkF m 1 #[.val (.ref a1)] [(.ref a1)])
  refine Go.getF X0 hx hZ hown (hw _ (List.mem_of_getElem? (i := 19) rfl)) e0 F_a1_spent (hb hby d3_1) ?_
  intro T1 X1 e1
  show Go p e below W T1 (mkF m 4 #[.val (.ref a1)] [(.int sp)])
  have u_f3 : (f3 sp) = (nar .boolean sp) := by rw [f3]
  exact Go.retN X1 hx hret (Or.inl rfl) (hb hby d3_4) hlk (Eq.trans rfl u_f3.symm) (fun t ht fe => hW t _ _ _ _ ⟨rfl, rfl, ht.trans e1⟩ fe (by decide) (by decide))
set_option maxRecDepth 65536 in
set_option maxHeartbeats 40000000 in
theorem rm4 (l : Launch) (Z : State) (a0 : Array Value) (hw : ∀ d ∈ tables_1, d.before a0 Z = true) (ws : List Jvm.Cond) (a1 : Addr) (q2 : Int64) (lf : Int64) (sp : Int32) (h0 : Heap) (n0 : Nat) (Z0 : n0 ≤ h0.size) (E_a1 : Exa Z h0 a1 "com/example/redefine/redefine/assessment/PatternWork") (F_a1_bounded : Fld Z h0 a1 "com/example/redefine/redefine/assessment/PatternWork" "bounded" "Z" (.int (1 : Int32))) (F_a1_left : Fld Z h0 a1 "com/example/redefine/redefine/assessment/PatternWork" "left" "J" (.long lf)) (F_a1_spent : Fld Z h0 a1 "com/example/redefine/redefine/assessment/PatternWork" "spent" "Z" (.int sp)) (g_a1 : n0 ≤ a1) :
    Con l Z (⟨"com/example/redefine/redefine/assessment/PatternWork", "take", "(J)Z"⟩ : MethodName) prog_137_method_4_code 4 (some .boolean) ws ({ frames := 0, cells := 0, slots := 0, locals := 0 } : Room) #[(.ref a1), (.long q2)] h0 (Q4 Z a1 q2 lf sp h0 n0) := by
  refine own_body pn_4 (fun m => ef_4 m a1 q2) ?_
  intro p e s m below meth c T0 W X0 hx hby hml hret hlk hown hnm hZ e0 hW
  have K : Keep h0 h0 [a1] := Keep.refl _ _
  have N := Fr.nil n0
  show Go p e below W T0 (mkF m 0 #[.val (.ref a1), .val (.long q2), .second, .unset] [])
  refine Go.of (fun _ k => XS.aloadN X0.here hx rfl (hb hby d4_0) rfl rfl k) ?_
  show Go p e below W T0 (mkF m 1 #[.val (.ref a1), .val (.long q2), .second, .unset] [(.ref a1)])
  refine Go.getF X0 hx hZ hown (hw _ (List.mem_of_getElem? (i := 10) rfl)) e0 F_a1_bounded (hb hby d4_1) ?_
  intro T1 X1 e1
  show Go p e below W T1 (mkF m 4 #[.val (.ref a1), .val (.long q2), .second, .unset] [(.int (1 : Int32))])
  refine Go.of (fun _ k => XS.ifNo X1.here hx rfl (hb hby d4_4) rfl (Jvm.Free.XT.i0_eq_f (by decide)) k) ?_
  show Go p e below W T1 (mkF m 7 #[.val (.ref a1), .val (.long q2), .second, .unset] [])
  refine Go.of (fun _ k => XS.lloadN X1.here hx rfl (hb hby d4_7) rfl k) ?_
  show Go p e below W T1 (mkF m 8 #[.val (.ref a1), .val (.long q2), .second, .unset] [(.long q2)])
  refine Go.of (fun _ k => XS.aloadN X1.here hx rfl (hb hby d4_8) rfl rfl k) ?_
  show Go p e below W T1 (mkF m 9 #[.val (.ref a1), .val (.long q2), .second, .unset] [(.ref a1), (.long q2)])
  refine Go.getF X1 hx hZ hown (hw _ (List.mem_of_getElem? (i := 12) rfl)) e1 F_a1_left (hb hby d4_9) ?_
  intro T2 X2 e2
  show Go p e below W T2 (mkF m 12 #[.val (.ref a1), .val (.long q2), .second, .unset] [(.long lf), (.long q2)])
  refine Go.of (fun _ k => XS.lcmp X2.here hx rfl (hb hby d4_12) rfl k) ?_
  show Go p e below W T2 (mkF m 13 #[.val (.ref a1), .val (.long q2), .second, .unset] [(.int (Jvm.Free.XT.cmpL q2 lf))])
  suffices G4 : ∀ T', Stand p l e ({ frames := 0, cells := 0, slots := 0, locals := 0 } : Room) s m #[(.ref a1), (.long q2)] below meth c T' [] 0 0 → T'.heap = h0 → Go p e below W T' (mkF m 21 #[.val (.ref a1), .val (.long q2), .second, .unset] [(.int (v4_5 q2 lf sp))]) by
    by_cases c3 : lf < q2
    · refine Go.of (fun _ k => XS.ifYes X2.here hx rfl (pc0 := 13) (pc' := 20) rfl (hb hby d4_13) rfl (Jvm.Free.XT.ll_gt_t c3) (by decide) (by decide) k) ?_
      show Go p e below W T2 (mkF m 20 #[.val (.ref a1), .val (.long q2), .second, .unset] [])
      refine Go.of (fun _ k => XS.iconst X2.here hx rfl (hb hby d4_20) k) ?_
      have G4 := G4
      have q_v4_5 : (v4_5 q2 lf sp) = (0 : Int32) := by rw [v4_5, if_pos c3]
      rw [q_v4_5] at G4
      exact G4 _ X2 e2
    · refine Go.of (fun _ k => XS.ifNo X2.here hx rfl (hb hby d4_13) rfl (Jvm.Free.XT.ll_gt_f c3) k) ?_
      show Go p e below W T2 (mkF m 16 #[.val (.ref a1), .val (.long q2), .second, .unset] [])
      refine Go.of (fun _ k => XS.iconst X2.here hx rfl (hb hby d4_16) k) ?_
      show Go p e below W T2 (mkF m 17 #[.val (.ref a1), .val (.long q2), .second, .unset] [(.int (1 : Int32))])
      refine Go.of (fun _ k => XS.goto X2.here hx rfl (pc0 := 17) (pc' := 21) rfl (hb hby d4_17) (by decide) (by decide) k) ?_
      have G4 := G4
      have q_v4_5 : (v4_5 q2 lf sp) = (1 : Int32) := by rw [v4_5, if_neg c3]
      rw [q_v4_5] at G4
      exact G4 _ X2 e2
  intro T4 X4 e4
  show Go p e below W T4 (mkF m 21 #[.val (.ref a1), .val (.long q2), .second, .unset] [(.int (v4_5 q2 lf sp))])
  refine Go.of (fun _ k => XS.istoreN X4.here hx rfl (hb hby d4_21) rfl (l' := #[.val (.ref a1), .val (.long q2), .second, .val (.int (v4_5 q2 lf sp))]) rfl k) ?_
  show Go p e below W T4 (mkF m 22 #[.val (.ref a1), .val (.long q2), .second, .val (.int (v4_5 q2 lf sp))] [])
  refine Go.of (fun _ k => XS.iloadN X4.here hx rfl (hb hby d4_22) rfl k) ?_
  show Go p e below W T4 (mkF m 23 #[.val (.ref a1), .val (.long q2), .second, .val (.int (v4_5 q2 lf sp))] [(.int (v4_5 q2 lf sp))])
  by_cases c6 : (v4_5 q2 lf sp) = (0 : Int32)
  · refine Go.of (fun _ k => XS.ifNo X4.here hx rfl (hb hby d4_23) rfl (Jvm.Free.XT.i0_ne_f c6) k) ?_
    show Go p e below W T4 (mkF m 26 #[.val (.ref a1), .val (.long q2), .second, .val (.int (v4_5 q2 lf sp))] [])
    refine Go.of (fun _ k => XS.aloadN X4.here hx rfl (hb hby d4_26) rfl rfl k) ?_
    show Go p e below W T4 (mkF m 27 #[.val (.ref a1), .val (.long q2), .second, .val (.int (v4_5 q2 lf sp))] [(.ref a1)])
    refine Go.of (fun _ k => XS.iconst X4.here hx rfl (hb hby d4_27) k) ?_
    show Go p e below W T4 (mkF m 28 #[.val (.ref a1), .val (.long q2), .second, .val (.int (v4_5 q2 lf sp))] [(.int (1 : Int32)), (.ref a1)])
    refine Go.putF X4 hx hZ hown (hw _ (List.mem_of_getElem? (i := 19) rfl)) e4 N g_a1 F_a1_spent E_a1 (Or.inl (hw _ (List.mem_of_getElem? (i := 20) rfl))) (hw _ (List.mem_of_getElem? (i := 2) rfl)) (ty := .boolean) (by decide) (v' := (.int (1 : Int32))) rfl rfl (hb hby d4_28) ?_
    intro T11 h11 L11 X11 N e11 W11 F_a1_spent
    have E_a1 := E_a1.wr W11
    have F_a1_bounded := F_a1_bounded.other W11 (Or.inr (slot_ne (Or.inr (hw _ (List.mem_of_getElem? (i := 11) rfl))) (Or.inl (hw _ (List.mem_of_getElem? (i := 20) rfl))) (by decide) (t := .boolean) (t' := .boolean) (by decide) (by decide)))
    have F_a1_left := F_a1_left.other W11 (Or.inr (slot_ne (Or.inl (hw _ (List.mem_of_getElem? (i := 13) rfl))) (Or.inl (hw _ (List.mem_of_getElem? (i := 20) rfl))) (by decide) (t := .long) (t' := .boolean) (by decide) (by decide)))
    have K := K.wr W11 (Or.inl (List.mem_of_getElem? (i := 0) rfl))
    have Z0 := Nat.le_trans Z0 (Keep.of_wr W11).1
    show Go p e below W T11 (mkF m 31 #[.val (.ref a1), .val (.long q2), .second, .val (.int (v4_5 q2 lf sp))] [])
    refine Go.of (fun _ k => XS.goto X11.here hx rfl (pc0 := 31) (pc' := 51) rfl (hb hby d4_31) (by decide) (by decide) k) ?_
    show Go p e below W T11 (mkF m 51 #[.val (.ref a1), .val (.long q2), .second, .val (.int (v4_5 q2 lf sp))] [])
    refine Go.of (fun _ k => XS.iloadN X11.here hx rfl (hb hby d4_51) rfl k) ?_
    show Go p e below W T11 (mkF m 52 #[.val (.ref a1), .val (.long q2), .second, .val (.int (v4_5 q2 lf sp))] [(.int (v4_5 q2 lf sp))])
    have u_f4 : (f4 q2 lf sp) = (nar .boolean (v4_5 q2 lf sp)) := by rw [f4, if_pos c6]
    have u_f4_left : (f4_left q2 lf sp) = lf := by rw [f4_left, if_pos c6]
    have u_f4_spent : (f4_spent q2 lf sp) = (1 : Int32) := by rw [f4_spent, if_pos c6]
    have fin : Q4 Z a1 q2 lf sp h0 n0 (some (.int (f4 q2 lf sp))) h11 L11 := ⟨rfl, N, K, F_a1_bounded, (by rw [u_f4_left]; exact F_a1_left), (by rw [u_f4_spent]; exact F_a1_spent)⟩
    exact Go.retN X11 hx hret (Or.inl rfl) (hb hby d4_52) hlk (Eq.trans rfl u_f4.symm) (fun t ht fe => hW t _ _ _ _ (by rw [ht, e11]; exact fin) fe (by decide) (by decide))
  · refine Go.of (fun _ k => XS.ifYes X4.here hx rfl (pc0 := 23) (pc' := 34) rfl (hb hby d4_23) rfl (Jvm.Free.XT.i0_ne_t c6) (by decide) (by decide) k) ?_
    show Go p e below W T4 (mkF m 34 #[.val (.ref a1), .val (.long q2), .second, .val (.int (v4_5 q2 lf sp))] [])
    refine Go.of (fun _ k => XS.aloadN X4.here hx rfl (hb hby d4_34) rfl rfl k) ?_
    show Go p e below W T4 (mkF m 35 #[.val (.ref a1), .val (.long q2), .second, .val (.int (v4_5 q2 lf sp))] [(.ref a1)])
    refine Go.getF X4 hx hZ hown (hw _ (List.mem_of_getElem? (i := 10) rfl)) e4 F_a1_bounded (hb hby d4_35) ?_
    intro T7 X7 e7
    show Go p e below W T7 (mkF m 38 #[.val (.ref a1), .val (.long q2), .second, .val (.int (v4_5 q2 lf sp))] [(.int (1 : Int32))])
    refine Go.of (fun _ k => XS.ifNo X7.here hx rfl (hb hby d4_38) rfl (Jvm.Free.XT.i0_eq_f (by decide)) k) ?_
    show Go p e below W T7 (mkF m 41 #[.val (.ref a1), .val (.long q2), .second, .val (.int (v4_5 q2 lf sp))] [])
    refine Go.of (fun _ k => XS.aloadN X7.here hx rfl (hb hby d4_41) rfl rfl k) ?_
    show Go p e below W T7 (mkF m 42 #[.val (.ref a1), .val (.long q2), .second, .val (.int (v4_5 q2 lf sp))] [(.ref a1)])
    refine Go.of (fun _ k => XS.dup X7.here hx rfl (hb hby d4_42) rfl rfl k) ?_
    show Go p e below W T7 (mkF m 43 #[.val (.ref a1), .val (.long q2), .second, .val (.int (v4_5 q2 lf sp))] [(.ref a1), (.ref a1)])
    refine Go.getF X7 hx hZ hown (hw _ (List.mem_of_getElem? (i := 12) rfl)) e7 F_a1_left (hb hby d4_43) ?_
    intro T8 X8 e8
    show Go p e below W T8 (mkF m 46 #[.val (.ref a1), .val (.long q2), .second, .val (.int (v4_5 q2 lf sp))] [(.long lf), (.ref a1)])
    refine Go.of (fun _ k => XS.lloadN X8.here hx rfl (hb hby d4_46) rfl k) ?_
    show Go p e below W T8 (mkF m 47 #[.val (.ref a1), .val (.long q2), .second, .val (.int (v4_5 q2 lf sp))] [(.long q2), (.long lf), (.ref a1)])
    refine Go.of (fun _ k => XS.lsub X8.here hx rfl (hb hby d4_47) rfl k) ?_
    show Go p e below W T8 (mkF m 48 #[.val (.ref a1), .val (.long q2), .second, .val (.int (v4_5 q2 lf sp))] [(.long (lf - q2)), (.ref a1)])
    refine Go.putF X8 hx hZ hown (hw _ (List.mem_of_getElem? (i := 12) rfl)) e8 N g_a1 F_a1_left E_a1 (Or.inl (hw _ (List.mem_of_getElem? (i := 13) rfl))) (hw _ (List.mem_of_getElem? (i := 2) rfl)) (ty := .long) (by decide) (v' := (.long (v4_10 q2 lf sp))) rfl rfl (hb hby d4_48) ?_
    intro T9 h9 L9 X9 N e9 W9 F_a1_left
    have E_a1 := E_a1.wr W9
    have F_a1_bounded := F_a1_bounded.other W9 (Or.inr (slot_ne (Or.inr (hw _ (List.mem_of_getElem? (i := 11) rfl))) (Or.inl (hw _ (List.mem_of_getElem? (i := 13) rfl))) (by decide) (t := .boolean) (t' := .long) (by decide) (by decide)))
    have F_a1_spent := F_a1_spent.other W9 (Or.inr (slot_ne (Or.inl (hw _ (List.mem_of_getElem? (i := 20) rfl))) (Or.inl (hw _ (List.mem_of_getElem? (i := 13) rfl))) (by decide) (t := .boolean) (t' := .long) (by decide) (by decide)))
    have K := K.wr W9 (Or.inl (List.mem_of_getElem? (i := 0) rfl))
    have Z0 := Nat.le_trans Z0 (Keep.of_wr W9).1
    show Go p e below W T9 (mkF m 51 #[.val (.ref a1), .val (.long q2), .second, .val (.int (v4_5 q2 lf sp))] [])
    refine Go.of (fun _ k => XS.iloadN X9.here hx rfl (hb hby d4_51) rfl k) ?_
    show Go p e below W T9 (mkF m 52 #[.val (.ref a1), .val (.long q2), .second, .val (.int (v4_5 q2 lf sp))] [(.int (v4_5 q2 lf sp))])
    have u_f4 : (f4 q2 lf sp) = (nar .boolean (v4_5 q2 lf sp)) := by rw [f4, if_neg c6]
    have u_f4_left : (f4_left q2 lf sp) = (v4_10 q2 lf sp) := by rw [f4_left, if_neg c6]
    have u_f4_spent : (f4_spent q2 lf sp) = sp := by rw [f4_spent, if_neg c6]
    have fin : Q4 Z a1 q2 lf sp h0 n0 (some (.int (f4 q2 lf sp))) h9 L9 := ⟨rfl, N, K, F_a1_bounded, (by rw [u_f4_left]; exact F_a1_left), (by rw [u_f4_spent]; exact F_a1_spent)⟩
    exact Go.retN X9 hx hret (Or.inl rfl) (hb hby d4_52) hlk (Eq.trans rfl u_f4.symm) (fun t ht fe => hW t _ _ _ _ (by rw [ht, e9]; exact fin) fe (by decide) (by decide))
set_option maxRecDepth 65536 in
set_option maxHeartbeats 40000000 in
theorem rm0 (l : Launch) (Z : State) (a0 : Array Value) (hw : ∀ d ∈ tables_1, d.before a0 Z = true) (ws : List Jvm.Cond) (q1 : Int64) (q2 : Int64) (q3 : Int64) (q4 : Int64) (h0 : Heap) (n0 : Nat) (Z0 : n0 ≤ h0.size) :
    Con l Z x code maxLocals ret ws room_1 #[(.long q1), (.long q2), (.long q3), (.long q4)] h0 (Q0 Z q1 q2 q3 q4 h0 n0) := by
  refine own_body pn_0 (fun m => ef_0 m q1 q2 q3 q4) ?_
  intro p e s m below meth c T0 W X0 hx hby hml hret hlk hown hnm hZ e0 hW
  have K : Keep h0 h0 [] := Keep.refl _ _
  have N := Fr.nil n0
  show Go p e below W T0 (mkF m 0 #[.val (.long q1), .second, .val (.long q2), .second, .val (.long q3), .second, .val (.long q4), .second, .unset, .unset, .unset, .unset, .unset, .unset, .unset, .unset, .unset, .unset, .unset, .unset, .unset, .unset, .unset, .unset, .unset, .unset, .unset, .unset, .unset, .unset, .unset, .unset] [])
  refine Go.of (fun _ k => XS.lloadN X0.here hx rfl (hb hby at_0) rfl k) ?_
  show Go p e below W T0 (mkF m 1 #[.val (.long q1), .second, .val (.long q2), .second, .val (.long q3), .second, .val (.long q4), .second, .unset, .unset, .unset, .unset, .unset, .unset, .unset, .unset, .unset, .unset, .unset, .unset, .unset, .unset, .unset, .unset, .unset, .unset, .unset, .unset, .unset, .unset, .unset, .unset] [(.long q2)])
  refine Go.of (fun _ k => X0.ldc2J hx hown (mvT hZ (hw _ (List.mem_of_getElem? (i := 0) rfl))) rfl (hb hby at_1) k) ?_
  show Go p e below W T0 (mkF m 4 #[.val (.long q1), .second, .val (.long q2), .second, .val (.long q3), .second, .val (.long q4), .second, .unset, .unset, .unset, .unset, .unset, .unset, .unset, .unset, .unset, .unset, .unset, .unset, .unset, .unset, .unset, .unset, .unset, .unset, .unset, .unset, .unset, .unset, .unset, .unset] [(.long (9223372036854775807 : Int64)), (.long q2)])
  refine Go.of (fun _ k => XS.land X0.here hx rfl (hb hby at_4) rfl k) ?_
  show Go p e below W T0 (mkF m 5 #[.val (.long q1), .second, .val (.long q2), .second, .val (.long q3), .second, .val (.long q4), .second, .unset, .unset, .unset, .unset, .unset, .unset, .unset, .unset, .unset, .unset, .unset, .unset, .unset, .unset, .unset, .unset, .unset, .unset, .unset, .unset, .unset, .unset, .unset, .unset] [(.long (q2 &&& (9223372036854775807 : Int64)))])
  refine Go.of (fun _ k => XS.lstore X0.here hx rfl (hb hby at_5) rfl (l' := #[.val (.long q1), .second, .val (.long q2), .second, .val (.long q3), .second, .val (.long q4), .second, .val (.long (v0_1 q1 q2 q3 q4)), .second, .unset, .unset, .unset, .unset, .unset, .unset, .unset, .unset, .unset, .unset, .unset, .unset, .unset, .unset, .unset, .unset, .unset, .unset, .unset, .unset, .unset, .unset]) rfl k) ?_
  show Go p e below W T0 (mkF m 7 #[.val (.long q1), .second, .val (.long q2), .second, .val (.long q3), .second, .val (.long q4), .second, .val (.long (v0_1 q1 q2 q3 q4)), .second, .unset, .unset, .unset, .unset, .unset, .unset, .unset, .unset, .unset, .unset, .unset, .unset, .unset, .unset, .unset, .unset, .unset, .unset, .unset, .unset, .unset, .unset] [])
  refine Go.of (fun _ k => XS.lload X0.here hx rfl (hb hby at_7) rfl k) ?_
  show Go p e below W T0 (mkF m 9 #[.val (.long q1), .second, .val (.long q2), .second, .val (.long q3), .second, .val (.long q4), .second, .val (.long (v0_1 q1 q2 q3 q4)), .second, .unset, .unset, .unset, .unset, .unset, .unset, .unset, .unset, .unset, .unset, .unset, .unset, .unset, .unset, .unset, .unset, .unset, .unset, .unset, .unset, .unset, .unset] [(.long q3)])
  refine Go.of (fun _ k => X0.ldc2J hx hown (mvT hZ (hw _ (List.mem_of_getElem? (i := 0) rfl))) rfl (hb hby at_9) k) ?_
  show Go p e below W T0 (mkF m 12 #[.val (.long q1), .second, .val (.long q2), .second, .val (.long q3), .second, .val (.long q4), .second, .val (.long (v0_1 q1 q2 q3 q4)), .second, .unset, .unset, .unset, .unset, .unset, .unset, .unset, .unset, .unset, .unset, .unset, .unset, .unset, .unset, .unset, .unset, .unset, .unset, .unset, .unset, .unset, .unset] [(.long (9223372036854775807 : Int64)), (.long q3)])
  refine Go.of (fun _ k => XS.land X0.here hx rfl (hb hby at_12) rfl k) ?_
  show Go p e below W T0 (mkF m 13 #[.val (.long q1), .second, .val (.long q2), .second, .val (.long q3), .second, .val (.long q4), .second, .val (.long (v0_1 q1 q2 q3 q4)), .second, .unset, .unset, .unset, .unset, .unset, .unset, .unset, .unset, .unset, .unset, .unset, .unset, .unset, .unset, .unset, .unset, .unset, .unset, .unset, .unset, .unset, .unset] [(.long (q3 &&& (9223372036854775807 : Int64)))])
  refine Go.of (fun _ k => XS.lstore X0.here hx rfl (hb hby at_13) rfl (l' := #[.val (.long q1), .second, .val (.long q2), .second, .val (.long q3), .second, .val (.long q4), .second, .val (.long (v0_1 q1 q2 q3 q4)), .second, .val (.long (v0_2 q1 q2 q3 q4)), .second, .unset, .unset, .unset, .unset, .unset, .unset, .unset, .unset, .unset, .unset, .unset, .unset, .unset, .unset, .unset, .unset, .unset, .unset, .unset, .unset]) rfl k) ?_
  show Go p e below W T0 (mkF m 15 #[.val (.long q1), .second, .val (.long q2), .second, .val (.long q3), .second, .val (.long q4), .second, .val (.long (v0_1 q1 q2 q3 q4)), .second, .val (.long (v0_2 q1 q2 q3 q4)), .second, .unset, .unset, .unset, .unset, .unset, .unset, .unset, .unset, .unset, .unset, .unset, .unset, .unset, .unset, .unset, .unset, .unset, .unset, .unset, .unset] [])
  refine Go.of (fun _ k => XS.lload X0.here hx rfl (hb hby at_15) rfl k) ?_
  show Go p e below W T0 (mkF m 17 #[.val (.long q1), .second, .val (.long q2), .second, .val (.long q3), .second, .val (.long q4), .second, .val (.long (v0_1 q1 q2 q3 q4)), .second, .val (.long (v0_2 q1 q2 q3 q4)), .second, .unset, .unset, .unset, .unset, .unset, .unset, .unset, .unset, .unset, .unset, .unset, .unset, .unset, .unset, .unset, .unset, .unset, .unset, .unset, .unset] [(.long q4)])
  refine Go.of (fun _ k => X0.ldc2J hx hown (mvT hZ (hw _ (List.mem_of_getElem? (i := 0) rfl))) rfl (hb hby at_17) k) ?_
  show Go p e below W T0 (mkF m 20 #[.val (.long q1), .second, .val (.long q2), .second, .val (.long q3), .second, .val (.long q4), .second, .val (.long (v0_1 q1 q2 q3 q4)), .second, .val (.long (v0_2 q1 q2 q3 q4)), .second, .unset, .unset, .unset, .unset, .unset, .unset, .unset, .unset, .unset, .unset, .unset, .unset, .unset, .unset, .unset, .unset, .unset, .unset, .unset, .unset] [(.long (9223372036854775807 : Int64)), (.long q4)])
  refine Go.of (fun _ k => XS.land X0.here hx rfl (hb hby at_20) rfl k) ?_
  show Go p e below W T0 (mkF m 21 #[.val (.long q1), .second, .val (.long q2), .second, .val (.long q3), .second, .val (.long q4), .second, .val (.long (v0_1 q1 q2 q3 q4)), .second, .val (.long (v0_2 q1 q2 q3 q4)), .second, .unset, .unset, .unset, .unset, .unset, .unset, .unset, .unset, .unset, .unset, .unset, .unset, .unset, .unset, .unset, .unset, .unset, .unset, .unset, .unset] [(.long (q4 &&& (9223372036854775807 : Int64)))])
  refine Go.of (fun _ k => XS.lstore X0.here hx rfl (hb hby at_21) rfl (l' := #[.val (.long q1), .second, .val (.long q2), .second, .val (.long q3), .second, .val (.long q4), .second, .val (.long (v0_1 q1 q2 q3 q4)), .second, .val (.long (v0_2 q1 q2 q3 q4)), .second, .val (.long (v0_3 q1 q2 q3 q4)), .second, .unset, .unset, .unset, .unset, .unset, .unset, .unset, .unset, .unset, .unset, .unset, .unset, .unset, .unset, .unset, .unset, .unset, .unset]) rfl k) ?_
  show Go p e below W T0 (mkF m 23 #[.val (.long q1), .second, .val (.long q2), .second, .val (.long q3), .second, .val (.long q4), .second, .val (.long (v0_1 q1 q2 q3 q4)), .second, .val (.long (v0_2 q1 q2 q3 q4)), .second, .val (.long (v0_3 q1 q2 q3 q4)), .second, .unset, .unset, .unset, .unset, .unset, .unset, .unset, .unset, .unset, .unset, .unset, .unset, .unset, .unset, .unset, .unset, .unset, .unset] [])
  refine Go.newO X0 hx hZ hown (hw _ (List.mem_of_getElem? (i := 1) rfl)) (hw _ (List.mem_of_getElem? (i := 2) rfl)) (hw _ (List.mem_of_getElem? (i := 3) rfl)) e0 (hb hby at_23) (by decide) (by decide) ?_
  intro T4 h4 b4 zq4 X4 e4 E4 E_b4 D4
  have g_b4 : n0 ≤ b4 := by rw [zq4]; exact Z0
  have s_b4 : h0.size ≤ b4 := by rw [zq4]; exact K.1
  have K := K.ext E4
  have Z0 := Nat.le_trans Z0 E4.1
  have F_b4_bounded : Fld Z h4 b4 "com/example/redefine/redefine/assessment/PatternWork" "bounded" "Z" (.int (0 : Int32)) := D4 (Or.inr (hw _ (List.mem_of_getElem? (i := 11) rfl))) (ty := .boolean) (by decide)
  have F_b4_left : Fld Z h4 b4 "com/example/redefine/redefine/assessment/PatternWork" "left" "J" (.long (0 : Int64)) := D4 (Or.inl (hw _ (List.mem_of_getElem? (i := 13) rfl))) (ty := .long) (by decide)
  have F_b4_spent : Fld Z h4 b4 "com/example/redefine/redefine/assessment/PatternWork" "spent" "Z" (.int (0 : Int32)) := D4 (Or.inl (hw _ (List.mem_of_getElem? (i := 20) rfl))) (ty := .boolean) (by decide)
  show Go p e below W T4 (mkF m 26 #[.val (.long q1), .second, .val (.long q2), .second, .val (.long q3), .second, .val (.long q4), .second, .val (.long (v0_1 q1 q2 q3 q4)), .second, .val (.long (v0_2 q1 q2 q3 q4)), .second, .val (.long (v0_3 q1 q2 q3 q4)), .second, .unset, .unset, .unset, .unset, .unset, .unset, .unset, .unset, .unset, .unset, .unset, .unset, .unset, .unset, .unset, .unset, .unset, .unset] [(.ref b4)])
  refine Go.of (fun _ k => XS.dup X4.here hx rfl (hb hby at_26) rfl rfl k) ?_
  show Go p e below W T4 (mkF m 27 #[.val (.long q1), .second, .val (.long q2), .second, .val (.long q3), .second, .val (.long q4), .second, .val (.long (v0_1 q1 q2 q3 q4)), .second, .val (.long (v0_2 q1 q2 q3 q4)), .second, .val (.long (v0_3 q1 q2 q3 q4)), .second, .unset, .unset, .unset, .unset, .unset, .unset, .unset, .unset, .unset, .unset, .unset, .unset, .unset, .unset, .unset, .unset, .unset, .unset] [(.ref b4), (.ref b4)])
  refine Go.of (fun _ k => XS.lloadN X4.here hx rfl (hb hby at_27) rfl k) ?_
  show Go p e below W T4 (mkF m 28 #[.val (.long q1), .second, .val (.long q2), .second, .val (.long q3), .second, .val (.long q4), .second, .val (.long (v0_1 q1 q2 q3 q4)), .second, .val (.long (v0_2 q1 q2 q3 q4)), .second, .val (.long (v0_3 q1 q2 q3 q4)), .second, .unset, .unset, .unset, .unset, .unset, .unset, .unset, .unset, .unset, .unset, .unset, .unset, .unset, .unset, .unset, .unset, .unset, .unset] [(.long q1), (.ref b4), (.ref b4)])
  refine Go.callI X4 hx hZ rfl hown (hw _ (List.mem_of_getElem? (i := 4) rfl)) (hw _ (List.mem_of_getElem? (i := 5) rfl)) (hw _ (List.mem_of_getElem? (i := 3) rfl)) (hw _ (List.mem_of_getElem? (i := 6) rfl)) (by decide) e4 (rm1 l Z a0 hw [] b4 q1 h4 n0 Z0 E_b4 F_b4_bounded F_b4_left F_b4_spent g_b4) (V := 1) (by decide) (by decide) (by decide) (by decide) (by rw [hml]; rfl) (argsL := [(.long q1)]) (rest := [(.ref b4)]) rfl (lenOf pd__J_V rfl) rfl (Nat.le_of_ble_eq_true rfl) (hb hby at_28) ?_
  rintro T5 _ M5 ⟨rfl, N5, K5, F_b4_bounded, F_b4_left, F_b4_spent⟩ X5
  obtain ⟨L5, zq5⟩ : ∃ z, z = [] ++ M5 := ⟨_, rfl⟩
  have N := Fr.app N N5
  rw [← zq5] at X5 N
  have E_b4 := E_b4.keep K5
  have K := K.trans K5 (by
    intro x hx
    simp only [List.mem_cons, List.not_mem_nil, or_false] at hx
    rcases hx with rfl
    · exact Or.inr s_b4)
  have Z0 := Nat.le_trans Z0 K5.1
  show Go p e below W T5 (mkF m 31 #[.val (.long q1), .second, .val (.long q2), .second, .val (.long q3), .second, .val (.long q4), .second, .val (.long (v0_1 q1 q2 q3 q4)), .second, .val (.long (v0_2 q1 q2 q3 q4)), .second, .val (.long (v0_3 q1 q2 q3 q4)), .second, .unset, .unset, .unset, .unset, .unset, .unset, .unset, .unset, .unset, .unset, .unset, .unset, .unset, .unset, .unset, .unset, .unset, .unset] [(.ref b4)])
  refine Go.of (fun _ k => XS.astore X5.here hx rfl (hb hby at_31) rfl rfl (l' := #[.val (.long q1), .second, .val (.long q2), .second, .val (.long q3), .second, .val (.long q4), .second, .val (.long (v0_1 q1 q2 q3 q4)), .second, .val (.long (v0_2 q1 q2 q3 q4)), .second, .val (.long (v0_3 q1 q2 q3 q4)), .second, .val (.ref b4), .unset, .unset, .unset, .unset, .unset, .unset, .unset, .unset, .unset, .unset, .unset, .unset, .unset, .unset, .unset, .unset, .unset]) rfl k) ?_
  show Go p e below W T5 (mkF m 33 #[.val (.long q1), .second, .val (.long q2), .second, .val (.long q3), .second, .val (.long q4), .second, .val (.long (v0_1 q1 q2 q3 q4)), .second, .val (.long (v0_2 q1 q2 q3 q4)), .second, .val (.long (v0_3 q1 q2 q3 q4)), .second, .val (.ref b4), .unset, .unset, .unset, .unset, .unset, .unset, .unset, .unset, .unset, .unset, .unset, .unset, .unset, .unset, .unset, .unset, .unset] [])
  refine Go.of (fun _ k => XS.aload X5.here hx rfl (hb hby at_33) rfl rfl k) ?_
  show Go p e below W T5 (mkF m 35 #[.val (.long q1), .second, .val (.long q2), .second, .val (.long q3), .second, .val (.long q4), .second, .val (.long (v0_1 q1 q2 q3 q4)), .second, .val (.long (v0_2 q1 q2 q3 q4)), .second, .val (.long (v0_3 q1 q2 q3 q4)), .second, .val (.ref b4), .unset, .unset, .unset, .unset, .unset, .unset, .unset, .unset, .unset, .unset, .unset, .unset, .unset, .unset, .unset, .unset, .unset] [(.ref b4)])
  refine Go.callV X5 hx hZ hown (hw _ (List.mem_of_getElem? (i := 14) rfl)) (hw _ (List.mem_of_getElem? (i := 15) rfl)) (hw _ (List.mem_of_getElem? (i := 17) rfl)) (hw _ (List.mem_of_getElem? (i := 16) rfl)) (hw _ (List.mem_of_getElem? (i := 3) rfl)) (hw _ (List.mem_of_getElem? (i := 18) rfl)) (by decide) rfl E_b4 (rm3 l Z a0 hw [] b4 (0 : Int32) T5.heap F_b4_spent) (V := 0) (by decide) (by decide) (by decide) (by decide) (by rw [hml]; rfl) (argsL := []) (rest := []) rfl (lenOf pd___Z rfl) rfl (Nat.le_of_ble_eq_true rfl) (hb hby at_35) ?_
  rintro T6 _ _ ⟨rfl, rfl, e6⟩ X6
  rw [List.append_nil] at X6
  show Go p e below W T6 (mkF m 38 #[.val (.long q1), .second, .val (.long q2), .second, .val (.long q3), .second, .val (.long q4), .second, .val (.long (v0_1 q1 q2 q3 q4)), .second, .val (.long (v0_2 q1 q2 q3 q4)), .second, .val (.long (v0_3 q1 q2 q3 q4)), .second, .val (.ref b4), .unset, .unset, .unset, .unset, .unset, .unset, .unset, .unset, .unset, .unset, .unset, .unset, .unset, .unset, .unset, .unset, .unset] [(.int (f3 (0 : Int32)))])
  refine Go.of (fun _ k => XS.istore X6.here hx rfl (hb hby at_38) rfl (l' := #[.val (.long q1), .second, .val (.long q2), .second, .val (.long q3), .second, .val (.long q4), .second, .val (.long (v0_1 q1 q2 q3 q4)), .second, .val (.long (v0_2 q1 q2 q3 q4)), .second, .val (.long (v0_3 q1 q2 q3 q4)), .second, .val (.ref b4), .val (.int (v0_7 q1 q2 q3 q4)), .unset, .unset, .unset, .unset, .unset, .unset, .unset, .unset, .unset, .unset, .unset, .unset, .unset, .unset, .unset, .unset]) rfl k) ?_
  show Go p e below W T6 (mkF m 40 #[.val (.long q1), .second, .val (.long q2), .second, .val (.long q3), .second, .val (.long q4), .second, .val (.long (v0_1 q1 q2 q3 q4)), .second, .val (.long (v0_2 q1 q2 q3 q4)), .second, .val (.long (v0_3 q1 q2 q3 q4)), .second, .val (.ref b4), .val (.int (v0_7 q1 q2 q3 q4)), .unset, .unset, .unset, .unset, .unset, .unset, .unset, .unset, .unset, .unset, .unset, .unset, .unset, .unset, .unset, .unset] [])
  refine Go.of (fun _ k => XS.aload X6.here hx rfl (hb hby at_40) rfl rfl k) ?_
  show Go p e below W T6 (mkF m 42 #[.val (.long q1), .second, .val (.long q2), .second, .val (.long q3), .second, .val (.long q4), .second, .val (.long (v0_1 q1 q2 q3 q4)), .second, .val (.long (v0_2 q1 q2 q3 q4)), .second, .val (.long (v0_3 q1 q2 q3 q4)), .second, .val (.ref b4), .val (.int (v0_7 q1 q2 q3 q4)), .unset, .unset, .unset, .unset, .unset, .unset, .unset, .unset, .unset, .unset, .unset, .unset, .unset, .unset, .unset, .unset] [(.ref b4)])
  refine Go.of (fun _ k => XS.lload X6.here hx rfl (hb hby at_42) rfl k) ?_
  show Go p e below W T6 (mkF m 44 #[.val (.long q1), .second, .val (.long q2), .second, .val (.long q3), .second, .val (.long q4), .second, .val (.long (v0_1 q1 q2 q3 q4)), .second, .val (.long (v0_2 q1 q2 q3 q4)), .second, .val (.long (v0_3 q1 q2 q3 q4)), .second, .val (.ref b4), .val (.int (v0_7 q1 q2 q3 q4)), .unset, .unset, .unset, .unset, .unset, .unset, .unset, .unset, .unset, .unset, .unset, .unset, .unset, .unset, .unset, .unset] [(.long (v0_1 q1 q2 q3 q4)), (.ref b4)])
  refine Go.callV X6 hx hZ hown (hw _ (List.mem_of_getElem? (i := 21) rfl)) (hw _ (List.mem_of_getElem? (i := 22) rfl)) (hw _ (List.mem_of_getElem? (i := 24) rfl)) (hw _ (List.mem_of_getElem? (i := 23) rfl)) (hw _ (List.mem_of_getElem? (i := 3) rfl)) (hw _ (List.mem_of_getElem? (i := 25) rfl)) (by decide) e6 E_b4 (rm4 l Z a0 hw [] b4 (v0_1 q1 q2 q3 q4) q1 (0 : Int32) T5.heap n0 Z0 E_b4 F_b4_bounded F_b4_left F_b4_spent g_b4) (V := 0) (by decide) (by decide) (by decide) (by decide) (by rw [hml]; rfl) (argsL := [(.long (v0_1 q1 q2 q3 q4))]) (rest := []) rfl (lenOf pd__J_Z rfl) rfl (Nat.le_of_ble_eq_true rfl) (hb hby at_44) ?_
  rintro T8 _ M8 ⟨rfl, N8, K8, F_b4_bounded, F_b4_left, F_b4_spent⟩ X8
  obtain ⟨L8, zq8⟩ : ∃ z, z = L5 ++ M8 := ⟨_, rfl⟩
  have N := Fr.app N N8
  rw [← zq8] at X8 N
  have E_b4 := E_b4.keep K8
  have K := K.trans K8 (by
    intro x hx
    simp only [List.mem_cons, List.not_mem_nil, or_false] at hx
    rcases hx with rfl
    · exact Or.inr s_b4)
  have Z0 := Nat.le_trans Z0 K8.1
  show Go p e below W T8 (mkF m 47 #[.val (.long q1), .second, .val (.long q2), .second, .val (.long q3), .second, .val (.long q4), .second, .val (.long (v0_1 q1 q2 q3 q4)), .second, .val (.long (v0_2 q1 q2 q3 q4)), .second, .val (.long (v0_3 q1 q2 q3 q4)), .second, .val (.ref b4), .val (.int (v0_7 q1 q2 q3 q4)), .unset, .unset, .unset, .unset, .unset, .unset, .unset, .unset, .unset, .unset, .unset, .unset, .unset, .unset, .unset, .unset] [(.int (f4 (v0_1 q1 q2 q3 q4) q1 (0 : Int32)))])
  refine Go.of (fun _ k => XS.istore X8.here hx rfl (hb hby at_47) rfl (l' := #[.val (.long q1), .second, .val (.long q2), .second, .val (.long q3), .second, .val (.long q4), .second, .val (.long (v0_1 q1 q2 q3 q4)), .second, .val (.long (v0_2 q1 q2 q3 q4)), .second, .val (.long (v0_3 q1 q2 q3 q4)), .second, .val (.ref b4), .val (.int (v0_7 q1 q2 q3 q4)), .val (.int (v0_9 q1 q2 q3 q4)), .unset, .unset, .unset, .unset, .unset, .unset, .unset, .unset, .unset, .unset, .unset, .unset, .unset, .unset, .unset]) rfl k) ?_
  show Go p e below W T8 (mkF m 49 #[.val (.long q1), .second, .val (.long q2), .second, .val (.long q3), .second, .val (.long q4), .second, .val (.long (v0_1 q1 q2 q3 q4)), .second, .val (.long (v0_2 q1 q2 q3 q4)), .second, .val (.long (v0_3 q1 q2 q3 q4)), .second, .val (.ref b4), .val (.int (v0_7 q1 q2 q3 q4)), .val (.int (v0_9 q1 q2 q3 q4)), .unset, .unset, .unset, .unset, .unset, .unset, .unset, .unset, .unset, .unset, .unset, .unset, .unset, .unset, .unset] [])
  refine Go.of (fun _ k => XS.aload X8.here hx rfl (hb hby at_49) rfl rfl k) ?_
  show Go p e below W T8 (mkF m 51 #[.val (.long q1), .second, .val (.long q2), .second, .val (.long q3), .second, .val (.long q4), .second, .val (.long (v0_1 q1 q2 q3 q4)), .second, .val (.long (v0_2 q1 q2 q3 q4)), .second, .val (.long (v0_3 q1 q2 q3 q4)), .second, .val (.ref b4), .val (.int (v0_7 q1 q2 q3 q4)), .val (.int (v0_9 q1 q2 q3 q4)), .unset, .unset, .unset, .unset, .unset, .unset, .unset, .unset, .unset, .unset, .unset, .unset, .unset, .unset, .unset] [(.ref b4)])
  refine Go.callV X8 hx hZ hown (hw _ (List.mem_of_getElem? (i := 14) rfl)) (hw _ (List.mem_of_getElem? (i := 15) rfl)) (hw _ (List.mem_of_getElem? (i := 17) rfl)) (hw _ (List.mem_of_getElem? (i := 16) rfl)) (hw _ (List.mem_of_getElem? (i := 3) rfl)) (hw _ (List.mem_of_getElem? (i := 18) rfl)) (by decide) rfl E_b4 (rm3 l Z a0 hw [] b4 (f4_spent (v0_1 q1 q2 q3 q4) q1 (0 : Int32)) T8.heap F_b4_spent) (V := 0) (by decide) (by decide) (by decide) (by decide) (by rw [hml]; rfl) (argsL := []) (rest := []) rfl (lenOf pd___Z rfl) rfl (Nat.le_of_ble_eq_true rfl) (hb hby at_51) ?_
  rintro T10 _ _ ⟨rfl, rfl, e10⟩ X10
  rw [List.append_nil] at X10
  show Go p e below W T10 (mkF m 54 #[.val (.long q1), .second, .val (.long q2), .second, .val (.long q3), .second, .val (.long q4), .second, .val (.long (v0_1 q1 q2 q3 q4)), .second, .val (.long (v0_2 q1 q2 q3 q4)), .second, .val (.long (v0_3 q1 q2 q3 q4)), .second, .val (.ref b4), .val (.int (v0_7 q1 q2 q3 q4)), .val (.int (v0_9 q1 q2 q3 q4)), .unset, .unset, .unset, .unset, .unset, .unset, .unset, .unset, .unset, .unset, .unset, .unset, .unset, .unset, .unset] [(.int (f3 (f4_spent (v0_1 q1 q2 q3 q4) q1 (0 : Int32))))])
  refine Go.of (fun _ k => XS.istore X10.here hx rfl (hb hby at_54) rfl (l' := #[.val (.long q1), .second, .val (.long q2), .second, .val (.long q3), .second, .val (.long q4), .second, .val (.long (v0_1 q1 q2 q3 q4)), .second, .val (.long (v0_2 q1 q2 q3 q4)), .second, .val (.long (v0_3 q1 q2 q3 q4)), .second, .val (.ref b4), .val (.int (v0_7 q1 q2 q3 q4)), .val (.int (v0_9 q1 q2 q3 q4)), .val (.int (v0_11 q1 q2 q3 q4)), .unset, .unset, .unset, .unset, .unset, .unset, .unset, .unset, .unset, .unset, .unset, .unset, .unset, .unset]) rfl k) ?_
  show Go p e below W T10 (mkF m 56 #[.val (.long q1), .second, .val (.long q2), .second, .val (.long q3), .second, .val (.long q4), .second, .val (.long (v0_1 q1 q2 q3 q4)), .second, .val (.long (v0_2 q1 q2 q3 q4)), .second, .val (.long (v0_3 q1 q2 q3 q4)), .second, .val (.ref b4), .val (.int (v0_7 q1 q2 q3 q4)), .val (.int (v0_9 q1 q2 q3 q4)), .val (.int (v0_11 q1 q2 q3 q4)), .unset, .unset, .unset, .unset, .unset, .unset, .unset, .unset, .unset, .unset, .unset, .unset, .unset, .unset] [])
  refine Go.of (fun _ k => XS.aload X10.here hx rfl (hb hby at_56) rfl rfl k) ?_
  show Go p e below W T10 (mkF m 58 #[.val (.long q1), .second, .val (.long q2), .second, .val (.long q3), .second, .val (.long q4), .second, .val (.long (v0_1 q1 q2 q3 q4)), .second, .val (.long (v0_2 q1 q2 q3 q4)), .second, .val (.long (v0_3 q1 q2 q3 q4)), .second, .val (.ref b4), .val (.int (v0_7 q1 q2 q3 q4)), .val (.int (v0_9 q1 q2 q3 q4)), .val (.int (v0_11 q1 q2 q3 q4)), .unset, .unset, .unset, .unset, .unset, .unset, .unset, .unset, .unset, .unset, .unset, .unset, .unset, .unset] [(.ref b4)])
  refine Go.of (fun _ k => XS.lload X10.here hx rfl (hb hby at_58) rfl k) ?_
  show Go p e below W T10 (mkF m 60 #[.val (.long q1), .second, .val (.long q2), .second, .val (.long q3), .second, .val (.long q4), .second, .val (.long (v0_1 q1 q2 q3 q4)), .second, .val (.long (v0_2 q1 q2 q3 q4)), .second, .val (.long (v0_3 q1 q2 q3 q4)), .second, .val (.ref b4), .val (.int (v0_7 q1 q2 q3 q4)), .val (.int (v0_9 q1 q2 q3 q4)), .val (.int (v0_11 q1 q2 q3 q4)), .unset, .unset, .unset, .unset, .unset, .unset, .unset, .unset, .unset, .unset, .unset, .unset, .unset, .unset] [(.long (v0_2 q1 q2 q3 q4)), (.ref b4)])
  refine Go.callV X10 hx hZ hown (hw _ (List.mem_of_getElem? (i := 21) rfl)) (hw _ (List.mem_of_getElem? (i := 22) rfl)) (hw _ (List.mem_of_getElem? (i := 24) rfl)) (hw _ (List.mem_of_getElem? (i := 23) rfl)) (hw _ (List.mem_of_getElem? (i := 3) rfl)) (hw _ (List.mem_of_getElem? (i := 25) rfl)) (by decide) e10 E_b4 (rm4 l Z a0 hw [] b4 (v0_2 q1 q2 q3 q4) (f4_left (v0_1 q1 q2 q3 q4) q1 (0 : Int32)) (f4_spent (v0_1 q1 q2 q3 q4) q1 (0 : Int32)) T8.heap n0 Z0 E_b4 F_b4_bounded F_b4_left F_b4_spent g_b4) (V := 0) (by decide) (by decide) (by decide) (by decide) (by rw [hml]; rfl) (argsL := [(.long (v0_2 q1 q2 q3 q4))]) (rest := []) rfl (lenOf pd__J_Z rfl) rfl (Nat.le_of_ble_eq_true rfl) (hb hby at_60) ?_
  rintro T12 _ M12 ⟨rfl, N12, K12, F_b4_bounded, F_b4_left, F_b4_spent⟩ X12
  obtain ⟨L12, zq12⟩ : ∃ z, z = L8 ++ M12 := ⟨_, rfl⟩
  have N := Fr.app N N12
  rw [← zq12] at X12 N
  have E_b4 := E_b4.keep K12
  have K := K.trans K12 (by
    intro x hx
    simp only [List.mem_cons, List.not_mem_nil, or_false] at hx
    rcases hx with rfl
    · exact Or.inr s_b4)
  have Z0 := Nat.le_trans Z0 K12.1
  show Go p e below W T12 (mkF m 63 #[.val (.long q1), .second, .val (.long q2), .second, .val (.long q3), .second, .val (.long q4), .second, .val (.long (v0_1 q1 q2 q3 q4)), .second, .val (.long (v0_2 q1 q2 q3 q4)), .second, .val (.long (v0_3 q1 q2 q3 q4)), .second, .val (.ref b4), .val (.int (v0_7 q1 q2 q3 q4)), .val (.int (v0_9 q1 q2 q3 q4)), .val (.int (v0_11 q1 q2 q3 q4)), .unset, .unset, .unset, .unset, .unset, .unset, .unset, .unset, .unset, .unset, .unset, .unset, .unset, .unset] [(.int (f4 (v0_2 q1 q2 q3 q4) (f4_left (v0_1 q1 q2 q3 q4) q1 (0 : Int32)) (f4_spent (v0_1 q1 q2 q3 q4) q1 (0 : Int32))))])
  refine Go.of (fun _ k => XS.istore X12.here hx rfl (hb hby at_63) rfl (l' := #[.val (.long q1), .second, .val (.long q2), .second, .val (.long q3), .second, .val (.long q4), .second, .val (.long (v0_1 q1 q2 q3 q4)), .second, .val (.long (v0_2 q1 q2 q3 q4)), .second, .val (.long (v0_3 q1 q2 q3 q4)), .second, .val (.ref b4), .val (.int (v0_7 q1 q2 q3 q4)), .val (.int (v0_9 q1 q2 q3 q4)), .val (.int (v0_11 q1 q2 q3 q4)), .val (.int (v0_13 q1 q2 q3 q4)), .unset, .unset, .unset, .unset, .unset, .unset, .unset, .unset, .unset, .unset, .unset, .unset, .unset]) rfl k) ?_
  show Go p e below W T12 (mkF m 65 #[.val (.long q1), .second, .val (.long q2), .second, .val (.long q3), .second, .val (.long q4), .second, .val (.long (v0_1 q1 q2 q3 q4)), .second, .val (.long (v0_2 q1 q2 q3 q4)), .second, .val (.long (v0_3 q1 q2 q3 q4)), .second, .val (.ref b4), .val (.int (v0_7 q1 q2 q3 q4)), .val (.int (v0_9 q1 q2 q3 q4)), .val (.int (v0_11 q1 q2 q3 q4)), .val (.int (v0_13 q1 q2 q3 q4)), .unset, .unset, .unset, .unset, .unset, .unset, .unset, .unset, .unset, .unset, .unset, .unset, .unset] [])
  refine Go.of (fun _ k => XS.aload X12.here hx rfl (hb hby at_65) rfl rfl k) ?_
  show Go p e below W T12 (mkF m 67 #[.val (.long q1), .second, .val (.long q2), .second, .val (.long q3), .second, .val (.long q4), .second, .val (.long (v0_1 q1 q2 q3 q4)), .second, .val (.long (v0_2 q1 q2 q3 q4)), .second, .val (.long (v0_3 q1 q2 q3 q4)), .second, .val (.ref b4), .val (.int (v0_7 q1 q2 q3 q4)), .val (.int (v0_9 q1 q2 q3 q4)), .val (.int (v0_11 q1 q2 q3 q4)), .val (.int (v0_13 q1 q2 q3 q4)), .unset, .unset, .unset, .unset, .unset, .unset, .unset, .unset, .unset, .unset, .unset, .unset, .unset] [(.ref b4)])
  refine Go.callV X12 hx hZ hown (hw _ (List.mem_of_getElem? (i := 14) rfl)) (hw _ (List.mem_of_getElem? (i := 15) rfl)) (hw _ (List.mem_of_getElem? (i := 17) rfl)) (hw _ (List.mem_of_getElem? (i := 16) rfl)) (hw _ (List.mem_of_getElem? (i := 3) rfl)) (hw _ (List.mem_of_getElem? (i := 18) rfl)) (by decide) rfl E_b4 (rm3 l Z a0 hw [] b4 (f4_spent (v0_2 q1 q2 q3 q4) (f4_left (v0_1 q1 q2 q3 q4) q1 (0 : Int32)) (f4_spent (v0_1 q1 q2 q3 q4) q1 (0 : Int32))) T12.heap F_b4_spent) (V := 0) (by decide) (by decide) (by decide) (by decide) (by rw [hml]; rfl) (argsL := []) (rest := []) rfl (lenOf pd___Z rfl) rfl (Nat.le_of_ble_eq_true rfl) (hb hby at_67) ?_
  rintro T14 _ _ ⟨rfl, rfl, e14⟩ X14
  rw [List.append_nil] at X14
  show Go p e below W T14 (mkF m 70 #[.val (.long q1), .second, .val (.long q2), .second, .val (.long q3), .second, .val (.long q4), .second, .val (.long (v0_1 q1 q2 q3 q4)), .second, .val (.long (v0_2 q1 q2 q3 q4)), .second, .val (.long (v0_3 q1 q2 q3 q4)), .second, .val (.ref b4), .val (.int (v0_7 q1 q2 q3 q4)), .val (.int (v0_9 q1 q2 q3 q4)), .val (.int (v0_11 q1 q2 q3 q4)), .val (.int (v0_13 q1 q2 q3 q4)), .unset, .unset, .unset, .unset, .unset, .unset, .unset, .unset, .unset, .unset, .unset, .unset, .unset] [(.int (f3 (f4_spent (v0_2 q1 q2 q3 q4) (f4_left (v0_1 q1 q2 q3 q4) q1 (0 : Int32)) (f4_spent (v0_1 q1 q2 q3 q4) q1 (0 : Int32)))))])
  refine Go.of (fun _ k => XS.istore X14.here hx rfl (hb hby at_70) rfl (l' := #[.val (.long q1), .second, .val (.long q2), .second, .val (.long q3), .second, .val (.long q4), .second, .val (.long (v0_1 q1 q2 q3 q4)), .second, .val (.long (v0_2 q1 q2 q3 q4)), .second, .val (.long (v0_3 q1 q2 q3 q4)), .second, .val (.ref b4), .val (.int (v0_7 q1 q2 q3 q4)), .val (.int (v0_9 q1 q2 q3 q4)), .val (.int (v0_11 q1 q2 q3 q4)), .val (.int (v0_13 q1 q2 q3 q4)), .val (.int (v0_15 q1 q2 q3 q4)), .unset, .unset, .unset, .unset, .unset, .unset, .unset, .unset, .unset, .unset, .unset, .unset]) rfl k) ?_
  show Go p e below W T14 (mkF m 72 #[.val (.long q1), .second, .val (.long q2), .second, .val (.long q3), .second, .val (.long q4), .second, .val (.long (v0_1 q1 q2 q3 q4)), .second, .val (.long (v0_2 q1 q2 q3 q4)), .second, .val (.long (v0_3 q1 q2 q3 q4)), .second, .val (.ref b4), .val (.int (v0_7 q1 q2 q3 q4)), .val (.int (v0_9 q1 q2 q3 q4)), .val (.int (v0_11 q1 q2 q3 q4)), .val (.int (v0_13 q1 q2 q3 q4)), .val (.int (v0_15 q1 q2 q3 q4)), .unset, .unset, .unset, .unset, .unset, .unset, .unset, .unset, .unset, .unset, .unset, .unset] [])
  refine Go.of (fun _ k => XS.aload X14.here hx rfl (hb hby at_72) rfl rfl k) ?_
  show Go p e below W T14 (mkF m 74 #[.val (.long q1), .second, .val (.long q2), .second, .val (.long q3), .second, .val (.long q4), .second, .val (.long (v0_1 q1 q2 q3 q4)), .second, .val (.long (v0_2 q1 q2 q3 q4)), .second, .val (.long (v0_3 q1 q2 q3 q4)), .second, .val (.ref b4), .val (.int (v0_7 q1 q2 q3 q4)), .val (.int (v0_9 q1 q2 q3 q4)), .val (.int (v0_11 q1 q2 q3 q4)), .val (.int (v0_13 q1 q2 q3 q4)), .val (.int (v0_15 q1 q2 q3 q4)), .unset, .unset, .unset, .unset, .unset, .unset, .unset, .unset, .unset, .unset, .unset, .unset] [(.ref b4)])
  refine Go.of (fun _ k => XS.lload X14.here hx rfl (hb hby at_74) rfl k) ?_
  show Go p e below W T14 (mkF m 76 #[.val (.long q1), .second, .val (.long q2), .second, .val (.long q3), .second, .val (.long q4), .second, .val (.long (v0_1 q1 q2 q3 q4)), .second, .val (.long (v0_2 q1 q2 q3 q4)), .second, .val (.long (v0_3 q1 q2 q3 q4)), .second, .val (.ref b4), .val (.int (v0_7 q1 q2 q3 q4)), .val (.int (v0_9 q1 q2 q3 q4)), .val (.int (v0_11 q1 q2 q3 q4)), .val (.int (v0_13 q1 q2 q3 q4)), .val (.int (v0_15 q1 q2 q3 q4)), .unset, .unset, .unset, .unset, .unset, .unset, .unset, .unset, .unset, .unset, .unset, .unset] [(.long (v0_3 q1 q2 q3 q4)), (.ref b4)])
  refine Go.callV X14 hx hZ hown (hw _ (List.mem_of_getElem? (i := 21) rfl)) (hw _ (List.mem_of_getElem? (i := 22) rfl)) (hw _ (List.mem_of_getElem? (i := 24) rfl)) (hw _ (List.mem_of_getElem? (i := 23) rfl)) (hw _ (List.mem_of_getElem? (i := 3) rfl)) (hw _ (List.mem_of_getElem? (i := 25) rfl)) (by decide) e14 E_b4 (rm4 l Z a0 hw [] b4 (v0_3 q1 q2 q3 q4) (f4_left (v0_2 q1 q2 q3 q4) (f4_left (v0_1 q1 q2 q3 q4) q1 (0 : Int32)) (f4_spent (v0_1 q1 q2 q3 q4) q1 (0 : Int32))) (f4_spent (v0_2 q1 q2 q3 q4) (f4_left (v0_1 q1 q2 q3 q4) q1 (0 : Int32)) (f4_spent (v0_1 q1 q2 q3 q4) q1 (0 : Int32))) T12.heap n0 Z0 E_b4 F_b4_bounded F_b4_left F_b4_spent g_b4) (V := 0) (by decide) (by decide) (by decide) (by decide) (by rw [hml]; rfl) (argsL := [(.long (v0_3 q1 q2 q3 q4))]) (rest := []) rfl (lenOf pd__J_Z rfl) rfl (Nat.le_of_ble_eq_true rfl) (hb hby at_76) ?_
  rintro T16 _ M16 ⟨rfl, N16, K16, F_b4_bounded, F_b4_left, F_b4_spent⟩ X16
  obtain ⟨L16, zq16⟩ : ∃ z, z = L12 ++ M16 := ⟨_, rfl⟩
  have N := Fr.app N N16
  rw [← zq16] at X16 N
  have E_b4 := E_b4.keep K16
  have K := K.trans K16 (by
    intro x hx
    simp only [List.mem_cons, List.not_mem_nil, or_false] at hx
    rcases hx with rfl
    · exact Or.inr s_b4)
  have Z0 := Nat.le_trans Z0 K16.1
  show Go p e below W T16 (mkF m 79 #[.val (.long q1), .second, .val (.long q2), .second, .val (.long q3), .second, .val (.long q4), .second, .val (.long (v0_1 q1 q2 q3 q4)), .second, .val (.long (v0_2 q1 q2 q3 q4)), .second, .val (.long (v0_3 q1 q2 q3 q4)), .second, .val (.ref b4), .val (.int (v0_7 q1 q2 q3 q4)), .val (.int (v0_9 q1 q2 q3 q4)), .val (.int (v0_11 q1 q2 q3 q4)), .val (.int (v0_13 q1 q2 q3 q4)), .val (.int (v0_15 q1 q2 q3 q4)), .unset, .unset, .unset, .unset, .unset, .unset, .unset, .unset, .unset, .unset, .unset, .unset] [(.int (f4 (v0_3 q1 q2 q3 q4) (f4_left (v0_2 q1 q2 q3 q4) (f4_left (v0_1 q1 q2 q3 q4) q1 (0 : Int32)) (f4_spent (v0_1 q1 q2 q3 q4) q1 (0 : Int32))) (f4_spent (v0_2 q1 q2 q3 q4) (f4_left (v0_1 q1 q2 q3 q4) q1 (0 : Int32)) (f4_spent (v0_1 q1 q2 q3 q4) q1 (0 : Int32)))))])
  refine Go.of (fun _ k => XS.istore X16.here hx rfl (hb hby at_79) rfl (l' := #[.val (.long q1), .second, .val (.long q2), .second, .val (.long q3), .second, .val (.long q4), .second, .val (.long (v0_1 q1 q2 q3 q4)), .second, .val (.long (v0_2 q1 q2 q3 q4)), .second, .val (.long (v0_3 q1 q2 q3 q4)), .second, .val (.ref b4), .val (.int (v0_7 q1 q2 q3 q4)), .val (.int (v0_9 q1 q2 q3 q4)), .val (.int (v0_11 q1 q2 q3 q4)), .val (.int (v0_13 q1 q2 q3 q4)), .val (.int (v0_15 q1 q2 q3 q4)), .val (.int (v0_17 q1 q2 q3 q4)), .unset, .unset, .unset, .unset, .unset, .unset, .unset, .unset, .unset, .unset, .unset]) rfl k) ?_
  show Go p e below W T16 (mkF m 81 #[.val (.long q1), .second, .val (.long q2), .second, .val (.long q3), .second, .val (.long q4), .second, .val (.long (v0_1 q1 q2 q3 q4)), .second, .val (.long (v0_2 q1 q2 q3 q4)), .second, .val (.long (v0_3 q1 q2 q3 q4)), .second, .val (.ref b4), .val (.int (v0_7 q1 q2 q3 q4)), .val (.int (v0_9 q1 q2 q3 q4)), .val (.int (v0_11 q1 q2 q3 q4)), .val (.int (v0_13 q1 q2 q3 q4)), .val (.int (v0_15 q1 q2 q3 q4)), .val (.int (v0_17 q1 q2 q3 q4)), .unset, .unset, .unset, .unset, .unset, .unset, .unset, .unset, .unset, .unset, .unset] [])
  refine Go.of (fun _ k => XS.aload X16.here hx rfl (hb hby at_81) rfl rfl k) ?_
  show Go p e below W T16 (mkF m 83 #[.val (.long q1), .second, .val (.long q2), .second, .val (.long q3), .second, .val (.long q4), .second, .val (.long (v0_1 q1 q2 q3 q4)), .second, .val (.long (v0_2 q1 q2 q3 q4)), .second, .val (.long (v0_3 q1 q2 q3 q4)), .second, .val (.ref b4), .val (.int (v0_7 q1 q2 q3 q4)), .val (.int (v0_9 q1 q2 q3 q4)), .val (.int (v0_11 q1 q2 q3 q4)), .val (.int (v0_13 q1 q2 q3 q4)), .val (.int (v0_15 q1 q2 q3 q4)), .val (.int (v0_17 q1 q2 q3 q4)), .unset, .unset, .unset, .unset, .unset, .unset, .unset, .unset, .unset, .unset, .unset] [(.ref b4)])
  refine Go.callV X16 hx hZ hown (hw _ (List.mem_of_getElem? (i := 14) rfl)) (hw _ (List.mem_of_getElem? (i := 15) rfl)) (hw _ (List.mem_of_getElem? (i := 17) rfl)) (hw _ (List.mem_of_getElem? (i := 16) rfl)) (hw _ (List.mem_of_getElem? (i := 3) rfl)) (hw _ (List.mem_of_getElem? (i := 18) rfl)) (by decide) rfl E_b4 (rm3 l Z a0 hw [] b4 (f4_spent (v0_3 q1 q2 q3 q4) (f4_left (v0_2 q1 q2 q3 q4) (f4_left (v0_1 q1 q2 q3 q4) q1 (0 : Int32)) (f4_spent (v0_1 q1 q2 q3 q4) q1 (0 : Int32))) (f4_spent (v0_2 q1 q2 q3 q4) (f4_left (v0_1 q1 q2 q3 q4) q1 (0 : Int32)) (f4_spent (v0_1 q1 q2 q3 q4) q1 (0 : Int32)))) T16.heap F_b4_spent) (V := 0) (by decide) (by decide) (by decide) (by decide) (by rw [hml]; rfl) (argsL := []) (rest := []) rfl (lenOf pd___Z rfl) rfl (Nat.le_of_ble_eq_true rfl) (hb hby at_83) ?_
  rintro T18 _ _ ⟨rfl, rfl, e18⟩ X18
  rw [List.append_nil] at X18
  show Go p e below W T18 (mkF m 86 #[.val (.long q1), .second, .val (.long q2), .second, .val (.long q3), .second, .val (.long q4), .second, .val (.long (v0_1 q1 q2 q3 q4)), .second, .val (.long (v0_2 q1 q2 q3 q4)), .second, .val (.long (v0_3 q1 q2 q3 q4)), .second, .val (.ref b4), .val (.int (v0_7 q1 q2 q3 q4)), .val (.int (v0_9 q1 q2 q3 q4)), .val (.int (v0_11 q1 q2 q3 q4)), .val (.int (v0_13 q1 q2 q3 q4)), .val (.int (v0_15 q1 q2 q3 q4)), .val (.int (v0_17 q1 q2 q3 q4)), .unset, .unset, .unset, .unset, .unset, .unset, .unset, .unset, .unset, .unset, .unset] [(.int (f3 (f4_spent (v0_3 q1 q2 q3 q4) (f4_left (v0_2 q1 q2 q3 q4) (f4_left (v0_1 q1 q2 q3 q4) q1 (0 : Int32)) (f4_spent (v0_1 q1 q2 q3 q4) q1 (0 : Int32))) (f4_spent (v0_2 q1 q2 q3 q4) (f4_left (v0_1 q1 q2 q3 q4) q1 (0 : Int32)) (f4_spent (v0_1 q1 q2 q3 q4) q1 (0 : Int32))))))])
  refine Go.of (fun _ k => XS.istore X18.here hx rfl (hb hby at_86) rfl (l' := #[.val (.long q1), .second, .val (.long q2), .second, .val (.long q3), .second, .val (.long q4), .second, .val (.long (v0_1 q1 q2 q3 q4)), .second, .val (.long (v0_2 q1 q2 q3 q4)), .second, .val (.long (v0_3 q1 q2 q3 q4)), .second, .val (.ref b4), .val (.int (v0_7 q1 q2 q3 q4)), .val (.int (v0_9 q1 q2 q3 q4)), .val (.int (v0_11 q1 q2 q3 q4)), .val (.int (v0_13 q1 q2 q3 q4)), .val (.int (v0_15 q1 q2 q3 q4)), .val (.int (v0_17 q1 q2 q3 q4)), .val (.int (v0_19 q1 q2 q3 q4)), .unset, .unset, .unset, .unset, .unset, .unset, .unset, .unset, .unset, .unset]) rfl k) ?_
  show Go p e below W T18 (mkF m 88 #[.val (.long q1), .second, .val (.long q2), .second, .val (.long q3), .second, .val (.long q4), .second, .val (.long (v0_1 q1 q2 q3 q4)), .second, .val (.long (v0_2 q1 q2 q3 q4)), .second, .val (.long (v0_3 q1 q2 q3 q4)), .second, .val (.ref b4), .val (.int (v0_7 q1 q2 q3 q4)), .val (.int (v0_9 q1 q2 q3 q4)), .val (.int (v0_11 q1 q2 q3 q4)), .val (.int (v0_13 q1 q2 q3 q4)), .val (.int (v0_15 q1 q2 q3 q4)), .val (.int (v0_17 q1 q2 q3 q4)), .val (.int (v0_19 q1 q2 q3 q4)), .unset, .unset, .unset, .unset, .unset, .unset, .unset, .unset, .unset, .unset] [])
  refine Go.of (fun _ k => XS.lload X18.here hx rfl (hb hby at_88) rfl k) ?_
  show Go p e below W T18 (mkF m 90 #[.val (.long q1), .second, .val (.long q2), .second, .val (.long q3), .second, .val (.long q4), .second, .val (.long (v0_1 q1 q2 q3 q4)), .second, .val (.long (v0_2 q1 q2 q3 q4)), .second, .val (.long (v0_3 q1 q2 q3 q4)), .second, .val (.ref b4), .val (.int (v0_7 q1 q2 q3 q4)), .val (.int (v0_9 q1 q2 q3 q4)), .val (.int (v0_11 q1 q2 q3 q4)), .val (.int (v0_13 q1 q2 q3 q4)), .val (.int (v0_15 q1 q2 q3 q4)), .val (.int (v0_17 q1 q2 q3 q4)), .val (.int (v0_19 q1 q2 q3 q4)), .unset, .unset, .unset, .unset, .unset, .unset, .unset, .unset, .unset, .unset] [(.long (v0_1 q1 q2 q3 q4))])
  refine Go.of (fun _ k => XS.lloadN X18.here hx rfl (hb hby at_90) rfl k) ?_
  show Go p e below W T18 (mkF m 91 #[.val (.long q1), .second, .val (.long q2), .second, .val (.long q3), .second, .val (.long q4), .second, .val (.long (v0_1 q1 q2 q3 q4)), .second, .val (.long (v0_2 q1 q2 q3 q4)), .second, .val (.long (v0_3 q1 q2 q3 q4)), .second, .val (.ref b4), .val (.int (v0_7 q1 q2 q3 q4)), .val (.int (v0_9 q1 q2 q3 q4)), .val (.int (v0_11 q1 q2 q3 q4)), .val (.int (v0_13 q1 q2 q3 q4)), .val (.int (v0_15 q1 q2 q3 q4)), .val (.int (v0_17 q1 q2 q3 q4)), .val (.int (v0_19 q1 q2 q3 q4)), .unset, .unset, .unset, .unset, .unset, .unset, .unset, .unset, .unset, .unset] [(.long q1), (.long (v0_1 q1 q2 q3 q4))])
  refine Go.of (fun _ k => XS.lcmp X18.here hx rfl (hb hby at_91) rfl k) ?_
  show Go p e below W T18 (mkF m 92 #[.val (.long q1), .second, .val (.long q2), .second, .val (.long q3), .second, .val (.long q4), .second, .val (.long (v0_1 q1 q2 q3 q4)), .second, .val (.long (v0_2 q1 q2 q3 q4)), .second, .val (.long (v0_3 q1 q2 q3 q4)), .second, .val (.ref b4), .val (.int (v0_7 q1 q2 q3 q4)), .val (.int (v0_9 q1 q2 q3 q4)), .val (.int (v0_11 q1 q2 q3 q4)), .val (.int (v0_13 q1 q2 q3 q4)), .val (.int (v0_15 q1 q2 q3 q4)), .val (.int (v0_17 q1 q2 q3 q4)), .val (.int (v0_19 q1 q2 q3 q4)), .unset, .unset, .unset, .unset, .unset, .unset, .unset, .unset, .unset, .unset] [(.int (Jvm.Free.XT.cmpL (v0_1 q1 q2 q3 q4) q1))])
  suffices G21 : ∀ T', Stand p l e room_1 s m #[(.long q1), (.long q2), (.long q3), (.long q4)] below meth c T' L16 1 3 → T'.heap = T16.heap → Go p e below W T' (mkF m 100 #[.val (.long q1), .second, .val (.long q2), .second, .val (.long q3), .second, .val (.long q4), .second, .val (.long (v0_1 q1 q2 q3 q4)), .second, .val (.long (v0_2 q1 q2 q3 q4)), .second, .val (.long (v0_3 q1 q2 q3 q4)), .second, .val (.ref b4), .val (.int (v0_7 q1 q2 q3 q4)), .val (.int (v0_9 q1 q2 q3 q4)), .val (.int (v0_11 q1 q2 q3 q4)), .val (.int (v0_13 q1 q2 q3 q4)), .val (.int (v0_15 q1 q2 q3 q4)), .val (.int (v0_17 q1 q2 q3 q4)), .val (.int (v0_19 q1 q2 q3 q4)), .unset, .unset, .unset, .unset, .unset, .unset, .unset, .unset, .unset, .unset] [(.int (v0_22 q1 q2 q3 q4))]) by
    by_cases c20 : q1 < (v0_1 q1 q2 q3 q4)
    · refine Go.of (fun _ k => XS.ifYes X18.here hx rfl (pc0 := 92) (pc' := 99) rfl (hb hby at_92) rfl (Jvm.Free.XT.ll_gt_t c20) (by decide) (by decide) k) ?_
      show Go p e below W T18 (mkF m 99 #[.val (.long q1), .second, .val (.long q2), .second, .val (.long q3), .second, .val (.long q4), .second, .val (.long (v0_1 q1 q2 q3 q4)), .second, .val (.long (v0_2 q1 q2 q3 q4)), .second, .val (.long (v0_3 q1 q2 q3 q4)), .second, .val (.ref b4), .val (.int (v0_7 q1 q2 q3 q4)), .val (.int (v0_9 q1 q2 q3 q4)), .val (.int (v0_11 q1 q2 q3 q4)), .val (.int (v0_13 q1 q2 q3 q4)), .val (.int (v0_15 q1 q2 q3 q4)), .val (.int (v0_17 q1 q2 q3 q4)), .val (.int (v0_19 q1 q2 q3 q4)), .unset, .unset, .unset, .unset, .unset, .unset, .unset, .unset, .unset, .unset] [])
      refine Go.of (fun _ k => XS.iconst X18.here hx rfl (hb hby at_99) k) ?_
      have G21 := G21
      have q_v0_22 : (v0_22 q1 q2 q3 q4) = (0 : Int32) := by rw [v0_22, if_pos c20]
      rw [q_v0_22] at G21
      exact G21 _ X18 e18
    · refine Go.of (fun _ k => XS.ifNo X18.here hx rfl (hb hby at_92) rfl (Jvm.Free.XT.ll_gt_f c20) k) ?_
      show Go p e below W T18 (mkF m 95 #[.val (.long q1), .second, .val (.long q2), .second, .val (.long q3), .second, .val (.long q4), .second, .val (.long (v0_1 q1 q2 q3 q4)), .second, .val (.long (v0_2 q1 q2 q3 q4)), .second, .val (.long (v0_3 q1 q2 q3 q4)), .second, .val (.ref b4), .val (.int (v0_7 q1 q2 q3 q4)), .val (.int (v0_9 q1 q2 q3 q4)), .val (.int (v0_11 q1 q2 q3 q4)), .val (.int (v0_13 q1 q2 q3 q4)), .val (.int (v0_15 q1 q2 q3 q4)), .val (.int (v0_17 q1 q2 q3 q4)), .val (.int (v0_19 q1 q2 q3 q4)), .unset, .unset, .unset, .unset, .unset, .unset, .unset, .unset, .unset, .unset] [])
      refine Go.of (fun _ k => XS.iconst X18.here hx rfl (hb hby at_95) k) ?_
      show Go p e below W T18 (mkF m 96 #[.val (.long q1), .second, .val (.long q2), .second, .val (.long q3), .second, .val (.long q4), .second, .val (.long (v0_1 q1 q2 q3 q4)), .second, .val (.long (v0_2 q1 q2 q3 q4)), .second, .val (.long (v0_3 q1 q2 q3 q4)), .second, .val (.ref b4), .val (.int (v0_7 q1 q2 q3 q4)), .val (.int (v0_9 q1 q2 q3 q4)), .val (.int (v0_11 q1 q2 q3 q4)), .val (.int (v0_13 q1 q2 q3 q4)), .val (.int (v0_15 q1 q2 q3 q4)), .val (.int (v0_17 q1 q2 q3 q4)), .val (.int (v0_19 q1 q2 q3 q4)), .unset, .unset, .unset, .unset, .unset, .unset, .unset, .unset, .unset, .unset] [(.int (1 : Int32))])
      refine Go.of (fun _ k => XS.goto X18.here hx rfl (pc0 := 96) (pc' := 100) rfl (hb hby at_96) (by decide) (by decide) k) ?_
      have G21 := G21
      have q_v0_22 : (v0_22 q1 q2 q3 q4) = (1 : Int32) := by rw [v0_22, if_neg c20]
      rw [q_v0_22] at G21
      exact G21 _ X18 e18
  intro T21 X21 e21
  show Go p e below W T21 (mkF m 100 #[.val (.long q1), .second, .val (.long q2), .second, .val (.long q3), .second, .val (.long q4), .second, .val (.long (v0_1 q1 q2 q3 q4)), .second, .val (.long (v0_2 q1 q2 q3 q4)), .second, .val (.long (v0_3 q1 q2 q3 q4)), .second, .val (.ref b4), .val (.int (v0_7 q1 q2 q3 q4)), .val (.int (v0_9 q1 q2 q3 q4)), .val (.int (v0_11 q1 q2 q3 q4)), .val (.int (v0_13 q1 q2 q3 q4)), .val (.int (v0_15 q1 q2 q3 q4)), .val (.int (v0_17 q1 q2 q3 q4)), .val (.int (v0_19 q1 q2 q3 q4)), .unset, .unset, .unset, .unset, .unset, .unset, .unset, .unset, .unset, .unset] [(.int (v0_22 q1 q2 q3 q4))])
  refine Go.of (fun _ k => XS.istore X21.here hx rfl (hb hby at_100) rfl (l' := #[.val (.long q1), .second, .val (.long q2), .second, .val (.long q3), .second, .val (.long q4), .second, .val (.long (v0_1 q1 q2 q3 q4)), .second, .val (.long (v0_2 q1 q2 q3 q4)), .second, .val (.long (v0_3 q1 q2 q3 q4)), .second, .val (.ref b4), .val (.int (v0_7 q1 q2 q3 q4)), .val (.int (v0_9 q1 q2 q3 q4)), .val (.int (v0_11 q1 q2 q3 q4)), .val (.int (v0_13 q1 q2 q3 q4)), .val (.int (v0_15 q1 q2 q3 q4)), .val (.int (v0_17 q1 q2 q3 q4)), .val (.int (v0_19 q1 q2 q3 q4)), .val (.int (v0_22 q1 q2 q3 q4)), .unset, .unset, .unset, .unset, .unset, .unset, .unset, .unset, .unset]) rfl k) ?_
  show Go p e below W T21 (mkF m 102 #[.val (.long q1), .second, .val (.long q2), .second, .val (.long q3), .second, .val (.long q4), .second, .val (.long (v0_1 q1 q2 q3 q4)), .second, .val (.long (v0_2 q1 q2 q3 q4)), .second, .val (.long (v0_3 q1 q2 q3 q4)), .second, .val (.ref b4), .val (.int (v0_7 q1 q2 q3 q4)), .val (.int (v0_9 q1 q2 q3 q4)), .val (.int (v0_11 q1 q2 q3 q4)), .val (.int (v0_13 q1 q2 q3 q4)), .val (.int (v0_15 q1 q2 q3 q4)), .val (.int (v0_17 q1 q2 q3 q4)), .val (.int (v0_19 q1 q2 q3 q4)), .val (.int (v0_22 q1 q2 q3 q4)), .unset, .unset, .unset, .unset, .unset, .unset, .unset, .unset, .unset] [])
  refine Go.of (fun _ k => XS.iload X21.here hx rfl (hb hby at_102) rfl k) ?_
  show Go p e below W T21 (mkF m 104 #[.val (.long q1), .second, .val (.long q2), .second, .val (.long q3), .second, .val (.long q4), .second, .val (.long (v0_1 q1 q2 q3 q4)), .second, .val (.long (v0_2 q1 q2 q3 q4)), .second, .val (.long (v0_3 q1 q2 q3 q4)), .second, .val (.ref b4), .val (.int (v0_7 q1 q2 q3 q4)), .val (.int (v0_9 q1 q2 q3 q4)), .val (.int (v0_11 q1 q2 q3 q4)), .val (.int (v0_13 q1 q2 q3 q4)), .val (.int (v0_15 q1 q2 q3 q4)), .val (.int (v0_17 q1 q2 q3 q4)), .val (.int (v0_19 q1 q2 q3 q4)), .val (.int (v0_22 q1 q2 q3 q4)), .unset, .unset, .unset, .unset, .unset, .unset, .unset, .unset, .unset] [(.int (v0_22 q1 q2 q3 q4))])
  suffices G24 : ∀ T', Stand p l e room_1 s m #[(.long q1), (.long q2), (.long q3), (.long q4)] below meth c T' L16 1 3 → T'.heap = T16.heap → Go p e below W T' (mkF m 115 #[.val (.long q1), .second, .val (.long q2), .second, .val (.long q3), .second, .val (.long q4), .second, .val (.long (v0_1 q1 q2 q3 q4)), .second, .val (.long (v0_2 q1 q2 q3 q4)), .second, .val (.long (v0_3 q1 q2 q3 q4)), .second, .val (.ref b4), .val (.int (v0_7 q1 q2 q3 q4)), .val (.int (v0_9 q1 q2 q3 q4)), .val (.int (v0_11 q1 q2 q3 q4)), .val (.int (v0_13 q1 q2 q3 q4)), .val (.int (v0_15 q1 q2 q3 q4)), .val (.int (v0_17 q1 q2 q3 q4)), .val (.int (v0_19 q1 q2 q3 q4)), .val (.int (v0_22 q1 q2 q3 q4)), .unset, .unset, .unset, .unset, .unset, .unset, .unset, .unset, .unset] [(.long (v0_25 q1 q2 q3 q4))]) by
    by_cases c23 : (v0_22 q1 q2 q3 q4) = (0 : Int32)
    · refine Go.of (fun _ k => XS.ifYes X21.here hx rfl (pc0 := 104) (pc' := 114) rfl (hb hby at_104) rfl (Jvm.Free.XT.i0_eq_t c23) (by decide) (by decide) k) ?_
      show Go p e below W T21 (mkF m 114 #[.val (.long q1), .second, .val (.long q2), .second, .val (.long q3), .second, .val (.long q4), .second, .val (.long (v0_1 q1 q2 q3 q4)), .second, .val (.long (v0_2 q1 q2 q3 q4)), .second, .val (.long (v0_3 q1 q2 q3 q4)), .second, .val (.ref b4), .val (.int (v0_7 q1 q2 q3 q4)), .val (.int (v0_9 q1 q2 q3 q4)), .val (.int (v0_11 q1 q2 q3 q4)), .val (.int (v0_13 q1 q2 q3 q4)), .val (.int (v0_15 q1 q2 q3 q4)), .val (.int (v0_17 q1 q2 q3 q4)), .val (.int (v0_19 q1 q2 q3 q4)), .val (.int (v0_22 q1 q2 q3 q4)), .unset, .unset, .unset, .unset, .unset, .unset, .unset, .unset, .unset] [])
      refine Go.of (fun _ k => XS.lloadN X21.here hx rfl (hb hby at_114) rfl k) ?_
      have G24 := G24
      have q_v0_25 : (v0_25 q1 q2 q3 q4) = q1 := by rw [v0_25, if_pos c23]
      rw [q_v0_25] at G24
      exact G24 _ X21 e21
    · refine Go.of (fun _ k => XS.ifNo X21.here hx rfl (hb hby at_104) rfl (Jvm.Free.XT.i0_eq_f c23) k) ?_
      show Go p e below W T21 (mkF m 107 #[.val (.long q1), .second, .val (.long q2), .second, .val (.long q3), .second, .val (.long q4), .second, .val (.long (v0_1 q1 q2 q3 q4)), .second, .val (.long (v0_2 q1 q2 q3 q4)), .second, .val (.long (v0_3 q1 q2 q3 q4)), .second, .val (.ref b4), .val (.int (v0_7 q1 q2 q3 q4)), .val (.int (v0_9 q1 q2 q3 q4)), .val (.int (v0_11 q1 q2 q3 q4)), .val (.int (v0_13 q1 q2 q3 q4)), .val (.int (v0_15 q1 q2 q3 q4)), .val (.int (v0_17 q1 q2 q3 q4)), .val (.int (v0_19 q1 q2 q3 q4)), .val (.int (v0_22 q1 q2 q3 q4)), .unset, .unset, .unset, .unset, .unset, .unset, .unset, .unset, .unset] [])
      refine Go.of (fun _ k => XS.lloadN X21.here hx rfl (hb hby at_107) rfl k) ?_
      show Go p e below W T21 (mkF m 108 #[.val (.long q1), .second, .val (.long q2), .second, .val (.long q3), .second, .val (.long q4), .second, .val (.long (v0_1 q1 q2 q3 q4)), .second, .val (.long (v0_2 q1 q2 q3 q4)), .second, .val (.long (v0_3 q1 q2 q3 q4)), .second, .val (.ref b4), .val (.int (v0_7 q1 q2 q3 q4)), .val (.int (v0_9 q1 q2 q3 q4)), .val (.int (v0_11 q1 q2 q3 q4)), .val (.int (v0_13 q1 q2 q3 q4)), .val (.int (v0_15 q1 q2 q3 q4)), .val (.int (v0_17 q1 q2 q3 q4)), .val (.int (v0_19 q1 q2 q3 q4)), .val (.int (v0_22 q1 q2 q3 q4)), .unset, .unset, .unset, .unset, .unset, .unset, .unset, .unset, .unset] [(.long q1)])
      refine Go.of (fun _ k => XS.lload X21.here hx rfl (hb hby at_108) rfl k) ?_
      show Go p e below W T21 (mkF m 110 #[.val (.long q1), .second, .val (.long q2), .second, .val (.long q3), .second, .val (.long q4), .second, .val (.long (v0_1 q1 q2 q3 q4)), .second, .val (.long (v0_2 q1 q2 q3 q4)), .second, .val (.long (v0_3 q1 q2 q3 q4)), .second, .val (.ref b4), .val (.int (v0_7 q1 q2 q3 q4)), .val (.int (v0_9 q1 q2 q3 q4)), .val (.int (v0_11 q1 q2 q3 q4)), .val (.int (v0_13 q1 q2 q3 q4)), .val (.int (v0_15 q1 q2 q3 q4)), .val (.int (v0_17 q1 q2 q3 q4)), .val (.int (v0_19 q1 q2 q3 q4)), .val (.int (v0_22 q1 q2 q3 q4)), .unset, .unset, .unset, .unset, .unset, .unset, .unset, .unset, .unset] [(.long (v0_1 q1 q2 q3 q4)), (.long q1)])
      refine Go.of (fun _ k => XS.lsub X21.here hx rfl (hb hby at_110) rfl k) ?_
      show Go p e below W T21 (mkF m 111 #[.val (.long q1), .second, .val (.long q2), .second, .val (.long q3), .second, .val (.long q4), .second, .val (.long (v0_1 q1 q2 q3 q4)), .second, .val (.long (v0_2 q1 q2 q3 q4)), .second, .val (.long (v0_3 q1 q2 q3 q4)), .second, .val (.ref b4), .val (.int (v0_7 q1 q2 q3 q4)), .val (.int (v0_9 q1 q2 q3 q4)), .val (.int (v0_11 q1 q2 q3 q4)), .val (.int (v0_13 q1 q2 q3 q4)), .val (.int (v0_15 q1 q2 q3 q4)), .val (.int (v0_17 q1 q2 q3 q4)), .val (.int (v0_19 q1 q2 q3 q4)), .val (.int (v0_22 q1 q2 q3 q4)), .unset, .unset, .unset, .unset, .unset, .unset, .unset, .unset, .unset] [(.long (q1 - (v0_1 q1 q2 q3 q4)))])
      refine Go.of (fun _ k => XS.goto X21.here hx rfl (pc0 := 111) (pc' := 115) rfl (hb hby at_111) (by decide) (by decide) k) ?_
      have G24 := G24
      have q_v0_25 : (v0_25 q1 q2 q3 q4) = (q1 - (v0_1 q1 q2 q3 q4)) := by rw [v0_25, if_neg c23]
      rw [q_v0_25] at G24
      exact G24 _ X21 e21
  intro T24 X24 e24
  show Go p e below W T24 (mkF m 115 #[.val (.long q1), .second, .val (.long q2), .second, .val (.long q3), .second, .val (.long q4), .second, .val (.long (v0_1 q1 q2 q3 q4)), .second, .val (.long (v0_2 q1 q2 q3 q4)), .second, .val (.long (v0_3 q1 q2 q3 q4)), .second, .val (.ref b4), .val (.int (v0_7 q1 q2 q3 q4)), .val (.int (v0_9 q1 q2 q3 q4)), .val (.int (v0_11 q1 q2 q3 q4)), .val (.int (v0_13 q1 q2 q3 q4)), .val (.int (v0_15 q1 q2 q3 q4)), .val (.int (v0_17 q1 q2 q3 q4)), .val (.int (v0_19 q1 q2 q3 q4)), .val (.int (v0_22 q1 q2 q3 q4)), .unset, .unset, .unset, .unset, .unset, .unset, .unset, .unset, .unset] [(.long (v0_25 q1 q2 q3 q4))])
  refine Go.of (fun _ k => XS.lstore X24.here hx rfl (hb hby at_115) rfl (l' := #[.val (.long q1), .second, .val (.long q2), .second, .val (.long q3), .second, .val (.long q4), .second, .val (.long (v0_1 q1 q2 q3 q4)), .second, .val (.long (v0_2 q1 q2 q3 q4)), .second, .val (.long (v0_3 q1 q2 q3 q4)), .second, .val (.ref b4), .val (.int (v0_7 q1 q2 q3 q4)), .val (.int (v0_9 q1 q2 q3 q4)), .val (.int (v0_11 q1 q2 q3 q4)), .val (.int (v0_13 q1 q2 q3 q4)), .val (.int (v0_15 q1 q2 q3 q4)), .val (.int (v0_17 q1 q2 q3 q4)), .val (.int (v0_19 q1 q2 q3 q4)), .val (.int (v0_22 q1 q2 q3 q4)), .val (.long (v0_25 q1 q2 q3 q4)), .second, .unset, .unset, .unset, .unset, .unset, .unset, .unset]) rfl k) ?_
  show Go p e below W T24 (mkF m 117 #[.val (.long q1), .second, .val (.long q2), .second, .val (.long q3), .second, .val (.long q4), .second, .val (.long (v0_1 q1 q2 q3 q4)), .second, .val (.long (v0_2 q1 q2 q3 q4)), .second, .val (.long (v0_3 q1 q2 q3 q4)), .second, .val (.ref b4), .val (.int (v0_7 q1 q2 q3 q4)), .val (.int (v0_9 q1 q2 q3 q4)), .val (.int (v0_11 q1 q2 q3 q4)), .val (.int (v0_13 q1 q2 q3 q4)), .val (.int (v0_15 q1 q2 q3 q4)), .val (.int (v0_17 q1 q2 q3 q4)), .val (.int (v0_19 q1 q2 q3 q4)), .val (.int (v0_22 q1 q2 q3 q4)), .val (.long (v0_25 q1 q2 q3 q4)), .second, .unset, .unset, .unset, .unset, .unset, .unset, .unset] [])
  refine Go.of (fun _ k => XS.lload X24.here hx rfl (hb hby at_117) rfl k) ?_
  show Go p e below W T24 (mkF m 119 #[.val (.long q1), .second, .val (.long q2), .second, .val (.long q3), .second, .val (.long q4), .second, .val (.long (v0_1 q1 q2 q3 q4)), .second, .val (.long (v0_2 q1 q2 q3 q4)), .second, .val (.long (v0_3 q1 q2 q3 q4)), .second, .val (.ref b4), .val (.int (v0_7 q1 q2 q3 q4)), .val (.int (v0_9 q1 q2 q3 q4)), .val (.int (v0_11 q1 q2 q3 q4)), .val (.int (v0_13 q1 q2 q3 q4)), .val (.int (v0_15 q1 q2 q3 q4)), .val (.int (v0_17 q1 q2 q3 q4)), .val (.int (v0_19 q1 q2 q3 q4)), .val (.int (v0_22 q1 q2 q3 q4)), .val (.long (v0_25 q1 q2 q3 q4)), .second, .unset, .unset, .unset, .unset, .unset, .unset, .unset] [(.long (v0_2 q1 q2 q3 q4))])
  refine Go.of (fun _ k => XS.lload X24.here hx rfl (hb hby at_119) rfl k) ?_
  show Go p e below W T24 (mkF m 121 #[.val (.long q1), .second, .val (.long q2), .second, .val (.long q3), .second, .val (.long q4), .second, .val (.long (v0_1 q1 q2 q3 q4)), .second, .val (.long (v0_2 q1 q2 q3 q4)), .second, .val (.long (v0_3 q1 q2 q3 q4)), .second, .val (.ref b4), .val (.int (v0_7 q1 q2 q3 q4)), .val (.int (v0_9 q1 q2 q3 q4)), .val (.int (v0_11 q1 q2 q3 q4)), .val (.int (v0_13 q1 q2 q3 q4)), .val (.int (v0_15 q1 q2 q3 q4)), .val (.int (v0_17 q1 q2 q3 q4)), .val (.int (v0_19 q1 q2 q3 q4)), .val (.int (v0_22 q1 q2 q3 q4)), .val (.long (v0_25 q1 q2 q3 q4)), .second, .unset, .unset, .unset, .unset, .unset, .unset, .unset] [(.long (v0_25 q1 q2 q3 q4)), (.long (v0_2 q1 q2 q3 q4))])
  refine Go.of (fun _ k => XS.lcmp X24.here hx rfl (hb hby at_121) rfl k) ?_
  show Go p e below W T24 (mkF m 122 #[.val (.long q1), .second, .val (.long q2), .second, .val (.long q3), .second, .val (.long q4), .second, .val (.long (v0_1 q1 q2 q3 q4)), .second, .val (.long (v0_2 q1 q2 q3 q4)), .second, .val (.long (v0_3 q1 q2 q3 q4)), .second, .val (.ref b4), .val (.int (v0_7 q1 q2 q3 q4)), .val (.int (v0_9 q1 q2 q3 q4)), .val (.int (v0_11 q1 q2 q3 q4)), .val (.int (v0_13 q1 q2 q3 q4)), .val (.int (v0_15 q1 q2 q3 q4)), .val (.int (v0_17 q1 q2 q3 q4)), .val (.int (v0_19 q1 q2 q3 q4)), .val (.int (v0_22 q1 q2 q3 q4)), .val (.long (v0_25 q1 q2 q3 q4)), .second, .unset, .unset, .unset, .unset, .unset, .unset, .unset] [(.int (Jvm.Free.XT.cmpL (v0_2 q1 q2 q3 q4) (v0_25 q1 q2 q3 q4)))])
  suffices G27 : ∀ T', Stand p l e room_1 s m #[(.long q1), (.long q2), (.long q3), (.long q4)] below meth c T' L16 1 3 → T'.heap = T16.heap → Go p e below W T' (mkF m 130 #[.val (.long q1), .second, .val (.long q2), .second, .val (.long q3), .second, .val (.long q4), .second, .val (.long (v0_1 q1 q2 q3 q4)), .second, .val (.long (v0_2 q1 q2 q3 q4)), .second, .val (.long (v0_3 q1 q2 q3 q4)), .second, .val (.ref b4), .val (.int (v0_7 q1 q2 q3 q4)), .val (.int (v0_9 q1 q2 q3 q4)), .val (.int (v0_11 q1 q2 q3 q4)), .val (.int (v0_13 q1 q2 q3 q4)), .val (.int (v0_15 q1 q2 q3 q4)), .val (.int (v0_17 q1 q2 q3 q4)), .val (.int (v0_19 q1 q2 q3 q4)), .val (.int (v0_22 q1 q2 q3 q4)), .val (.long (v0_25 q1 q2 q3 q4)), .second, .unset, .unset, .unset, .unset, .unset, .unset, .unset] [(.int (v0_28 q1 q2 q3 q4))]) by
    by_cases c26 : (v0_25 q1 q2 q3 q4) < (v0_2 q1 q2 q3 q4)
    · refine Go.of (fun _ k => XS.ifYes X24.here hx rfl (pc0 := 122) (pc' := 129) rfl (hb hby at_122) rfl (Jvm.Free.XT.ll_gt_t c26) (by decide) (by decide) k) ?_
      show Go p e below W T24 (mkF m 129 #[.val (.long q1), .second, .val (.long q2), .second, .val (.long q3), .second, .val (.long q4), .second, .val (.long (v0_1 q1 q2 q3 q4)), .second, .val (.long (v0_2 q1 q2 q3 q4)), .second, .val (.long (v0_3 q1 q2 q3 q4)), .second, .val (.ref b4), .val (.int (v0_7 q1 q2 q3 q4)), .val (.int (v0_9 q1 q2 q3 q4)), .val (.int (v0_11 q1 q2 q3 q4)), .val (.int (v0_13 q1 q2 q3 q4)), .val (.int (v0_15 q1 q2 q3 q4)), .val (.int (v0_17 q1 q2 q3 q4)), .val (.int (v0_19 q1 q2 q3 q4)), .val (.int (v0_22 q1 q2 q3 q4)), .val (.long (v0_25 q1 q2 q3 q4)), .second, .unset, .unset, .unset, .unset, .unset, .unset, .unset] [])
      refine Go.of (fun _ k => XS.iconst X24.here hx rfl (hb hby at_129) k) ?_
      have G27 := G27
      have q_v0_28 : (v0_28 q1 q2 q3 q4) = (0 : Int32) := by rw [v0_28, if_pos c26]
      rw [q_v0_28] at G27
      exact G27 _ X24 e24
    · refine Go.of (fun _ k => XS.ifNo X24.here hx rfl (hb hby at_122) rfl (Jvm.Free.XT.ll_gt_f c26) k) ?_
      show Go p e below W T24 (mkF m 125 #[.val (.long q1), .second, .val (.long q2), .second, .val (.long q3), .second, .val (.long q4), .second, .val (.long (v0_1 q1 q2 q3 q4)), .second, .val (.long (v0_2 q1 q2 q3 q4)), .second, .val (.long (v0_3 q1 q2 q3 q4)), .second, .val (.ref b4), .val (.int (v0_7 q1 q2 q3 q4)), .val (.int (v0_9 q1 q2 q3 q4)), .val (.int (v0_11 q1 q2 q3 q4)), .val (.int (v0_13 q1 q2 q3 q4)), .val (.int (v0_15 q1 q2 q3 q4)), .val (.int (v0_17 q1 q2 q3 q4)), .val (.int (v0_19 q1 q2 q3 q4)), .val (.int (v0_22 q1 q2 q3 q4)), .val (.long (v0_25 q1 q2 q3 q4)), .second, .unset, .unset, .unset, .unset, .unset, .unset, .unset] [])
      refine Go.of (fun _ k => XS.iconst X24.here hx rfl (hb hby at_125) k) ?_
      show Go p e below W T24 (mkF m 126 #[.val (.long q1), .second, .val (.long q2), .second, .val (.long q3), .second, .val (.long q4), .second, .val (.long (v0_1 q1 q2 q3 q4)), .second, .val (.long (v0_2 q1 q2 q3 q4)), .second, .val (.long (v0_3 q1 q2 q3 q4)), .second, .val (.ref b4), .val (.int (v0_7 q1 q2 q3 q4)), .val (.int (v0_9 q1 q2 q3 q4)), .val (.int (v0_11 q1 q2 q3 q4)), .val (.int (v0_13 q1 q2 q3 q4)), .val (.int (v0_15 q1 q2 q3 q4)), .val (.int (v0_17 q1 q2 q3 q4)), .val (.int (v0_19 q1 q2 q3 q4)), .val (.int (v0_22 q1 q2 q3 q4)), .val (.long (v0_25 q1 q2 q3 q4)), .second, .unset, .unset, .unset, .unset, .unset, .unset, .unset] [(.int (1 : Int32))])
      refine Go.of (fun _ k => XS.goto X24.here hx rfl (pc0 := 126) (pc' := 130) rfl (hb hby at_126) (by decide) (by decide) k) ?_
      have G27 := G27
      have q_v0_28 : (v0_28 q1 q2 q3 q4) = (1 : Int32) := by rw [v0_28, if_neg c26]
      rw [q_v0_28] at G27
      exact G27 _ X24 e24
  intro T27 X27 e27
  show Go p e below W T27 (mkF m 130 #[.val (.long q1), .second, .val (.long q2), .second, .val (.long q3), .second, .val (.long q4), .second, .val (.long (v0_1 q1 q2 q3 q4)), .second, .val (.long (v0_2 q1 q2 q3 q4)), .second, .val (.long (v0_3 q1 q2 q3 q4)), .second, .val (.ref b4), .val (.int (v0_7 q1 q2 q3 q4)), .val (.int (v0_9 q1 q2 q3 q4)), .val (.int (v0_11 q1 q2 q3 q4)), .val (.int (v0_13 q1 q2 q3 q4)), .val (.int (v0_15 q1 q2 q3 q4)), .val (.int (v0_17 q1 q2 q3 q4)), .val (.int (v0_19 q1 q2 q3 q4)), .val (.int (v0_22 q1 q2 q3 q4)), .val (.long (v0_25 q1 q2 q3 q4)), .second, .unset, .unset, .unset, .unset, .unset, .unset, .unset] [(.int (v0_28 q1 q2 q3 q4))])
  refine Go.of (fun _ k => XS.istore X27.here hx rfl (hb hby at_130) rfl (l' := #[.val (.long q1), .second, .val (.long q2), .second, .val (.long q3), .second, .val (.long q4), .second, .val (.long (v0_1 q1 q2 q3 q4)), .second, .val (.long (v0_2 q1 q2 q3 q4)), .second, .val (.long (v0_3 q1 q2 q3 q4)), .second, .val (.ref b4), .val (.int (v0_7 q1 q2 q3 q4)), .val (.int (v0_9 q1 q2 q3 q4)), .val (.int (v0_11 q1 q2 q3 q4)), .val (.int (v0_13 q1 q2 q3 q4)), .val (.int (v0_15 q1 q2 q3 q4)), .val (.int (v0_17 q1 q2 q3 q4)), .val (.int (v0_19 q1 q2 q3 q4)), .val (.int (v0_22 q1 q2 q3 q4)), .val (.long (v0_25 q1 q2 q3 q4)), .second, .val (.int (v0_28 q1 q2 q3 q4)), .unset, .unset, .unset, .unset, .unset, .unset]) rfl k) ?_
  show Go p e below W T27 (mkF m 132 #[.val (.long q1), .second, .val (.long q2), .second, .val (.long q3), .second, .val (.long q4), .second, .val (.long (v0_1 q1 q2 q3 q4)), .second, .val (.long (v0_2 q1 q2 q3 q4)), .second, .val (.long (v0_3 q1 q2 q3 q4)), .second, .val (.ref b4), .val (.int (v0_7 q1 q2 q3 q4)), .val (.int (v0_9 q1 q2 q3 q4)), .val (.int (v0_11 q1 q2 q3 q4)), .val (.int (v0_13 q1 q2 q3 q4)), .val (.int (v0_15 q1 q2 q3 q4)), .val (.int (v0_17 q1 q2 q3 q4)), .val (.int (v0_19 q1 q2 q3 q4)), .val (.int (v0_22 q1 q2 q3 q4)), .val (.long (v0_25 q1 q2 q3 q4)), .second, .val (.int (v0_28 q1 q2 q3 q4)), .unset, .unset, .unset, .unset, .unset, .unset] [])
  refine Go.of (fun _ k => XS.iload X27.here hx rfl (hb hby at_132) rfl k) ?_
  show Go p e below W T27 (mkF m 134 #[.val (.long q1), .second, .val (.long q2), .second, .val (.long q3), .second, .val (.long q4), .second, .val (.long (v0_1 q1 q2 q3 q4)), .second, .val (.long (v0_2 q1 q2 q3 q4)), .second, .val (.long (v0_3 q1 q2 q3 q4)), .second, .val (.ref b4), .val (.int (v0_7 q1 q2 q3 q4)), .val (.int (v0_9 q1 q2 q3 q4)), .val (.int (v0_11 q1 q2 q3 q4)), .val (.int (v0_13 q1 q2 q3 q4)), .val (.int (v0_15 q1 q2 q3 q4)), .val (.int (v0_17 q1 q2 q3 q4)), .val (.int (v0_19 q1 q2 q3 q4)), .val (.int (v0_22 q1 q2 q3 q4)), .val (.long (v0_25 q1 q2 q3 q4)), .second, .val (.int (v0_28 q1 q2 q3 q4)), .unset, .unset, .unset, .unset, .unset, .unset] [(.int (v0_28 q1 q2 q3 q4))])
  suffices G30 : ∀ T', Stand p l e room_1 s m #[(.long q1), (.long q2), (.long q3), (.long q4)] below meth c T' L16 1 3 → T'.heap = T16.heap → Go p e below W T' (mkF m 147 #[.val (.long q1), .second, .val (.long q2), .second, .val (.long q3), .second, .val (.long q4), .second, .val (.long (v0_1 q1 q2 q3 q4)), .second, .val (.long (v0_2 q1 q2 q3 q4)), .second, .val (.long (v0_3 q1 q2 q3 q4)), .second, .val (.ref b4), .val (.int (v0_7 q1 q2 q3 q4)), .val (.int (v0_9 q1 q2 q3 q4)), .val (.int (v0_11 q1 q2 q3 q4)), .val (.int (v0_13 q1 q2 q3 q4)), .val (.int (v0_15 q1 q2 q3 q4)), .val (.int (v0_17 q1 q2 q3 q4)), .val (.int (v0_19 q1 q2 q3 q4)), .val (.int (v0_22 q1 q2 q3 q4)), .val (.long (v0_25 q1 q2 q3 q4)), .second, .val (.int (v0_28 q1 q2 q3 q4)), .unset, .unset, .unset, .unset, .unset, .unset] [(.long (v0_31 q1 q2 q3 q4))]) by
    by_cases c29 : (v0_28 q1 q2 q3 q4) = (0 : Int32)
    · refine Go.of (fun _ k => XS.ifYes X27.here hx rfl (pc0 := 134) (pc' := 145) rfl (hb hby at_134) rfl (Jvm.Free.XT.i0_eq_t c29) (by decide) (by decide) k) ?_
      show Go p e below W T27 (mkF m 145 #[.val (.long q1), .second, .val (.long q2), .second, .val (.long q3), .second, .val (.long q4), .second, .val (.long (v0_1 q1 q2 q3 q4)), .second, .val (.long (v0_2 q1 q2 q3 q4)), .second, .val (.long (v0_3 q1 q2 q3 q4)), .second, .val (.ref b4), .val (.int (v0_7 q1 q2 q3 q4)), .val (.int (v0_9 q1 q2 q3 q4)), .val (.int (v0_11 q1 q2 q3 q4)), .val (.int (v0_13 q1 q2 q3 q4)), .val (.int (v0_15 q1 q2 q3 q4)), .val (.int (v0_17 q1 q2 q3 q4)), .val (.int (v0_19 q1 q2 q3 q4)), .val (.int (v0_22 q1 q2 q3 q4)), .val (.long (v0_25 q1 q2 q3 q4)), .second, .val (.int (v0_28 q1 q2 q3 q4)), .unset, .unset, .unset, .unset, .unset, .unset] [])
      refine Go.of (fun _ k => XS.lload X27.here hx rfl (hb hby at_145) rfl k) ?_
      have G30 := G30
      have q_v0_31 : (v0_31 q1 q2 q3 q4) = (v0_25 q1 q2 q3 q4) := by rw [v0_31, if_pos c29]
      rw [q_v0_31] at G30
      exact G30 _ X27 e27
    · refine Go.of (fun _ k => XS.ifNo X27.here hx rfl (hb hby at_134) rfl (Jvm.Free.XT.i0_eq_f c29) k) ?_
      show Go p e below W T27 (mkF m 137 #[.val (.long q1), .second, .val (.long q2), .second, .val (.long q3), .second, .val (.long q4), .second, .val (.long (v0_1 q1 q2 q3 q4)), .second, .val (.long (v0_2 q1 q2 q3 q4)), .second, .val (.long (v0_3 q1 q2 q3 q4)), .second, .val (.ref b4), .val (.int (v0_7 q1 q2 q3 q4)), .val (.int (v0_9 q1 q2 q3 q4)), .val (.int (v0_11 q1 q2 q3 q4)), .val (.int (v0_13 q1 q2 q3 q4)), .val (.int (v0_15 q1 q2 q3 q4)), .val (.int (v0_17 q1 q2 q3 q4)), .val (.int (v0_19 q1 q2 q3 q4)), .val (.int (v0_22 q1 q2 q3 q4)), .val (.long (v0_25 q1 q2 q3 q4)), .second, .val (.int (v0_28 q1 q2 q3 q4)), .unset, .unset, .unset, .unset, .unset, .unset] [])
      refine Go.of (fun _ k => XS.lload X27.here hx rfl (hb hby at_137) rfl k) ?_
      show Go p e below W T27 (mkF m 139 #[.val (.long q1), .second, .val (.long q2), .second, .val (.long q3), .second, .val (.long q4), .second, .val (.long (v0_1 q1 q2 q3 q4)), .second, .val (.long (v0_2 q1 q2 q3 q4)), .second, .val (.long (v0_3 q1 q2 q3 q4)), .second, .val (.ref b4), .val (.int (v0_7 q1 q2 q3 q4)), .val (.int (v0_9 q1 q2 q3 q4)), .val (.int (v0_11 q1 q2 q3 q4)), .val (.int (v0_13 q1 q2 q3 q4)), .val (.int (v0_15 q1 q2 q3 q4)), .val (.int (v0_17 q1 q2 q3 q4)), .val (.int (v0_19 q1 q2 q3 q4)), .val (.int (v0_22 q1 q2 q3 q4)), .val (.long (v0_25 q1 q2 q3 q4)), .second, .val (.int (v0_28 q1 q2 q3 q4)), .unset, .unset, .unset, .unset, .unset, .unset] [(.long (v0_25 q1 q2 q3 q4))])
      refine Go.of (fun _ k => XS.lload X27.here hx rfl (hb hby at_139) rfl k) ?_
      show Go p e below W T27 (mkF m 141 #[.val (.long q1), .second, .val (.long q2), .second, .val (.long q3), .second, .val (.long q4), .second, .val (.long (v0_1 q1 q2 q3 q4)), .second, .val (.long (v0_2 q1 q2 q3 q4)), .second, .val (.long (v0_3 q1 q2 q3 q4)), .second, .val (.ref b4), .val (.int (v0_7 q1 q2 q3 q4)), .val (.int (v0_9 q1 q2 q3 q4)), .val (.int (v0_11 q1 q2 q3 q4)), .val (.int (v0_13 q1 q2 q3 q4)), .val (.int (v0_15 q1 q2 q3 q4)), .val (.int (v0_17 q1 q2 q3 q4)), .val (.int (v0_19 q1 q2 q3 q4)), .val (.int (v0_22 q1 q2 q3 q4)), .val (.long (v0_25 q1 q2 q3 q4)), .second, .val (.int (v0_28 q1 q2 q3 q4)), .unset, .unset, .unset, .unset, .unset, .unset] [(.long (v0_2 q1 q2 q3 q4)), (.long (v0_25 q1 q2 q3 q4))])
      refine Go.of (fun _ k => XS.lsub X27.here hx rfl (hb hby at_141) rfl k) ?_
      show Go p e below W T27 (mkF m 142 #[.val (.long q1), .second, .val (.long q2), .second, .val (.long q3), .second, .val (.long q4), .second, .val (.long (v0_1 q1 q2 q3 q4)), .second, .val (.long (v0_2 q1 q2 q3 q4)), .second, .val (.long (v0_3 q1 q2 q3 q4)), .second, .val (.ref b4), .val (.int (v0_7 q1 q2 q3 q4)), .val (.int (v0_9 q1 q2 q3 q4)), .val (.int (v0_11 q1 q2 q3 q4)), .val (.int (v0_13 q1 q2 q3 q4)), .val (.int (v0_15 q1 q2 q3 q4)), .val (.int (v0_17 q1 q2 q3 q4)), .val (.int (v0_19 q1 q2 q3 q4)), .val (.int (v0_22 q1 q2 q3 q4)), .val (.long (v0_25 q1 q2 q3 q4)), .second, .val (.int (v0_28 q1 q2 q3 q4)), .unset, .unset, .unset, .unset, .unset, .unset] [(.long ((v0_25 q1 q2 q3 q4) - (v0_2 q1 q2 q3 q4)))])
      refine Go.of (fun _ k => XS.goto X27.here hx rfl (pc0 := 142) (pc' := 147) rfl (hb hby at_142) (by decide) (by decide) k) ?_
      have G30 := G30
      have q_v0_31 : (v0_31 q1 q2 q3 q4) = ((v0_25 q1 q2 q3 q4) - (v0_2 q1 q2 q3 q4)) := by rw [v0_31, if_neg c29]
      rw [q_v0_31] at G30
      exact G30 _ X27 e27
  intro T30 X30 e30
  show Go p e below W T30 (mkF m 147 #[.val (.long q1), .second, .val (.long q2), .second, .val (.long q3), .second, .val (.long q4), .second, .val (.long (v0_1 q1 q2 q3 q4)), .second, .val (.long (v0_2 q1 q2 q3 q4)), .second, .val (.long (v0_3 q1 q2 q3 q4)), .second, .val (.ref b4), .val (.int (v0_7 q1 q2 q3 q4)), .val (.int (v0_9 q1 q2 q3 q4)), .val (.int (v0_11 q1 q2 q3 q4)), .val (.int (v0_13 q1 q2 q3 q4)), .val (.int (v0_15 q1 q2 q3 q4)), .val (.int (v0_17 q1 q2 q3 q4)), .val (.int (v0_19 q1 q2 q3 q4)), .val (.int (v0_22 q1 q2 q3 q4)), .val (.long (v0_25 q1 q2 q3 q4)), .second, .val (.int (v0_28 q1 q2 q3 q4)), .unset, .unset, .unset, .unset, .unset, .unset] [(.long (v0_31 q1 q2 q3 q4))])
  refine Go.of (fun _ k => XS.lstore X30.here hx rfl (hb hby at_147) rfl (l' := #[.val (.long q1), .second, .val (.long q2), .second, .val (.long q3), .second, .val (.long q4), .second, .val (.long (v0_1 q1 q2 q3 q4)), .second, .val (.long (v0_2 q1 q2 q3 q4)), .second, .val (.long (v0_3 q1 q2 q3 q4)), .second, .val (.ref b4), .val (.int (v0_7 q1 q2 q3 q4)), .val (.int (v0_9 q1 q2 q3 q4)), .val (.int (v0_11 q1 q2 q3 q4)), .val (.int (v0_13 q1 q2 q3 q4)), .val (.int (v0_15 q1 q2 q3 q4)), .val (.int (v0_17 q1 q2 q3 q4)), .val (.int (v0_19 q1 q2 q3 q4)), .val (.int (v0_22 q1 q2 q3 q4)), .val (.long (v0_25 q1 q2 q3 q4)), .second, .val (.int (v0_28 q1 q2 q3 q4)), .val (.long (v0_31 q1 q2 q3 q4)), .second, .unset, .unset, .unset, .unset]) rfl k) ?_
  show Go p e below W T30 (mkF m 149 #[.val (.long q1), .second, .val (.long q2), .second, .val (.long q3), .second, .val (.long q4), .second, .val (.long (v0_1 q1 q2 q3 q4)), .second, .val (.long (v0_2 q1 q2 q3 q4)), .second, .val (.long (v0_3 q1 q2 q3 q4)), .second, .val (.ref b4), .val (.int (v0_7 q1 q2 q3 q4)), .val (.int (v0_9 q1 q2 q3 q4)), .val (.int (v0_11 q1 q2 q3 q4)), .val (.int (v0_13 q1 q2 q3 q4)), .val (.int (v0_15 q1 q2 q3 q4)), .val (.int (v0_17 q1 q2 q3 q4)), .val (.int (v0_19 q1 q2 q3 q4)), .val (.int (v0_22 q1 q2 q3 q4)), .val (.long (v0_25 q1 q2 q3 q4)), .second, .val (.int (v0_28 q1 q2 q3 q4)), .val (.long (v0_31 q1 q2 q3 q4)), .second, .unset, .unset, .unset, .unset] [])
  refine Go.of (fun _ k => XS.lload X30.here hx rfl (hb hby at_149) rfl k) ?_
  show Go p e below W T30 (mkF m 151 #[.val (.long q1), .second, .val (.long q2), .second, .val (.long q3), .second, .val (.long q4), .second, .val (.long (v0_1 q1 q2 q3 q4)), .second, .val (.long (v0_2 q1 q2 q3 q4)), .second, .val (.long (v0_3 q1 q2 q3 q4)), .second, .val (.ref b4), .val (.int (v0_7 q1 q2 q3 q4)), .val (.int (v0_9 q1 q2 q3 q4)), .val (.int (v0_11 q1 q2 q3 q4)), .val (.int (v0_13 q1 q2 q3 q4)), .val (.int (v0_15 q1 q2 q3 q4)), .val (.int (v0_17 q1 q2 q3 q4)), .val (.int (v0_19 q1 q2 q3 q4)), .val (.int (v0_22 q1 q2 q3 q4)), .val (.long (v0_25 q1 q2 q3 q4)), .second, .val (.int (v0_28 q1 q2 q3 q4)), .val (.long (v0_31 q1 q2 q3 q4)), .second, .unset, .unset, .unset, .unset] [(.long (v0_3 q1 q2 q3 q4))])
  refine Go.of (fun _ k => XS.lload X30.here hx rfl (hb hby at_151) rfl k) ?_
  show Go p e below W T30 (mkF m 153 #[.val (.long q1), .second, .val (.long q2), .second, .val (.long q3), .second, .val (.long q4), .second, .val (.long (v0_1 q1 q2 q3 q4)), .second, .val (.long (v0_2 q1 q2 q3 q4)), .second, .val (.long (v0_3 q1 q2 q3 q4)), .second, .val (.ref b4), .val (.int (v0_7 q1 q2 q3 q4)), .val (.int (v0_9 q1 q2 q3 q4)), .val (.int (v0_11 q1 q2 q3 q4)), .val (.int (v0_13 q1 q2 q3 q4)), .val (.int (v0_15 q1 q2 q3 q4)), .val (.int (v0_17 q1 q2 q3 q4)), .val (.int (v0_19 q1 q2 q3 q4)), .val (.int (v0_22 q1 q2 q3 q4)), .val (.long (v0_25 q1 q2 q3 q4)), .second, .val (.int (v0_28 q1 q2 q3 q4)), .val (.long (v0_31 q1 q2 q3 q4)), .second, .unset, .unset, .unset, .unset] [(.long (v0_31 q1 q2 q3 q4)), (.long (v0_3 q1 q2 q3 q4))])
  refine Go.of (fun _ k => XS.lcmp X30.here hx rfl (hb hby at_153) rfl k) ?_
  show Go p e below W T30 (mkF m 154 #[.val (.long q1), .second, .val (.long q2), .second, .val (.long q3), .second, .val (.long q4), .second, .val (.long (v0_1 q1 q2 q3 q4)), .second, .val (.long (v0_2 q1 q2 q3 q4)), .second, .val (.long (v0_3 q1 q2 q3 q4)), .second, .val (.ref b4), .val (.int (v0_7 q1 q2 q3 q4)), .val (.int (v0_9 q1 q2 q3 q4)), .val (.int (v0_11 q1 q2 q3 q4)), .val (.int (v0_13 q1 q2 q3 q4)), .val (.int (v0_15 q1 q2 q3 q4)), .val (.int (v0_17 q1 q2 q3 q4)), .val (.int (v0_19 q1 q2 q3 q4)), .val (.int (v0_22 q1 q2 q3 q4)), .val (.long (v0_25 q1 q2 q3 q4)), .second, .val (.int (v0_28 q1 q2 q3 q4)), .val (.long (v0_31 q1 q2 q3 q4)), .second, .unset, .unset, .unset, .unset] [(.int (Jvm.Free.XT.cmpL (v0_3 q1 q2 q3 q4) (v0_31 q1 q2 q3 q4)))])
  suffices G33 : ∀ T', Stand p l e room_1 s m #[(.long q1), (.long q2), (.long q3), (.long q4)] below meth c T' L16 1 3 → T'.heap = T16.heap → Go p e below W T' (mkF m 162 #[.val (.long q1), .second, .val (.long q2), .second, .val (.long q3), .second, .val (.long q4), .second, .val (.long (v0_1 q1 q2 q3 q4)), .second, .val (.long (v0_2 q1 q2 q3 q4)), .second, .val (.long (v0_3 q1 q2 q3 q4)), .second, .val (.ref b4), .val (.int (v0_7 q1 q2 q3 q4)), .val (.int (v0_9 q1 q2 q3 q4)), .val (.int (v0_11 q1 q2 q3 q4)), .val (.int (v0_13 q1 q2 q3 q4)), .val (.int (v0_15 q1 q2 q3 q4)), .val (.int (v0_17 q1 q2 q3 q4)), .val (.int (v0_19 q1 q2 q3 q4)), .val (.int (v0_22 q1 q2 q3 q4)), .val (.long (v0_25 q1 q2 q3 q4)), .second, .val (.int (v0_28 q1 q2 q3 q4)), .val (.long (v0_31 q1 q2 q3 q4)), .second, .unset, .unset, .unset, .unset] [(.int (v0_34 q1 q2 q3 q4))]) by
    by_cases c32 : (v0_31 q1 q2 q3 q4) < (v0_3 q1 q2 q3 q4)
    · refine Go.of (fun _ k => XS.ifYes X30.here hx rfl (pc0 := 154) (pc' := 161) rfl (hb hby at_154) rfl (Jvm.Free.XT.ll_gt_t c32) (by decide) (by decide) k) ?_
      show Go p e below W T30 (mkF m 161 #[.val (.long q1), .second, .val (.long q2), .second, .val (.long q3), .second, .val (.long q4), .second, .val (.long (v0_1 q1 q2 q3 q4)), .second, .val (.long (v0_2 q1 q2 q3 q4)), .second, .val (.long (v0_3 q1 q2 q3 q4)), .second, .val (.ref b4), .val (.int (v0_7 q1 q2 q3 q4)), .val (.int (v0_9 q1 q2 q3 q4)), .val (.int (v0_11 q1 q2 q3 q4)), .val (.int (v0_13 q1 q2 q3 q4)), .val (.int (v0_15 q1 q2 q3 q4)), .val (.int (v0_17 q1 q2 q3 q4)), .val (.int (v0_19 q1 q2 q3 q4)), .val (.int (v0_22 q1 q2 q3 q4)), .val (.long (v0_25 q1 q2 q3 q4)), .second, .val (.int (v0_28 q1 q2 q3 q4)), .val (.long (v0_31 q1 q2 q3 q4)), .second, .unset, .unset, .unset, .unset] [])
      refine Go.of (fun _ k => XS.iconst X30.here hx rfl (hb hby at_161) k) ?_
      have G33 := G33
      have q_v0_34 : (v0_34 q1 q2 q3 q4) = (0 : Int32) := by rw [v0_34, if_pos c32]
      rw [q_v0_34] at G33
      exact G33 _ X30 e30
    · refine Go.of (fun _ k => XS.ifNo X30.here hx rfl (hb hby at_154) rfl (Jvm.Free.XT.ll_gt_f c32) k) ?_
      show Go p e below W T30 (mkF m 157 #[.val (.long q1), .second, .val (.long q2), .second, .val (.long q3), .second, .val (.long q4), .second, .val (.long (v0_1 q1 q2 q3 q4)), .second, .val (.long (v0_2 q1 q2 q3 q4)), .second, .val (.long (v0_3 q1 q2 q3 q4)), .second, .val (.ref b4), .val (.int (v0_7 q1 q2 q3 q4)), .val (.int (v0_9 q1 q2 q3 q4)), .val (.int (v0_11 q1 q2 q3 q4)), .val (.int (v0_13 q1 q2 q3 q4)), .val (.int (v0_15 q1 q2 q3 q4)), .val (.int (v0_17 q1 q2 q3 q4)), .val (.int (v0_19 q1 q2 q3 q4)), .val (.int (v0_22 q1 q2 q3 q4)), .val (.long (v0_25 q1 q2 q3 q4)), .second, .val (.int (v0_28 q1 q2 q3 q4)), .val (.long (v0_31 q1 q2 q3 q4)), .second, .unset, .unset, .unset, .unset] [])
      refine Go.of (fun _ k => XS.iconst X30.here hx rfl (hb hby at_157) k) ?_
      show Go p e below W T30 (mkF m 158 #[.val (.long q1), .second, .val (.long q2), .second, .val (.long q3), .second, .val (.long q4), .second, .val (.long (v0_1 q1 q2 q3 q4)), .second, .val (.long (v0_2 q1 q2 q3 q4)), .second, .val (.long (v0_3 q1 q2 q3 q4)), .second, .val (.ref b4), .val (.int (v0_7 q1 q2 q3 q4)), .val (.int (v0_9 q1 q2 q3 q4)), .val (.int (v0_11 q1 q2 q3 q4)), .val (.int (v0_13 q1 q2 q3 q4)), .val (.int (v0_15 q1 q2 q3 q4)), .val (.int (v0_17 q1 q2 q3 q4)), .val (.int (v0_19 q1 q2 q3 q4)), .val (.int (v0_22 q1 q2 q3 q4)), .val (.long (v0_25 q1 q2 q3 q4)), .second, .val (.int (v0_28 q1 q2 q3 q4)), .val (.long (v0_31 q1 q2 q3 q4)), .second, .unset, .unset, .unset, .unset] [(.int (1 : Int32))])
      refine Go.of (fun _ k => XS.goto X30.here hx rfl (pc0 := 158) (pc' := 162) rfl (hb hby at_158) (by decide) (by decide) k) ?_
      have G33 := G33
      have q_v0_34 : (v0_34 q1 q2 q3 q4) = (1 : Int32) := by rw [v0_34, if_neg c32]
      rw [q_v0_34] at G33
      exact G33 _ X30 e30
  intro T33 X33 e33
  show Go p e below W T33 (mkF m 162 #[.val (.long q1), .second, .val (.long q2), .second, .val (.long q3), .second, .val (.long q4), .second, .val (.long (v0_1 q1 q2 q3 q4)), .second, .val (.long (v0_2 q1 q2 q3 q4)), .second, .val (.long (v0_3 q1 q2 q3 q4)), .second, .val (.ref b4), .val (.int (v0_7 q1 q2 q3 q4)), .val (.int (v0_9 q1 q2 q3 q4)), .val (.int (v0_11 q1 q2 q3 q4)), .val (.int (v0_13 q1 q2 q3 q4)), .val (.int (v0_15 q1 q2 q3 q4)), .val (.int (v0_17 q1 q2 q3 q4)), .val (.int (v0_19 q1 q2 q3 q4)), .val (.int (v0_22 q1 q2 q3 q4)), .val (.long (v0_25 q1 q2 q3 q4)), .second, .val (.int (v0_28 q1 q2 q3 q4)), .val (.long (v0_31 q1 q2 q3 q4)), .second, .unset, .unset, .unset, .unset] [(.int (v0_34 q1 q2 q3 q4))])
  refine Go.of (fun _ k => XS.istore X33.here hx rfl (hb hby at_162) rfl (l' := #[.val (.long q1), .second, .val (.long q2), .second, .val (.long q3), .second, .val (.long q4), .second, .val (.long (v0_1 q1 q2 q3 q4)), .second, .val (.long (v0_2 q1 q2 q3 q4)), .second, .val (.long (v0_3 q1 q2 q3 q4)), .second, .val (.ref b4), .val (.int (v0_7 q1 q2 q3 q4)), .val (.int (v0_9 q1 q2 q3 q4)), .val (.int (v0_11 q1 q2 q3 q4)), .val (.int (v0_13 q1 q2 q3 q4)), .val (.int (v0_15 q1 q2 q3 q4)), .val (.int (v0_17 q1 q2 q3 q4)), .val (.int (v0_19 q1 q2 q3 q4)), .val (.int (v0_22 q1 q2 q3 q4)), .val (.long (v0_25 q1 q2 q3 q4)), .second, .val (.int (v0_28 q1 q2 q3 q4)), .val (.long (v0_31 q1 q2 q3 q4)), .second, .val (.int (v0_34 q1 q2 q3 q4)), .unset, .unset, .unset]) rfl k) ?_
  show Go p e below W T33 (mkF m 164 #[.val (.long q1), .second, .val (.long q2), .second, .val (.long q3), .second, .val (.long q4), .second, .val (.long (v0_1 q1 q2 q3 q4)), .second, .val (.long (v0_2 q1 q2 q3 q4)), .second, .val (.long (v0_3 q1 q2 q3 q4)), .second, .val (.ref b4), .val (.int (v0_7 q1 q2 q3 q4)), .val (.int (v0_9 q1 q2 q3 q4)), .val (.int (v0_11 q1 q2 q3 q4)), .val (.int (v0_13 q1 q2 q3 q4)), .val (.int (v0_15 q1 q2 q3 q4)), .val (.int (v0_17 q1 q2 q3 q4)), .val (.int (v0_19 q1 q2 q3 q4)), .val (.int (v0_22 q1 q2 q3 q4)), .val (.long (v0_25 q1 q2 q3 q4)), .second, .val (.int (v0_28 q1 q2 q3 q4)), .val (.long (v0_31 q1 q2 q3 q4)), .second, .val (.int (v0_34 q1 q2 q3 q4)), .unset, .unset, .unset] [])
  refine Go.of (fun _ k => XS.iload X33.here hx rfl (hb hby at_164) rfl k) ?_
  show Go p e below W T33 (mkF m 166 #[.val (.long q1), .second, .val (.long q2), .second, .val (.long q3), .second, .val (.long q4), .second, .val (.long (v0_1 q1 q2 q3 q4)), .second, .val (.long (v0_2 q1 q2 q3 q4)), .second, .val (.long (v0_3 q1 q2 q3 q4)), .second, .val (.ref b4), .val (.int (v0_7 q1 q2 q3 q4)), .val (.int (v0_9 q1 q2 q3 q4)), .val (.int (v0_11 q1 q2 q3 q4)), .val (.int (v0_13 q1 q2 q3 q4)), .val (.int (v0_15 q1 q2 q3 q4)), .val (.int (v0_17 q1 q2 q3 q4)), .val (.int (v0_19 q1 q2 q3 q4)), .val (.int (v0_22 q1 q2 q3 q4)), .val (.long (v0_25 q1 q2 q3 q4)), .second, .val (.int (v0_28 q1 q2 q3 q4)), .val (.long (v0_31 q1 q2 q3 q4)), .second, .val (.int (v0_34 q1 q2 q3 q4)), .unset, .unset, .unset] [(.int (v0_22 q1 q2 q3 q4))])
  suffices G36 : ∀ T', Stand p l e room_1 s m #[(.long q1), (.long q2), (.long q3), (.long q4)] below meth c T' L16 1 3 → T'.heap = T16.heap → Go p e below W T' (mkF m 174 #[.val (.long q1), .second, .val (.long q2), .second, .val (.long q3), .second, .val (.long q4), .second, .val (.long (v0_1 q1 q2 q3 q4)), .second, .val (.long (v0_2 q1 q2 q3 q4)), .second, .val (.long (v0_3 q1 q2 q3 q4)), .second, .val (.ref b4), .val (.int (v0_7 q1 q2 q3 q4)), .val (.int (v0_9 q1 q2 q3 q4)), .val (.int (v0_11 q1 q2 q3 q4)), .val (.int (v0_13 q1 q2 q3 q4)), .val (.int (v0_15 q1 q2 q3 q4)), .val (.int (v0_17 q1 q2 q3 q4)), .val (.int (v0_19 q1 q2 q3 q4)), .val (.int (v0_22 q1 q2 q3 q4)), .val (.long (v0_25 q1 q2 q3 q4)), .second, .val (.int (v0_28 q1 q2 q3 q4)), .val (.long (v0_31 q1 q2 q3 q4)), .second, .val (.int (v0_34 q1 q2 q3 q4)), .unset, .unset, .unset] [(.int (v0_37 q1 q2 q3 q4))]) by
    by_cases c35 : (v0_22 q1 q2 q3 q4) = (0 : Int32)
    · refine Go.of (fun _ k => XS.ifNo X33.here hx rfl (hb hby at_166) rfl (Jvm.Free.XT.i0_ne_f c35) k) ?_
      show Go p e below W T33 (mkF m 169 #[.val (.long q1), .second, .val (.long q2), .second, .val (.long q3), .second, .val (.long q4), .second, .val (.long (v0_1 q1 q2 q3 q4)), .second, .val (.long (v0_2 q1 q2 q3 q4)), .second, .val (.long (v0_3 q1 q2 q3 q4)), .second, .val (.ref b4), .val (.int (v0_7 q1 q2 q3 q4)), .val (.int (v0_9 q1 q2 q3 q4)), .val (.int (v0_11 q1 q2 q3 q4)), .val (.int (v0_13 q1 q2 q3 q4)), .val (.int (v0_15 q1 q2 q3 q4)), .val (.int (v0_17 q1 q2 q3 q4)), .val (.int (v0_19 q1 q2 q3 q4)), .val (.int (v0_22 q1 q2 q3 q4)), .val (.long (v0_25 q1 q2 q3 q4)), .second, .val (.int (v0_28 q1 q2 q3 q4)), .val (.long (v0_31 q1 q2 q3 q4)), .second, .val (.int (v0_34 q1 q2 q3 q4)), .unset, .unset, .unset] [])
      refine Go.of (fun _ k => XS.iconst X33.here hx rfl (hb hby at_169) k) ?_
      show Go p e below W T33 (mkF m 170 #[.val (.long q1), .second, .val (.long q2), .second, .val (.long q3), .second, .val (.long q4), .second, .val (.long (v0_1 q1 q2 q3 q4)), .second, .val (.long (v0_2 q1 q2 q3 q4)), .second, .val (.long (v0_3 q1 q2 q3 q4)), .second, .val (.ref b4), .val (.int (v0_7 q1 q2 q3 q4)), .val (.int (v0_9 q1 q2 q3 q4)), .val (.int (v0_11 q1 q2 q3 q4)), .val (.int (v0_13 q1 q2 q3 q4)), .val (.int (v0_15 q1 q2 q3 q4)), .val (.int (v0_17 q1 q2 q3 q4)), .val (.int (v0_19 q1 q2 q3 q4)), .val (.int (v0_22 q1 q2 q3 q4)), .val (.long (v0_25 q1 q2 q3 q4)), .second, .val (.int (v0_28 q1 q2 q3 q4)), .val (.long (v0_31 q1 q2 q3 q4)), .second, .val (.int (v0_34 q1 q2 q3 q4)), .unset, .unset, .unset] [(.int (1 : Int32))])
      refine Go.of (fun _ k => XS.goto X33.here hx rfl (pc0 := 170) (pc' := 174) rfl (hb hby at_170) (by decide) (by decide) k) ?_
      have G36 := G36
      have q_v0_37 : (v0_37 q1 q2 q3 q4) = (1 : Int32) := by rw [v0_37, if_pos c35]
      rw [q_v0_37] at G36
      exact G36 _ X33 e33
    · refine Go.of (fun _ k => XS.ifYes X33.here hx rfl (pc0 := 166) (pc' := 173) rfl (hb hby at_166) rfl (Jvm.Free.XT.i0_ne_t c35) (by decide) (by decide) k) ?_
      show Go p e below W T33 (mkF m 173 #[.val (.long q1), .second, .val (.long q2), .second, .val (.long q3), .second, .val (.long q4), .second, .val (.long (v0_1 q1 q2 q3 q4)), .second, .val (.long (v0_2 q1 q2 q3 q4)), .second, .val (.long (v0_3 q1 q2 q3 q4)), .second, .val (.ref b4), .val (.int (v0_7 q1 q2 q3 q4)), .val (.int (v0_9 q1 q2 q3 q4)), .val (.int (v0_11 q1 q2 q3 q4)), .val (.int (v0_13 q1 q2 q3 q4)), .val (.int (v0_15 q1 q2 q3 q4)), .val (.int (v0_17 q1 q2 q3 q4)), .val (.int (v0_19 q1 q2 q3 q4)), .val (.int (v0_22 q1 q2 q3 q4)), .val (.long (v0_25 q1 q2 q3 q4)), .second, .val (.int (v0_28 q1 q2 q3 q4)), .val (.long (v0_31 q1 q2 q3 q4)), .second, .val (.int (v0_34 q1 q2 q3 q4)), .unset, .unset, .unset] [])
      refine Go.of (fun _ k => XS.iconst X33.here hx rfl (hb hby at_173) k) ?_
      have G36 := G36
      have q_v0_37 : (v0_37 q1 q2 q3 q4) = (0 : Int32) := by rw [v0_37, if_neg c35]
      rw [q_v0_37] at G36
      exact G36 _ X33 e33
  intro T36 X36 e36
  show Go p e below W T36 (mkF m 174 #[.val (.long q1), .second, .val (.long q2), .second, .val (.long q3), .second, .val (.long q4), .second, .val (.long (v0_1 q1 q2 q3 q4)), .second, .val (.long (v0_2 q1 q2 q3 q4)), .second, .val (.long (v0_3 q1 q2 q3 q4)), .second, .val (.ref b4), .val (.int (v0_7 q1 q2 q3 q4)), .val (.int (v0_9 q1 q2 q3 q4)), .val (.int (v0_11 q1 q2 q3 q4)), .val (.int (v0_13 q1 q2 q3 q4)), .val (.int (v0_15 q1 q2 q3 q4)), .val (.int (v0_17 q1 q2 q3 q4)), .val (.int (v0_19 q1 q2 q3 q4)), .val (.int (v0_22 q1 q2 q3 q4)), .val (.long (v0_25 q1 q2 q3 q4)), .second, .val (.int (v0_28 q1 q2 q3 q4)), .val (.long (v0_31 q1 q2 q3 q4)), .second, .val (.int (v0_34 q1 q2 q3 q4)), .unset, .unset, .unset] [(.int (v0_37 q1 q2 q3 q4))])
  refine Go.of (fun _ k => XS.istore X36.here hx rfl (hb hby at_174) rfl (l' := #[.val (.long q1), .second, .val (.long q2), .second, .val (.long q3), .second, .val (.long q4), .second, .val (.long (v0_1 q1 q2 q3 q4)), .second, .val (.long (v0_2 q1 q2 q3 q4)), .second, .val (.long (v0_3 q1 q2 q3 q4)), .second, .val (.ref b4), .val (.int (v0_7 q1 q2 q3 q4)), .val (.int (v0_9 q1 q2 q3 q4)), .val (.int (v0_11 q1 q2 q3 q4)), .val (.int (v0_13 q1 q2 q3 q4)), .val (.int (v0_15 q1 q2 q3 q4)), .val (.int (v0_17 q1 q2 q3 q4)), .val (.int (v0_19 q1 q2 q3 q4)), .val (.int (v0_22 q1 q2 q3 q4)), .val (.long (v0_25 q1 q2 q3 q4)), .second, .val (.int (v0_28 q1 q2 q3 q4)), .val (.long (v0_31 q1 q2 q3 q4)), .second, .val (.int (v0_34 q1 q2 q3 q4)), .val (.int (v0_37 q1 q2 q3 q4)), .unset, .unset]) rfl k) ?_
  show Go p e below W T36 (mkF m 176 #[.val (.long q1), .second, .val (.long q2), .second, .val (.long q3), .second, .val (.long q4), .second, .val (.long (v0_1 q1 q2 q3 q4)), .second, .val (.long (v0_2 q1 q2 q3 q4)), .second, .val (.long (v0_3 q1 q2 q3 q4)), .second, .val (.ref b4), .val (.int (v0_7 q1 q2 q3 q4)), .val (.int (v0_9 q1 q2 q3 q4)), .val (.int (v0_11 q1 q2 q3 q4)), .val (.int (v0_13 q1 q2 q3 q4)), .val (.int (v0_15 q1 q2 q3 q4)), .val (.int (v0_17 q1 q2 q3 q4)), .val (.int (v0_19 q1 q2 q3 q4)), .val (.int (v0_22 q1 q2 q3 q4)), .val (.long (v0_25 q1 q2 q3 q4)), .second, .val (.int (v0_28 q1 q2 q3 q4)), .val (.long (v0_31 q1 q2 q3 q4)), .second, .val (.int (v0_34 q1 q2 q3 q4)), .val (.int (v0_37 q1 q2 q3 q4)), .unset, .unset] [])
  refine Go.of (fun _ k => XS.iload X36.here hx rfl (hb hby at_176) rfl k) ?_
  show Go p e below W T36 (mkF m 178 #[.val (.long q1), .second, .val (.long q2), .second, .val (.long q3), .second, .val (.long q4), .second, .val (.long (v0_1 q1 q2 q3 q4)), .second, .val (.long (v0_2 q1 q2 q3 q4)), .second, .val (.long (v0_3 q1 q2 q3 q4)), .second, .val (.ref b4), .val (.int (v0_7 q1 q2 q3 q4)), .val (.int (v0_9 q1 q2 q3 q4)), .val (.int (v0_11 q1 q2 q3 q4)), .val (.int (v0_13 q1 q2 q3 q4)), .val (.int (v0_15 q1 q2 q3 q4)), .val (.int (v0_17 q1 q2 q3 q4)), .val (.int (v0_19 q1 q2 q3 q4)), .val (.int (v0_22 q1 q2 q3 q4)), .val (.long (v0_25 q1 q2 q3 q4)), .second, .val (.int (v0_28 q1 q2 q3 q4)), .val (.long (v0_31 q1 q2 q3 q4)), .second, .val (.int (v0_34 q1 q2 q3 q4)), .val (.int (v0_37 q1 q2 q3 q4)), .unset, .unset] [(.int (v0_37 q1 q2 q3 q4))])
  suffices G40 : ∀ T', Stand p l e room_1 s m #[(.long q1), (.long q2), (.long q3), (.long q4)] below meth c T' L16 1 3 → T'.heap = T16.heap → Go p e below W T' (mkF m 191 #[.val (.long q1), .second, .val (.long q2), .second, .val (.long q3), .second, .val (.long q4), .second, .val (.long (v0_1 q1 q2 q3 q4)), .second, .val (.long (v0_2 q1 q2 q3 q4)), .second, .val (.long (v0_3 q1 q2 q3 q4)), .second, .val (.ref b4), .val (.int (v0_7 q1 q2 q3 q4)), .val (.int (v0_9 q1 q2 q3 q4)), .val (.int (v0_11 q1 q2 q3 q4)), .val (.int (v0_13 q1 q2 q3 q4)), .val (.int (v0_15 q1 q2 q3 q4)), .val (.int (v0_17 q1 q2 q3 q4)), .val (.int (v0_19 q1 q2 q3 q4)), .val (.int (v0_22 q1 q2 q3 q4)), .val (.long (v0_25 q1 q2 q3 q4)), .second, .val (.int (v0_28 q1 q2 q3 q4)), .val (.long (v0_31 q1 q2 q3 q4)), .second, .val (.int (v0_34 q1 q2 q3 q4)), .val (.int (v0_37 q1 q2 q3 q4)), .unset, .unset] [(.int (v0_41 q1 q2 q3 q4))]) by
    by_cases c38 : (v0_37 q1 q2 q3 q4) = (0 : Int32)
    · refine Go.of (fun _ k => XS.ifNo X36.here hx rfl (hb hby at_178) rfl (Jvm.Free.XT.i0_ne_f c38) k) ?_
      show Go p e below W T36 (mkF m 181 #[.val (.long q1), .second, .val (.long q2), .second, .val (.long q3), .second, .val (.long q4), .second, .val (.long (v0_1 q1 q2 q3 q4)), .second, .val (.long (v0_2 q1 q2 q3 q4)), .second, .val (.long (v0_3 q1 q2 q3 q4)), .second, .val (.ref b4), .val (.int (v0_7 q1 q2 q3 q4)), .val (.int (v0_9 q1 q2 q3 q4)), .val (.int (v0_11 q1 q2 q3 q4)), .val (.int (v0_13 q1 q2 q3 q4)), .val (.int (v0_15 q1 q2 q3 q4)), .val (.int (v0_17 q1 q2 q3 q4)), .val (.int (v0_19 q1 q2 q3 q4)), .val (.int (v0_22 q1 q2 q3 q4)), .val (.long (v0_25 q1 q2 q3 q4)), .second, .val (.int (v0_28 q1 q2 q3 q4)), .val (.long (v0_31 q1 q2 q3 q4)), .second, .val (.int (v0_34 q1 q2 q3 q4)), .val (.int (v0_37 q1 q2 q3 q4)), .unset, .unset] [])
      refine Go.of (fun _ k => XS.iload X36.here hx rfl (hb hby at_181) rfl k) ?_
      show Go p e below W T36 (mkF m 183 #[.val (.long q1), .second, .val (.long q2), .second, .val (.long q3), .second, .val (.long q4), .second, .val (.long (v0_1 q1 q2 q3 q4)), .second, .val (.long (v0_2 q1 q2 q3 q4)), .second, .val (.long (v0_3 q1 q2 q3 q4)), .second, .val (.ref b4), .val (.int (v0_7 q1 q2 q3 q4)), .val (.int (v0_9 q1 q2 q3 q4)), .val (.int (v0_11 q1 q2 q3 q4)), .val (.int (v0_13 q1 q2 q3 q4)), .val (.int (v0_15 q1 q2 q3 q4)), .val (.int (v0_17 q1 q2 q3 q4)), .val (.int (v0_19 q1 q2 q3 q4)), .val (.int (v0_22 q1 q2 q3 q4)), .val (.long (v0_25 q1 q2 q3 q4)), .second, .val (.int (v0_28 q1 q2 q3 q4)), .val (.long (v0_31 q1 q2 q3 q4)), .second, .val (.int (v0_34 q1 q2 q3 q4)), .val (.int (v0_37 q1 q2 q3 q4)), .unset, .unset] [(.int (v0_28 q1 q2 q3 q4))])
      by_cases c39 : (v0_28 q1 q2 q3 q4) = (0 : Int32)
      · refine Go.of (fun _ k => XS.ifNo X36.here hx rfl (hb hby at_183) rfl (Jvm.Free.XT.i0_ne_f c39) k) ?_
        show Go p e below W T36 (mkF m 186 #[.val (.long q1), .second, .val (.long q2), .second, .val (.long q3), .second, .val (.long q4), .second, .val (.long (v0_1 q1 q2 q3 q4)), .second, .val (.long (v0_2 q1 q2 q3 q4)), .second, .val (.long (v0_3 q1 q2 q3 q4)), .second, .val (.ref b4), .val (.int (v0_7 q1 q2 q3 q4)), .val (.int (v0_9 q1 q2 q3 q4)), .val (.int (v0_11 q1 q2 q3 q4)), .val (.int (v0_13 q1 q2 q3 q4)), .val (.int (v0_15 q1 q2 q3 q4)), .val (.int (v0_17 q1 q2 q3 q4)), .val (.int (v0_19 q1 q2 q3 q4)), .val (.int (v0_22 q1 q2 q3 q4)), .val (.long (v0_25 q1 q2 q3 q4)), .second, .val (.int (v0_28 q1 q2 q3 q4)), .val (.long (v0_31 q1 q2 q3 q4)), .second, .val (.int (v0_34 q1 q2 q3 q4)), .val (.int (v0_37 q1 q2 q3 q4)), .unset, .unset] [])
        refine Go.of (fun _ k => XS.iconst X36.here hx rfl (hb hby at_186) k) ?_
        show Go p e below W T36 (mkF m 187 #[.val (.long q1), .second, .val (.long q2), .second, .val (.long q3), .second, .val (.long q4), .second, .val (.long (v0_1 q1 q2 q3 q4)), .second, .val (.long (v0_2 q1 q2 q3 q4)), .second, .val (.long (v0_3 q1 q2 q3 q4)), .second, .val (.ref b4), .val (.int (v0_7 q1 q2 q3 q4)), .val (.int (v0_9 q1 q2 q3 q4)), .val (.int (v0_11 q1 q2 q3 q4)), .val (.int (v0_13 q1 q2 q3 q4)), .val (.int (v0_15 q1 q2 q3 q4)), .val (.int (v0_17 q1 q2 q3 q4)), .val (.int (v0_19 q1 q2 q3 q4)), .val (.int (v0_22 q1 q2 q3 q4)), .val (.long (v0_25 q1 q2 q3 q4)), .second, .val (.int (v0_28 q1 q2 q3 q4)), .val (.long (v0_31 q1 q2 q3 q4)), .second, .val (.int (v0_34 q1 q2 q3 q4)), .val (.int (v0_37 q1 q2 q3 q4)), .unset, .unset] [(.int (1 : Int32))])
        refine Go.of (fun _ k => XS.goto X36.here hx rfl (pc0 := 187) (pc' := 191) rfl (hb hby at_187) (by decide) (by decide) k) ?_
        have G40 := G40
        have q_v0_41 : (v0_41 q1 q2 q3 q4) = (1 : Int32) := by rw [v0_41, if_pos c38, if_pos c39]
        rw [q_v0_41] at G40
        exact G40 _ X36 e36
      · refine Go.of (fun _ k => XS.ifYes X36.here hx rfl (pc0 := 183) (pc' := 190) rfl (hb hby at_183) rfl (Jvm.Free.XT.i0_ne_t c39) (by decide) (by decide) k) ?_
        show Go p e below W T36 (mkF m 190 #[.val (.long q1), .second, .val (.long q2), .second, .val (.long q3), .second, .val (.long q4), .second, .val (.long (v0_1 q1 q2 q3 q4)), .second, .val (.long (v0_2 q1 q2 q3 q4)), .second, .val (.long (v0_3 q1 q2 q3 q4)), .second, .val (.ref b4), .val (.int (v0_7 q1 q2 q3 q4)), .val (.int (v0_9 q1 q2 q3 q4)), .val (.int (v0_11 q1 q2 q3 q4)), .val (.int (v0_13 q1 q2 q3 q4)), .val (.int (v0_15 q1 q2 q3 q4)), .val (.int (v0_17 q1 q2 q3 q4)), .val (.int (v0_19 q1 q2 q3 q4)), .val (.int (v0_22 q1 q2 q3 q4)), .val (.long (v0_25 q1 q2 q3 q4)), .second, .val (.int (v0_28 q1 q2 q3 q4)), .val (.long (v0_31 q1 q2 q3 q4)), .second, .val (.int (v0_34 q1 q2 q3 q4)), .val (.int (v0_37 q1 q2 q3 q4)), .unset, .unset] [])
        refine Go.of (fun _ k => XS.iconst X36.here hx rfl (hb hby at_190) k) ?_
        have G40 := G40
        have q_v0_41 : (v0_41 q1 q2 q3 q4) = (0 : Int32) := by rw [v0_41, if_pos c38, if_neg c39]
        rw [q_v0_41] at G40
        exact G40 _ X36 e36
    · refine Go.of (fun _ k => XS.ifYes X36.here hx rfl (pc0 := 178) (pc' := 186) rfl (hb hby at_178) rfl (Jvm.Free.XT.i0_ne_t c38) (by decide) (by decide) k) ?_
      show Go p e below W T36 (mkF m 186 #[.val (.long q1), .second, .val (.long q2), .second, .val (.long q3), .second, .val (.long q4), .second, .val (.long (v0_1 q1 q2 q3 q4)), .second, .val (.long (v0_2 q1 q2 q3 q4)), .second, .val (.long (v0_3 q1 q2 q3 q4)), .second, .val (.ref b4), .val (.int (v0_7 q1 q2 q3 q4)), .val (.int (v0_9 q1 q2 q3 q4)), .val (.int (v0_11 q1 q2 q3 q4)), .val (.int (v0_13 q1 q2 q3 q4)), .val (.int (v0_15 q1 q2 q3 q4)), .val (.int (v0_17 q1 q2 q3 q4)), .val (.int (v0_19 q1 q2 q3 q4)), .val (.int (v0_22 q1 q2 q3 q4)), .val (.long (v0_25 q1 q2 q3 q4)), .second, .val (.int (v0_28 q1 q2 q3 q4)), .val (.long (v0_31 q1 q2 q3 q4)), .second, .val (.int (v0_34 q1 q2 q3 q4)), .val (.int (v0_37 q1 q2 q3 q4)), .unset, .unset] [])
      refine Go.of (fun _ k => XS.iconst X36.here hx rfl (hb hby at_186) k) ?_
      show Go p e below W T36 (mkF m 187 #[.val (.long q1), .second, .val (.long q2), .second, .val (.long q3), .second, .val (.long q4), .second, .val (.long (v0_1 q1 q2 q3 q4)), .second, .val (.long (v0_2 q1 q2 q3 q4)), .second, .val (.long (v0_3 q1 q2 q3 q4)), .second, .val (.ref b4), .val (.int (v0_7 q1 q2 q3 q4)), .val (.int (v0_9 q1 q2 q3 q4)), .val (.int (v0_11 q1 q2 q3 q4)), .val (.int (v0_13 q1 q2 q3 q4)), .val (.int (v0_15 q1 q2 q3 q4)), .val (.int (v0_17 q1 q2 q3 q4)), .val (.int (v0_19 q1 q2 q3 q4)), .val (.int (v0_22 q1 q2 q3 q4)), .val (.long (v0_25 q1 q2 q3 q4)), .second, .val (.int (v0_28 q1 q2 q3 q4)), .val (.long (v0_31 q1 q2 q3 q4)), .second, .val (.int (v0_34 q1 q2 q3 q4)), .val (.int (v0_37 q1 q2 q3 q4)), .unset, .unset] [(.int (1 : Int32))])
      refine Go.of (fun _ k => XS.goto X36.here hx rfl (pc0 := 187) (pc' := 191) rfl (hb hby at_187) (by decide) (by decide) k) ?_
      have G40 := G40
      have q_v0_41 : (v0_41 q1 q2 q3 q4) = (1 : Int32) := by rw [v0_41, if_neg c38]
      rw [q_v0_41] at G40
      exact G40 _ X36 e36
  intro T40 X40 e40
  show Go p e below W T40 (mkF m 191 #[.val (.long q1), .second, .val (.long q2), .second, .val (.long q3), .second, .val (.long q4), .second, .val (.long (v0_1 q1 q2 q3 q4)), .second, .val (.long (v0_2 q1 q2 q3 q4)), .second, .val (.long (v0_3 q1 q2 q3 q4)), .second, .val (.ref b4), .val (.int (v0_7 q1 q2 q3 q4)), .val (.int (v0_9 q1 q2 q3 q4)), .val (.int (v0_11 q1 q2 q3 q4)), .val (.int (v0_13 q1 q2 q3 q4)), .val (.int (v0_15 q1 q2 q3 q4)), .val (.int (v0_17 q1 q2 q3 q4)), .val (.int (v0_19 q1 q2 q3 q4)), .val (.int (v0_22 q1 q2 q3 q4)), .val (.long (v0_25 q1 q2 q3 q4)), .second, .val (.int (v0_28 q1 q2 q3 q4)), .val (.long (v0_31 q1 q2 q3 q4)), .second, .val (.int (v0_34 q1 q2 q3 q4)), .val (.int (v0_37 q1 q2 q3 q4)), .unset, .unset] [(.int (v0_41 q1 q2 q3 q4))])
  refine Go.of (fun _ k => XS.istore X40.here hx rfl (hb hby at_191) rfl (l' := #[.val (.long q1), .second, .val (.long q2), .second, .val (.long q3), .second, .val (.long q4), .second, .val (.long (v0_1 q1 q2 q3 q4)), .second, .val (.long (v0_2 q1 q2 q3 q4)), .second, .val (.long (v0_3 q1 q2 q3 q4)), .second, .val (.ref b4), .val (.int (v0_7 q1 q2 q3 q4)), .val (.int (v0_9 q1 q2 q3 q4)), .val (.int (v0_11 q1 q2 q3 q4)), .val (.int (v0_13 q1 q2 q3 q4)), .val (.int (v0_15 q1 q2 q3 q4)), .val (.int (v0_17 q1 q2 q3 q4)), .val (.int (v0_19 q1 q2 q3 q4)), .val (.int (v0_22 q1 q2 q3 q4)), .val (.long (v0_25 q1 q2 q3 q4)), .second, .val (.int (v0_28 q1 q2 q3 q4)), .val (.long (v0_31 q1 q2 q3 q4)), .second, .val (.int (v0_34 q1 q2 q3 q4)), .val (.int (v0_37 q1 q2 q3 q4)), .val (.int (v0_41 q1 q2 q3 q4)), .unset]) rfl k) ?_
  show Go p e below W T40 (mkF m 193 #[.val (.long q1), .second, .val (.long q2), .second, .val (.long q3), .second, .val (.long q4), .second, .val (.long (v0_1 q1 q2 q3 q4)), .second, .val (.long (v0_2 q1 q2 q3 q4)), .second, .val (.long (v0_3 q1 q2 q3 q4)), .second, .val (.ref b4), .val (.int (v0_7 q1 q2 q3 q4)), .val (.int (v0_9 q1 q2 q3 q4)), .val (.int (v0_11 q1 q2 q3 q4)), .val (.int (v0_13 q1 q2 q3 q4)), .val (.int (v0_15 q1 q2 q3 q4)), .val (.int (v0_17 q1 q2 q3 q4)), .val (.int (v0_19 q1 q2 q3 q4)), .val (.int (v0_22 q1 q2 q3 q4)), .val (.long (v0_25 q1 q2 q3 q4)), .second, .val (.int (v0_28 q1 q2 q3 q4)), .val (.long (v0_31 q1 q2 q3 q4)), .second, .val (.int (v0_34 q1 q2 q3 q4)), .val (.int (v0_37 q1 q2 q3 q4)), .val (.int (v0_41 q1 q2 q3 q4)), .unset] [])
  refine Go.of (fun _ k => XS.iload X40.here hx rfl (hb hby at_193) rfl k) ?_
  show Go p e below W T40 (mkF m 195 #[.val (.long q1), .second, .val (.long q2), .second, .val (.long q3), .second, .val (.long q4), .second, .val (.long (v0_1 q1 q2 q3 q4)), .second, .val (.long (v0_2 q1 q2 q3 q4)), .second, .val (.long (v0_3 q1 q2 q3 q4)), .second, .val (.ref b4), .val (.int (v0_7 q1 q2 q3 q4)), .val (.int (v0_9 q1 q2 q3 q4)), .val (.int (v0_11 q1 q2 q3 q4)), .val (.int (v0_13 q1 q2 q3 q4)), .val (.int (v0_15 q1 q2 q3 q4)), .val (.int (v0_17 q1 q2 q3 q4)), .val (.int (v0_19 q1 q2 q3 q4)), .val (.int (v0_22 q1 q2 q3 q4)), .val (.long (v0_25 q1 q2 q3 q4)), .second, .val (.int (v0_28 q1 q2 q3 q4)), .val (.long (v0_31 q1 q2 q3 q4)), .second, .val (.int (v0_34 q1 q2 q3 q4)), .val (.int (v0_37 q1 q2 q3 q4)), .val (.int (v0_41 q1 q2 q3 q4)), .unset] [(.int (v0_41 q1 q2 q3 q4))])
  suffices G44 : ∀ T', Stand p l e room_1 s m #[(.long q1), (.long q2), (.long q3), (.long q4)] below meth c T' L16 1 3 → T'.heap = T16.heap → Go p e below W T' (mkF m 208 #[.val (.long q1), .second, .val (.long q2), .second, .val (.long q3), .second, .val (.long q4), .second, .val (.long (v0_1 q1 q2 q3 q4)), .second, .val (.long (v0_2 q1 q2 q3 q4)), .second, .val (.long (v0_3 q1 q2 q3 q4)), .second, .val (.ref b4), .val (.int (v0_7 q1 q2 q3 q4)), .val (.int (v0_9 q1 q2 q3 q4)), .val (.int (v0_11 q1 q2 q3 q4)), .val (.int (v0_13 q1 q2 q3 q4)), .val (.int (v0_15 q1 q2 q3 q4)), .val (.int (v0_17 q1 q2 q3 q4)), .val (.int (v0_19 q1 q2 q3 q4)), .val (.int (v0_22 q1 q2 q3 q4)), .val (.long (v0_25 q1 q2 q3 q4)), .second, .val (.int (v0_28 q1 q2 q3 q4)), .val (.long (v0_31 q1 q2 q3 q4)), .second, .val (.int (v0_34 q1 q2 q3 q4)), .val (.int (v0_37 q1 q2 q3 q4)), .val (.int (v0_41 q1 q2 q3 q4)), .unset] [(.int (v0_45 q1 q2 q3 q4))]) by
    by_cases c42 : (v0_41 q1 q2 q3 q4) = (0 : Int32)
    · refine Go.of (fun _ k => XS.ifNo X40.here hx rfl (hb hby at_195) rfl (Jvm.Free.XT.i0_ne_f c42) k) ?_
      show Go p e below W T40 (mkF m 198 #[.val (.long q1), .second, .val (.long q2), .second, .val (.long q3), .second, .val (.long q4), .second, .val (.long (v0_1 q1 q2 q3 q4)), .second, .val (.long (v0_2 q1 q2 q3 q4)), .second, .val (.long (v0_3 q1 q2 q3 q4)), .second, .val (.ref b4), .val (.int (v0_7 q1 q2 q3 q4)), .val (.int (v0_9 q1 q2 q3 q4)), .val (.int (v0_11 q1 q2 q3 q4)), .val (.int (v0_13 q1 q2 q3 q4)), .val (.int (v0_15 q1 q2 q3 q4)), .val (.int (v0_17 q1 q2 q3 q4)), .val (.int (v0_19 q1 q2 q3 q4)), .val (.int (v0_22 q1 q2 q3 q4)), .val (.long (v0_25 q1 q2 q3 q4)), .second, .val (.int (v0_28 q1 q2 q3 q4)), .val (.long (v0_31 q1 q2 q3 q4)), .second, .val (.int (v0_34 q1 q2 q3 q4)), .val (.int (v0_37 q1 q2 q3 q4)), .val (.int (v0_41 q1 q2 q3 q4)), .unset] [])
      refine Go.of (fun _ k => XS.iload X40.here hx rfl (hb hby at_198) rfl k) ?_
      show Go p e below W T40 (mkF m 200 #[.val (.long q1), .second, .val (.long q2), .second, .val (.long q3), .second, .val (.long q4), .second, .val (.long (v0_1 q1 q2 q3 q4)), .second, .val (.long (v0_2 q1 q2 q3 q4)), .second, .val (.long (v0_3 q1 q2 q3 q4)), .second, .val (.ref b4), .val (.int (v0_7 q1 q2 q3 q4)), .val (.int (v0_9 q1 q2 q3 q4)), .val (.int (v0_11 q1 q2 q3 q4)), .val (.int (v0_13 q1 q2 q3 q4)), .val (.int (v0_15 q1 q2 q3 q4)), .val (.int (v0_17 q1 q2 q3 q4)), .val (.int (v0_19 q1 q2 q3 q4)), .val (.int (v0_22 q1 q2 q3 q4)), .val (.long (v0_25 q1 q2 q3 q4)), .second, .val (.int (v0_28 q1 q2 q3 q4)), .val (.long (v0_31 q1 q2 q3 q4)), .second, .val (.int (v0_34 q1 q2 q3 q4)), .val (.int (v0_37 q1 q2 q3 q4)), .val (.int (v0_41 q1 q2 q3 q4)), .unset] [(.int (v0_34 q1 q2 q3 q4))])
      by_cases c43 : (v0_34 q1 q2 q3 q4) = (0 : Int32)
      · refine Go.of (fun _ k => XS.ifNo X40.here hx rfl (hb hby at_200) rfl (Jvm.Free.XT.i0_ne_f c43) k) ?_
        show Go p e below W T40 (mkF m 203 #[.val (.long q1), .second, .val (.long q2), .second, .val (.long q3), .second, .val (.long q4), .second, .val (.long (v0_1 q1 q2 q3 q4)), .second, .val (.long (v0_2 q1 q2 q3 q4)), .second, .val (.long (v0_3 q1 q2 q3 q4)), .second, .val (.ref b4), .val (.int (v0_7 q1 q2 q3 q4)), .val (.int (v0_9 q1 q2 q3 q4)), .val (.int (v0_11 q1 q2 q3 q4)), .val (.int (v0_13 q1 q2 q3 q4)), .val (.int (v0_15 q1 q2 q3 q4)), .val (.int (v0_17 q1 q2 q3 q4)), .val (.int (v0_19 q1 q2 q3 q4)), .val (.int (v0_22 q1 q2 q3 q4)), .val (.long (v0_25 q1 q2 q3 q4)), .second, .val (.int (v0_28 q1 q2 q3 q4)), .val (.long (v0_31 q1 q2 q3 q4)), .second, .val (.int (v0_34 q1 q2 q3 q4)), .val (.int (v0_37 q1 q2 q3 q4)), .val (.int (v0_41 q1 q2 q3 q4)), .unset] [])
        refine Go.of (fun _ k => XS.iconst X40.here hx rfl (hb hby at_203) k) ?_
        show Go p e below W T40 (mkF m 204 #[.val (.long q1), .second, .val (.long q2), .second, .val (.long q3), .second, .val (.long q4), .second, .val (.long (v0_1 q1 q2 q3 q4)), .second, .val (.long (v0_2 q1 q2 q3 q4)), .second, .val (.long (v0_3 q1 q2 q3 q4)), .second, .val (.ref b4), .val (.int (v0_7 q1 q2 q3 q4)), .val (.int (v0_9 q1 q2 q3 q4)), .val (.int (v0_11 q1 q2 q3 q4)), .val (.int (v0_13 q1 q2 q3 q4)), .val (.int (v0_15 q1 q2 q3 q4)), .val (.int (v0_17 q1 q2 q3 q4)), .val (.int (v0_19 q1 q2 q3 q4)), .val (.int (v0_22 q1 q2 q3 q4)), .val (.long (v0_25 q1 q2 q3 q4)), .second, .val (.int (v0_28 q1 q2 q3 q4)), .val (.long (v0_31 q1 q2 q3 q4)), .second, .val (.int (v0_34 q1 q2 q3 q4)), .val (.int (v0_37 q1 q2 q3 q4)), .val (.int (v0_41 q1 q2 q3 q4)), .unset] [(.int (1 : Int32))])
        refine Go.of (fun _ k => XS.goto X40.here hx rfl (pc0 := 204) (pc' := 208) rfl (hb hby at_204) (by decide) (by decide) k) ?_
        have G44 := G44
        have q_v0_45 : (v0_45 q1 q2 q3 q4) = (1 : Int32) := by rw [v0_45, if_pos c42, if_pos c43]
        rw [q_v0_45] at G44
        exact G44 _ X40 e40
      · refine Go.of (fun _ k => XS.ifYes X40.here hx rfl (pc0 := 200) (pc' := 207) rfl (hb hby at_200) rfl (Jvm.Free.XT.i0_ne_t c43) (by decide) (by decide) k) ?_
        show Go p e below W T40 (mkF m 207 #[.val (.long q1), .second, .val (.long q2), .second, .val (.long q3), .second, .val (.long q4), .second, .val (.long (v0_1 q1 q2 q3 q4)), .second, .val (.long (v0_2 q1 q2 q3 q4)), .second, .val (.long (v0_3 q1 q2 q3 q4)), .second, .val (.ref b4), .val (.int (v0_7 q1 q2 q3 q4)), .val (.int (v0_9 q1 q2 q3 q4)), .val (.int (v0_11 q1 q2 q3 q4)), .val (.int (v0_13 q1 q2 q3 q4)), .val (.int (v0_15 q1 q2 q3 q4)), .val (.int (v0_17 q1 q2 q3 q4)), .val (.int (v0_19 q1 q2 q3 q4)), .val (.int (v0_22 q1 q2 q3 q4)), .val (.long (v0_25 q1 q2 q3 q4)), .second, .val (.int (v0_28 q1 q2 q3 q4)), .val (.long (v0_31 q1 q2 q3 q4)), .second, .val (.int (v0_34 q1 q2 q3 q4)), .val (.int (v0_37 q1 q2 q3 q4)), .val (.int (v0_41 q1 q2 q3 q4)), .unset] [])
        refine Go.of (fun _ k => XS.iconst X40.here hx rfl (hb hby at_207) k) ?_
        have G44 := G44
        have q_v0_45 : (v0_45 q1 q2 q3 q4) = (0 : Int32) := by rw [v0_45, if_pos c42, if_neg c43]
        rw [q_v0_45] at G44
        exact G44 _ X40 e40
    · refine Go.of (fun _ k => XS.ifYes X40.here hx rfl (pc0 := 195) (pc' := 203) rfl (hb hby at_195) rfl (Jvm.Free.XT.i0_ne_t c42) (by decide) (by decide) k) ?_
      show Go p e below W T40 (mkF m 203 #[.val (.long q1), .second, .val (.long q2), .second, .val (.long q3), .second, .val (.long q4), .second, .val (.long (v0_1 q1 q2 q3 q4)), .second, .val (.long (v0_2 q1 q2 q3 q4)), .second, .val (.long (v0_3 q1 q2 q3 q4)), .second, .val (.ref b4), .val (.int (v0_7 q1 q2 q3 q4)), .val (.int (v0_9 q1 q2 q3 q4)), .val (.int (v0_11 q1 q2 q3 q4)), .val (.int (v0_13 q1 q2 q3 q4)), .val (.int (v0_15 q1 q2 q3 q4)), .val (.int (v0_17 q1 q2 q3 q4)), .val (.int (v0_19 q1 q2 q3 q4)), .val (.int (v0_22 q1 q2 q3 q4)), .val (.long (v0_25 q1 q2 q3 q4)), .second, .val (.int (v0_28 q1 q2 q3 q4)), .val (.long (v0_31 q1 q2 q3 q4)), .second, .val (.int (v0_34 q1 q2 q3 q4)), .val (.int (v0_37 q1 q2 q3 q4)), .val (.int (v0_41 q1 q2 q3 q4)), .unset] [])
      refine Go.of (fun _ k => XS.iconst X40.here hx rfl (hb hby at_203) k) ?_
      show Go p e below W T40 (mkF m 204 #[.val (.long q1), .second, .val (.long q2), .second, .val (.long q3), .second, .val (.long q4), .second, .val (.long (v0_1 q1 q2 q3 q4)), .second, .val (.long (v0_2 q1 q2 q3 q4)), .second, .val (.long (v0_3 q1 q2 q3 q4)), .second, .val (.ref b4), .val (.int (v0_7 q1 q2 q3 q4)), .val (.int (v0_9 q1 q2 q3 q4)), .val (.int (v0_11 q1 q2 q3 q4)), .val (.int (v0_13 q1 q2 q3 q4)), .val (.int (v0_15 q1 q2 q3 q4)), .val (.int (v0_17 q1 q2 q3 q4)), .val (.int (v0_19 q1 q2 q3 q4)), .val (.int (v0_22 q1 q2 q3 q4)), .val (.long (v0_25 q1 q2 q3 q4)), .second, .val (.int (v0_28 q1 q2 q3 q4)), .val (.long (v0_31 q1 q2 q3 q4)), .second, .val (.int (v0_34 q1 q2 q3 q4)), .val (.int (v0_37 q1 q2 q3 q4)), .val (.int (v0_41 q1 q2 q3 q4)), .unset] [(.int (1 : Int32))])
      refine Go.of (fun _ k => XS.goto X40.here hx rfl (pc0 := 204) (pc' := 208) rfl (hb hby at_204) (by decide) (by decide) k) ?_
      have G44 := G44
      have q_v0_45 : (v0_45 q1 q2 q3 q4) = (1 : Int32) := by rw [v0_45, if_neg c42]
      rw [q_v0_45] at G44
      exact G44 _ X40 e40
  intro T44 X44 e44
  show Go p e below W T44 (mkF m 208 #[.val (.long q1), .second, .val (.long q2), .second, .val (.long q3), .second, .val (.long q4), .second, .val (.long (v0_1 q1 q2 q3 q4)), .second, .val (.long (v0_2 q1 q2 q3 q4)), .second, .val (.long (v0_3 q1 q2 q3 q4)), .second, .val (.ref b4), .val (.int (v0_7 q1 q2 q3 q4)), .val (.int (v0_9 q1 q2 q3 q4)), .val (.int (v0_11 q1 q2 q3 q4)), .val (.int (v0_13 q1 q2 q3 q4)), .val (.int (v0_15 q1 q2 q3 q4)), .val (.int (v0_17 q1 q2 q3 q4)), .val (.int (v0_19 q1 q2 q3 q4)), .val (.int (v0_22 q1 q2 q3 q4)), .val (.long (v0_25 q1 q2 q3 q4)), .second, .val (.int (v0_28 q1 q2 q3 q4)), .val (.long (v0_31 q1 q2 q3 q4)), .second, .val (.int (v0_34 q1 q2 q3 q4)), .val (.int (v0_37 q1 q2 q3 q4)), .val (.int (v0_41 q1 q2 q3 q4)), .unset] [(.int (v0_45 q1 q2 q3 q4))])
  refine Go.of (fun _ k => XS.istore X44.here hx rfl (hb hby at_208) rfl (l' := #[.val (.long q1), .second, .val (.long q2), .second, .val (.long q3), .second, .val (.long q4), .second, .val (.long (v0_1 q1 q2 q3 q4)), .second, .val (.long (v0_2 q1 q2 q3 q4)), .second, .val (.long (v0_3 q1 q2 q3 q4)), .second, .val (.ref b4), .val (.int (v0_7 q1 q2 q3 q4)), .val (.int (v0_9 q1 q2 q3 q4)), .val (.int (v0_11 q1 q2 q3 q4)), .val (.int (v0_13 q1 q2 q3 q4)), .val (.int (v0_15 q1 q2 q3 q4)), .val (.int (v0_17 q1 q2 q3 q4)), .val (.int (v0_19 q1 q2 q3 q4)), .val (.int (v0_22 q1 q2 q3 q4)), .val (.long (v0_25 q1 q2 q3 q4)), .second, .val (.int (v0_28 q1 q2 q3 q4)), .val (.long (v0_31 q1 q2 q3 q4)), .second, .val (.int (v0_34 q1 q2 q3 q4)), .val (.int (v0_37 q1 q2 q3 q4)), .val (.int (v0_41 q1 q2 q3 q4)), .val (.int (v0_45 q1 q2 q3 q4))]) rfl k) ?_
  show Go p e below W T44 (mkF m 210 #[.val (.long q1), .second, .val (.long q2), .second, .val (.long q3), .second, .val (.long q4), .second, .val (.long (v0_1 q1 q2 q3 q4)), .second, .val (.long (v0_2 q1 q2 q3 q4)), .second, .val (.long (v0_3 q1 q2 q3 q4)), .second, .val (.ref b4), .val (.int (v0_7 q1 q2 q3 q4)), .val (.int (v0_9 q1 q2 q3 q4)), .val (.int (v0_11 q1 q2 q3 q4)), .val (.int (v0_13 q1 q2 q3 q4)), .val (.int (v0_15 q1 q2 q3 q4)), .val (.int (v0_17 q1 q2 q3 q4)), .val (.int (v0_19 q1 q2 q3 q4)), .val (.int (v0_22 q1 q2 q3 q4)), .val (.long (v0_25 q1 q2 q3 q4)), .second, .val (.int (v0_28 q1 q2 q3 q4)), .val (.long (v0_31 q1 q2 q3 q4)), .second, .val (.int (v0_34 q1 q2 q3 q4)), .val (.int (v0_37 q1 q2 q3 q4)), .val (.int (v0_41 q1 q2 q3 q4)), .val (.int (v0_45 q1 q2 q3 q4))] [])
  refine Go.of (fun _ k => XS.iload X44.here hx rfl (hb hby at_210) rfl k) ?_
  show Go p e below W T44 (mkF m 212 #[.val (.long q1), .second, .val (.long q2), .second, .val (.long q3), .second, .val (.long q4), .second, .val (.long (v0_1 q1 q2 q3 q4)), .second, .val (.long (v0_2 q1 q2 q3 q4)), .second, .val (.long (v0_3 q1 q2 q3 q4)), .second, .val (.ref b4), .val (.int (v0_7 q1 q2 q3 q4)), .val (.int (v0_9 q1 q2 q3 q4)), .val (.int (v0_11 q1 q2 q3 q4)), .val (.int (v0_13 q1 q2 q3 q4)), .val (.int (v0_15 q1 q2 q3 q4)), .val (.int (v0_17 q1 q2 q3 q4)), .val (.int (v0_19 q1 q2 q3 q4)), .val (.int (v0_22 q1 q2 q3 q4)), .val (.long (v0_25 q1 q2 q3 q4)), .second, .val (.int (v0_28 q1 q2 q3 q4)), .val (.long (v0_31 q1 q2 q3 q4)), .second, .val (.int (v0_34 q1 q2 q3 q4)), .val (.int (v0_37 q1 q2 q3 q4)), .val (.int (v0_41 q1 q2 q3 q4)), .val (.int (v0_45 q1 q2 q3 q4))] [(.int (v0_7 q1 q2 q3 q4))])
  by_cases c46 : (v0_7 q1 q2 q3 q4) = (0 : Int32)
  · refine Go.of (fun _ k => XS.ifNo X44.here hx rfl (hb hby at_212) rfl (Jvm.Free.XT.i0_ne_f c46) k) ?_
    show Go p e below W T44 (mkF m 215 #[.val (.long q1), .second, .val (.long q2), .second, .val (.long q3), .second, .val (.long q4), .second, .val (.long (v0_1 q1 q2 q3 q4)), .second, .val (.long (v0_2 q1 q2 q3 q4)), .second, .val (.long (v0_3 q1 q2 q3 q4)), .second, .val (.ref b4), .val (.int (v0_7 q1 q2 q3 q4)), .val (.int (v0_9 q1 q2 q3 q4)), .val (.int (v0_11 q1 q2 q3 q4)), .val (.int (v0_13 q1 q2 q3 q4)), .val (.int (v0_15 q1 q2 q3 q4)), .val (.int (v0_17 q1 q2 q3 q4)), .val (.int (v0_19 q1 q2 q3 q4)), .val (.int (v0_22 q1 q2 q3 q4)), .val (.long (v0_25 q1 q2 q3 q4)), .second, .val (.int (v0_28 q1 q2 q3 q4)), .val (.long (v0_31 q1 q2 q3 q4)), .second, .val (.int (v0_34 q1 q2 q3 q4)), .val (.int (v0_37 q1 q2 q3 q4)), .val (.int (v0_41 q1 q2 q3 q4)), .val (.int (v0_45 q1 q2 q3 q4))] [])
    refine Go.of (fun _ k => XS.iload X44.here hx rfl (hb hby at_215) rfl k) ?_
    show Go p e below W T44 (mkF m 217 #[.val (.long q1), .second, .val (.long q2), .second, .val (.long q3), .second, .val (.long q4), .second, .val (.long (v0_1 q1 q2 q3 q4)), .second, .val (.long (v0_2 q1 q2 q3 q4)), .second, .val (.long (v0_3 q1 q2 q3 q4)), .second, .val (.ref b4), .val (.int (v0_7 q1 q2 q3 q4)), .val (.int (v0_9 q1 q2 q3 q4)), .val (.int (v0_11 q1 q2 q3 q4)), .val (.int (v0_13 q1 q2 q3 q4)), .val (.int (v0_15 q1 q2 q3 q4)), .val (.int (v0_17 q1 q2 q3 q4)), .val (.int (v0_19 q1 q2 q3 q4)), .val (.int (v0_22 q1 q2 q3 q4)), .val (.long (v0_25 q1 q2 q3 q4)), .second, .val (.int (v0_28 q1 q2 q3 q4)), .val (.long (v0_31 q1 q2 q3 q4)), .second, .val (.int (v0_34 q1 q2 q3 q4)), .val (.int (v0_37 q1 q2 q3 q4)), .val (.int (v0_41 q1 q2 q3 q4)), .val (.int (v0_45 q1 q2 q3 q4))] [(.int (v0_9 q1 q2 q3 q4))])
    refine Go.of (fun _ k => XS.iload X44.here hx rfl (hb hby at_217) rfl k) ?_
    show Go p e below W T44 (mkF m 219 #[.val (.long q1), .second, .val (.long q2), .second, .val (.long q3), .second, .val (.long q4), .second, .val (.long (v0_1 q1 q2 q3 q4)), .second, .val (.long (v0_2 q1 q2 q3 q4)), .second, .val (.long (v0_3 q1 q2 q3 q4)), .second, .val (.ref b4), .val (.int (v0_7 q1 q2 q3 q4)), .val (.int (v0_9 q1 q2 q3 q4)), .val (.int (v0_11 q1 q2 q3 q4)), .val (.int (v0_13 q1 q2 q3 q4)), .val (.int (v0_15 q1 q2 q3 q4)), .val (.int (v0_17 q1 q2 q3 q4)), .val (.int (v0_19 q1 q2 q3 q4)), .val (.int (v0_22 q1 q2 q3 q4)), .val (.long (v0_25 q1 q2 q3 q4)), .second, .val (.int (v0_28 q1 q2 q3 q4)), .val (.long (v0_31 q1 q2 q3 q4)), .second, .val (.int (v0_34 q1 q2 q3 q4)), .val (.int (v0_37 q1 q2 q3 q4)), .val (.int (v0_41 q1 q2 q3 q4)), .val (.int (v0_45 q1 q2 q3 q4))] [(.int (v0_22 q1 q2 q3 q4)), (.int (v0_9 q1 q2 q3 q4))])
    by_cases c47 : (v0_9 q1 q2 q3 q4) = (v0_22 q1 q2 q3 q4)
    · refine Go.of (fun _ k => XS.icmpNo X44.here hx rfl (hb hby at_219) rfl (Jvm.Free.XT.ii_ne_f c47) k) ?_
      show Go p e below W T44 (mkF m 222 #[.val (.long q1), .second, .val (.long q2), .second, .val (.long q3), .second, .val (.long q4), .second, .val (.long (v0_1 q1 q2 q3 q4)), .second, .val (.long (v0_2 q1 q2 q3 q4)), .second, .val (.long (v0_3 q1 q2 q3 q4)), .second, .val (.ref b4), .val (.int (v0_7 q1 q2 q3 q4)), .val (.int (v0_9 q1 q2 q3 q4)), .val (.int (v0_11 q1 q2 q3 q4)), .val (.int (v0_13 q1 q2 q3 q4)), .val (.int (v0_15 q1 q2 q3 q4)), .val (.int (v0_17 q1 q2 q3 q4)), .val (.int (v0_19 q1 q2 q3 q4)), .val (.int (v0_22 q1 q2 q3 q4)), .val (.long (v0_25 q1 q2 q3 q4)), .second, .val (.int (v0_28 q1 q2 q3 q4)), .val (.long (v0_31 q1 q2 q3 q4)), .second, .val (.int (v0_34 q1 q2 q3 q4)), .val (.int (v0_37 q1 q2 q3 q4)), .val (.int (v0_41 q1 q2 q3 q4)), .val (.int (v0_45 q1 q2 q3 q4))] [])
      refine Go.of (fun _ k => XS.iload X44.here hx rfl (hb hby at_222) rfl k) ?_
      show Go p e below W T44 (mkF m 224 #[.val (.long q1), .second, .val (.long q2), .second, .val (.long q3), .second, .val (.long q4), .second, .val (.long (v0_1 q1 q2 q3 q4)), .second, .val (.long (v0_2 q1 q2 q3 q4)), .second, .val (.long (v0_3 q1 q2 q3 q4)), .second, .val (.ref b4), .val (.int (v0_7 q1 q2 q3 q4)), .val (.int (v0_9 q1 q2 q3 q4)), .val (.int (v0_11 q1 q2 q3 q4)), .val (.int (v0_13 q1 q2 q3 q4)), .val (.int (v0_15 q1 q2 q3 q4)), .val (.int (v0_17 q1 q2 q3 q4)), .val (.int (v0_19 q1 q2 q3 q4)), .val (.int (v0_22 q1 q2 q3 q4)), .val (.long (v0_25 q1 q2 q3 q4)), .second, .val (.int (v0_28 q1 q2 q3 q4)), .val (.long (v0_31 q1 q2 q3 q4)), .second, .val (.int (v0_34 q1 q2 q3 q4)), .val (.int (v0_37 q1 q2 q3 q4)), .val (.int (v0_41 q1 q2 q3 q4)), .val (.int (v0_45 q1 q2 q3 q4))] [(.int (v0_11 q1 q2 q3 q4))])
      refine Go.of (fun _ k => XS.iload X44.here hx rfl (hb hby at_224) rfl k) ?_
      show Go p e below W T44 (mkF m 226 #[.val (.long q1), .second, .val (.long q2), .second, .val (.long q3), .second, .val (.long q4), .second, .val (.long (v0_1 q1 q2 q3 q4)), .second, .val (.long (v0_2 q1 q2 q3 q4)), .second, .val (.long (v0_3 q1 q2 q3 q4)), .second, .val (.ref b4), .val (.int (v0_7 q1 q2 q3 q4)), .val (.int (v0_9 q1 q2 q3 q4)), .val (.int (v0_11 q1 q2 q3 q4)), .val (.int (v0_13 q1 q2 q3 q4)), .val (.int (v0_15 q1 q2 q3 q4)), .val (.int (v0_17 q1 q2 q3 q4)), .val (.int (v0_19 q1 q2 q3 q4)), .val (.int (v0_22 q1 q2 q3 q4)), .val (.long (v0_25 q1 q2 q3 q4)), .second, .val (.int (v0_28 q1 q2 q3 q4)), .val (.long (v0_31 q1 q2 q3 q4)), .second, .val (.int (v0_34 q1 q2 q3 q4)), .val (.int (v0_37 q1 q2 q3 q4)), .val (.int (v0_41 q1 q2 q3 q4)), .val (.int (v0_45 q1 q2 q3 q4))] [(.int (v0_37 q1 q2 q3 q4)), (.int (v0_11 q1 q2 q3 q4))])
      by_cases c48 : (v0_11 q1 q2 q3 q4) = (v0_37 q1 q2 q3 q4)
      · refine Go.of (fun _ k => XS.icmpNo X44.here hx rfl (hb hby at_226) rfl (Jvm.Free.XT.ii_ne_f c48) k) ?_
        show Go p e below W T44 (mkF m 229 #[.val (.long q1), .second, .val (.long q2), .second, .val (.long q3), .second, .val (.long q4), .second, .val (.long (v0_1 q1 q2 q3 q4)), .second, .val (.long (v0_2 q1 q2 q3 q4)), .second, .val (.long (v0_3 q1 q2 q3 q4)), .second, .val (.ref b4), .val (.int (v0_7 q1 q2 q3 q4)), .val (.int (v0_9 q1 q2 q3 q4)), .val (.int (v0_11 q1 q2 q3 q4)), .val (.int (v0_13 q1 q2 q3 q4)), .val (.int (v0_15 q1 q2 q3 q4)), .val (.int (v0_17 q1 q2 q3 q4)), .val (.int (v0_19 q1 q2 q3 q4)), .val (.int (v0_22 q1 q2 q3 q4)), .val (.long (v0_25 q1 q2 q3 q4)), .second, .val (.int (v0_28 q1 q2 q3 q4)), .val (.long (v0_31 q1 q2 q3 q4)), .second, .val (.int (v0_34 q1 q2 q3 q4)), .val (.int (v0_37 q1 q2 q3 q4)), .val (.int (v0_41 q1 q2 q3 q4)), .val (.int (v0_45 q1 q2 q3 q4))] [])
        refine Go.of (fun _ k => XS.iload X44.here hx rfl (hb hby at_229) rfl k) ?_
        show Go p e below W T44 (mkF m 231 #[.val (.long q1), .second, .val (.long q2), .second, .val (.long q3), .second, .val (.long q4), .second, .val (.long (v0_1 q1 q2 q3 q4)), .second, .val (.long (v0_2 q1 q2 q3 q4)), .second, .val (.long (v0_3 q1 q2 q3 q4)), .second, .val (.ref b4), .val (.int (v0_7 q1 q2 q3 q4)), .val (.int (v0_9 q1 q2 q3 q4)), .val (.int (v0_11 q1 q2 q3 q4)), .val (.int (v0_13 q1 q2 q3 q4)), .val (.int (v0_15 q1 q2 q3 q4)), .val (.int (v0_17 q1 q2 q3 q4)), .val (.int (v0_19 q1 q2 q3 q4)), .val (.int (v0_22 q1 q2 q3 q4)), .val (.long (v0_25 q1 q2 q3 q4)), .second, .val (.int (v0_28 q1 q2 q3 q4)), .val (.long (v0_31 q1 q2 q3 q4)), .second, .val (.int (v0_34 q1 q2 q3 q4)), .val (.int (v0_37 q1 q2 q3 q4)), .val (.int (v0_41 q1 q2 q3 q4)), .val (.int (v0_45 q1 q2 q3 q4))] [(.int (v0_13 q1 q2 q3 q4))])
        refine Go.of (fun _ k => XS.iload X44.here hx rfl (hb hby at_231) rfl k) ?_
        show Go p e below W T44 (mkF m 233 #[.val (.long q1), .second, .val (.long q2), .second, .val (.long q3), .second, .val (.long q4), .second, .val (.long (v0_1 q1 q2 q3 q4)), .second, .val (.long (v0_2 q1 q2 q3 q4)), .second, .val (.long (v0_3 q1 q2 q3 q4)), .second, .val (.ref b4), .val (.int (v0_7 q1 q2 q3 q4)), .val (.int (v0_9 q1 q2 q3 q4)), .val (.int (v0_11 q1 q2 q3 q4)), .val (.int (v0_13 q1 q2 q3 q4)), .val (.int (v0_15 q1 q2 q3 q4)), .val (.int (v0_17 q1 q2 q3 q4)), .val (.int (v0_19 q1 q2 q3 q4)), .val (.int (v0_22 q1 q2 q3 q4)), .val (.long (v0_25 q1 q2 q3 q4)), .second, .val (.int (v0_28 q1 q2 q3 q4)), .val (.long (v0_31 q1 q2 q3 q4)), .second, .val (.int (v0_34 q1 q2 q3 q4)), .val (.int (v0_37 q1 q2 q3 q4)), .val (.int (v0_41 q1 q2 q3 q4)), .val (.int (v0_45 q1 q2 q3 q4))] [(.int (v0_28 q1 q2 q3 q4)), (.int (v0_13 q1 q2 q3 q4))])
        by_cases c49 : (v0_13 q1 q2 q3 q4) = (v0_28 q1 q2 q3 q4)
        · refine Go.of (fun _ k => XS.icmpNo X44.here hx rfl (hb hby at_233) rfl (Jvm.Free.XT.ii_ne_f c49) k) ?_
          show Go p e below W T44 (mkF m 236 #[.val (.long q1), .second, .val (.long q2), .second, .val (.long q3), .second, .val (.long q4), .second, .val (.long (v0_1 q1 q2 q3 q4)), .second, .val (.long (v0_2 q1 q2 q3 q4)), .second, .val (.long (v0_3 q1 q2 q3 q4)), .second, .val (.ref b4), .val (.int (v0_7 q1 q2 q3 q4)), .val (.int (v0_9 q1 q2 q3 q4)), .val (.int (v0_11 q1 q2 q3 q4)), .val (.int (v0_13 q1 q2 q3 q4)), .val (.int (v0_15 q1 q2 q3 q4)), .val (.int (v0_17 q1 q2 q3 q4)), .val (.int (v0_19 q1 q2 q3 q4)), .val (.int (v0_22 q1 q2 q3 q4)), .val (.long (v0_25 q1 q2 q3 q4)), .second, .val (.int (v0_28 q1 q2 q3 q4)), .val (.long (v0_31 q1 q2 q3 q4)), .second, .val (.int (v0_34 q1 q2 q3 q4)), .val (.int (v0_37 q1 q2 q3 q4)), .val (.int (v0_41 q1 q2 q3 q4)), .val (.int (v0_45 q1 q2 q3 q4))] [])
          refine Go.of (fun _ k => XS.iload X44.here hx rfl (hb hby at_236) rfl k) ?_
          show Go p e below W T44 (mkF m 238 #[.val (.long q1), .second, .val (.long q2), .second, .val (.long q3), .second, .val (.long q4), .second, .val (.long (v0_1 q1 q2 q3 q4)), .second, .val (.long (v0_2 q1 q2 q3 q4)), .second, .val (.long (v0_3 q1 q2 q3 q4)), .second, .val (.ref b4), .val (.int (v0_7 q1 q2 q3 q4)), .val (.int (v0_9 q1 q2 q3 q4)), .val (.int (v0_11 q1 q2 q3 q4)), .val (.int (v0_13 q1 q2 q3 q4)), .val (.int (v0_15 q1 q2 q3 q4)), .val (.int (v0_17 q1 q2 q3 q4)), .val (.int (v0_19 q1 q2 q3 q4)), .val (.int (v0_22 q1 q2 q3 q4)), .val (.long (v0_25 q1 q2 q3 q4)), .second, .val (.int (v0_28 q1 q2 q3 q4)), .val (.long (v0_31 q1 q2 q3 q4)), .second, .val (.int (v0_34 q1 q2 q3 q4)), .val (.int (v0_37 q1 q2 q3 q4)), .val (.int (v0_41 q1 q2 q3 q4)), .val (.int (v0_45 q1 q2 q3 q4))] [(.int (v0_15 q1 q2 q3 q4))])
          refine Go.of (fun _ k => XS.iload X44.here hx rfl (hb hby at_238) rfl k) ?_
          show Go p e below W T44 (mkF m 240 #[.val (.long q1), .second, .val (.long q2), .second, .val (.long q3), .second, .val (.long q4), .second, .val (.long (v0_1 q1 q2 q3 q4)), .second, .val (.long (v0_2 q1 q2 q3 q4)), .second, .val (.long (v0_3 q1 q2 q3 q4)), .second, .val (.ref b4), .val (.int (v0_7 q1 q2 q3 q4)), .val (.int (v0_9 q1 q2 q3 q4)), .val (.int (v0_11 q1 q2 q3 q4)), .val (.int (v0_13 q1 q2 q3 q4)), .val (.int (v0_15 q1 q2 q3 q4)), .val (.int (v0_17 q1 q2 q3 q4)), .val (.int (v0_19 q1 q2 q3 q4)), .val (.int (v0_22 q1 q2 q3 q4)), .val (.long (v0_25 q1 q2 q3 q4)), .second, .val (.int (v0_28 q1 q2 q3 q4)), .val (.long (v0_31 q1 q2 q3 q4)), .second, .val (.int (v0_34 q1 q2 q3 q4)), .val (.int (v0_37 q1 q2 q3 q4)), .val (.int (v0_41 q1 q2 q3 q4)), .val (.int (v0_45 q1 q2 q3 q4))] [(.int (v0_41 q1 q2 q3 q4)), (.int (v0_15 q1 q2 q3 q4))])
          by_cases c50 : (v0_15 q1 q2 q3 q4) = (v0_41 q1 q2 q3 q4)
          · refine Go.of (fun _ k => XS.icmpNo X44.here hx rfl (hb hby at_240) rfl (Jvm.Free.XT.ii_ne_f c50) k) ?_
            show Go p e below W T44 (mkF m 243 #[.val (.long q1), .second, .val (.long q2), .second, .val (.long q3), .second, .val (.long q4), .second, .val (.long (v0_1 q1 q2 q3 q4)), .second, .val (.long (v0_2 q1 q2 q3 q4)), .second, .val (.long (v0_3 q1 q2 q3 q4)), .second, .val (.ref b4), .val (.int (v0_7 q1 q2 q3 q4)), .val (.int (v0_9 q1 q2 q3 q4)), .val (.int (v0_11 q1 q2 q3 q4)), .val (.int (v0_13 q1 q2 q3 q4)), .val (.int (v0_15 q1 q2 q3 q4)), .val (.int (v0_17 q1 q2 q3 q4)), .val (.int (v0_19 q1 q2 q3 q4)), .val (.int (v0_22 q1 q2 q3 q4)), .val (.long (v0_25 q1 q2 q3 q4)), .second, .val (.int (v0_28 q1 q2 q3 q4)), .val (.long (v0_31 q1 q2 q3 q4)), .second, .val (.int (v0_34 q1 q2 q3 q4)), .val (.int (v0_37 q1 q2 q3 q4)), .val (.int (v0_41 q1 q2 q3 q4)), .val (.int (v0_45 q1 q2 q3 q4))] [])
            refine Go.of (fun _ k => XS.iload X44.here hx rfl (hb hby at_243) rfl k) ?_
            show Go p e below W T44 (mkF m 245 #[.val (.long q1), .second, .val (.long q2), .second, .val (.long q3), .second, .val (.long q4), .second, .val (.long (v0_1 q1 q2 q3 q4)), .second, .val (.long (v0_2 q1 q2 q3 q4)), .second, .val (.long (v0_3 q1 q2 q3 q4)), .second, .val (.ref b4), .val (.int (v0_7 q1 q2 q3 q4)), .val (.int (v0_9 q1 q2 q3 q4)), .val (.int (v0_11 q1 q2 q3 q4)), .val (.int (v0_13 q1 q2 q3 q4)), .val (.int (v0_15 q1 q2 q3 q4)), .val (.int (v0_17 q1 q2 q3 q4)), .val (.int (v0_19 q1 q2 q3 q4)), .val (.int (v0_22 q1 q2 q3 q4)), .val (.long (v0_25 q1 q2 q3 q4)), .second, .val (.int (v0_28 q1 q2 q3 q4)), .val (.long (v0_31 q1 q2 q3 q4)), .second, .val (.int (v0_34 q1 q2 q3 q4)), .val (.int (v0_37 q1 q2 q3 q4)), .val (.int (v0_41 q1 q2 q3 q4)), .val (.int (v0_45 q1 q2 q3 q4))] [(.int (v0_17 q1 q2 q3 q4))])
            refine Go.of (fun _ k => XS.iload X44.here hx rfl (hb hby at_245) rfl k) ?_
            show Go p e below W T44 (mkF m 247 #[.val (.long q1), .second, .val (.long q2), .second, .val (.long q3), .second, .val (.long q4), .second, .val (.long (v0_1 q1 q2 q3 q4)), .second, .val (.long (v0_2 q1 q2 q3 q4)), .second, .val (.long (v0_3 q1 q2 q3 q4)), .second, .val (.ref b4), .val (.int (v0_7 q1 q2 q3 q4)), .val (.int (v0_9 q1 q2 q3 q4)), .val (.int (v0_11 q1 q2 q3 q4)), .val (.int (v0_13 q1 q2 q3 q4)), .val (.int (v0_15 q1 q2 q3 q4)), .val (.int (v0_17 q1 q2 q3 q4)), .val (.int (v0_19 q1 q2 q3 q4)), .val (.int (v0_22 q1 q2 q3 q4)), .val (.long (v0_25 q1 q2 q3 q4)), .second, .val (.int (v0_28 q1 q2 q3 q4)), .val (.long (v0_31 q1 q2 q3 q4)), .second, .val (.int (v0_34 q1 q2 q3 q4)), .val (.int (v0_37 q1 q2 q3 q4)), .val (.int (v0_41 q1 q2 q3 q4)), .val (.int (v0_45 q1 q2 q3 q4))] [(.int (v0_34 q1 q2 q3 q4)), (.int (v0_17 q1 q2 q3 q4))])
            by_cases c51 : (v0_17 q1 q2 q3 q4) = (v0_34 q1 q2 q3 q4)
            · refine Go.of (fun _ k => XS.icmpNo X44.here hx rfl (hb hby at_247) rfl (Jvm.Free.XT.ii_ne_f c51) k) ?_
              show Go p e below W T44 (mkF m 250 #[.val (.long q1), .second, .val (.long q2), .second, .val (.long q3), .second, .val (.long q4), .second, .val (.long (v0_1 q1 q2 q3 q4)), .second, .val (.long (v0_2 q1 q2 q3 q4)), .second, .val (.long (v0_3 q1 q2 q3 q4)), .second, .val (.ref b4), .val (.int (v0_7 q1 q2 q3 q4)), .val (.int (v0_9 q1 q2 q3 q4)), .val (.int (v0_11 q1 q2 q3 q4)), .val (.int (v0_13 q1 q2 q3 q4)), .val (.int (v0_15 q1 q2 q3 q4)), .val (.int (v0_17 q1 q2 q3 q4)), .val (.int (v0_19 q1 q2 q3 q4)), .val (.int (v0_22 q1 q2 q3 q4)), .val (.long (v0_25 q1 q2 q3 q4)), .second, .val (.int (v0_28 q1 q2 q3 q4)), .val (.long (v0_31 q1 q2 q3 q4)), .second, .val (.int (v0_34 q1 q2 q3 q4)), .val (.int (v0_37 q1 q2 q3 q4)), .val (.int (v0_41 q1 q2 q3 q4)), .val (.int (v0_45 q1 q2 q3 q4))] [])
              refine Go.of (fun _ k => XS.iload X44.here hx rfl (hb hby at_250) rfl k) ?_
              show Go p e below W T44 (mkF m 252 #[.val (.long q1), .second, .val (.long q2), .second, .val (.long q3), .second, .val (.long q4), .second, .val (.long (v0_1 q1 q2 q3 q4)), .second, .val (.long (v0_2 q1 q2 q3 q4)), .second, .val (.long (v0_3 q1 q2 q3 q4)), .second, .val (.ref b4), .val (.int (v0_7 q1 q2 q3 q4)), .val (.int (v0_9 q1 q2 q3 q4)), .val (.int (v0_11 q1 q2 q3 q4)), .val (.int (v0_13 q1 q2 q3 q4)), .val (.int (v0_15 q1 q2 q3 q4)), .val (.int (v0_17 q1 q2 q3 q4)), .val (.int (v0_19 q1 q2 q3 q4)), .val (.int (v0_22 q1 q2 q3 q4)), .val (.long (v0_25 q1 q2 q3 q4)), .second, .val (.int (v0_28 q1 q2 q3 q4)), .val (.long (v0_31 q1 q2 q3 q4)), .second, .val (.int (v0_34 q1 q2 q3 q4)), .val (.int (v0_37 q1 q2 q3 q4)), .val (.int (v0_41 q1 q2 q3 q4)), .val (.int (v0_45 q1 q2 q3 q4))] [(.int (v0_19 q1 q2 q3 q4))])
              refine Go.of (fun _ k => XS.iload X44.here hx rfl (hb hby at_252) rfl k) ?_
              show Go p e below W T44 (mkF m 254 #[.val (.long q1), .second, .val (.long q2), .second, .val (.long q3), .second, .val (.long q4), .second, .val (.long (v0_1 q1 q2 q3 q4)), .second, .val (.long (v0_2 q1 q2 q3 q4)), .second, .val (.long (v0_3 q1 q2 q3 q4)), .second, .val (.ref b4), .val (.int (v0_7 q1 q2 q3 q4)), .val (.int (v0_9 q1 q2 q3 q4)), .val (.int (v0_11 q1 q2 q3 q4)), .val (.int (v0_13 q1 q2 q3 q4)), .val (.int (v0_15 q1 q2 q3 q4)), .val (.int (v0_17 q1 q2 q3 q4)), .val (.int (v0_19 q1 q2 q3 q4)), .val (.int (v0_22 q1 q2 q3 q4)), .val (.long (v0_25 q1 q2 q3 q4)), .second, .val (.int (v0_28 q1 q2 q3 q4)), .val (.long (v0_31 q1 q2 q3 q4)), .second, .val (.int (v0_34 q1 q2 q3 q4)), .val (.int (v0_37 q1 q2 q3 q4)), .val (.int (v0_41 q1 q2 q3 q4)), .val (.int (v0_45 q1 q2 q3 q4))] [(.int (v0_45 q1 q2 q3 q4)), (.int (v0_19 q1 q2 q3 q4))])
              by_cases c52 : (v0_19 q1 q2 q3 q4) = (v0_45 q1 q2 q3 q4)
              · refine Go.of (fun _ k => XS.icmpNo X44.here hx rfl (hb hby at_254) rfl (Jvm.Free.XT.ii_ne_f c52) k) ?_
                show Go p e below W T44 (mkF m 257 #[.val (.long q1), .second, .val (.long q2), .second, .val (.long q3), .second, .val (.long q4), .second, .val (.long (v0_1 q1 q2 q3 q4)), .second, .val (.long (v0_2 q1 q2 q3 q4)), .second, .val (.long (v0_3 q1 q2 q3 q4)), .second, .val (.ref b4), .val (.int (v0_7 q1 q2 q3 q4)), .val (.int (v0_9 q1 q2 q3 q4)), .val (.int (v0_11 q1 q2 q3 q4)), .val (.int (v0_13 q1 q2 q3 q4)), .val (.int (v0_15 q1 q2 q3 q4)), .val (.int (v0_17 q1 q2 q3 q4)), .val (.int (v0_19 q1 q2 q3 q4)), .val (.int (v0_22 q1 q2 q3 q4)), .val (.long (v0_25 q1 q2 q3 q4)), .second, .val (.int (v0_28 q1 q2 q3 q4)), .val (.long (v0_31 q1 q2 q3 q4)), .second, .val (.int (v0_34 q1 q2 q3 q4)), .val (.int (v0_37 q1 q2 q3 q4)), .val (.int (v0_41 q1 q2 q3 q4)), .val (.int (v0_45 q1 q2 q3 q4))] [])
                refine Go.of (fun _ k => XS.iconst X44.here hx rfl (hb hby at_257) k) ?_
                show Go p e below W T44 (mkF m 258 #[.val (.long q1), .second, .val (.long q2), .second, .val (.long q3), .second, .val (.long q4), .second, .val (.long (v0_1 q1 q2 q3 q4)), .second, .val (.long (v0_2 q1 q2 q3 q4)), .second, .val (.long (v0_3 q1 q2 q3 q4)), .second, .val (.ref b4), .val (.int (v0_7 q1 q2 q3 q4)), .val (.int (v0_9 q1 q2 q3 q4)), .val (.int (v0_11 q1 q2 q3 q4)), .val (.int (v0_13 q1 q2 q3 q4)), .val (.int (v0_15 q1 q2 q3 q4)), .val (.int (v0_17 q1 q2 q3 q4)), .val (.int (v0_19 q1 q2 q3 q4)), .val (.int (v0_22 q1 q2 q3 q4)), .val (.long (v0_25 q1 q2 q3 q4)), .second, .val (.int (v0_28 q1 q2 q3 q4)), .val (.long (v0_31 q1 q2 q3 q4)), .second, .val (.int (v0_34 q1 q2 q3 q4)), .val (.int (v0_37 q1 q2 q3 q4)), .val (.int (v0_41 q1 q2 q3 q4)), .val (.int (v0_45 q1 q2 q3 q4))] [(.int (1 : Int32))])
                refine Go.of (fun _ k => XS.goto X44.here hx rfl (pc0 := 258) (pc' := 262) rfl (hb hby at_258) (by decide) (by decide) k) ?_
                show Go p e below W T44 (mkF m 262 #[.val (.long q1), .second, .val (.long q2), .second, .val (.long q3), .second, .val (.long q4), .second, .val (.long (v0_1 q1 q2 q3 q4)), .second, .val (.long (v0_2 q1 q2 q3 q4)), .second, .val (.long (v0_3 q1 q2 q3 q4)), .second, .val (.ref b4), .val (.int (v0_7 q1 q2 q3 q4)), .val (.int (v0_9 q1 q2 q3 q4)), .val (.int (v0_11 q1 q2 q3 q4)), .val (.int (v0_13 q1 q2 q3 q4)), .val (.int (v0_15 q1 q2 q3 q4)), .val (.int (v0_17 q1 q2 q3 q4)), .val (.int (v0_19 q1 q2 q3 q4)), .val (.int (v0_22 q1 q2 q3 q4)), .val (.long (v0_25 q1 q2 q3 q4)), .second, .val (.int (v0_28 q1 q2 q3 q4)), .val (.long (v0_31 q1 q2 q3 q4)), .second, .val (.int (v0_34 q1 q2 q3 q4)), .val (.int (v0_37 q1 q2 q3 q4)), .val (.int (v0_41 q1 q2 q3 q4)), .val (.int (v0_45 q1 q2 q3 q4))] [(.int (1 : Int32))])
                have u_f0 : (f0 q1 q2 q3 q4) = (1 : Int32) := by rw [f0, if_pos c46, if_pos c47, if_pos c48, if_pos c49, if_pos c50, if_pos c51, if_pos c52]
                have fin : Q0 Z q1 q2 q3 q4 h0 n0 (some (.int (f0 q1 q2 q3 q4))) T16.heap L16 := ⟨rfl, N, K⟩
                exact Go.retN X44 hx hret (Or.inl rfl) (hb hby at_262) hlk (Eq.trans rfl u_f0.symm) (fun t ht fe => hW t _ _ _ _ (by rw [ht, e44]; exact fin) fe (by decide) (by decide))
              · refine Go.of (fun _ k => XS.icmpYes X44.here hx rfl (pc0 := 254) (pc' := 261) rfl (hb hby at_254) rfl (Jvm.Free.XT.ii_ne_t c52) (by decide) (by decide) k) ?_
                show Go p e below W T44 (mkF m 261 #[.val (.long q1), .second, .val (.long q2), .second, .val (.long q3), .second, .val (.long q4), .second, .val (.long (v0_1 q1 q2 q3 q4)), .second, .val (.long (v0_2 q1 q2 q3 q4)), .second, .val (.long (v0_3 q1 q2 q3 q4)), .second, .val (.ref b4), .val (.int (v0_7 q1 q2 q3 q4)), .val (.int (v0_9 q1 q2 q3 q4)), .val (.int (v0_11 q1 q2 q3 q4)), .val (.int (v0_13 q1 q2 q3 q4)), .val (.int (v0_15 q1 q2 q3 q4)), .val (.int (v0_17 q1 q2 q3 q4)), .val (.int (v0_19 q1 q2 q3 q4)), .val (.int (v0_22 q1 q2 q3 q4)), .val (.long (v0_25 q1 q2 q3 q4)), .second, .val (.int (v0_28 q1 q2 q3 q4)), .val (.long (v0_31 q1 q2 q3 q4)), .second, .val (.int (v0_34 q1 q2 q3 q4)), .val (.int (v0_37 q1 q2 q3 q4)), .val (.int (v0_41 q1 q2 q3 q4)), .val (.int (v0_45 q1 q2 q3 q4))] [])
                refine Go.of (fun _ k => XS.iconst X44.here hx rfl (hb hby at_261) k) ?_
                show Go p e below W T44 (mkF m 262 #[.val (.long q1), .second, .val (.long q2), .second, .val (.long q3), .second, .val (.long q4), .second, .val (.long (v0_1 q1 q2 q3 q4)), .second, .val (.long (v0_2 q1 q2 q3 q4)), .second, .val (.long (v0_3 q1 q2 q3 q4)), .second, .val (.ref b4), .val (.int (v0_7 q1 q2 q3 q4)), .val (.int (v0_9 q1 q2 q3 q4)), .val (.int (v0_11 q1 q2 q3 q4)), .val (.int (v0_13 q1 q2 q3 q4)), .val (.int (v0_15 q1 q2 q3 q4)), .val (.int (v0_17 q1 q2 q3 q4)), .val (.int (v0_19 q1 q2 q3 q4)), .val (.int (v0_22 q1 q2 q3 q4)), .val (.long (v0_25 q1 q2 q3 q4)), .second, .val (.int (v0_28 q1 q2 q3 q4)), .val (.long (v0_31 q1 q2 q3 q4)), .second, .val (.int (v0_34 q1 q2 q3 q4)), .val (.int (v0_37 q1 q2 q3 q4)), .val (.int (v0_41 q1 q2 q3 q4)), .val (.int (v0_45 q1 q2 q3 q4))] [(.int (0 : Int32))])
                have u_f0 : (f0 q1 q2 q3 q4) = (0 : Int32) := by rw [f0, if_pos c46, if_pos c47, if_pos c48, if_pos c49, if_pos c50, if_pos c51, if_neg c52]
                have fin : Q0 Z q1 q2 q3 q4 h0 n0 (some (.int (f0 q1 q2 q3 q4))) T16.heap L16 := ⟨rfl, N, K⟩
                exact Go.retN X44 hx hret (Or.inl rfl) (hb hby at_262) hlk (Eq.trans rfl u_f0.symm) (fun t ht fe => hW t _ _ _ _ (by rw [ht, e44]; exact fin) fe (by decide) (by decide))
            · refine Go.of (fun _ k => XS.icmpYes X44.here hx rfl (pc0 := 247) (pc' := 261) rfl (hb hby at_247) rfl (Jvm.Free.XT.ii_ne_t c51) (by decide) (by decide) k) ?_
              show Go p e below W T44 (mkF m 261 #[.val (.long q1), .second, .val (.long q2), .second, .val (.long q3), .second, .val (.long q4), .second, .val (.long (v0_1 q1 q2 q3 q4)), .second, .val (.long (v0_2 q1 q2 q3 q4)), .second, .val (.long (v0_3 q1 q2 q3 q4)), .second, .val (.ref b4), .val (.int (v0_7 q1 q2 q3 q4)), .val (.int (v0_9 q1 q2 q3 q4)), .val (.int (v0_11 q1 q2 q3 q4)), .val (.int (v0_13 q1 q2 q3 q4)), .val (.int (v0_15 q1 q2 q3 q4)), .val (.int (v0_17 q1 q2 q3 q4)), .val (.int (v0_19 q1 q2 q3 q4)), .val (.int (v0_22 q1 q2 q3 q4)), .val (.long (v0_25 q1 q2 q3 q4)), .second, .val (.int (v0_28 q1 q2 q3 q4)), .val (.long (v0_31 q1 q2 q3 q4)), .second, .val (.int (v0_34 q1 q2 q3 q4)), .val (.int (v0_37 q1 q2 q3 q4)), .val (.int (v0_41 q1 q2 q3 q4)), .val (.int (v0_45 q1 q2 q3 q4))] [])
              refine Go.of (fun _ k => XS.iconst X44.here hx rfl (hb hby at_261) k) ?_
              show Go p e below W T44 (mkF m 262 #[.val (.long q1), .second, .val (.long q2), .second, .val (.long q3), .second, .val (.long q4), .second, .val (.long (v0_1 q1 q2 q3 q4)), .second, .val (.long (v0_2 q1 q2 q3 q4)), .second, .val (.long (v0_3 q1 q2 q3 q4)), .second, .val (.ref b4), .val (.int (v0_7 q1 q2 q3 q4)), .val (.int (v0_9 q1 q2 q3 q4)), .val (.int (v0_11 q1 q2 q3 q4)), .val (.int (v0_13 q1 q2 q3 q4)), .val (.int (v0_15 q1 q2 q3 q4)), .val (.int (v0_17 q1 q2 q3 q4)), .val (.int (v0_19 q1 q2 q3 q4)), .val (.int (v0_22 q1 q2 q3 q4)), .val (.long (v0_25 q1 q2 q3 q4)), .second, .val (.int (v0_28 q1 q2 q3 q4)), .val (.long (v0_31 q1 q2 q3 q4)), .second, .val (.int (v0_34 q1 q2 q3 q4)), .val (.int (v0_37 q1 q2 q3 q4)), .val (.int (v0_41 q1 q2 q3 q4)), .val (.int (v0_45 q1 q2 q3 q4))] [(.int (0 : Int32))])
              have u_f0 : (f0 q1 q2 q3 q4) = (0 : Int32) := by rw [f0, if_pos c46, if_pos c47, if_pos c48, if_pos c49, if_pos c50, if_neg c51]
              have fin : Q0 Z q1 q2 q3 q4 h0 n0 (some (.int (f0 q1 q2 q3 q4))) T16.heap L16 := ⟨rfl, N, K⟩
              exact Go.retN X44 hx hret (Or.inl rfl) (hb hby at_262) hlk (Eq.trans rfl u_f0.symm) (fun t ht fe => hW t _ _ _ _ (by rw [ht, e44]; exact fin) fe (by decide) (by decide))
          · refine Go.of (fun _ k => XS.icmpYes X44.here hx rfl (pc0 := 240) (pc' := 261) rfl (hb hby at_240) rfl (Jvm.Free.XT.ii_ne_t c50) (by decide) (by decide) k) ?_
            show Go p e below W T44 (mkF m 261 #[.val (.long q1), .second, .val (.long q2), .second, .val (.long q3), .second, .val (.long q4), .second, .val (.long (v0_1 q1 q2 q3 q4)), .second, .val (.long (v0_2 q1 q2 q3 q4)), .second, .val (.long (v0_3 q1 q2 q3 q4)), .second, .val (.ref b4), .val (.int (v0_7 q1 q2 q3 q4)), .val (.int (v0_9 q1 q2 q3 q4)), .val (.int (v0_11 q1 q2 q3 q4)), .val (.int (v0_13 q1 q2 q3 q4)), .val (.int (v0_15 q1 q2 q3 q4)), .val (.int (v0_17 q1 q2 q3 q4)), .val (.int (v0_19 q1 q2 q3 q4)), .val (.int (v0_22 q1 q2 q3 q4)), .val (.long (v0_25 q1 q2 q3 q4)), .second, .val (.int (v0_28 q1 q2 q3 q4)), .val (.long (v0_31 q1 q2 q3 q4)), .second, .val (.int (v0_34 q1 q2 q3 q4)), .val (.int (v0_37 q1 q2 q3 q4)), .val (.int (v0_41 q1 q2 q3 q4)), .val (.int (v0_45 q1 q2 q3 q4))] [])
            refine Go.of (fun _ k => XS.iconst X44.here hx rfl (hb hby at_261) k) ?_
            show Go p e below W T44 (mkF m 262 #[.val (.long q1), .second, .val (.long q2), .second, .val (.long q3), .second, .val (.long q4), .second, .val (.long (v0_1 q1 q2 q3 q4)), .second, .val (.long (v0_2 q1 q2 q3 q4)), .second, .val (.long (v0_3 q1 q2 q3 q4)), .second, .val (.ref b4), .val (.int (v0_7 q1 q2 q3 q4)), .val (.int (v0_9 q1 q2 q3 q4)), .val (.int (v0_11 q1 q2 q3 q4)), .val (.int (v0_13 q1 q2 q3 q4)), .val (.int (v0_15 q1 q2 q3 q4)), .val (.int (v0_17 q1 q2 q3 q4)), .val (.int (v0_19 q1 q2 q3 q4)), .val (.int (v0_22 q1 q2 q3 q4)), .val (.long (v0_25 q1 q2 q3 q4)), .second, .val (.int (v0_28 q1 q2 q3 q4)), .val (.long (v0_31 q1 q2 q3 q4)), .second, .val (.int (v0_34 q1 q2 q3 q4)), .val (.int (v0_37 q1 q2 q3 q4)), .val (.int (v0_41 q1 q2 q3 q4)), .val (.int (v0_45 q1 q2 q3 q4))] [(.int (0 : Int32))])
            have u_f0 : (f0 q1 q2 q3 q4) = (0 : Int32) := by rw [f0, if_pos c46, if_pos c47, if_pos c48, if_pos c49, if_neg c50]
            have fin : Q0 Z q1 q2 q3 q4 h0 n0 (some (.int (f0 q1 q2 q3 q4))) T16.heap L16 := ⟨rfl, N, K⟩
            exact Go.retN X44 hx hret (Or.inl rfl) (hb hby at_262) hlk (Eq.trans rfl u_f0.symm) (fun t ht fe => hW t _ _ _ _ (by rw [ht, e44]; exact fin) fe (by decide) (by decide))
        · refine Go.of (fun _ k => XS.icmpYes X44.here hx rfl (pc0 := 233) (pc' := 261) rfl (hb hby at_233) rfl (Jvm.Free.XT.ii_ne_t c49) (by decide) (by decide) k) ?_
          show Go p e below W T44 (mkF m 261 #[.val (.long q1), .second, .val (.long q2), .second, .val (.long q3), .second, .val (.long q4), .second, .val (.long (v0_1 q1 q2 q3 q4)), .second, .val (.long (v0_2 q1 q2 q3 q4)), .second, .val (.long (v0_3 q1 q2 q3 q4)), .second, .val (.ref b4), .val (.int (v0_7 q1 q2 q3 q4)), .val (.int (v0_9 q1 q2 q3 q4)), .val (.int (v0_11 q1 q2 q3 q4)), .val (.int (v0_13 q1 q2 q3 q4)), .val (.int (v0_15 q1 q2 q3 q4)), .val (.int (v0_17 q1 q2 q3 q4)), .val (.int (v0_19 q1 q2 q3 q4)), .val (.int (v0_22 q1 q2 q3 q4)), .val (.long (v0_25 q1 q2 q3 q4)), .second, .val (.int (v0_28 q1 q2 q3 q4)), .val (.long (v0_31 q1 q2 q3 q4)), .second, .val (.int (v0_34 q1 q2 q3 q4)), .val (.int (v0_37 q1 q2 q3 q4)), .val (.int (v0_41 q1 q2 q3 q4)), .val (.int (v0_45 q1 q2 q3 q4))] [])
          refine Go.of (fun _ k => XS.iconst X44.here hx rfl (hb hby at_261) k) ?_
          show Go p e below W T44 (mkF m 262 #[.val (.long q1), .second, .val (.long q2), .second, .val (.long q3), .second, .val (.long q4), .second, .val (.long (v0_1 q1 q2 q3 q4)), .second, .val (.long (v0_2 q1 q2 q3 q4)), .second, .val (.long (v0_3 q1 q2 q3 q4)), .second, .val (.ref b4), .val (.int (v0_7 q1 q2 q3 q4)), .val (.int (v0_9 q1 q2 q3 q4)), .val (.int (v0_11 q1 q2 q3 q4)), .val (.int (v0_13 q1 q2 q3 q4)), .val (.int (v0_15 q1 q2 q3 q4)), .val (.int (v0_17 q1 q2 q3 q4)), .val (.int (v0_19 q1 q2 q3 q4)), .val (.int (v0_22 q1 q2 q3 q4)), .val (.long (v0_25 q1 q2 q3 q4)), .second, .val (.int (v0_28 q1 q2 q3 q4)), .val (.long (v0_31 q1 q2 q3 q4)), .second, .val (.int (v0_34 q1 q2 q3 q4)), .val (.int (v0_37 q1 q2 q3 q4)), .val (.int (v0_41 q1 q2 q3 q4)), .val (.int (v0_45 q1 q2 q3 q4))] [(.int (0 : Int32))])
          have u_f0 : (f0 q1 q2 q3 q4) = (0 : Int32) := by rw [f0, if_pos c46, if_pos c47, if_pos c48, if_neg c49]
          have fin : Q0 Z q1 q2 q3 q4 h0 n0 (some (.int (f0 q1 q2 q3 q4))) T16.heap L16 := ⟨rfl, N, K⟩
          exact Go.retN X44 hx hret (Or.inl rfl) (hb hby at_262) hlk (Eq.trans rfl u_f0.symm) (fun t ht fe => hW t _ _ _ _ (by rw [ht, e44]; exact fin) fe (by decide) (by decide))
      · refine Go.of (fun _ k => XS.icmpYes X44.here hx rfl (pc0 := 226) (pc' := 261) rfl (hb hby at_226) rfl (Jvm.Free.XT.ii_ne_t c48) (by decide) (by decide) k) ?_
        show Go p e below W T44 (mkF m 261 #[.val (.long q1), .second, .val (.long q2), .second, .val (.long q3), .second, .val (.long q4), .second, .val (.long (v0_1 q1 q2 q3 q4)), .second, .val (.long (v0_2 q1 q2 q3 q4)), .second, .val (.long (v0_3 q1 q2 q3 q4)), .second, .val (.ref b4), .val (.int (v0_7 q1 q2 q3 q4)), .val (.int (v0_9 q1 q2 q3 q4)), .val (.int (v0_11 q1 q2 q3 q4)), .val (.int (v0_13 q1 q2 q3 q4)), .val (.int (v0_15 q1 q2 q3 q4)), .val (.int (v0_17 q1 q2 q3 q4)), .val (.int (v0_19 q1 q2 q3 q4)), .val (.int (v0_22 q1 q2 q3 q4)), .val (.long (v0_25 q1 q2 q3 q4)), .second, .val (.int (v0_28 q1 q2 q3 q4)), .val (.long (v0_31 q1 q2 q3 q4)), .second, .val (.int (v0_34 q1 q2 q3 q4)), .val (.int (v0_37 q1 q2 q3 q4)), .val (.int (v0_41 q1 q2 q3 q4)), .val (.int (v0_45 q1 q2 q3 q4))] [])
        refine Go.of (fun _ k => XS.iconst X44.here hx rfl (hb hby at_261) k) ?_
        show Go p e below W T44 (mkF m 262 #[.val (.long q1), .second, .val (.long q2), .second, .val (.long q3), .second, .val (.long q4), .second, .val (.long (v0_1 q1 q2 q3 q4)), .second, .val (.long (v0_2 q1 q2 q3 q4)), .second, .val (.long (v0_3 q1 q2 q3 q4)), .second, .val (.ref b4), .val (.int (v0_7 q1 q2 q3 q4)), .val (.int (v0_9 q1 q2 q3 q4)), .val (.int (v0_11 q1 q2 q3 q4)), .val (.int (v0_13 q1 q2 q3 q4)), .val (.int (v0_15 q1 q2 q3 q4)), .val (.int (v0_17 q1 q2 q3 q4)), .val (.int (v0_19 q1 q2 q3 q4)), .val (.int (v0_22 q1 q2 q3 q4)), .val (.long (v0_25 q1 q2 q3 q4)), .second, .val (.int (v0_28 q1 q2 q3 q4)), .val (.long (v0_31 q1 q2 q3 q4)), .second, .val (.int (v0_34 q1 q2 q3 q4)), .val (.int (v0_37 q1 q2 q3 q4)), .val (.int (v0_41 q1 q2 q3 q4)), .val (.int (v0_45 q1 q2 q3 q4))] [(.int (0 : Int32))])
        have u_f0 : (f0 q1 q2 q3 q4) = (0 : Int32) := by rw [f0, if_pos c46, if_pos c47, if_neg c48]
        have fin : Q0 Z q1 q2 q3 q4 h0 n0 (some (.int (f0 q1 q2 q3 q4))) T16.heap L16 := ⟨rfl, N, K⟩
        exact Go.retN X44 hx hret (Or.inl rfl) (hb hby at_262) hlk (Eq.trans rfl u_f0.symm) (fun t ht fe => hW t _ _ _ _ (by rw [ht, e44]; exact fin) fe (by decide) (by decide))
    · refine Go.of (fun _ k => XS.icmpYes X44.here hx rfl (pc0 := 219) (pc' := 261) rfl (hb hby at_219) rfl (Jvm.Free.XT.ii_ne_t c47) (by decide) (by decide) k) ?_
      show Go p e below W T44 (mkF m 261 #[.val (.long q1), .second, .val (.long q2), .second, .val (.long q3), .second, .val (.long q4), .second, .val (.long (v0_1 q1 q2 q3 q4)), .second, .val (.long (v0_2 q1 q2 q3 q4)), .second, .val (.long (v0_3 q1 q2 q3 q4)), .second, .val (.ref b4), .val (.int (v0_7 q1 q2 q3 q4)), .val (.int (v0_9 q1 q2 q3 q4)), .val (.int (v0_11 q1 q2 q3 q4)), .val (.int (v0_13 q1 q2 q3 q4)), .val (.int (v0_15 q1 q2 q3 q4)), .val (.int (v0_17 q1 q2 q3 q4)), .val (.int (v0_19 q1 q2 q3 q4)), .val (.int (v0_22 q1 q2 q3 q4)), .val (.long (v0_25 q1 q2 q3 q4)), .second, .val (.int (v0_28 q1 q2 q3 q4)), .val (.long (v0_31 q1 q2 q3 q4)), .second, .val (.int (v0_34 q1 q2 q3 q4)), .val (.int (v0_37 q1 q2 q3 q4)), .val (.int (v0_41 q1 q2 q3 q4)), .val (.int (v0_45 q1 q2 q3 q4))] [])
      refine Go.of (fun _ k => XS.iconst X44.here hx rfl (hb hby at_261) k) ?_
      show Go p e below W T44 (mkF m 262 #[.val (.long q1), .second, .val (.long q2), .second, .val (.long q3), .second, .val (.long q4), .second, .val (.long (v0_1 q1 q2 q3 q4)), .second, .val (.long (v0_2 q1 q2 q3 q4)), .second, .val (.long (v0_3 q1 q2 q3 q4)), .second, .val (.ref b4), .val (.int (v0_7 q1 q2 q3 q4)), .val (.int (v0_9 q1 q2 q3 q4)), .val (.int (v0_11 q1 q2 q3 q4)), .val (.int (v0_13 q1 q2 q3 q4)), .val (.int (v0_15 q1 q2 q3 q4)), .val (.int (v0_17 q1 q2 q3 q4)), .val (.int (v0_19 q1 q2 q3 q4)), .val (.int (v0_22 q1 q2 q3 q4)), .val (.long (v0_25 q1 q2 q3 q4)), .second, .val (.int (v0_28 q1 q2 q3 q4)), .val (.long (v0_31 q1 q2 q3 q4)), .second, .val (.int (v0_34 q1 q2 q3 q4)), .val (.int (v0_37 q1 q2 q3 q4)), .val (.int (v0_41 q1 q2 q3 q4)), .val (.int (v0_45 q1 q2 q3 q4))] [(.int (0 : Int32))])
      have u_f0 : (f0 q1 q2 q3 q4) = (0 : Int32) := by rw [f0, if_pos c46, if_neg c47]
      have fin : Q0 Z q1 q2 q3 q4 h0 n0 (some (.int (f0 q1 q2 q3 q4))) T16.heap L16 := ⟨rfl, N, K⟩
      exact Go.retN X44 hx hret (Or.inl rfl) (hb hby at_262) hlk (Eq.trans rfl u_f0.symm) (fun t ht fe => hW t _ _ _ _ (by rw [ht, e44]; exact fin) fe (by decide) (by decide))
  · refine Go.of (fun _ k => XS.ifYes X44.here hx rfl (pc0 := 212) (pc' := 261) rfl (hb hby at_212) rfl (Jvm.Free.XT.i0_ne_t c46) (by decide) (by decide) k) ?_
    show Go p e below W T44 (mkF m 261 #[.val (.long q1), .second, .val (.long q2), .second, .val (.long q3), .second, .val (.long q4), .second, .val (.long (v0_1 q1 q2 q3 q4)), .second, .val (.long (v0_2 q1 q2 q3 q4)), .second, .val (.long (v0_3 q1 q2 q3 q4)), .second, .val (.ref b4), .val (.int (v0_7 q1 q2 q3 q4)), .val (.int (v0_9 q1 q2 q3 q4)), .val (.int (v0_11 q1 q2 q3 q4)), .val (.int (v0_13 q1 q2 q3 q4)), .val (.int (v0_15 q1 q2 q3 q4)), .val (.int (v0_17 q1 q2 q3 q4)), .val (.int (v0_19 q1 q2 q3 q4)), .val (.int (v0_22 q1 q2 q3 q4)), .val (.long (v0_25 q1 q2 q3 q4)), .second, .val (.int (v0_28 q1 q2 q3 q4)), .val (.long (v0_31 q1 q2 q3 q4)), .second, .val (.int (v0_34 q1 q2 q3 q4)), .val (.int (v0_37 q1 q2 q3 q4)), .val (.int (v0_41 q1 q2 q3 q4)), .val (.int (v0_45 q1 q2 q3 q4))] [])
    refine Go.of (fun _ k => XS.iconst X44.here hx rfl (hb hby at_261) k) ?_
    show Go p e below W T44 (mkF m 262 #[.val (.long q1), .second, .val (.long q2), .second, .val (.long q3), .second, .val (.long q4), .second, .val (.long (v0_1 q1 q2 q3 q4)), .second, .val (.long (v0_2 q1 q2 q3 q4)), .second, .val (.long (v0_3 q1 q2 q3 q4)), .second, .val (.ref b4), .val (.int (v0_7 q1 q2 q3 q4)), .val (.int (v0_9 q1 q2 q3 q4)), .val (.int (v0_11 q1 q2 q3 q4)), .val (.int (v0_13 q1 q2 q3 q4)), .val (.int (v0_15 q1 q2 q3 q4)), .val (.int (v0_17 q1 q2 q3 q4)), .val (.int (v0_19 q1 q2 q3 q4)), .val (.int (v0_22 q1 q2 q3 q4)), .val (.long (v0_25 q1 q2 q3 q4)), .second, .val (.int (v0_28 q1 q2 q3 q4)), .val (.long (v0_31 q1 q2 q3 q4)), .second, .val (.int (v0_34 q1 q2 q3 q4)), .val (.int (v0_37 q1 q2 q3 q4)), .val (.int (v0_41 q1 q2 q3 q4)), .val (.int (v0_45 q1 q2 q3 q4))] [(.int (0 : Int32))])
    have u_f0 : (f0 q1 q2 q3 q4) = (0 : Int32) := by rw [f0, if_neg c46]
    have fin : Q0 Z q1 q2 q3 q4 h0 n0 (some (.int (f0 q1 q2 q3 q4))) T16.heap L16 := ⟨rfl, N, K⟩
    exact Go.retN X44 hx hret (Or.inl rfl) (hb hby at_262) hlk (Eq.trans rfl u_f0.symm) (fun t ht fe => hW t _ _ _ _ (by rw [ht, e44]; exact fin) fe (by decide) (by decide))
set_option maxRecDepth 65536 in
set_option maxHeartbeats 40000000 in
theorem comes_1 {Post : Tables → Env → Array Value → State → Outcome → State → Prop} (hpost : ∀ tb e args s v u, (limb_1_1.after args s (.returned v) u = true ∧ limb_1_2.after args s (.returned v) u = true ∧ True) → FrameEnd s (.returned v) u (Jvm.fieldLocs frame_1_writes args s ++ Jvm.arrayLocs frame_1_arrays args s ++ Jvm.staticLocs frame_1_statics s) 16 128 → Post tb e args s (.returned v) u) :
    ArmFor flags0 classFile x code maxLocals ret World_1 tables_1 room_1 Calls_1 rest_1 Pre_1 Post := by
  intro l hfl _ _ p e ha hc hk s m args below hf hA hF happ hP
  obtain ⟨hcalls, hrest, hpre⟩ := hP
  obtain ⟨-, -, -, hnamed, -, -, -, hat⟩ := (Spec.applies_iff hf).mp happ
  obtain ⟨hg, hn⟩ := and_e (Cond.before_iff.mp (show (Jvm.Cond.and given_1 narrow_1).before args s = true from hpre))
  obtain ⟨g0, y0⟩ := and_e hg
  obtain ⟨x0, y1⟩ := and_e y0
  obtain ⟨x1, y2⟩ := and_e y1
  obtain ⟨x2, y3⟩ := and_e y2
  obtain ⟨w0, w1, w2, w3, rfl⟩ : ∃ w0 w1 w2 w3 : Value, args = #[w0, w1, w2, w3] := by
    have hs : args.size = 4 := by simpa [Cond.value, given_1] using g0
    obtain ⟨L⟩ := args
    match L, hs with
    | [w0, w1, w2, w3], _ => exact ⟨w0, w1, w2, w3, rfl⟩
  have hw := fun d (hd : d ∈ tables_1) => atoms_spec (ws := Jvm.Cond.code x code maxLocals ret :: tables_1) hat d (List.mem_cons_of_mem _ hd)
  obtain ⟨i0, ei0⟩ := isL_v x0
  obtain rfl : w0 = (.long i0) := Option.some.inj ei0
  obtain ⟨i1, ei1⟩ := isL_v x1
  obtain rfl : w1 = (.long i1) := Option.some.inj ei1
  obtain ⟨i2, ei2⟩ := isL_v x2
  obtain rfl : w2 = (.long i2) := Option.some.inj ei2
  obtain ⟨i3, ei3⟩ := isL_v y3
  obtain rfl : w3 = (.long i3) := Option.some.inj ei3
  obtain ⟨n, o, h1, h2, h3, _, L, rfl, ⟨rfl, N, -⟩, hq⟩ := rm0 l s _ hw tables_1 i0 i1 i2 i3 s.heap s.heap.size (Nat.le_refl _) p e ha hc hk s m _ below hf ((Spec.applies_iff_loose hf).mp happ).1 ⟨rfl, State.Warmed39.refl s, rfl⟩ trivial
  rw [own_law i0 i1 i2 i3] at h3 hq
  refine ⟨n, _, h1, h2, h3, hpost _ _ _ _ _ _ ⟨Cond.after_iff.mpr rfl, Cond.after_iff.mpr (eq_i res_at (Term.int_eval (1)) rfl), trivial⟩ ⟨hq.1, hq.2.1, (hq.2.2.sift fun y hy => Or.inr (N y hy)).mono (by decide) (by decide)⟩⟩
theorem main_1_1 : Claimed_1_1 := comes_1 fun _ _ _ _ _ _ h hF => ⟨h.1, hF⟩
theorem main_1_2 : Claimed_1_2 := comes_1 fun _ _ _ _ _ _ h hF => ⟨h.2.1, hF⟩
end Jvm.Pilot.@@N@@
namespace Jvm.Pilot.@@N@@
open Jvm Jvm.ClassFile Sem Op Lib Jvm.Free Jvm.Stand Jvm.Pilot.@@N@@.Jvm.D
/-! MADE BY PROGRAM (witnessworld.py) out of the Statement's table words and the real class files: 9 classes; the members and pool entries that the words name. The judged class is class 1, her method 1. -/
namespace start1
open Jvm.ClassFile
def u (s : String) : CpInfo := .utf8 (stringToUtf16 s)
/-- a pool by its gaps: so many unusable entries, then the entry; so many at the end -/
def gap : Nat → List CpInfo → List CpInfo
  | 0, r => r
  | n + 1, r => .unusable :: gap n r
def poolList (es : List (Nat × CpInfo)) (last : Nat) : List CpInfo := es.foldr (fun e r => gap e.1 (e.2 :: r)) (gap last [])
def pool (es : List (Nat × CpInfo)) (last : Nat) : Array CpInfo := ⟨poolList es last⟩
def fileOf (pool : Array CpInfo) (this : Nat) (attrs : Array Attribute := #[]) (ms : Array MethodInfo := #[]) (fl : Nat := 33) (sup : Nat := 0) (ifs : Array Nat := #[]) (fds : Array FieldInfo := #[]) : ClassFile where
  minorVersion := 0
  majorVersion := 65
  constantPool := pool
  accessFlags := fl
  thisClass := this
  superClass := sup
  interfaces := ifs
  fields := fds
  methods := ms
  attributes := attrs
def plain (name : String) (sup : Option ClassId) : Class where
  name := name
  kind := .ordinary
  loader := none
  accessFlags := 33
  super := sup
  interfaces := #[]
  cf := none
  fields := #[]
  methods := #[]
  instanceTypes := #[]
  staticTypes := #[]
  resolved := #[]
  callSites := []
  init := .initialized
  statics := none
  mirror := none

def pool0 : Array CpInfo := pool [(5, u "<init>"), (0, u "()V"), (1, .class_ 10), (1, u "java/lang/Object")] 113

def k0c0 : Code := { maxStack := 0, maxLocals := 1, code := object_method_1_code, exceptionTable := #[], attributes := #[] }
def k0m0 : Method := { name := "<init>", desc := "()V", sig := { parameters := [], returnType := none }, accessFlags := 1, code := some k0c0 }
/-- java/lang/Object -/
def k0 : Class := { plain "java/lang/Object" none with
  accessFlags := 33
  interfaces := #[]
  cf := some (fileOf pool0 8 #[] #[{ accessFlags := 1, nameIndex := 5, descriptorIndex := 6, attributes := #[] }] 33 0 #[] #[])
  fields := #[]
  methods := #[k0m0]
  instanceTypes := #[]
  staticTypes := #[]
  resolved := Array.replicate 124 none
  statics := none }

def pool1 : Array CpInfo := pool [(2, .class_ 4), (1, u "java/lang/Object"), (0, u "<init>"), (0, u "()V"), (2, .long 9223372036854775807), (1, .class_ 12), (0, u "com/example/redefine/redefine/assessment/PatternWork"), (0, .methodref 11 14), (0, .nameAndType 5 15), (0, u "(J)V"), (0, .methodref 11 17), (0, .nameAndType 18 19), (0, u "isSpent"), (0, u "()Z"), (0, .methodref 11 21), (0, .nameAndType 22 23), (0, u "take"), (0, u "(J)Z"), (0, .class_ 25), (0, u "com/example/redefine/redefine/assessment/PatternWorkTakePinLaw"), (2, u "law"), (0, u "(JJJJ)Z")] 3

def k1m0 : Method := { name := "<init>", desc := "()V", sig := { parameters := [], returnType := none }, accessFlags := 1, code := none }
def k1c1 : Code := { maxStack := 4, maxLocals := 32, code := code, exceptionTable := #[], attributes := #[] }
def k1m1 : Method := { name := "law", desc := "(JJJJ)Z", sig := { parameters := [.long, .long, .long, .long], returnType := some .boolean }, accessFlags := 9, code := some k1c1 }
/-- com/example/redefine/redefine/assessment/PatternWorkTakePinLaw -/
def k1 : Class := { plain "com/example/redefine/redefine/assessment/PatternWorkTakePinLaw" (some 0) with
  accessFlags := 49
  interfaces := #[]
  cf := some (fileOf pool1 24 #[] #[{ accessFlags := 1, nameIndex := 5, descriptorIndex := 6, attributes := #[] }, { accessFlags := 9, nameIndex := 28, descriptorIndex := 29, attributes := #[] }] 49 2 #[] #[])
  fields := #[]
  methods := #[k1m0, k1m1]
  instanceTypes := #[]
  staticTypes := #[]
  resolved := Array.replicate 33 none
  statics := none }

def pool2 : Array CpInfo := pool [(1, .class_ 2), (0, u "com/example/redefine/redefine/assessment/PatternWork"), (4, u "<init>"), (0, u "(J)V"), (0, .methodref 10 11), (0, .class_ 12), (0, .nameAndType 7 13), (0, u "java/lang/Object"), (0, u "()V"), (0, .fieldref 1 15), (0, .nameAndType 16 17), (0, u "bounded"), (0, u "Z"), (0, .fieldref 1 19), (0, .nameAndType 20 21), (0, u "left"), (0, u "J"), (0, .fieldref 1 23), (0, .nameAndType 24 17), (0, u "spent"), (5, u "UNBOUNDED"), (0, u "Lcom/example/redefine/redefine/assessment/PatternWork;"), (0, u "LIMIT"), (3, u "take"), (0, u "(J)Z"), (1, u "isSpent"), (0, u "()Z")] 3

def k2m0 : Method := { name := "<init>", desc := "()V", sig := { parameters := [], returnType := none }, accessFlags := 0, code := none }
def k2c1 : Code := { maxStack := 3, maxLocals := 3, code := prog_137_method_2_code, exceptionTable := #[], attributes := #[] }
def k2m1 : Method := { name := "<init>", desc := "(J)V", sig := { parameters := [.long], returnType := none }, accessFlags := 0, code := some k2c1 }
def k2c2 : Code := { maxStack := 5, maxLocals := 4, code := prog_137_method_4_code, exceptionTable := #[], attributes := #[] }
def k2m2 : Method := { name := "take", desc := "(J)Z", sig := { parameters := [.long], returnType := some .boolean }, accessFlags := 0, code := some k2c2 }
def k2c3 : Code := { maxStack := 1, maxLocals := 1, code := prog_137_method_5_code, exceptionTable := #[], attributes := #[] }
def k2m3 : Method := { name := "isSpent", desc := "()Z", sig := { parameters := [], returnType := some .boolean }, accessFlags := 0, code := some k2c3 }
/-- com/example/redefine/redefine/assessment/PatternWork -/
def k2 : Class := { plain "com/example/redefine/redefine/assessment/PatternWork" (some 0) with
  accessFlags := 49
  interfaces := #[]
  cf := some (fileOf pool2 1 #[] #[{ accessFlags := 0, nameIndex := 7, descriptorIndex := 13, attributes := #[] }, { accessFlags := 0, nameIndex := 7, descriptorIndex := 8, attributes := #[] }, { accessFlags := 0, nameIndex := 36, descriptorIndex := 37, attributes := #[] }, { accessFlags := 0, nameIndex := 39, descriptorIndex := 40, attributes := #[] }] 49 10 #[] #[{ accessFlags := 25, nameIndex := 32, descriptorIndex := 21, attributes := #[] }, { accessFlags := 24, nameIndex := 30, descriptorIndex := 31, attributes := #[] }, { accessFlags := 18, nameIndex := 16, descriptorIndex := 17, attributes := #[] }, { accessFlags := 2, nameIndex := 20, descriptorIndex := 21, attributes := #[] }, { accessFlags := 2, nameIndex := 24, descriptorIndex := 17, attributes := #[] }])
  fields := #[{ name := "LIMIT", type := .long, accessFlags := 25, slot := 0, constantValue := 0 }, { name := "UNBOUNDED", type := (.object "com/example/redefine/redefine/assessment/PatternWork"), accessFlags := 24, slot := 1, constantValue := 0 }, { name := "bounded", type := .boolean, accessFlags := 18, slot := 0, constantValue := 0 }, { name := "left", type := .long, accessFlags := 2, slot := 1, constantValue := 0 }, { name := "spent", type := .boolean, accessFlags := 2, slot := 2, constantValue := 0 }]
  methods := #[k2m0, k2m1, k2m2, k2m3]
  instanceTypes := #[.boolean, .long, .boolean]
  staticTypes := #[.long, (.object "com/example/redefine/redefine/assessment/PatternWork")]
  resolved := Array.replicate 44 none
  statics := none }

def pool3 : Array CpInfo := pool [(1, u "java/lang/Cloneable"), (0, .class_ 1), (0, u "java/lang/Object"), (0, .class_ 3)] 3

/-- java/lang/Cloneable -/
def k3 : Class := { plain "java/lang/Cloneable" (some 0) with
  accessFlags := 1537
  interfaces := #[]
  cf := some (fileOf pool3 2 #[] #[] 1537 4 #[] #[])
  fields := #[]
  methods := #[]
  instanceTypes := #[]
  staticTypes := #[]
  resolved := Array.replicate 8 none
  statics := none }

def pool4 : Array CpInfo := pool [(1, u "java/io/Serializable"), (0, .class_ 1), (0, u "java/lang/Object"), (0, .class_ 3)] 3

/-- java/io/Serializable -/
def k4 : Class := { plain "java/io/Serializable" (some 0) with
  accessFlags := 1537
  interfaces := #[]
  cf := some (fileOf pool4 2 #[] #[] 1537 4 #[] #[])
  fields := #[]
  methods := #[]
  instanceTypes := #[]
  staticTypes := #[]
  resolved := Array.replicate 8 none
  statics := none }

/-- the primitive byte -/
def k5 : Class := { plain "byte" none with kind := .primitive 'B', accessFlags := 0x411 }
/-- [B -/
def k6 : Class := { plain "[B" (some 0) with kind := .array 5 .byte, interfaces := #[3, 4], accessFlags := 1041 }

/-- the primitive int -/
def k7 : Class := { plain "int" none with kind := .primitive 'I', accessFlags := 0x411 }
/-- [I -/
def k8 : Class := { plain "[I" (some 0) with kind := .array 7 .int, interfaces := #[3, 4], accessFlags := 1041 }

def heap : Heap := #[]
def classes : Array Class := #[k0, k1, k2, k3, k4, k5, k6, k7, k8]
def interned : List (Array UInt16 × Addr) := []
def slotsUsed : Nat := 0
def theMethod : MethodId := ⟨1, 1⟩
def args0 : Array Value := #[.long 5, .long 7, .long 1, .long 3]
def aboutOver (below : List Frame) : State where
  vm := { classes := classes, interned := interned.toArray }
  heap := heap
  slotsUsed := slotsUsed
  threads := #[{ frames := .invoking theMethod args0 :: below }]
def below0 : List Frame := [.native { method := ⟨0, 0⟩, args := #[] }]
def about1 : State := aboutOver below0
def p0 : Program := .bare "" "" ""
def e0 : Env := launch0.env 0 0 0
theorem w_frames : about1.frames = Frame.invoking theMethod args0 :: below0 := rfl
set_option maxRecDepth 65536 in
theorem w_args : argsFit about1.vm theMethod args0 = true := by decide +kernel
set_option maxRecDepth 65536 in
theorem w_heap : heapFits about1 = true := by decide +kernel
set_option maxRecDepth 65536 in
theorem w_runnable : about1.curStatus? = some .runnable := by decide +kernel
set_option maxRecDepth 65536 in
theorem w_alone : about1.alone = true := by decide +kernel
set_option maxRecDepth 65536 in
theorem w_named : about1.methodNamed? x = some theMethod := by decide +kernel
set_option maxRecDepth 65536 in
theorem w_hears : about1.hears theMethod below0 = true := by decide +kernel
set_option maxRecDepth 65536 in
theorem w_ripe : about1.ripe theMethod args0 below0 = true := by decide +kernel
theorem w_running : about1.status = .running := rfl
set_option maxRecDepth 65536 in
theorem w_room : about1.hasRoom e0.platform room_1 = true :=
  launch0.hasRoom_least _ room_1 (by decide +kernel) (by decide +kernel) (by decide +kernel) (by decide +kernel) (by decide +kernel) (by decide +kernel)
theorem allAtoms_all (ts : List Jvm.Cond) (a : Array Jvm.Value) (st : Jvm.State) : (allAtoms ts).before a st = ts.all (fun c => c.before a st) := by
  induction ts with
  | nil => rfl
  | cons c t ih =>
    show (Jvm.Cond.and c (allAtoms t)).before a st = _
    rw [Jvm.Cond.before_and, ih, List.all_cons]
def words1 : List Jvm.Cond := Jvm.Cond.code x code maxLocals ret :: tables_1
/-- a 'code' word, met by the world's own term for the bytes: nothing is compared byte by byte -/
theorem code_word {y : MethodName} {bytes : ByteArray} {mx : Nat} {rt : Option FieldType} {a : Array Value} {s : State} {m : MethodId} {meth : Method} {c : Code} (h1 : s.methodNamed? y = some m) (h2 : s.vm.method? m = some meth) (h3 : meth.code = some c) (h4 : c.code = bytes)
    (h5 : (c.maxLocals == mx && c.exceptionTable.isEmpty && decide (c.maxStack ≤ mostOperands) && decide (meth.sig.returnType = rt) && !meth.locks && decide (parseMethodDescriptor y.desc = some meth.sig)) = true) : (Jvm.Cond.code y bytes mx rt).before a s = true := by
  simp only [Bool.and_eq_true, beq_iff_eq, Bool.not_eq_true', decide_eq_true_eq] at h5
  obtain ⟨⟨⟨⟨⟨g1, g2⟩, g3⟩, g4⟩, g5⟩, g6⟩ := h5
  simp [Cond.before, Cond.holds, Cond.value, h1, h2, h3, h4, g1, g2, g3, g4, g5, g6]
def isCode : Jvm.Cond → Bool
  | .code _ _ _ _ => true
  | _ => false
theorem all_split {L : List Jvm.Cond} {P : Jvm.Cond → Bool} (h1 : L.all (fun c => isCode c || P c) = true) (h2 : ∀ c ∈ L.filter isCode, P c = true) : L.all P = true := by
  refine List.all_eq_true.mpr fun c hc => ?_
  have h := List.all_eq_true.mp h1 c hc
  rcases Bool.eq_false_or_eq_true (isCode c) with hi | hi
  · exact h2 c (List.mem_filter.mpr ⟨hc, hi⟩)
  · simpa [hi] using h
set_option maxRecDepth 65536 in
theorem w_c0 : (Jvm.Cond.code x code maxLocals ret).before args0 about1 = true := code_word (m := ⟨1, 1⟩) (meth := k1m1) (c := k1c1) (by decide +kernel) rfl rfl rfl (by decide +kernel)
set_option maxRecDepth 65536 in
theorem w_c1 : (Jvm.Cond.code ({ cls := "com/example/redefine/redefine/assessment/PatternWork", name := "<init>", desc := "(J)V" } : Jvm.MethodName) prog_137_method_2_code (3 : Nat) (Option.none : Option Jvm.ClassFile.FieldType)).before args0 about1 = true := code_word (m := ⟨2, 1⟩) (meth := k2m1) (c := k2c1) (by decide +kernel) rfl rfl rfl (by decide +kernel)
set_option maxRecDepth 65536 in
theorem w_c2 : (Jvm.Cond.code ({ cls := "java/lang/Object", name := "<init>", desc := "()V" } : Jvm.MethodName) object_method_1_code (1 : Nat) (Option.none : Option Jvm.ClassFile.FieldType)).before args0 about1 = true := code_word (m := ⟨0, 0⟩) (meth := k0m0) (c := k0c0) (by decide +kernel) rfl rfl rfl (by decide +kernel)
set_option maxRecDepth 65536 in
theorem w_c3 : (Jvm.Cond.code ({ cls := "com/example/redefine/redefine/assessment/PatternWork", name := "isSpent", desc := "()Z" } : Jvm.MethodName) prog_137_method_5_code (1 : Nat) (Option.some Jvm.ClassFile.FieldType.boolean)).before args0 about1 = true := code_word (m := ⟨2, 3⟩) (meth := k2m3) (c := k2c3) (by decide +kernel) rfl rfl rfl (by decide +kernel)
set_option maxRecDepth 65536 in
theorem w_c4 : (Jvm.Cond.code ({ cls := "com/example/redefine/redefine/assessment/PatternWork", name := "take", desc := "(J)Z" } : Jvm.MethodName) prog_137_method_4_code (4 : Nat) (Option.some Jvm.ClassFile.FieldType.boolean)).before args0 about1 = true := code_word (m := ⟨2, 2⟩) (meth := k2m2) (c := k2c2) (by decide +kernel) rfl rfl rfl (by decide +kernel)
def codes1 : List Jvm.Cond := [Jvm.Cond.code x code maxLocals ret, Jvm.Cond.code ({ cls := "com/example/redefine/redefine/assessment/PatternWork", name := "<init>", desc := "(J)V" } : Jvm.MethodName) prog_137_method_2_code (3 : Nat) (Option.none : Option Jvm.ClassFile.FieldType), Jvm.Cond.code ({ cls := "java/lang/Object", name := "<init>", desc := "()V" } : Jvm.MethodName) object_method_1_code (1 : Nat) (Option.none : Option Jvm.ClassFile.FieldType), Jvm.Cond.code ({ cls := "com/example/redefine/redefine/assessment/PatternWork", name := "isSpent", desc := "()Z" } : Jvm.MethodName) prog_137_method_5_code (1 : Nat) (Option.some Jvm.ClassFile.FieldType.boolean), Jvm.Cond.code ({ cls := "com/example/redefine/redefine/assessment/PatternWork", name := "take", desc := "(J)Z" } : Jvm.MethodName) prog_137_method_4_code (4 : Nat) (Option.some Jvm.ClassFile.FieldType.boolean)]
set_option maxRecDepth 65536 in
theorem codes_eq : words1.filter isCode = codes1 := rfl
theorem w_codes : ∀ c ∈ words1.filter isCode, c.before args0 about1 = true := by
  rw [codes_eq]
  intro c hc
  simp only [codes1, List.mem_cons, List.not_mem_nil, or_false] at hc
  rcases hc with rfl | rfl | rfl | rfl | rfl
  · exact w_c0
  · exact w_c1
  · exact w_c2
  · exact w_c3
  · exact w_c4
set_option maxRecDepth 65536 in
theorem w_t1 : (words1.take 24).all (fun c => isCode c || c.before args0 about1) = true := by decide +kernel
set_option maxRecDepth 65536 in
theorem w_t2 : (words1.drop 24).all (fun c => isCode c || c.before args0 about1) = true := by decide +kernel
theorem w_tables : (allAtoms (Jvm.Cond.code x code maxLocals ret :: tables_1)).before args0 about1 = true := by
  rw [allAtoms_all]
  show words1.all (fun c => c.before args0 about1) = true
  refine all_split ?_ w_codes
  rw [← List.take_append_drop 24 words1, List.all_append, w_t1, w_t2]
  rfl
set_option maxRecDepth 65536 in
theorem w_case : (Jvm.Cond.and given_1 narrow_1).before args0 about1 = true := by decide +kernel
theorem w_applies : (headSpec (Jvm.Cond.code x code maxLocals ret :: tables_1) room_1).applies x e0.platform about1 = true :=
  (Spec.applies_iff w_frames).mpr ⟨w_running, w_runnable, w_alone, w_named, w_hears, w_ripe, w_room, w_tables⟩
theorem atStart : AtStart classFile x code maxLocals ret World_1 tables_1 room_1 Calls_1 rest_1 Pre_1 launch0 p0 e0 about1 theMethod args0 below0 :=
  ⟨lists_1, trivial, launch0.admits_env _ _ _, launch0.least_env, fairChoices_fair.cas, fairChoices_fair.clock, w_frames, w_args, w_heap, w_applies, trivial, trivial, w_case⟩
end start1
theorem witness_1 : WitnessClaimed_1 := ⟨start1.p0, start1.e0, start1.about1, start1.theMethod, start1.args0, start1.below0, start1.atStart⟩
end Jvm.Pilot.@@N@@
