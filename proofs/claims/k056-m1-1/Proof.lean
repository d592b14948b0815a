import JvmDerived
import JvmDerived.Pilot.@@N@@Statement
import JvmDerived.Pilot.@@N@@Code
set_option linter.unusedVariables false
set_option linter.unusedSimpArgs false
namespace Jvm.Pilot.@@N@@
open Jvm Jvm.ClassFile Sem Op Lib Jvm.Free Jvm.Stand Jvm.LawKit Jvm.RoadKit Bundle Jvm.Pilot.@@N@@.Jvm.D
section OwnKit
variable {p : Program} {l : Launch} {e : Env} {R : Room} {s : State} {m : MethodId} {args : Array Value} {below : List Frame} {meth : Method} {c : Code} {T : State} {locs : List Loc} {cells slots : Nat} {Z : State} {a0 : Array Value} {h : Heap} {W : State → Outcome → Prop}
/-- what a walk owes from a frame on -/
def Go (p : Program) (e : Env) (below : List Frame) (W : State → Outcome → Prop) (T : State) (g : JFrame) : Prop := ∃ t o, Steps p.tables e below (T.setTop g) t ∧ t.status = .running ∧ Ended t below o ∧ W t o
theorem Go.of {T T' : State} {g g' : JFrame} (q : ∀ t, Steps p.tables e below (T'.setTop g') t → Steps p.tables e below (T.setTop g) t) (k : Go p e below W T' g') : Go p e below W T g := by
  obtain ⟨t, o, h1, h2⟩ := k
  exact ⟨t, o, q t h1, h2⟩
theorem Go.ret (X : Stand p l e R s m args below meth c T locs cells slots) {g : JFrame} {v : Option Value} (hv : meth.sig.returnType = none → v = none) (hk : meth.locks = false)
    (st : ∀ fs, (∀ (f : JFrame) (acts : List Action), f.method = m → f.locked = none → f.entered = [] → (doReturn e (T.setTop f) acts v).1 = T.setFrames fs) → Steps p.tables e below (T.setTop g) (T.setFrames fs))
    (hq : ∀ t : State, t.heap = T.heap → FrameEnd s (.returned v) t locs cells slots → W t (.returned v)) : Go p e below W T g := by
  obtain ⟨fs, hr, hrun, hended, hW, hsame⟩ := X.leave (v := v) hv hk
  exact ⟨_, _, st fs hr, hrun, hended, hq _ rfl ⟨⟨_, rfl⟩, hW, hsame⟩⟩
/-- ireturn of a boolean, byte, char, short -/
theorem Go.retN (X : Stand p l e R s m args below meth c T locs cells slots) (hx : p.tables.exec = Jvm.exec) {pc : Nat} {Ls : Array Slot} {z w : Int32} {t : FieldType} {rest : List Value} (hret : meth.sig.returnType = some t) (ht : t = .boolean ∨ t = .byte ∨ t = .char ∨ t = .short) (hd : decode c.code pc = .ok (.ireturn, 1)) (hk : meth.locks = false) (hn : nar t z = w)
    (hq : ∀ t : State, t.heap = T.heap → FrameEnd s (.returned (some (.int w))) t locs cells slots → W t (.returned (some (.int w)))) : Go p e below W T (mkF m pc Ls (.int z :: rest)) := by
  subst hn
  exact Go.ret X (fun q => by rw [hret] at q; cases q) hk (fun fs hr => Jvm.RoadKit.retN X hx hret ht hd hr) hq
theorem Go.retI (X : Stand p l e R s m args below meth c T locs cells slots) (hx : p.tables.exec = Jvm.exec) {pc : Nat} {Ls : Array Slot} {z w : Int32} {rest : List Value} (hret : meth.sig.returnType = some .int) (hd : decode c.code pc = .ok (.ireturn, 1)) (hk : meth.locks = false) (hn : z = w)
    (hq : ∀ t : State, t.heap = T.heap → FrameEnd s (.returned (some (.int w))) t locs cells slots → W t (.returned (some (.int w)))) : Go p e below W T (mkF m pc Ls (.int z :: rest)) := by
  subst hn
  exact Go.ret X (fun q => by rw [hret] at q; cases q) hk (fun fs hr => retOut X hx hret rfl (Or.inl ⟨rfl, Or.inl rfl, z, rfl⟩) hd hr) hq
theorem Go.retJ (X : Stand p l e R s m args below meth c T locs cells slots) (hx : p.tables.exec = Jvm.exec) {pc : Nat} {Ls : Array Slot} {z w : Int64} {rest : List Value} (hret : meth.sig.returnType = some .long) (hd : decode c.code pc = .ok (.lreturn, 1)) (hk : meth.locks = false) (hn : z = w)
    (hq : ∀ t : State, t.heap = T.heap → FrameEnd s (.returned (some (.long w))) t locs cells slots → W t (.returned (some (.long w)))) : Go p e below W T (mkF m pc Ls (.long z :: rest)) := by
  subst hn
  exact Go.ret X (fun q => by rw [hret] at q; cases q) hk (fun fs hr => retOut X hx hret rfl (Or.inr (Or.inl ⟨rfl, rfl, z, rfl⟩)) hd hr) hq
theorem Go.retA (X : Stand p l e R s m args below meth c T locs cells slots) (hx : p.tables.exec = Jvm.exec) {pc : Nat} {Ls : Array Slot} {t : FieldType} {a : Addr} {rest : List Value} (hret : meth.sig.returnType = some t) (ht : t.isReference = true) (hnr : narrow t (.ref a) = .ref a) (hd : decode c.code pc = .ok (.areturn, 1)) (hk : meth.locks = false)
    (hq : ∀ t : State, t.heap = T.heap → FrameEnd s (.returned (some (.ref a))) t locs cells slots → W t (.returned (some (.ref a)))) : Go p e below W T (mkF m pc Ls (.ref a :: rest)) :=
  Go.ret X (fun q => by rw [hret] at q; cases q) hk (fun fs hr => retOut X hx hret hnr (Or.inr (Or.inr (Or.inr (Or.inr ⟨rfl, ht, rfl⟩)))) hd hr) hq
theorem Go.retV (X : Stand p l e R s m args below meth c T locs cells slots) (hx : p.tables.exec = Jvm.exec) {pc : Nat} {Ls : Array Slot} (hret : meth.sig.returnType = none) (hd : decode c.code pc = .ok (.return_, 1)) (hk : meth.locks = false)
    (hq : ∀ t : State, t.heap = T.heap → FrameEnd s (.returned none) t locs cells slots → W t (.returned none)) : Go p e below W T (mkF m pc Ls []) :=
  Go.ret X (fun _ => rfl) hk (fun fs hr => X.returnOut hx hret hd hr) hq
/-- a body's contract out of its walk -/
theorem own_body {y : MethodName} {bytes : ByteArray} {maxL : Nat} {ret : Option FieldType} {ws : List Jvm.Cond} {rm : Room} {as' : Array Value} {Q : Option Value → Heap → List Loc → Prop} {Ls : Array Slot} (hpn : plainFor y = true) (hef : ∀ m, entryFrame m as' maxL = mkF m 0 Ls [])
    (walk : ∀ (p : Program) (e : Env) (s : State) (m : MethodId) (below : List Frame) (meth : Method) (c : Code) (T : State) (W : State → Outcome → Prop), Stand p l e rm s m as' below meth c T [] 0 0 → p.tables.exec = Jvm.exec → c.code = bytes → c.maxLocals = maxL → meth.sig.returnType = ret → meth.locks = false → s.vm.findClass y.cls = some m.cls → meth.name = y.name → Z.Warmed39 s.vm → T.heap = h →
      (∀ (t : State) v L cells slots, Q v t.heap L → FrameEnd s (.returned v) t L cells slots → cells ≤ rm.cells → slots ≤ rm.slots → W t (.returned v)) → Go p e below W T (mkF m 0 Ls [])) :
    MetFree l y (head1 (Jvm.Cond.code y bytes maxL ret :: ws) rm) (fun a U => a = as' ∧ Z.Warmed39 U.vm ∧ U.heap = h) (fun _ _ _ _ _ => True) (fun _ U o U' => ∃ v L, o = .returned v ∧ Q v U'.heap L ∧ FrameEnd U o U' L rm.cells rm.slots) := by
  refine MetFree.of_bodySF hpn hisR ?_
  intro p e s m args below meth c s₁ Bd hml hP hK
  obtain ⟨rfl, hZ, hh⟩ := hP
  obtain ⟨t, o, h1, h2, h3, h4⟩ := walk p e s m below meth c s₁ (fun t o => ∃ v L, o = .returned v ∧ Q v t.heap L ∧ FrameEnd s o t L rm.cells rm.slots) (Stand.of_body Bd) Bd.exec Bd.bytes hml Bd.returns (BodyLoose.notSynchronized Bd) (findClass_of_methodNamed Bd.named) (name_of_methodNamed Bd.named Bd.method).1 hZ (by rw [← hh, Bd.state]; rfl)
    (fun t v L cells slots hQ hF hc hs => ⟨v, L, rfl, hQ, hF.1, hF.2.1, hF.2.2.mono hc hs⟩)
  exact ⟨t, o, castTop (hef m) h1, h2, h3, h4⟩
/-- a contract, written short -/
abbrev Con (l : Launch) (Z : State) (y : MethodName) (bytes : ByteArray) (maxL : Nat) (ret : Option FieldType) (ws : List Jvm.Cond) (rm : Room) (as' : Array Value) (h : Heap) (Q : Option Value → Heap → List Loc → Prop) : Prop :=
  MetFree l y (head1 (Jvm.Cond.code y bytes maxL ret :: ws) rm) (fun a U => a = as' ∧ Z.Warmed39 U.vm ∧ U.heap = h) (fun _ _ _ _ _ => True) (fun _ U o U' => ∃ v L, o = .returned v ∧ Q v U'.heap L ∧ FrameEnd U o U' L rm.cells rm.slots)
/-- what a callee that leaves the heap as it is says -/
def PQ (w : Value) (h0 : Heap) (v : Option Value) (h : Heap) (L : List Loc) : Prop := v = some w ∧ L = [] ∧ h = h0
theorem Go.callS (X : Stand p l e R s m args below meth c T locs cells slots) (hx : p.tables.exec = Jvm.exec) (hZ : Z.Warmed39 s.vm) {own : String} {index : Nat} {y : MethodName} {bytes : ByteArray} {maxL : Nat} {ret : Option FieldType} {rm : Room} {as' : Array Value} {Q : Option Value → Heap → List Loc → Prop} (hown : s.vm.findClass own = some m.cls)
    (w1 : (Jvm.Cond.methodLink own index y).before a0 Z = true) (w2 : (Jvm.Cond.static y).before a0 Z = true) (w3 : (Jvm.Cond.initialized y.cls).before a0 Z = true) (w4 : (Jvm.Cond.code y bytes maxL ret).before a0 Z = true) (hy : y.cls ≠ "java/lang/invoke/MethodHandle" ∧ y.cls ≠ "java/lang/invoke/VarHandle") (eT : T.heap = h)
    (hM : Con l Z y bytes maxL ret [] rm as' h Q) {V : Nat} (hf : rm.frames + 1 ≤ R.frames) (hl : V + (maxL + 11) + rm.locals ≤ R.locals) (hc : cells + rm.cells ≤ R.cells) (hs : slots + rm.slots ≤ R.slots)
    {pc : Nat} {Ls : Array Slot} {st : List Value} (hsize : Ls.size = c.maxLocals) {argsL rest : List Value} (has : argsL.toArray = as') (hlen : ∀ sig, parseMethodDescriptor y.desc = some sig → argsL.length = sig.parameters.length) (hstack : st = argsL.reverse ++ rest) (hV : (rest.map fun v => v.category).sum ≤ V) (hd : decode c.code pc = .ok (.invokestatic index, 3))
    (K : ∀ T' v L, Q v T'.heap L → Stand p l e R s m args below meth c T' (locs ++ L) (cells + rm.cells) (slots + rm.slots) → Go p e below W T' (mkF m (pc + 3) Ls (v.toList ++ rest))) : Go p e below W T (mkF m pc Ls st) := by
  obtain ⟨v, vm₁, ⟨T', L', k', n'⟩, -, X', ⟨L, hQ, e1, e2, e3⟩, st'⟩ := Jvm.LawKit.callS X hx hown (mvT hZ w1) (mvT hZ w2) (mvT hZ w3) (mvT hZ w4) hy (backOf (W := V) hM hZ w4 w3 hf hl) (g := mkF m pc Ls st) rfl hsize hlen hstack (by show 2 * 0 + _ ≤ _; omega) hd (fun _ _ => ⟨has, eT, hc, hs⟩)
  dsimp only [Pt.U, Pt.locs, Pt.cells, Pt.slots] at X' e1 e2 e3 st' hQ
  subst e1 e2 e3
  exact Go.of st' (K _ _ _ hQ X')
theorem Go.callP (X : Stand p l e R s m args below meth c T locs cells slots) (hx : p.tables.exec = Jvm.exec) (hZ : Z.Warmed39 s.vm) {own : String} {index : Nat} {y : MethodName} {bytes : ByteArray} {maxL : Nat} {ret : Option FieldType} {rm : Room} {as' : Array Value} {w : Value} (hown : s.vm.findClass own = some m.cls)
    (w1 : (Jvm.Cond.methodLink own index y).before a0 Z = true) (w2 : (Jvm.Cond.static y).before a0 Z = true) (w3 : (Jvm.Cond.initialized y.cls).before a0 Z = true) (w4 : (Jvm.Cond.code y bytes maxL ret).before a0 Z = true) (hy : y.cls ≠ "java/lang/invoke/MethodHandle" ∧ y.cls ≠ "java/lang/invoke/VarHandle") (eT : T.heap = h)
    (hM : Con l Z y bytes maxL ret [] rm as' h (PQ w h)) {V : Nat} (hf : rm.frames + 1 ≤ R.frames) (hl : V + (maxL + 11) + rm.locals ≤ R.locals) (z1 : rm.cells = 0) (z2 : rm.slots = 0) (hc : cells ≤ R.cells) (hs : slots ≤ R.slots)
    {pc : Nat} {Ls : Array Slot} {st : List Value} (hsize : Ls.size = c.maxLocals) {argsL rest : List Value} (has : argsL.toArray = as') (hlen : ∀ sig, parseMethodDescriptor y.desc = some sig → argsL.length = sig.parameters.length) (hstack : st = argsL.reverse ++ rest) (hV : (rest.map fun v => v.category).sum ≤ V) (hd : decode c.code pc = .ok (.invokestatic index, 3))
    (K : ∀ T', Stand p l e R s m args below meth c T' locs cells slots → T'.heap = h → Go p e below W T' (mkF m (pc + 3) Ls (w :: rest))) : Go p e below W T (mkF m pc Ls st) := by
  refine Go.callS X hx hZ hown w1 w2 w3 w4 hy eT hM hf hl (by rw [z1]; exact hc) (by rw [z2]; exact hs) hsize has hlen hstack hV hd ?_
  rintro T' v L ⟨rfl, rfl, h3⟩ X'
  rw [z1, z2, List.append_nil] at X'
  exact K T' X' h3
end OwnKit
section OwnHeap
variable {p : Program} {l : Launch} {e : Env} {R : Room} {s : State} {m : MethodId} {args : Array Value} {below : List Frame} {meth : Method} {c : Code} {T : State} {locs : List Loc} {cells slots : Nat} {Z : State} {a0 : Array Value} {h h' : Heap} {W : State → Outcome → Prop}
/-- an array: its kind, its length, the ints in its places -/
def AI (Z : State) (h : Heap) (a : Addr) (ty : FieldType) (n : Nat) (f : Nat → Int32) : Prop := ∃ cl : Cell, Arr Z h a cl ty ∧ cl.slots.size = n ∧ n < 2 ^ 31 ∧ ∀ j, j < n → cl.slots[j]? = some (.int (f j)) ∧ fits ty (.int (f j)) = true
theorem AI.lt {a : Addr} {ty : FieldType} {n : Nat} {f : Nat → Int32} (A : AI Z h a ty n f) : a < h.size := by obtain ⟨cl, A, -⟩ := A; exact A.lt
theorem AI.small {a : Addr} {ty : FieldType} {n : Nat} {f : Nat → Int32} (A : AI Z h a ty n f) : n < 2 ^ 31 := by obtain ⟨cl, -, -, h, -⟩ := A; exact h
theorem AI.ext {a : Addr} {ty : FieldType} {n : Nat} {f : Nat → Int32} (A : AI Z h a ty n f) (E : Ext h h') : AI Z h' a ty n f := by obtain ⟨cl, A, r⟩ := A; exact ⟨cl, A.ext E, r⟩
theorem AI.other {a b : Addr} {ty : FieldType} {n sl : Nat} {f : Nat → Int32} {v : Value} (A : AI Z h b ty n f) (W : Wr h h' a sl v) (q : b ≠ a) : AI Z h' b ty n f := by obtain ⟨cl, A, r⟩ := A; exact ⟨cl, A.other W q, r⟩
theorem AI.keep {a : Addr} {ty : FieldType} {n : Nat} {f : Nat → Int32} {ws : List Addr} (A : AI Z h a ty n f) (K : Keep h h' ws) (q : a ∉ ws) : AI Z h' a ty n f := by obtain ⟨cl, A, r⟩ := A; exact ⟨cl, ⟨K.2.1 a cl A.1 q, A.2⟩, r⟩
theorem AI.congr {a : Addr} {ty : FieldType} {n : Nat} {f g : Nat → Int32} (A : AI Z h a ty n f) (q : ∀ j, j < n → f j = g j) : AI Z h a ty n g := by obtain ⟨cl, A, r1, r2, r3⟩ := A; exact ⟨cl, A, r1, r2, fun j hj => by rw [← q j hj]; exact r3 j hj⟩
def upd (f : Nat → Int32) (i : Nat) (x : Int32) : Nat → Int32 := fun j => if j = i then x else f j
theorem AI.set {a : Addr} {ty : FieldType} {n i : Nat} {f : Nat → Int32} {x : Int32} (A : AI Z h a ty n f) (W : Wr h h' a i (.int x)) (hv : fits ty (.int x) = true) : AI Z h' a ty n (upd f i x) := by
  obtain ⟨cl, A, r1, r2, r3⟩ := A
  refine ⟨_, A.same W, by rw [sz_set]; exact r1, r2, fun j hj => ?_⟩
  simp only [Cell.setSlot, upd]
  by_cases q : j = i
  · subst q; rw [if_pos rfl]; exact ⟨by simp [r1, hj], hv⟩
  · rw [if_neg q, Array.getElem?_setIfInBounds_ne (Ne.symm q)]; exact r3 j hj
/-- a place within the length -/
def PV (h0 : Heap) (v : Option Value) (h : Heap) (L : List Loc) : Prop := v = none ∧ L = [] ∧ h = h0
def inb (j : Int32) (n : Nat) : Prop := ¬ j < 0 ∧ j.toNatClampNeg < n
theorem inb.no {cl : Cell} {j : Int32} {n : Nat} (q : inb j n) (r : cl.slots.size = n) : ¬ (j < 0 ∨ cl.slots.size ≤ j.toNatClampNeg) := by rw [r]; exact fun z => z.elim q.1 (fun z => absurd q.2 (Nat.not_lt.mpr z))
theorem Go.alen (X : Stand p l e R s m args below meth c T locs cells slots) (hx : p.tables.exec = Jvm.exec) (hZ : Z.Warmed39 s.vm) (eT : T.heap = h) {a : Addr} {ty : FieldType} {n : Nat} {f : Nat → Int32} (A : AI Z h a ty n f) {pc : Nat} {Ls : Array Slot} {st : List Value} (hd : decode c.code pc = .ok (.arraylength, 1))
    (K : Go p e below W T (mkF m (pc + 1) Ls (.int n.toInt32 :: st))) : Go p e below W T (mkF m pc Ls (.ref a :: st)) := by
  obtain ⟨cl, A, r1, -⟩ := A
  subst r1
  exact Go.of (fun t k => X.arraylength hx (by rw [eT]; exact A.1) (State.isArrayOf_alike hZ.alike A.2.1) (g := mkF m pc Ls (.ref a :: st)) rfl rfl hd t k) K
theorem Go.iald (X : Stand p l e R s m args below meth c T locs cells slots) (hx : p.tables.exec = Jvm.exec) (hZ : Z.Warmed39 s.vm) (eT : T.heap = h) {a : Addr} {n : Nat} {f : Nat → Int32} (A : AI Z h a .int n f) {j : Int32} (hj : inb j n) {pc : Nat} {Ls : Array Slot} {st : List Value} (hd : decode c.code pc = .ok (.iaload, 1))
    (K : Go p e below W T (mkF m (pc + 1) Ls (.int (f j.toNatClampNeg) :: st))) : Go p e below W T (mkF m pc Ls (.int j :: .ref a :: st)) := by
  obtain ⟨cl, A, r1, -, r3⟩ := A
  exact Go.of (fun t k => X.iaload hx (j := j) (v := .int (f j.toNatClampNeg)) (by rw [eT]; exact A.1) (State.isArrayOf_alike hZ.alike A.2.1) A.2.2 (hj.no r1) (r3 _ hj.2).1 (g := mkF m pc Ls (.int j :: .ref a :: st)) rfl rfl hd t k) K
theorem Go.cald (X : Stand p l e R s m args below meth c T locs cells slots) (hx : p.tables.exec = Jvm.exec) (hZ : Z.Warmed39 s.vm) (eT : T.heap = h) {a : Addr} {n : Nat} {f : Nat → Int32} (A : AI Z h a .char n f) {j : Int32} (hj : inb j n) {pc : Nat} {Ls : Array Slot} {st : List Value} (hd : decode c.code pc = .ok (.caload, 1))
    (K : Go p e below W T (mkF m (pc + 1) Ls (.int (f j.toNatClampNeg) :: st))) : Go p e below W T (mkF m pc Ls (.int j :: .ref a :: st)) := by
  obtain ⟨cl, A, r1, -, r3⟩ := A
  exact Go.of (fun t k => X.caload hx (j := j) (v := .int (f j.toNatClampNeg)) (by rw [eT]; exact A.1) (State.isArrayOf_alike hZ.alike A.2.1) A.2.2 (hj.no r1) (r3 _ hj.2).1 (g := mkF m pc Ls (.int j :: .ref a :: st)) rfl rfl hd t k) K
theorem Go.bald (X : Stand p l e R s m args below meth c T locs cells slots) (hx : p.tables.exec = Jvm.exec) (hZ : Z.Warmed39 s.vm) (eT : T.heap = h) {a : Addr} {n : Nat} {f : Nat → Int32} (A : AI Z h a .byte n f) {j : Int32} (hj : inb j n) {pc : Nat} {Ls : Array Slot} {st : List Value} (hd : decode c.code pc = .ok (.baload, 1))
    (K : Go p e below W T (mkF m (pc + 1) Ls (.int (f j.toNatClampNeg) :: st))) : Go p e below W T (mkF m pc Ls (.int j :: .ref a :: st)) := by
  obtain ⟨cl, A, r1, -, r3⟩ := A
  exact Go.of (fun t k => X.baloadBytes hx (j := j) (v := .int (f j.toNatClampNeg)) (by rw [eT]; exact A.1) (State.isArrayOf_alike hZ.alike A.2.1) A.2.2 (hj.no r1) (r3 _ hj.2).1 (g := mkF m pc Ls (.int j :: .ref a :: st)) rfl rfl hd t k) K
theorem Go.zald (X : Stand p l e R s m args below meth c T locs cells slots) (hx : p.tables.exec = Jvm.exec) (hZ : Z.Warmed39 s.vm) (eT : T.heap = h) {a : Addr} {n : Nat} {f : Nat → Int32} (A : AI Z h a .boolean n f) {j : Int32} (hj : inb j n) {pc : Nat} {Ls : Array Slot} {st : List Value} (hd : decode c.code pc = .ok (.baload, 1))
    (K : Go p e below W T (mkF m (pc + 1) Ls (.int (f j.toNatClampNeg) :: st))) : Go p e below W T (mkF m pc Ls (.int j :: .ref a :: st)) := by
  obtain ⟨cl, A, r1, -, r3⟩ := A
  exact Go.of (fun t k => X.baloadBooleans hx (j := j) (v := .int (f j.toNatClampNeg)) (by rw [eT]; exact A.1) (State.isArrayOf_alike hZ.alike A.2.1) A.2.2 (hj.no r1) (r3 _ hj.2).1 (g := mkF m pc Ls (.int j :: .ref a :: st)) rfl rfl hd t k) K
theorem Go.ist (X : Stand p l e R s m args below meth c T locs cells slots) (hx : p.tables.exec = Jvm.exec) (hZ : Z.Warmed39 s.vm) (eT : T.heap = h) {n0 : Nat} (N : Fr n0 locs) {a : Addr} (ga : n0 ≤ a) {n : Nat} {f : Nat → Int32} (A : AI Z h a .int n f) {j x : Int32} (hj : inb j n) {pc : Nat} {Ls : Array Slot} {st : List Value} (hd : decode c.code pc = .ok (.iastore, 1))
    (K : ∀ T' h' L', Stand p l e R s m args below meth c T' L' cells slots → Fr n0 L' → T'.heap = h' → Wr h h' a j.toNatClampNeg (.int x) → AI Z h' a .int n (upd f j.toNatClampNeg x) → Go p e below W T' (mkF m (pc + 1) Ls st)) : Go p e below W T (mkF m pc Ls (.int x :: .int j :: .ref a :: st)) := by
  obtain ⟨cl, A', r1, r2, r3⟩ := id A
  obtain ⟨T', h', X', e', W', st'⟩ := stI X hx hZ eT A' (j := j) (hj.no r1) (g := mkF m pc Ls (.int x :: .int j :: .ref a :: st)) rfl rfl hd
  exact Go.of st' (K _ _ _ X' (Fr.snoc X' N ga) e' W' (A.set W' rfl))
theorem Go.bst (X : Stand p l e R s m args below meth c T locs cells slots) (hx : p.tables.exec = Jvm.exec) (hZ : Z.Warmed39 s.vm) (eT : T.heap = h) {n0 : Nat} (N : Fr n0 locs) {a : Addr} (ga : n0 ≤ a) {n : Nat} {f : Nat → Int32} (A : AI Z h a .byte n f) {j x : Int32} (hj : inb j n) {pc : Nat} {Ls : Array Slot} {st : List Value} (hd : decode c.code pc = .ok (.bastore, 1))
    (K : ∀ T' h' L', Stand p l e R s m args below meth c T' L' cells slots → Fr n0 L' → T'.heap = h' → Wr h h' a j.toNatClampNeg (.int (nar .byte x)) → AI Z h' a .byte n (upd f j.toNatClampNeg (nar .byte x)) → Go p e below W T' (mkF m (pc + 1) Ls st)) : Go p e below W T (mkF m pc Ls (.int x :: .int j :: .ref a :: st)) := by
  obtain ⟨cl, A', r1, r2, r3⟩ := id A
  obtain ⟨T', h', X', e', W', st'⟩ := stB X hx hZ eT A' (j := j) (hj.no r1) (g := mkF m pc Ls (.int x :: .int j :: .ref a :: st)) rfl rfl hd
  exact Go.of st' (K _ _ _ X' (Fr.snoc X' N ga) e' W' (A.set W' (fits_nar_byte _)))
theorem Go.zst (X : Stand p l e R s m args below meth c T locs cells slots) (hx : p.tables.exec = Jvm.exec) (hZ : Z.Warmed39 s.vm) (eT : T.heap = h) {n0 : Nat} (N : Fr n0 locs) {a : Addr} (ga : n0 ≤ a) {n : Nat} {f : Nat → Int32} (A : AI Z h a .boolean n f) {j x : Int32} (hj : inb j n) {pc : Nat} {Ls : Array Slot} {st : List Value} (hd : decode c.code pc = .ok (.bastore, 1))
    (K : ∀ T' h' L', Stand p l e R s m args below meth c T' L' cells slots → Fr n0 L' → T'.heap = h' → Wr h h' a j.toNatClampNeg (.int (nar .boolean x)) → AI Z h' a .boolean n (upd f j.toNatClampNeg (nar .boolean x)) → Go p e below W T' (mkF m (pc + 1) Ls st)) : Go p e below W T (mkF m pc Ls (.int x :: .int j :: .ref a :: st)) := by
  obtain ⟨cl, A', r1, r2, r3⟩ := id A
  obtain ⟨T', h', X', e', W', st'⟩ := stZ X hx hZ eT A' (j := j) (hj.no r1) (g := mkF m pc Ls (.int x :: .int j :: .ref a :: st)) rfl rfl hd
  exact Go.of st' (K _ _ _ X' (Fr.snoc X' N ga) e' W' (A.set W' (fits_nar_bool _)))
theorem Go.cst (X : Stand p l e R s m args below meth c T locs cells slots) (hx : p.tables.exec = Jvm.exec) (hZ : Z.Warmed39 s.vm) (eT : T.heap = h) {n0 : Nat} (N : Fr n0 locs) {a : Addr} (ga : n0 ≤ a) {n : Nat} {f : Nat → Int32} (A : AI Z h a .char n f) {j x : Int32} (hj : inb j n) {pc : Nat} {Ls : Array Slot} {st : List Value} (hd : decode c.code pc = .ok (.castore, 1))
    (K : ∀ T' h' L', Stand p l e R s m args below meth c T' L' cells slots → Fr n0 L' → T'.heap = h' → Wr h h' a j.toNatClampNeg (.int (nar .char x)) → AI Z h' a .char n (upd f j.toNatClampNeg (nar .char x)) → Go p e below W T' (mkF m (pc + 1) Ls st)) : Go p e below W T (mkF m pc Ls (.int x :: .int j :: .ref a :: st)) := by
  obtain ⟨cl, A', r1, r2, r3⟩ := id A
  obtain ⟨T', h', X', e', W', st'⟩ := stC X hx hZ eT A' (j := j) (hj.no r1) (g := mkF m pc Ls (.int x :: .int j :: .ref a :: st)) rfl rfl hd
  exact Go.of st' (K _ _ _ X' (Fr.snoc X' N ga) e' W' (A.set W' (fits_nar_char _)))
theorem AI.new {b cA : Nat} {ty : FieldType} {n : Int32} (A : Arr Z h b (newA cA ty n) ty) (hd : defaultValue ty = .int 0) (hf : fits ty (.int 0) = true) : AI Z h b ty n.toNatClampNeg (fun _ => 0) := by
  refine ⟨_, A, sz_new _ _ _, ?_, fun j hj => ?_⟩
  · show n.toInt.toNat < 2 ^ 31
    have := n.toInt_lt; omega
  · exact ⟨by simp [newA, hj, hd], hf⟩
theorem Go.newA (X : Stand p l e R s m args below meth c T locs cells slots) (hx : p.tables.exec = Jvm.exec) (hZ : Z.Warmed39 s.vm) {aty : ArrayType} (w : (Jvm.Cond.arrayClass (newarray.typeOf aty)).before a0 Z = true) (hdef : defaultValue (newarray.typeOf aty) = .int 0) (hft : fits (newarray.typeOf aty) (.int 0) = true) {ad : String} (had : "[" ++ (newarray.typeOf aty).toString = ad) (eT : T.heap = h) {pc : Nat} {Ls : Array Slot} {n : Int32} {st : List Value} (hd : decode c.code pc = .ok (.newarray aty, 2))
    (hn : ¬ n < 0) {cap : Nat} (hcap : n.toNatClampNeg ≤ cap) (hb : cap * 8 ≤ 536870912) (hc : cells + 1 ≤ R.cells) (hl : slots + cap ≤ R.slots)
    (K : ∀ T' h' b, b = h.size → Stand p l e R s m args below meth c T' locs (cells + 1) (slots + cap) → T'.heap = h' → Ext h h' → Exa Z h' b ad → AI Z h' b (newarray.typeOf aty) n.toNatClampNeg (fun _ => 0) → Go p e below W T' (mkF m (pc + 2) Ls (.ref b :: st))) : Go p e below W T (mkF m pc Ls (.int n :: st)) := by
  obtain ⟨T', h', cA, X', e', E', A', B', st'⟩ := newPE X hx hZ w eT (g := mkF m pc Ls (.int n :: st)) rfl hd rfl hn hcap hb hc hl had
  exact Go.of st' (K _ _ _ rfl X' e' E' B' (AI.new A' hdef hft))
theorem Go.newO (X : Stand p l e R s m args below meth c T locs cells slots) (hx : p.tables.exec = Jvm.exec) (hZ : Z.Warmed39 s.vm) {own C : String} {index n : Nat} (hown : s.vm.findClass own = some m.cls) (w : (Jvm.Cond.classLink own index C).before a0 Z = true) (wi : (Jvm.Cond.instantiable C n).before a0 Z = true) (wz : (Jvm.Cond.initialized C).before a0 Z = true) (eT : T.heap = h)
    {pc : Nat} {Ls : Array Slot} {st : List Value} (hd : decode c.code pc = .ok (.new index, 3)) (hc : cells + 1 ≤ R.cells) (hl : slots + n ≤ R.slots)
    (K : ∀ T' h' b, b = h.size → Stand p l e R s m args below meth c T' locs (cells + 1) (slots + n) → T'.heap = h' → Ext h h' → Exa Z h' b C → (∀ {O nm d : String} {ty : FieldType}, Laid Z a0 C O nm d → parseFieldDescriptor d = some ty → Fld Z h' b O nm d (defaultValue ty)) → Go p e below W T' (mkF m (pc + 3) Ls (.ref b :: st))) : Go p e below W T (mkF m pc Ls st) := by
  obtain ⟨T', h', X', e', E', A', D', -, st'⟩ := Jvm.RoadKit.newO X hx hZ hown w wi wz eT (g := mkF m pc Ls st) rfl hd hc hl
  exact Go.of st' (K _ _ _ rfl X' e' E' A' D')
theorem Go.getF (X : Stand p l e R s m args below meth c T locs cells slots) (hx : p.tables.exec = Jvm.exec) (hZ : Z.Warmed39 s.vm) {own O n d : String} {index : Nat} (hown : s.vm.findClass own = some m.cls) (w : (Jvm.Cond.fieldLink own index O n d).before a0 Z = true) (eT : T.heap = h) {a : Addr} {v : Value} (F : Fld Z h a O n d v)
    {pc : Nat} {Ls : Array Slot} {st : List Value} (hd : decode c.code pc = .ok (.getfield index, 3)) (K : ∀ T', Stand p l e R s m args below meth c T' locs cells slots → T'.heap = h → Go p e below W T' (mkF m (pc + 3) Ls (v :: st))) : Go p e below W T (mkF m pc Ls (.ref a :: st)) := by
  obtain ⟨T', X', e', st'⟩ := Jvm.RoadKit.getF X hx hZ hown (host := "") (Or.inl w) Via.refl eT F (g := mkF m pc Ls (.ref a :: st)) rfl rfl hd
  exact Go.of st' (K _ X' e')
theorem Go.putF (X : Stand p l e R s m args below meth c T locs cells slots) (hx : p.tables.exec = Jvm.exec) (hZ : Z.Warmed39 s.vm) {own O n d C : String} {index kk : Nat} {ty : FieldType} (hown : s.vm.findClass own = some m.cls) (w : (Jvm.Cond.fieldLink own index O n d).before a0 Z = true) (eT : T.heap = h) {n0 : Nat} (N : Fr n0 locs) {a : Addr} (ga : n0 ≤ a) {v old : Value} (F : Fld Z h a O n d old) (E : Exa Z h a C)
    (L : (Jvm.Cond.lays C O n d).before a0 Z = true ∨ ((Jvm.Cond.laysFinal C O n d).before a0 Z = true ∧ own = O ∧ meth.name = "<init>")) (wi : (Jvm.Cond.instantiable C kk).before a0 Z = true) (hty : parseFieldDescriptor d = some ty) {v' : Value} (hn : narrow ty v = v') (hf : fits ty v' = true)
    {pc : Nat} {Ls : Array Slot} {st : List Value} (hd : decode c.code pc = .ok (.putfield index, 3)) (K : ∀ T' h' L', Stand p l e R s m args below meth c T' L' cells slots → Fr n0 L' → T'.heap = h' → Wr h h' a (Jvm.RoadKit.slotOf Z O n d) v' → Fld Z h' a O n d v' → Go p e below W T' (mkF m (pc + 3) Ls st)) : Go p e below W T (mkF m pc Ls (v :: .ref a :: st)) := by
  obtain ⟨T', h', X', e', W', st'⟩ := putFN X hx hZ hown w Via.refl eT F E L wi hty hn hf (g := mkF m pc Ls (v :: .ref a :: st)) rfl rfl hd
  exact Go.of st' (K _ _ _ X' (Fr.snoc X' N ga) e' W' (F.same W'))
theorem Go.initO (X : Stand p l e R s m args below meth c T locs cells slots) (hx : p.tables.exec = Jvm.exec) (hZ : Z.Warmed39 s.vm) {own : String} {idx : Nat} (hown : s.vm.findClass own = some m.cls) (w1 : (Jvm.Cond.methodLink own idx Lib.objectInit).before a0 Z = true) (w2 : (Jvm.Cond.instanceMethod Lib.objectInit).before a0 Z = true)
    (w3 : (Jvm.Cond.code Lib.objectInit Jvm.LibCode.Object.Init0.code 1 none).before a0 Z = true) (eT : T.heap = h) {pc : Nat} {Ls : Array Slot} {st : List Value} (hsize : Ls.size = c.maxLocals) {a : Addr} (hd : decode c.code pc = .ok (.invokespecial idx, 3)) (hf : 1 ≤ R.frames) {V : Nat} (hV : (st.map fun v => v.category).sum ≤ V) (hl : V + 12 ≤ R.locals)
    (K : ∀ T', Stand p l e R s m args below meth c T' locs cells slots → T'.heap = h → Go p e below W T' (mkF m (pc + 3) Ls st)) : Go p e below W T (mkF m pc Ls (.ref a :: st)) := by
  obtain ⟨T', X', e', st'⟩ := Jvm.RoadKit.initO X hx hZ hown w1 w2 w3 eT (g := mkF m pc Ls (.ref a :: st)) rfl hsize rfl hd hf (W := V) (by show 2 * 0 + _ ≤ _; omega) hl
  exact Go.of st' (K _ X' e')
/-- a constructor by its contract -/
theorem Go.callI (X : Stand p l e R s m args below meth c T locs cells slots) (hx : p.tables.exec = Jvm.exec) (hZ : Z.Warmed39 s.vm) {own : String} {index : Nat} {y : MethodName} {bytes : ByteArray} {maxL : Nat} {rm : Room} {as' : Array Value} {Q : Option Value → Heap → List Loc → Prop} (hy1 : y.name = "<init>") (hown : s.vm.findClass own = some m.cls)
    (w1 : (Jvm.Cond.methodLink own index y).before a0 Z = true) (w2 : (Jvm.Cond.instanceMethod y).before a0 Z = true) (w3 : (Jvm.Cond.initialized y.cls).before a0 Z = true) (w4 : (Jvm.Cond.code y bytes maxL none).before a0 Z = true) (hy : y.cls ≠ "java/lang/invoke/MethodHandle" ∧ y.cls ≠ "java/lang/invoke/VarHandle") (eT : T.heap = h)
    (hM : Con l Z y bytes maxL none [] rm as' h Q) {V : Nat} (hf : rm.frames + 1 ≤ R.frames) (hl : V + (maxL + 11) + rm.locals ≤ R.locals) (hc : cells + rm.cells ≤ R.cells) (hs : slots + rm.slots ≤ R.slots)
    {pc : Nat} {Ls : Array Slot} {st : List Value} (hsize : Ls.size = c.maxLocals) {a : Addr} {argsL rest : List Value} (has : (.ref a :: argsL).toArray = as') (hlen : ∀ sig, parseMethodDescriptor y.desc = some sig → argsL.length = sig.parameters.length) (hstack : st = argsL.reverse ++ .ref a :: rest) (hV : (rest.map fun v => v.category).sum ≤ V) (hd : decode c.code pc = .ok (.invokespecial index, 3))
    (K : ∀ T' v L, Q v T'.heap L → Stand p l e R s m args below meth c T' (locs ++ L) (cells + rm.cells) (slots + rm.slots) → Go p e below W T' (mkF m (pc + 3) Ls (v.toList ++ rest))) : Go p e below W T (mkF m pc Ls st) := by
  obtain ⟨v, vm₁, ⟨T', L', k', n'⟩, -, X', ⟨L, hQ, e1, e2, e3⟩, st'⟩ := X.specialBack hx hy1 hown (mvT hZ w1) (mvT hZ w2) (mvT hZ w4) hy (backOf (W := V) hM hZ w4 w3 hf hl) (g := mkF m pc Ls st) rfl hsize (Steps.refl _) hlen hstack (by show 2 * 0 + _ ≤ _; omega) hd (fun _ _ => ⟨has, eT, hc, hs⟩)
  dsimp only [Pt.U, Pt.locs, Pt.cells, Pt.slots] at X' e1 e2 e3 st' hQ
  subst e1 e2 e3
  exact Go.of (fun _ k => st'.trans k) (K _ _ _ hQ X')
/-- an instance method by the contract of the body that the receiver's class selects -/
theorem Go.callV (X : Stand p l e R s m args below meth c T locs cells slots) (hx : p.tables.exec = Jvm.exec) (hZ : Z.Warmed39 s.vm) {own C : String} {index : Nat} {y : MethodName} {bytes : ByteArray} {maxL : Nat} {ret : Option FieldType} {rm : Room} {as' : Array Value} {Q : Option Value → Heap → List Loc → Prop} (hown : s.vm.findClass own = some m.cls)
    (w1 : (Jvm.Cond.methodLink own index y).before a0 Z = true) (w5 : (Jvm.Cond.declares y).before a0 Z = true) (w6 : (Jvm.Cond.selects C y y).before a0 Z = true) (w2 : (Jvm.Cond.instanceMethod y).before a0 Z = true) (w3 : (Jvm.Cond.initialized y.cls).before a0 Z = true) (w4 : (Jvm.Cond.code y bytes maxL ret).before a0 Z = true) (hy : y.cls ≠ "java/lang/invoke/MethodHandle" ∧ y.cls ≠ "java/lang/invoke/VarHandle") (eT : T.heap = h)
    {a : Addr} (E : Exa Z h a C) (hM : Con l Z y bytes maxL ret [] rm as' h Q) {V : Nat} (hf : rm.frames + 1 ≤ R.frames) (hl : V + (maxL + 11) + rm.locals ≤ R.locals) (hc : cells + rm.cells ≤ R.cells) (hs : slots + rm.slots ≤ R.slots)
    {pc : Nat} {Ls : Array Slot} {st : List Value} (hsize : Ls.size = c.maxLocals) {argsL rest : List Value} (has : (.ref a :: argsL).toArray = as') (hlen : ∀ sig, parseMethodDescriptor y.desc = some sig → argsL.length = sig.parameters.length) (hstack : st = argsL.reverse ++ .ref a :: rest) (hV : (rest.map fun v => v.category).sum ≤ V) (hd : decode c.code pc = .ok (.invokevirtual index, 3))
    (K : ∀ T' v L, Q v T'.heap L → Stand p l e R s m args below meth c T' (locs ++ L) (cells + rm.cells) (slots + rm.slots) → Go p e below W T' (mkF m (pc + 3) Ls (v.toList ++ rest))) : Go p e below W T (mkF m pc Ls st) := by
  obtain ⟨cq, kq, qa, qb, qc⟩ := isOf hZ eT E
  obtain ⟨v, vm₁, ⟨T', L', k', n'⟩, -, X', ⟨L, hQ, e1, e2, e3⟩, st'⟩ := X.virtualBack hx hown (mvT hZ w1) (mvT hZ w5) (notFace_of_selects (args := #[]) (mvT hZ w6)) (mvT hZ w6) (mvT hZ w2) hy (backOf (W := V) hM hZ w4 w3 hf hl) qa qc (g := mkF m pc Ls st) rfl hsize (Steps.refl _) hlen hstack (by show 2 * 0 + _ ≤ _; omega) hd (fun _ _ => ⟨has, eT, hc, hs⟩)
  dsimp only [Pt.U, Pt.locs, Pt.cells, Pt.slots] at X' e1 e2 e3 st' hQ
  subst e1 e2 e3
  exact Go.of (fun _ k => st'.trans k) (K _ _ _ hQ X')
end OwnHeap
section OwnMore
variable {p : Program} {l : Launch} {e : Env} {R : Room} {s : State} {m : MethodId} {args : Array Value} {below : List Frame} {meth : Method} {c : Code} {T : State} {locs : List Loc} {cells slots : Nat} {Z : State} {a0 : Array Value} {h h' : Heap} {W : State → Outcome → Prop}
/-- the model's own selection picks a private method itself -/
theorem own_selects {y : MethodName} {n : Nat} (hy : y.cls ≠ "java/lang/invoke/MethodHandle" ∧ y.cls ≠ "java/lang/invoke/VarHandle") (hins : (Jvm.Cond.instantiable y.cls n).before args s = true) (hpriv : (Jvm.Cond.privateMethod y).before args s = true) (hinst : (Jvm.Cond.instanceMethod y).before args s = true) :
    (Jvm.Cond.selects y.cls y y).before args s = true := by
  obtain ⟨c, k, hc, hk, -, hniab, -, -⟩ := Cond.instantiable_spec hins
  have hni : k.isInterface = false := (Bool.or_eq_false_iff.mp hniab).1
  obtain ⟨mk, methM, hnamed, hmethM, -, -⟩ := Cond.instanceMethod_spec hinst
  have hfound : s.methodFound? y.cls y.name y.desc = some mk := State.methodFound?_of_named hnamed hy
  have hcls : mk.cls = c := Option.some.inj ((findClass_of_methodNamed hnamed).symm.trans hc)
  have hsel : selectMethod {} s.vm c mk = .method mk := selectMethod_private hmethM (Cond.privateMethod_at hpriv mk methM hnamed hmethM)
  simp only [Cond.before, Cond.holds, Cond.value, hc, hfound, hnamed, hsel, hcls, hk]
  simp; exact hni
theorem Go.callPr (X : Stand p l e R s m args below meth c T locs cells slots) (hx : p.tables.exec = Jvm.exec) (hZ : Z.Warmed39 s.vm) {own : String} {index kk : Nat} {y : MethodName} {bytes : ByteArray} {maxL : Nat} {ret : Option FieldType} {rm : Room} {as' : Array Value} {Q : Option Value → Heap → List Loc → Prop} (hown : s.vm.findClass own = some m.cls)
    (w1 : (Jvm.Cond.methodLink own index y).before a0 Z = true) (w5 : (Jvm.Cond.instantiable y.cls kk).before a0 Z = true) (w6 : (Jvm.Cond.privateMethod y).before a0 Z = true) (w2 : (Jvm.Cond.instanceMethod y).before a0 Z = true) (w3 : (Jvm.Cond.initialized y.cls).before a0 Z = true) (w4 : (Jvm.Cond.code y bytes maxL ret).before a0 Z = true) (hy : y.cls ≠ "java/lang/invoke/MethodHandle" ∧ y.cls ≠ "java/lang/invoke/VarHandle") (eT : T.heap = h)
    {a : Addr} {C : String} (E : Exa Z h a C) (hM : Con l Z y bytes maxL ret [] rm as' h Q) {V : Nat} (hf : rm.frames + 1 ≤ R.frames) (hl : V + (maxL + 11) + rm.locals ≤ R.locals) (hc : cells + rm.cells ≤ R.cells) (hs : slots + rm.slots ≤ R.slots)
    {pc : Nat} {Ls : Array Slot} {st : List Value} (hsize : Ls.size = c.maxLocals) {argsL rest : List Value} (has : (.ref a :: argsL).toArray = as') (hlen : ∀ sig, parseMethodDescriptor y.desc = some sig → argsL.length = sig.parameters.length) (hstack : st = argsL.reverse ++ .ref a :: rest) (hV : (rest.map fun v => v.category).sum ≤ V) (hd : decode c.code pc = .ok (.invokevirtual index, 3))
    (K : ∀ T' v L, Q v T'.heap L → Stand p l e R s m args below meth c T' (locs ++ L) (cells + rm.cells) (slots + rm.slots) → Go p e below W T' (mkF m (pc + 3) Ls (v.toList ++ rest))) : Go p e below W T (mkF m pc Ls st) := by
  obtain ⟨cq, q1, q2⟩ := E.cell
  obtain ⟨v, vm₁, ⟨T', L', k', n'⟩, -, X', ⟨L, hQ, e1, e2, e3⟩, st'⟩ := X.privateBack hx hown (mvT hZ w1) (mvT hZ w2) (own_selects hy (mvT hZ w5) (mvP hZ w6) (mvT hZ w2)) (Cond.privateMethod_at (mvP hZ w6 (args := #[]))) (mvT hZ w4) hy (backOf (W := V) hM hZ w4 w3 hf hl) (g := mkF m pc Ls st) rfl hsize (Steps.refl _) (a := a) (by rw [eT]; exact q1) q2 hlen hstack (by show 2 * 0 + _ ≤ _; omega) hd (fun _ _ => ⟨has, eT, hc, hs⟩)
  dsimp only [Pt.U, Pt.locs, Pt.cells, Pt.slots] at X' e1 e2 e3 st' hQ
  subst e1 e2 e3
  exact Go.of (fun _ k => st'.trans k) (K _ _ _ hQ X')
theorem Go.clone (X : Stand p l e R s m args below meth c T locs cells slots) (hx : p.tables.exec = Jvm.exec) (hZ : Z.Warmed39 s.vm) {own ad : String} {index : Nat} (hown : s.vm.findClass own = some m.cls)
    (w1 : (Jvm.Cond.methodLink own index ⟨ad, "clone", "()Ljava/lang/Object;"⟩).before a0 Z = true) (w2 : (Jvm.Cond.sameMethod ad "java/lang/Object" "clone" "()Ljava/lang/Object;").before a0 Z = true) (w3 : (Jvm.Cond.native ⟨"java/lang/Object", "clone", "()Ljava/lang/Object;"⟩).before a0 Z = true)
    (w4 : (Jvm.Cond.instanceMethod ⟨"java/lang/Object", "clone", "()Ljava/lang/Object;"⟩).before a0 Z = true) (w5 : (Jvm.Cond.selects ad ⟨ad, "clone", "()Ljava/lang/Object;"⟩ ⟨"java/lang/Object", "clone", "()Ljava/lang/Object;"⟩).before a0 Z = true) (w6 : (Jvm.Cond.castable ad "java/lang/Cloneable").before a0 Z = true)
    (eT : T.heap = h) {a : Addr} {ty : FieldType} {n : Nat} {f : Nat → Int32} (A : AI Z h a ty n f) (E : Exa Z h a ad) {pc : Nat} {Ls : Array Slot} {st : List Value} (hsize : Ls.size = c.maxLocals) (hd : decode c.code pc = .ok (.invokevirtual index, 3))
    (hf : 1 ≤ R.frames) {V cap : Nat} (hV : (st.map fun v => v.category).sum ≤ V) (hl : V + 14 ≤ R.locals) (hcap : n ≤ cap) (hc : cells + 1 ≤ R.cells) (hsl : slots + cap ≤ R.slots)
    (K : ∀ T' h' b, b = h.size → Stand p l e R s m args below meth c T' locs (cells + 1) (slots + cap) → T'.heap = h' → Ext h h' → Exa Z h' b ad → AI Z h' b ty n f → Go p e below W T' (mkF m (pc + 3) Ls (.ref b :: st))) : Go p e below W T (mkF m pc Ls (.ref a :: st)) := by
  obtain ⟨cl, A', r1, r2, r3⟩ := id A
  have FC : FitC Z cl := fitC_of A' fun i hi v hv => by rw [(r3 i (r1 ▸ hi)).1] at hv; cases hv; exact (r3 i (r1 ▸ hi)).2
  obtain ⟨T', h', X', e', ex, B', E', st'⟩ := cloneA X hx hZ hown w1 w2 w3 w4 w5 w6 eT A' E FC (g := mkF m pc Ls (.ref a :: st)) rfl hsize rfl hd hf (W := V) (by show 2 * 0 + _ ≤ _; omega) hl (by rw [r1]; exact hcap) hc hsl
  exact Go.of st' (K _ _ _ rfl X' e' ex E' ⟨cloneOf cl, B', r1, r2, r3⟩)
theorem Go.cast (X : Stand p l e R s m args below meth c T locs cells slots) (hx : p.tables.exec = Jvm.exec) (hZ : Z.Warmed39 s.vm) {own C : String} {index : Nat} (hown : s.vm.findClass own = some m.cls) (w : (Jvm.Cond.classLink own index C).before a0 Z = true) (eT : T.heap = h) {a : Addr} (E : Exa Z h a C)
    {pc : Nat} {Ls : Array Slot} {st : List Value} (hd : decode c.code pc = .ok (.checkcast index, 3)) (K : ∀ T', Stand p l e R s m args below meth c T' locs cells slots → T'.heap = h → Go p e below W T' (mkF m (pc + 3) Ls (.ref a :: st))) : Go p e below W T (mkF m pc Ls (.ref a :: st)) := by
  obtain ⟨T', X', e', st'⟩ := castY X hx hZ hown w eT (Ins.self E) (g := mkF m pc Ls (.ref a :: st)) rfl rfl hd
  exact Go.of st' (K _ X' e')
theorem AI.arv {a : Addr} {ty : FieldType} {n : Nat} {f : Nat → Int32} (A : AI Z h a ty n f) : ∃ k, Arv Z h a k ty (Int32.ofNat n) ((List.range n).map fun j => .int (f j)) (.int 0) := by
  obtain ⟨cl, A, r1, r2, r3⟩ := A
  have e1 : (Int32.ofNat n).toInt = n := Int32.toInt_ofNat_of_lt (by omega)
  have e2 : (Int32.ofNat n).toNatClampNeg = n := by rw [Int32.toNatClampNeg, e1]; rfl
  have e3 : ∀ k, k < n → ((List.range n).map fun j => Value.int (f j)).getD k (.int 0) = .int (f k) := fun k hk => by simp [List.getD_eq_getElem?_getD, hk]
  refine ⟨cl.cls, cl, A, rfl, by rw [e2]; exact r1, ?_, fun k hk => ?_, fun k hk => ?_⟩
  · rw [Int32.lt_iff_toInt_lt, e1, show (0 : Int32).toInt = 0 from rfl]; omega
  · rw [e3 k (r1 ▸ hk)]; exact (r3 k (r1 ▸ hk)).1
  · rw [e3 k (r1 ▸ hk)]; exact (r3 k (r1 ▸ hk)).2
theorem AI.of_arv {a : Addr} {k : ClassId} {ty : FieldType} {n : Nat} {z : Int32} {vs : List Value} {d : Value} {f : Nat → Int32} (A : Arv Z h a k ty z vs d) (hz : z.toNatClampNeg = n) (hn : n < 2 ^ 31) (q : ∀ j, j < n → vs.getD j d = .int (f j)) : AI Z h a ty n f := by
  obtain ⟨cl, A, -, S, -, H, G⟩ := A
  rw [hz] at S
  exact ⟨cl, A, S, hn, fun j hj => by rw [← q j hj]; exact ⟨H j (by omega), G j (by omega)⟩⟩
/-- what a copy of nn places from sp on to dp leaves -/
def cpf (f g : Nat → Int32) (sp dp nn : Nat) : Nat → Int32 := fun j => if dp ≤ j ∧ j < dp + nn then f (sp + (j - dp)) else g j
theorem Go.acopy (X : Stand p l e R s m args below meth c T locs cells slots) (hx : p.tables.exec = Jvm.exec) (hZ : Z.Warmed39 s.vm) {own : String} {index : Nat} (hown : s.vm.findClass own = some m.cls)
    (w1 : (Jvm.Cond.methodLink own index Jvm.Stand.acN).before a0 Z = true) (w2 : (Jvm.Cond.native Jvm.Stand.acN).before a0 Z = true) (w3 : (Jvm.Cond.static Jvm.Stand.acN).before a0 Z = true) (w4 : (Jvm.Cond.initialized "java/lang/System").before a0 Z = true) (eT : T.heap = h)
    {a b : Addr} {ty : FieldType} {n n' : Nat} {f g : Nat → Int32} (A : AI Z h a ty n f) (B : AI Z h b ty n' g) (hty : refKind ty = false) {sp dp nn : Int32} (h1 : ¬ sp < 0) (h2 : ¬ dp < 0) (h3 : ¬ nn < 0) (h4 : sp.toNatClampNeg + nn.toNatClampNeg ≤ n) (h5 : dp.toNatClampNeg + nn.toNatClampNeg ≤ n')
    {n0 : Nat} (N : Fr n0 locs) (gb : n0 ≤ b) {pc : Nat} {Ls : Array Slot} {st : List Value} (hsize : Ls.size = c.maxLocals) (hd : decode c.code pc = .ok (.invokestatic index, 3)) (hf : 1 ≤ R.frames) {V : Nat} (hV : (st.map fun v => v.category).sum ≤ V) (hlo : V + (nativeFrameWords "java/lang/System" "arraycopy" 5 + 11) ≤ R.locals)
    (K : ∀ T' h' L', Stand p l e R s m args below meth c T' L' cells slots → Fr n0 L' → T'.heap = h' → Keep h h' [b] → AI Z h' b ty n' (cpf f g sp.toNatClampNeg dp.toNatClampNeg nn.toNatClampNeg) → Go p e below W T' (mkF m (pc + 3) Ls st)) : Go p e below W T (mkF m pc Ls (.int nn :: .int dp :: .ref b :: .int sp :: .ref a :: st)) := by
  obtain ⟨ka, Va⟩ := A.arv
  obtain ⟨kb, Vb⟩ := B.arv
  have na := A.small
  have nb := B.small
  have ea : (Int32.ofNat n).toNatClampNeg = n := by rw [Int32.toNatClampNeg, Int32.toInt_ofNat_of_lt (by omega)]; rfl
  have eb : (Int32.ofNat n').toNatClampNeg = n' := by rw [Int32.toNatClampNeg, Int32.toInt_ofNat_of_lt (by omega)]; rfl
  obtain ⟨T', h', L', X', e', N', K', V', st'⟩ := cpA X hx hZ hown w1 w2 w3 w4 eT Va Vb (Or.inl ⟨rfl, hty⟩) h1 h2 h3 (by rw [ea]; exact h4) (by rw [eb]; exact h5) rfl (by simpa using h5) N gb (g := mkF m pc Ls (.int nn :: .int dp :: .ref b :: .int sp :: .ref a :: st)) rfl hsize rfl hd hf (W := V) (by show 2 * 0 + _ ≤ _; omega) hlo
  refine Go.of st' (K _ _ _ X' N' e' K' (AI.of_arv V' eb nb fun j hj => ?_))
  have l1 : (((List.range n').map fun j => Value.int (g j)).take dp.toNatClampNeg).length = dp.toNatClampNeg := by rw [List.length_take]; simp; omega
  simp only [List.getD_eq_getElem?_getD, cpf]
  by_cases c1 : j < dp.toNatClampNeg
  · rw [if_neg (by omega), List.append_assoc, List.getElem?_append_left (by omega), List.getElem?_take_of_lt c1]
    simp [hj]
  · by_cases c2 : j < dp.toNatClampNeg + nn.toNatClampNeg
    · rw [if_pos ⟨by omega, c2⟩, List.getElem?_append_left (by rw [List.length_append, l1]; simp; omega), List.getElem?_append_right (by omega), l1]
      have q1 : j - dp.toNatClampNeg < nn.toNatClampNeg := by omega
      have q2 : sp.toNatClampNeg + (j - dp.toNatClampNeg) < n := by omega
      simp [q1, q2]
    · rw [if_neg (by omega), List.getElem?_append_right (by rw [List.length_append, l1]; simp; omega), List.length_append, l1, List.getElem?_drop]
      simp only [List.length_map, List.length_range]
      rw [show dp.toNatClampNeg + nn.toNatClampNeg + (j - (dp.toNatClampNeg + nn.toNatClampNeg)) = j by omega]
      simp [hj]
end OwnMore
section OwnNats
theorem own_toInt {n : Nat} (h : n < 2147483648) : (Int32.ofNat n).toInt = n := Int32.toInt_ofNat_of_lt (by omega)
theorem own_lt {i n : Nat} (h : i < n) (hn : n < 2147483648) : Int32.ofNat i < Int32.ofNat n := by
  rw [Int32.lt_iff_toInt_lt, own_toInt (by omega), own_toInt (by omega)]
  omega
theorem own_nlt {i n : Nat} (h : n ≤ i) (hn : i < 2147483648) : ¬ Int32.ofNat i < Int32.ofNat n := by
  rw [Int32.lt_iff_toInt_lt, own_toInt (by omega), own_toInt (by omega)]
  omega
theorem own_nn {n : Nat} (hn : n < 2147483648) : ¬ Int32.ofNat n < 0 := by
  rw [Int32.lt_iff_toInt_lt, own_toInt hn, show (0 : Int32).toInt = 0 from rfl]
  omega
theorem own_n32 {n : Nat} (hn : n < 2147483648) : (Int32.ofNat n).toNatClampNeg = n := by
  rw [Int32.toNatClampNeg, own_toInt hn]; rfl
theorem own_one (i : Nat) : Int32.ofNat i + (1 : Int32) = Int32.ofNat (i + 1) := (Int32.ofNat_add i 1).symm
theorem own_inbN {i n : Nat} (h : i < n) (hn : n ≤ 2147483648) : inb (Int32.ofNat i) n := ⟨own_nn (by omega), by rw [own_n32 (by omega)]; exact h⟩
theorem own_back {x : Int32} (h : ¬ x < 0) : Int32.ofNat x.toNatClampNeg = x := (back32 h).1
end OwnNats

def own_rng (a b : Int32) : Prop := 1 ≤ a.toInt ∧ a.toInt ≤ b.toInt ∧ b.toInt ≤ 4
def own_rk (a : Int32) : Prop := 1 ≤ a.toInt ∧ a.toInt ≤ 4
def own_rs (a : Int32) : Prop := 0 ≤ a.toInt ∧ a.toInt ≤ 4
theorem own_zero {n : Nat} (h : 0 < n := by decide) : ∀ j : Nat, j < n → inb (0 : Int32) n := fun _ _ => ⟨by decide, h⟩
theorem own_updin {f : Nat → Int32} {i n : Nat} {x : Int32} (h : ∀ j, j < n → inb (f j) n) (hx : inb x n) : ∀ j, j < n → inb (upd f i x j) n := fun j hj => by
  simp only [upd]
  by_cases q : j = i
  · rw [if_pos q]; exact hx
  · rw [if_neg q]; exact h j hj
theorem own_in5 {x : Int32} (h0 : 0 ≤ x.toInt) (h1 : x.toInt < 5) : inb x 5 := by
  refine ⟨?_, ?_⟩
  · rw [Int32.lt_iff_toInt_lt, show (0 : Int32).toInt = 0 from rfl]; omega
  · show x.toInt.toNat < 5
    omega
theorem own_b1 {a b : Int32} (h : own_rng a b) : inb a 5 := own_in5 (by have := h.1; omega) (by have := h.2; omega)
theorem own_b2 {a b : Int32} (h : own_rng a b) : inb b 5 := own_in5 (by have := h.1; have := h.2; omega) (by have := h.2; omega)
theorem own_up {a : Int32} (h : a.toInt ≤ 1000) : (a + 1).toInt = a.toInt + 1 := by
  have e : ((a + 1).toInt - (a.toInt + 1)) % 4294967296 = 0 := c_iadd a 1
  have r1 := rng32 a
  have r2 := rng32 (a + 1)
  omega
theorem own_dn {a : Int32} (h : -1000 ≤ a.toInt) : (a + -1).toInt = a.toInt - 1 := by
  have e : ((a + -1).toInt - (a.toInt + -1)) % 4294967296 = 0 := c_iadd a (-1)
  have r1 := rng32 a
  have r2 := rng32 (a + -1)
  omega
theorem own_b3 {a b : Int32} (h : own_rng a b) (c : a + 1 < b + -1) : inb (a + 1) 5 := by
  obtain ⟨h1, h2, h3⟩ := h
  rw [Int32.lt_iff_toInt_lt, own_up (by omega), own_dn (by omega)] at c
  exact own_in5 (by rw [own_up (by omega)]; omega) (by rw [own_up (by omega)]; omega)
theorem own_b4 {a b : Int32} (h : own_rng a b) (c : a + 1 < b + -1) : inb (b + -1) 5 := by
  obtain ⟨h1, h2, h3⟩ := h
  rw [Int32.lt_iff_toInt_lt, own_up (by omega), own_dn (by omega)] at c
  exact own_in5 (by rw [own_dn (by omega)]; omega) (by rw [own_dn (by omega)]; omega)
theorem own_done {a b : Int32} (h : own_rng a b) : ¬ a + 1 + 1 < b + -1 + -1 := by
  obtain ⟨h1, h2, h3⟩ := h
  rw [Int32.lt_iff_toInt_lt, own_up (by rw [own_up (by omega)]; omega), own_up (by omega), own_dn (by rw [own_dn (by omega)]; omega), own_dn (by omega)]
  omega
theorem own_b5 {a b x : Int32} (h : own_rng a b) (c1 : ¬ x < a) (c2 : ¬ b < x) : inb (a + b - x) 5 := by
  obtain ⟨h1, h2, h3⟩ := h
  rw [Int32.lt_iff_toInt_lt] at c1 c2
  have e1 : ((a + b).toInt - (a.toInt + b.toInt)) % 4294967296 = 0 := c_iadd a b
  have r1 := rng32 (a + b)
  have e2 : ((a + b - x).toInt - ((a + b).toInt - x.toInt)) % 4294967296 = 0 := c_isub (a + b) x
  have r2 := rng32 (a + b - x)
  exact own_in5 (by omega) (by omega)
theorem own_nz {a b : Int32} (h : own_rng a b) : (5 : Int32) - a ≠ 0 := by
  obtain ⟨h1, h2, h3⟩ := h
  have e : ((5 - a).toInt - (5 - a.toInt)) % 4294967296 = 0 := c_isub 5 a
  have r := rng32 (5 - a)
  intro q
  rw [q, show (0 : Int32).toInt = 0 from rfl] at e
  omega
theorem pd___I_V : parseMethodDescriptor "([I)V" = some ⟨[(.array .int)], none⟩ := by decide +kernel
theorem pd__II_V : parseMethodDescriptor "(II)V" = some ⟨[.int, .int], none⟩ := by decide +kernel
theorem pd____I : parseMethodDescriptor "()[I" = some ⟨[], some (.array .int)⟩ := by decide +kernel
theorem pd___IIII_I : parseMethodDescriptor "([IIII)I" = some ⟨[(.array .int), .int, .int, .int], some .int⟩ := by decide +kernel
theorem pd__I_I : parseMethodDescriptor "(I)I" = some ⟨[.int], some .int⟩ := by decide +kernel
theorem pd__III_I : parseMethodDescriptor "(III)I" = some ⟨[.int, .int, .int], some .int⟩ := by decide +kernel
theorem d1_0 : decode prog_24_method_1_code 0 = .ok (.aload_n 0, 1) := by decide +kernel
theorem d1_1 : decode prog_24_method_1_code 1 = .ok (.invokespecial 1, 3) := by decide +kernel
theorem d1_4 : decode prog_24_method_1_code 4 = .ok (.aload_n 0, 1) := by decide +kernel
theorem d1_5 : decode prog_24_method_1_code 5 = .ok (.aload_n 1, 1) := by decide +kernel
theorem d1_6 : decode prog_24_method_1_code 6 = .ok (.putfield 7, 3) := by decide +kernel
theorem d1_9 : decode prog_24_method_1_code 9 = .ok (.aload_n 0, 1) := by decide +kernel
theorem d1_10 : decode prog_24_method_1_code 10 = .ok (.aload_n 1, 1) := by decide +kernel
theorem d1_11 : decode prog_24_method_1_code 11 = .ok (.arraylength, 1) := by decide +kernel
theorem d1_12 : decode prog_24_method_1_code 12 = .ok (.newarray .int, 2) := by decide +kernel
theorem d1_14 : decode prog_24_method_1_code 14 = .ok (.putfield 13, 3) := by decide +kernel
theorem d1_17 : decode prog_24_method_1_code 17 = .ok (.iconst 0, 1) := by decide +kernel
theorem d1_18 : decode prog_24_method_1_code 18 = .ok (.istore_n 2, 1) := by decide +kernel
theorem d1_19 : decode prog_24_method_1_code 19 = .ok (.iload_n 2, 1) := by decide +kernel
theorem d1_20 : decode prog_24_method_1_code 20 = .ok (.aload_n 1, 1) := by decide +kernel
theorem d1_21 : decode prog_24_method_1_code 21 = .ok (.arraylength, 1) := by decide +kernel
theorem d1_22 : decode prog_24_method_1_code 22 = .ok (.if_icmp .ge 18, 3) := by decide +kernel
theorem d1_25 : decode prog_24_method_1_code 25 = .ok (.aload_n 0, 1) := by decide +kernel
theorem d1_26 : decode prog_24_method_1_code 26 = .ok (.getfield 13, 3) := by decide +kernel
theorem d1_29 : decode prog_24_method_1_code 29 = .ok (.aload_n 1, 1) := by decide +kernel
theorem d1_30 : decode prog_24_method_1_code 30 = .ok (.iload_n 2, 1) := by decide +kernel
theorem d1_31 : decode prog_24_method_1_code 31 = .ok (.iaload, 1) := by decide +kernel
theorem d1_32 : decode prog_24_method_1_code 32 = .ok (.iload_n 2, 1) := by decide +kernel
theorem d1_33 : decode prog_24_method_1_code 33 = .ok (.iastore, 1) := by decide +kernel
theorem d1_34 : decode prog_24_method_1_code 34 = .ok (.iinc 2 1, 3) := by decide +kernel
theorem d1_37 : decode prog_24_method_1_code 37 = .ok (.goto (-18), 3) := by decide +kernel
theorem d1_40 : decode prog_24_method_1_code 40 = .ok (.return_, 1) := by decide +kernel
theorem pn_1 : plainFor (⟨"com/example/pilfer/pilfer/Tour", "<init>", "([I)V"⟩ : MethodName) = true := plainFor_of_name (by show plainName "com/example/pilfer/pilfer/Tour" = true; first | (simp [plainName, overriddenIn]; done) | decide +kernel)
theorem ef_1 (m : MethodId) (a1 : Addr) (a2 : Addr) : entryFrame m #[(.ref a1), (.ref a2)] 3 = mkF m 0 #[.val (.ref a1), .val (.ref a2), .unset] [] := by first | (simp [entryFrame, mkF, argsToLocals, Value.category]; done) | rfl
def w1_4 (fo : Nat → Int32) : Nat → Int32 := fun _ => 0
def w1_8 (fo : Nat → Int32) : Nat → Int32 := upd (w1_4 fo) (fo 0).toNatClampNeg (0 : Int32)
def w1_11 (fo : Nat → Int32) : Nat → Int32 := upd (w1_8 fo) (fo 1).toNatClampNeg (1 : Int32)
def w1_14 (fo : Nat → Int32) : Nat → Int32 := upd (w1_11 fo) (fo 2).toNatClampNeg (2 : Int32)
def w1_17 (fo : Nat → Int32) : Nat → Int32 := upd (w1_14 fo) (fo 3).toNatClampNeg (3 : Int32)
def w1_20 (fo : Nat → Int32) : Nat → Int32 := upd (w1_17 fo) (fo 4).toNatClampNeg (4 : Int32)
def f1_np (fo : Nat → Int32) : Nat → Int32 := (w1_20 fo)
def Q1 (Z : State) (a1 : Addr) (a2 : Addr) (fo : Nat → Int32) (h0 : Heap) (n0 : Nat) (v : Option Value) (h : Heap) (L : List Loc) : Prop := ∃ np : Addr, v = none ∧ Fr n0 L ∧ Keep h0 h [a1] ∧ h0.size ≤ np ∧ Fld Z h a1 "com/example/pilfer/pilfer/Tour" "order" "[I" (.ref a2) ∧ Fld Z h a1 "com/example/pilfer/pilfer/Tour" "position" "[I" (.ref np) ∧ AI Z h np .int 5 (f1_np fo)
theorem d3_0 : decode prog_24_method_10_code 0 = .ok (.iload_n 1, 1) := by decide +kernel
theorem d3_1 : decode prog_24_method_10_code 1 = .ok (.istore_n 3, 1) := by decide +kernel
theorem d3_2 : decode prog_24_method_10_code 2 = .ok (.iload_n 2, 1) := by decide +kernel
theorem d3_3 : decode prog_24_method_10_code 3 = .ok (.istore 4, 2) := by decide +kernel
theorem d3_5 : decode prog_24_method_10_code 5 = .ok (.iload_n 3, 1) := by decide +kernel
theorem d3_6 : decode prog_24_method_10_code 6 = .ok (.iload 4, 2) := by decide +kernel
theorem d3_8 : decode prog_24_method_10_code 8 = .ok (.if_icmp .ge 68, 3) := by decide +kernel
theorem d3_11 : decode prog_24_method_10_code 11 = .ok (.aload_n 0, 1) := by decide +kernel
theorem d3_12 : decode prog_24_method_10_code 12 = .ok (.getfield 7, 3) := by decide +kernel
theorem d3_15 : decode prog_24_method_10_code 15 = .ok (.iload_n 3, 1) := by decide +kernel
theorem d3_16 : decode prog_24_method_10_code 16 = .ok (.iaload, 1) := by decide +kernel
theorem d3_17 : decode prog_24_method_10_code 17 = .ok (.istore 5, 2) := by decide +kernel
theorem d3_19 : decode prog_24_method_10_code 19 = .ok (.aload_n 0, 1) := by decide +kernel
theorem d3_20 : decode prog_24_method_10_code 20 = .ok (.getfield 7, 3) := by decide +kernel
theorem d3_23 : decode prog_24_method_10_code 23 = .ok (.iload_n 3, 1) := by decide +kernel
theorem d3_24 : decode prog_24_method_10_code 24 = .ok (.aload_n 0, 1) := by decide +kernel
theorem d3_25 : decode prog_24_method_10_code 25 = .ok (.getfield 7, 3) := by decide +kernel
theorem d3_28 : decode prog_24_method_10_code 28 = .ok (.iload 4, 2) := by decide +kernel
theorem d3_30 : decode prog_24_method_10_code 30 = .ok (.iaload, 1) := by decide +kernel
theorem d3_31 : decode prog_24_method_10_code 31 = .ok (.iastore, 1) := by decide +kernel
theorem d3_32 : decode prog_24_method_10_code 32 = .ok (.aload_n 0, 1) := by decide +kernel
theorem d3_33 : decode prog_24_method_10_code 33 = .ok (.getfield 7, 3) := by decide +kernel
theorem d3_36 : decode prog_24_method_10_code 36 = .ok (.iload 4, 2) := by decide +kernel
theorem d3_38 : decode prog_24_method_10_code 38 = .ok (.iload 5, 2) := by decide +kernel
theorem d3_40 : decode prog_24_method_10_code 40 = .ok (.iastore, 1) := by decide +kernel
theorem d3_41 : decode prog_24_method_10_code 41 = .ok (.aload_n 0, 1) := by decide +kernel
theorem d3_42 : decode prog_24_method_10_code 42 = .ok (.getfield 13, 3) := by decide +kernel
theorem d3_45 : decode prog_24_method_10_code 45 = .ok (.aload_n 0, 1) := by decide +kernel
theorem d3_46 : decode prog_24_method_10_code 46 = .ok (.getfield 7, 3) := by decide +kernel
theorem d3_49 : decode prog_24_method_10_code 49 = .ok (.iload_n 3, 1) := by decide +kernel
theorem d3_50 : decode prog_24_method_10_code 50 = .ok (.iaload, 1) := by decide +kernel
theorem d3_51 : decode prog_24_method_10_code 51 = .ok (.iload_n 3, 1) := by decide +kernel
theorem d3_52 : decode prog_24_method_10_code 52 = .ok (.iastore, 1) := by decide +kernel
theorem d3_53 : decode prog_24_method_10_code 53 = .ok (.aload_n 0, 1) := by decide +kernel
theorem d3_54 : decode prog_24_method_10_code 54 = .ok (.getfield 13, 3) := by decide +kernel
theorem d3_57 : decode prog_24_method_10_code 57 = .ok (.aload_n 0, 1) := by decide +kernel
theorem d3_58 : decode prog_24_method_10_code 58 = .ok (.getfield 7, 3) := by decide +kernel
theorem d3_61 : decode prog_24_method_10_code 61 = .ok (.iload 4, 2) := by decide +kernel
theorem d3_63 : decode prog_24_method_10_code 63 = .ok (.iaload, 1) := by decide +kernel
theorem d3_64 : decode prog_24_method_10_code 64 = .ok (.iload 4, 2) := by decide +kernel
theorem d3_66 : decode prog_24_method_10_code 66 = .ok (.iastore, 1) := by decide +kernel
theorem d3_67 : decode prog_24_method_10_code 67 = .ok (.iinc 3 1, 3) := by decide +kernel
theorem d3_70 : decode prog_24_method_10_code 70 = .ok (.iinc 4 (-1), 3) := by decide +kernel
theorem d3_73 : decode prog_24_method_10_code 73 = .ok (.goto (-68), 3) := by decide +kernel
theorem d3_76 : decode prog_24_method_10_code 76 = .ok (.return_, 1) := by decide +kernel
theorem pn_3 : plainFor (⟨"com/example/pilfer/pilfer/Tour", "reverse", "(II)V"⟩ : MethodName) = true := plainFor_of_name (by show plainName "com/example/pilfer/pilfer/Tour" = true; first | (simp [plainName, overriddenIn]; done) | decide +kernel)
theorem ef_3 (m : MethodId) (a1 : Addr) (p2 : Int32) (p3 : Int32) : entryFrame m #[(.ref a1), (.int p2), (.int p3)] 6 = mkF m 0 #[.val (.ref a1), .val (.int p2), .val (.int p3), .unset, .unset, .unset] [] := by first | (simp [entryFrame, mkF, argsToLocals, Value.category]; done) | rfl
def v3_3 (p2 : Int32) (p3 : Int32) (fo : Nat → Int32) (fp : Nat → Int32) : Int32 := (fo (p2).toNatClampNeg)
def w3_7 (p2 : Int32) (p3 : Int32) (fo : Nat → Int32) (fp : Nat → Int32) : Nat → Int32 := upd fo (p2).toNatClampNeg (fo (p3).toNatClampNeg)
def w3_10 (p2 : Int32) (p3 : Int32) (fo : Nat → Int32) (fp : Nat → Int32) : Nat → Int32 := upd (w3_7 p2 p3 fo fp) (p3).toNatClampNeg (v3_3 p2 p3 fo fp)
def w3_14 (p2 : Int32) (p3 : Int32) (fo : Nat → Int32) (fp : Nat → Int32) : Nat → Int32 := upd fp (w3_10 p2 p3 fo fp (p2).toNatClampNeg).toNatClampNeg p2
def w3_18 (p2 : Int32) (p3 : Int32) (fo : Nat → Int32) (fp : Nat → Int32) : Nat → Int32 := upd (w3_14 p2 p3 fo fp) (w3_10 p2 p3 fo fp (p3).toNatClampNeg).toNatClampNeg p3
def v3_19 (p2 : Int32) (p3 : Int32) (fo : Nat → Int32) (fp : Nat → Int32) : Int32 := (p2 + (1 : Int32))
def v3_20 (p2 : Int32) (p3 : Int32) (fo : Nat → Int32) (fp : Nat → Int32) : Int32 := (p3 + (-1 : Int32))
def v3_23 (p2 : Int32) (p3 : Int32) (fo : Nat → Int32) (fp : Nat → Int32) : Int32 := (w3_10 p2 p3 fo fp (v3_19 p2 p3 fo fp).toNatClampNeg)
def w3_27 (p2 : Int32) (p3 : Int32) (fo : Nat → Int32) (fp : Nat → Int32) : Nat → Int32 := upd (w3_10 p2 p3 fo fp) (v3_19 p2 p3 fo fp).toNatClampNeg (w3_10 p2 p3 fo fp (v3_20 p2 p3 fo fp).toNatClampNeg)
def w3_30 (p2 : Int32) (p3 : Int32) (fo : Nat → Int32) (fp : Nat → Int32) : Nat → Int32 := upd (w3_27 p2 p3 fo fp) (v3_20 p2 p3 fo fp).toNatClampNeg (v3_23 p2 p3 fo fp)
def w3_34 (p2 : Int32) (p3 : Int32) (fo : Nat → Int32) (fp : Nat → Int32) : Nat → Int32 := upd (w3_18 p2 p3 fo fp) (w3_30 p2 p3 fo fp (v3_19 p2 p3 fo fp).toNatClampNeg).toNatClampNeg (v3_19 p2 p3 fo fp)
def w3_38 (p2 : Int32) (p3 : Int32) (fo : Nat → Int32) (fp : Nat → Int32) : Nat → Int32 := upd (w3_34 p2 p3 fo fp) (w3_30 p2 p3 fo fp (v3_20 p2 p3 fo fp).toNatClampNeg).toNatClampNeg (v3_20 p2 p3 fo fp)
def v3_39 (p2 : Int32) (p3 : Int32) (fo : Nat → Int32) (fp : Nat → Int32) : Int32 := ((v3_19 p2 p3 fo fp) + (1 : Int32))
def v3_40 (p2 : Int32) (p3 : Int32) (fo : Nat → Int32) (fp : Nat → Int32) : Int32 := ((v3_20 p2 p3 fo fp) + (-1 : Int32))
def f3_ao (p2 : Int32) (p3 : Int32) (fo : Nat → Int32) (fp : Nat → Int32) : Nat → Int32 := (if p2 < p3 then (if (v3_19 p2 p3 fo fp) < (v3_20 p2 p3 fo fp) then (w3_30 p2 p3 fo fp) else (w3_10 p2 p3 fo fp)) else fo)
def f3_aq (p2 : Int32) (p3 : Int32) (fo : Nat → Int32) (fp : Nat → Int32) : Nat → Int32 := (if p2 < p3 then (if (v3_19 p2 p3 fo fp) < (v3_20 p2 p3 fo fp) then (w3_38 p2 p3 fo fp) else (w3_18 p2 p3 fo fp)) else fp)
def Q3 (Z : State) (a1 : Addr) (p2 : Int32) (p3 : Int32) (ao : Addr) (aq : Addr) (fo : Nat → Int32) (fp : Nat → Int32) (h0 : Heap) (n0 : Nat) (v : Option Value) (h : Heap) (L : List Loc) : Prop := v = none ∧ Fr n0 L ∧ Keep h0 h [ao, aq] ∧ AI Z h ao .int 5 (f3_ao p2 p3 fo fp) ∧ AI Z h aq .int 5 (f3_aq p2 p3 fo fp)
theorem d4_0 : decode prog_24_method_9_code 0 = .ok (.aload_n 0, 1) := by decide +kernel
theorem d4_1 : decode prog_24_method_9_code 1 = .ok (.getfield 7, 3) := by decide +kernel
theorem d4_4 : decode prog_24_method_9_code 4 = .ok (.invokevirtual 25, 3) := by decide +kernel
theorem d4_7 : decode prog_24_method_9_code 7 = .ok (.checkcast 26, 3) := by decide +kernel
theorem d4_10 : decode prog_24_method_9_code 10 = .ok (.areturn, 1) := by decide +kernel
theorem pn_4 : plainFor (⟨"com/example/pilfer/pilfer/Tour", "toArray", "()[I"⟩ : MethodName) = true := plainFor_of_name (by show plainName "com/example/pilfer/pilfer/Tour" = true; first | (simp [plainName, overriddenIn]; done) | decide +kernel)
theorem ef_4 (m : MethodId) (a1 : Addr) : entryFrame m #[(.ref a1)] 1 = mkF m 0 #[.val (.ref a1)] [] := by first | (simp [entryFrame, mkF, argsToLocals, Value.category]; done) | rfl
def Q4 (Z : State) (a1 : Addr) (ao : Addr) (fo : Nat → Int32) (h0 : Heap) (n0 : Nat) (v : Option Value) (h : Heap) (L : List Loc) : Prop := ∃ nc : Addr, v = some (.ref nc) ∧ Fr n0 L ∧ Keep h0 h [] ∧ h0.size ≤ nc ∧ AI Z h nc .int 5 fo
theorem d5_0 : decode method_2_code 0 = .ok (.iload_n 1, 1) := by decide +kernel
theorem d5_1 : decode method_2_code 1 = .ok (.iload_n 3, 1) := by decide +kernel
theorem d5_2 : decode method_2_code 2 = .ok (.if_icmp .gt 18, 3) := by decide +kernel
theorem d5_5 : decode method_2_code 5 = .ok (.iload_n 3, 1) := by decide +kernel
theorem d5_6 : decode method_2_code 6 = .ok (.iload_n 2, 1) := by decide +kernel
theorem d5_7 : decode method_2_code 7 = .ok (.if_icmp .gt 13, 3) := by decide +kernel
theorem d5_10 : decode method_2_code 10 = .ok (.aload_n 0, 1) := by decide +kernel
theorem d5_11 : decode method_2_code 11 = .ok (.iload_n 1, 1) := by decide +kernel
theorem d5_12 : decode method_2_code 12 = .ok (.iload_n 2, 1) := by decide +kernel
theorem d5_13 : decode method_2_code 13 = .ok (.iadd, 1) := by decide +kernel
theorem d5_14 : decode method_2_code 14 = .ok (.iload_n 3, 1) := by decide +kernel
theorem d5_15 : decode method_2_code 15 = .ok (.isub, 1) := by decide +kernel
theorem d5_16 : decode method_2_code 16 = .ok (.iaload, 1) := by decide +kernel
theorem d5_17 : decode method_2_code 17 = .ok (.goto 6, 3) := by decide +kernel
theorem d5_20 : decode method_2_code 20 = .ok (.aload_n 0, 1) := by decide +kernel
theorem d5_21 : decode method_2_code 21 = .ok (.iload_n 3, 1) := by decide +kernel
theorem d5_22 : decode method_2_code 22 = .ok (.iaload, 1) := by decide +kernel
theorem d5_23 : decode method_2_code 23 = .ok (.ireturn, 1) := by decide +kernel
theorem pn_5 : plainFor (⟨"com/example/pilfer/pilfer/TourReversePinLaw", "at", "([IIII)I"⟩ : MethodName) = true := plainFor_of_name (by show plainName "com/example/pilfer/pilfer/TourReversePinLaw" = true; first | (simp [plainName, overriddenIn]; done) | decide +kernel)
theorem ef_5 (m : MethodId) (a1 : Addr) (p2 : Int32) (p3 : Int32) (p4 : Int32) : entryFrame m #[(.ref a1), (.int p2), (.int p3), (.int p4)] 4 = mkF m 0 #[.val (.ref a1), .val (.int p2), .val (.int p3), .val (.int p4)] [] := by first | (simp [entryFrame, mkF, argsToLocals, Value.category]; done) | rfl
def f5 (p2 : Int32) (p3 : Int32) (p4 : Int32) (fo : Nat → Int32) : Int32 := (if p4 < p2 then (fo (p4).toNatClampNeg) else (if p3 < p4 then (fo (p4).toNatClampNeg) else (fo ((p2 + p3) - p4).toNatClampNeg)))
theorem d6_0 : decode prog_24_method_4_code 0 = .ok (.aload_n 0, 1) := by decide +kernel
theorem d6_1 : decode prog_24_method_4_code 1 = .ok (.getfield 13, 3) := by decide +kernel
theorem d6_4 : decode prog_24_method_4_code 4 = .ok (.iload_n 1, 1) := by decide +kernel
theorem d6_5 : decode prog_24_method_4_code 5 = .ok (.iaload, 1) := by decide +kernel
theorem d6_6 : decode prog_24_method_4_code 6 = .ok (.ireturn, 1) := by decide +kernel
theorem pn_6 : plainFor (⟨"com/example/pilfer/pilfer/Tour", "position", "(I)I"⟩ : MethodName) = true := plainFor_of_name (by show plainName "com/example/pilfer/pilfer/Tour" = true; first | (simp [plainName, overriddenIn]; done) | decide +kernel)
theorem ef_6 (m : MethodId) (a1 : Addr) (p2 : Int32) : entryFrame m #[(.ref a1), (.int p2)] 2 = mkF m 0 #[.val (.ref a1), .val (.int p2)] [] := by first | (simp [entryFrame, mkF, argsToLocals, Value.category]; done) | rfl
def f6 (p2 : Int32) (fp : Nat → Int32) : Int32 := (fp (p2).toNatClampNeg)
theorem d7_0 : decode method_3_code 0 = .ok (.iload_n 0, 1) := by decide +kernel
theorem d7_1 : decode method_3_code 1 = .ok (.iload_n 2, 1) := by decide +kernel
theorem d7_2 : decode method_3_code 2 = .ok (.if_icmp .gt 16, 3) := by decide +kernel
theorem d7_5 : decode method_3_code 5 = .ok (.iload_n 2, 1) := by decide +kernel
theorem d7_6 : decode method_3_code 6 = .ok (.iload_n 1, 1) := by decide +kernel
theorem d7_7 : decode method_3_code 7 = .ok (.if_icmp .gt 11, 3) := by decide +kernel
theorem d7_10 : decode method_3_code 10 = .ok (.iload_n 0, 1) := by decide +kernel
theorem d7_11 : decode method_3_code 11 = .ok (.iload_n 1, 1) := by decide +kernel
theorem d7_12 : decode method_3_code 12 = .ok (.iadd, 1) := by decide +kernel
theorem d7_13 : decode method_3_code 13 = .ok (.iload_n 2, 1) := by decide +kernel
theorem d7_14 : decode method_3_code 14 = .ok (.isub, 1) := by decide +kernel
theorem d7_15 : decode method_3_code 15 = .ok (.goto 4, 3) := by decide +kernel
theorem d7_18 : decode method_3_code 18 = .ok (.iload_n 2, 1) := by decide +kernel
theorem d7_19 : decode method_3_code 19 = .ok (.ireturn, 1) := by decide +kernel
theorem pn_7 : plainFor (⟨"com/example/pilfer/pilfer/TourReversePinLaw", "newPos", "(III)I"⟩ : MethodName) = true := plainFor_of_name (by show plainName "com/example/pilfer/pilfer/TourReversePinLaw" = true; first | (simp [plainName, overriddenIn]; done) | decide +kernel)
theorem ef_7 (m : MethodId) (p1 : Int32) (p2 : Int32) (p3 : Int32) : entryFrame m #[(.int p1), (.int p2), (.int p3)] 3 = mkF m 0 #[.val (.int p1), .val (.int p2), .val (.int p3)] [] := by first | (simp [entryFrame, mkF, argsToLocals, Value.category]; done) | rfl
def f7 (p1 : Int32) (p2 : Int32) (p3 : Int32) : Int32 := (if p3 < p1 then p3 else (if p2 < p3 then p3 else ((p1 + p2) - p3)))
theorem pn_0 : plainFor x = true := plainFor_of_name (by show plainName "com/example/pilfer/pilfer/TourReversePinLaw" = true; first | (simp [plainName, overriddenIn]; done) | decide +kernel)
theorem ef_0 (m : MethodId) (p1 : Int32) (p2 : Int32) (p3 : Int32) (p4 : Int32) : entryFrame m #[(.int p1), (.int p2), (.int p3), (.int p4)] maxLocals = mkF m 0 #[.val (.int p1), .val (.int p2), .val (.int p3), .val (.int p4), .unset, .unset, .unset, .unset, .unset, .unset, .unset, .unset, .unset] [] := by first | (simp [entryFrame, mkF, argsToLocals, Value.category, maxLocals]; done) | rfl
def w0_2 (kk : Int32) (ss : Int32) (fr : Int32) (tt : Int32) : Nat → Int32 := fun _ => 0
def w0_4 (kk : Int32) (ss : Int32) (fr : Int32) (tt : Int32) : Nat → Int32 := fun _ => 0
def w0_6 (kk : Int32) (ss : Int32) (fr : Int32) (tt : Int32) : Nat → Int32 := upd (w0_4 kk ss fr tt) 0 ss
def w0_8 (kk : Int32) (ss : Int32) (fr : Int32) (tt : Int32) : Nat → Int32 := upd (w0_6 kk ss fr tt) 1 ((kk + ss) % (5 : Int32))
def w0_10 (kk : Int32) (ss : Int32) (fr : Int32) (tt : Int32) : Nat → Int32 := upd (w0_8 kk ss fr tt) 2 ((((2 : Int32) * kk) + ss) % (5 : Int32))
def w0_12 (kk : Int32) (ss : Int32) (fr : Int32) (tt : Int32) : Nat → Int32 := upd (w0_10 kk ss fr tt) 3 ((((3 : Int32) * kk) + ss) % (5 : Int32))
def w0_14 (kk : Int32) (ss : Int32) (fr : Int32) (tt : Int32) : Nat → Int32 := upd (w0_12 kk ss fr tt) 4 ((((4 : Int32) * kk) + ss) % (5 : Int32))
def w0_16 (kk : Int32) (ss : Int32) (fr : Int32) (tt : Int32) : Nat → Int32 := upd (w0_2 kk ss fr tt) 0 (w0_14 kk ss fr tt 0)
def w0_18 (kk : Int32) (ss : Int32) (fr : Int32) (tt : Int32) : Nat → Int32 := upd (w0_16 kk ss fr tt) 1 (w0_14 kk ss fr tt 1)
def w0_20 (kk : Int32) (ss : Int32) (fr : Int32) (tt : Int32) : Nat → Int32 := upd (w0_18 kk ss fr tt) 2 (w0_14 kk ss fr tt 2)
def w0_22 (kk : Int32) (ss : Int32) (fr : Int32) (tt : Int32) : Nat → Int32 := upd (w0_20 kk ss fr tt) 3 (w0_14 kk ss fr tt 3)
def w0_24 (kk : Int32) (ss : Int32) (fr : Int32) (tt : Int32) : Nat → Int32 := upd (w0_22 kk ss fr tt) 4 (w0_14 kk ss fr tt 4)
def v0_32 (kk : Int32) (ss : Int32) (fr : Int32) (tt : Int32) : Int32 := (if ((f3_ao fr tt (w0_24 kk ss fr tt) (f1_np (w0_24 kk ss fr tt))) 0) = (f5 fr tt (0 : Int32) (w0_14 kk ss fr tt)) then (1 : Int32) else (0 : Int32))
def v0_37 (kk : Int32) (ss : Int32) (fr : Int32) (tt : Int32) : Int32 := (if (v0_32 kk ss fr tt) = (0 : Int32) then (0 : Int32) else (if ((f3_ao fr tt (w0_24 kk ss fr tt) (f1_np (w0_24 kk ss fr tt))) 1) = (f5 fr tt (1 : Int32) (w0_14 kk ss fr tt)) then (1 : Int32) else (0 : Int32)))
def v0_42 (kk : Int32) (ss : Int32) (fr : Int32) (tt : Int32) : Int32 := (if (v0_37 kk ss fr tt) = (0 : Int32) then (0 : Int32) else (if ((f3_ao fr tt (w0_24 kk ss fr tt) (f1_np (w0_24 kk ss fr tt))) 2) = (f5 fr tt (2 : Int32) (w0_14 kk ss fr tt)) then (1 : Int32) else (0 : Int32)))
def v0_47 (kk : Int32) (ss : Int32) (fr : Int32) (tt : Int32) : Int32 := (if (v0_42 kk ss fr tt) = (0 : Int32) then (0 : Int32) else (if ((f3_ao fr tt (w0_24 kk ss fr tt) (f1_np (w0_24 kk ss fr tt))) 3) = (f5 fr tt (3 : Int32) (w0_14 kk ss fr tt)) then (1 : Int32) else (0 : Int32)))
def v0_52 (kk : Int32) (ss : Int32) (fr : Int32) (tt : Int32) : Int32 := (if (v0_47 kk ss fr tt) = (0 : Int32) then (0 : Int32) else (if ((f3_ao fr tt (w0_24 kk ss fr tt) (f1_np (w0_24 kk ss fr tt))) 4) = (f5 fr tt (4 : Int32) (w0_14 kk ss fr tt)) then (1 : Int32) else (0 : Int32)))
def v0_58 (kk : Int32) (ss : Int32) (fr : Int32) (tt : Int32) : Int32 := (if (v0_52 kk ss fr tt) = (0 : Int32) then (0 : Int32) else (if (f6 (w0_14 kk ss fr tt 0) (f3_aq fr tt (w0_24 kk ss fr tt) (f1_np (w0_24 kk ss fr tt)))) = (f7 fr tt (0 : Int32)) then (1 : Int32) else (0 : Int32)))
def v0_64 (kk : Int32) (ss : Int32) (fr : Int32) (tt : Int32) : Int32 := (if (v0_58 kk ss fr tt) = (0 : Int32) then (0 : Int32) else (if (f6 (w0_14 kk ss fr tt 1) (f3_aq fr tt (w0_24 kk ss fr tt) (f1_np (w0_24 kk ss fr tt)))) = (f7 fr tt (1 : Int32)) then (1 : Int32) else (0 : Int32)))
def v0_70 (kk : Int32) (ss : Int32) (fr : Int32) (tt : Int32) : Int32 := (if (v0_64 kk ss fr tt) = (0 : Int32) then (0 : Int32) else (if (f6 (w0_14 kk ss fr tt 2) (f3_aq fr tt (w0_24 kk ss fr tt) (f1_np (w0_24 kk ss fr tt)))) = (f7 fr tt (2 : Int32)) then (1 : Int32) else (0 : Int32)))
def v0_76 (kk : Int32) (ss : Int32) (fr : Int32) (tt : Int32) : Int32 := (if (v0_70 kk ss fr tt) = (0 : Int32) then (0 : Int32) else (if (f6 (w0_14 kk ss fr tt 3) (f3_aq fr tt (w0_24 kk ss fr tt) (f1_np (w0_24 kk ss fr tt)))) = (f7 fr tt (3 : Int32)) then (1 : Int32) else (0 : Int32)))
def v0_82 (kk : Int32) (ss : Int32) (fr : Int32) (tt : Int32) : Int32 := (if (v0_76 kk ss fr tt) = (0 : Int32) then (0 : Int32) else (if (f6 (w0_14 kk ss fr tt 4) (f3_aq fr tt (w0_24 kk ss fr tt) (f1_np (w0_24 kk ss fr tt)))) = (f7 fr tt (4 : Int32)) then (1 : Int32) else (0 : Int32)))
def f0 (kk : Int32) (ss : Int32) (fr : Int32) (tt : Int32) : Int32 := (nar .boolean (v0_82 kk ss fr tt))
def Q0 (Z : State) (p1 : Int32) (p2 : Int32) (p3 : Int32) (p4 : Int32) (kk : Int32) (ss : Int32) (fr : Int32) (tt : Int32) (h0 : Heap) (n0 : Nat) (v : Option Value) (h : Heap) (L : List Loc) : Prop := v = some (.int (f0 kk ss fr tt)) ∧ Fr n0 L ∧ Keep h0 h []
theorem own_cs {x : Int32} {a b : Nat} (h0 : (a : Int) ≤ x.toInt) (h1 : x.toInt ≤ b) (hb : b < 2147483648) : ∃ i, a ≤ i ∧ i ≤ b ∧ x = Int32.ofNat i := by
  refine ⟨x.toInt.toNat, by omega, by omega, ?_⟩
  apply Int32.toInt_inj.mp
  rw [own_toInt (by omega)]; omega
theorem own_tab : ∀ a : Fin 4, ∀ b : Fin 5, ∀ j : Fin 5, inb (w0_14 (Int32.ofNat (a.val + 1)) (Int32.ofNat b.val) 0 0 j.val) 5 ∧ inb (w0_24 (Int32.ofNat (a.val + 1)) (Int32.ofNat b.val) 0 0 j.val) 5 := by
  unfold inb
  decide +kernel
theorem own_w0_14 (kk ss fr tt : Int32) (rk : own_rk kk) (rs : own_rs ss) : ∀ j, j < 5 → inb (w0_14 kk ss fr tt j) 5 := by
  intro j hj
  obtain ⟨a, a1, a2, rfl⟩ := own_cs (a := 1) (b := 4) rk.1 rk.2 (by decide)
  obtain ⟨b, b1, b2, rfl⟩ := own_cs (a := 0) (b := 4) rs.1 rs.2 (by decide)
  have := (own_tab ⟨a - 1, by omega⟩ ⟨b, by omega⟩ ⟨j, hj⟩).1
  simp only [show a - 1 + 1 = a by omega] at this
  exact this
theorem own_w0_24 (kk ss fr tt : Int32) (rk : own_rk kk) (rs : own_rs ss) : ∀ j, j < 5 → inb (w0_24 kk ss fr tt j) 5 := by
  intro j hj
  obtain ⟨a, a1, a2, rfl⟩ := own_cs (a := 1) (b := 4) rk.1 rk.2 (by decide)
  obtain ⟨b, b1, b2, rfl⟩ := own_cs (a := 0) (b := 4) rs.1 rs.2 (by decide)
  have := (own_tab ⟨a - 1, by omega⟩ ⟨b, by omega⟩ ⟨j, hj⟩).2
  simp only [show a - 1 + 1 = a by omega] at this
  exact this
theorem own_big : ∀ a : Fin 4, ∀ b : Fin 5, ∀ u : Fin 5, ∀ v : Fin 5, 1 ≤ u.val → u.val ≤ v.val → f0 (Int32.ofNat (a.val + 1)) (Int32.ofNat b.val) (Int32.ofNat u.val) (Int32.ofNat v.val) = 1 := by decide +kernel
theorem own_law (kk ss fr tt : Int32) (rk : own_rk kk) (rs : own_rs ss) (rf : own_rng fr tt) : f0 kk ss fr tt = 1 := by
  obtain ⟨r1, r2, r3⟩ := rf
  obtain ⟨a, a1, a2, rfl⟩ := own_cs (a := 1) (b := 4) rk.1 rk.2 (by decide)
  obtain ⟨b, b1, b2, rfl⟩ := own_cs (a := 0) (b := 4) rs.1 rs.2 (by decide)
  obtain ⟨u, u1, u2, rfl⟩ := own_cs (x := fr) (a := 1) (b := 4) r1 (by omega) (by decide)
  obtain ⟨v, v1, v2, rfl⟩ := own_cs (x := tt) (a := 1) (b := 4) (by omega) r3 (by decide)
  rw [own_toInt (by omega), own_toInt (by omega)] at r2
  have := own_big ⟨a - 1, by omega⟩ ⟨b, by omega⟩ ⟨u, by omega⟩ ⟨v, by omega⟩ u1 (by show u ≤ v; omega)
  simp only [show a - 1 + 1 = a by omega] at this
  exact this
def own_K (p1 : Int32) : Int32 := ((1 : Int32) + ((p1 &&& (2147483647 : Int32)) % (4 : Int32)))
def own_S (p2 : Int32) : Int32 := ((p2 &&& (2147483647 : Int32)) % (5 : Int32))
def own_F (p3 : Int32) : Int32 := ((1 : Int32) + ((p3 &&& (2147483647 : Int32)) % (4 : Int32)))
def own_T (p3 p4 : Int32) : Int32 := ((own_F p3) + ((p4 &&& (2147483647 : Int32)) % ((5 : Int32) - (own_F p3))))
theorem own_pos (x : Int32) : 0 ≤ (x &&& 2147483647).toInt := by
  have a1 : (x &&& 2147483647).toInt = x.toInt % (2 ^ 31 : Nat) := c_mask x 2147483647 31 (by decide) (by decide)
  omega
theorem own_kr (x : Int32) : own_rk (own_K x) := by
  have m1 : ((x &&& 2147483647) % 4).toInt = (x &&& 2147483647).toInt % 4 := (c_irem (x &&& 2147483647) 4 4 rfl).1 (own_pos x)
  have e : ((own_K x).toInt - (1 + ((x &&& 2147483647) % 4).toInt)) % 4294967296 = 0 := c_iadd 1 _
  have r := rng32 (own_K x)
  exact ⟨by omega, by omega⟩
theorem own_sr (x : Int32) : own_rs (own_S x) := by
  have m1 : (own_S x).toInt = (x &&& 2147483647).toInt % 5 := (c_irem (x &&& 2147483647) 5 5 rfl).1 (own_pos x)
  exact ⟨by omega, by omega⟩
theorem own_fr (x y : Int32) : own_rng (own_F x) (own_T x y) := by
  have m1 : ((x &&& 2147483647) % 4).toInt = (x &&& 2147483647).toInt % 4 := (c_irem (x &&& 2147483647) 4 4 rfl).1 (own_pos x)
  have e : ((own_F x).toInt - (1 + ((x &&& 2147483647) % 4).toInt)) % 4294967296 = 0 := c_iadd 1 _
  have r := rng32 (own_F x)
  have e2 : ((5 - own_F x).toInt - (5 - (own_F x).toInt)) % 4294967296 = 0 := c_isub 5 _
  have r2 := rng32 (5 - own_F x)
  obtain ⟨b1, b2, -⟩ := (c_iremV (y &&& 2147483647) (5 - own_F x)).1 (own_pos y) (by omega)
  have e3 : ((own_T x y).toInt - ((own_F x).toInt + ((y &&& 2147483647) % (5 - own_F x)).toInt)) % 4294967296 = 0 := c_iadd _ _
  have r3 := rng32 (own_T x y)
  exact ⟨by omega, by omega, by omega⟩
set_option maxRecDepth 65536 in
set_option maxHeartbeats 40000000 in
theorem rm1 (l : Launch) (Z : State) (a0 : Array Value) (hw : ∀ d ∈ tables_1, d.before a0 Z = true) (ws : List Jvm.Cond) (a1 : Addr) (a2 : Addr) (fo : Nat → Int32) (h0 : Heap) (n0 : Nat) (Z0 : n0 ≤ h0.size) (E_a1 : Exa Z h0 a1 "com/example/pilfer/pilfer/Tour") (F_a1_order : Fld Z h0 a1 "com/example/pilfer/pilfer/Tour" "order" "[I" .null) (F_a1_position : Fld Z h0 a1 "com/example/pilfer/pilfer/Tour" "position" "[I" .null) (A_a2 : AI Z h0 a2 .int 5 fo) (g_a1 : n0 ≤ a1) (ne_a1_a2 : a1 ≠ a2) (hfo : ∀ j, j < 5 → inb (fo j) 5) :
    Con l Z (⟨"com/example/pilfer/pilfer/Tour", "<init>", "([I)V"⟩ : MethodName) prog_24_method_1_code 3 none ws ({ frames := 1, cells := 1, slots := 5, locals := 12 } : Room) #[(.ref a1), (.ref a2)] h0 (Q1 Z a1 a2 fo h0 n0) := by
  refine own_body pn_1 (fun m => ef_1 m a1 a2) ?_
  intro p e s m below meth c T0 W X0 hx hby hml hret hlk hown hnm hZ e0 hW
  have K : Keep h0 h0 [a1] := Keep.refl _ _
  have N := Fr.nil n0
  show Go p e below W T0 (mkF m 0 #[.val (.ref a1), .val (.ref a2), .unset] [])
  refine Go.of (fun _ k => XS.aloadN X0.here hx rfl (hb hby d1_0) rfl rfl k) ?_
  show Go p e below W T0 (mkF m 1 #[.val (.ref a1), .val (.ref a2), .unset] [(.ref a1)])
  refine Go.initO X0 hx hZ hown (hw _ (List.mem_of_getElem? (i := 8) rfl)) (hw _ (List.mem_of_getElem? (i := 9) rfl)) (hw _ (List.mem_of_getElem? (i := 10) rfl)) e0 (by rw [hml]; rfl) (hb hby d1_1) (by decide) (V := 0) (Nat.le_of_ble_eq_true rfl) (by decide) ?_
  intro T1 X1 e1
  show Go p e below W T1 (mkF m 4 #[.val (.ref a1), .val (.ref a2), .unset] [])
  refine Go.of (fun _ k => XS.aloadN X1.here hx rfl (hb hby d1_4) rfl rfl k) ?_
  show Go p e below W T1 (mkF m 5 #[.val (.ref a1), .val (.ref a2), .unset] [(.ref a1)])
  refine Go.of (fun _ k => XS.aloadN X1.here hx rfl (hb hby d1_5) rfl rfl k) ?_
  show Go p e below W T1 (mkF m 6 #[.val (.ref a1), .val (.ref a2), .unset] [(.ref a2), (.ref a1)])
  refine Go.putF X1 hx hZ hown (hw _ (List.mem_of_getElem? (i := 11) rfl)) e1 N g_a1 F_a1_order E_a1 (Or.inr ⟨(hw _ (List.mem_of_getElem? (i := 12) rfl)), rfl, hnm⟩) (hw _ (List.mem_of_getElem? (i := 3) rfl)) (ty := (.array .int)) (by decide) (v' := (.ref a2)) rfl rfl (hb hby d1_6) ?_
  intro T2 h2 L2 X2 N e2 W2 F_a1_order
  have E_a1 := E_a1.wr W2
  have F_a1_position := F_a1_position.other W2 (Or.inr (slot_ne (Or.inr (hw _ (List.mem_of_getElem? (i := 14) rfl))) (Or.inr (hw _ (List.mem_of_getElem? (i := 12) rfl))) (by decide) (t := (.array .int)) (t' := (.array .int)) (by decide) (by decide)))
  have A_a2 := A_a2.other W2 (Ne.symm ne_a1_a2)
  have K := K.wr W2 (Or.inl (List.mem_of_getElem? (i := 0) rfl))
  have Z0 := Nat.le_trans Z0 (Keep.of_wr W2).1
  show Go p e below W T2 (mkF m 9 #[.val (.ref a1), .val (.ref a2), .unset] [])
  refine Go.of (fun _ k => XS.aloadN X2.here hx rfl (hb hby d1_9) rfl rfl k) ?_
  show Go p e below W T2 (mkF m 10 #[.val (.ref a1), .val (.ref a2), .unset] [(.ref a1)])
  refine Go.of (fun _ k => XS.aloadN X2.here hx rfl (hb hby d1_10) rfl rfl k) ?_
  show Go p e below W T2 (mkF m 11 #[.val (.ref a1), .val (.ref a2), .unset] [(.ref a2), (.ref a1)])
  refine Go.alen X2 hx hZ e2 A_a2 (hb hby d1_11) ?_
  show Go p e below W T2 (mkF m 12 #[.val (.ref a1), .val (.ref a2), .unset] [(.int (5 : Int32)), (.ref a1)])
  refine Go.newA X2 hx hZ (hw _ (List.mem_of_getElem? (i := 1) rfl)) rfl rfl rfl e2 (hb hby d1_12) (by decide) (cap := 5) (by decide) (by decide) (by decide) (by decide) ?_
  intro T3 h3 b3 zq3 X3 e3 E3 E_b3 A_b3
  have ne_a1_b3 : a1 ≠ b3 := by rw [zq3]; exact Nat.ne_of_lt E_a1.lt
  have ne_a2_b3 : a2 ≠ b3 := by rw [zq3]; exact Nat.ne_of_lt A_a2.lt
  have g_b3 : n0 ≤ b3 := by rw [zq3]; exact Z0
  have s_b3 : h0.size ≤ b3 := by rw [zq3]; exact K.1
  have E_a1 := E_a1.ext E3
  have F_a1_order := F_a1_order.ext E3
  have F_a1_position := F_a1_position.ext E3
  have A_a2 := A_a2.ext E3
  have K := K.ext E3
  have Z0 := Nat.le_trans Z0 E3.1
  have A_b3 : AI Z h3 b3 .int 5 (w1_4 fo) := A_b3
  show Go p e below W T3 (mkF m 14 #[.val (.ref a1), .val (.ref a2), .unset] [(.ref b3), (.ref a1)])
  refine Go.putF X3 hx hZ hown (hw _ (List.mem_of_getElem? (i := 13) rfl)) e3 N g_a1 F_a1_position E_a1 (Or.inr ⟨(hw _ (List.mem_of_getElem? (i := 14) rfl)), rfl, hnm⟩) (hw _ (List.mem_of_getElem? (i := 3) rfl)) (ty := (.array .int)) (by decide) (v' := (.ref b3)) rfl rfl (hb hby d1_14) ?_
  intro T5 h5 L5 X5 N e5 W5 F_a1_position
  have E_a1 := E_a1.wr W5
  have F_a1_order := F_a1_order.other W5 (Or.inr (slot_ne (Or.inr (hw _ (List.mem_of_getElem? (i := 12) rfl))) (Or.inr (hw _ (List.mem_of_getElem? (i := 14) rfl))) (by decide) (t := (.array .int)) (t' := (.array .int)) (by decide) (by decide)))
  have A_a2 := A_a2.other W5 (Ne.symm ne_a1_a2)
  have A_b3 := A_b3.other W5 (Ne.symm ne_a1_b3)
  have K := K.wr W5 (Or.inl (List.mem_of_getElem? (i := 0) rfl))
  have Z0 := Nat.le_trans Z0 (Keep.of_wr W5).1
  show Go p e below W T5 (mkF m 17 #[.val (.ref a1), .val (.ref a2), .unset] [])
  refine Go.of (fun _ k => XS.iconst X5.here hx rfl (hb hby d1_17) k) ?_
  show Go p e below W T5 (mkF m 18 #[.val (.ref a1), .val (.ref a2), .unset] [(.int (0 : Int32))])
  refine Go.of (fun _ k => XS.istoreN X5.here hx rfl (hb hby d1_18) rfl (l' := #[.val (.ref a1), .val (.ref a2), .val (.int (0 : Int32))]) rfl k) ?_
  show Go p e below W T5 (mkF m 19 #[.val (.ref a1), .val (.ref a2), .val (.int (0 : Int32))] [])
  refine Go.of (fun _ k => XS.iloadN X5.here hx rfl (hb hby d1_19) rfl k) ?_
  show Go p e below W T5 (mkF m 20 #[.val (.ref a1), .val (.ref a2), .val (.int (0 : Int32))] [(.int (0 : Int32))])
  refine Go.of (fun _ k => XS.aloadN X5.here hx rfl (hb hby d1_20) rfl rfl k) ?_
  show Go p e below W T5 (mkF m 21 #[.val (.ref a1), .val (.ref a2), .val (.int (0 : Int32))] [(.ref a2), (.int (0 : Int32))])
  refine Go.alen X5 hx hZ e5 A_a2 (hb hby d1_21) ?_
  show Go p e below W T5 (mkF m 22 #[.val (.ref a1), .val (.ref a2), .val (.int (0 : Int32))] [(.int (5 : Int32)), (.int (0 : Int32))])
  refine Go.of (fun _ k => XS.icmpNo X5.here hx rfl (hb hby d1_22) rfl (Jvm.Free.XT.ii_ge_f (by decide)) k) ?_
  show Go p e below W T5 (mkF m 25 #[.val (.ref a1), .val (.ref a2), .val (.int (0 : Int32))] [])
  refine Go.of (fun _ k => XS.aloadN X5.here hx rfl (hb hby d1_25) rfl rfl k) ?_
  show Go p e below W T5 (mkF m 26 #[.val (.ref a1), .val (.ref a2), .val (.int (0 : Int32))] [(.ref a1)])
  refine Go.getF X5 hx hZ hown (hw _ (List.mem_of_getElem? (i := 13) rfl)) e5 F_a1_position (hb hby d1_26) ?_
  intro T6 X6 e6
  show Go p e below W T6 (mkF m 29 #[.val (.ref a1), .val (.ref a2), .val (.int (0 : Int32))] [(.ref b3)])
  refine Go.of (fun _ k => XS.aloadN X6.here hx rfl (hb hby d1_29) rfl rfl k) ?_
  show Go p e below W T6 (mkF m 30 #[.val (.ref a1), .val (.ref a2), .val (.int (0 : Int32))] [(.ref a2), (.ref b3)])
  refine Go.of (fun _ k => XS.iloadN X6.here hx rfl (hb hby d1_30) rfl k) ?_
  show Go p e below W T6 (mkF m 31 #[.val (.ref a1), .val (.ref a2), .val (.int (0 : Int32))] [(.int (0 : Int32)), (.ref a2), (.ref b3)])
  refine Go.iald X6 hx hZ e6 A_a2 ⟨by decide, by decide⟩ (hb hby d1_31) ?_
  show Go p e below W T6 (mkF m 32 #[.val (.ref a1), .val (.ref a2), .val (.int (0 : Int32))] [(.int (fo 0)), (.ref b3)])
  refine Go.of (fun _ k => XS.iloadN X6.here hx rfl (hb hby d1_32) rfl k) ?_
  show Go p e below W T6 (mkF m 33 #[.val (.ref a1), .val (.ref a2), .val (.int (0 : Int32))] [(.int (0 : Int32)), (.int (fo 0)), (.ref b3)])
  refine Go.ist X6 hx hZ e6 N g_b3 A_b3 (hfo 0 (⟨by decide, by decide⟩ : inb (0 : Int32) 5).2) (hb hby d1_33) ?_
  intro T7 h7 L7 X7 N e7 W7 A_b3
  have E_a1 := E_a1.wr W7
  have F_a1_order := F_a1_order.other W7 (Or.inl ne_a1_b3)
  have F_a1_position := F_a1_position.other W7 (Or.inl ne_a1_b3)
  have A_a2 := A_a2.other W7 ne_a2_b3
  have K := K.wr W7 (Or.inr s_b3)
  have Z0 := Nat.le_trans Z0 (Keep.of_wr W7).1
  have A_b3 : AI Z h7 b3 .int 5 (w1_8 fo) := A_b3
  show Go p e below W T7 (mkF m 34 #[.val (.ref a1), .val (.ref a2), .val (.int (0 : Int32))] [])
  refine Go.of (fun _ k => XS.iinc X7.here hx rfl (hb hby d1_34) rfl (l' := #[.val (.ref a1), .val (.ref a2), .val (.int (1 : Int32))]) rfl k) ?_
  show Go p e below W T7 (mkF m 37 #[.val (.ref a1), .val (.ref a2), .val (.int (1 : Int32))] [])
  refine Go.of (fun _ k => XS.goto X7.here hx rfl (pc0 := 37) (pc' := 19) rfl (hb hby d1_37) (by decide) (by decide) k) ?_
  show Go p e below W T7 (mkF m 19 #[.val (.ref a1), .val (.ref a2), .val (.int (1 : Int32))] [])
  refine Go.of (fun _ k => XS.iloadN X7.here hx rfl (hb hby d1_19) rfl k) ?_
  show Go p e below W T7 (mkF m 20 #[.val (.ref a1), .val (.ref a2), .val (.int (1 : Int32))] [(.int (1 : Int32))])
  refine Go.of (fun _ k => XS.aloadN X7.here hx rfl (hb hby d1_20) rfl rfl k) ?_
  show Go p e below W T7 (mkF m 21 #[.val (.ref a1), .val (.ref a2), .val (.int (1 : Int32))] [(.ref a2), (.int (1 : Int32))])
  refine Go.alen X7 hx hZ e7 A_a2 (hb hby d1_21) ?_
  show Go p e below W T7 (mkF m 22 #[.val (.ref a1), .val (.ref a2), .val (.int (1 : Int32))] [(.int (5 : Int32)), (.int (1 : Int32))])
  refine Go.of (fun _ k => XS.icmpNo X7.here hx rfl (hb hby d1_22) rfl (Jvm.Free.XT.ii_ge_f (by decide)) k) ?_
  show Go p e below W T7 (mkF m 25 #[.val (.ref a1), .val (.ref a2), .val (.int (1 : Int32))] [])
  refine Go.of (fun _ k => XS.aloadN X7.here hx rfl (hb hby d1_25) rfl rfl k) ?_
  show Go p e below W T7 (mkF m 26 #[.val (.ref a1), .val (.ref a2), .val (.int (1 : Int32))] [(.ref a1)])
  refine Go.getF X7 hx hZ hown (hw _ (List.mem_of_getElem? (i := 13) rfl)) e7 F_a1_position (hb hby d1_26) ?_
  intro T9 X9 e9
  show Go p e below W T9 (mkF m 29 #[.val (.ref a1), .val (.ref a2), .val (.int (1 : Int32))] [(.ref b3)])
  refine Go.of (fun _ k => XS.aloadN X9.here hx rfl (hb hby d1_29) rfl rfl k) ?_
  show Go p e below W T9 (mkF m 30 #[.val (.ref a1), .val (.ref a2), .val (.int (1 : Int32))] [(.ref a2), (.ref b3)])
  refine Go.of (fun _ k => XS.iloadN X9.here hx rfl (hb hby d1_30) rfl k) ?_
  show Go p e below W T9 (mkF m 31 #[.val (.ref a1), .val (.ref a2), .val (.int (1 : Int32))] [(.int (1 : Int32)), (.ref a2), (.ref b3)])
  refine Go.iald X9 hx hZ e9 A_a2 ⟨by decide, by decide⟩ (hb hby d1_31) ?_
  show Go p e below W T9 (mkF m 32 #[.val (.ref a1), .val (.ref a2), .val (.int (1 : Int32))] [(.int (fo 1)), (.ref b3)])
  refine Go.of (fun _ k => XS.iloadN X9.here hx rfl (hb hby d1_32) rfl k) ?_
  show Go p e below W T9 (mkF m 33 #[.val (.ref a1), .val (.ref a2), .val (.int (1 : Int32))] [(.int (1 : Int32)), (.int (fo 1)), (.ref b3)])
  refine Go.ist X9 hx hZ e9 N g_b3 A_b3 (hfo 1 (⟨by decide, by decide⟩ : inb (1 : Int32) 5).2) (hb hby d1_33) ?_
  intro T10 h10 L10 X10 N e10 W10 A_b3
  have E_a1 := E_a1.wr W10
  have F_a1_order := F_a1_order.other W10 (Or.inl ne_a1_b3)
  have F_a1_position := F_a1_position.other W10 (Or.inl ne_a1_b3)
  have A_a2 := A_a2.other W10 ne_a2_b3
  have K := K.wr W10 (Or.inr s_b3)
  have Z0 := Nat.le_trans Z0 (Keep.of_wr W10).1
  have A_b3 : AI Z h10 b3 .int 5 (w1_11 fo) := A_b3
  show Go p e below W T10 (mkF m 34 #[.val (.ref a1), .val (.ref a2), .val (.int (1 : Int32))] [])
  refine Go.of (fun _ k => XS.iinc X10.here hx rfl (hb hby d1_34) rfl (l' := #[.val (.ref a1), .val (.ref a2), .val (.int (2 : Int32))]) rfl k) ?_
  show Go p e below W T10 (mkF m 37 #[.val (.ref a1), .val (.ref a2), .val (.int (2 : Int32))] [])
  refine Go.of (fun _ k => XS.goto X10.here hx rfl (pc0 := 37) (pc' := 19) rfl (hb hby d1_37) (by decide) (by decide) k) ?_
  show Go p e below W T10 (mkF m 19 #[.val (.ref a1), .val (.ref a2), .val (.int (2 : Int32))] [])
  refine Go.of (fun _ k => XS.iloadN X10.here hx rfl (hb hby d1_19) rfl k) ?_
  show Go p e below W T10 (mkF m 20 #[.val (.ref a1), .val (.ref a2), .val (.int (2 : Int32))] [(.int (2 : Int32))])
  refine Go.of (fun _ k => XS.aloadN X10.here hx rfl (hb hby d1_20) rfl rfl k) ?_
  show Go p e below W T10 (mkF m 21 #[.val (.ref a1), .val (.ref a2), .val (.int (2 : Int32))] [(.ref a2), (.int (2 : Int32))])
  refine Go.alen X10 hx hZ e10 A_a2 (hb hby d1_21) ?_
  show Go p e below W T10 (mkF m 22 #[.val (.ref a1), .val (.ref a2), .val (.int (2 : Int32))] [(.int (5 : Int32)), (.int (2 : Int32))])
  refine Go.of (fun _ k => XS.icmpNo X10.here hx rfl (hb hby d1_22) rfl (Jvm.Free.XT.ii_ge_f (by decide)) k) ?_
  show Go p e below W T10 (mkF m 25 #[.val (.ref a1), .val (.ref a2), .val (.int (2 : Int32))] [])
  refine Go.of (fun _ k => XS.aloadN X10.here hx rfl (hb hby d1_25) rfl rfl k) ?_
  show Go p e below W T10 (mkF m 26 #[.val (.ref a1), .val (.ref a2), .val (.int (2 : Int32))] [(.ref a1)])
  refine Go.getF X10 hx hZ hown (hw _ (List.mem_of_getElem? (i := 13) rfl)) e10 F_a1_position (hb hby d1_26) ?_
  intro T12 X12 e12
  show Go p e below W T12 (mkF m 29 #[.val (.ref a1), .val (.ref a2), .val (.int (2 : Int32))] [(.ref b3)])
  refine Go.of (fun _ k => XS.aloadN X12.here hx rfl (hb hby d1_29) rfl rfl k) ?_
  show Go p e below W T12 (mkF m 30 #[.val (.ref a1), .val (.ref a2), .val (.int (2 : Int32))] [(.ref a2), (.ref b3)])
  refine Go.of (fun _ k => XS.iloadN X12.here hx rfl (hb hby d1_30) rfl k) ?_
  show Go p e below W T12 (mkF m 31 #[.val (.ref a1), .val (.ref a2), .val (.int (2 : Int32))] [(.int (2 : Int32)), (.ref a2), (.ref b3)])
  refine Go.iald X12 hx hZ e12 A_a2 ⟨by decide, by decide⟩ (hb hby d1_31) ?_
  show Go p e below W T12 (mkF m 32 #[.val (.ref a1), .val (.ref a2), .val (.int (2 : Int32))] [(.int (fo 2)), (.ref b3)])
  refine Go.of (fun _ k => XS.iloadN X12.here hx rfl (hb hby d1_32) rfl k) ?_
  show Go p e below W T12 (mkF m 33 #[.val (.ref a1), .val (.ref a2), .val (.int (2 : Int32))] [(.int (2 : Int32)), (.int (fo 2)), (.ref b3)])
  refine Go.ist X12 hx hZ e12 N g_b3 A_b3 (hfo 2 (⟨by decide, by decide⟩ : inb (2 : Int32) 5).2) (hb hby d1_33) ?_
  intro T13 h13 L13 X13 N e13 W13 A_b3
  have E_a1 := E_a1.wr W13
  have F_a1_order := F_a1_order.other W13 (Or.inl ne_a1_b3)
  have F_a1_position := F_a1_position.other W13 (Or.inl ne_a1_b3)
  have A_a2 := A_a2.other W13 ne_a2_b3
  have K := K.wr W13 (Or.inr s_b3)
  have Z0 := Nat.le_trans Z0 (Keep.of_wr W13).1
  have A_b3 : AI Z h13 b3 .int 5 (w1_14 fo) := A_b3
  show Go p e below W T13 (mkF m 34 #[.val (.ref a1), .val (.ref a2), .val (.int (2 : Int32))] [])
  refine Go.of (fun _ k => XS.iinc X13.here hx rfl (hb hby d1_34) rfl (l' := #[.val (.ref a1), .val (.ref a2), .val (.int (3 : Int32))]) rfl k) ?_
  show Go p e below W T13 (mkF m 37 #[.val (.ref a1), .val (.ref a2), .val (.int (3 : Int32))] [])
  refine Go.of (fun _ k => XS.goto X13.here hx rfl (pc0 := 37) (pc' := 19) rfl (hb hby d1_37) (by decide) (by decide) k) ?_
  show Go p e below W T13 (mkF m 19 #[.val (.ref a1), .val (.ref a2), .val (.int (3 : Int32))] [])
  refine Go.of (fun _ k => XS.iloadN X13.here hx rfl (hb hby d1_19) rfl k) ?_
  show Go p e below W T13 (mkF m 20 #[.val (.ref a1), .val (.ref a2), .val (.int (3 : Int32))] [(.int (3 : Int32))])
  refine Go.of (fun _ k => XS.aloadN X13.here hx rfl (hb hby d1_20) rfl rfl k) ?_
  show Go p e below W T13 (mkF m 21 #[.val (.ref a1), .val (.ref a2), .val (.int (3 : Int32))] [(.ref a2), (.int (3 : Int32))])
  refine Go.alen X13 hx hZ e13 A_a2 (hb hby d1_21) ?_
  show Go p e below W T13 (mkF m 22 #[.val (.ref a1), .val (.ref a2), .val (.int (3 : Int32))] [(.int (5 : Int32)), (.int (3 : Int32))])
  refine Go.of (fun _ k => XS.icmpNo X13.here hx rfl (hb hby d1_22) rfl (Jvm.Free.XT.ii_ge_f (by decide)) k) ?_
  show Go p e below W T13 (mkF m 25 #[.val (.ref a1), .val (.ref a2), .val (.int (3 : Int32))] [])
  refine Go.of (fun _ k => XS.aloadN X13.here hx rfl (hb hby d1_25) rfl rfl k) ?_
  show Go p e below W T13 (mkF m 26 #[.val (.ref a1), .val (.ref a2), .val (.int (3 : Int32))] [(.ref a1)])
  refine Go.getF X13 hx hZ hown (hw _ (List.mem_of_getElem? (i := 13) rfl)) e13 F_a1_position (hb hby d1_26) ?_
  intro T15 X15 e15
  show Go p e below W T15 (mkF m 29 #[.val (.ref a1), .val (.ref a2), .val (.int (3 : Int32))] [(.ref b3)])
  refine Go.of (fun _ k => XS.aloadN X15.here hx rfl (hb hby d1_29) rfl rfl k) ?_
  show Go p e below W T15 (mkF m 30 #[.val (.ref a1), .val (.ref a2), .val (.int (3 : Int32))] [(.ref a2), (.ref b3)])
  refine Go.of (fun _ k => XS.iloadN X15.here hx rfl (hb hby d1_30) rfl k) ?_
  show Go p e below W T15 (mkF m 31 #[.val (.ref a1), .val (.ref a2), .val (.int (3 : Int32))] [(.int (3 : Int32)), (.ref a2), (.ref b3)])
  refine Go.iald X15 hx hZ e15 A_a2 ⟨by decide, by decide⟩ (hb hby d1_31) ?_
  show Go p e below W T15 (mkF m 32 #[.val (.ref a1), .val (.ref a2), .val (.int (3 : Int32))] [(.int (fo 3)), (.ref b3)])
  refine Go.of (fun _ k => XS.iloadN X15.here hx rfl (hb hby d1_32) rfl k) ?_
  show Go p e below W T15 (mkF m 33 #[.val (.ref a1), .val (.ref a2), .val (.int (3 : Int32))] [(.int (3 : Int32)), (.int (fo 3)), (.ref b3)])
  refine Go.ist X15 hx hZ e15 N g_b3 A_b3 (hfo 3 (⟨by decide, by decide⟩ : inb (3 : Int32) 5).2) (hb hby d1_33) ?_
  intro T16 h16 L16 X16 N e16 W16 A_b3
  have E_a1 := E_a1.wr W16
  have F_a1_order := F_a1_order.other W16 (Or.inl ne_a1_b3)
  have F_a1_position := F_a1_position.other W16 (Or.inl ne_a1_b3)
  have A_a2 := A_a2.other W16 ne_a2_b3
  have K := K.wr W16 (Or.inr s_b3)
  have Z0 := Nat.le_trans Z0 (Keep.of_wr W16).1
  have A_b3 : AI Z h16 b3 .int 5 (w1_17 fo) := A_b3
  show Go p e below W T16 (mkF m 34 #[.val (.ref a1), .val (.ref a2), .val (.int (3 : Int32))] [])
  refine Go.of (fun _ k => XS.iinc X16.here hx rfl (hb hby d1_34) rfl (l' := #[.val (.ref a1), .val (.ref a2), .val (.int (4 : Int32))]) rfl k) ?_
  show Go p e below W T16 (mkF m 37 #[.val (.ref a1), .val (.ref a2), .val (.int (4 : Int32))] [])
  refine Go.of (fun _ k => XS.goto X16.here hx rfl (pc0 := 37) (pc' := 19) rfl (hb hby d1_37) (by decide) (by decide) k) ?_
  show Go p e below W T16 (mkF m 19 #[.val (.ref a1), .val (.ref a2), .val (.int (4 : Int32))] [])
  refine Go.of (fun _ k => XS.iloadN X16.here hx rfl (hb hby d1_19) rfl k) ?_
  show Go p e below W T16 (mkF m 20 #[.val (.ref a1), .val (.ref a2), .val (.int (4 : Int32))] [(.int (4 : Int32))])
  refine Go.of (fun _ k => XS.aloadN X16.here hx rfl (hb hby d1_20) rfl rfl k) ?_
  show Go p e below W T16 (mkF m 21 #[.val (.ref a1), .val (.ref a2), .val (.int (4 : Int32))] [(.ref a2), (.int (4 : Int32))])
  refine Go.alen X16 hx hZ e16 A_a2 (hb hby d1_21) ?_
  show Go p e below W T16 (mkF m 22 #[.val (.ref a1), .val (.ref a2), .val (.int (4 : Int32))] [(.int (5 : Int32)), (.int (4 : Int32))])
  refine Go.of (fun _ k => XS.icmpNo X16.here hx rfl (hb hby d1_22) rfl (Jvm.Free.XT.ii_ge_f (by decide)) k) ?_
  show Go p e below W T16 (mkF m 25 #[.val (.ref a1), .val (.ref a2), .val (.int (4 : Int32))] [])
  refine Go.of (fun _ k => XS.aloadN X16.here hx rfl (hb hby d1_25) rfl rfl k) ?_
  show Go p e below W T16 (mkF m 26 #[.val (.ref a1), .val (.ref a2), .val (.int (4 : Int32))] [(.ref a1)])
  refine Go.getF X16 hx hZ hown (hw _ (List.mem_of_getElem? (i := 13) rfl)) e16 F_a1_position (hb hby d1_26) ?_
  intro T18 X18 e18
  show Go p e below W T18 (mkF m 29 #[.val (.ref a1), .val (.ref a2), .val (.int (4 : Int32))] [(.ref b3)])
  refine Go.of (fun _ k => XS.aloadN X18.here hx rfl (hb hby d1_29) rfl rfl k) ?_
  show Go p e below W T18 (mkF m 30 #[.val (.ref a1), .val (.ref a2), .val (.int (4 : Int32))] [(.ref a2), (.ref b3)])
  refine Go.of (fun _ k => XS.iloadN X18.here hx rfl (hb hby d1_30) rfl k) ?_
  show Go p e below W T18 (mkF m 31 #[.val (.ref a1), .val (.ref a2), .val (.int (4 : Int32))] [(.int (4 : Int32)), (.ref a2), (.ref b3)])
  refine Go.iald X18 hx hZ e18 A_a2 ⟨by decide, by decide⟩ (hb hby d1_31) ?_
  show Go p e below W T18 (mkF m 32 #[.val (.ref a1), .val (.ref a2), .val (.int (4 : Int32))] [(.int (fo 4)), (.ref b3)])
  refine Go.of (fun _ k => XS.iloadN X18.here hx rfl (hb hby d1_32) rfl k) ?_
  show Go p e below W T18 (mkF m 33 #[.val (.ref a1), .val (.ref a2), .val (.int (4 : Int32))] [(.int (4 : Int32)), (.int (fo 4)), (.ref b3)])
  refine Go.ist X18 hx hZ e18 N g_b3 A_b3 (hfo 4 (⟨by decide, by decide⟩ : inb (4 : Int32) 5).2) (hb hby d1_33) ?_
  intro T19 h19 L19 X19 N e19 W19 A_b3
  have E_a1 := E_a1.wr W19
  have F_a1_order := F_a1_order.other W19 (Or.inl ne_a1_b3)
  have F_a1_position := F_a1_position.other W19 (Or.inl ne_a1_b3)
  have A_a2 := A_a2.other W19 ne_a2_b3
  have K := K.wr W19 (Or.inr s_b3)
  have Z0 := Nat.le_trans Z0 (Keep.of_wr W19).1
  have A_b3 : AI Z h19 b3 .int 5 (w1_20 fo) := A_b3
  show Go p e below W T19 (mkF m 34 #[.val (.ref a1), .val (.ref a2), .val (.int (4 : Int32))] [])
  refine Go.of (fun _ k => XS.iinc X19.here hx rfl (hb hby d1_34) rfl (l' := #[.val (.ref a1), .val (.ref a2), .val (.int (5 : Int32))]) rfl k) ?_
  show Go p e below W T19 (mkF m 37 #[.val (.ref a1), .val (.ref a2), .val (.int (5 : Int32))] [])
  refine Go.of (fun _ k => XS.goto X19.here hx rfl (pc0 := 37) (pc' := 19) rfl (hb hby d1_37) (by decide) (by decide) k) ?_
  show Go p e below W T19 (mkF m 19 #[.val (.ref a1), .val (.ref a2), .val (.int (5 : Int32))] [])
  refine Go.of (fun _ k => XS.iloadN X19.here hx rfl (hb hby d1_19) rfl k) ?_
  show Go p e below W T19 (mkF m 20 #[.val (.ref a1), .val (.ref a2), .val (.int (5 : Int32))] [(.int (5 : Int32))])
  refine Go.of (fun _ k => XS.aloadN X19.here hx rfl (hb hby d1_20) rfl rfl k) ?_
  show Go p e below W T19 (mkF m 21 #[.val (.ref a1), .val (.ref a2), .val (.int (5 : Int32))] [(.ref a2), (.int (5 : Int32))])
  refine Go.alen X19 hx hZ e19 A_a2 (hb hby d1_21) ?_
  show Go p e below W T19 (mkF m 22 #[.val (.ref a1), .val (.ref a2), .val (.int (5 : Int32))] [(.int (5 : Int32)), (.int (5 : Int32))])
  refine Go.of (fun _ k => XS.icmpYes X19.here hx rfl (pc0 := 22) (pc' := 40) rfl (hb hby d1_22) rfl (Jvm.Free.XT.ii_ge_t (by decide)) (by decide) (by decide) k) ?_
  show Go p e below W T19 (mkF m 40 #[.val (.ref a1), .val (.ref a2), .val (.int (5 : Int32))] [])
  have u_f1_np : (f1_np fo) = (w1_20 fo) := by rw [f1_np]
  have fin : Q1 Z a1 a2 fo h0 n0 (none) h19 L19 := ⟨b3, rfl, N, K, s_b3, F_a1_order, F_a1_position, (by rw [u_f1_np]; exact A_b3)⟩
  exact Go.retV X19 hx hret (hb hby d1_40) hlk (fun t ht fe => hW t _ _ _ _ (by rw [ht, e19]; exact fin) fe (by decide) (by decide))
set_option maxRecDepth 65536 in
set_option maxHeartbeats 40000000 in
theorem rm3 (l : Launch) (Z : State) (a0 : Array Value) (hw : ∀ d ∈ tables_1, d.before a0 Z = true) (ws : List Jvm.Cond) (a1 : Addr) (p2 : Int32) (p3 : Int32) (ao : Addr) (aq : Addr) (fo : Nat → Int32) (fp : Nat → Int32) (h0 : Heap) (n0 : Nat) (Z0 : n0 ≤ h0.size) (F_a1_order : Fld Z h0 a1 "com/example/pilfer/pilfer/Tour" "order" "[I" (.ref ao)) (F_a1_position : Fld Z h0 a1 "com/example/pilfer/pilfer/Tour" "position" "[I" (.ref aq)) (A_ao : AI Z h0 ao .int 5 fo) (A_aq : AI Z h0 aq .int 5 fp) (g_ao : n0 ≤ ao) (g_aq : n0 ≤ aq) (ne_a1_ao : a1 ≠ ao) (ne_a1_aq : a1 ≠ aq) (ne_ao_aq : ao ≠ aq) (hfo : ∀ j, j < 5 → inb (fo j) 5) (hft : own_rng p2 p3) :
    Con l Z (⟨"com/example/pilfer/pilfer/Tour", "reverse", "(II)V"⟩ : MethodName) prog_24_method_10_code 6 none ws ({ frames := 0, cells := 0, slots := 0, locals := 0 } : Room) #[(.ref a1), (.int p2), (.int p3)] h0 (Q3 Z a1 p2 p3 ao aq fo fp h0 n0) := by
  refine own_body pn_3 (fun m => ef_3 m a1 p2 p3) ?_
  intro p e s m below meth c T0 W X0 hx hby hml hret hlk hown hnm hZ e0 hW
  have K : Keep h0 h0 [ao, aq] := Keep.refl _ _
  have N := Fr.nil n0
  show Go p e below W T0 (mkF m 0 #[.val (.ref a1), .val (.int p2), .val (.int p3), .unset, .unset, .unset] [])
  refine Go.of (fun _ k => XS.iloadN X0.here hx rfl (hb hby d3_0) rfl k) ?_
  show Go p e below W T0 (mkF m 1 #[.val (.ref a1), .val (.int p2), .val (.int p3), .unset, .unset, .unset] [(.int p2)])
  refine Go.of (fun _ k => XS.istoreN X0.here hx rfl (hb hby d3_1) rfl (l' := #[.val (.ref a1), .val (.int p2), .val (.int p3), .val (.int p2), .unset, .unset]) rfl k) ?_
  show Go p e below W T0 (mkF m 2 #[.val (.ref a1), .val (.int p2), .val (.int p3), .val (.int p2), .unset, .unset] [])
  refine Go.of (fun _ k => XS.iloadN X0.here hx rfl (hb hby d3_2) rfl k) ?_
  show Go p e below W T0 (mkF m 3 #[.val (.ref a1), .val (.int p2), .val (.int p3), .val (.int p2), .unset, .unset] [(.int p3)])
  refine Go.of (fun _ k => XS.istore X0.here hx rfl (hb hby d3_3) rfl (l' := #[.val (.ref a1), .val (.int p2), .val (.int p3), .val (.int p2), .val (.int p3), .unset]) rfl k) ?_
  show Go p e below W T0 (mkF m 5 #[.val (.ref a1), .val (.int p2), .val (.int p3), .val (.int p2), .val (.int p3), .unset] [])
  refine Go.of (fun _ k => XS.iloadN X0.here hx rfl (hb hby d3_5) rfl k) ?_
  show Go p e below W T0 (mkF m 6 #[.val (.ref a1), .val (.int p2), .val (.int p3), .val (.int p2), .val (.int p3), .unset] [(.int p2)])
  refine Go.of (fun _ k => XS.iload X0.here hx rfl (hb hby d3_6) rfl k) ?_
  show Go p e below W T0 (mkF m 8 #[.val (.ref a1), .val (.int p2), .val (.int p3), .val (.int p2), .val (.int p3), .unset] [(.int p3), (.int p2)])
  by_cases c1 : p2 < p3
  · refine Go.of (fun _ k => XS.icmpNo X0.here hx rfl (hb hby d3_8) rfl (Jvm.Free.XT.ii_ge_f c1) k) ?_
    show Go p e below W T0 (mkF m 11 #[.val (.ref a1), .val (.int p2), .val (.int p3), .val (.int p2), .val (.int p3), .unset] [])
    refine Go.of (fun _ k => XS.aloadN X0.here hx rfl (hb hby d3_11) rfl rfl k) ?_
    show Go p e below W T0 (mkF m 12 #[.val (.ref a1), .val (.int p2), .val (.int p3), .val (.int p2), .val (.int p3), .unset] [(.ref a1)])
    refine Go.getF X0 hx hZ hown (hw _ (List.mem_of_getElem? (i := 11) rfl)) e0 F_a1_order (hb hby d3_12) ?_
    intro T2 X2 e2
    show Go p e below W T2 (mkF m 15 #[.val (.ref a1), .val (.int p2), .val (.int p3), .val (.int p2), .val (.int p3), .unset] [(.ref ao)])
    refine Go.of (fun _ k => XS.iloadN X2.here hx rfl (hb hby d3_15) rfl k) ?_
    show Go p e below W T2 (mkF m 16 #[.val (.ref a1), .val (.int p2), .val (.int p3), .val (.int p2), .val (.int p3), .unset] [(.int p2), (.ref ao)])
    refine Go.iald X2 hx hZ e2 A_ao (own_b1 hft) (hb hby d3_16) ?_
    show Go p e below W T2 (mkF m 17 #[.val (.ref a1), .val (.int p2), .val (.int p3), .val (.int p2), .val (.int p3), .unset] [(.int (fo (p2).toNatClampNeg))])
    refine Go.of (fun _ k => XS.istore X2.here hx rfl (hb hby d3_17) rfl (l' := #[.val (.ref a1), .val (.int p2), .val (.int p3), .val (.int p2), .val (.int p3), .val (.int (v3_3 p2 p3 fo fp))]) rfl k) ?_
    show Go p e below W T2 (mkF m 19 #[.val (.ref a1), .val (.int p2), .val (.int p3), .val (.int p2), .val (.int p3), .val (.int (v3_3 p2 p3 fo fp))] [])
    refine Go.of (fun _ k => XS.aloadN X2.here hx rfl (hb hby d3_19) rfl rfl k) ?_
    show Go p e below W T2 (mkF m 20 #[.val (.ref a1), .val (.int p2), .val (.int p3), .val (.int p2), .val (.int p3), .val (.int (v3_3 p2 p3 fo fp))] [(.ref a1)])
    refine Go.getF X2 hx hZ hown (hw _ (List.mem_of_getElem? (i := 11) rfl)) e2 F_a1_order (hb hby d3_20) ?_
    intro T4 X4 e4
    show Go p e below W T4 (mkF m 23 #[.val (.ref a1), .val (.int p2), .val (.int p3), .val (.int p2), .val (.int p3), .val (.int (v3_3 p2 p3 fo fp))] [(.ref ao)])
    refine Go.of (fun _ k => XS.iloadN X4.here hx rfl (hb hby d3_23) rfl k) ?_
    show Go p e below W T4 (mkF m 24 #[.val (.ref a1), .val (.int p2), .val (.int p3), .val (.int p2), .val (.int p3), .val (.int (v3_3 p2 p3 fo fp))] [(.int p2), (.ref ao)])
    refine Go.of (fun _ k => XS.aloadN X4.here hx rfl (hb hby d3_24) rfl rfl k) ?_
    show Go p e below W T4 (mkF m 25 #[.val (.ref a1), .val (.int p2), .val (.int p3), .val (.int p2), .val (.int p3), .val (.int (v3_3 p2 p3 fo fp))] [(.ref a1), (.int p2), (.ref ao)])
    refine Go.getF X4 hx hZ hown (hw _ (List.mem_of_getElem? (i := 11) rfl)) e4 F_a1_order (hb hby d3_25) ?_
    intro T5 X5 e5
    show Go p e below W T5 (mkF m 28 #[.val (.ref a1), .val (.int p2), .val (.int p3), .val (.int p2), .val (.int p3), .val (.int (v3_3 p2 p3 fo fp))] [(.ref ao), (.int p2), (.ref ao)])
    refine Go.of (fun _ k => XS.iload X5.here hx rfl (hb hby d3_28) rfl k) ?_
    show Go p e below W T5 (mkF m 30 #[.val (.ref a1), .val (.int p2), .val (.int p3), .val (.int p2), .val (.int p3), .val (.int (v3_3 p2 p3 fo fp))] [(.int p3), (.ref ao), (.int p2), (.ref ao)])
    refine Go.iald X5 hx hZ e5 A_ao (own_b2 hft) (hb hby d3_30) ?_
    show Go p e below W T5 (mkF m 31 #[.val (.ref a1), .val (.int p2), .val (.int p3), .val (.int p2), .val (.int p3), .val (.int (v3_3 p2 p3 fo fp))] [(.int (fo (p3).toNatClampNeg)), (.int p2), (.ref ao)])
    refine Go.ist X5 hx hZ e5 N g_ao A_ao (own_b1 hft) (hb hby d3_31) ?_
    intro T6 h6 L6 X6 N e6 W6 A_ao
    have F_a1_order := F_a1_order.other W6 (Or.inl ne_a1_ao)
    have F_a1_position := F_a1_position.other W6 (Or.inl ne_a1_ao)
    have A_aq := A_aq.other W6 (Ne.symm ne_ao_aq)
    have K := K.wr W6 (Or.inl (List.mem_of_getElem? (i := 0) rfl))
    have Z0 := Nat.le_trans Z0 (Keep.of_wr W6).1
    have A_ao : AI Z h6 ao .int 5 (w3_7 p2 p3 fo fp) := A_ao
    show Go p e below W T6 (mkF m 32 #[.val (.ref a1), .val (.int p2), .val (.int p3), .val (.int p2), .val (.int p3), .val (.int (v3_3 p2 p3 fo fp))] [])
    refine Go.of (fun _ k => XS.aloadN X6.here hx rfl (hb hby d3_32) rfl rfl k) ?_
    show Go p e below W T6 (mkF m 33 #[.val (.ref a1), .val (.int p2), .val (.int p3), .val (.int p2), .val (.int p3), .val (.int (v3_3 p2 p3 fo fp))] [(.ref a1)])
    refine Go.getF X6 hx hZ hown (hw _ (List.mem_of_getElem? (i := 11) rfl)) e6 F_a1_order (hb hby d3_33) ?_
    intro T8 X8 e8
    show Go p e below W T8 (mkF m 36 #[.val (.ref a1), .val (.int p2), .val (.int p3), .val (.int p2), .val (.int p3), .val (.int (v3_3 p2 p3 fo fp))] [(.ref ao)])
    refine Go.of (fun _ k => XS.iload X8.here hx rfl (hb hby d3_36) rfl k) ?_
    show Go p e below W T8 (mkF m 38 #[.val (.ref a1), .val (.int p2), .val (.int p3), .val (.int p2), .val (.int p3), .val (.int (v3_3 p2 p3 fo fp))] [(.int p3), (.ref ao)])
    refine Go.of (fun _ k => XS.iload X8.here hx rfl (hb hby d3_38) rfl k) ?_
    show Go p e below W T8 (mkF m 40 #[.val (.ref a1), .val (.int p2), .val (.int p3), .val (.int p2), .val (.int p3), .val (.int (v3_3 p2 p3 fo fp))] [(.int (v3_3 p2 p3 fo fp)), (.int p3), (.ref ao)])
    refine Go.ist X8 hx hZ e8 N g_ao A_ao (own_b2 hft) (hb hby d3_40) ?_
    intro T9 h9 L9 X9 N e9 W9 A_ao
    have F_a1_order := F_a1_order.other W9 (Or.inl ne_a1_ao)
    have F_a1_position := F_a1_position.other W9 (Or.inl ne_a1_ao)
    have A_aq := A_aq.other W9 (Ne.symm ne_ao_aq)
    have K := K.wr W9 (Or.inl (List.mem_of_getElem? (i := 0) rfl))
    have Z0 := Nat.le_trans Z0 (Keep.of_wr W9).1
    have A_ao : AI Z h9 ao .int 5 (w3_10 p2 p3 fo fp) := A_ao
    show Go p e below W T9 (mkF m 41 #[.val (.ref a1), .val (.int p2), .val (.int p3), .val (.int p2), .val (.int p3), .val (.int (v3_3 p2 p3 fo fp))] [])
    refine Go.of (fun _ k => XS.aloadN X9.here hx rfl (hb hby d3_41) rfl rfl k) ?_
    show Go p e below W T9 (mkF m 42 #[.val (.ref a1), .val (.int p2), .val (.int p3), .val (.int p2), .val (.int p3), .val (.int (v3_3 p2 p3 fo fp))] [(.ref a1)])
    refine Go.getF X9 hx hZ hown (hw _ (List.mem_of_getElem? (i := 13) rfl)) e9 F_a1_position (hb hby d3_42) ?_
    intro T11 X11 e11
    show Go p e below W T11 (mkF m 45 #[.val (.ref a1), .val (.int p2), .val (.int p3), .val (.int p2), .val (.int p3), .val (.int (v3_3 p2 p3 fo fp))] [(.ref aq)])
    refine Go.of (fun _ k => XS.aloadN X11.here hx rfl (hb hby d3_45) rfl rfl k) ?_
    show Go p e below W T11 (mkF m 46 #[.val (.ref a1), .val (.int p2), .val (.int p3), .val (.int p2), .val (.int p3), .val (.int (v3_3 p2 p3 fo fp))] [(.ref a1), (.ref aq)])
    refine Go.getF X11 hx hZ hown (hw _ (List.mem_of_getElem? (i := 11) rfl)) e11 F_a1_order (hb hby d3_46) ?_
    intro T12 X12 e12
    show Go p e below W T12 (mkF m 49 #[.val (.ref a1), .val (.int p2), .val (.int p3), .val (.int p2), .val (.int p3), .val (.int (v3_3 p2 p3 fo fp))] [(.ref ao), (.ref aq)])
    refine Go.of (fun _ k => XS.iloadN X12.here hx rfl (hb hby d3_49) rfl k) ?_
    show Go p e below W T12 (mkF m 50 #[.val (.ref a1), .val (.int p2), .val (.int p3), .val (.int p2), .val (.int p3), .val (.int (v3_3 p2 p3 fo fp))] [(.int p2), (.ref ao), (.ref aq)])
    refine Go.iald X12 hx hZ e12 A_ao (own_b1 hft) (hb hby d3_50) ?_
    show Go p e below W T12 (mkF m 51 #[.val (.ref a1), .val (.int p2), .val (.int p3), .val (.int p2), .val (.int p3), .val (.int (v3_3 p2 p3 fo fp))] [(.int (w3_10 p2 p3 fo fp (p2).toNatClampNeg)), (.ref aq)])
    refine Go.of (fun _ k => XS.iloadN X12.here hx rfl (hb hby d3_51) rfl k) ?_
    show Go p e below W T12 (mkF m 52 #[.val (.ref a1), .val (.int p2), .val (.int p3), .val (.int p2), .val (.int p3), .val (.int (v3_3 p2 p3 fo fp))] [(.int p2), (.int (w3_10 p2 p3 fo fp (p2).toNatClampNeg)), (.ref aq)])
    refine Go.ist X12 hx hZ e12 N g_aq A_aq ((own_updin (own_updin hfo (hfo (p3).toNatClampNeg (own_b2 hft).2)) (hfo (p2).toNatClampNeg (own_b1 hft).2)) (p2).toNatClampNeg (own_b1 hft).2) (hb hby d3_52) ?_
    intro T13 h13 L13 X13 N e13 W13 A_aq
    have F_a1_order := F_a1_order.other W13 (Or.inl ne_a1_aq)
    have F_a1_position := F_a1_position.other W13 (Or.inl ne_a1_aq)
    have A_ao := A_ao.other W13 ne_ao_aq
    have K := K.wr W13 (Or.inl (List.mem_of_getElem? (i := 1) rfl))
    have Z0 := Nat.le_trans Z0 (Keep.of_wr W13).1
    have A_aq : AI Z h13 aq .int 5 (w3_14 p2 p3 fo fp) := A_aq
    show Go p e below W T13 (mkF m 53 #[.val (.ref a1), .val (.int p2), .val (.int p3), .val (.int p2), .val (.int p3), .val (.int (v3_3 p2 p3 fo fp))] [])
    refine Go.of (fun _ k => XS.aloadN X13.here hx rfl (hb hby d3_53) rfl rfl k) ?_
    show Go p e below W T13 (mkF m 54 #[.val (.ref a1), .val (.int p2), .val (.int p3), .val (.int p2), .val (.int p3), .val (.int (v3_3 p2 p3 fo fp))] [(.ref a1)])
    refine Go.getF X13 hx hZ hown (hw _ (List.mem_of_getElem? (i := 13) rfl)) e13 F_a1_position (hb hby d3_54) ?_
    intro T15 X15 e15
    show Go p e below W T15 (mkF m 57 #[.val (.ref a1), .val (.int p2), .val (.int p3), .val (.int p2), .val (.int p3), .val (.int (v3_3 p2 p3 fo fp))] [(.ref aq)])
    refine Go.of (fun _ k => XS.aloadN X15.here hx rfl (hb hby d3_57) rfl rfl k) ?_
    show Go p e below W T15 (mkF m 58 #[.val (.ref a1), .val (.int p2), .val (.int p3), .val (.int p2), .val (.int p3), .val (.int (v3_3 p2 p3 fo fp))] [(.ref a1), (.ref aq)])
    refine Go.getF X15 hx hZ hown (hw _ (List.mem_of_getElem? (i := 11) rfl)) e15 F_a1_order (hb hby d3_58) ?_
    intro T16 X16 e16
    show Go p e below W T16 (mkF m 61 #[.val (.ref a1), .val (.int p2), .val (.int p3), .val (.int p2), .val (.int p3), .val (.int (v3_3 p2 p3 fo fp))] [(.ref ao), (.ref aq)])
    refine Go.of (fun _ k => XS.iload X16.here hx rfl (hb hby d3_61) rfl k) ?_
    show Go p e below W T16 (mkF m 63 #[.val (.ref a1), .val (.int p2), .val (.int p3), .val (.int p2), .val (.int p3), .val (.int (v3_3 p2 p3 fo fp))] [(.int p3), (.ref ao), (.ref aq)])
    refine Go.iald X16 hx hZ e16 A_ao (own_b2 hft) (hb hby d3_63) ?_
    show Go p e below W T16 (mkF m 64 #[.val (.ref a1), .val (.int p2), .val (.int p3), .val (.int p2), .val (.int p3), .val (.int (v3_3 p2 p3 fo fp))] [(.int (w3_10 p2 p3 fo fp (p3).toNatClampNeg)), (.ref aq)])
    refine Go.of (fun _ k => XS.iload X16.here hx rfl (hb hby d3_64) rfl k) ?_
    show Go p e below W T16 (mkF m 66 #[.val (.ref a1), .val (.int p2), .val (.int p3), .val (.int p2), .val (.int p3), .val (.int (v3_3 p2 p3 fo fp))] [(.int p3), (.int (w3_10 p2 p3 fo fp (p3).toNatClampNeg)), (.ref aq)])
    refine Go.ist X16 hx hZ e16 N g_aq A_aq ((own_updin (own_updin hfo (hfo (p3).toNatClampNeg (own_b2 hft).2)) (hfo (p2).toNatClampNeg (own_b1 hft).2)) (p3).toNatClampNeg (own_b2 hft).2) (hb hby d3_66) ?_
    intro T17 h17 L17 X17 N e17 W17 A_aq
    have F_a1_order := F_a1_order.other W17 (Or.inl ne_a1_aq)
    have F_a1_position := F_a1_position.other W17 (Or.inl ne_a1_aq)
    have A_ao := A_ao.other W17 ne_ao_aq
    have K := K.wr W17 (Or.inl (List.mem_of_getElem? (i := 1) rfl))
    have Z0 := Nat.le_trans Z0 (Keep.of_wr W17).1
    have A_aq : AI Z h17 aq .int 5 (w3_18 p2 p3 fo fp) := A_aq
    show Go p e below W T17 (mkF m 67 #[.val (.ref a1), .val (.int p2), .val (.int p3), .val (.int p2), .val (.int p3), .val (.int (v3_3 p2 p3 fo fp))] [])
    refine Go.of (fun _ k => XS.iinc X17.here hx rfl (hb hby d3_67) rfl (l' := #[.val (.ref a1), .val (.int p2), .val (.int p3), .val (.int (v3_19 p2 p3 fo fp)), .val (.int p3), .val (.int (v3_3 p2 p3 fo fp))]) rfl k) ?_
    show Go p e below W T17 (mkF m 70 #[.val (.ref a1), .val (.int p2), .val (.int p3), .val (.int (v3_19 p2 p3 fo fp)), .val (.int p3), .val (.int (v3_3 p2 p3 fo fp))] [])
    refine Go.of (fun _ k => XS.iinc X17.here hx rfl (hb hby d3_70) rfl (l' := #[.val (.ref a1), .val (.int p2), .val (.int p3), .val (.int (v3_19 p2 p3 fo fp)), .val (.int (v3_20 p2 p3 fo fp)), .val (.int (v3_3 p2 p3 fo fp))]) rfl k) ?_
    show Go p e below W T17 (mkF m 73 #[.val (.ref a1), .val (.int p2), .val (.int p3), .val (.int (v3_19 p2 p3 fo fp)), .val (.int (v3_20 p2 p3 fo fp)), .val (.int (v3_3 p2 p3 fo fp))] [])
    refine Go.of (fun _ k => XS.goto X17.here hx rfl (pc0 := 73) (pc' := 5) rfl (hb hby d3_73) (by decide) (by decide) k) ?_
    show Go p e below W T17 (mkF m 5 #[.val (.ref a1), .val (.int p2), .val (.int p3), .val (.int (v3_19 p2 p3 fo fp)), .val (.int (v3_20 p2 p3 fo fp)), .val (.int (v3_3 p2 p3 fo fp))] [])
    refine Go.of (fun _ k => XS.iloadN X17.here hx rfl (hb hby d3_5) rfl k) ?_
    show Go p e below W T17 (mkF m 6 #[.val (.ref a1), .val (.int p2), .val (.int p3), .val (.int (v3_19 p2 p3 fo fp)), .val (.int (v3_20 p2 p3 fo fp)), .val (.int (v3_3 p2 p3 fo fp))] [(.int (v3_19 p2 p3 fo fp))])
    refine Go.of (fun _ k => XS.iload X17.here hx rfl (hb hby d3_6) rfl k) ?_
    show Go p e below W T17 (mkF m 8 #[.val (.ref a1), .val (.int p2), .val (.int p3), .val (.int (v3_19 p2 p3 fo fp)), .val (.int (v3_20 p2 p3 fo fp)), .val (.int (v3_3 p2 p3 fo fp))] [(.int (v3_20 p2 p3 fo fp)), (.int (v3_19 p2 p3 fo fp))])
    by_cases c21 : (v3_19 p2 p3 fo fp) < (v3_20 p2 p3 fo fp)
    · refine Go.of (fun _ k => XS.icmpNo X17.here hx rfl (hb hby d3_8) rfl (Jvm.Free.XT.ii_ge_f c21) k) ?_
      show Go p e below W T17 (mkF m 11 #[.val (.ref a1), .val (.int p2), .val (.int p3), .val (.int (v3_19 p2 p3 fo fp)), .val (.int (v3_20 p2 p3 fo fp)), .val (.int (v3_3 p2 p3 fo fp))] [])
      refine Go.of (fun _ k => XS.aloadN X17.here hx rfl (hb hby d3_11) rfl rfl k) ?_
      show Go p e below W T17 (mkF m 12 #[.val (.ref a1), .val (.int p2), .val (.int p3), .val (.int (v3_19 p2 p3 fo fp)), .val (.int (v3_20 p2 p3 fo fp)), .val (.int (v3_3 p2 p3 fo fp))] [(.ref a1)])
      refine Go.getF X17 hx hZ hown (hw _ (List.mem_of_getElem? (i := 11) rfl)) e17 F_a1_order (hb hby d3_12) ?_
      intro T22 X22 e22
      show Go p e below W T22 (mkF m 15 #[.val (.ref a1), .val (.int p2), .val (.int p3), .val (.int (v3_19 p2 p3 fo fp)), .val (.int (v3_20 p2 p3 fo fp)), .val (.int (v3_3 p2 p3 fo fp))] [(.ref ao)])
      refine Go.of (fun _ k => XS.iloadN X22.here hx rfl (hb hby d3_15) rfl k) ?_
      show Go p e below W T22 (mkF m 16 #[.val (.ref a1), .val (.int p2), .val (.int p3), .val (.int (v3_19 p2 p3 fo fp)), .val (.int (v3_20 p2 p3 fo fp)), .val (.int (v3_3 p2 p3 fo fp))] [(.int (v3_19 p2 p3 fo fp)), (.ref ao)])
      refine Go.iald X22 hx hZ e22 A_ao (own_b3 hft c21) (hb hby d3_16) ?_
      show Go p e below W T22 (mkF m 17 #[.val (.ref a1), .val (.int p2), .val (.int p3), .val (.int (v3_19 p2 p3 fo fp)), .val (.int (v3_20 p2 p3 fo fp)), .val (.int (v3_3 p2 p3 fo fp))] [(.int (w3_10 p2 p3 fo fp (v3_19 p2 p3 fo fp).toNatClampNeg))])
      refine Go.of (fun _ k => XS.istore X22.here hx rfl (hb hby d3_17) rfl (l' := #[.val (.ref a1), .val (.int p2), .val (.int p3), .val (.int (v3_19 p2 p3 fo fp)), .val (.int (v3_20 p2 p3 fo fp)), .val (.int (v3_23 p2 p3 fo fp))]) rfl k) ?_
      show Go p e below W T22 (mkF m 19 #[.val (.ref a1), .val (.int p2), .val (.int p3), .val (.int (v3_19 p2 p3 fo fp)), .val (.int (v3_20 p2 p3 fo fp)), .val (.int (v3_23 p2 p3 fo fp))] [])
      refine Go.of (fun _ k => XS.aloadN X22.here hx rfl (hb hby d3_19) rfl rfl k) ?_
      show Go p e below W T22 (mkF m 20 #[.val (.ref a1), .val (.int p2), .val (.int p3), .val (.int (v3_19 p2 p3 fo fp)), .val (.int (v3_20 p2 p3 fo fp)), .val (.int (v3_23 p2 p3 fo fp))] [(.ref a1)])
      refine Go.getF X22 hx hZ hown (hw _ (List.mem_of_getElem? (i := 11) rfl)) e22 F_a1_order (hb hby d3_20) ?_
      intro T24 X24 e24
      show Go p e below W T24 (mkF m 23 #[.val (.ref a1), .val (.int p2), .val (.int p3), .val (.int (v3_19 p2 p3 fo fp)), .val (.int (v3_20 p2 p3 fo fp)), .val (.int (v3_23 p2 p3 fo fp))] [(.ref ao)])
      refine Go.of (fun _ k => XS.iloadN X24.here hx rfl (hb hby d3_23) rfl k) ?_
      show Go p e below W T24 (mkF m 24 #[.val (.ref a1), .val (.int p2), .val (.int p3), .val (.int (v3_19 p2 p3 fo fp)), .val (.int (v3_20 p2 p3 fo fp)), .val (.int (v3_23 p2 p3 fo fp))] [(.int (v3_19 p2 p3 fo fp)), (.ref ao)])
      refine Go.of (fun _ k => XS.aloadN X24.here hx rfl (hb hby d3_24) rfl rfl k) ?_
      show Go p e below W T24 (mkF m 25 #[.val (.ref a1), .val (.int p2), .val (.int p3), .val (.int (v3_19 p2 p3 fo fp)), .val (.int (v3_20 p2 p3 fo fp)), .val (.int (v3_23 p2 p3 fo fp))] [(.ref a1), (.int (v3_19 p2 p3 fo fp)), (.ref ao)])
      refine Go.getF X24 hx hZ hown (hw _ (List.mem_of_getElem? (i := 11) rfl)) e24 F_a1_order (hb hby d3_25) ?_
      intro T25 X25 e25
      show Go p e below W T25 (mkF m 28 #[.val (.ref a1), .val (.int p2), .val (.int p3), .val (.int (v3_19 p2 p3 fo fp)), .val (.int (v3_20 p2 p3 fo fp)), .val (.int (v3_23 p2 p3 fo fp))] [(.ref ao), (.int (v3_19 p2 p3 fo fp)), (.ref ao)])
      refine Go.of (fun _ k => XS.iload X25.here hx rfl (hb hby d3_28) rfl k) ?_
      show Go p e below W T25 (mkF m 30 #[.val (.ref a1), .val (.int p2), .val (.int p3), .val (.int (v3_19 p2 p3 fo fp)), .val (.int (v3_20 p2 p3 fo fp)), .val (.int (v3_23 p2 p3 fo fp))] [(.int (v3_20 p2 p3 fo fp)), (.ref ao), (.int (v3_19 p2 p3 fo fp)), (.ref ao)])
      refine Go.iald X25 hx hZ e25 A_ao (own_b4 hft c21) (hb hby d3_30) ?_
      show Go p e below W T25 (mkF m 31 #[.val (.ref a1), .val (.int p2), .val (.int p3), .val (.int (v3_19 p2 p3 fo fp)), .val (.int (v3_20 p2 p3 fo fp)), .val (.int (v3_23 p2 p3 fo fp))] [(.int (w3_10 p2 p3 fo fp (v3_20 p2 p3 fo fp).toNatClampNeg)), (.int (v3_19 p2 p3 fo fp)), (.ref ao)])
      refine Go.ist X25 hx hZ e25 N g_ao A_ao (own_b3 hft c21) (hb hby d3_31) ?_
      intro T26 h26 L26 X26 N e26 W26 A_ao
      have F_a1_order := F_a1_order.other W26 (Or.inl ne_a1_ao)
      have F_a1_position := F_a1_position.other W26 (Or.inl ne_a1_ao)
      have A_aq := A_aq.other W26 (Ne.symm ne_ao_aq)
      have K := K.wr W26 (Or.inl (List.mem_of_getElem? (i := 0) rfl))
      have Z0 := Nat.le_trans Z0 (Keep.of_wr W26).1
      have A_ao : AI Z h26 ao .int 5 (w3_27 p2 p3 fo fp) := A_ao
      show Go p e below W T26 (mkF m 32 #[.val (.ref a1), .val (.int p2), .val (.int p3), .val (.int (v3_19 p2 p3 fo fp)), .val (.int (v3_20 p2 p3 fo fp)), .val (.int (v3_23 p2 p3 fo fp))] [])
      refine Go.of (fun _ k => XS.aloadN X26.here hx rfl (hb hby d3_32) rfl rfl k) ?_
      show Go p e below W T26 (mkF m 33 #[.val (.ref a1), .val (.int p2), .val (.int p3), .val (.int (v3_19 p2 p3 fo fp)), .val (.int (v3_20 p2 p3 fo fp)), .val (.int (v3_23 p2 p3 fo fp))] [(.ref a1)])
      refine Go.getF X26 hx hZ hown (hw _ (List.mem_of_getElem? (i := 11) rfl)) e26 F_a1_order (hb hby d3_33) ?_
      intro T28 X28 e28
      show Go p e below W T28 (mkF m 36 #[.val (.ref a1), .val (.int p2), .val (.int p3), .val (.int (v3_19 p2 p3 fo fp)), .val (.int (v3_20 p2 p3 fo fp)), .val (.int (v3_23 p2 p3 fo fp))] [(.ref ao)])
      refine Go.of (fun _ k => XS.iload X28.here hx rfl (hb hby d3_36) rfl k) ?_
      show Go p e below W T28 (mkF m 38 #[.val (.ref a1), .val (.int p2), .val (.int p3), .val (.int (v3_19 p2 p3 fo fp)), .val (.int (v3_20 p2 p3 fo fp)), .val (.int (v3_23 p2 p3 fo fp))] [(.int (v3_20 p2 p3 fo fp)), (.ref ao)])
      refine Go.of (fun _ k => XS.iload X28.here hx rfl (hb hby d3_38) rfl k) ?_
      show Go p e below W T28 (mkF m 40 #[.val (.ref a1), .val (.int p2), .val (.int p3), .val (.int (v3_19 p2 p3 fo fp)), .val (.int (v3_20 p2 p3 fo fp)), .val (.int (v3_23 p2 p3 fo fp))] [(.int (v3_23 p2 p3 fo fp)), (.int (v3_20 p2 p3 fo fp)), (.ref ao)])
      refine Go.ist X28 hx hZ e28 N g_ao A_ao (own_b4 hft c21) (hb hby d3_40) ?_
      intro T29 h29 L29 X29 N e29 W29 A_ao
      have F_a1_order := F_a1_order.other W29 (Or.inl ne_a1_ao)
      have F_a1_position := F_a1_position.other W29 (Or.inl ne_a1_ao)
      have A_aq := A_aq.other W29 (Ne.symm ne_ao_aq)
      have K := K.wr W29 (Or.inl (List.mem_of_getElem? (i := 0) rfl))
      have Z0 := Nat.le_trans Z0 (Keep.of_wr W29).1
      have A_ao : AI Z h29 ao .int 5 (w3_30 p2 p3 fo fp) := A_ao
      show Go p e below W T29 (mkF m 41 #[.val (.ref a1), .val (.int p2), .val (.int p3), .val (.int (v3_19 p2 p3 fo fp)), .val (.int (v3_20 p2 p3 fo fp)), .val (.int (v3_23 p2 p3 fo fp))] [])
      refine Go.of (fun _ k => XS.aloadN X29.here hx rfl (hb hby d3_41) rfl rfl k) ?_
      show Go p e below W T29 (mkF m 42 #[.val (.ref a1), .val (.int p2), .val (.int p3), .val (.int (v3_19 p2 p3 fo fp)), .val (.int (v3_20 p2 p3 fo fp)), .val (.int (v3_23 p2 p3 fo fp))] [(.ref a1)])
      refine Go.getF X29 hx hZ hown (hw _ (List.mem_of_getElem? (i := 13) rfl)) e29 F_a1_position (hb hby d3_42) ?_
      intro T31 X31 e31
      show Go p e below W T31 (mkF m 45 #[.val (.ref a1), .val (.int p2), .val (.int p3), .val (.int (v3_19 p2 p3 fo fp)), .val (.int (v3_20 p2 p3 fo fp)), .val (.int (v3_23 p2 p3 fo fp))] [(.ref aq)])
      refine Go.of (fun _ k => XS.aloadN X31.here hx rfl (hb hby d3_45) rfl rfl k) ?_
      show Go p e below W T31 (mkF m 46 #[.val (.ref a1), .val (.int p2), .val (.int p3), .val (.int (v3_19 p2 p3 fo fp)), .val (.int (v3_20 p2 p3 fo fp)), .val (.int (v3_23 p2 p3 fo fp))] [(.ref a1), (.ref aq)])
      refine Go.getF X31 hx hZ hown (hw _ (List.mem_of_getElem? (i := 11) rfl)) e31 F_a1_order (hb hby d3_46) ?_
      intro T32 X32 e32
      show Go p e below W T32 (mkF m 49 #[.val (.ref a1), .val (.int p2), .val (.int p3), .val (.int (v3_19 p2 p3 fo fp)), .val (.int (v3_20 p2 p3 fo fp)), .val (.int (v3_23 p2 p3 fo fp))] [(.ref ao), (.ref aq)])
      refine Go.of (fun _ k => XS.iloadN X32.here hx rfl (hb hby d3_49) rfl k) ?_
      show Go p e below W T32 (mkF m 50 #[.val (.ref a1), .val (.int p2), .val (.int p3), .val (.int (v3_19 p2 p3 fo fp)), .val (.int (v3_20 p2 p3 fo fp)), .val (.int (v3_23 p2 p3 fo fp))] [(.int (v3_19 p2 p3 fo fp)), (.ref ao), (.ref aq)])
      refine Go.iald X32 hx hZ e32 A_ao (own_b3 hft c21) (hb hby d3_50) ?_
      show Go p e below W T32 (mkF m 51 #[.val (.ref a1), .val (.int p2), .val (.int p3), .val (.int (v3_19 p2 p3 fo fp)), .val (.int (v3_20 p2 p3 fo fp)), .val (.int (v3_23 p2 p3 fo fp))] [(.int (w3_30 p2 p3 fo fp (v3_19 p2 p3 fo fp).toNatClampNeg)), (.ref aq)])
      refine Go.of (fun _ k => XS.iloadN X32.here hx rfl (hb hby d3_51) rfl k) ?_
      show Go p e below W T32 (mkF m 52 #[.val (.ref a1), .val (.int p2), .val (.int p3), .val (.int (v3_19 p2 p3 fo fp)), .val (.int (v3_20 p2 p3 fo fp)), .val (.int (v3_23 p2 p3 fo fp))] [(.int (v3_19 p2 p3 fo fp)), (.int (w3_30 p2 p3 fo fp (v3_19 p2 p3 fo fp).toNatClampNeg)), (.ref aq)])
      refine Go.ist X32 hx hZ e32 N g_aq A_aq ((own_updin (own_updin (own_updin (own_updin hfo (hfo (p3).toNatClampNeg (own_b2 hft).2)) (hfo (p2).toNatClampNeg (own_b1 hft).2)) ((own_updin (own_updin hfo (hfo (p3).toNatClampNeg (own_b2 hft).2)) (hfo (p2).toNatClampNeg (own_b1 hft).2)) (v3_20 p2 p3 fo fp).toNatClampNeg (own_b4 hft c21).2)) ((own_updin (own_updin hfo (hfo (p3).toNatClampNeg (own_b2 hft).2)) (hfo (p2).toNatClampNeg (own_b1 hft).2)) (v3_19 p2 p3 fo fp).toNatClampNeg (own_b3 hft c21).2)) (v3_19 p2 p3 fo fp).toNatClampNeg (own_b3 hft c21).2) (hb hby d3_52) ?_
      intro T33 h33 L33 X33 N e33 W33 A_aq
      have F_a1_order := F_a1_order.other W33 (Or.inl ne_a1_aq)
      have F_a1_position := F_a1_position.other W33 (Or.inl ne_a1_aq)
      have A_ao := A_ao.other W33 ne_ao_aq
      have K := K.wr W33 (Or.inl (List.mem_of_getElem? (i := 1) rfl))
      have Z0 := Nat.le_trans Z0 (Keep.of_wr W33).1
      have A_aq : AI Z h33 aq .int 5 (w3_34 p2 p3 fo fp) := A_aq
      show Go p e below W T33 (mkF m 53 #[.val (.ref a1), .val (.int p2), .val (.int p3), .val (.int (v3_19 p2 p3 fo fp)), .val (.int (v3_20 p2 p3 fo fp)), .val (.int (v3_23 p2 p3 fo fp))] [])
      refine Go.of (fun _ k => XS.aloadN X33.here hx rfl (hb hby d3_53) rfl rfl k) ?_
      show Go p e below W T33 (mkF m 54 #[.val (.ref a1), .val (.int p2), .val (.int p3), .val (.int (v3_19 p2 p3 fo fp)), .val (.int (v3_20 p2 p3 fo fp)), .val (.int (v3_23 p2 p3 fo fp))] [(.ref a1)])
      refine Go.getF X33 hx hZ hown (hw _ (List.mem_of_getElem? (i := 13) rfl)) e33 F_a1_position (hb hby d3_54) ?_
      intro T35 X35 e35
      show Go p e below W T35 (mkF m 57 #[.val (.ref a1), .val (.int p2), .val (.int p3), .val (.int (v3_19 p2 p3 fo fp)), .val (.int (v3_20 p2 p3 fo fp)), .val (.int (v3_23 p2 p3 fo fp))] [(.ref aq)])
      refine Go.of (fun _ k => XS.aloadN X35.here hx rfl (hb hby d3_57) rfl rfl k) ?_
      show Go p e below W T35 (mkF m 58 #[.val (.ref a1), .val (.int p2), .val (.int p3), .val (.int (v3_19 p2 p3 fo fp)), .val (.int (v3_20 p2 p3 fo fp)), .val (.int (v3_23 p2 p3 fo fp))] [(.ref a1), (.ref aq)])
      refine Go.getF X35 hx hZ hown (hw _ (List.mem_of_getElem? (i := 11) rfl)) e35 F_a1_order (hb hby d3_58) ?_
      intro T36 X36 e36
      show Go p e below W T36 (mkF m 61 #[.val (.ref a1), .val (.int p2), .val (.int p3), .val (.int (v3_19 p2 p3 fo fp)), .val (.int (v3_20 p2 p3 fo fp)), .val (.int (v3_23 p2 p3 fo fp))] [(.ref ao), (.ref aq)])
      refine Go.of (fun _ k => XS.iload X36.here hx rfl (hb hby d3_61) rfl k) ?_
      show Go p e below W T36 (mkF m 63 #[.val (.ref a1), .val (.int p2), .val (.int p3), .val (.int (v3_19 p2 p3 fo fp)), .val (.int (v3_20 p2 p3 fo fp)), .val (.int (v3_23 p2 p3 fo fp))] [(.int (v3_20 p2 p3 fo fp)), (.ref ao), (.ref aq)])
      refine Go.iald X36 hx hZ e36 A_ao (own_b4 hft c21) (hb hby d3_63) ?_
      show Go p e below W T36 (mkF m 64 #[.val (.ref a1), .val (.int p2), .val (.int p3), .val (.int (v3_19 p2 p3 fo fp)), .val (.int (v3_20 p2 p3 fo fp)), .val (.int (v3_23 p2 p3 fo fp))] [(.int (w3_30 p2 p3 fo fp (v3_20 p2 p3 fo fp).toNatClampNeg)), (.ref aq)])
      refine Go.of (fun _ k => XS.iload X36.here hx rfl (hb hby d3_64) rfl k) ?_
      show Go p e below W T36 (mkF m 66 #[.val (.ref a1), .val (.int p2), .val (.int p3), .val (.int (v3_19 p2 p3 fo fp)), .val (.int (v3_20 p2 p3 fo fp)), .val (.int (v3_23 p2 p3 fo fp))] [(.int (v3_20 p2 p3 fo fp)), (.int (w3_30 p2 p3 fo fp (v3_20 p2 p3 fo fp).toNatClampNeg)), (.ref aq)])
      refine Go.ist X36 hx hZ e36 N g_aq A_aq ((own_updin (own_updin (own_updin (own_updin hfo (hfo (p3).toNatClampNeg (own_b2 hft).2)) (hfo (p2).toNatClampNeg (own_b1 hft).2)) ((own_updin (own_updin hfo (hfo (p3).toNatClampNeg (own_b2 hft).2)) (hfo (p2).toNatClampNeg (own_b1 hft).2)) (v3_20 p2 p3 fo fp).toNatClampNeg (own_b4 hft c21).2)) ((own_updin (own_updin hfo (hfo (p3).toNatClampNeg (own_b2 hft).2)) (hfo (p2).toNatClampNeg (own_b1 hft).2)) (v3_19 p2 p3 fo fp).toNatClampNeg (own_b3 hft c21).2)) (v3_20 p2 p3 fo fp).toNatClampNeg (own_b4 hft c21).2) (hb hby d3_66) ?_
      intro T37 h37 L37 X37 N e37 W37 A_aq
      have F_a1_order := F_a1_order.other W37 (Or.inl ne_a1_aq)
      have F_a1_position := F_a1_position.other W37 (Or.inl ne_a1_aq)
      have A_ao := A_ao.other W37 ne_ao_aq
      have K := K.wr W37 (Or.inl (List.mem_of_getElem? (i := 1) rfl))
      have Z0 := Nat.le_trans Z0 (Keep.of_wr W37).1
      have A_aq : AI Z h37 aq .int 5 (w3_38 p2 p3 fo fp) := A_aq
      show Go p e below W T37 (mkF m 67 #[.val (.ref a1), .val (.int p2), .val (.int p3), .val (.int (v3_19 p2 p3 fo fp)), .val (.int (v3_20 p2 p3 fo fp)), .val (.int (v3_23 p2 p3 fo fp))] [])
      refine Go.of (fun _ k => XS.iinc X37.here hx rfl (hb hby d3_67) rfl (l' := #[.val (.ref a1), .val (.int p2), .val (.int p3), .val (.int (v3_39 p2 p3 fo fp)), .val (.int (v3_20 p2 p3 fo fp)), .val (.int (v3_23 p2 p3 fo fp))]) rfl k) ?_
      show Go p e below W T37 (mkF m 70 #[.val (.ref a1), .val (.int p2), .val (.int p3), .val (.int (v3_39 p2 p3 fo fp)), .val (.int (v3_20 p2 p3 fo fp)), .val (.int (v3_23 p2 p3 fo fp))] [])
      refine Go.of (fun _ k => XS.iinc X37.here hx rfl (hb hby d3_70) rfl (l' := #[.val (.ref a1), .val (.int p2), .val (.int p3), .val (.int (v3_39 p2 p3 fo fp)), .val (.int (v3_40 p2 p3 fo fp)), .val (.int (v3_23 p2 p3 fo fp))]) rfl k) ?_
      show Go p e below W T37 (mkF m 73 #[.val (.ref a1), .val (.int p2), .val (.int p3), .val (.int (v3_39 p2 p3 fo fp)), .val (.int (v3_40 p2 p3 fo fp)), .val (.int (v3_23 p2 p3 fo fp))] [])
      refine Go.of (fun _ k => XS.goto X37.here hx rfl (pc0 := 73) (pc' := 5) rfl (hb hby d3_73) (by decide) (by decide) k) ?_
      show Go p e below W T37 (mkF m 5 #[.val (.ref a1), .val (.int p2), .val (.int p3), .val (.int (v3_39 p2 p3 fo fp)), .val (.int (v3_40 p2 p3 fo fp)), .val (.int (v3_23 p2 p3 fo fp))] [])
      refine Go.of (fun _ k => XS.iloadN X37.here hx rfl (hb hby d3_5) rfl k) ?_
      show Go p e below W T37 (mkF m 6 #[.val (.ref a1), .val (.int p2), .val (.int p3), .val (.int (v3_39 p2 p3 fo fp)), .val (.int (v3_40 p2 p3 fo fp)), .val (.int (v3_23 p2 p3 fo fp))] [(.int (v3_39 p2 p3 fo fp))])
      refine Go.of (fun _ k => XS.iload X37.here hx rfl (hb hby d3_6) rfl k) ?_
      show Go p e below W T37 (mkF m 8 #[.val (.ref a1), .val (.int p2), .val (.int p3), .val (.int (v3_39 p2 p3 fo fp)), .val (.int (v3_40 p2 p3 fo fp)), .val (.int (v3_23 p2 p3 fo fp))] [(.int (v3_40 p2 p3 fo fp)), (.int (v3_39 p2 p3 fo fp))])
      refine Go.of (fun _ k => XS.icmpYes X37.here hx rfl (pc0 := 8) (pc' := 76) rfl (hb hby d3_8) rfl (Jvm.Free.XT.ii_ge_t (own_done hft)) (by decide) (by decide) k) ?_
      show Go p e below W T37 (mkF m 76 #[.val (.ref a1), .val (.int p2), .val (.int p3), .val (.int (v3_39 p2 p3 fo fp)), .val (.int (v3_40 p2 p3 fo fp)), .val (.int (v3_23 p2 p3 fo fp))] [])
      have u_f3_ao : (f3_ao p2 p3 fo fp) = (w3_30 p2 p3 fo fp) := by rw [f3_ao, if_pos c1, if_pos c21]
      have u_f3_aq : (f3_aq p2 p3 fo fp) = (w3_38 p2 p3 fo fp) := by rw [f3_aq, if_pos c1, if_pos c21]
      have fin : Q3 Z a1 p2 p3 ao aq fo fp h0 n0 (none) h37 L37 := ⟨rfl, N, K, (by rw [u_f3_ao]; exact A_ao), (by rw [u_f3_aq]; exact A_aq)⟩
      exact Go.retV X37 hx hret (hb hby d3_76) hlk (fun t ht fe => hW t _ _ _ _ (by rw [ht, e37]; exact fin) fe (by decide) (by decide))
    · refine Go.of (fun _ k => XS.icmpYes X17.here hx rfl (pc0 := 8) (pc' := 76) rfl (hb hby d3_8) rfl (Jvm.Free.XT.ii_ge_t c21) (by decide) (by decide) k) ?_
      show Go p e below W T17 (mkF m 76 #[.val (.ref a1), .val (.int p2), .val (.int p3), .val (.int (v3_19 p2 p3 fo fp)), .val (.int (v3_20 p2 p3 fo fp)), .val (.int (v3_3 p2 p3 fo fp))] [])
      have u_f3_ao : (f3_ao p2 p3 fo fp) = (w3_10 p2 p3 fo fp) := by rw [f3_ao, if_pos c1, if_neg c21]
      have u_f3_aq : (f3_aq p2 p3 fo fp) = (w3_18 p2 p3 fo fp) := by rw [f3_aq, if_pos c1, if_neg c21]
      have fin : Q3 Z a1 p2 p3 ao aq fo fp h0 n0 (none) h17 L17 := ⟨rfl, N, K, (by rw [u_f3_ao]; exact A_ao), (by rw [u_f3_aq]; exact A_aq)⟩
      exact Go.retV X17 hx hret (hb hby d3_76) hlk (fun t ht fe => hW t _ _ _ _ (by rw [ht, e17]; exact fin) fe (by decide) (by decide))
  · refine Go.of (fun _ k => XS.icmpYes X0.here hx rfl (pc0 := 8) (pc' := 76) rfl (hb hby d3_8) rfl (Jvm.Free.XT.ii_ge_t c1) (by decide) (by decide) k) ?_
    show Go p e below W T0 (mkF m 76 #[.val (.ref a1), .val (.int p2), .val (.int p3), .val (.int p2), .val (.int p3), .unset] [])
    have u_f3_ao : (f3_ao p2 p3 fo fp) = fo := by rw [f3_ao, if_neg c1]
    have u_f3_aq : (f3_aq p2 p3 fo fp) = fp := by rw [f3_aq, if_neg c1]
    have fin : Q3 Z a1 p2 p3 ao aq fo fp h0 n0 (none) h0 [] := ⟨rfl, N, K, (by rw [u_f3_ao]; exact A_ao), (by rw [u_f3_aq]; exact A_aq)⟩
    exact Go.retV X0 hx hret (hb hby d3_76) hlk (fun t ht fe => hW t _ _ _ _ (by rw [ht, e0]; exact fin) fe (by decide) (by decide))
set_option maxRecDepth 65536 in
set_option maxHeartbeats 40000000 in
theorem rm4 (l : Launch) (Z : State) (a0 : Array Value) (hw : ∀ d ∈ tables_1, d.before a0 Z = true) (ws : List Jvm.Cond) (a1 : Addr) (ao : Addr) (fo : Nat → Int32) (h0 : Heap) (n0 : Nat) (Z0 : n0 ≤ h0.size) (F_a1_order : Fld Z h0 a1 "com/example/pilfer/pilfer/Tour" "order" "[I" (.ref ao)) (A_ao : AI Z h0 ao .int 5 fo) (E_ao : Exa Z h0 ao "[I") :
    Con l Z (⟨"com/example/pilfer/pilfer/Tour", "toArray", "()[I"⟩ : MethodName) prog_24_method_9_code 1 (some (.array .int)) ws ({ frames := 1, cells := 1, slots := 5, locals := 14 } : Room) #[(.ref a1)] h0 (Q4 Z a1 ao fo h0 n0) := by
  refine own_body pn_4 (fun m => ef_4 m a1) ?_
  intro p e s m below meth c T0 W X0 hx hby hml hret hlk hown hnm hZ e0 hW
  have K : Keep h0 h0 [] := Keep.refl _ _
  have N := Fr.nil n0
  show Go p e below W T0 (mkF m 0 #[.val (.ref a1)] [])
  refine Go.of (fun _ k => XS.aloadN X0.here hx rfl (hb hby d4_0) rfl rfl k) ?_
  show Go p e below W T0 (mkF m 1 #[.val (.ref a1)] [(.ref a1)])
  refine Go.getF X0 hx hZ hown (hw _ (List.mem_of_getElem? (i := 11) rfl)) e0 F_a1_order (hb hby d4_1) ?_
  intro T1 X1 e1
  show Go p e below W T1 (mkF m 4 #[.val (.ref a1)] [(.ref ao)])
  refine Go.clone X1 hx hZ hown (hw _ (List.mem_of_getElem? (i := 25) rfl)) (hw _ (List.mem_of_getElem? (i := 26) rfl)) (hw _ (List.mem_of_getElem? (i := 30) rfl)) (hw _ (List.mem_of_getElem? (i := 28) rfl)) (hw _ (List.mem_of_getElem? (i := 29) rfl)) (hw _ (List.mem_of_getElem? (i := 31) rfl)) e1 A_ao E_ao (by rw [hml]; rfl) (hb hby d4_4) (by decide) (V := 0) (cap := 5) (Nat.le_of_ble_eq_true rfl) (by decide) (by decide) (by decide) (by decide) ?_
  intro T2 h2 b2 zq2 X2 e2 E2 E_b2 A_b2
  have ne_a1_b2 : a1 ≠ b2 := by rw [zq2]; exact Nat.ne_of_lt F_a1_order.lt
  have ne_ao_b2 : ao ≠ b2 := by rw [zq2]; exact Nat.ne_of_lt E_ao.lt
  have g_b2 : n0 ≤ b2 := by rw [zq2]; exact Z0
  have s_b2 : h0.size ≤ b2 := by rw [zq2]; exact K.1
  have F_a1_order := F_a1_order.ext E2
  have E_ao := E_ao.ext E2
  have A_ao := A_ao.ext E2
  have K := K.ext E2
  have Z0 := Nat.le_trans Z0 E2.1
  show Go p e below W T2 (mkF m 7 #[.val (.ref a1)] [(.ref b2)])
  refine Go.cast X2 hx hZ hown (hw _ (List.mem_of_getElem? (i := 32) rfl)) e2 E_b2 (hb hby d4_7) ?_
  intro T3 X3 e3
  show Go p e below W T3 (mkF m 10 #[.val (.ref a1)] [(.ref b2)])
  have fin : Q4 Z a1 ao fo h0 n0 (some (.ref b2)) h2 [] := ⟨b2, rfl, N, K, s_b2, A_b2⟩
  exact Go.retA X3 hx hret rfl rfl (hb hby d4_10) hlk (fun t ht fe => hW t _ _ _ _ (by rw [ht, e3]; exact fin) fe (by decide) (by decide))
set_option maxRecDepth 65536 in
set_option maxHeartbeats 40000000 in
theorem rm5 (l : Launch) (Z : State) (a0 : Array Value) (hw : ∀ d ∈ tables_1, d.before a0 Z = true) (ws : List Jvm.Cond) (a1 : Addr) (p2 : Int32) (p3 : Int32) (p4 : Int32) (fo : Nat → Int32) (h0 : Heap) (A_a1 : AI Z h0 a1 .int 5 fo) (hft : own_rng p2 p3) (hp : inb p4 5) :
    Con l Z (⟨"com/example/pilfer/pilfer/TourReversePinLaw", "at", "([IIII)I"⟩ : MethodName) method_2_code 4 (some .int) ws ({ frames := 0, cells := 0, slots := 0, locals := 0 } : Room) #[(.ref a1), (.int p2), (.int p3), (.int p4)] h0 (PQ (.int (f5 p2 p3 p4 fo)) h0) := by
  refine own_body pn_5 (fun m => ef_5 m a1 p2 p3 p4) ?_
  intro p e s m below meth c T0 W X0 hx hby hml hret hlk hown hnm hZ e0 hW
  show Go p e below W T0 (mkF m 0 #[.val (.ref a1), .val (.int p2), .val (.int p3), .val (.int p4)] [])
  refine Go.of (fun _ k => XS.iloadN X0.here hx rfl (hb hby d5_0) rfl k) ?_
  show Go p e below W T0 (mkF m 1 #[.val (.ref a1), .val (.int p2), .val (.int p3), .val (.int p4)] [(.int p2)])
  refine Go.of (fun _ k => XS.iloadN X0.here hx rfl (hb hby d5_1) rfl k) ?_
  show Go p e below W T0 (mkF m 2 #[.val (.ref a1), .val (.int p2), .val (.int p3), .val (.int p4)] [(.int p4), (.int p2)])
  by_cases c1 : p4 < p2
  · refine Go.of (fun _ k => XS.icmpYes X0.here hx rfl (pc0 := 2) (pc' := 20) rfl (hb hby d5_2) rfl (Jvm.Free.XT.ii_gt_t c1) (by decide) (by decide) k) ?_
    show Go p e below W T0 (mkF m 20 #[.val (.ref a1), .val (.int p2), .val (.int p3), .val (.int p4)] [])
    refine Go.of (fun _ k => XS.aloadN X0.here hx rfl (hb hby d5_20) rfl rfl k) ?_
    show Go p e below W T0 (mkF m 21 #[.val (.ref a1), .val (.int p2), .val (.int p3), .val (.int p4)] [(.ref a1)])
    refine Go.of (fun _ k => XS.iloadN X0.here hx rfl (hb hby d5_21) rfl k) ?_
    show Go p e below W T0 (mkF m 22 #[.val (.ref a1), .val (.int p2), .val (.int p3), .val (.int p4)] [(.int p4), (.ref a1)])
    refine Go.iald X0 hx hZ e0 A_a1 hp (hb hby d5_22) ?_
    show Go p e below W T0 (mkF m 23 #[.val (.ref a1), .val (.int p2), .val (.int p3), .val (.int p4)] [(.int (fo (p4).toNatClampNeg))])
    have u_f5 : (f5 p2 p3 p4 fo) = (fo (p4).toNatClampNeg) := by rw [f5, if_pos c1]
    exact Go.retI X0 hx hret (hb hby d5_23) hlk u_f5.symm (fun t ht fe => hW t _ _ _ _ ⟨rfl, rfl, ht.trans e0⟩ fe (by decide) (by decide))
  · refine Go.of (fun _ k => XS.icmpNo X0.here hx rfl (hb hby d5_2) rfl (Jvm.Free.XT.ii_gt_f c1) k) ?_
    show Go p e below W T0 (mkF m 5 #[.val (.ref a1), .val (.int p2), .val (.int p3), .val (.int p4)] [])
    refine Go.of (fun _ k => XS.iloadN X0.here hx rfl (hb hby d5_5) rfl k) ?_
    show Go p e below W T0 (mkF m 6 #[.val (.ref a1), .val (.int p2), .val (.int p3), .val (.int p4)] [(.int p4)])
    refine Go.of (fun _ k => XS.iloadN X0.here hx rfl (hb hby d5_6) rfl k) ?_
    show Go p e below W T0 (mkF m 7 #[.val (.ref a1), .val (.int p2), .val (.int p3), .val (.int p4)] [(.int p3), (.int p4)])
    by_cases c2 : p3 < p4
    · refine Go.of (fun _ k => XS.icmpYes X0.here hx rfl (pc0 := 7) (pc' := 20) rfl (hb hby d5_7) rfl (Jvm.Free.XT.ii_gt_t c2) (by decide) (by decide) k) ?_
      show Go p e below W T0 (mkF m 20 #[.val (.ref a1), .val (.int p2), .val (.int p3), .val (.int p4)] [])
      refine Go.of (fun _ k => XS.aloadN X0.here hx rfl (hb hby d5_20) rfl rfl k) ?_
      show Go p e below W T0 (mkF m 21 #[.val (.ref a1), .val (.int p2), .val (.int p3), .val (.int p4)] [(.ref a1)])
      refine Go.of (fun _ k => XS.iloadN X0.here hx rfl (hb hby d5_21) rfl k) ?_
      show Go p e below W T0 (mkF m 22 #[.val (.ref a1), .val (.int p2), .val (.int p3), .val (.int p4)] [(.int p4), (.ref a1)])
      refine Go.iald X0 hx hZ e0 A_a1 hp (hb hby d5_22) ?_
      show Go p e below W T0 (mkF m 23 #[.val (.ref a1), .val (.int p2), .val (.int p3), .val (.int p4)] [(.int (fo (p4).toNatClampNeg))])
      have u_f5 : (f5 p2 p3 p4 fo) = (fo (p4).toNatClampNeg) := by rw [f5, if_neg c1, if_pos c2]
      exact Go.retI X0 hx hret (hb hby d5_23) hlk u_f5.symm (fun t ht fe => hW t _ _ _ _ ⟨rfl, rfl, ht.trans e0⟩ fe (by decide) (by decide))
    · refine Go.of (fun _ k => XS.icmpNo X0.here hx rfl (hb hby d5_7) rfl (Jvm.Free.XT.ii_gt_f c2) k) ?_
      show Go p e below W T0 (mkF m 10 #[.val (.ref a1), .val (.int p2), .val (.int p3), .val (.int p4)] [])
      refine Go.of (fun _ k => XS.aloadN X0.here hx rfl (hb hby d5_10) rfl rfl k) ?_
      show Go p e below W T0 (mkF m 11 #[.val (.ref a1), .val (.int p2), .val (.int p3), .val (.int p4)] [(.ref a1)])
      refine Go.of (fun _ k => XS.iloadN X0.here hx rfl (hb hby d5_11) rfl k) ?_
      show Go p e below W T0 (mkF m 12 #[.val (.ref a1), .val (.int p2), .val (.int p3), .val (.int p4)] [(.int p2), (.ref a1)])
      refine Go.of (fun _ k => XS.iloadN X0.here hx rfl (hb hby d5_12) rfl k) ?_
      show Go p e below W T0 (mkF m 13 #[.val (.ref a1), .val (.int p2), .val (.int p3), .val (.int p4)] [(.int p3), (.int p2), (.ref a1)])
      refine Go.of (fun _ k => XS.iadd X0.here hx rfl (hb hby d5_13) rfl k) ?_
      show Go p e below W T0 (mkF m 14 #[.val (.ref a1), .val (.int p2), .val (.int p3), .val (.int p4)] [(.int (p2 + p3)), (.ref a1)])
      refine Go.of (fun _ k => XS.iloadN X0.here hx rfl (hb hby d5_14) rfl k) ?_
      show Go p e below W T0 (mkF m 15 #[.val (.ref a1), .val (.int p2), .val (.int p3), .val (.int p4)] [(.int p4), (.int (p2 + p3)), (.ref a1)])
      refine Go.of (fun _ k => XS.isub X0.here hx rfl (hb hby d5_15) rfl k) ?_
      show Go p e below W T0 (mkF m 16 #[.val (.ref a1), .val (.int p2), .val (.int p3), .val (.int p4)] [(.int ((p2 + p3) - p4)), (.ref a1)])
      refine Go.iald X0 hx hZ e0 A_a1 (own_b5 hft c1 c2) (hb hby d5_16) ?_
      show Go p e below W T0 (mkF m 17 #[.val (.ref a1), .val (.int p2), .val (.int p3), .val (.int p4)] [(.int (fo ((p2 + p3) - p4).toNatClampNeg))])
      refine Go.of (fun _ k => XS.goto X0.here hx rfl (pc0 := 17) (pc' := 23) rfl (hb hby d5_17) (by decide) (by decide) k) ?_
      show Go p e below W T0 (mkF m 23 #[.val (.ref a1), .val (.int p2), .val (.int p3), .val (.int p4)] [(.int (fo ((p2 + p3) - p4).toNatClampNeg))])
      have u_f5 : (f5 p2 p3 p4 fo) = (fo ((p2 + p3) - p4).toNatClampNeg) := by rw [f5, if_neg c1, if_neg c2]
      exact Go.retI X0 hx hret (hb hby d5_23) hlk u_f5.symm (fun t ht fe => hW t _ _ _ _ ⟨rfl, rfl, ht.trans e0⟩ fe (by decide) (by decide))
set_option maxRecDepth 65536 in
set_option maxHeartbeats 40000000 in
theorem rm6 (l : Launch) (Z : State) (a0 : Array Value) (hw : ∀ d ∈ tables_1, d.before a0 Z = true) (ws : List Jvm.Cond) (a1 : Addr) (p2 : Int32) (aq : Addr) (fp : Nat → Int32) (h0 : Heap) (F_a1_position : Fld Z h0 a1 "com/example/pilfer/pilfer/Tour" "position" "[I" (.ref aq)) (A_aq : AI Z h0 aq .int 5 fp) (hp : inb p2 5) :
    Con l Z (⟨"com/example/pilfer/pilfer/Tour", "position", "(I)I"⟩ : MethodName) prog_24_method_4_code 2 (some .int) ws ({ frames := 0, cells := 0, slots := 0, locals := 0 } : Room) #[(.ref a1), (.int p2)] h0 (PQ (.int (f6 p2 fp)) h0) := by
  refine own_body pn_6 (fun m => ef_6 m a1 p2) ?_
  intro p e s m below meth c T0 W X0 hx hby hml hret hlk hown hnm hZ e0 hW
  show Go p e below W T0 (mkF m 0 #[.val (.ref a1), .val (.int p2)] [])
  refine Go.of (fun _ k => XS.aloadN X0.here hx rfl (hb hby d6_0) rfl rfl k) ?_
  show Go p e below W T0 (mkF m 1 #[.val (.ref a1), .val (.int p2)] [(.ref a1)])
  refine Go.getF X0 hx hZ hown (hw _ (List.mem_of_getElem? (i := 13) rfl)) e0 F_a1_position (hb hby d6_1) ?_
  intro T1 X1 e1
  show Go p e below W T1 (mkF m 4 #[.val (.ref a1), .val (.int p2)] [(.ref aq)])
  refine Go.of (fun _ k => XS.iloadN X1.here hx rfl (hb hby d6_4) rfl k) ?_
  show Go p e below W T1 (mkF m 5 #[.val (.ref a1), .val (.int p2)] [(.int p2), (.ref aq)])
  refine Go.iald X1 hx hZ e1 A_aq hp (hb hby d6_5) ?_
  show Go p e below W T1 (mkF m 6 #[.val (.ref a1), .val (.int p2)] [(.int (fp (p2).toNatClampNeg))])
  have u_f6 : (f6 p2 fp) = (fp (p2).toNatClampNeg) := by rw [f6]
  exact Go.retI X1 hx hret (hb hby d6_6) hlk u_f6.symm (fun t ht fe => hW t _ _ _ _ ⟨rfl, rfl, ht.trans e1⟩ fe (by decide) (by decide))
set_option maxRecDepth 65536 in
set_option maxHeartbeats 40000000 in
theorem rm7 (l : Launch) (Z : State) (a0 : Array Value) (hw : ∀ d ∈ tables_1, d.before a0 Z = true) (ws : List Jvm.Cond) (p1 : Int32) (p2 : Int32) (p3 : Int32) (h0 : Heap) :
    Con l Z (⟨"com/example/pilfer/pilfer/TourReversePinLaw", "newPos", "(III)I"⟩ : MethodName) method_3_code 3 (some .int) ws ({ frames := 0, cells := 0, slots := 0, locals := 0 } : Room) #[(.int p1), (.int p2), (.int p3)] h0 (PQ (.int (f7 p1 p2 p3)) h0) := by
  refine own_body pn_7 (fun m => ef_7 m p1 p2 p3) ?_
  intro p e s m below meth c T0 W X0 hx hby hml hret hlk hown hnm hZ e0 hW
  show Go p e below W T0 (mkF m 0 #[.val (.int p1), .val (.int p2), .val (.int p3)] [])
  refine Go.of (fun _ k => XS.iloadN X0.here hx rfl (hb hby d7_0) rfl k) ?_
  show Go p e below W T0 (mkF m 1 #[.val (.int p1), .val (.int p2), .val (.int p3)] [(.int p1)])
  refine Go.of (fun _ k => XS.iloadN X0.here hx rfl (hb hby d7_1) rfl k) ?_
  show Go p e below W T0 (mkF m 2 #[.val (.int p1), .val (.int p2), .val (.int p3)] [(.int p3), (.int p1)])
  by_cases c1 : p3 < p1
  · refine Go.of (fun _ k => XS.icmpYes X0.here hx rfl (pc0 := 2) (pc' := 18) rfl (hb hby d7_2) rfl (Jvm.Free.XT.ii_gt_t c1) (by decide) (by decide) k) ?_
    show Go p e below W T0 (mkF m 18 #[.val (.int p1), .val (.int p2), .val (.int p3)] [])
    refine Go.of (fun _ k => XS.iloadN X0.here hx rfl (hb hby d7_18) rfl k) ?_
    show Go p e below W T0 (mkF m 19 #[.val (.int p1), .val (.int p2), .val (.int p3)] [(.int p3)])
    have q : (f7 p1 p2 p3) = p3 := by rw [f7, if_pos c1]
    exact Go.retI X0 hx hret (hb hby d7_19) hlk q.symm (fun t ht fe => hW t _ _ _ _ ⟨rfl, rfl, ht.trans e0⟩ fe (by decide) (by decide))
  · refine Go.of (fun _ k => XS.icmpNo X0.here hx rfl (hb hby d7_2) rfl (Jvm.Free.XT.ii_gt_f c1) k) ?_
    show Go p e below W T0 (mkF m 5 #[.val (.int p1), .val (.int p2), .val (.int p3)] [])
    refine Go.of (fun _ k => XS.iloadN X0.here hx rfl (hb hby d7_5) rfl k) ?_
    show Go p e below W T0 (mkF m 6 #[.val (.int p1), .val (.int p2), .val (.int p3)] [(.int p3)])
    refine Go.of (fun _ k => XS.iloadN X0.here hx rfl (hb hby d7_6) rfl k) ?_
    show Go p e below W T0 (mkF m 7 #[.val (.int p1), .val (.int p2), .val (.int p3)] [(.int p2), (.int p3)])
    by_cases c2 : p2 < p3
    · refine Go.of (fun _ k => XS.icmpYes X0.here hx rfl (pc0 := 7) (pc' := 18) rfl (hb hby d7_7) rfl (Jvm.Free.XT.ii_gt_t c2) (by decide) (by decide) k) ?_
      show Go p e below W T0 (mkF m 18 #[.val (.int p1), .val (.int p2), .val (.int p3)] [])
      refine Go.of (fun _ k => XS.iloadN X0.here hx rfl (hb hby d7_18) rfl k) ?_
      show Go p e below W T0 (mkF m 19 #[.val (.int p1), .val (.int p2), .val (.int p3)] [(.int p3)])
      have q : (f7 p1 p2 p3) = p3 := by rw [f7, if_neg c1, if_pos c2]
      exact Go.retI X0 hx hret (hb hby d7_19) hlk q.symm (fun t ht fe => hW t _ _ _ _ ⟨rfl, rfl, ht.trans e0⟩ fe (by decide) (by decide))
    · refine Go.of (fun _ k => XS.icmpNo X0.here hx rfl (hb hby d7_7) rfl (Jvm.Free.XT.ii_gt_f c2) k) ?_
      show Go p e below W T0 (mkF m 10 #[.val (.int p1), .val (.int p2), .val (.int p3)] [])
      refine Go.of (fun _ k => XS.iloadN X0.here hx rfl (hb hby d7_10) rfl k) ?_
      show Go p e below W T0 (mkF m 11 #[.val (.int p1), .val (.int p2), .val (.int p3)] [(.int p1)])
      refine Go.of (fun _ k => XS.iloadN X0.here hx rfl (hb hby d7_11) rfl k) ?_
      show Go p e below W T0 (mkF m 12 #[.val (.int p1), .val (.int p2), .val (.int p3)] [(.int p2), (.int p1)])
      refine Go.of (fun _ k => XS.iadd X0.here hx rfl (hb hby d7_12) rfl k) ?_
      show Go p e below W T0 (mkF m 13 #[.val (.int p1), .val (.int p2), .val (.int p3)] [(.int (p1 + p2))])
      refine Go.of (fun _ k => XS.iloadN X0.here hx rfl (hb hby d7_13) rfl k) ?_
      show Go p e below W T0 (mkF m 14 #[.val (.int p1), .val (.int p2), .val (.int p3)] [(.int p3), (.int (p1 + p2))])
      refine Go.of (fun _ k => XS.isub X0.here hx rfl (hb hby d7_14) rfl k) ?_
      show Go p e below W T0 (mkF m 15 #[.val (.int p1), .val (.int p2), .val (.int p3)] [(.int ((p1 + p2) - p3))])
      refine Go.of (fun _ k => XS.goto X0.here hx rfl (pc0 := 15) (pc' := 19) rfl (hb hby d7_15) (by decide) (by decide) k) ?_
      show Go p e below W T0 (mkF m 19 #[.val (.int p1), .val (.int p2), .val (.int p3)] [(.int ((p1 + p2) - p3))])
      have q : (f7 p1 p2 p3) = ((p1 + p2) - p3) := by rw [f7, if_neg c1, if_neg c2]
      exact Go.retI X0 hx hret (hb hby d7_19) hlk q.symm (fun t ht fe => hW t _ _ _ _ ⟨rfl, rfl, ht.trans e0⟩ fe (by decide) (by decide))
set_option maxRecDepth 65536 in
set_option maxHeartbeats 40000000 in
theorem rm0 (l : Launch) (Z : State) (a0 : Array Value) (hw : ∀ d ∈ tables_1, d.before a0 Z = true) (ws : List Jvm.Cond) (p1 : Int32) (p2 : Int32) (p3 : Int32) (p4 : Int32) (kk : Int32) (ss : Int32) (fr : Int32) (tt : Int32) (h0 : Heap) (n0 : Nat) (Z0 : n0 ≤ h0.size) (hk : ((1 : Int32) + ((p1 &&& (2147483647 : Int32)) % (4 : Int32))) = kk) (hs : ((p2 &&& (2147483647 : Int32)) % (5 : Int32)) = ss) (hf : ((1 : Int32) + ((p3 &&& (2147483647 : Int32)) % (4 : Int32))) = fr) (ht : (fr + ((p4 &&& (2147483647 : Int32)) % ((5 : Int32) - fr))) = tt) (rk : own_rk kk) (rs : own_rs ss) (rf : own_rng fr tt) :
    Con l Z x code maxLocals ret ws room_1 #[(.int p1), (.int p2), (.int p3), (.int p4)] h0 (Q0 Z p1 p2 p3 p4 kk ss fr tt h0 n0) := by
  refine own_body pn_0 (fun m => ef_0 m p1 p2 p3 p4) ?_
  intro p e s m below meth c T0 W X0 hx hby hml hret hlk hown hnm hZ e0 hW
  have K : Keep h0 h0 [] := Keep.refl _ _
  have N := Fr.nil n0
  show Go p e below W T0 (mkF m 0 #[.val (.int p1), .val (.int p2), .val (.int p3), .val (.int p4), .unset, .unset, .unset, .unset, .unset, .unset, .unset, .unset, .unset] [])
  refine Go.of (fun _ k => XS.iconst X0.here hx rfl (hb hby at_0) k) ?_
  show Go p e below W T0 (mkF m 1 #[.val (.int p1), .val (.int p2), .val (.int p3), .val (.int p4), .unset, .unset, .unset, .unset, .unset, .unset, .unset, .unset, .unset] [(.int (1 : Int32))])
  refine Go.of (fun _ k => XS.iloadN X0.here hx rfl (hb hby at_1) rfl k) ?_
  show Go p e below W T0 (mkF m 2 #[.val (.int p1), .val (.int p2), .val (.int p3), .val (.int p4), .unset, .unset, .unset, .unset, .unset, .unset, .unset, .unset, .unset] [(.int p1), (.int (1 : Int32))])
  refine Go.of (fun _ k => X0.ldcI hx hown (mvT hZ (hw _ (List.mem_of_getElem? (i := 0) rfl))) rfl (hb hby at_2) k) ?_
  show Go p e below W T0 (mkF m 4 #[.val (.int p1), .val (.int p2), .val (.int p3), .val (.int p4), .unset, .unset, .unset, .unset, .unset, .unset, .unset, .unset, .unset] [(.int (2147483647 : Int32)), (.int p1), (.int (1 : Int32))])
  refine Go.of (fun _ k => XS.iand X0.here hx rfl (hb hby at_4) rfl k) ?_
  show Go p e below W T0 (mkF m 5 #[.val (.int p1), .val (.int p2), .val (.int p3), .val (.int p4), .unset, .unset, .unset, .unset, .unset, .unset, .unset, .unset, .unset] [(.int (p1 &&& (2147483647 : Int32))), (.int (1 : Int32))])
  refine Go.of (fun _ k => XS.iconst X0.here hx rfl (hb hby at_5) k) ?_
  show Go p e below W T0 (mkF m 6 #[.val (.int p1), .val (.int p2), .val (.int p3), .val (.int p4), .unset, .unset, .unset, .unset, .unset, .unset, .unset, .unset, .unset] [(.int (4 : Int32)), (.int (p1 &&& (2147483647 : Int32))), (.int (1 : Int32))])
  refine Go.of (fun _ k => iremM X0 hx rfl (hb hby at_6) rfl (by decide) k) ?_
  show Go p e below W T0 (mkF m 7 #[.val (.int p1), .val (.int p2), .val (.int p3), .val (.int p4), .unset, .unset, .unset, .unset, .unset, .unset, .unset, .unset, .unset] [(.int ((p1 &&& (2147483647 : Int32)) % (4 : Int32))), (.int (1 : Int32))])
  refine Go.of (fun _ k => XS.iadd X0.here hx rfl (hb hby at_7) rfl k) ?_
  show Go p e below W T0 (mkF m 8 #[.val (.int p1), .val (.int p2), .val (.int p3), .val (.int p4), .unset, .unset, .unset, .unset, .unset, .unset, .unset, .unset, .unset] [(.int ((1 : Int32) + ((p1 &&& (2147483647 : Int32)) % (4 : Int32))))])
  rw [hk]
  show Go p e below W T0 (mkF m 8 #[.val (.int p1), .val (.int p2), .val (.int p3), .val (.int p4), .unset, .unset, .unset, .unset, .unset, .unset, .unset, .unset, .unset] [(.int kk)])
  show Go p e below W T0 (mkF m 8 #[.val (.int p1), .val (.int p2), .val (.int p3), .val (.int p4), .unset, .unset, .unset, .unset, .unset, .unset, .unset, .unset, .unset] [(.int kk)])
  refine Go.of (fun _ k => XS.istore X0.here hx rfl (hb hby at_8) rfl (l' := #[.val (.int p1), .val (.int p2), .val (.int p3), .val (.int p4), .val (.int kk), .unset, .unset, .unset, .unset, .unset, .unset, .unset, .unset]) rfl k) ?_
  show Go p e below W T0 (mkF m 10 #[.val (.int p1), .val (.int p2), .val (.int p3), .val (.int p4), .val (.int kk), .unset, .unset, .unset, .unset, .unset, .unset, .unset, .unset] [])
  refine Go.of (fun _ k => XS.iloadN X0.here hx rfl (hb hby at_10) rfl k) ?_
  show Go p e below W T0 (mkF m 11 #[.val (.int p1), .val (.int p2), .val (.int p3), .val (.int p4), .val (.int kk), .unset, .unset, .unset, .unset, .unset, .unset, .unset, .unset] [(.int p2)])
  refine Go.of (fun _ k => X0.ldcI hx hown (mvT hZ (hw _ (List.mem_of_getElem? (i := 0) rfl))) rfl (hb hby at_11) k) ?_
  show Go p e below W T0 (mkF m 13 #[.val (.int p1), .val (.int p2), .val (.int p3), .val (.int p4), .val (.int kk), .unset, .unset, .unset, .unset, .unset, .unset, .unset, .unset] [(.int (2147483647 : Int32)), (.int p2)])
  refine Go.of (fun _ k => XS.iand X0.here hx rfl (hb hby at_13) rfl k) ?_
  show Go p e below W T0 (mkF m 14 #[.val (.int p1), .val (.int p2), .val (.int p3), .val (.int p4), .val (.int kk), .unset, .unset, .unset, .unset, .unset, .unset, .unset, .unset] [(.int (p2 &&& (2147483647 : Int32)))])
  refine Go.of (fun _ k => XS.iconst X0.here hx rfl (hb hby at_14) k) ?_
  show Go p e below W T0 (mkF m 15 #[.val (.int p1), .val (.int p2), .val (.int p3), .val (.int p4), .val (.int kk), .unset, .unset, .unset, .unset, .unset, .unset, .unset, .unset] [(.int (5 : Int32)), (.int (p2 &&& (2147483647 : Int32)))])
  refine Go.of (fun _ k => iremM X0 hx rfl (hb hby at_15) rfl (by decide) k) ?_
  show Go p e below W T0 (mkF m 16 #[.val (.int p1), .val (.int p2), .val (.int p3), .val (.int p4), .val (.int kk), .unset, .unset, .unset, .unset, .unset, .unset, .unset, .unset] [(.int ((p2 &&& (2147483647 : Int32)) % (5 : Int32)))])
  rw [hs]
  show Go p e below W T0 (mkF m 16 #[.val (.int p1), .val (.int p2), .val (.int p3), .val (.int p4), .val (.int kk), .unset, .unset, .unset, .unset, .unset, .unset, .unset, .unset] [(.int ss)])
  show Go p e below W T0 (mkF m 16 #[.val (.int p1), .val (.int p2), .val (.int p3), .val (.int p4), .val (.int kk), .unset, .unset, .unset, .unset, .unset, .unset, .unset, .unset] [(.int ss)])
  refine Go.of (fun _ k => XS.istore X0.here hx rfl (hb hby at_16) rfl (l' := #[.val (.int p1), .val (.int p2), .val (.int p3), .val (.int p4), .val (.int kk), .val (.int ss), .unset, .unset, .unset, .unset, .unset, .unset, .unset]) rfl k) ?_
  show Go p e below W T0 (mkF m 18 #[.val (.int p1), .val (.int p2), .val (.int p3), .val (.int p4), .val (.int kk), .val (.int ss), .unset, .unset, .unset, .unset, .unset, .unset, .unset] [])
  refine Go.of (fun _ k => XS.iconst X0.here hx rfl (hb hby at_18) k) ?_
  show Go p e below W T0 (mkF m 19 #[.val (.int p1), .val (.int p2), .val (.int p3), .val (.int p4), .val (.int kk), .val (.int ss), .unset, .unset, .unset, .unset, .unset, .unset, .unset] [(.int (5 : Int32))])
  refine Go.newA X0 hx hZ (hw _ (List.mem_of_getElem? (i := 1) rfl)) rfl rfl rfl e0 (hb hby at_19) (by decide) (cap := 5) (by decide) (by decide) (by decide) (by decide) ?_
  intro T1 h1 b1 zq1 X1 e1 E1 E_b1 A_b1
  have g_b1 : n0 ≤ b1 := by rw [zq1]; exact Z0
  have s_b1 : h0.size ≤ b1 := by rw [zq1]; exact K.1
  have K := K.ext E1
  have Z0 := Nat.le_trans Z0 E1.1
  have A_b1 : AI Z h1 b1 .int 5 (w0_2 kk ss fr tt) := A_b1
  show Go p e below W T1 (mkF m 21 #[.val (.int p1), .val (.int p2), .val (.int p3), .val (.int p4), .val (.int kk), .val (.int ss), .unset, .unset, .unset, .unset, .unset, .unset, .unset] [(.ref b1)])
  refine Go.of (fun _ k => XS.astore X1.here hx rfl (hb hby at_21) rfl rfl (l' := #[.val (.int p1), .val (.int p2), .val (.int p3), .val (.int p4), .val (.int kk), .val (.int ss), .val (.ref b1), .unset, .unset, .unset, .unset, .unset, .unset]) rfl k) ?_
  show Go p e below W T1 (mkF m 23 #[.val (.int p1), .val (.int p2), .val (.int p3), .val (.int p4), .val (.int kk), .val (.int ss), .val (.ref b1), .unset, .unset, .unset, .unset, .unset, .unset] [])
  refine Go.of (fun _ k => XS.iconst X1.here hx rfl (hb hby at_23) k) ?_
  show Go p e below W T1 (mkF m 24 #[.val (.int p1), .val (.int p2), .val (.int p3), .val (.int p4), .val (.int kk), .val (.int ss), .val (.ref b1), .unset, .unset, .unset, .unset, .unset, .unset] [(.int (5 : Int32))])
  refine Go.newA X1 hx hZ (hw _ (List.mem_of_getElem? (i := 1) rfl)) rfl rfl rfl e1 (hb hby at_24) (by decide) (cap := 5) (by decide) (by decide) (by decide) (by decide) ?_
  intro T3 h3 b3 zq3 X3 e3 E3 E_b3 A_b3
  have ne_b1_b3 : b1 ≠ b3 := by rw [zq3]; exact Nat.ne_of_lt E_b1.lt
  have g_b3 : n0 ≤ b3 := by rw [zq3]; exact Z0
  have s_b3 : h0.size ≤ b3 := by rw [zq3]; exact K.1
  have E_b1 := E_b1.ext E3
  have A_b1 := A_b1.ext E3
  have K := K.ext E3
  have Z0 := Nat.le_trans Z0 E3.1
  have A_b3 : AI Z h3 b3 .int 5 (w0_4 kk ss fr tt) := A_b3
  show Go p e below W T3 (mkF m 26 #[.val (.int p1), .val (.int p2), .val (.int p3), .val (.int p4), .val (.int kk), .val (.int ss), .val (.ref b1), .unset, .unset, .unset, .unset, .unset, .unset] [(.ref b3)])
  refine Go.of (fun _ k => XS.astore X3.here hx rfl (hb hby at_26) rfl rfl (l' := #[.val (.int p1), .val (.int p2), .val (.int p3), .val (.int p4), .val (.int kk), .val (.int ss), .val (.ref b1), .val (.ref b3), .unset, .unset, .unset, .unset, .unset]) rfl k) ?_
  show Go p e below W T3 (mkF m 28 #[.val (.int p1), .val (.int p2), .val (.int p3), .val (.int p4), .val (.int kk), .val (.int ss), .val (.ref b1), .val (.ref b3), .unset, .unset, .unset, .unset, .unset] [])
  refine Go.of (fun _ k => XS.aload X3.here hx rfl (hb hby at_28) rfl rfl k) ?_
  show Go p e below W T3 (mkF m 30 #[.val (.int p1), .val (.int p2), .val (.int p3), .val (.int p4), .val (.int kk), .val (.int ss), .val (.ref b1), .val (.ref b3), .unset, .unset, .unset, .unset, .unset] [(.ref b3)])
  refine Go.of (fun _ k => XS.iconst X3.here hx rfl (hb hby at_30) k) ?_
  show Go p e below W T3 (mkF m 31 #[.val (.int p1), .val (.int p2), .val (.int p3), .val (.int p4), .val (.int kk), .val (.int ss), .val (.ref b1), .val (.ref b3), .unset, .unset, .unset, .unset, .unset] [(.int (0 : Int32)), (.ref b3)])
  refine Go.of (fun _ k => XS.iload X3.here hx rfl (hb hby at_31) rfl k) ?_
  show Go p e below W T3 (mkF m 33 #[.val (.int p1), .val (.int p2), .val (.int p3), .val (.int p4), .val (.int kk), .val (.int ss), .val (.ref b1), .val (.ref b3), .unset, .unset, .unset, .unset, .unset] [(.int ss), (.int (0 : Int32)), (.ref b3)])
  refine Go.ist X3 hx hZ e3 N g_b3 A_b3 ⟨by decide, by decide⟩ (hb hby at_33) ?_
  intro T5 h5 L5 X5 N e5 W5 A_b3
  have E_b1 := E_b1.wr W5
  have A_b1 := A_b1.other W5 ne_b1_b3
  have E_b3 := E_b3.wr W5
  have K := K.wr W5 (Or.inr s_b3)
  have Z0 := Nat.le_trans Z0 (Keep.of_wr W5).1
  have A_b3 : AI Z h5 b3 .int 5 (w0_6 kk ss fr tt) := A_b3
  show Go p e below W T5 (mkF m 34 #[.val (.int p1), .val (.int p2), .val (.int p3), .val (.int p4), .val (.int kk), .val (.int ss), .val (.ref b1), .val (.ref b3), .unset, .unset, .unset, .unset, .unset] [])
  refine Go.of (fun _ k => XS.aload X5.here hx rfl (hb hby at_34) rfl rfl k) ?_
  show Go p e below W T5 (mkF m 36 #[.val (.int p1), .val (.int p2), .val (.int p3), .val (.int p4), .val (.int kk), .val (.int ss), .val (.ref b1), .val (.ref b3), .unset, .unset, .unset, .unset, .unset] [(.ref b3)])
  refine Go.of (fun _ k => XS.iconst X5.here hx rfl (hb hby at_36) k) ?_
  show Go p e below W T5 (mkF m 37 #[.val (.int p1), .val (.int p2), .val (.int p3), .val (.int p4), .val (.int kk), .val (.int ss), .val (.ref b1), .val (.ref b3), .unset, .unset, .unset, .unset, .unset] [(.int (1 : Int32)), (.ref b3)])
  refine Go.of (fun _ k => XS.iload X5.here hx rfl (hb hby at_37) rfl k) ?_
  show Go p e below W T5 (mkF m 39 #[.val (.int p1), .val (.int p2), .val (.int p3), .val (.int p4), .val (.int kk), .val (.int ss), .val (.ref b1), .val (.ref b3), .unset, .unset, .unset, .unset, .unset] [(.int kk), (.int (1 : Int32)), (.ref b3)])
  refine Go.of (fun _ k => XS.iload X5.here hx rfl (hb hby at_39) rfl k) ?_
  show Go p e below W T5 (mkF m 41 #[.val (.int p1), .val (.int p2), .val (.int p3), .val (.int p4), .val (.int kk), .val (.int ss), .val (.ref b1), .val (.ref b3), .unset, .unset, .unset, .unset, .unset] [(.int ss), (.int kk), (.int (1 : Int32)), (.ref b3)])
  refine Go.of (fun _ k => XS.iadd X5.here hx rfl (hb hby at_41) rfl k) ?_
  show Go p e below W T5 (mkF m 42 #[.val (.int p1), .val (.int p2), .val (.int p3), .val (.int p4), .val (.int kk), .val (.int ss), .val (.ref b1), .val (.ref b3), .unset, .unset, .unset, .unset, .unset] [(.int (kk + ss)), (.int (1 : Int32)), (.ref b3)])
  refine Go.of (fun _ k => XS.iconst X5.here hx rfl (hb hby at_42) k) ?_
  show Go p e below W T5 (mkF m 43 #[.val (.int p1), .val (.int p2), .val (.int p3), .val (.int p4), .val (.int kk), .val (.int ss), .val (.ref b1), .val (.ref b3), .unset, .unset, .unset, .unset, .unset] [(.int (5 : Int32)), (.int (kk + ss)), (.int (1 : Int32)), (.ref b3)])
  refine Go.of (fun _ k => iremM X5 hx rfl (hb hby at_43) rfl (by decide) k) ?_
  show Go p e below W T5 (mkF m 44 #[.val (.int p1), .val (.int p2), .val (.int p3), .val (.int p4), .val (.int kk), .val (.int ss), .val (.ref b1), .val (.ref b3), .unset, .unset, .unset, .unset, .unset] [(.int ((kk + ss) % (5 : Int32))), (.int (1 : Int32)), (.ref b3)])
  refine Go.ist X5 hx hZ e5 N g_b3 A_b3 ⟨by decide, by decide⟩ (hb hby at_44) ?_
  intro T7 h7 L7 X7 N e7 W7 A_b3
  have E_b1 := E_b1.wr W7
  have A_b1 := A_b1.other W7 ne_b1_b3
  have E_b3 := E_b3.wr W7
  have K := K.wr W7 (Or.inr s_b3)
  have Z0 := Nat.le_trans Z0 (Keep.of_wr W7).1
  have A_b3 : AI Z h7 b3 .int 5 (w0_8 kk ss fr tt) := A_b3
  show Go p e below W T7 (mkF m 45 #[.val (.int p1), .val (.int p2), .val (.int p3), .val (.int p4), .val (.int kk), .val (.int ss), .val (.ref b1), .val (.ref b3), .unset, .unset, .unset, .unset, .unset] [])
  refine Go.of (fun _ k => XS.aload X7.here hx rfl (hb hby at_45) rfl rfl k) ?_
  show Go p e below W T7 (mkF m 47 #[.val (.int p1), .val (.int p2), .val (.int p3), .val (.int p4), .val (.int kk), .val (.int ss), .val (.ref b1), .val (.ref b3), .unset, .unset, .unset, .unset, .unset] [(.ref b3)])
  refine Go.of (fun _ k => XS.iconst X7.here hx rfl (hb hby at_47) k) ?_
  show Go p e below W T7 (mkF m 48 #[.val (.int p1), .val (.int p2), .val (.int p3), .val (.int p4), .val (.int kk), .val (.int ss), .val (.ref b1), .val (.ref b3), .unset, .unset, .unset, .unset, .unset] [(.int (2 : Int32)), (.ref b3)])
  refine Go.of (fun _ k => XS.iconst X7.here hx rfl (hb hby at_48) k) ?_
  show Go p e below W T7 (mkF m 49 #[.val (.int p1), .val (.int p2), .val (.int p3), .val (.int p4), .val (.int kk), .val (.int ss), .val (.ref b1), .val (.ref b3), .unset, .unset, .unset, .unset, .unset] [(.int (2 : Int32)), (.int (2 : Int32)), (.ref b3)])
  refine Go.of (fun _ k => XS.iload X7.here hx rfl (hb hby at_49) rfl k) ?_
  show Go p e below W T7 (mkF m 51 #[.val (.int p1), .val (.int p2), .val (.int p3), .val (.int p4), .val (.int kk), .val (.int ss), .val (.ref b1), .val (.ref b3), .unset, .unset, .unset, .unset, .unset] [(.int kk), (.int (2 : Int32)), (.int (2 : Int32)), (.ref b3)])
  refine Go.of (fun _ k => XS.imul X7.here hx rfl (hb hby at_51) rfl k) ?_
  show Go p e below W T7 (mkF m 52 #[.val (.int p1), .val (.int p2), .val (.int p3), .val (.int p4), .val (.int kk), .val (.int ss), .val (.ref b1), .val (.ref b3), .unset, .unset, .unset, .unset, .unset] [(.int ((2 : Int32) * kk)), (.int (2 : Int32)), (.ref b3)])
  refine Go.of (fun _ k => XS.iload X7.here hx rfl (hb hby at_52) rfl k) ?_
  show Go p e below W T7 (mkF m 54 #[.val (.int p1), .val (.int p2), .val (.int p3), .val (.int p4), .val (.int kk), .val (.int ss), .val (.ref b1), .val (.ref b3), .unset, .unset, .unset, .unset, .unset] [(.int ss), (.int ((2 : Int32) * kk)), (.int (2 : Int32)), (.ref b3)])
  refine Go.of (fun _ k => XS.iadd X7.here hx rfl (hb hby at_54) rfl k) ?_
  show Go p e below W T7 (mkF m 55 #[.val (.int p1), .val (.int p2), .val (.int p3), .val (.int p4), .val (.int kk), .val (.int ss), .val (.ref b1), .val (.ref b3), .unset, .unset, .unset, .unset, .unset] [(.int (((2 : Int32) * kk) + ss)), (.int (2 : Int32)), (.ref b3)])
  refine Go.of (fun _ k => XS.iconst X7.here hx rfl (hb hby at_55) k) ?_
  show Go p e below W T7 (mkF m 56 #[.val (.int p1), .val (.int p2), .val (.int p3), .val (.int p4), .val (.int kk), .val (.int ss), .val (.ref b1), .val (.ref b3), .unset, .unset, .unset, .unset, .unset] [(.int (5 : Int32)), (.int (((2 : Int32) * kk) + ss)), (.int (2 : Int32)), (.ref b3)])
  refine Go.of (fun _ k => iremM X7 hx rfl (hb hby at_56) rfl (by decide) k) ?_
  show Go p e below W T7 (mkF m 57 #[.val (.int p1), .val (.int p2), .val (.int p3), .val (.int p4), .val (.int kk), .val (.int ss), .val (.ref b1), .val (.ref b3), .unset, .unset, .unset, .unset, .unset] [(.int ((((2 : Int32) * kk) + ss) % (5 : Int32))), (.int (2 : Int32)), (.ref b3)])
  refine Go.ist X7 hx hZ e7 N g_b3 A_b3 ⟨by decide, by decide⟩ (hb hby at_57) ?_
  intro T9 h9 L9 X9 N e9 W9 A_b3
  have E_b1 := E_b1.wr W9
  have A_b1 := A_b1.other W9 ne_b1_b3
  have E_b3 := E_b3.wr W9
  have K := K.wr W9 (Or.inr s_b3)
  have Z0 := Nat.le_trans Z0 (Keep.of_wr W9).1
  have A_b3 : AI Z h9 b3 .int 5 (w0_10 kk ss fr tt) := A_b3
  show Go p e below W T9 (mkF m 58 #[.val (.int p1), .val (.int p2), .val (.int p3), .val (.int p4), .val (.int kk), .val (.int ss), .val (.ref b1), .val (.ref b3), .unset, .unset, .unset, .unset, .unset] [])
  refine Go.of (fun _ k => XS.aload X9.here hx rfl (hb hby at_58) rfl rfl k) ?_
  show Go p e below W T9 (mkF m 60 #[.val (.int p1), .val (.int p2), .val (.int p3), .val (.int p4), .val (.int kk), .val (.int ss), .val (.ref b1), .val (.ref b3), .unset, .unset, .unset, .unset, .unset] [(.ref b3)])
  refine Go.of (fun _ k => XS.iconst X9.here hx rfl (hb hby at_60) k) ?_
  show Go p e below W T9 (mkF m 61 #[.val (.int p1), .val (.int p2), .val (.int p3), .val (.int p4), .val (.int kk), .val (.int ss), .val (.ref b1), .val (.ref b3), .unset, .unset, .unset, .unset, .unset] [(.int (3 : Int32)), (.ref b3)])
  refine Go.of (fun _ k => XS.iconst X9.here hx rfl (hb hby at_61) k) ?_
  show Go p e below W T9 (mkF m 62 #[.val (.int p1), .val (.int p2), .val (.int p3), .val (.int p4), .val (.int kk), .val (.int ss), .val (.ref b1), .val (.ref b3), .unset, .unset, .unset, .unset, .unset] [(.int (3 : Int32)), (.int (3 : Int32)), (.ref b3)])
  refine Go.of (fun _ k => XS.iload X9.here hx rfl (hb hby at_62) rfl k) ?_
  show Go p e below W T9 (mkF m 64 #[.val (.int p1), .val (.int p2), .val (.int p3), .val (.int p4), .val (.int kk), .val (.int ss), .val (.ref b1), .val (.ref b3), .unset, .unset, .unset, .unset, .unset] [(.int kk), (.int (3 : Int32)), (.int (3 : Int32)), (.ref b3)])
  refine Go.of (fun _ k => XS.imul X9.here hx rfl (hb hby at_64) rfl k) ?_
  show Go p e below W T9 (mkF m 65 #[.val (.int p1), .val (.int p2), .val (.int p3), .val (.int p4), .val (.int kk), .val (.int ss), .val (.ref b1), .val (.ref b3), .unset, .unset, .unset, .unset, .unset] [(.int ((3 : Int32) * kk)), (.int (3 : Int32)), (.ref b3)])
  refine Go.of (fun _ k => XS.iload X9.here hx rfl (hb hby at_65) rfl k) ?_
  show Go p e below W T9 (mkF m 67 #[.val (.int p1), .val (.int p2), .val (.int p3), .val (.int p4), .val (.int kk), .val (.int ss), .val (.ref b1), .val (.ref b3), .unset, .unset, .unset, .unset, .unset] [(.int ss), (.int ((3 : Int32) * kk)), (.int (3 : Int32)), (.ref b3)])
  refine Go.of (fun _ k => XS.iadd X9.here hx rfl (hb hby at_67) rfl k) ?_
  show Go p e below W T9 (mkF m 68 #[.val (.int p1), .val (.int p2), .val (.int p3), .val (.int p4), .val (.int kk), .val (.int ss), .val (.ref b1), .val (.ref b3), .unset, .unset, .unset, .unset, .unset] [(.int (((3 : Int32) * kk) + ss)), (.int (3 : Int32)), (.ref b3)])
  refine Go.of (fun _ k => XS.iconst X9.here hx rfl (hb hby at_68) k) ?_
  show Go p e below W T9 (mkF m 69 #[.val (.int p1), .val (.int p2), .val (.int p3), .val (.int p4), .val (.int kk), .val (.int ss), .val (.ref b1), .val (.ref b3), .unset, .unset, .unset, .unset, .unset] [(.int (5 : Int32)), (.int (((3 : Int32) * kk) + ss)), (.int (3 : Int32)), (.ref b3)])
  refine Go.of (fun _ k => iremM X9 hx rfl (hb hby at_69) rfl (by decide) k) ?_
  show Go p e below W T9 (mkF m 70 #[.val (.int p1), .val (.int p2), .val (.int p3), .val (.int p4), .val (.int kk), .val (.int ss), .val (.ref b1), .val (.ref b3), .unset, .unset, .unset, .unset, .unset] [(.int ((((3 : Int32) * kk) + ss) % (5 : Int32))), (.int (3 : Int32)), (.ref b3)])
  refine Go.ist X9 hx hZ e9 N g_b3 A_b3 ⟨by decide, by decide⟩ (hb hby at_70) ?_
  intro T11 h11 L11 X11 N e11 W11 A_b3
  have E_b1 := E_b1.wr W11
  have A_b1 := A_b1.other W11 ne_b1_b3
  have E_b3 := E_b3.wr W11
  have K := K.wr W11 (Or.inr s_b3)
  have Z0 := Nat.le_trans Z0 (Keep.of_wr W11).1
  have A_b3 : AI Z h11 b3 .int 5 (w0_12 kk ss fr tt) := A_b3
  show Go p e below W T11 (mkF m 71 #[.val (.int p1), .val (.int p2), .val (.int p3), .val (.int p4), .val (.int kk), .val (.int ss), .val (.ref b1), .val (.ref b3), .unset, .unset, .unset, .unset, .unset] [])
  refine Go.of (fun _ k => XS.aload X11.here hx rfl (hb hby at_71) rfl rfl k) ?_
  show Go p e below W T11 (mkF m 73 #[.val (.int p1), .val (.int p2), .val (.int p3), .val (.int p4), .val (.int kk), .val (.int ss), .val (.ref b1), .val (.ref b3), .unset, .unset, .unset, .unset, .unset] [(.ref b3)])
  refine Go.of (fun _ k => XS.iconst X11.here hx rfl (hb hby at_73) k) ?_
  show Go p e below W T11 (mkF m 74 #[.val (.int p1), .val (.int p2), .val (.int p3), .val (.int p4), .val (.int kk), .val (.int ss), .val (.ref b1), .val (.ref b3), .unset, .unset, .unset, .unset, .unset] [(.int (4 : Int32)), (.ref b3)])
  refine Go.of (fun _ k => XS.iconst X11.here hx rfl (hb hby at_74) k) ?_
  show Go p e below W T11 (mkF m 75 #[.val (.int p1), .val (.int p2), .val (.int p3), .val (.int p4), .val (.int kk), .val (.int ss), .val (.ref b1), .val (.ref b3), .unset, .unset, .unset, .unset, .unset] [(.int (4 : Int32)), (.int (4 : Int32)), (.ref b3)])
  refine Go.of (fun _ k => XS.iload X11.here hx rfl (hb hby at_75) rfl k) ?_
  show Go p e below W T11 (mkF m 77 #[.val (.int p1), .val (.int p2), .val (.int p3), .val (.int p4), .val (.int kk), .val (.int ss), .val (.ref b1), .val (.ref b3), .unset, .unset, .unset, .unset, .unset] [(.int kk), (.int (4 : Int32)), (.int (4 : Int32)), (.ref b3)])
  refine Go.of (fun _ k => XS.imul X11.here hx rfl (hb hby at_77) rfl k) ?_
  show Go p e below W T11 (mkF m 78 #[.val (.int p1), .val (.int p2), .val (.int p3), .val (.int p4), .val (.int kk), .val (.int ss), .val (.ref b1), .val (.ref b3), .unset, .unset, .unset, .unset, .unset] [(.int ((4 : Int32) * kk)), (.int (4 : Int32)), (.ref b3)])
  refine Go.of (fun _ k => XS.iload X11.here hx rfl (hb hby at_78) rfl k) ?_
  show Go p e below W T11 (mkF m 80 #[.val (.int p1), .val (.int p2), .val (.int p3), .val (.int p4), .val (.int kk), .val (.int ss), .val (.ref b1), .val (.ref b3), .unset, .unset, .unset, .unset, .unset] [(.int ss), (.int ((4 : Int32) * kk)), (.int (4 : Int32)), (.ref b3)])
  refine Go.of (fun _ k => XS.iadd X11.here hx rfl (hb hby at_80) rfl k) ?_
  show Go p e below W T11 (mkF m 81 #[.val (.int p1), .val (.int p2), .val (.int p3), .val (.int p4), .val (.int kk), .val (.int ss), .val (.ref b1), .val (.ref b3), .unset, .unset, .unset, .unset, .unset] [(.int (((4 : Int32) * kk) + ss)), (.int (4 : Int32)), (.ref b3)])
  refine Go.of (fun _ k => XS.iconst X11.here hx rfl (hb hby at_81) k) ?_
  show Go p e below W T11 (mkF m 82 #[.val (.int p1), .val (.int p2), .val (.int p3), .val (.int p4), .val (.int kk), .val (.int ss), .val (.ref b1), .val (.ref b3), .unset, .unset, .unset, .unset, .unset] [(.int (5 : Int32)), (.int (((4 : Int32) * kk) + ss)), (.int (4 : Int32)), (.ref b3)])
  refine Go.of (fun _ k => iremM X11 hx rfl (hb hby at_82) rfl (by decide) k) ?_
  show Go p e below W T11 (mkF m 83 #[.val (.int p1), .val (.int p2), .val (.int p3), .val (.int p4), .val (.int kk), .val (.int ss), .val (.ref b1), .val (.ref b3), .unset, .unset, .unset, .unset, .unset] [(.int ((((4 : Int32) * kk) + ss) % (5 : Int32))), (.int (4 : Int32)), (.ref b3)])
  refine Go.ist X11 hx hZ e11 N g_b3 A_b3 ⟨by decide, by decide⟩ (hb hby at_83) ?_
  intro T13 h13 L13 X13 N e13 W13 A_b3
  have E_b1 := E_b1.wr W13
  have A_b1 := A_b1.other W13 ne_b1_b3
  have E_b3 := E_b3.wr W13
  have K := K.wr W13 (Or.inr s_b3)
  have Z0 := Nat.le_trans Z0 (Keep.of_wr W13).1
  have A_b3 : AI Z h13 b3 .int 5 (w0_14 kk ss fr tt) := A_b3
  show Go p e below W T13 (mkF m 84 #[.val (.int p1), .val (.int p2), .val (.int p3), .val (.int p4), .val (.int kk), .val (.int ss), .val (.ref b1), .val (.ref b3), .unset, .unset, .unset, .unset, .unset] [])
  refine Go.of (fun _ k => XS.aload X13.here hx rfl (hb hby at_84) rfl rfl k) ?_
  show Go p e below W T13 (mkF m 86 #[.val (.int p1), .val (.int p2), .val (.int p3), .val (.int p4), .val (.int kk), .val (.int ss), .val (.ref b1), .val (.ref b3), .unset, .unset, .unset, .unset, .unset] [(.ref b1)])
  refine Go.of (fun _ k => XS.iconst X13.here hx rfl (hb hby at_86) k) ?_
  show Go p e below W T13 (mkF m 87 #[.val (.int p1), .val (.int p2), .val (.int p3), .val (.int p4), .val (.int kk), .val (.int ss), .val (.ref b1), .val (.ref b3), .unset, .unset, .unset, .unset, .unset] [(.int (0 : Int32)), (.ref b1)])
  refine Go.of (fun _ k => XS.aload X13.here hx rfl (hb hby at_87) rfl rfl k) ?_
  show Go p e below W T13 (mkF m 89 #[.val (.int p1), .val (.int p2), .val (.int p3), .val (.int p4), .val (.int kk), .val (.int ss), .val (.ref b1), .val (.ref b3), .unset, .unset, .unset, .unset, .unset] [(.ref b3), (.int (0 : Int32)), (.ref b1)])
  refine Go.of (fun _ k => XS.iconst X13.here hx rfl (hb hby at_89) k) ?_
  show Go p e below W T13 (mkF m 90 #[.val (.int p1), .val (.int p2), .val (.int p3), .val (.int p4), .val (.int kk), .val (.int ss), .val (.ref b1), .val (.ref b3), .unset, .unset, .unset, .unset, .unset] [(.int (0 : Int32)), (.ref b3), (.int (0 : Int32)), (.ref b1)])
  refine Go.iald X13 hx hZ e13 A_b3 ⟨by decide, by decide⟩ (hb hby at_90) ?_
  show Go p e below W T13 (mkF m 91 #[.val (.int p1), .val (.int p2), .val (.int p3), .val (.int p4), .val (.int kk), .val (.int ss), .val (.ref b1), .val (.ref b3), .unset, .unset, .unset, .unset, .unset] [(.int (w0_14 kk ss fr tt 0)), (.int (0 : Int32)), (.ref b1)])
  refine Go.ist X13 hx hZ e13 N g_b1 A_b1 ⟨by decide, by decide⟩ (hb hby at_91) ?_
  intro T15 h15 L15 X15 N e15 W15 A_b1
  have E_b1 := E_b1.wr W15
  have E_b3 := E_b3.wr W15
  have A_b3 := A_b3.other W15 (Ne.symm ne_b1_b3)
  have K := K.wr W15 (Or.inr s_b1)
  have Z0 := Nat.le_trans Z0 (Keep.of_wr W15).1
  have A_b1 : AI Z h15 b1 .int 5 (w0_16 kk ss fr tt) := A_b1
  show Go p e below W T15 (mkF m 92 #[.val (.int p1), .val (.int p2), .val (.int p3), .val (.int p4), .val (.int kk), .val (.int ss), .val (.ref b1), .val (.ref b3), .unset, .unset, .unset, .unset, .unset] [])
  refine Go.of (fun _ k => XS.aload X15.here hx rfl (hb hby at_92) rfl rfl k) ?_
  show Go p e below W T15 (mkF m 94 #[.val (.int p1), .val (.int p2), .val (.int p3), .val (.int p4), .val (.int kk), .val (.int ss), .val (.ref b1), .val (.ref b3), .unset, .unset, .unset, .unset, .unset] [(.ref b1)])
  refine Go.of (fun _ k => XS.iconst X15.here hx rfl (hb hby at_94) k) ?_
  show Go p e below W T15 (mkF m 95 #[.val (.int p1), .val (.int p2), .val (.int p3), .val (.int p4), .val (.int kk), .val (.int ss), .val (.ref b1), .val (.ref b3), .unset, .unset, .unset, .unset, .unset] [(.int (1 : Int32)), (.ref b1)])
  refine Go.of (fun _ k => XS.aload X15.here hx rfl (hb hby at_95) rfl rfl k) ?_
  show Go p e below W T15 (mkF m 97 #[.val (.int p1), .val (.int p2), .val (.int p3), .val (.int p4), .val (.int kk), .val (.int ss), .val (.ref b1), .val (.ref b3), .unset, .unset, .unset, .unset, .unset] [(.ref b3), (.int (1 : Int32)), (.ref b1)])
  refine Go.of (fun _ k => XS.iconst X15.here hx rfl (hb hby at_97) k) ?_
  show Go p e below W T15 (mkF m 98 #[.val (.int p1), .val (.int p2), .val (.int p3), .val (.int p4), .val (.int kk), .val (.int ss), .val (.ref b1), .val (.ref b3), .unset, .unset, .unset, .unset, .unset] [(.int (1 : Int32)), (.ref b3), (.int (1 : Int32)), (.ref b1)])
  refine Go.iald X15 hx hZ e15 A_b3 ⟨by decide, by decide⟩ (hb hby at_98) ?_
  show Go p e below W T15 (mkF m 99 #[.val (.int p1), .val (.int p2), .val (.int p3), .val (.int p4), .val (.int kk), .val (.int ss), .val (.ref b1), .val (.ref b3), .unset, .unset, .unset, .unset, .unset] [(.int (w0_14 kk ss fr tt 1)), (.int (1 : Int32)), (.ref b1)])
  refine Go.ist X15 hx hZ e15 N g_b1 A_b1 ⟨by decide, by decide⟩ (hb hby at_99) ?_
  intro T17 h17 L17 X17 N e17 W17 A_b1
  have E_b1 := E_b1.wr W17
  have E_b3 := E_b3.wr W17
  have A_b3 := A_b3.other W17 (Ne.symm ne_b1_b3)
  have K := K.wr W17 (Or.inr s_b1)
  have Z0 := Nat.le_trans Z0 (Keep.of_wr W17).1
  have A_b1 : AI Z h17 b1 .int 5 (w0_18 kk ss fr tt) := A_b1
  show Go p e below W T17 (mkF m 100 #[.val (.int p1), .val (.int p2), .val (.int p3), .val (.int p4), .val (.int kk), .val (.int ss), .val (.ref b1), .val (.ref b3), .unset, .unset, .unset, .unset, .unset] [])
  refine Go.of (fun _ k => XS.aload X17.here hx rfl (hb hby at_100) rfl rfl k) ?_
  show Go p e below W T17 (mkF m 102 #[.val (.int p1), .val (.int p2), .val (.int p3), .val (.int p4), .val (.int kk), .val (.int ss), .val (.ref b1), .val (.ref b3), .unset, .unset, .unset, .unset, .unset] [(.ref b1)])
  refine Go.of (fun _ k => XS.iconst X17.here hx rfl (hb hby at_102) k) ?_
  show Go p e below W T17 (mkF m 103 #[.val (.int p1), .val (.int p2), .val (.int p3), .val (.int p4), .val (.int kk), .val (.int ss), .val (.ref b1), .val (.ref b3), .unset, .unset, .unset, .unset, .unset] [(.int (2 : Int32)), (.ref b1)])
  refine Go.of (fun _ k => XS.aload X17.here hx rfl (hb hby at_103) rfl rfl k) ?_
  show Go p e below W T17 (mkF m 105 #[.val (.int p1), .val (.int p2), .val (.int p3), .val (.int p4), .val (.int kk), .val (.int ss), .val (.ref b1), .val (.ref b3), .unset, .unset, .unset, .unset, .unset] [(.ref b3), (.int (2 : Int32)), (.ref b1)])
  refine Go.of (fun _ k => XS.iconst X17.here hx rfl (hb hby at_105) k) ?_
  show Go p e below W T17 (mkF m 106 #[.val (.int p1), .val (.int p2), .val (.int p3), .val (.int p4), .val (.int kk), .val (.int ss), .val (.ref b1), .val (.ref b3), .unset, .unset, .unset, .unset, .unset] [(.int (2 : Int32)), (.ref b3), (.int (2 : Int32)), (.ref b1)])
  refine Go.iald X17 hx hZ e17 A_b3 ⟨by decide, by decide⟩ (hb hby at_106) ?_
  show Go p e below W T17 (mkF m 107 #[.val (.int p1), .val (.int p2), .val (.int p3), .val (.int p4), .val (.int kk), .val (.int ss), .val (.ref b1), .val (.ref b3), .unset, .unset, .unset, .unset, .unset] [(.int (w0_14 kk ss fr tt 2)), (.int (2 : Int32)), (.ref b1)])
  refine Go.ist X17 hx hZ e17 N g_b1 A_b1 ⟨by decide, by decide⟩ (hb hby at_107) ?_
  intro T19 h19 L19 X19 N e19 W19 A_b1
  have E_b1 := E_b1.wr W19
  have E_b3 := E_b3.wr W19
  have A_b3 := A_b3.other W19 (Ne.symm ne_b1_b3)
  have K := K.wr W19 (Or.inr s_b1)
  have Z0 := Nat.le_trans Z0 (Keep.of_wr W19).1
  have A_b1 : AI Z h19 b1 .int 5 (w0_20 kk ss fr tt) := A_b1
  show Go p e below W T19 (mkF m 108 #[.val (.int p1), .val (.int p2), .val (.int p3), .val (.int p4), .val (.int kk), .val (.int ss), .val (.ref b1), .val (.ref b3), .unset, .unset, .unset, .unset, .unset] [])
  refine Go.of (fun _ k => XS.aload X19.here hx rfl (hb hby at_108) rfl rfl k) ?_
  show Go p e below W T19 (mkF m 110 #[.val (.int p1), .val (.int p2), .val (.int p3), .val (.int p4), .val (.int kk), .val (.int ss), .val (.ref b1), .val (.ref b3), .unset, .unset, .unset, .unset, .unset] [(.ref b1)])
  refine Go.of (fun _ k => XS.iconst X19.here hx rfl (hb hby at_110) k) ?_
  show Go p e below W T19 (mkF m 111 #[.val (.int p1), .val (.int p2), .val (.int p3), .val (.int p4), .val (.int kk), .val (.int ss), .val (.ref b1), .val (.ref b3), .unset, .unset, .unset, .unset, .unset] [(.int (3 : Int32)), (.ref b1)])
  refine Go.of (fun _ k => XS.aload X19.here hx rfl (hb hby at_111) rfl rfl k) ?_
  show Go p e below W T19 (mkF m 113 #[.val (.int p1), .val (.int p2), .val (.int p3), .val (.int p4), .val (.int kk), .val (.int ss), .val (.ref b1), .val (.ref b3), .unset, .unset, .unset, .unset, .unset] [(.ref b3), (.int (3 : Int32)), (.ref b1)])
  refine Go.of (fun _ k => XS.iconst X19.here hx rfl (hb hby at_113) k) ?_
  show Go p e below W T19 (mkF m 114 #[.val (.int p1), .val (.int p2), .val (.int p3), .val (.int p4), .val (.int kk), .val (.int ss), .val (.ref b1), .val (.ref b3), .unset, .unset, .unset, .unset, .unset] [(.int (3 : Int32)), (.ref b3), (.int (3 : Int32)), (.ref b1)])
  refine Go.iald X19 hx hZ e19 A_b3 ⟨by decide, by decide⟩ (hb hby at_114) ?_
  show Go p e below W T19 (mkF m 115 #[.val (.int p1), .val (.int p2), .val (.int p3), .val (.int p4), .val (.int kk), .val (.int ss), .val (.ref b1), .val (.ref b3), .unset, .unset, .unset, .unset, .unset] [(.int (w0_14 kk ss fr tt 3)), (.int (3 : Int32)), (.ref b1)])
  refine Go.ist X19 hx hZ e19 N g_b1 A_b1 ⟨by decide, by decide⟩ (hb hby at_115) ?_
  intro T21 h21 L21 X21 N e21 W21 A_b1
  have E_b1 := E_b1.wr W21
  have E_b3 := E_b3.wr W21
  have A_b3 := A_b3.other W21 (Ne.symm ne_b1_b3)
  have K := K.wr W21 (Or.inr s_b1)
  have Z0 := Nat.le_trans Z0 (Keep.of_wr W21).1
  have A_b1 : AI Z h21 b1 .int 5 (w0_22 kk ss fr tt) := A_b1
  show Go p e below W T21 (mkF m 116 #[.val (.int p1), .val (.int p2), .val (.int p3), .val (.int p4), .val (.int kk), .val (.int ss), .val (.ref b1), .val (.ref b3), .unset, .unset, .unset, .unset, .unset] [])
  refine Go.of (fun _ k => XS.aload X21.here hx rfl (hb hby at_116) rfl rfl k) ?_
  show Go p e below W T21 (mkF m 118 #[.val (.int p1), .val (.int p2), .val (.int p3), .val (.int p4), .val (.int kk), .val (.int ss), .val (.ref b1), .val (.ref b3), .unset, .unset, .unset, .unset, .unset] [(.ref b1)])
  refine Go.of (fun _ k => XS.iconst X21.here hx rfl (hb hby at_118) k) ?_
  show Go p e below W T21 (mkF m 119 #[.val (.int p1), .val (.int p2), .val (.int p3), .val (.int p4), .val (.int kk), .val (.int ss), .val (.ref b1), .val (.ref b3), .unset, .unset, .unset, .unset, .unset] [(.int (4 : Int32)), (.ref b1)])
  refine Go.of (fun _ k => XS.aload X21.here hx rfl (hb hby at_119) rfl rfl k) ?_
  show Go p e below W T21 (mkF m 121 #[.val (.int p1), .val (.int p2), .val (.int p3), .val (.int p4), .val (.int kk), .val (.int ss), .val (.ref b1), .val (.ref b3), .unset, .unset, .unset, .unset, .unset] [(.ref b3), (.int (4 : Int32)), (.ref b1)])
  refine Go.of (fun _ k => XS.iconst X21.here hx rfl (hb hby at_121) k) ?_
  show Go p e below W T21 (mkF m 122 #[.val (.int p1), .val (.int p2), .val (.int p3), .val (.int p4), .val (.int kk), .val (.int ss), .val (.ref b1), .val (.ref b3), .unset, .unset, .unset, .unset, .unset] [(.int (4 : Int32)), (.ref b3), (.int (4 : Int32)), (.ref b1)])
  refine Go.iald X21 hx hZ e21 A_b3 ⟨by decide, by decide⟩ (hb hby at_122) ?_
  show Go p e below W T21 (mkF m 123 #[.val (.int p1), .val (.int p2), .val (.int p3), .val (.int p4), .val (.int kk), .val (.int ss), .val (.ref b1), .val (.ref b3), .unset, .unset, .unset, .unset, .unset] [(.int (w0_14 kk ss fr tt 4)), (.int (4 : Int32)), (.ref b1)])
  refine Go.ist X21 hx hZ e21 N g_b1 A_b1 ⟨by decide, by decide⟩ (hb hby at_123) ?_
  intro T23 h23 L23 X23 N e23 W23 A_b1
  have E_b1 := E_b1.wr W23
  have E_b3 := E_b3.wr W23
  have A_b3 := A_b3.other W23 (Ne.symm ne_b1_b3)
  have K := K.wr W23 (Or.inr s_b1)
  have Z0 := Nat.le_trans Z0 (Keep.of_wr W23).1
  have A_b1 : AI Z h23 b1 .int 5 (w0_24 kk ss fr tt) := A_b1
  show Go p e below W T23 (mkF m 124 #[.val (.int p1), .val (.int p2), .val (.int p3), .val (.int p4), .val (.int kk), .val (.int ss), .val (.ref b1), .val (.ref b3), .unset, .unset, .unset, .unset, .unset] [])
  refine Go.of (fun _ k => XS.iconst X23.here hx rfl (hb hby at_124) k) ?_
  show Go p e below W T23 (mkF m 125 #[.val (.int p1), .val (.int p2), .val (.int p3), .val (.int p4), .val (.int kk), .val (.int ss), .val (.ref b1), .val (.ref b3), .unset, .unset, .unset, .unset, .unset] [(.int (1 : Int32))])
  refine Go.of (fun _ k => XS.iloadN X23.here hx rfl (hb hby at_125) rfl k) ?_
  show Go p e below W T23 (mkF m 126 #[.val (.int p1), .val (.int p2), .val (.int p3), .val (.int p4), .val (.int kk), .val (.int ss), .val (.ref b1), .val (.ref b3), .unset, .unset, .unset, .unset, .unset] [(.int p3), (.int (1 : Int32))])
  refine Go.of (fun _ k => X23.ldcI hx hown (mvT hZ (hw _ (List.mem_of_getElem? (i := 0) rfl))) rfl (hb hby at_126) k) ?_
  show Go p e below W T23 (mkF m 128 #[.val (.int p1), .val (.int p2), .val (.int p3), .val (.int p4), .val (.int kk), .val (.int ss), .val (.ref b1), .val (.ref b3), .unset, .unset, .unset, .unset, .unset] [(.int (2147483647 : Int32)), (.int p3), (.int (1 : Int32))])
  refine Go.of (fun _ k => XS.iand X23.here hx rfl (hb hby at_128) rfl k) ?_
  show Go p e below W T23 (mkF m 129 #[.val (.int p1), .val (.int p2), .val (.int p3), .val (.int p4), .val (.int kk), .val (.int ss), .val (.ref b1), .val (.ref b3), .unset, .unset, .unset, .unset, .unset] [(.int (p3 &&& (2147483647 : Int32))), (.int (1 : Int32))])
  refine Go.of (fun _ k => XS.iconst X23.here hx rfl (hb hby at_129) k) ?_
  show Go p e below W T23 (mkF m 130 #[.val (.int p1), .val (.int p2), .val (.int p3), .val (.int p4), .val (.int kk), .val (.int ss), .val (.ref b1), .val (.ref b3), .unset, .unset, .unset, .unset, .unset] [(.int (4 : Int32)), (.int (p3 &&& (2147483647 : Int32))), (.int (1 : Int32))])
  refine Go.of (fun _ k => iremM X23 hx rfl (hb hby at_130) rfl (by decide) k) ?_
  show Go p e below W T23 (mkF m 131 #[.val (.int p1), .val (.int p2), .val (.int p3), .val (.int p4), .val (.int kk), .val (.int ss), .val (.ref b1), .val (.ref b3), .unset, .unset, .unset, .unset, .unset] [(.int ((p3 &&& (2147483647 : Int32)) % (4 : Int32))), (.int (1 : Int32))])
  refine Go.of (fun _ k => XS.iadd X23.here hx rfl (hb hby at_131) rfl k) ?_
  show Go p e below W T23 (mkF m 132 #[.val (.int p1), .val (.int p2), .val (.int p3), .val (.int p4), .val (.int kk), .val (.int ss), .val (.ref b1), .val (.ref b3), .unset, .unset, .unset, .unset, .unset] [(.int ((1 : Int32) + ((p3 &&& (2147483647 : Int32)) % (4 : Int32))))])
  rw [hf]
  show Go p e below W T23 (mkF m 132 #[.val (.int p1), .val (.int p2), .val (.int p3), .val (.int p4), .val (.int kk), .val (.int ss), .val (.ref b1), .val (.ref b3), .unset, .unset, .unset, .unset, .unset] [(.int fr)])
  show Go p e below W T23 (mkF m 132 #[.val (.int p1), .val (.int p2), .val (.int p3), .val (.int p4), .val (.int kk), .val (.int ss), .val (.ref b1), .val (.ref b3), .unset, .unset, .unset, .unset, .unset] [(.int fr)])
  refine Go.of (fun _ k => XS.istore X23.here hx rfl (hb hby at_132) rfl (l' := #[.val (.int p1), .val (.int p2), .val (.int p3), .val (.int p4), .val (.int kk), .val (.int ss), .val (.ref b1), .val (.ref b3), .val (.int fr), .unset, .unset, .unset, .unset]) rfl k) ?_
  show Go p e below W T23 (mkF m 134 #[.val (.int p1), .val (.int p2), .val (.int p3), .val (.int p4), .val (.int kk), .val (.int ss), .val (.ref b1), .val (.ref b3), .val (.int fr), .unset, .unset, .unset, .unset] [])
  refine Go.of (fun _ k => XS.iload X23.here hx rfl (hb hby at_134) rfl k) ?_
  show Go p e below W T23 (mkF m 136 #[.val (.int p1), .val (.int p2), .val (.int p3), .val (.int p4), .val (.int kk), .val (.int ss), .val (.ref b1), .val (.ref b3), .val (.int fr), .unset, .unset, .unset, .unset] [(.int fr)])
  refine Go.of (fun _ k => XS.iloadN X23.here hx rfl (hb hby at_136) rfl k) ?_
  show Go p e below W T23 (mkF m 137 #[.val (.int p1), .val (.int p2), .val (.int p3), .val (.int p4), .val (.int kk), .val (.int ss), .val (.ref b1), .val (.ref b3), .val (.int fr), .unset, .unset, .unset, .unset] [(.int p4), (.int fr)])
  refine Go.of (fun _ k => X23.ldcI hx hown (mvT hZ (hw _ (List.mem_of_getElem? (i := 0) rfl))) rfl (hb hby at_137) k) ?_
  show Go p e below W T23 (mkF m 139 #[.val (.int p1), .val (.int p2), .val (.int p3), .val (.int p4), .val (.int kk), .val (.int ss), .val (.ref b1), .val (.ref b3), .val (.int fr), .unset, .unset, .unset, .unset] [(.int (2147483647 : Int32)), (.int p4), (.int fr)])
  refine Go.of (fun _ k => XS.iand X23.here hx rfl (hb hby at_139) rfl k) ?_
  show Go p e below W T23 (mkF m 140 #[.val (.int p1), .val (.int p2), .val (.int p3), .val (.int p4), .val (.int kk), .val (.int ss), .val (.ref b1), .val (.ref b3), .val (.int fr), .unset, .unset, .unset, .unset] [(.int (p4 &&& (2147483647 : Int32))), (.int fr)])
  refine Go.of (fun _ k => XS.iconst X23.here hx rfl (hb hby at_140) k) ?_
  show Go p e below W T23 (mkF m 141 #[.val (.int p1), .val (.int p2), .val (.int p3), .val (.int p4), .val (.int kk), .val (.int ss), .val (.ref b1), .val (.ref b3), .val (.int fr), .unset, .unset, .unset, .unset] [(.int (5 : Int32)), (.int (p4 &&& (2147483647 : Int32))), (.int fr)])
  refine Go.of (fun _ k => XS.iload X23.here hx rfl (hb hby at_141) rfl k) ?_
  show Go p e below W T23 (mkF m 143 #[.val (.int p1), .val (.int p2), .val (.int p3), .val (.int p4), .val (.int kk), .val (.int ss), .val (.ref b1), .val (.ref b3), .val (.int fr), .unset, .unset, .unset, .unset] [(.int fr), (.int (5 : Int32)), (.int (p4 &&& (2147483647 : Int32))), (.int fr)])
  refine Go.of (fun _ k => XS.isub X23.here hx rfl (hb hby at_143) rfl k) ?_
  show Go p e below W T23 (mkF m 144 #[.val (.int p1), .val (.int p2), .val (.int p3), .val (.int p4), .val (.int kk), .val (.int ss), .val (.ref b1), .val (.ref b3), .val (.int fr), .unset, .unset, .unset, .unset] [(.int ((5 : Int32) - fr)), (.int (p4 &&& (2147483647 : Int32))), (.int fr)])
  refine Go.of (fun _ k => iremM X23 hx rfl (hb hby at_144) rfl (own_nz rf) k) ?_
  show Go p e below W T23 (mkF m 145 #[.val (.int p1), .val (.int p2), .val (.int p3), .val (.int p4), .val (.int kk), .val (.int ss), .val (.ref b1), .val (.ref b3), .val (.int fr), .unset, .unset, .unset, .unset] [(.int ((p4 &&& (2147483647 : Int32)) % ((5 : Int32) - fr))), (.int fr)])
  refine Go.of (fun _ k => XS.iadd X23.here hx rfl (hb hby at_145) rfl k) ?_
  show Go p e below W T23 (mkF m 146 #[.val (.int p1), .val (.int p2), .val (.int p3), .val (.int p4), .val (.int kk), .val (.int ss), .val (.ref b1), .val (.ref b3), .val (.int fr), .unset, .unset, .unset, .unset] [(.int (fr + ((p4 &&& (2147483647 : Int32)) % ((5 : Int32) - fr))))])
  rw [ht]
  show Go p e below W T23 (mkF m 146 #[.val (.int p1), .val (.int p2), .val (.int p3), .val (.int p4), .val (.int kk), .val (.int ss), .val (.ref b1), .val (.ref b3), .val (.int fr), .unset, .unset, .unset, .unset] [(.int tt)])
  show Go p e below W T23 (mkF m 146 #[.val (.int p1), .val (.int p2), .val (.int p3), .val (.int p4), .val (.int kk), .val (.int ss), .val (.ref b1), .val (.ref b3), .val (.int fr), .unset, .unset, .unset, .unset] [(.int tt)])
  refine Go.of (fun _ k => XS.istore X23.here hx rfl (hb hby at_146) rfl (l' := #[.val (.int p1), .val (.int p2), .val (.int p3), .val (.int p4), .val (.int kk), .val (.int ss), .val (.ref b1), .val (.ref b3), .val (.int fr), .val (.int tt), .unset, .unset, .unset]) rfl k) ?_
  show Go p e below W T23 (mkF m 148 #[.val (.int p1), .val (.int p2), .val (.int p3), .val (.int p4), .val (.int kk), .val (.int ss), .val (.ref b1), .val (.ref b3), .val (.int fr), .val (.int tt), .unset, .unset, .unset] [])
  refine Go.newO X23 hx hZ hown (hw _ (List.mem_of_getElem? (i := 2) rfl)) (hw _ (List.mem_of_getElem? (i := 3) rfl)) (hw _ (List.mem_of_getElem? (i := 4) rfl)) e23 (hb hby at_148) (by decide) (by decide) ?_
  intro T25 h25 b25 zq25 X25 e25 E25 E_b25 D25
  have ne_b1_b25 : b1 ≠ b25 := by rw [zq25]; exact Nat.ne_of_lt E_b1.lt
  have ne_b3_b25 : b3 ≠ b25 := by rw [zq25]; exact Nat.ne_of_lt E_b3.lt
  have g_b25 : n0 ≤ b25 := by rw [zq25]; exact Z0
  have s_b25 : h0.size ≤ b25 := by rw [zq25]; exact K.1
  have E_b1 := E_b1.ext E25
  have A_b1 := A_b1.ext E25
  have E_b3 := E_b3.ext E25
  have A_b3 := A_b3.ext E25
  have K := K.ext E25
  have Z0 := Nat.le_trans Z0 E25.1
  have F_b25_order : Fld Z h25 b25 "com/example/pilfer/pilfer/Tour" "order" "[I" .null := D25 (Or.inr (hw _ (List.mem_of_getElem? (i := 12) rfl))) (ty := (.array .int)) (by decide)
  have F_b25_position : Fld Z h25 b25 "com/example/pilfer/pilfer/Tour" "position" "[I" .null := D25 (Or.inr (hw _ (List.mem_of_getElem? (i := 14) rfl))) (ty := (.array .int)) (by decide)
  show Go p e below W T25 (mkF m 151 #[.val (.int p1), .val (.int p2), .val (.int p3), .val (.int p4), .val (.int kk), .val (.int ss), .val (.ref b1), .val (.ref b3), .val (.int fr), .val (.int tt), .unset, .unset, .unset] [(.ref b25)])
  refine Go.of (fun _ k => XS.dup X25.here hx rfl (hb hby at_151) rfl rfl k) ?_
  show Go p e below W T25 (mkF m 152 #[.val (.int p1), .val (.int p2), .val (.int p3), .val (.int p4), .val (.int kk), .val (.int ss), .val (.ref b1), .val (.ref b3), .val (.int fr), .val (.int tt), .unset, .unset, .unset] [(.ref b25), (.ref b25)])
  refine Go.of (fun _ k => XS.aload X25.here hx rfl (hb hby at_152) rfl rfl k) ?_
  show Go p e below W T25 (mkF m 154 #[.val (.int p1), .val (.int p2), .val (.int p3), .val (.int p4), .val (.int kk), .val (.int ss), .val (.ref b1), .val (.ref b3), .val (.int fr), .val (.int tt), .unset, .unset, .unset] [(.ref b1), (.ref b25), (.ref b25)])
  refine Go.callI X25 hx hZ rfl hown (hw _ (List.mem_of_getElem? (i := 5) rfl)) (hw _ (List.mem_of_getElem? (i := 6) rfl)) (hw _ (List.mem_of_getElem? (i := 4) rfl)) (hw _ (List.mem_of_getElem? (i := 7) rfl)) (by decide) e25 (rm1 l Z a0 hw [] b25 b1 (w0_24 kk ss fr tt) h25 n0 Z0 E_b25 F_b25_order F_b25_position A_b1 g_b25 (Ne.symm ne_b1_b25) (own_w0_24 kk ss fr tt rk rs)) (V := 1) (by decide) (by decide) (by decide) (by decide) (by rw [hml]; rfl) (argsL := [(.ref b1)]) (rest := [(.ref b25)]) rfl (lenOf pd___I_V rfl) rfl (Nat.le_of_ble_eq_true rfl) (hb hby at_154) ?_
  rintro T26 _ M26 ⟨b26, rfl, N26, K26, s_b26, F_b25_order, F_b25_position, A_b26⟩ X26
  obtain ⟨L26, zq26⟩ : ∃ z, z = L23 ++ M26 := ⟨_, rfl⟩
  have N := Fr.app N N26
  rw [← zq26] at X26 N
  have ne_b1_b26 : b1 ≠ b26 := Nat.ne_of_lt (Nat.lt_of_lt_of_le E_b1.lt s_b26)
  have ne_b3_b26 : b3 ≠ b26 := Nat.ne_of_lt (Nat.lt_of_lt_of_le E_b3.lt s_b26)
  have ne_b25_b26 : b25 ≠ b26 := Nat.ne_of_lt (Nat.lt_of_lt_of_le E_b25.lt s_b26)
  have g_b26 : n0 ≤ b26 := Nat.le_trans Z0 s_b26
  have s_b26 : h0.size ≤ b26 := Nat.le_trans K.1 s_b26
  have E_b1 := E_b1.keep K26
  have A_b1 := A_b1.keep K26 (ninS ne_b1_b25 nin0)
  have E_b3 := E_b3.keep K26
  have A_b3 := A_b3.keep K26 (ninS ne_b3_b25 nin0)
  have E_b25 := E_b25.keep K26
  have K := K.trans K26 (by
    intro x hx
    simp only [List.mem_cons, List.not_mem_nil, or_false] at hx
    rcases hx with rfl
    · exact Or.inr s_b25)
  have Z0 := Nat.le_trans Z0 K26.1
  show Go p e below W T26 (mkF m 157 #[.val (.int p1), .val (.int p2), .val (.int p3), .val (.int p4), .val (.int kk), .val (.int ss), .val (.ref b1), .val (.ref b3), .val (.int fr), .val (.int tt), .unset, .unset, .unset] [(.ref b25)])
  refine Go.of (fun _ k => XS.astore X26.here hx rfl (hb hby at_157) rfl rfl (l' := #[.val (.int p1), .val (.int p2), .val (.int p3), .val (.int p4), .val (.int kk), .val (.int ss), .val (.ref b1), .val (.ref b3), .val (.int fr), .val (.int tt), .val (.ref b25), .unset, .unset]) rfl k) ?_
  show Go p e below W T26 (mkF m 159 #[.val (.int p1), .val (.int p2), .val (.int p3), .val (.int p4), .val (.int kk), .val (.int ss), .val (.ref b1), .val (.ref b3), .val (.int fr), .val (.int tt), .val (.ref b25), .unset, .unset] [])
  refine Go.of (fun _ k => XS.aload X26.here hx rfl (hb hby at_159) rfl rfl k) ?_
  show Go p e below W T26 (mkF m 161 #[.val (.int p1), .val (.int p2), .val (.int p3), .val (.int p4), .val (.int kk), .val (.int ss), .val (.ref b1), .val (.ref b3), .val (.int fr), .val (.int tt), .val (.ref b25), .unset, .unset] [(.ref b25)])
  refine Go.of (fun _ k => XS.iload X26.here hx rfl (hb hby at_161) rfl k) ?_
  show Go p e below W T26 (mkF m 163 #[.val (.int p1), .val (.int p2), .val (.int p3), .val (.int p4), .val (.int kk), .val (.int ss), .val (.ref b1), .val (.ref b3), .val (.int fr), .val (.int tt), .val (.ref b25), .unset, .unset] [(.int fr), (.ref b25)])
  refine Go.of (fun _ k => XS.iload X26.here hx rfl (hb hby at_163) rfl k) ?_
  show Go p e below W T26 (mkF m 165 #[.val (.int p1), .val (.int p2), .val (.int p3), .val (.int p4), .val (.int kk), .val (.int ss), .val (.ref b1), .val (.ref b3), .val (.int fr), .val (.int tt), .val (.ref b25), .unset, .unset] [(.int tt), (.int fr), (.ref b25)])
  refine Go.callV X26 hx hZ hown (hw _ (List.mem_of_getElem? (i := 15) rfl)) (hw _ (List.mem_of_getElem? (i := 16) rfl)) (hw _ (List.mem_of_getElem? (i := 18) rfl)) (hw _ (List.mem_of_getElem? (i := 17) rfl)) (hw _ (List.mem_of_getElem? (i := 4) rfl)) (hw _ (List.mem_of_getElem? (i := 19) rfl)) (by decide) rfl E_b25 (rm3 l Z a0 hw [] b25 fr tt b1 b26 (w0_24 kk ss fr tt) (f1_np (w0_24 kk ss fr tt)) T26.heap n0 Z0 F_b25_order F_b25_position A_b1 A_b26 g_b1 g_b26 (Ne.symm ne_b1_b25) ne_b25_b26 ne_b1_b26 (own_w0_24 kk ss fr tt rk rs) rf) (V := 0) (by decide) (by decide) (by decide) (by decide) (by rw [hml]; rfl) (argsL := [(.int fr), (.int tt)]) (rest := []) rfl (lenOf pd__II_V rfl) rfl (Nat.le_of_ble_eq_true rfl) (hb hby at_165) ?_
  rintro T27 _ M27 ⟨rfl, N27, K27, A_b1, A_b26⟩ X27
  obtain ⟨L27, zq27⟩ : ∃ z, z = L26 ++ M27 := ⟨_, rfl⟩
  have N := Fr.app N N27
  rw [← zq27] at X27 N
  have E_b1 := E_b1.keep K27
  have E_b3 := E_b3.keep K27
  have A_b3 := A_b3.keep K27 (ninS (Ne.symm ne_b1_b3) (ninS ne_b3_b26 nin0))
  have E_b25 := E_b25.keep K27
  have F_b25_order := F_b25_order.keep K27 (ninS (Ne.symm ne_b1_b25) (ninS ne_b25_b26 nin0))
  have F_b25_position := F_b25_position.keep K27 (ninS (Ne.symm ne_b1_b25) (ninS ne_b25_b26 nin0))
  have K := K.trans K27 (by
    intro x hx
    simp only [List.mem_cons, List.not_mem_nil, or_false] at hx
    rcases hx with rfl | rfl
    · exact Or.inr s_b1
    · exact Or.inr s_b26)
  have Z0 := Nat.le_trans Z0 K27.1
  show Go p e below W T27 (mkF m 168 #[.val (.int p1), .val (.int p2), .val (.int p3), .val (.int p4), .val (.int kk), .val (.int ss), .val (.ref b1), .val (.ref b3), .val (.int fr), .val (.int tt), .val (.ref b25), .unset, .unset] [])
  refine Go.of (fun _ k => XS.aload X27.here hx rfl (hb hby at_168) rfl rfl k) ?_
  show Go p e below W T27 (mkF m 170 #[.val (.int p1), .val (.int p2), .val (.int p3), .val (.int p4), .val (.int kk), .val (.int ss), .val (.ref b1), .val (.ref b3), .val (.int fr), .val (.int tt), .val (.ref b25), .unset, .unset] [(.ref b25)])
  refine Go.callV X27 hx hZ hown (hw _ (List.mem_of_getElem? (i := 20) rfl)) (hw _ (List.mem_of_getElem? (i := 21) rfl)) (hw _ (List.mem_of_getElem? (i := 23) rfl)) (hw _ (List.mem_of_getElem? (i := 22) rfl)) (hw _ (List.mem_of_getElem? (i := 4) rfl)) (hw _ (List.mem_of_getElem? (i := 24) rfl)) (by decide) rfl E_b25 (rm4 l Z a0 hw [] b25 b1 (f3_ao fr tt (w0_24 kk ss fr tt) (f1_np (w0_24 kk ss fr tt))) T27.heap n0 Z0 F_b25_order A_b1 E_b1) (V := 0) (by decide) (by decide) (by decide) (by decide) (by rw [hml]; rfl) (argsL := []) (rest := []) rfl (lenOf pd____I rfl) rfl (Nat.le_of_ble_eq_true rfl) (hb hby at_170) ?_
  rintro T28 _ M28 ⟨b28, rfl, N28, K28, s_b28, A_b28⟩ X28
  obtain ⟨L28, zq28⟩ : ∃ z, z = L27 ++ M28 := ⟨_, rfl⟩
  have N := Fr.app N N28
  rw [← zq28] at X28 N
  have ne_b1_b28 : b1 ≠ b28 := Nat.ne_of_lt (Nat.lt_of_lt_of_le E_b1.lt s_b28)
  have ne_b3_b28 : b3 ≠ b28 := Nat.ne_of_lt (Nat.lt_of_lt_of_le E_b3.lt s_b28)
  have ne_b25_b28 : b25 ≠ b28 := Nat.ne_of_lt (Nat.lt_of_lt_of_le E_b25.lt s_b28)
  have ne_b26_b28 : b26 ≠ b28 := Nat.ne_of_lt (Nat.lt_of_lt_of_le A_b26.lt s_b28)
  have g_b28 : n0 ≤ b28 := Nat.le_trans Z0 s_b28
  have s_b28 : h0.size ≤ b28 := Nat.le_trans K.1 s_b28
  have E_b1 := E_b1.keep K28
  have A_b1 := A_b1.keep K28 nin0
  have E_b3 := E_b3.keep K28
  have A_b3 := A_b3.keep K28 nin0
  have E_b25 := E_b25.keep K28
  have F_b25_order := F_b25_order.keep K28 nin0
  have F_b25_position := F_b25_position.keep K28 nin0
  have A_b26 := A_b26.keep K28 nin0
  have K := K.trans K28 all0
  have Z0 := Nat.le_trans Z0 K28.1
  show Go p e below W T28 (mkF m 173 #[.val (.int p1), .val (.int p2), .val (.int p3), .val (.int p4), .val (.int kk), .val (.int ss), .val (.ref b1), .val (.ref b3), .val (.int fr), .val (.int tt), .val (.ref b25), .unset, .unset] [(.ref b28)])
  refine Go.of (fun _ k => XS.astore X28.here hx rfl (hb hby at_173) rfl rfl (l' := #[.val (.int p1), .val (.int p2), .val (.int p3), .val (.int p4), .val (.int kk), .val (.int ss), .val (.ref b1), .val (.ref b3), .val (.int fr), .val (.int tt), .val (.ref b25), .val (.ref b28), .unset]) rfl k) ?_
  show Go p e below W T28 (mkF m 175 #[.val (.int p1), .val (.int p2), .val (.int p3), .val (.int p4), .val (.int kk), .val (.int ss), .val (.ref b1), .val (.ref b3), .val (.int fr), .val (.int tt), .val (.ref b25), .val (.ref b28), .unset] [])
  refine Go.of (fun _ k => XS.aload X28.here hx rfl (hb hby at_175) rfl rfl k) ?_
  show Go p e below W T28 (mkF m 177 #[.val (.int p1), .val (.int p2), .val (.int p3), .val (.int p4), .val (.int kk), .val (.int ss), .val (.ref b1), .val (.ref b3), .val (.int fr), .val (.int tt), .val (.ref b25), .val (.ref b28), .unset] [(.ref b28)])
  refine Go.alen X28 hx hZ rfl A_b28 (hb hby at_177) ?_
  show Go p e below W T28 (mkF m 178 #[.val (.int p1), .val (.int p2), .val (.int p3), .val (.int p4), .val (.int kk), .val (.int ss), .val (.ref b1), .val (.ref b3), .val (.int fr), .val (.int tt), .val (.ref b25), .val (.ref b28), .unset] [(.int (5 : Int32))])
  refine Go.of (fun _ k => XS.iconst X28.here hx rfl (hb hby at_178) k) ?_
  show Go p e below W T28 (mkF m 179 #[.val (.int p1), .val (.int p2), .val (.int p3), .val (.int p4), .val (.int kk), .val (.int ss), .val (.ref b1), .val (.ref b3), .val (.int fr), .val (.int tt), .val (.ref b25), .val (.ref b28), .unset] [(.int (5 : Int32)), (.int (5 : Int32))])
  refine Go.of (fun _ k => XS.icmpYes X28.here hx rfl (pc0 := 179) (pc' := 184) rfl (hb hby at_179) rfl (Jvm.Free.XT.ii_eq_t (by decide)) (by decide) (by decide) k) ?_
  show Go p e below W T28 (mkF m 184 #[.val (.int p1), .val (.int p2), .val (.int p3), .val (.int p4), .val (.int kk), .val (.int ss), .val (.ref b1), .val (.ref b3), .val (.int fr), .val (.int tt), .val (.ref b25), .val (.ref b28), .unset] [])
  refine Go.of (fun _ k => XS.iconst X28.here hx rfl (hb hby at_184) k) ?_
  show Go p e below W T28 (mkF m 185 #[.val (.int p1), .val (.int p2), .val (.int p3), .val (.int p4), .val (.int kk), .val (.int ss), .val (.ref b1), .val (.ref b3), .val (.int fr), .val (.int tt), .val (.ref b25), .val (.ref b28), .unset] [(.int (1 : Int32))])
  refine Go.of (fun _ k => XS.istore X28.here hx rfl (hb hby at_185) rfl (l' := #[.val (.int p1), .val (.int p2), .val (.int p3), .val (.int p4), .val (.int kk), .val (.int ss), .val (.ref b1), .val (.ref b3), .val (.int fr), .val (.int tt), .val (.ref b25), .val (.ref b28), .val (.int (1 : Int32))]) rfl k) ?_
  show Go p e below W T28 (mkF m 187 #[.val (.int p1), .val (.int p2), .val (.int p3), .val (.int p4), .val (.int kk), .val (.int ss), .val (.ref b1), .val (.ref b3), .val (.int fr), .val (.int tt), .val (.ref b25), .val (.ref b28), .val (.int (1 : Int32))] [])
  refine Go.of (fun _ k => XS.iload X28.here hx rfl (hb hby at_187) rfl k) ?_
  show Go p e below W T28 (mkF m 189 #[.val (.int p1), .val (.int p2), .val (.int p3), .val (.int p4), .val (.int kk), .val (.int ss), .val (.ref b1), .val (.ref b3), .val (.int fr), .val (.int tt), .val (.ref b25), .val (.ref b28), .val (.int (1 : Int32))] [(.int (1 : Int32))])
  refine Go.of (fun _ k => XS.ifNo X28.here hx rfl (hb hby at_189) rfl (Jvm.Free.XT.i0_eq_f (by decide)) k) ?_
  show Go p e below W T28 (mkF m 192 #[.val (.int p1), .val (.int p2), .val (.int p3), .val (.int p4), .val (.int kk), .val (.int ss), .val (.ref b1), .val (.ref b3), .val (.int fr), .val (.int tt), .val (.ref b25), .val (.ref b28), .val (.int (1 : Int32))] [])
  refine Go.of (fun _ k => XS.aload X28.here hx rfl (hb hby at_192) rfl rfl k) ?_
  show Go p e below W T28 (mkF m 194 #[.val (.int p1), .val (.int p2), .val (.int p3), .val (.int p4), .val (.int kk), .val (.int ss), .val (.ref b1), .val (.ref b3), .val (.int fr), .val (.int tt), .val (.ref b25), .val (.ref b28), .val (.int (1 : Int32))] [(.ref b28)])
  refine Go.of (fun _ k => XS.iconst X28.here hx rfl (hb hby at_194) k) ?_
  show Go p e below W T28 (mkF m 195 #[.val (.int p1), .val (.int p2), .val (.int p3), .val (.int p4), .val (.int kk), .val (.int ss), .val (.ref b1), .val (.ref b3), .val (.int fr), .val (.int tt), .val (.ref b25), .val (.ref b28), .val (.int (1 : Int32))] [(.int (0 : Int32)), (.ref b28)])
  refine Go.iald X28 hx hZ rfl A_b28 ⟨by decide, by decide⟩ (hb hby at_195) ?_
  show Go p e below W T28 (mkF m 196 #[.val (.int p1), .val (.int p2), .val (.int p3), .val (.int p4), .val (.int kk), .val (.int ss), .val (.ref b1), .val (.ref b3), .val (.int fr), .val (.int tt), .val (.ref b25), .val (.ref b28), .val (.int (1 : Int32))] [(.int ((f3_ao fr tt (w0_24 kk ss fr tt) (f1_np (w0_24 kk ss fr tt))) 0))])
  refine Go.of (fun _ k => XS.aload X28.here hx rfl (hb hby at_196) rfl rfl k) ?_
  show Go p e below W T28 (mkF m 198 #[.val (.int p1), .val (.int p2), .val (.int p3), .val (.int p4), .val (.int kk), .val (.int ss), .val (.ref b1), .val (.ref b3), .val (.int fr), .val (.int tt), .val (.ref b25), .val (.ref b28), .val (.int (1 : Int32))] [(.ref b3), (.int ((f3_ao fr tt (w0_24 kk ss fr tt) (f1_np (w0_24 kk ss fr tt))) 0))])
  refine Go.of (fun _ k => XS.iload X28.here hx rfl (hb hby at_198) rfl k) ?_
  show Go p e below W T28 (mkF m 200 #[.val (.int p1), .val (.int p2), .val (.int p3), .val (.int p4), .val (.int kk), .val (.int ss), .val (.ref b1), .val (.ref b3), .val (.int fr), .val (.int tt), .val (.ref b25), .val (.ref b28), .val (.int (1 : Int32))] [(.int fr), (.ref b3), (.int ((f3_ao fr tt (w0_24 kk ss fr tt) (f1_np (w0_24 kk ss fr tt))) 0))])
  refine Go.of (fun _ k => XS.iload X28.here hx rfl (hb hby at_200) rfl k) ?_
  show Go p e below W T28 (mkF m 202 #[.val (.int p1), .val (.int p2), .val (.int p3), .val (.int p4), .val (.int kk), .val (.int ss), .val (.ref b1), .val (.ref b3), .val (.int fr), .val (.int tt), .val (.ref b25), .val (.ref b28), .val (.int (1 : Int32))] [(.int tt), (.int fr), (.ref b3), (.int ((f3_ao fr tt (w0_24 kk ss fr tt) (f1_np (w0_24 kk ss fr tt))) 0))])
  refine Go.of (fun _ k => XS.iconst X28.here hx rfl (hb hby at_202) k) ?_
  show Go p e below W T28 (mkF m 203 #[.val (.int p1), .val (.int p2), .val (.int p3), .val (.int p4), .val (.int kk), .val (.int ss), .val (.ref b1), .val (.ref b3), .val (.int fr), .val (.int tt), .val (.ref b25), .val (.ref b28), .val (.int (1 : Int32))] [(.int (0 : Int32)), (.int tt), (.int fr), (.ref b3), (.int ((f3_ao fr tt (w0_24 kk ss fr tt) (f1_np (w0_24 kk ss fr tt))) 0))])
  refine Go.callS X28 hx hZ hown (hw _ (List.mem_of_getElem? (i := 34) rfl)) (hw _ (List.mem_of_getElem? (i := 35) rfl)) (hw _ (List.mem_of_getElem? (i := 36) rfl)) (hw _ (List.mem_of_getElem? (i := 37) rfl)) (by decide) rfl (rm5 l Z a0 hw [] b3 fr tt (0 : Int32) (w0_14 kk ss fr tt) T28.heap A_b3 rf ⟨by decide, by decide⟩) (V := 1) (by decide) (by decide) (by decide) (by decide) (by rw [hml]; rfl) (argsL := [(.ref b3), (.int fr), (.int tt), (.int (0 : Int32))]) (rest := [(.int ((f3_ao fr tt (w0_24 kk ss fr tt) (f1_np (w0_24 kk ss fr tt))) 0))]) rfl (lenOf pd___IIII_I rfl) rfl (Nat.le_of_ble_eq_true rfl) (hb hby at_203) ?_
  rintro T29 _ _ ⟨rfl, rfl, e29⟩ X29
  rw [List.append_nil] at X29
  show Go p e below W T29 (mkF m 206 #[.val (.int p1), .val (.int p2), .val (.int p3), .val (.int p4), .val (.int kk), .val (.int ss), .val (.ref b1), .val (.ref b3), .val (.int fr), .val (.int tt), .val (.ref b25), .val (.ref b28), .val (.int (1 : Int32))] [(.int (f5 fr tt (0 : Int32) (w0_14 kk ss fr tt))), (.int ((f3_ao fr tt (w0_24 kk ss fr tt) (f1_np (w0_24 kk ss fr tt))) 0))])
  suffices G31 : ∀ T', Stand p l e room_1 s m #[(.int p1), (.int p2), (.int p3), (.int p4)] below meth c T' L28 5 22 → T'.heap = T28.heap → Go p e below W T' (mkF m 214 #[.val (.int p1), .val (.int p2), .val (.int p3), .val (.int p4), .val (.int kk), .val (.int ss), .val (.ref b1), .val (.ref b3), .val (.int fr), .val (.int tt), .val (.ref b25), .val (.ref b28), .val (.int (1 : Int32))] [(.int (v0_32 kk ss fr tt))]) by
    by_cases c30 : ((f3_ao fr tt (w0_24 kk ss fr tt) (f1_np (w0_24 kk ss fr tt))) 0) = (f5 fr tt (0 : Int32) (w0_14 kk ss fr tt))
    · refine Go.of (fun _ k => XS.icmpNo X29.here hx rfl (hb hby at_206) rfl (Jvm.Free.XT.ii_ne_f c30) k) ?_
      show Go p e below W T29 (mkF m 209 #[.val (.int p1), .val (.int p2), .val (.int p3), .val (.int p4), .val (.int kk), .val (.int ss), .val (.ref b1), .val (.ref b3), .val (.int fr), .val (.int tt), .val (.ref b25), .val (.ref b28), .val (.int (1 : Int32))] [])
      refine Go.of (fun _ k => XS.iconst X29.here hx rfl (hb hby at_209) k) ?_
      show Go p e below W T29 (mkF m 210 #[.val (.int p1), .val (.int p2), .val (.int p3), .val (.int p4), .val (.int kk), .val (.int ss), .val (.ref b1), .val (.ref b3), .val (.int fr), .val (.int tt), .val (.ref b25), .val (.ref b28), .val (.int (1 : Int32))] [(.int (1 : Int32))])
      refine Go.of (fun _ k => XS.goto X29.here hx rfl (pc0 := 210) (pc' := 214) rfl (hb hby at_210) (by decide) (by decide) k) ?_
      have G31 := G31
      have q_v0_32 : (v0_32 kk ss fr tt) = (1 : Int32) := by rw [v0_32, if_pos c30]
      rw [q_v0_32] at G31
      exact G31 _ X29 e29
    · refine Go.of (fun _ k => XS.icmpYes X29.here hx rfl (pc0 := 206) (pc' := 213) rfl (hb hby at_206) rfl (Jvm.Free.XT.ii_ne_t c30) (by decide) (by decide) k) ?_
      show Go p e below W T29 (mkF m 213 #[.val (.int p1), .val (.int p2), .val (.int p3), .val (.int p4), .val (.int kk), .val (.int ss), .val (.ref b1), .val (.ref b3), .val (.int fr), .val (.int tt), .val (.ref b25), .val (.ref b28), .val (.int (1 : Int32))] [])
      refine Go.of (fun _ k => XS.iconst X29.here hx rfl (hb hby at_213) k) ?_
      have G31 := G31
      have q_v0_32 : (v0_32 kk ss fr tt) = (0 : Int32) := by rw [v0_32, if_neg c30]
      rw [q_v0_32] at G31
      exact G31 _ X29 e29
  intro T31 X31 e31
  show Go p e below W T31 (mkF m 214 #[.val (.int p1), .val (.int p2), .val (.int p3), .val (.int p4), .val (.int kk), .val (.int ss), .val (.ref b1), .val (.ref b3), .val (.int fr), .val (.int tt), .val (.ref b25), .val (.ref b28), .val (.int (1 : Int32))] [(.int (v0_32 kk ss fr tt))])
  refine Go.of (fun _ k => XS.istore X31.here hx rfl (hb hby at_214) rfl (l' := #[.val (.int p1), .val (.int p2), .val (.int p3), .val (.int p4), .val (.int kk), .val (.int ss), .val (.ref b1), .val (.ref b3), .val (.int fr), .val (.int tt), .val (.ref b25), .val (.ref b28), .val (.int (v0_32 kk ss fr tt))]) rfl k) ?_
  show Go p e below W T31 (mkF m 216 #[.val (.int p1), .val (.int p2), .val (.int p3), .val (.int p4), .val (.int kk), .val (.int ss), .val (.ref b1), .val (.ref b3), .val (.int fr), .val (.int tt), .val (.ref b25), .val (.ref b28), .val (.int (v0_32 kk ss fr tt))] [])
  refine Go.of (fun _ k => XS.iload X31.here hx rfl (hb hby at_216) rfl k) ?_
  show Go p e below W T31 (mkF m 218 #[.val (.int p1), .val (.int p2), .val (.int p3), .val (.int p4), .val (.int kk), .val (.int ss), .val (.ref b1), .val (.ref b3), .val (.int fr), .val (.int tt), .val (.ref b25), .val (.ref b28), .val (.int (v0_32 kk ss fr tt))] [(.int (v0_32 kk ss fr tt))])
  suffices G36 : ∀ T', Stand p l e room_1 s m #[(.int p1), (.int p2), (.int p3), (.int p4)] below meth c T' L28 5 22 → T'.heap = T28.heap → Go p e below W T' (mkF m 243 #[.val (.int p1), .val (.int p2), .val (.int p3), .val (.int p4), .val (.int kk), .val (.int ss), .val (.ref b1), .val (.ref b3), .val (.int fr), .val (.int tt), .val (.ref b25), .val (.ref b28), .val (.int (v0_32 kk ss fr tt))] [(.int (v0_37 kk ss fr tt))]) by
    by_cases c33 : (v0_32 kk ss fr tt) = (0 : Int32)
    · refine Go.of (fun _ k => XS.ifYes X31.here hx rfl (pc0 := 218) (pc' := 242) rfl (hb hby at_218) rfl (Jvm.Free.XT.i0_eq_t c33) (by decide) (by decide) k) ?_
      show Go p e below W T31 (mkF m 242 #[.val (.int p1), .val (.int p2), .val (.int p3), .val (.int p4), .val (.int kk), .val (.int ss), .val (.ref b1), .val (.ref b3), .val (.int fr), .val (.int tt), .val (.ref b25), .val (.ref b28), .val (.int (v0_32 kk ss fr tt))] [])
      refine Go.of (fun _ k => XS.iconst X31.here hx rfl (hb hby at_242) k) ?_
      have G36 := G36
      have q_v0_37 : (v0_37 kk ss fr tt) = (0 : Int32) := by rw [v0_37, if_pos c33]
      rw [q_v0_37] at G36
      exact G36 _ X31 e31
    · refine Go.of (fun _ k => XS.ifNo X31.here hx rfl (hb hby at_218) rfl (Jvm.Free.XT.i0_eq_f c33) k) ?_
      show Go p e below W T31 (mkF m 221 #[.val (.int p1), .val (.int p2), .val (.int p3), .val (.int p4), .val (.int kk), .val (.int ss), .val (.ref b1), .val (.ref b3), .val (.int fr), .val (.int tt), .val (.ref b25), .val (.ref b28), .val (.int (v0_32 kk ss fr tt))] [])
      refine Go.of (fun _ k => XS.aload X31.here hx rfl (hb hby at_221) rfl rfl k) ?_
      show Go p e below W T31 (mkF m 223 #[.val (.int p1), .val (.int p2), .val (.int p3), .val (.int p4), .val (.int kk), .val (.int ss), .val (.ref b1), .val (.ref b3), .val (.int fr), .val (.int tt), .val (.ref b25), .val (.ref b28), .val (.int (v0_32 kk ss fr tt))] [(.ref b28)])
      refine Go.of (fun _ k => XS.iconst X31.here hx rfl (hb hby at_223) k) ?_
      show Go p e below W T31 (mkF m 224 #[.val (.int p1), .val (.int p2), .val (.int p3), .val (.int p4), .val (.int kk), .val (.int ss), .val (.ref b1), .val (.ref b3), .val (.int fr), .val (.int tt), .val (.ref b25), .val (.ref b28), .val (.int (v0_32 kk ss fr tt))] [(.int (1 : Int32)), (.ref b28)])
      refine Go.iald X31 hx hZ e31 A_b28 ⟨by decide, by decide⟩ (hb hby at_224) ?_
      show Go p e below W T31 (mkF m 225 #[.val (.int p1), .val (.int p2), .val (.int p3), .val (.int p4), .val (.int kk), .val (.int ss), .val (.ref b1), .val (.ref b3), .val (.int fr), .val (.int tt), .val (.ref b25), .val (.ref b28), .val (.int (v0_32 kk ss fr tt))] [(.int ((f3_ao fr tt (w0_24 kk ss fr tt) (f1_np (w0_24 kk ss fr tt))) 1))])
      refine Go.of (fun _ k => XS.aload X31.here hx rfl (hb hby at_225) rfl rfl k) ?_
      show Go p e below W T31 (mkF m 227 #[.val (.int p1), .val (.int p2), .val (.int p3), .val (.int p4), .val (.int kk), .val (.int ss), .val (.ref b1), .val (.ref b3), .val (.int fr), .val (.int tt), .val (.ref b25), .val (.ref b28), .val (.int (v0_32 kk ss fr tt))] [(.ref b3), (.int ((f3_ao fr tt (w0_24 kk ss fr tt) (f1_np (w0_24 kk ss fr tt))) 1))])
      refine Go.of (fun _ k => XS.iload X31.here hx rfl (hb hby at_227) rfl k) ?_
      show Go p e below W T31 (mkF m 229 #[.val (.int p1), .val (.int p2), .val (.int p3), .val (.int p4), .val (.int kk), .val (.int ss), .val (.ref b1), .val (.ref b3), .val (.int fr), .val (.int tt), .val (.ref b25), .val (.ref b28), .val (.int (v0_32 kk ss fr tt))] [(.int fr), (.ref b3), (.int ((f3_ao fr tt (w0_24 kk ss fr tt) (f1_np (w0_24 kk ss fr tt))) 1))])
      refine Go.of (fun _ k => XS.iload X31.here hx rfl (hb hby at_229) rfl k) ?_
      show Go p e below W T31 (mkF m 231 #[.val (.int p1), .val (.int p2), .val (.int p3), .val (.int p4), .val (.int kk), .val (.int ss), .val (.ref b1), .val (.ref b3), .val (.int fr), .val (.int tt), .val (.ref b25), .val (.ref b28), .val (.int (v0_32 kk ss fr tt))] [(.int tt), (.int fr), (.ref b3), (.int ((f3_ao fr tt (w0_24 kk ss fr tt) (f1_np (w0_24 kk ss fr tt))) 1))])
      refine Go.of (fun _ k => XS.iconst X31.here hx rfl (hb hby at_231) k) ?_
      show Go p e below W T31 (mkF m 232 #[.val (.int p1), .val (.int p2), .val (.int p3), .val (.int p4), .val (.int kk), .val (.int ss), .val (.ref b1), .val (.ref b3), .val (.int fr), .val (.int tt), .val (.ref b25), .val (.ref b28), .val (.int (v0_32 kk ss fr tt))] [(.int (1 : Int32)), (.int tt), (.int fr), (.ref b3), (.int ((f3_ao fr tt (w0_24 kk ss fr tt) (f1_np (w0_24 kk ss fr tt))) 1))])
      refine Go.callS X31 hx hZ hown (hw _ (List.mem_of_getElem? (i := 34) rfl)) (hw _ (List.mem_of_getElem? (i := 35) rfl)) (hw _ (List.mem_of_getElem? (i := 36) rfl)) (hw _ (List.mem_of_getElem? (i := 37) rfl)) (by decide) e31 (rm5 l Z a0 hw [] b3 fr tt (1 : Int32) (w0_14 kk ss fr tt) T28.heap A_b3 rf ⟨by decide, by decide⟩) (V := 1) (by decide) (by decide) (by decide) (by decide) (by rw [hml]; rfl) (argsL := [(.ref b3), (.int fr), (.int tt), (.int (1 : Int32))]) (rest := [(.int ((f3_ao fr tt (w0_24 kk ss fr tt) (f1_np (w0_24 kk ss fr tt))) 1))]) rfl (lenOf pd___IIII_I rfl) rfl (Nat.le_of_ble_eq_true rfl) (hb hby at_232) ?_
      rintro T34 _ _ ⟨rfl, rfl, e34⟩ X34
      rw [List.append_nil] at X34
      show Go p e below W T34 (mkF m 235 #[.val (.int p1), .val (.int p2), .val (.int p3), .val (.int p4), .val (.int kk), .val (.int ss), .val (.ref b1), .val (.ref b3), .val (.int fr), .val (.int tt), .val (.ref b25), .val (.ref b28), .val (.int (v0_32 kk ss fr tt))] [(.int (f5 fr tt (1 : Int32) (w0_14 kk ss fr tt))), (.int ((f3_ao fr tt (w0_24 kk ss fr tt) (f1_np (w0_24 kk ss fr tt))) 1))])
      by_cases c35 : ((f3_ao fr tt (w0_24 kk ss fr tt) (f1_np (w0_24 kk ss fr tt))) 1) = (f5 fr tt (1 : Int32) (w0_14 kk ss fr tt))
      · refine Go.of (fun _ k => XS.icmpNo X34.here hx rfl (hb hby at_235) rfl (Jvm.Free.XT.ii_ne_f c35) k) ?_
        show Go p e below W T34 (mkF m 238 #[.val (.int p1), .val (.int p2), .val (.int p3), .val (.int p4), .val (.int kk), .val (.int ss), .val (.ref b1), .val (.ref b3), .val (.int fr), .val (.int tt), .val (.ref b25), .val (.ref b28), .val (.int (v0_32 kk ss fr tt))] [])
        refine Go.of (fun _ k => XS.iconst X34.here hx rfl (hb hby at_238) k) ?_
        show Go p e below W T34 (mkF m 239 #[.val (.int p1), .val (.int p2), .val (.int p3), .val (.int p4), .val (.int kk), .val (.int ss), .val (.ref b1), .val (.ref b3), .val (.int fr), .val (.int tt), .val (.ref b25), .val (.ref b28), .val (.int (v0_32 kk ss fr tt))] [(.int (1 : Int32))])
        refine Go.of (fun _ k => XS.goto X34.here hx rfl (pc0 := 239) (pc' := 243) rfl (hb hby at_239) (by decide) (by decide) k) ?_
        have G36 := G36
        have q_v0_37 : (v0_37 kk ss fr tt) = (1 : Int32) := by rw [v0_37, if_neg c33, if_pos c35]
        rw [q_v0_37] at G36
        exact G36 _ X34 e34
      · refine Go.of (fun _ k => XS.icmpYes X34.here hx rfl (pc0 := 235) (pc' := 242) rfl (hb hby at_235) rfl (Jvm.Free.XT.ii_ne_t c35) (by decide) (by decide) k) ?_
        show Go p e below W T34 (mkF m 242 #[.val (.int p1), .val (.int p2), .val (.int p3), .val (.int p4), .val (.int kk), .val (.int ss), .val (.ref b1), .val (.ref b3), .val (.int fr), .val (.int tt), .val (.ref b25), .val (.ref b28), .val (.int (v0_32 kk ss fr tt))] [])
        refine Go.of (fun _ k => XS.iconst X34.here hx rfl (hb hby at_242) k) ?_
        have G36 := G36
        have q_v0_37 : (v0_37 kk ss fr tt) = (0 : Int32) := by rw [v0_37, if_neg c33, if_neg c35]
        rw [q_v0_37] at G36
        exact G36 _ X34 e34
  intro T36 X36 e36
  show Go p e below W T36 (mkF m 243 #[.val (.int p1), .val (.int p2), .val (.int p3), .val (.int p4), .val (.int kk), .val (.int ss), .val (.ref b1), .val (.ref b3), .val (.int fr), .val (.int tt), .val (.ref b25), .val (.ref b28), .val (.int (v0_32 kk ss fr tt))] [(.int (v0_37 kk ss fr tt))])
  refine Go.of (fun _ k => XS.istore X36.here hx rfl (hb hby at_243) rfl (l' := #[.val (.int p1), .val (.int p2), .val (.int p3), .val (.int p4), .val (.int kk), .val (.int ss), .val (.ref b1), .val (.ref b3), .val (.int fr), .val (.int tt), .val (.ref b25), .val (.ref b28), .val (.int (v0_37 kk ss fr tt))]) rfl k) ?_
  show Go p e below W T36 (mkF m 245 #[.val (.int p1), .val (.int p2), .val (.int p3), .val (.int p4), .val (.int kk), .val (.int ss), .val (.ref b1), .val (.ref b3), .val (.int fr), .val (.int tt), .val (.ref b25), .val (.ref b28), .val (.int (v0_37 kk ss fr tt))] [])
  refine Go.of (fun _ k => XS.iload X36.here hx rfl (hb hby at_245) rfl k) ?_
  show Go p e below W T36 (mkF m 247 #[.val (.int p1), .val (.int p2), .val (.int p3), .val (.int p4), .val (.int kk), .val (.int ss), .val (.ref b1), .val (.ref b3), .val (.int fr), .val (.int tt), .val (.ref b25), .val (.ref b28), .val (.int (v0_37 kk ss fr tt))] [(.int (v0_37 kk ss fr tt))])
  suffices G41 : ∀ T', Stand p l e room_1 s m #[(.int p1), (.int p2), (.int p3), (.int p4)] below meth c T' L28 5 22 → T'.heap = T28.heap → Go p e below W T' (mkF m 272 #[.val (.int p1), .val (.int p2), .val (.int p3), .val (.int p4), .val (.int kk), .val (.int ss), .val (.ref b1), .val (.ref b3), .val (.int fr), .val (.int tt), .val (.ref b25), .val (.ref b28), .val (.int (v0_37 kk ss fr tt))] [(.int (v0_42 kk ss fr tt))]) by
    by_cases c38 : (v0_37 kk ss fr tt) = (0 : Int32)
    · refine Go.of (fun _ k => XS.ifYes X36.here hx rfl (pc0 := 247) (pc' := 271) rfl (hb hby at_247) rfl (Jvm.Free.XT.i0_eq_t c38) (by decide) (by decide) k) ?_
      show Go p e below W T36 (mkF m 271 #[.val (.int p1), .val (.int p2), .val (.int p3), .val (.int p4), .val (.int kk), .val (.int ss), .val (.ref b1), .val (.ref b3), .val (.int fr), .val (.int tt), .val (.ref b25), .val (.ref b28), .val (.int (v0_37 kk ss fr tt))] [])
      refine Go.of (fun _ k => XS.iconst X36.here hx rfl (hb hby at_271) k) ?_
      have G41 := G41
      have q_v0_42 : (v0_42 kk ss fr tt) = (0 : Int32) := by rw [v0_42, if_pos c38]
      rw [q_v0_42] at G41
      exact G41 _ X36 e36
    · refine Go.of (fun _ k => XS.ifNo X36.here hx rfl (hb hby at_247) rfl (Jvm.Free.XT.i0_eq_f c38) k) ?_
      show Go p e below W T36 (mkF m 250 #[.val (.int p1), .val (.int p2), .val (.int p3), .val (.int p4), .val (.int kk), .val (.int ss), .val (.ref b1), .val (.ref b3), .val (.int fr), .val (.int tt), .val (.ref b25), .val (.ref b28), .val (.int (v0_37 kk ss fr tt))] [])
      refine Go.of (fun _ k => XS.aload X36.here hx rfl (hb hby at_250) rfl rfl k) ?_
      show Go p e below W T36 (mkF m 252 #[.val (.int p1), .val (.int p2), .val (.int p3), .val (.int p4), .val (.int kk), .val (.int ss), .val (.ref b1), .val (.ref b3), .val (.int fr), .val (.int tt), .val (.ref b25), .val (.ref b28), .val (.int (v0_37 kk ss fr tt))] [(.ref b28)])
      refine Go.of (fun _ k => XS.iconst X36.here hx rfl (hb hby at_252) k) ?_
      show Go p e below W T36 (mkF m 253 #[.val (.int p1), .val (.int p2), .val (.int p3), .val (.int p4), .val (.int kk), .val (.int ss), .val (.ref b1), .val (.ref b3), .val (.int fr), .val (.int tt), .val (.ref b25), .val (.ref b28), .val (.int (v0_37 kk ss fr tt))] [(.int (2 : Int32)), (.ref b28)])
      refine Go.iald X36 hx hZ e36 A_b28 ⟨by decide, by decide⟩ (hb hby at_253) ?_
      show Go p e below W T36 (mkF m 254 #[.val (.int p1), .val (.int p2), .val (.int p3), .val (.int p4), .val (.int kk), .val (.int ss), .val (.ref b1), .val (.ref b3), .val (.int fr), .val (.int tt), .val (.ref b25), .val (.ref b28), .val (.int (v0_37 kk ss fr tt))] [(.int ((f3_ao fr tt (w0_24 kk ss fr tt) (f1_np (w0_24 kk ss fr tt))) 2))])
      refine Go.of (fun _ k => XS.aload X36.here hx rfl (hb hby at_254) rfl rfl k) ?_
      show Go p e below W T36 (mkF m 256 #[.val (.int p1), .val (.int p2), .val (.int p3), .val (.int p4), .val (.int kk), .val (.int ss), .val (.ref b1), .val (.ref b3), .val (.int fr), .val (.int tt), .val (.ref b25), .val (.ref b28), .val (.int (v0_37 kk ss fr tt))] [(.ref b3), (.int ((f3_ao fr tt (w0_24 kk ss fr tt) (f1_np (w0_24 kk ss fr tt))) 2))])
      refine Go.of (fun _ k => XS.iload X36.here hx rfl (hb hby at_256) rfl k) ?_
      show Go p e below W T36 (mkF m 258 #[.val (.int p1), .val (.int p2), .val (.int p3), .val (.int p4), .val (.int kk), .val (.int ss), .val (.ref b1), .val (.ref b3), .val (.int fr), .val (.int tt), .val (.ref b25), .val (.ref b28), .val (.int (v0_37 kk ss fr tt))] [(.int fr), (.ref b3), (.int ((f3_ao fr tt (w0_24 kk ss fr tt) (f1_np (w0_24 kk ss fr tt))) 2))])
      refine Go.of (fun _ k => XS.iload X36.here hx rfl (hb hby at_258) rfl k) ?_
      show Go p e below W T36 (mkF m 260 #[.val (.int p1), .val (.int p2), .val (.int p3), .val (.int p4), .val (.int kk), .val (.int ss), .val (.ref b1), .val (.ref b3), .val (.int fr), .val (.int tt), .val (.ref b25), .val (.ref b28), .val (.int (v0_37 kk ss fr tt))] [(.int tt), (.int fr), (.ref b3), (.int ((f3_ao fr tt (w0_24 kk ss fr tt) (f1_np (w0_24 kk ss fr tt))) 2))])
      refine Go.of (fun _ k => XS.iconst X36.here hx rfl (hb hby at_260) k) ?_
      show Go p e below W T36 (mkF m 261 #[.val (.int p1), .val (.int p2), .val (.int p3), .val (.int p4), .val (.int kk), .val (.int ss), .val (.ref b1), .val (.ref b3), .val (.int fr), .val (.int tt), .val (.ref b25), .val (.ref b28), .val (.int (v0_37 kk ss fr tt))] [(.int (2 : Int32)), (.int tt), (.int fr), (.ref b3), (.int ((f3_ao fr tt (w0_24 kk ss fr tt) (f1_np (w0_24 kk ss fr tt))) 2))])
      refine Go.callS X36 hx hZ hown (hw _ (List.mem_of_getElem? (i := 34) rfl)) (hw _ (List.mem_of_getElem? (i := 35) rfl)) (hw _ (List.mem_of_getElem? (i := 36) rfl)) (hw _ (List.mem_of_getElem? (i := 37) rfl)) (by decide) e36 (rm5 l Z a0 hw [] b3 fr tt (2 : Int32) (w0_14 kk ss fr tt) T28.heap A_b3 rf ⟨by decide, by decide⟩) (V := 1) (by decide) (by decide) (by decide) (by decide) (by rw [hml]; rfl) (argsL := [(.ref b3), (.int fr), (.int tt), (.int (2 : Int32))]) (rest := [(.int ((f3_ao fr tt (w0_24 kk ss fr tt) (f1_np (w0_24 kk ss fr tt))) 2))]) rfl (lenOf pd___IIII_I rfl) rfl (Nat.le_of_ble_eq_true rfl) (hb hby at_261) ?_
      rintro T39 _ _ ⟨rfl, rfl, e39⟩ X39
      rw [List.append_nil] at X39
      show Go p e below W T39 (mkF m 264 #[.val (.int p1), .val (.int p2), .val (.int p3), .val (.int p4), .val (.int kk), .val (.int ss), .val (.ref b1), .val (.ref b3), .val (.int fr), .val (.int tt), .val (.ref b25), .val (.ref b28), .val (.int (v0_37 kk ss fr tt))] [(.int (f5 fr tt (2 : Int32) (w0_14 kk ss fr tt))), (.int ((f3_ao fr tt (w0_24 kk ss fr tt) (f1_np (w0_24 kk ss fr tt))) 2))])
      by_cases c40 : ((f3_ao fr tt (w0_24 kk ss fr tt) (f1_np (w0_24 kk ss fr tt))) 2) = (f5 fr tt (2 : Int32) (w0_14 kk ss fr tt))
      · refine Go.of (fun _ k => XS.icmpNo X39.here hx rfl (hb hby at_264) rfl (Jvm.Free.XT.ii_ne_f c40) k) ?_
        show Go p e below W T39 (mkF m 267 #[.val (.int p1), .val (.int p2), .val (.int p3), .val (.int p4), .val (.int kk), .val (.int ss), .val (.ref b1), .val (.ref b3), .val (.int fr), .val (.int tt), .val (.ref b25), .val (.ref b28), .val (.int (v0_37 kk ss fr tt))] [])
        refine Go.of (fun _ k => XS.iconst X39.here hx rfl (hb hby at_267) k) ?_
        show Go p e below W T39 (mkF m 268 #[.val (.int p1), .val (.int p2), .val (.int p3), .val (.int p4), .val (.int kk), .val (.int ss), .val (.ref b1), .val (.ref b3), .val (.int fr), .val (.int tt), .val (.ref b25), .val (.ref b28), .val (.int (v0_37 kk ss fr tt))] [(.int (1 : Int32))])
        refine Go.of (fun _ k => XS.goto X39.here hx rfl (pc0 := 268) (pc' := 272) rfl (hb hby at_268) (by decide) (by decide) k) ?_
        have G41 := G41
        have q_v0_42 : (v0_42 kk ss fr tt) = (1 : Int32) := by rw [v0_42, if_neg c38, if_pos c40]
        rw [q_v0_42] at G41
        exact G41 _ X39 e39
      · refine Go.of (fun _ k => XS.icmpYes X39.here hx rfl (pc0 := 264) (pc' := 271) rfl (hb hby at_264) rfl (Jvm.Free.XT.ii_ne_t c40) (by decide) (by decide) k) ?_
        show Go p e below W T39 (mkF m 271 #[.val (.int p1), .val (.int p2), .val (.int p3), .val (.int p4), .val (.int kk), .val (.int ss), .val (.ref b1), .val (.ref b3), .val (.int fr), .val (.int tt), .val (.ref b25), .val (.ref b28), .val (.int (v0_37 kk ss fr tt))] [])
        refine Go.of (fun _ k => XS.iconst X39.here hx rfl (hb hby at_271) k) ?_
        have G41 := G41
        have q_v0_42 : (v0_42 kk ss fr tt) = (0 : Int32) := by rw [v0_42, if_neg c38, if_neg c40]
        rw [q_v0_42] at G41
        exact G41 _ X39 e39
  intro T41 X41 e41
  show Go p e below W T41 (mkF m 272 #[.val (.int p1), .val (.int p2), .val (.int p3), .val (.int p4), .val (.int kk), .val (.int ss), .val (.ref b1), .val (.ref b3), .val (.int fr), .val (.int tt), .val (.ref b25), .val (.ref b28), .val (.int (v0_37 kk ss fr tt))] [(.int (v0_42 kk ss fr tt))])
  refine Go.of (fun _ k => XS.istore X41.here hx rfl (hb hby at_272) rfl (l' := #[.val (.int p1), .val (.int p2), .val (.int p3), .val (.int p4), .val (.int kk), .val (.int ss), .val (.ref b1), .val (.ref b3), .val (.int fr), .val (.int tt), .val (.ref b25), .val (.ref b28), .val (.int (v0_42 kk ss fr tt))]) rfl k) ?_
  show Go p e below W T41 (mkF m 274 #[.val (.int p1), .val (.int p2), .val (.int p3), .val (.int p4), .val (.int kk), .val (.int ss), .val (.ref b1), .val (.ref b3), .val (.int fr), .val (.int tt), .val (.ref b25), .val (.ref b28), .val (.int (v0_42 kk ss fr tt))] [])
  refine Go.of (fun _ k => XS.iload X41.here hx rfl (hb hby at_274) rfl k) ?_
  show Go p e below W T41 (mkF m 276 #[.val (.int p1), .val (.int p2), .val (.int p3), .val (.int p4), .val (.int kk), .val (.int ss), .val (.ref b1), .val (.ref b3), .val (.int fr), .val (.int tt), .val (.ref b25), .val (.ref b28), .val (.int (v0_42 kk ss fr tt))] [(.int (v0_42 kk ss fr tt))])
  suffices G46 : ∀ T', Stand p l e room_1 s m #[(.int p1), (.int p2), (.int p3), (.int p4)] below meth c T' L28 5 22 → T'.heap = T28.heap → Go p e below W T' (mkF m 301 #[.val (.int p1), .val (.int p2), .val (.int p3), .val (.int p4), .val (.int kk), .val (.int ss), .val (.ref b1), .val (.ref b3), .val (.int fr), .val (.int tt), .val (.ref b25), .val (.ref b28), .val (.int (v0_42 kk ss fr tt))] [(.int (v0_47 kk ss fr tt))]) by
    by_cases c43 : (v0_42 kk ss fr tt) = (0 : Int32)
    · refine Go.of (fun _ k => XS.ifYes X41.here hx rfl (pc0 := 276) (pc' := 300) rfl (hb hby at_276) rfl (Jvm.Free.XT.i0_eq_t c43) (by decide) (by decide) k) ?_
      show Go p e below W T41 (mkF m 300 #[.val (.int p1), .val (.int p2), .val (.int p3), .val (.int p4), .val (.int kk), .val (.int ss), .val (.ref b1), .val (.ref b3), .val (.int fr), .val (.int tt), .val (.ref b25), .val (.ref b28), .val (.int (v0_42 kk ss fr tt))] [])
      refine Go.of (fun _ k => XS.iconst X41.here hx rfl (hb hby at_300) k) ?_
      have G46 := G46
      have q_v0_47 : (v0_47 kk ss fr tt) = (0 : Int32) := by rw [v0_47, if_pos c43]
      rw [q_v0_47] at G46
      exact G46 _ X41 e41
    · refine Go.of (fun _ k => XS.ifNo X41.here hx rfl (hb hby at_276) rfl (Jvm.Free.XT.i0_eq_f c43) k) ?_
      show Go p e below W T41 (mkF m 279 #[.val (.int p1), .val (.int p2), .val (.int p3), .val (.int p4), .val (.int kk), .val (.int ss), .val (.ref b1), .val (.ref b3), .val (.int fr), .val (.int tt), .val (.ref b25), .val (.ref b28), .val (.int (v0_42 kk ss fr tt))] [])
      refine Go.of (fun _ k => XS.aload X41.here hx rfl (hb hby at_279) rfl rfl k) ?_
      show Go p e below W T41 (mkF m 281 #[.val (.int p1), .val (.int p2), .val (.int p3), .val (.int p4), .val (.int kk), .val (.int ss), .val (.ref b1), .val (.ref b3), .val (.int fr), .val (.int tt), .val (.ref b25), .val (.ref b28), .val (.int (v0_42 kk ss fr tt))] [(.ref b28)])
      refine Go.of (fun _ k => XS.iconst X41.here hx rfl (hb hby at_281) k) ?_
      show Go p e below W T41 (mkF m 282 #[.val (.int p1), .val (.int p2), .val (.int p3), .val (.int p4), .val (.int kk), .val (.int ss), .val (.ref b1), .val (.ref b3), .val (.int fr), .val (.int tt), .val (.ref b25), .val (.ref b28), .val (.int (v0_42 kk ss fr tt))] [(.int (3 : Int32)), (.ref b28)])
      refine Go.iald X41 hx hZ e41 A_b28 ⟨by decide, by decide⟩ (hb hby at_282) ?_
      show Go p e below W T41 (mkF m 283 #[.val (.int p1), .val (.int p2), .val (.int p3), .val (.int p4), .val (.int kk), .val (.int ss), .val (.ref b1), .val (.ref b3), .val (.int fr), .val (.int tt), .val (.ref b25), .val (.ref b28), .val (.int (v0_42 kk ss fr tt))] [(.int ((f3_ao fr tt (w0_24 kk ss fr tt) (f1_np (w0_24 kk ss fr tt))) 3))])
      refine Go.of (fun _ k => XS.aload X41.here hx rfl (hb hby at_283) rfl rfl k) ?_
      show Go p e below W T41 (mkF m 285 #[.val (.int p1), .val (.int p2), .val (.int p3), .val (.int p4), .val (.int kk), .val (.int ss), .val (.ref b1), .val (.ref b3), .val (.int fr), .val (.int tt), .val (.ref b25), .val (.ref b28), .val (.int (v0_42 kk ss fr tt))] [(.ref b3), (.int ((f3_ao fr tt (w0_24 kk ss fr tt) (f1_np (w0_24 kk ss fr tt))) 3))])
      refine Go.of (fun _ k => XS.iload X41.here hx rfl (hb hby at_285) rfl k) ?_
      show Go p e below W T41 (mkF m 287 #[.val (.int p1), .val (.int p2), .val (.int p3), .val (.int p4), .val (.int kk), .val (.int ss), .val (.ref b1), .val (.ref b3), .val (.int fr), .val (.int tt), .val (.ref b25), .val (.ref b28), .val (.int (v0_42 kk ss fr tt))] [(.int fr), (.ref b3), (.int ((f3_ao fr tt (w0_24 kk ss fr tt) (f1_np (w0_24 kk ss fr tt))) 3))])
      refine Go.of (fun _ k => XS.iload X41.here hx rfl (hb hby at_287) rfl k) ?_
      show Go p e below W T41 (mkF m 289 #[.val (.int p1), .val (.int p2), .val (.int p3), .val (.int p4), .val (.int kk), .val (.int ss), .val (.ref b1), .val (.ref b3), .val (.int fr), .val (.int tt), .val (.ref b25), .val (.ref b28), .val (.int (v0_42 kk ss fr tt))] [(.int tt), (.int fr), (.ref b3), (.int ((f3_ao fr tt (w0_24 kk ss fr tt) (f1_np (w0_24 kk ss fr tt))) 3))])
      refine Go.of (fun _ k => XS.iconst X41.here hx rfl (hb hby at_289) k) ?_
      show Go p e below W T41 (mkF m 290 #[.val (.int p1), .val (.int p2), .val (.int p3), .val (.int p4), .val (.int kk), .val (.int ss), .val (.ref b1), .val (.ref b3), .val (.int fr), .val (.int tt), .val (.ref b25), .val (.ref b28), .val (.int (v0_42 kk ss fr tt))] [(.int (3 : Int32)), (.int tt), (.int fr), (.ref b3), (.int ((f3_ao fr tt (w0_24 kk ss fr tt) (f1_np (w0_24 kk ss fr tt))) 3))])
      refine Go.callS X41 hx hZ hown (hw _ (List.mem_of_getElem? (i := 34) rfl)) (hw _ (List.mem_of_getElem? (i := 35) rfl)) (hw _ (List.mem_of_getElem? (i := 36) rfl)) (hw _ (List.mem_of_getElem? (i := 37) rfl)) (by decide) e41 (rm5 l Z a0 hw [] b3 fr tt (3 : Int32) (w0_14 kk ss fr tt) T28.heap A_b3 rf ⟨by decide, by decide⟩) (V := 1) (by decide) (by decide) (by decide) (by decide) (by rw [hml]; rfl) (argsL := [(.ref b3), (.int fr), (.int tt), (.int (3 : Int32))]) (rest := [(.int ((f3_ao fr tt (w0_24 kk ss fr tt) (f1_np (w0_24 kk ss fr tt))) 3))]) rfl (lenOf pd___IIII_I rfl) rfl (Nat.le_of_ble_eq_true rfl) (hb hby at_290) ?_
      rintro T44 _ _ ⟨rfl, rfl, e44⟩ X44
      rw [List.append_nil] at X44
      show Go p e below W T44 (mkF m 293 #[.val (.int p1), .val (.int p2), .val (.int p3), .val (.int p4), .val (.int kk), .val (.int ss), .val (.ref b1), .val (.ref b3), .val (.int fr), .val (.int tt), .val (.ref b25), .val (.ref b28), .val (.int (v0_42 kk ss fr tt))] [(.int (f5 fr tt (3 : Int32) (w0_14 kk ss fr tt))), (.int ((f3_ao fr tt (w0_24 kk ss fr tt) (f1_np (w0_24 kk ss fr tt))) 3))])
      by_cases c45 : ((f3_ao fr tt (w0_24 kk ss fr tt) (f1_np (w0_24 kk ss fr tt))) 3) = (f5 fr tt (3 : Int32) (w0_14 kk ss fr tt))
      · refine Go.of (fun _ k => XS.icmpNo X44.here hx rfl (hb hby at_293) rfl (Jvm.Free.XT.ii_ne_f c45) k) ?_
        show Go p e below W T44 (mkF m 296 #[.val (.int p1), .val (.int p2), .val (.int p3), .val (.int p4), .val (.int kk), .val (.int ss), .val (.ref b1), .val (.ref b3), .val (.int fr), .val (.int tt), .val (.ref b25), .val (.ref b28), .val (.int (v0_42 kk ss fr tt))] [])
        refine Go.of (fun _ k => XS.iconst X44.here hx rfl (hb hby at_296) k) ?_
        show Go p e below W T44 (mkF m 297 #[.val (.int p1), .val (.int p2), .val (.int p3), .val (.int p4), .val (.int kk), .val (.int ss), .val (.ref b1), .val (.ref b3), .val (.int fr), .val (.int tt), .val (.ref b25), .val (.ref b28), .val (.int (v0_42 kk ss fr tt))] [(.int (1 : Int32))])
        refine Go.of (fun _ k => XS.goto X44.here hx rfl (pc0 := 297) (pc' := 301) rfl (hb hby at_297) (by decide) (by decide) k) ?_
        have G46 := G46
        have q_v0_47 : (v0_47 kk ss fr tt) = (1 : Int32) := by rw [v0_47, if_neg c43, if_pos c45]
        rw [q_v0_47] at G46
        exact G46 _ X44 e44
      · refine Go.of (fun _ k => XS.icmpYes X44.here hx rfl (pc0 := 293) (pc' := 300) rfl (hb hby at_293) rfl (Jvm.Free.XT.ii_ne_t c45) (by decide) (by decide) k) ?_
        show Go p e below W T44 (mkF m 300 #[.val (.int p1), .val (.int p2), .val (.int p3), .val (.int p4), .val (.int kk), .val (.int ss), .val (.ref b1), .val (.ref b3), .val (.int fr), .val (.int tt), .val (.ref b25), .val (.ref b28), .val (.int (v0_42 kk ss fr tt))] [])
        refine Go.of (fun _ k => XS.iconst X44.here hx rfl (hb hby at_300) k) ?_
        have G46 := G46
        have q_v0_47 : (v0_47 kk ss fr tt) = (0 : Int32) := by rw [v0_47, if_neg c43, if_neg c45]
        rw [q_v0_47] at G46
        exact G46 _ X44 e44
  intro T46 X46 e46
  show Go p e below W T46 (mkF m 301 #[.val (.int p1), .val (.int p2), .val (.int p3), .val (.int p4), .val (.int kk), .val (.int ss), .val (.ref b1), .val (.ref b3), .val (.int fr), .val (.int tt), .val (.ref b25), .val (.ref b28), .val (.int (v0_42 kk ss fr tt))] [(.int (v0_47 kk ss fr tt))])
  refine Go.of (fun _ k => XS.istore X46.here hx rfl (hb hby at_301) rfl (l' := #[.val (.int p1), .val (.int p2), .val (.int p3), .val (.int p4), .val (.int kk), .val (.int ss), .val (.ref b1), .val (.ref b3), .val (.int fr), .val (.int tt), .val (.ref b25), .val (.ref b28), .val (.int (v0_47 kk ss fr tt))]) rfl k) ?_
  show Go p e below W T46 (mkF m 303 #[.val (.int p1), .val (.int p2), .val (.int p3), .val (.int p4), .val (.int kk), .val (.int ss), .val (.ref b1), .val (.ref b3), .val (.int fr), .val (.int tt), .val (.ref b25), .val (.ref b28), .val (.int (v0_47 kk ss fr tt))] [])
  refine Go.of (fun _ k => XS.iload X46.here hx rfl (hb hby at_303) rfl k) ?_
  show Go p e below W T46 (mkF m 305 #[.val (.int p1), .val (.int p2), .val (.int p3), .val (.int p4), .val (.int kk), .val (.int ss), .val (.ref b1), .val (.ref b3), .val (.int fr), .val (.int tt), .val (.ref b25), .val (.ref b28), .val (.int (v0_47 kk ss fr tt))] [(.int (v0_47 kk ss fr tt))])
  suffices G51 : ∀ T', Stand p l e room_1 s m #[(.int p1), (.int p2), (.int p3), (.int p4)] below meth c T' L28 5 22 → T'.heap = T28.heap → Go p e below W T' (mkF m 330 #[.val (.int p1), .val (.int p2), .val (.int p3), .val (.int p4), .val (.int kk), .val (.int ss), .val (.ref b1), .val (.ref b3), .val (.int fr), .val (.int tt), .val (.ref b25), .val (.ref b28), .val (.int (v0_47 kk ss fr tt))] [(.int (v0_52 kk ss fr tt))]) by
    by_cases c48 : (v0_47 kk ss fr tt) = (0 : Int32)
    · refine Go.of (fun _ k => XS.ifYes X46.here hx rfl (pc0 := 305) (pc' := 329) rfl (hb hby at_305) rfl (Jvm.Free.XT.i0_eq_t c48) (by decide) (by decide) k) ?_
      show Go p e below W T46 (mkF m 329 #[.val (.int p1), .val (.int p2), .val (.int p3), .val (.int p4), .val (.int kk), .val (.int ss), .val (.ref b1), .val (.ref b3), .val (.int fr), .val (.int tt), .val (.ref b25), .val (.ref b28), .val (.int (v0_47 kk ss fr tt))] [])
      refine Go.of (fun _ k => XS.iconst X46.here hx rfl (hb hby at_329) k) ?_
      have G51 := G51
      have q_v0_52 : (v0_52 kk ss fr tt) = (0 : Int32) := by rw [v0_52, if_pos c48]
      rw [q_v0_52] at G51
      exact G51 _ X46 e46
    · refine Go.of (fun _ k => XS.ifNo X46.here hx rfl (hb hby at_305) rfl (Jvm.Free.XT.i0_eq_f c48) k) ?_
      show Go p e below W T46 (mkF m 308 #[.val (.int p1), .val (.int p2), .val (.int p3), .val (.int p4), .val (.int kk), .val (.int ss), .val (.ref b1), .val (.ref b3), .val (.int fr), .val (.int tt), .val (.ref b25), .val (.ref b28), .val (.int (v0_47 kk ss fr tt))] [])
      refine Go.of (fun _ k => XS.aload X46.here hx rfl (hb hby at_308) rfl rfl k) ?_
      show Go p e below W T46 (mkF m 310 #[.val (.int p1), .val (.int p2), .val (.int p3), .val (.int p4), .val (.int kk), .val (.int ss), .val (.ref b1), .val (.ref b3), .val (.int fr), .val (.int tt), .val (.ref b25), .val (.ref b28), .val (.int (v0_47 kk ss fr tt))] [(.ref b28)])
      refine Go.of (fun _ k => XS.iconst X46.here hx rfl (hb hby at_310) k) ?_
      show Go p e below W T46 (mkF m 311 #[.val (.int p1), .val (.int p2), .val (.int p3), .val (.int p4), .val (.int kk), .val (.int ss), .val (.ref b1), .val (.ref b3), .val (.int fr), .val (.int tt), .val (.ref b25), .val (.ref b28), .val (.int (v0_47 kk ss fr tt))] [(.int (4 : Int32)), (.ref b28)])
      refine Go.iald X46 hx hZ e46 A_b28 ⟨by decide, by decide⟩ (hb hby at_311) ?_
      show Go p e below W T46 (mkF m 312 #[.val (.int p1), .val (.int p2), .val (.int p3), .val (.int p4), .val (.int kk), .val (.int ss), .val (.ref b1), .val (.ref b3), .val (.int fr), .val (.int tt), .val (.ref b25), .val (.ref b28), .val (.int (v0_47 kk ss fr tt))] [(.int ((f3_ao fr tt (w0_24 kk ss fr tt) (f1_np (w0_24 kk ss fr tt))) 4))])
      refine Go.of (fun _ k => XS.aload X46.here hx rfl (hb hby at_312) rfl rfl k) ?_
      show Go p e below W T46 (mkF m 314 #[.val (.int p1), .val (.int p2), .val (.int p3), .val (.int p4), .val (.int kk), .val (.int ss), .val (.ref b1), .val (.ref b3), .val (.int fr), .val (.int tt), .val (.ref b25), .val (.ref b28), .val (.int (v0_47 kk ss fr tt))] [(.ref b3), (.int ((f3_ao fr tt (w0_24 kk ss fr tt) (f1_np (w0_24 kk ss fr tt))) 4))])
      refine Go.of (fun _ k => XS.iload X46.here hx rfl (hb hby at_314) rfl k) ?_
      show Go p e below W T46 (mkF m 316 #[.val (.int p1), .val (.int p2), .val (.int p3), .val (.int p4), .val (.int kk), .val (.int ss), .val (.ref b1), .val (.ref b3), .val (.int fr), .val (.int tt), .val (.ref b25), .val (.ref b28), .val (.int (v0_47 kk ss fr tt))] [(.int fr), (.ref b3), (.int ((f3_ao fr tt (w0_24 kk ss fr tt) (f1_np (w0_24 kk ss fr tt))) 4))])
      refine Go.of (fun _ k => XS.iload X46.here hx rfl (hb hby at_316) rfl k) ?_
      show Go p e below W T46 (mkF m 318 #[.val (.int p1), .val (.int p2), .val (.int p3), .val (.int p4), .val (.int kk), .val (.int ss), .val (.ref b1), .val (.ref b3), .val (.int fr), .val (.int tt), .val (.ref b25), .val (.ref b28), .val (.int (v0_47 kk ss fr tt))] [(.int tt), (.int fr), (.ref b3), (.int ((f3_ao fr tt (w0_24 kk ss fr tt) (f1_np (w0_24 kk ss fr tt))) 4))])
      refine Go.of (fun _ k => XS.iconst X46.here hx rfl (hb hby at_318) k) ?_
      show Go p e below W T46 (mkF m 319 #[.val (.int p1), .val (.int p2), .val (.int p3), .val (.int p4), .val (.int kk), .val (.int ss), .val (.ref b1), .val (.ref b3), .val (.int fr), .val (.int tt), .val (.ref b25), .val (.ref b28), .val (.int (v0_47 kk ss fr tt))] [(.int (4 : Int32)), (.int tt), (.int fr), (.ref b3), (.int ((f3_ao fr tt (w0_24 kk ss fr tt) (f1_np (w0_24 kk ss fr tt))) 4))])
      refine Go.callS X46 hx hZ hown (hw _ (List.mem_of_getElem? (i := 34) rfl)) (hw _ (List.mem_of_getElem? (i := 35) rfl)) (hw _ (List.mem_of_getElem? (i := 36) rfl)) (hw _ (List.mem_of_getElem? (i := 37) rfl)) (by decide) e46 (rm5 l Z a0 hw [] b3 fr tt (4 : Int32) (w0_14 kk ss fr tt) T28.heap A_b3 rf ⟨by decide, by decide⟩) (V := 1) (by decide) (by decide) (by decide) (by decide) (by rw [hml]; rfl) (argsL := [(.ref b3), (.int fr), (.int tt), (.int (4 : Int32))]) (rest := [(.int ((f3_ao fr tt (w0_24 kk ss fr tt) (f1_np (w0_24 kk ss fr tt))) 4))]) rfl (lenOf pd___IIII_I rfl) rfl (Nat.le_of_ble_eq_true rfl) (hb hby at_319) ?_
      rintro T49 _ _ ⟨rfl, rfl, e49⟩ X49
      rw [List.append_nil] at X49
      show Go p e below W T49 (mkF m 322 #[.val (.int p1), .val (.int p2), .val (.int p3), .val (.int p4), .val (.int kk), .val (.int ss), .val (.ref b1), .val (.ref b3), .val (.int fr), .val (.int tt), .val (.ref b25), .val (.ref b28), .val (.int (v0_47 kk ss fr tt))] [(.int (f5 fr tt (4 : Int32) (w0_14 kk ss fr tt))), (.int ((f3_ao fr tt (w0_24 kk ss fr tt) (f1_np (w0_24 kk ss fr tt))) 4))])
      by_cases c50 : ((f3_ao fr tt (w0_24 kk ss fr tt) (f1_np (w0_24 kk ss fr tt))) 4) = (f5 fr tt (4 : Int32) (w0_14 kk ss fr tt))
      · refine Go.of (fun _ k => XS.icmpNo X49.here hx rfl (hb hby at_322) rfl (Jvm.Free.XT.ii_ne_f c50) k) ?_
        show Go p e below W T49 (mkF m 325 #[.val (.int p1), .val (.int p2), .val (.int p3), .val (.int p4), .val (.int kk), .val (.int ss), .val (.ref b1), .val (.ref b3), .val (.int fr), .val (.int tt), .val (.ref b25), .val (.ref b28), .val (.int (v0_47 kk ss fr tt))] [])
        refine Go.of (fun _ k => XS.iconst X49.here hx rfl (hb hby at_325) k) ?_
        show Go p e below W T49 (mkF m 326 #[.val (.int p1), .val (.int p2), .val (.int p3), .val (.int p4), .val (.int kk), .val (.int ss), .val (.ref b1), .val (.ref b3), .val (.int fr), .val (.int tt), .val (.ref b25), .val (.ref b28), .val (.int (v0_47 kk ss fr tt))] [(.int (1 : Int32))])
        refine Go.of (fun _ k => XS.goto X49.here hx rfl (pc0 := 326) (pc' := 330) rfl (hb hby at_326) (by decide) (by decide) k) ?_
        have G51 := G51
        have q_v0_52 : (v0_52 kk ss fr tt) = (1 : Int32) := by rw [v0_52, if_neg c48, if_pos c50]
        rw [q_v0_52] at G51
        exact G51 _ X49 e49
      · refine Go.of (fun _ k => XS.icmpYes X49.here hx rfl (pc0 := 322) (pc' := 329) rfl (hb hby at_322) rfl (Jvm.Free.XT.ii_ne_t c50) (by decide) (by decide) k) ?_
        show Go p e below W T49 (mkF m 329 #[.val (.int p1), .val (.int p2), .val (.int p3), .val (.int p4), .val (.int kk), .val (.int ss), .val (.ref b1), .val (.ref b3), .val (.int fr), .val (.int tt), .val (.ref b25), .val (.ref b28), .val (.int (v0_47 kk ss fr tt))] [])
        refine Go.of (fun _ k => XS.iconst X49.here hx rfl (hb hby at_329) k) ?_
        have G51 := G51
        have q_v0_52 : (v0_52 kk ss fr tt) = (0 : Int32) := by rw [v0_52, if_neg c48, if_neg c50]
        rw [q_v0_52] at G51
        exact G51 _ X49 e49
  intro T51 X51 e51
  show Go p e below W T51 (mkF m 330 #[.val (.int p1), .val (.int p2), .val (.int p3), .val (.int p4), .val (.int kk), .val (.int ss), .val (.ref b1), .val (.ref b3), .val (.int fr), .val (.int tt), .val (.ref b25), .val (.ref b28), .val (.int (v0_47 kk ss fr tt))] [(.int (v0_52 kk ss fr tt))])
  refine Go.of (fun _ k => XS.istore X51.here hx rfl (hb hby at_330) rfl (l' := #[.val (.int p1), .val (.int p2), .val (.int p3), .val (.int p4), .val (.int kk), .val (.int ss), .val (.ref b1), .val (.ref b3), .val (.int fr), .val (.int tt), .val (.ref b25), .val (.ref b28), .val (.int (v0_52 kk ss fr tt))]) rfl k) ?_
  show Go p e below W T51 (mkF m 332 #[.val (.int p1), .val (.int p2), .val (.int p3), .val (.int p4), .val (.int kk), .val (.int ss), .val (.ref b1), .val (.ref b3), .val (.int fr), .val (.int tt), .val (.ref b25), .val (.ref b28), .val (.int (v0_52 kk ss fr tt))] [])
  refine Go.of (fun _ k => XS.iload X51.here hx rfl (hb hby at_332) rfl k) ?_
  show Go p e below W T51 (mkF m 334 #[.val (.int p1), .val (.int p2), .val (.int p3), .val (.int p4), .val (.int kk), .val (.int ss), .val (.ref b1), .val (.ref b3), .val (.int fr), .val (.int tt), .val (.ref b25), .val (.ref b28), .val (.int (v0_52 kk ss fr tt))] [(.int (v0_52 kk ss fr tt))])
  suffices G57 : ∀ T', Stand p l e room_1 s m #[(.int p1), (.int p2), (.int p3), (.int p4)] below meth c T' L28 5 22 → T'.heap = T28.heap → Go p e below W T' (mkF m 362 #[.val (.int p1), .val (.int p2), .val (.int p3), .val (.int p4), .val (.int kk), .val (.int ss), .val (.ref b1), .val (.ref b3), .val (.int fr), .val (.int tt), .val (.ref b25), .val (.ref b28), .val (.int (v0_52 kk ss fr tt))] [(.int (v0_58 kk ss fr tt))]) by
    by_cases c53 : (v0_52 kk ss fr tt) = (0 : Int32)
    · refine Go.of (fun _ k => XS.ifYes X51.here hx rfl (pc0 := 334) (pc' := 361) rfl (hb hby at_334) rfl (Jvm.Free.XT.i0_eq_t c53) (by decide) (by decide) k) ?_
      show Go p e below W T51 (mkF m 361 #[.val (.int p1), .val (.int p2), .val (.int p3), .val (.int p4), .val (.int kk), .val (.int ss), .val (.ref b1), .val (.ref b3), .val (.int fr), .val (.int tt), .val (.ref b25), .val (.ref b28), .val (.int (v0_52 kk ss fr tt))] [])
      refine Go.of (fun _ k => XS.iconst X51.here hx rfl (hb hby at_361) k) ?_
      have G57 := G57
      have q_v0_58 : (v0_58 kk ss fr tt) = (0 : Int32) := by rw [v0_58, if_pos c53]
      rw [q_v0_58] at G57
      exact G57 _ X51 e51
    · refine Go.of (fun _ k => XS.ifNo X51.here hx rfl (hb hby at_334) rfl (Jvm.Free.XT.i0_eq_f c53) k) ?_
      show Go p e below W T51 (mkF m 337 #[.val (.int p1), .val (.int p2), .val (.int p3), .val (.int p4), .val (.int kk), .val (.int ss), .val (.ref b1), .val (.ref b3), .val (.int fr), .val (.int tt), .val (.ref b25), .val (.ref b28), .val (.int (v0_52 kk ss fr tt))] [])
      refine Go.of (fun _ k => XS.aload X51.here hx rfl (hb hby at_337) rfl rfl k) ?_
      show Go p e below W T51 (mkF m 339 #[.val (.int p1), .val (.int p2), .val (.int p3), .val (.int p4), .val (.int kk), .val (.int ss), .val (.ref b1), .val (.ref b3), .val (.int fr), .val (.int tt), .val (.ref b25), .val (.ref b28), .val (.int (v0_52 kk ss fr tt))] [(.ref b25)])
      refine Go.of (fun _ k => XS.aload X51.here hx rfl (hb hby at_339) rfl rfl k) ?_
      show Go p e below W T51 (mkF m 341 #[.val (.int p1), .val (.int p2), .val (.int p3), .val (.int p4), .val (.int kk), .val (.int ss), .val (.ref b1), .val (.ref b3), .val (.int fr), .val (.int tt), .val (.ref b25), .val (.ref b28), .val (.int (v0_52 kk ss fr tt))] [(.ref b3), (.ref b25)])
      refine Go.of (fun _ k => XS.iconst X51.here hx rfl (hb hby at_341) k) ?_
      show Go p e below W T51 (mkF m 342 #[.val (.int p1), .val (.int p2), .val (.int p3), .val (.int p4), .val (.int kk), .val (.int ss), .val (.ref b1), .val (.ref b3), .val (.int fr), .val (.int tt), .val (.ref b25), .val (.ref b28), .val (.int (v0_52 kk ss fr tt))] [(.int (0 : Int32)), (.ref b3), (.ref b25)])
      refine Go.iald X51 hx hZ e51 A_b3 ⟨by decide, by decide⟩ (hb hby at_342) ?_
      show Go p e below W T51 (mkF m 343 #[.val (.int p1), .val (.int p2), .val (.int p3), .val (.int p4), .val (.int kk), .val (.int ss), .val (.ref b1), .val (.ref b3), .val (.int fr), .val (.int tt), .val (.ref b25), .val (.ref b28), .val (.int (v0_52 kk ss fr tt))] [(.int (w0_14 kk ss fr tt 0)), (.ref b25)])
      refine Go.callV X51 hx hZ hown (hw _ (List.mem_of_getElem? (i := 38) rfl)) (hw _ (List.mem_of_getElem? (i := 39) rfl)) (hw _ (List.mem_of_getElem? (i := 41) rfl)) (hw _ (List.mem_of_getElem? (i := 40) rfl)) (hw _ (List.mem_of_getElem? (i := 4) rfl)) (hw _ (List.mem_of_getElem? (i := 42) rfl)) (by decide) e51 E_b25 (rm6 l Z a0 hw [] b25 (w0_14 kk ss fr tt 0) b26 (f3_aq fr tt (w0_24 kk ss fr tt) (f1_np (w0_24 kk ss fr tt))) T28.heap F_b25_position A_b26 ((own_w0_14 kk ss fr tt rk rs) 0 (⟨by decide, by decide⟩ : inb (0 : Int32) 5).2)) (V := 0) (by decide) (by decide) (by decide) (by decide) (by rw [hml]; rfl) (argsL := [(.int (w0_14 kk ss fr tt 0))]) (rest := []) rfl (lenOf pd__I_I rfl) rfl (Nat.le_of_ble_eq_true rfl) (hb hby at_343) ?_
      rintro T54 _ _ ⟨rfl, rfl, e54⟩ X54
      rw [List.append_nil] at X54
      show Go p e below W T54 (mkF m 346 #[.val (.int p1), .val (.int p2), .val (.int p3), .val (.int p4), .val (.int kk), .val (.int ss), .val (.ref b1), .val (.ref b3), .val (.int fr), .val (.int tt), .val (.ref b25), .val (.ref b28), .val (.int (v0_52 kk ss fr tt))] [(.int (f6 (w0_14 kk ss fr tt 0) (f3_aq fr tt (w0_24 kk ss fr tt) (f1_np (w0_24 kk ss fr tt)))))])
      refine Go.of (fun _ k => XS.iload X54.here hx rfl (hb hby at_346) rfl k) ?_
      show Go p e below W T54 (mkF m 348 #[.val (.int p1), .val (.int p2), .val (.int p3), .val (.int p4), .val (.int kk), .val (.int ss), .val (.ref b1), .val (.ref b3), .val (.int fr), .val (.int tt), .val (.ref b25), .val (.ref b28), .val (.int (v0_52 kk ss fr tt))] [(.int fr), (.int (f6 (w0_14 kk ss fr tt 0) (f3_aq fr tt (w0_24 kk ss fr tt) (f1_np (w0_24 kk ss fr tt)))))])
      refine Go.of (fun _ k => XS.iload X54.here hx rfl (hb hby at_348) rfl k) ?_
      show Go p e below W T54 (mkF m 350 #[.val (.int p1), .val (.int p2), .val (.int p3), .val (.int p4), .val (.int kk), .val (.int ss), .val (.ref b1), .val (.ref b3), .val (.int fr), .val (.int tt), .val (.ref b25), .val (.ref b28), .val (.int (v0_52 kk ss fr tt))] [(.int tt), (.int fr), (.int (f6 (w0_14 kk ss fr tt 0) (f3_aq fr tt (w0_24 kk ss fr tt) (f1_np (w0_24 kk ss fr tt)))))])
      refine Go.of (fun _ k => XS.iconst X54.here hx rfl (hb hby at_350) k) ?_
      show Go p e below W T54 (mkF m 351 #[.val (.int p1), .val (.int p2), .val (.int p3), .val (.int p4), .val (.int kk), .val (.int ss), .val (.ref b1), .val (.ref b3), .val (.int fr), .val (.int tt), .val (.ref b25), .val (.ref b28), .val (.int (v0_52 kk ss fr tt))] [(.int (0 : Int32)), (.int tt), (.int fr), (.int (f6 (w0_14 kk ss fr tt 0) (f3_aq fr tt (w0_24 kk ss fr tt) (f1_np (w0_24 kk ss fr tt)))))])
      refine Go.callP X54 hx hZ hown (hw _ (List.mem_of_getElem? (i := 43) rfl)) (hw _ (List.mem_of_getElem? (i := 44) rfl)) (hw _ (List.mem_of_getElem? (i := 36) rfl)) (hw _ (List.mem_of_getElem? (i := 45) rfl)) (by decide) e54 (rm7 l Z a0 hw [] fr tt (0 : Int32) T28.heap) (V := 1) (by decide) (by decide) rfl rfl (by decide) (by decide) (by rw [hml]; rfl) (argsL := [(.int fr), (.int tt), (.int (0 : Int32))]) (rest := [(.int (f6 (w0_14 kk ss fr tt 0) (f3_aq fr tt (w0_24 kk ss fr tt) (f1_np (w0_24 kk ss fr tt)))))]) rfl (lenOf pd__III_I rfl) rfl (Nat.le_of_ble_eq_true rfl) (hb hby at_351) ?_
      intro T55 X55 e55
      show Go p e below W T55 (mkF m 354 #[.val (.int p1), .val (.int p2), .val (.int p3), .val (.int p4), .val (.int kk), .val (.int ss), .val (.ref b1), .val (.ref b3), .val (.int fr), .val (.int tt), .val (.ref b25), .val (.ref b28), .val (.int (v0_52 kk ss fr tt))] [(.int (f7 fr tt (0 : Int32))), (.int (f6 (w0_14 kk ss fr tt 0) (f3_aq fr tt (w0_24 kk ss fr tt) (f1_np (w0_24 kk ss fr tt)))))])
      by_cases c56 : (f6 (w0_14 kk ss fr tt 0) (f3_aq fr tt (w0_24 kk ss fr tt) (f1_np (w0_24 kk ss fr tt)))) = (f7 fr tt (0 : Int32))
      · refine Go.of (fun _ k => XS.icmpNo X55.here hx rfl (hb hby at_354) rfl (Jvm.Free.XT.ii_ne_f c56) k) ?_
        show Go p e below W T55 (mkF m 357 #[.val (.int p1), .val (.int p2), .val (.int p3), .val (.int p4), .val (.int kk), .val (.int ss), .val (.ref b1), .val (.ref b3), .val (.int fr), .val (.int tt), .val (.ref b25), .val (.ref b28), .val (.int (v0_52 kk ss fr tt))] [])
        refine Go.of (fun _ k => XS.iconst X55.here hx rfl (hb hby at_357) k) ?_
        show Go p e below W T55 (mkF m 358 #[.val (.int p1), .val (.int p2), .val (.int p3), .val (.int p4), .val (.int kk), .val (.int ss), .val (.ref b1), .val (.ref b3), .val (.int fr), .val (.int tt), .val (.ref b25), .val (.ref b28), .val (.int (v0_52 kk ss fr tt))] [(.int (1 : Int32))])
        refine Go.of (fun _ k => XS.goto X55.here hx rfl (pc0 := 358) (pc' := 362) rfl (hb hby at_358) (by decide) (by decide) k) ?_
        have G57 := G57
        have q_v0_58 : (v0_58 kk ss fr tt) = (1 : Int32) := by rw [v0_58, if_neg c53, if_pos c56]
        rw [q_v0_58] at G57
        exact G57 _ X55 e55
      · refine Go.of (fun _ k => XS.icmpYes X55.here hx rfl (pc0 := 354) (pc' := 361) rfl (hb hby at_354) rfl (Jvm.Free.XT.ii_ne_t c56) (by decide) (by decide) k) ?_
        show Go p e below W T55 (mkF m 361 #[.val (.int p1), .val (.int p2), .val (.int p3), .val (.int p4), .val (.int kk), .val (.int ss), .val (.ref b1), .val (.ref b3), .val (.int fr), .val (.int tt), .val (.ref b25), .val (.ref b28), .val (.int (v0_52 kk ss fr tt))] [])
        refine Go.of (fun _ k => XS.iconst X55.here hx rfl (hb hby at_361) k) ?_
        have G57 := G57
        have q_v0_58 : (v0_58 kk ss fr tt) = (0 : Int32) := by rw [v0_58, if_neg c53, if_neg c56]
        rw [q_v0_58] at G57
        exact G57 _ X55 e55
  intro T57 X57 e57
  show Go p e below W T57 (mkF m 362 #[.val (.int p1), .val (.int p2), .val (.int p3), .val (.int p4), .val (.int kk), .val (.int ss), .val (.ref b1), .val (.ref b3), .val (.int fr), .val (.int tt), .val (.ref b25), .val (.ref b28), .val (.int (v0_52 kk ss fr tt))] [(.int (v0_58 kk ss fr tt))])
  refine Go.of (fun _ k => XS.istore X57.here hx rfl (hb hby at_362) rfl (l' := #[.val (.int p1), .val (.int p2), .val (.int p3), .val (.int p4), .val (.int kk), .val (.int ss), .val (.ref b1), .val (.ref b3), .val (.int fr), .val (.int tt), .val (.ref b25), .val (.ref b28), .val (.int (v0_58 kk ss fr tt))]) rfl k) ?_
  show Go p e below W T57 (mkF m 364 #[.val (.int p1), .val (.int p2), .val (.int p3), .val (.int p4), .val (.int kk), .val (.int ss), .val (.ref b1), .val (.ref b3), .val (.int fr), .val (.int tt), .val (.ref b25), .val (.ref b28), .val (.int (v0_58 kk ss fr tt))] [])
  refine Go.of (fun _ k => XS.iload X57.here hx rfl (hb hby at_364) rfl k) ?_
  show Go p e below W T57 (mkF m 366 #[.val (.int p1), .val (.int p2), .val (.int p3), .val (.int p4), .val (.int kk), .val (.int ss), .val (.ref b1), .val (.ref b3), .val (.int fr), .val (.int tt), .val (.ref b25), .val (.ref b28), .val (.int (v0_58 kk ss fr tt))] [(.int (v0_58 kk ss fr tt))])
  suffices G63 : ∀ T', Stand p l e room_1 s m #[(.int p1), (.int p2), (.int p3), (.int p4)] below meth c T' L28 5 22 → T'.heap = T28.heap → Go p e below W T' (mkF m 394 #[.val (.int p1), .val (.int p2), .val (.int p3), .val (.int p4), .val (.int kk), .val (.int ss), .val (.ref b1), .val (.ref b3), .val (.int fr), .val (.int tt), .val (.ref b25), .val (.ref b28), .val (.int (v0_58 kk ss fr tt))] [(.int (v0_64 kk ss fr tt))]) by
    by_cases c59 : (v0_58 kk ss fr tt) = (0 : Int32)
    · refine Go.of (fun _ k => XS.ifYes X57.here hx rfl (pc0 := 366) (pc' := 393) rfl (hb hby at_366) rfl (Jvm.Free.XT.i0_eq_t c59) (by decide) (by decide) k) ?_
      show Go p e below W T57 (mkF m 393 #[.val (.int p1), .val (.int p2), .val (.int p3), .val (.int p4), .val (.int kk), .val (.int ss), .val (.ref b1), .val (.ref b3), .val (.int fr), .val (.int tt), .val (.ref b25), .val (.ref b28), .val (.int (v0_58 kk ss fr tt))] [])
      refine Go.of (fun _ k => XS.iconst X57.here hx rfl (hb hby at_393) k) ?_
      have G63 := G63
      have q_v0_64 : (v0_64 kk ss fr tt) = (0 : Int32) := by rw [v0_64, if_pos c59]
      rw [q_v0_64] at G63
      exact G63 _ X57 e57
    · refine Go.of (fun _ k => XS.ifNo X57.here hx rfl (hb hby at_366) rfl (Jvm.Free.XT.i0_eq_f c59) k) ?_
      show Go p e below W T57 (mkF m 369 #[.val (.int p1), .val (.int p2), .val (.int p3), .val (.int p4), .val (.int kk), .val (.int ss), .val (.ref b1), .val (.ref b3), .val (.int fr), .val (.int tt), .val (.ref b25), .val (.ref b28), .val (.int (v0_58 kk ss fr tt))] [])
      refine Go.of (fun _ k => XS.aload X57.here hx rfl (hb hby at_369) rfl rfl k) ?_
      show Go p e below W T57 (mkF m 371 #[.val (.int p1), .val (.int p2), .val (.int p3), .val (.int p4), .val (.int kk), .val (.int ss), .val (.ref b1), .val (.ref b3), .val (.int fr), .val (.int tt), .val (.ref b25), .val (.ref b28), .val (.int (v0_58 kk ss fr tt))] [(.ref b25)])
      refine Go.of (fun _ k => XS.aload X57.here hx rfl (hb hby at_371) rfl rfl k) ?_
      show Go p e below W T57 (mkF m 373 #[.val (.int p1), .val (.int p2), .val (.int p3), .val (.int p4), .val (.int kk), .val (.int ss), .val (.ref b1), .val (.ref b3), .val (.int fr), .val (.int tt), .val (.ref b25), .val (.ref b28), .val (.int (v0_58 kk ss fr tt))] [(.ref b3), (.ref b25)])
      refine Go.of (fun _ k => XS.iconst X57.here hx rfl (hb hby at_373) k) ?_
      show Go p e below W T57 (mkF m 374 #[.val (.int p1), .val (.int p2), .val (.int p3), .val (.int p4), .val (.int kk), .val (.int ss), .val (.ref b1), .val (.ref b3), .val (.int fr), .val (.int tt), .val (.ref b25), .val (.ref b28), .val (.int (v0_58 kk ss fr tt))] [(.int (1 : Int32)), (.ref b3), (.ref b25)])
      refine Go.iald X57 hx hZ e57 A_b3 ⟨by decide, by decide⟩ (hb hby at_374) ?_
      show Go p e below W T57 (mkF m 375 #[.val (.int p1), .val (.int p2), .val (.int p3), .val (.int p4), .val (.int kk), .val (.int ss), .val (.ref b1), .val (.ref b3), .val (.int fr), .val (.int tt), .val (.ref b25), .val (.ref b28), .val (.int (v0_58 kk ss fr tt))] [(.int (w0_14 kk ss fr tt 1)), (.ref b25)])
      refine Go.callV X57 hx hZ hown (hw _ (List.mem_of_getElem? (i := 38) rfl)) (hw _ (List.mem_of_getElem? (i := 39) rfl)) (hw _ (List.mem_of_getElem? (i := 41) rfl)) (hw _ (List.mem_of_getElem? (i := 40) rfl)) (hw _ (List.mem_of_getElem? (i := 4) rfl)) (hw _ (List.mem_of_getElem? (i := 42) rfl)) (by decide) e57 E_b25 (rm6 l Z a0 hw [] b25 (w0_14 kk ss fr tt 1) b26 (f3_aq fr tt (w0_24 kk ss fr tt) (f1_np (w0_24 kk ss fr tt))) T28.heap F_b25_position A_b26 ((own_w0_14 kk ss fr tt rk rs) 1 (⟨by decide, by decide⟩ : inb (1 : Int32) 5).2)) (V := 0) (by decide) (by decide) (by decide) (by decide) (by rw [hml]; rfl) (argsL := [(.int (w0_14 kk ss fr tt 1))]) (rest := []) rfl (lenOf pd__I_I rfl) rfl (Nat.le_of_ble_eq_true rfl) (hb hby at_375) ?_
      rintro T60 _ _ ⟨rfl, rfl, e60⟩ X60
      rw [List.append_nil] at X60
      show Go p e below W T60 (mkF m 378 #[.val (.int p1), .val (.int p2), .val (.int p3), .val (.int p4), .val (.int kk), .val (.int ss), .val (.ref b1), .val (.ref b3), .val (.int fr), .val (.int tt), .val (.ref b25), .val (.ref b28), .val (.int (v0_58 kk ss fr tt))] [(.int (f6 (w0_14 kk ss fr tt 1) (f3_aq fr tt (w0_24 kk ss fr tt) (f1_np (w0_24 kk ss fr tt)))))])
      refine Go.of (fun _ k => XS.iload X60.here hx rfl (hb hby at_378) rfl k) ?_
      show Go p e below W T60 (mkF m 380 #[.val (.int p1), .val (.int p2), .val (.int p3), .val (.int p4), .val (.int kk), .val (.int ss), .val (.ref b1), .val (.ref b3), .val (.int fr), .val (.int tt), .val (.ref b25), .val (.ref b28), .val (.int (v0_58 kk ss fr tt))] [(.int fr), (.int (f6 (w0_14 kk ss fr tt 1) (f3_aq fr tt (w0_24 kk ss fr tt) (f1_np (w0_24 kk ss fr tt)))))])
      refine Go.of (fun _ k => XS.iload X60.here hx rfl (hb hby at_380) rfl k) ?_
      show Go p e below W T60 (mkF m 382 #[.val (.int p1), .val (.int p2), .val (.int p3), .val (.int p4), .val (.int kk), .val (.int ss), .val (.ref b1), .val (.ref b3), .val (.int fr), .val (.int tt), .val (.ref b25), .val (.ref b28), .val (.int (v0_58 kk ss fr tt))] [(.int tt), (.int fr), (.int (f6 (w0_14 kk ss fr tt 1) (f3_aq fr tt (w0_24 kk ss fr tt) (f1_np (w0_24 kk ss fr tt)))))])
      refine Go.of (fun _ k => XS.iconst X60.here hx rfl (hb hby at_382) k) ?_
      show Go p e below W T60 (mkF m 383 #[.val (.int p1), .val (.int p2), .val (.int p3), .val (.int p4), .val (.int kk), .val (.int ss), .val (.ref b1), .val (.ref b3), .val (.int fr), .val (.int tt), .val (.ref b25), .val (.ref b28), .val (.int (v0_58 kk ss fr tt))] [(.int (1 : Int32)), (.int tt), (.int fr), (.int (f6 (w0_14 kk ss fr tt 1) (f3_aq fr tt (w0_24 kk ss fr tt) (f1_np (w0_24 kk ss fr tt)))))])
      refine Go.callP X60 hx hZ hown (hw _ (List.mem_of_getElem? (i := 43) rfl)) (hw _ (List.mem_of_getElem? (i := 44) rfl)) (hw _ (List.mem_of_getElem? (i := 36) rfl)) (hw _ (List.mem_of_getElem? (i := 45) rfl)) (by decide) e60 (rm7 l Z a0 hw [] fr tt (1 : Int32) T28.heap) (V := 1) (by decide) (by decide) rfl rfl (by decide) (by decide) (by rw [hml]; rfl) (argsL := [(.int fr), (.int tt), (.int (1 : Int32))]) (rest := [(.int (f6 (w0_14 kk ss fr tt 1) (f3_aq fr tt (w0_24 kk ss fr tt) (f1_np (w0_24 kk ss fr tt)))))]) rfl (lenOf pd__III_I rfl) rfl (Nat.le_of_ble_eq_true rfl) (hb hby at_383) ?_
      intro T61 X61 e61
      show Go p e below W T61 (mkF m 386 #[.val (.int p1), .val (.int p2), .val (.int p3), .val (.int p4), .val (.int kk), .val (.int ss), .val (.ref b1), .val (.ref b3), .val (.int fr), .val (.int tt), .val (.ref b25), .val (.ref b28), .val (.int (v0_58 kk ss fr tt))] [(.int (f7 fr tt (1 : Int32))), (.int (f6 (w0_14 kk ss fr tt 1) (f3_aq fr tt (w0_24 kk ss fr tt) (f1_np (w0_24 kk ss fr tt)))))])
      by_cases c62 : (f6 (w0_14 kk ss fr tt 1) (f3_aq fr tt (w0_24 kk ss fr tt) (f1_np (w0_24 kk ss fr tt)))) = (f7 fr tt (1 : Int32))
      · refine Go.of (fun _ k => XS.icmpNo X61.here hx rfl (hb hby at_386) rfl (Jvm.Free.XT.ii_ne_f c62) k) ?_
        show Go p e below W T61 (mkF m 389 #[.val (.int p1), .val (.int p2), .val (.int p3), .val (.int p4), .val (.int kk), .val (.int ss), .val (.ref b1), .val (.ref b3), .val (.int fr), .val (.int tt), .val (.ref b25), .val (.ref b28), .val (.int (v0_58 kk ss fr tt))] [])
        refine Go.of (fun _ k => XS.iconst X61.here hx rfl (hb hby at_389) k) ?_
        show Go p e below W T61 (mkF m 390 #[.val (.int p1), .val (.int p2), .val (.int p3), .val (.int p4), .val (.int kk), .val (.int ss), .val (.ref b1), .val (.ref b3), .val (.int fr), .val (.int tt), .val (.ref b25), .val (.ref b28), .val (.int (v0_58 kk ss fr tt))] [(.int (1 : Int32))])
        refine Go.of (fun _ k => XS.goto X61.here hx rfl (pc0 := 390) (pc' := 394) rfl (hb hby at_390) (by decide) (by decide) k) ?_
        have G63 := G63
        have q_v0_64 : (v0_64 kk ss fr tt) = (1 : Int32) := by rw [v0_64, if_neg c59, if_pos c62]
        rw [q_v0_64] at G63
        exact G63 _ X61 e61
      · refine Go.of (fun _ k => XS.icmpYes X61.here hx rfl (pc0 := 386) (pc' := 393) rfl (hb hby at_386) rfl (Jvm.Free.XT.ii_ne_t c62) (by decide) (by decide) k) ?_
        show Go p e below W T61 (mkF m 393 #[.val (.int p1), .val (.int p2), .val (.int p3), .val (.int p4), .val (.int kk), .val (.int ss), .val (.ref b1), .val (.ref b3), .val (.int fr), .val (.int tt), .val (.ref b25), .val (.ref b28), .val (.int (v0_58 kk ss fr tt))] [])
        refine Go.of (fun _ k => XS.iconst X61.here hx rfl (hb hby at_393) k) ?_
        have G63 := G63
        have q_v0_64 : (v0_64 kk ss fr tt) = (0 : Int32) := by rw [v0_64, if_neg c59, if_neg c62]
        rw [q_v0_64] at G63
        exact G63 _ X61 e61
  intro T63 X63 e63
  show Go p e below W T63 (mkF m 394 #[.val (.int p1), .val (.int p2), .val (.int p3), .val (.int p4), .val (.int kk), .val (.int ss), .val (.ref b1), .val (.ref b3), .val (.int fr), .val (.int tt), .val (.ref b25), .val (.ref b28), .val (.int (v0_58 kk ss fr tt))] [(.int (v0_64 kk ss fr tt))])
  refine Go.of (fun _ k => XS.istore X63.here hx rfl (hb hby at_394) rfl (l' := #[.val (.int p1), .val (.int p2), .val (.int p3), .val (.int p4), .val (.int kk), .val (.int ss), .val (.ref b1), .val (.ref b3), .val (.int fr), .val (.int tt), .val (.ref b25), .val (.ref b28), .val (.int (v0_64 kk ss fr tt))]) rfl k) ?_
  show Go p e below W T63 (mkF m 396 #[.val (.int p1), .val (.int p2), .val (.int p3), .val (.int p4), .val (.int kk), .val (.int ss), .val (.ref b1), .val (.ref b3), .val (.int fr), .val (.int tt), .val (.ref b25), .val (.ref b28), .val (.int (v0_64 kk ss fr tt))] [])
  refine Go.of (fun _ k => XS.iload X63.here hx rfl (hb hby at_396) rfl k) ?_
  show Go p e below W T63 (mkF m 398 #[.val (.int p1), .val (.int p2), .val (.int p3), .val (.int p4), .val (.int kk), .val (.int ss), .val (.ref b1), .val (.ref b3), .val (.int fr), .val (.int tt), .val (.ref b25), .val (.ref b28), .val (.int (v0_64 kk ss fr tt))] [(.int (v0_64 kk ss fr tt))])
  suffices G69 : ∀ T', Stand p l e room_1 s m #[(.int p1), (.int p2), (.int p3), (.int p4)] below meth c T' L28 5 22 → T'.heap = T28.heap → Go p e below W T' (mkF m 426 #[.val (.int p1), .val (.int p2), .val (.int p3), .val (.int p4), .val (.int kk), .val (.int ss), .val (.ref b1), .val (.ref b3), .val (.int fr), .val (.int tt), .val (.ref b25), .val (.ref b28), .val (.int (v0_64 kk ss fr tt))] [(.int (v0_70 kk ss fr tt))]) by
    by_cases c65 : (v0_64 kk ss fr tt) = (0 : Int32)
    · refine Go.of (fun _ k => XS.ifYes X63.here hx rfl (pc0 := 398) (pc' := 425) rfl (hb hby at_398) rfl (Jvm.Free.XT.i0_eq_t c65) (by decide) (by decide) k) ?_
      show Go p e below W T63 (mkF m 425 #[.val (.int p1), .val (.int p2), .val (.int p3), .val (.int p4), .val (.int kk), .val (.int ss), .val (.ref b1), .val (.ref b3), .val (.int fr), .val (.int tt), .val (.ref b25), .val (.ref b28), .val (.int (v0_64 kk ss fr tt))] [])
      refine Go.of (fun _ k => XS.iconst X63.here hx rfl (hb hby at_425) k) ?_
      have G69 := G69
      have q_v0_70 : (v0_70 kk ss fr tt) = (0 : Int32) := by rw [v0_70, if_pos c65]
      rw [q_v0_70] at G69
      exact G69 _ X63 e63
    · refine Go.of (fun _ k => XS.ifNo X63.here hx rfl (hb hby at_398) rfl (Jvm.Free.XT.i0_eq_f c65) k) ?_
      show Go p e below W T63 (mkF m 401 #[.val (.int p1), .val (.int p2), .val (.int p3), .val (.int p4), .val (.int kk), .val (.int ss), .val (.ref b1), .val (.ref b3), .val (.int fr), .val (.int tt), .val (.ref b25), .val (.ref b28), .val (.int (v0_64 kk ss fr tt))] [])
      refine Go.of (fun _ k => XS.aload X63.here hx rfl (hb hby at_401) rfl rfl k) ?_
      show Go p e below W T63 (mkF m 403 #[.val (.int p1), .val (.int p2), .val (.int p3), .val (.int p4), .val (.int kk), .val (.int ss), .val (.ref b1), .val (.ref b3), .val (.int fr), .val (.int tt), .val (.ref b25), .val (.ref b28), .val (.int (v0_64 kk ss fr tt))] [(.ref b25)])
      refine Go.of (fun _ k => XS.aload X63.here hx rfl (hb hby at_403) rfl rfl k) ?_
      show Go p e below W T63 (mkF m 405 #[.val (.int p1), .val (.int p2), .val (.int p3), .val (.int p4), .val (.int kk), .val (.int ss), .val (.ref b1), .val (.ref b3), .val (.int fr), .val (.int tt), .val (.ref b25), .val (.ref b28), .val (.int (v0_64 kk ss fr tt))] [(.ref b3), (.ref b25)])
      refine Go.of (fun _ k => XS.iconst X63.here hx rfl (hb hby at_405) k) ?_
      show Go p e below W T63 (mkF m 406 #[.val (.int p1), .val (.int p2), .val (.int p3), .val (.int p4), .val (.int kk), .val (.int ss), .val (.ref b1), .val (.ref b3), .val (.int fr), .val (.int tt), .val (.ref b25), .val (.ref b28), .val (.int (v0_64 kk ss fr tt))] [(.int (2 : Int32)), (.ref b3), (.ref b25)])
      refine Go.iald X63 hx hZ e63 A_b3 ⟨by decide, by decide⟩ (hb hby at_406) ?_
      show Go p e below W T63 (mkF m 407 #[.val (.int p1), .val (.int p2), .val (.int p3), .val (.int p4), .val (.int kk), .val (.int ss), .val (.ref b1), .val (.ref b3), .val (.int fr), .val (.int tt), .val (.ref b25), .val (.ref b28), .val (.int (v0_64 kk ss fr tt))] [(.int (w0_14 kk ss fr tt 2)), (.ref b25)])
      refine Go.callV X63 hx hZ hown (hw _ (List.mem_of_getElem? (i := 38) rfl)) (hw _ (List.mem_of_getElem? (i := 39) rfl)) (hw _ (List.mem_of_getElem? (i := 41) rfl)) (hw _ (List.mem_of_getElem? (i := 40) rfl)) (hw _ (List.mem_of_getElem? (i := 4) rfl)) (hw _ (List.mem_of_getElem? (i := 42) rfl)) (by decide) e63 E_b25 (rm6 l Z a0 hw [] b25 (w0_14 kk ss fr tt 2) b26 (f3_aq fr tt (w0_24 kk ss fr tt) (f1_np (w0_24 kk ss fr tt))) T28.heap F_b25_position A_b26 ((own_w0_14 kk ss fr tt rk rs) 2 (⟨by decide, by decide⟩ : inb (2 : Int32) 5).2)) (V := 0) (by decide) (by decide) (by decide) (by decide) (by rw [hml]; rfl) (argsL := [(.int (w0_14 kk ss fr tt 2))]) (rest := []) rfl (lenOf pd__I_I rfl) rfl (Nat.le_of_ble_eq_true rfl) (hb hby at_407) ?_
      rintro T66 _ _ ⟨rfl, rfl, e66⟩ X66
      rw [List.append_nil] at X66
      show Go p e below W T66 (mkF m 410 #[.val (.int p1), .val (.int p2), .val (.int p3), .val (.int p4), .val (.int kk), .val (.int ss), .val (.ref b1), .val (.ref b3), .val (.int fr), .val (.int tt), .val (.ref b25), .val (.ref b28), .val (.int (v0_64 kk ss fr tt))] [(.int (f6 (w0_14 kk ss fr tt 2) (f3_aq fr tt (w0_24 kk ss fr tt) (f1_np (w0_24 kk ss fr tt)))))])
      refine Go.of (fun _ k => XS.iload X66.here hx rfl (hb hby at_410) rfl k) ?_
      show Go p e below W T66 (mkF m 412 #[.val (.int p1), .val (.int p2), .val (.int p3), .val (.int p4), .val (.int kk), .val (.int ss), .val (.ref b1), .val (.ref b3), .val (.int fr), .val (.int tt), .val (.ref b25), .val (.ref b28), .val (.int (v0_64 kk ss fr tt))] [(.int fr), (.int (f6 (w0_14 kk ss fr tt 2) (f3_aq fr tt (w0_24 kk ss fr tt) (f1_np (w0_24 kk ss fr tt)))))])
      refine Go.of (fun _ k => XS.iload X66.here hx rfl (hb hby at_412) rfl k) ?_
      show Go p e below W T66 (mkF m 414 #[.val (.int p1), .val (.int p2), .val (.int p3), .val (.int p4), .val (.int kk), .val (.int ss), .val (.ref b1), .val (.ref b3), .val (.int fr), .val (.int tt), .val (.ref b25), .val (.ref b28), .val (.int (v0_64 kk ss fr tt))] [(.int tt), (.int fr), (.int (f6 (w0_14 kk ss fr tt 2) (f3_aq fr tt (w0_24 kk ss fr tt) (f1_np (w0_24 kk ss fr tt)))))])
      refine Go.of (fun _ k => XS.iconst X66.here hx rfl (hb hby at_414) k) ?_
      show Go p e below W T66 (mkF m 415 #[.val (.int p1), .val (.int p2), .val (.int p3), .val (.int p4), .val (.int kk), .val (.int ss), .val (.ref b1), .val (.ref b3), .val (.int fr), .val (.int tt), .val (.ref b25), .val (.ref b28), .val (.int (v0_64 kk ss fr tt))] [(.int (2 : Int32)), (.int tt), (.int fr), (.int (f6 (w0_14 kk ss fr tt 2) (f3_aq fr tt (w0_24 kk ss fr tt) (f1_np (w0_24 kk ss fr tt)))))])
      refine Go.callP X66 hx hZ hown (hw _ (List.mem_of_getElem? (i := 43) rfl)) (hw _ (List.mem_of_getElem? (i := 44) rfl)) (hw _ (List.mem_of_getElem? (i := 36) rfl)) (hw _ (List.mem_of_getElem? (i := 45) rfl)) (by decide) e66 (rm7 l Z a0 hw [] fr tt (2 : Int32) T28.heap) (V := 1) (by decide) (by decide) rfl rfl (by decide) (by decide) (by rw [hml]; rfl) (argsL := [(.int fr), (.int tt), (.int (2 : Int32))]) (rest := [(.int (f6 (w0_14 kk ss fr tt 2) (f3_aq fr tt (w0_24 kk ss fr tt) (f1_np (w0_24 kk ss fr tt)))))]) rfl (lenOf pd__III_I rfl) rfl (Nat.le_of_ble_eq_true rfl) (hb hby at_415) ?_
      intro T67 X67 e67
      show Go p e below W T67 (mkF m 418 #[.val (.int p1), .val (.int p2), .val (.int p3), .val (.int p4), .val (.int kk), .val (.int ss), .val (.ref b1), .val (.ref b3), .val (.int fr), .val (.int tt), .val (.ref b25), .val (.ref b28), .val (.int (v0_64 kk ss fr tt))] [(.int (f7 fr tt (2 : Int32))), (.int (f6 (w0_14 kk ss fr tt 2) (f3_aq fr tt (w0_24 kk ss fr tt) (f1_np (w0_24 kk ss fr tt)))))])
      by_cases c68 : (f6 (w0_14 kk ss fr tt 2) (f3_aq fr tt (w0_24 kk ss fr tt) (f1_np (w0_24 kk ss fr tt)))) = (f7 fr tt (2 : Int32))
      · refine Go.of (fun _ k => XS.icmpNo X67.here hx rfl (hb hby at_418) rfl (Jvm.Free.XT.ii_ne_f c68) k) ?_
        show Go p e below W T67 (mkF m 421 #[.val (.int p1), .val (.int p2), .val (.int p3), .val (.int p4), .val (.int kk), .val (.int ss), .val (.ref b1), .val (.ref b3), .val (.int fr), .val (.int tt), .val (.ref b25), .val (.ref b28), .val (.int (v0_64 kk ss fr tt))] [])
        refine Go.of (fun _ k => XS.iconst X67.here hx rfl (hb hby at_421) k) ?_
        show Go p e below W T67 (mkF m 422 #[.val (.int p1), .val (.int p2), .val (.int p3), .val (.int p4), .val (.int kk), .val (.int ss), .val (.ref b1), .val (.ref b3), .val (.int fr), .val (.int tt), .val (.ref b25), .val (.ref b28), .val (.int (v0_64 kk ss fr tt))] [(.int (1 : Int32))])
        refine Go.of (fun _ k => XS.goto X67.here hx rfl (pc0 := 422) (pc' := 426) rfl (hb hby at_422) (by decide) (by decide) k) ?_
        have G69 := G69
        have q_v0_70 : (v0_70 kk ss fr tt) = (1 : Int32) := by rw [v0_70, if_neg c65, if_pos c68]
        rw [q_v0_70] at G69
        exact G69 _ X67 e67
      · refine Go.of (fun _ k => XS.icmpYes X67.here hx rfl (pc0 := 418) (pc' := 425) rfl (hb hby at_418) rfl (Jvm.Free.XT.ii_ne_t c68) (by decide) (by decide) k) ?_
        show Go p e below W T67 (mkF m 425 #[.val (.int p1), .val (.int p2), .val (.int p3), .val (.int p4), .val (.int kk), .val (.int ss), .val (.ref b1), .val (.ref b3), .val (.int fr), .val (.int tt), .val (.ref b25), .val (.ref b28), .val (.int (v0_64 kk ss fr tt))] [])
        refine Go.of (fun _ k => XS.iconst X67.here hx rfl (hb hby at_425) k) ?_
        have G69 := G69
        have q_v0_70 : (v0_70 kk ss fr tt) = (0 : Int32) := by rw [v0_70, if_neg c65, if_neg c68]
        rw [q_v0_70] at G69
        exact G69 _ X67 e67
  intro T69 X69 e69
  show Go p e below W T69 (mkF m 426 #[.val (.int p1), .val (.int p2), .val (.int p3), .val (.int p4), .val (.int kk), .val (.int ss), .val (.ref b1), .val (.ref b3), .val (.int fr), .val (.int tt), .val (.ref b25), .val (.ref b28), .val (.int (v0_64 kk ss fr tt))] [(.int (v0_70 kk ss fr tt))])
  refine Go.of (fun _ k => XS.istore X69.here hx rfl (hb hby at_426) rfl (l' := #[.val (.int p1), .val (.int p2), .val (.int p3), .val (.int p4), .val (.int kk), .val (.int ss), .val (.ref b1), .val (.ref b3), .val (.int fr), .val (.int tt), .val (.ref b25), .val (.ref b28), .val (.int (v0_70 kk ss fr tt))]) rfl k) ?_
  show Go p e below W T69 (mkF m 428 #[.val (.int p1), .val (.int p2), .val (.int p3), .val (.int p4), .val (.int kk), .val (.int ss), .val (.ref b1), .val (.ref b3), .val (.int fr), .val (.int tt), .val (.ref b25), .val (.ref b28), .val (.int (v0_70 kk ss fr tt))] [])
  refine Go.of (fun _ k => XS.iload X69.here hx rfl (hb hby at_428) rfl k) ?_
  show Go p e below W T69 (mkF m 430 #[.val (.int p1), .val (.int p2), .val (.int p3), .val (.int p4), .val (.int kk), .val (.int ss), .val (.ref b1), .val (.ref b3), .val (.int fr), .val (.int tt), .val (.ref b25), .val (.ref b28), .val (.int (v0_70 kk ss fr tt))] [(.int (v0_70 kk ss fr tt))])
  suffices G75 : ∀ T', Stand p l e room_1 s m #[(.int p1), (.int p2), (.int p3), (.int p4)] below meth c T' L28 5 22 → T'.heap = T28.heap → Go p e below W T' (mkF m 458 #[.val (.int p1), .val (.int p2), .val (.int p3), .val (.int p4), .val (.int kk), .val (.int ss), .val (.ref b1), .val (.ref b3), .val (.int fr), .val (.int tt), .val (.ref b25), .val (.ref b28), .val (.int (v0_70 kk ss fr tt))] [(.int (v0_76 kk ss fr tt))]) by
    by_cases c71 : (v0_70 kk ss fr tt) = (0 : Int32)
    · refine Go.of (fun _ k => XS.ifYes X69.here hx rfl (pc0 := 430) (pc' := 457) rfl (hb hby at_430) rfl (Jvm.Free.XT.i0_eq_t c71) (by decide) (by decide) k) ?_
      show Go p e below W T69 (mkF m 457 #[.val (.int p1), .val (.int p2), .val (.int p3), .val (.int p4), .val (.int kk), .val (.int ss), .val (.ref b1), .val (.ref b3), .val (.int fr), .val (.int tt), .val (.ref b25), .val (.ref b28), .val (.int (v0_70 kk ss fr tt))] [])
      refine Go.of (fun _ k => XS.iconst X69.here hx rfl (hb hby at_457) k) ?_
      have G75 := G75
      have q_v0_76 : (v0_76 kk ss fr tt) = (0 : Int32) := by rw [v0_76, if_pos c71]
      rw [q_v0_76] at G75
      exact G75 _ X69 e69
    · refine Go.of (fun _ k => XS.ifNo X69.here hx rfl (hb hby at_430) rfl (Jvm.Free.XT.i0_eq_f c71) k) ?_
      show Go p e below W T69 (mkF m 433 #[.val (.int p1), .val (.int p2), .val (.int p3), .val (.int p4), .val (.int kk), .val (.int ss), .val (.ref b1), .val (.ref b3), .val (.int fr), .val (.int tt), .val (.ref b25), .val (.ref b28), .val (.int (v0_70 kk ss fr tt))] [])
      refine Go.of (fun _ k => XS.aload X69.here hx rfl (hb hby at_433) rfl rfl k) ?_
      show Go p e below W T69 (mkF m 435 #[.val (.int p1), .val (.int p2), .val (.int p3), .val (.int p4), .val (.int kk), .val (.int ss), .val (.ref b1), .val (.ref b3), .val (.int fr), .val (.int tt), .val (.ref b25), .val (.ref b28), .val (.int (v0_70 kk ss fr tt))] [(.ref b25)])
      refine Go.of (fun _ k => XS.aload X69.here hx rfl (hb hby at_435) rfl rfl k) ?_
      show Go p e below W T69 (mkF m 437 #[.val (.int p1), .val (.int p2), .val (.int p3), .val (.int p4), .val (.int kk), .val (.int ss), .val (.ref b1), .val (.ref b3), .val (.int fr), .val (.int tt), .val (.ref b25), .val (.ref b28), .val (.int (v0_70 kk ss fr tt))] [(.ref b3), (.ref b25)])
      refine Go.of (fun _ k => XS.iconst X69.here hx rfl (hb hby at_437) k) ?_
      show Go p e below W T69 (mkF m 438 #[.val (.int p1), .val (.int p2), .val (.int p3), .val (.int p4), .val (.int kk), .val (.int ss), .val (.ref b1), .val (.ref b3), .val (.int fr), .val (.int tt), .val (.ref b25), .val (.ref b28), .val (.int (v0_70 kk ss fr tt))] [(.int (3 : Int32)), (.ref b3), (.ref b25)])
      refine Go.iald X69 hx hZ e69 A_b3 ⟨by decide, by decide⟩ (hb hby at_438) ?_
      show Go p e below W T69 (mkF m 439 #[.val (.int p1), .val (.int p2), .val (.int p3), .val (.int p4), .val (.int kk), .val (.int ss), .val (.ref b1), .val (.ref b3), .val (.int fr), .val (.int tt), .val (.ref b25), .val (.ref b28), .val (.int (v0_70 kk ss fr tt))] [(.int (w0_14 kk ss fr tt 3)), (.ref b25)])
      refine Go.callV X69 hx hZ hown (hw _ (List.mem_of_getElem? (i := 38) rfl)) (hw _ (List.mem_of_getElem? (i := 39) rfl)) (hw _ (List.mem_of_getElem? (i := 41) rfl)) (hw _ (List.mem_of_getElem? (i := 40) rfl)) (hw _ (List.mem_of_getElem? (i := 4) rfl)) (hw _ (List.mem_of_getElem? (i := 42) rfl)) (by decide) e69 E_b25 (rm6 l Z a0 hw [] b25 (w0_14 kk ss fr tt 3) b26 (f3_aq fr tt (w0_24 kk ss fr tt) (f1_np (w0_24 kk ss fr tt))) T28.heap F_b25_position A_b26 ((own_w0_14 kk ss fr tt rk rs) 3 (⟨by decide, by decide⟩ : inb (3 : Int32) 5).2)) (V := 0) (by decide) (by decide) (by decide) (by decide) (by rw [hml]; rfl) (argsL := [(.int (w0_14 kk ss fr tt 3))]) (rest := []) rfl (lenOf pd__I_I rfl) rfl (Nat.le_of_ble_eq_true rfl) (hb hby at_439) ?_
      rintro T72 _ _ ⟨rfl, rfl, e72⟩ X72
      rw [List.append_nil] at X72
      show Go p e below W T72 (mkF m 442 #[.val (.int p1), .val (.int p2), .val (.int p3), .val (.int p4), .val (.int kk), .val (.int ss), .val (.ref b1), .val (.ref b3), .val (.int fr), .val (.int tt), .val (.ref b25), .val (.ref b28), .val (.int (v0_70 kk ss fr tt))] [(.int (f6 (w0_14 kk ss fr tt 3) (f3_aq fr tt (w0_24 kk ss fr tt) (f1_np (w0_24 kk ss fr tt)))))])
      refine Go.of (fun _ k => XS.iload X72.here hx rfl (hb hby at_442) rfl k) ?_
      show Go p e below W T72 (mkF m 444 #[.val (.int p1), .val (.int p2), .val (.int p3), .val (.int p4), .val (.int kk), .val (.int ss), .val (.ref b1), .val (.ref b3), .val (.int fr), .val (.int tt), .val (.ref b25), .val (.ref b28), .val (.int (v0_70 kk ss fr tt))] [(.int fr), (.int (f6 (w0_14 kk ss fr tt 3) (f3_aq fr tt (w0_24 kk ss fr tt) (f1_np (w0_24 kk ss fr tt)))))])
      refine Go.of (fun _ k => XS.iload X72.here hx rfl (hb hby at_444) rfl k) ?_
      show Go p e below W T72 (mkF m 446 #[.val (.int p1), .val (.int p2), .val (.int p3), .val (.int p4), .val (.int kk), .val (.int ss), .val (.ref b1), .val (.ref b3), .val (.int fr), .val (.int tt), .val (.ref b25), .val (.ref b28), .val (.int (v0_70 kk ss fr tt))] [(.int tt), (.int fr), (.int (f6 (w0_14 kk ss fr tt 3) (f3_aq fr tt (w0_24 kk ss fr tt) (f1_np (w0_24 kk ss fr tt)))))])
      refine Go.of (fun _ k => XS.iconst X72.here hx rfl (hb hby at_446) k) ?_
      show Go p e below W T72 (mkF m 447 #[.val (.int p1), .val (.int p2), .val (.int p3), .val (.int p4), .val (.int kk), .val (.int ss), .val (.ref b1), .val (.ref b3), .val (.int fr), .val (.int tt), .val (.ref b25), .val (.ref b28), .val (.int (v0_70 kk ss fr tt))] [(.int (3 : Int32)), (.int tt), (.int fr), (.int (f6 (w0_14 kk ss fr tt 3) (f3_aq fr tt (w0_24 kk ss fr tt) (f1_np (w0_24 kk ss fr tt)))))])
      refine Go.callP X72 hx hZ hown (hw _ (List.mem_of_getElem? (i := 43) rfl)) (hw _ (List.mem_of_getElem? (i := 44) rfl)) (hw _ (List.mem_of_getElem? (i := 36) rfl)) (hw _ (List.mem_of_getElem? (i := 45) rfl)) (by decide) e72 (rm7 l Z a0 hw [] fr tt (3 : Int32) T28.heap) (V := 1) (by decide) (by decide) rfl rfl (by decide) (by decide) (by rw [hml]; rfl) (argsL := [(.int fr), (.int tt), (.int (3 : Int32))]) (rest := [(.int (f6 (w0_14 kk ss fr tt 3) (f3_aq fr tt (w0_24 kk ss fr tt) (f1_np (w0_24 kk ss fr tt)))))]) rfl (lenOf pd__III_I rfl) rfl (Nat.le_of_ble_eq_true rfl) (hb hby at_447) ?_
      intro T73 X73 e73
      show Go p e below W T73 (mkF m 450 #[.val (.int p1), .val (.int p2), .val (.int p3), .val (.int p4), .val (.int kk), .val (.int ss), .val (.ref b1), .val (.ref b3), .val (.int fr), .val (.int tt), .val (.ref b25), .val (.ref b28), .val (.int (v0_70 kk ss fr tt))] [(.int (f7 fr tt (3 : Int32))), (.int (f6 (w0_14 kk ss fr tt 3) (f3_aq fr tt (w0_24 kk ss fr tt) (f1_np (w0_24 kk ss fr tt)))))])
      by_cases c74 : (f6 (w0_14 kk ss fr tt 3) (f3_aq fr tt (w0_24 kk ss fr tt) (f1_np (w0_24 kk ss fr tt)))) = (f7 fr tt (3 : Int32))
      · refine Go.of (fun _ k => XS.icmpNo X73.here hx rfl (hb hby at_450) rfl (Jvm.Free.XT.ii_ne_f c74) k) ?_
        show Go p e below W T73 (mkF m 453 #[.val (.int p1), .val (.int p2), .val (.int p3), .val (.int p4), .val (.int kk), .val (.int ss), .val (.ref b1), .val (.ref b3), .val (.int fr), .val (.int tt), .val (.ref b25), .val (.ref b28), .val (.int (v0_70 kk ss fr tt))] [])
        refine Go.of (fun _ k => XS.iconst X73.here hx rfl (hb hby at_453) k) ?_
        show Go p e below W T73 (mkF m 454 #[.val (.int p1), .val (.int p2), .val (.int p3), .val (.int p4), .val (.int kk), .val (.int ss), .val (.ref b1), .val (.ref b3), .val (.int fr), .val (.int tt), .val (.ref b25), .val (.ref b28), .val (.int (v0_70 kk ss fr tt))] [(.int (1 : Int32))])
        refine Go.of (fun _ k => XS.goto X73.here hx rfl (pc0 := 454) (pc' := 458) rfl (hb hby at_454) (by decide) (by decide) k) ?_
        have G75 := G75
        have q_v0_76 : (v0_76 kk ss fr tt) = (1 : Int32) := by rw [v0_76, if_neg c71, if_pos c74]
        rw [q_v0_76] at G75
        exact G75 _ X73 e73
      · refine Go.of (fun _ k => XS.icmpYes X73.here hx rfl (pc0 := 450) (pc' := 457) rfl (hb hby at_450) rfl (Jvm.Free.XT.ii_ne_t c74) (by decide) (by decide) k) ?_
        show Go p e below W T73 (mkF m 457 #[.val (.int p1), .val (.int p2), .val (.int p3), .val (.int p4), .val (.int kk), .val (.int ss), .val (.ref b1), .val (.ref b3), .val (.int fr), .val (.int tt), .val (.ref b25), .val (.ref b28), .val (.int (v0_70 kk ss fr tt))] [])
        refine Go.of (fun _ k => XS.iconst X73.here hx rfl (hb hby at_457) k) ?_
        have G75 := G75
        have q_v0_76 : (v0_76 kk ss fr tt) = (0 : Int32) := by rw [v0_76, if_neg c71, if_neg c74]
        rw [q_v0_76] at G75
        exact G75 _ X73 e73
  intro T75 X75 e75
  show Go p e below W T75 (mkF m 458 #[.val (.int p1), .val (.int p2), .val (.int p3), .val (.int p4), .val (.int kk), .val (.int ss), .val (.ref b1), .val (.ref b3), .val (.int fr), .val (.int tt), .val (.ref b25), .val (.ref b28), .val (.int (v0_70 kk ss fr tt))] [(.int (v0_76 kk ss fr tt))])
  refine Go.of (fun _ k => XS.istore X75.here hx rfl (hb hby at_458) rfl (l' := #[.val (.int p1), .val (.int p2), .val (.int p3), .val (.int p4), .val (.int kk), .val (.int ss), .val (.ref b1), .val (.ref b3), .val (.int fr), .val (.int tt), .val (.ref b25), .val (.ref b28), .val (.int (v0_76 kk ss fr tt))]) rfl k) ?_
  show Go p e below W T75 (mkF m 460 #[.val (.int p1), .val (.int p2), .val (.int p3), .val (.int p4), .val (.int kk), .val (.int ss), .val (.ref b1), .val (.ref b3), .val (.int fr), .val (.int tt), .val (.ref b25), .val (.ref b28), .val (.int (v0_76 kk ss fr tt))] [])
  refine Go.of (fun _ k => XS.iload X75.here hx rfl (hb hby at_460) rfl k) ?_
  show Go p e below W T75 (mkF m 462 #[.val (.int p1), .val (.int p2), .val (.int p3), .val (.int p4), .val (.int kk), .val (.int ss), .val (.ref b1), .val (.ref b3), .val (.int fr), .val (.int tt), .val (.ref b25), .val (.ref b28), .val (.int (v0_76 kk ss fr tt))] [(.int (v0_76 kk ss fr tt))])
  suffices G81 : ∀ T', Stand p l e room_1 s m #[(.int p1), (.int p2), (.int p3), (.int p4)] below meth c T' L28 5 22 → T'.heap = T28.heap → Go p e below W T' (mkF m 490 #[.val (.int p1), .val (.int p2), .val (.int p3), .val (.int p4), .val (.int kk), .val (.int ss), .val (.ref b1), .val (.ref b3), .val (.int fr), .val (.int tt), .val (.ref b25), .val (.ref b28), .val (.int (v0_76 kk ss fr tt))] [(.int (v0_82 kk ss fr tt))]) by
    by_cases c77 : (v0_76 kk ss fr tt) = (0 : Int32)
    · refine Go.of (fun _ k => XS.ifYes X75.here hx rfl (pc0 := 462) (pc' := 489) rfl (hb hby at_462) rfl (Jvm.Free.XT.i0_eq_t c77) (by decide) (by decide) k) ?_
      show Go p e below W T75 (mkF m 489 #[.val (.int p1), .val (.int p2), .val (.int p3), .val (.int p4), .val (.int kk), .val (.int ss), .val (.ref b1), .val (.ref b3), .val (.int fr), .val (.int tt), .val (.ref b25), .val (.ref b28), .val (.int (v0_76 kk ss fr tt))] [])
      refine Go.of (fun _ k => XS.iconst X75.here hx rfl (hb hby at_489) k) ?_
      have G81 := G81
      have q_v0_82 : (v0_82 kk ss fr tt) = (0 : Int32) := by rw [v0_82, if_pos c77]
      rw [q_v0_82] at G81
      exact G81 _ X75 e75
    · refine Go.of (fun _ k => XS.ifNo X75.here hx rfl (hb hby at_462) rfl (Jvm.Free.XT.i0_eq_f c77) k) ?_
      show Go p e below W T75 (mkF m 465 #[.val (.int p1), .val (.int p2), .val (.int p3), .val (.int p4), .val (.int kk), .val (.int ss), .val (.ref b1), .val (.ref b3), .val (.int fr), .val (.int tt), .val (.ref b25), .val (.ref b28), .val (.int (v0_76 kk ss fr tt))] [])
      refine Go.of (fun _ k => XS.aload X75.here hx rfl (hb hby at_465) rfl rfl k) ?_
      show Go p e below W T75 (mkF m 467 #[.val (.int p1), .val (.int p2), .val (.int p3), .val (.int p4), .val (.int kk), .val (.int ss), .val (.ref b1), .val (.ref b3), .val (.int fr), .val (.int tt), .val (.ref b25), .val (.ref b28), .val (.int (v0_76 kk ss fr tt))] [(.ref b25)])
      refine Go.of (fun _ k => XS.aload X75.here hx rfl (hb hby at_467) rfl rfl k) ?_
      show Go p e below W T75 (mkF m 469 #[.val (.int p1), .val (.int p2), .val (.int p3), .val (.int p4), .val (.int kk), .val (.int ss), .val (.ref b1), .val (.ref b3), .val (.int fr), .val (.int tt), .val (.ref b25), .val (.ref b28), .val (.int (v0_76 kk ss fr tt))] [(.ref b3), (.ref b25)])
      refine Go.of (fun _ k => XS.iconst X75.here hx rfl (hb hby at_469) k) ?_
      show Go p e below W T75 (mkF m 470 #[.val (.int p1), .val (.int p2), .val (.int p3), .val (.int p4), .val (.int kk), .val (.int ss), .val (.ref b1), .val (.ref b3), .val (.int fr), .val (.int tt), .val (.ref b25), .val (.ref b28), .val (.int (v0_76 kk ss fr tt))] [(.int (4 : Int32)), (.ref b3), (.ref b25)])
      refine Go.iald X75 hx hZ e75 A_b3 ⟨by decide, by decide⟩ (hb hby at_470) ?_
      show Go p e below W T75 (mkF m 471 #[.val (.int p1), .val (.int p2), .val (.int p3), .val (.int p4), .val (.int kk), .val (.int ss), .val (.ref b1), .val (.ref b3), .val (.int fr), .val (.int tt), .val (.ref b25), .val (.ref b28), .val (.int (v0_76 kk ss fr tt))] [(.int (w0_14 kk ss fr tt 4)), (.ref b25)])
      refine Go.callV X75 hx hZ hown (hw _ (List.mem_of_getElem? (i := 38) rfl)) (hw _ (List.mem_of_getElem? (i := 39) rfl)) (hw _ (List.mem_of_getElem? (i := 41) rfl)) (hw _ (List.mem_of_getElem? (i := 40) rfl)) (hw _ (List.mem_of_getElem? (i := 4) rfl)) (hw _ (List.mem_of_getElem? (i := 42) rfl)) (by decide) e75 E_b25 (rm6 l Z a0 hw [] b25 (w0_14 kk ss fr tt 4) b26 (f3_aq fr tt (w0_24 kk ss fr tt) (f1_np (w0_24 kk ss fr tt))) T28.heap F_b25_position A_b26 ((own_w0_14 kk ss fr tt rk rs) 4 (⟨by decide, by decide⟩ : inb (4 : Int32) 5).2)) (V := 0) (by decide) (by decide) (by decide) (by decide) (by rw [hml]; rfl) (argsL := [(.int (w0_14 kk ss fr tt 4))]) (rest := []) rfl (lenOf pd__I_I rfl) rfl (Nat.le_of_ble_eq_true rfl) (hb hby at_471) ?_
      rintro T78 _ _ ⟨rfl, rfl, e78⟩ X78
      rw [List.append_nil] at X78
      show Go p e below W T78 (mkF m 474 #[.val (.int p1), .val (.int p2), .val (.int p3), .val (.int p4), .val (.int kk), .val (.int ss), .val (.ref b1), .val (.ref b3), .val (.int fr), .val (.int tt), .val (.ref b25), .val (.ref b28), .val (.int (v0_76 kk ss fr tt))] [(.int (f6 (w0_14 kk ss fr tt 4) (f3_aq fr tt (w0_24 kk ss fr tt) (f1_np (w0_24 kk ss fr tt)))))])
      refine Go.of (fun _ k => XS.iload X78.here hx rfl (hb hby at_474) rfl k) ?_
      show Go p e below W T78 (mkF m 476 #[.val (.int p1), .val (.int p2), .val (.int p3), .val (.int p4), .val (.int kk), .val (.int ss), .val (.ref b1), .val (.ref b3), .val (.int fr), .val (.int tt), .val (.ref b25), .val (.ref b28), .val (.int (v0_76 kk ss fr tt))] [(.int fr), (.int (f6 (w0_14 kk ss fr tt 4) (f3_aq fr tt (w0_24 kk ss fr tt) (f1_np (w0_24 kk ss fr tt)))))])
      refine Go.of (fun _ k => XS.iload X78.here hx rfl (hb hby at_476) rfl k) ?_
      show Go p e below W T78 (mkF m 478 #[.val (.int p1), .val (.int p2), .val (.int p3), .val (.int p4), .val (.int kk), .val (.int ss), .val (.ref b1), .val (.ref b3), .val (.int fr), .val (.int tt), .val (.ref b25), .val (.ref b28), .val (.int (v0_76 kk ss fr tt))] [(.int tt), (.int fr), (.int (f6 (w0_14 kk ss fr tt 4) (f3_aq fr tt (w0_24 kk ss fr tt) (f1_np (w0_24 kk ss fr tt)))))])
      refine Go.of (fun _ k => XS.iconst X78.here hx rfl (hb hby at_478) k) ?_
      show Go p e below W T78 (mkF m 479 #[.val (.int p1), .val (.int p2), .val (.int p3), .val (.int p4), .val (.int kk), .val (.int ss), .val (.ref b1), .val (.ref b3), .val (.int fr), .val (.int tt), .val (.ref b25), .val (.ref b28), .val (.int (v0_76 kk ss fr tt))] [(.int (4 : Int32)), (.int tt), (.int fr), (.int (f6 (w0_14 kk ss fr tt 4) (f3_aq fr tt (w0_24 kk ss fr tt) (f1_np (w0_24 kk ss fr tt)))))])
      refine Go.callP X78 hx hZ hown (hw _ (List.mem_of_getElem? (i := 43) rfl)) (hw _ (List.mem_of_getElem? (i := 44) rfl)) (hw _ (List.mem_of_getElem? (i := 36) rfl)) (hw _ (List.mem_of_getElem? (i := 45) rfl)) (by decide) e78 (rm7 l Z a0 hw [] fr tt (4 : Int32) T28.heap) (V := 1) (by decide) (by decide) rfl rfl (by decide) (by decide) (by rw [hml]; rfl) (argsL := [(.int fr), (.int tt), (.int (4 : Int32))]) (rest := [(.int (f6 (w0_14 kk ss fr tt 4) (f3_aq fr tt (w0_24 kk ss fr tt) (f1_np (w0_24 kk ss fr tt)))))]) rfl (lenOf pd__III_I rfl) rfl (Nat.le_of_ble_eq_true rfl) (hb hby at_479) ?_
      intro T79 X79 e79
      show Go p e below W T79 (mkF m 482 #[.val (.int p1), .val (.int p2), .val (.int p3), .val (.int p4), .val (.int kk), .val (.int ss), .val (.ref b1), .val (.ref b3), .val (.int fr), .val (.int tt), .val (.ref b25), .val (.ref b28), .val (.int (v0_76 kk ss fr tt))] [(.int (f7 fr tt (4 : Int32))), (.int (f6 (w0_14 kk ss fr tt 4) (f3_aq fr tt (w0_24 kk ss fr tt) (f1_np (w0_24 kk ss fr tt)))))])
      by_cases c80 : (f6 (w0_14 kk ss fr tt 4) (f3_aq fr tt (w0_24 kk ss fr tt) (f1_np (w0_24 kk ss fr tt)))) = (f7 fr tt (4 : Int32))
      · refine Go.of (fun _ k => XS.icmpNo X79.here hx rfl (hb hby at_482) rfl (Jvm.Free.XT.ii_ne_f c80) k) ?_
        show Go p e below W T79 (mkF m 485 #[.val (.int p1), .val (.int p2), .val (.int p3), .val (.int p4), .val (.int kk), .val (.int ss), .val (.ref b1), .val (.ref b3), .val (.int fr), .val (.int tt), .val (.ref b25), .val (.ref b28), .val (.int (v0_76 kk ss fr tt))] [])
        refine Go.of (fun _ k => XS.iconst X79.here hx rfl (hb hby at_485) k) ?_
        show Go p e below W T79 (mkF m 486 #[.val (.int p1), .val (.int p2), .val (.int p3), .val (.int p4), .val (.int kk), .val (.int ss), .val (.ref b1), .val (.ref b3), .val (.int fr), .val (.int tt), .val (.ref b25), .val (.ref b28), .val (.int (v0_76 kk ss fr tt))] [(.int (1 : Int32))])
        refine Go.of (fun _ k => XS.goto X79.here hx rfl (pc0 := 486) (pc' := 490) rfl (hb hby at_486) (by decide) (by decide) k) ?_
        have G81 := G81
        have q_v0_82 : (v0_82 kk ss fr tt) = (1 : Int32) := by rw [v0_82, if_neg c77, if_pos c80]
        rw [q_v0_82] at G81
        exact G81 _ X79 e79
      · refine Go.of (fun _ k => XS.icmpYes X79.here hx rfl (pc0 := 482) (pc' := 489) rfl (hb hby at_482) rfl (Jvm.Free.XT.ii_ne_t c80) (by decide) (by decide) k) ?_
        show Go p e below W T79 (mkF m 489 #[.val (.int p1), .val (.int p2), .val (.int p3), .val (.int p4), .val (.int kk), .val (.int ss), .val (.ref b1), .val (.ref b3), .val (.int fr), .val (.int tt), .val (.ref b25), .val (.ref b28), .val (.int (v0_76 kk ss fr tt))] [])
        refine Go.of (fun _ k => XS.iconst X79.here hx rfl (hb hby at_489) k) ?_
        have G81 := G81
        have q_v0_82 : (v0_82 kk ss fr tt) = (0 : Int32) := by rw [v0_82, if_neg c77, if_neg c80]
        rw [q_v0_82] at G81
        exact G81 _ X79 e79
  intro T81 X81 e81
  show Go p e below W T81 (mkF m 490 #[.val (.int p1), .val (.int p2), .val (.int p3), .val (.int p4), .val (.int kk), .val (.int ss), .val (.ref b1), .val (.ref b3), .val (.int fr), .val (.int tt), .val (.ref b25), .val (.ref b28), .val (.int (v0_76 kk ss fr tt))] [(.int (v0_82 kk ss fr tt))])
  refine Go.of (fun _ k => XS.istore X81.here hx rfl (hb hby at_490) rfl (l' := #[.val (.int p1), .val (.int p2), .val (.int p3), .val (.int p4), .val (.int kk), .val (.int ss), .val (.ref b1), .val (.ref b3), .val (.int fr), .val (.int tt), .val (.ref b25), .val (.ref b28), .val (.int (v0_82 kk ss fr tt))]) rfl k) ?_
  show Go p e below W T81 (mkF m 492 #[.val (.int p1), .val (.int p2), .val (.int p3), .val (.int p4), .val (.int kk), .val (.int ss), .val (.ref b1), .val (.ref b3), .val (.int fr), .val (.int tt), .val (.ref b25), .val (.ref b28), .val (.int (v0_82 kk ss fr tt))] [])
  refine Go.of (fun _ k => XS.iload X81.here hx rfl (hb hby at_492) rfl k) ?_
  show Go p e below W T81 (mkF m 494 #[.val (.int p1), .val (.int p2), .val (.int p3), .val (.int p4), .val (.int kk), .val (.int ss), .val (.ref b1), .val (.ref b3), .val (.int fr), .val (.int tt), .val (.ref b25), .val (.ref b28), .val (.int (v0_82 kk ss fr tt))] [(.int (v0_82 kk ss fr tt))])
  have u_f0 : (f0 kk ss fr tt) = (nar .boolean (v0_82 kk ss fr tt)) := by rw [f0]
  have fin : Q0 Z p1 p2 p3 p4 kk ss fr tt h0 n0 (some (.int (f0 kk ss fr tt))) T28.heap L28 := ⟨rfl, N, K⟩
  exact Go.retN X81 hx hret (Or.inl rfl) (hb hby at_494) hlk (Eq.trans rfl u_f0.symm) (fun t ht fe => hW t _ _ _ _ (by rw [ht, e81]; exact fin) fe (by decide) (by decide))
set_option maxRecDepth 65536 in
set_option maxHeartbeats 40000000 in
theorem comes_1 {Post : Tables → Env → Array Value → State → Outcome → State → Prop} (hpost : ∀ tb e args s v u, (limb_1_1.after args s (.returned v) u = true ∧ limb_1_2.after args s (.returned v) u = true ∧ True) → FrameEnd s (.returned v) u (Jvm.fieldLocs frame_1_writes args s ++ Jvm.arrayLocs frame_1_arrays args s ++ Jvm.staticLocs frame_1_statics s) 24 128 → Post tb e args s (.returned v) u) :
    ArmFor flags0 classFile x code maxLocals ret World_1 tables_1 room_1 Calls_1 rest_1 Pre_1 Post := by
  intro l hfl _ _ p e ha hc hk s m args below hf hA hF happ hP
  obtain ⟨hcalls, hrest, hpre⟩ := hP
  obtain ⟨-, -, -, hnamed, -, -, -, hat⟩ := (Spec.applies_iff hf).mp happ
  obtain ⟨hg, hn⟩ := and_e (Cond.before_iff.mp (show (Jvm.Cond.and given_1 narrow_1).before args s = true from hpre))
  obtain ⟨g0, y0⟩ := and_e hg
  obtain ⟨x0, y1⟩ := and_e y0
  obtain ⟨x1, y2⟩ := and_e y1
  obtain ⟨x2, y3⟩ := and_e y2
  obtain ⟨w0, w1, w2, w3, rfl⟩ : ∃ w0 w1 w2 w3 : Value, args = #[w0, w1, w2, w3] := by
    have hs : args.size = 4 := by simpa [Cond.value, given_1] using g0
    obtain ⟨L⟩ := args
    match L, hs with
    | [w0, w1, w2, w3], _ => exact ⟨w0, w1, w2, w3, rfl⟩
  have hw := fun d (hd : d ∈ tables_1) => atoms_spec (ws := Jvm.Cond.code x code maxLocals ret :: tables_1) hat d (List.mem_cons_of_mem _ hd)
  obtain ⟨i0, ei0⟩ := is_v x0
  obtain rfl : w0 = (.int i0) := Option.some.inj ei0
  obtain ⟨i1, ei1⟩ := is_v x1
  obtain rfl : w1 = (.int i1) := Option.some.inj ei1
  obtain ⟨i2, ei2⟩ := is_v x2
  obtain rfl : w2 = (.int i2) := Option.some.inj ei2
  obtain ⟨i3, ei3⟩ := is_v y3
  obtain rfl : w3 = (.int i3) := Option.some.inj ei3
  obtain ⟨n, o, h1, h2, h3, _, L, rfl, ⟨rfl, N, -⟩, hq⟩ := rm0 l s _ hw tables_1 i0 i1 i2 i3 (own_K i0) (own_S i1) (own_F i2) (own_T i2 i3) s.heap s.heap.size (Nat.le_refl _) rfl rfl rfl rfl (own_kr i0) (own_sr i1) (own_fr i2 i3) p e ha hc hk s m _ below hf ((Spec.applies_iff_loose hf).mp happ).1 ⟨rfl, State.Warmed39.refl s, rfl⟩ trivial
  rw [own_law _ _ _ _ (own_kr i0) (own_sr i1) (own_fr i2 i3)] at h3 hq
  refine ⟨n, _, h1, h2, h3, hpost _ _ _ _ _ _ ⟨Cond.after_iff.mpr rfl, Cond.after_iff.mpr (eq_i res_at (Term.int_eval (1)) rfl), trivial⟩ ⟨hq.1, hq.2.1, (hq.2.2.sift fun y hy => Or.inr (N y hy)).mono (by decide) (by decide)⟩⟩
theorem main_1_1 : Claimed_1_1 := comes_1 fun _ _ _ _ _ _ h hF => ⟨h.1, hF⟩
theorem main_1_2 : Claimed_1_2 := comes_1 fun _ _ _ _ _ _ h hF => ⟨h.2.1, hF⟩
end Jvm.Pilot.@@N@@
namespace Jvm.Pilot.@@N@@
open Jvm Jvm.ClassFile Sem Op Lib Jvm.Free Jvm.Stand Jvm.Pilot.@@N@@.Jvm.D
/-! MADE BY PROGRAM (witnessworld.py) out of the Statement's table words and the real class files: 9 classes; the members and pool entries that the words name. The judged class is class 1, her method 3. -/
namespace start1
open Jvm.ClassFile
def u (s : String) : CpInfo := .utf8 (stringToUtf16 s)
/-- a pool by its gaps: so many unusable entries, then the entry; so many at the end -/
def gap : Nat → List CpInfo → List CpInfo
  | 0, r => r
  | n + 1, r => .unusable :: gap n r
def poolList (es : List (Nat × CpInfo)) (last : Nat) : List CpInfo := es.foldr (fun e r => gap e.1 (e.2 :: r)) (gap last [])
def pool (es : List (Nat × CpInfo)) (last : Nat) : Array CpInfo := ⟨poolList es last⟩
def fileOf (pool : Array CpInfo) (this : Nat) (attrs : Array Attribute := #[]) (ms : Array MethodInfo := #[]) (fl : Nat := 33) (sup : Nat := 0) (ifs : Array Nat := #[]) (fds : Array FieldInfo := #[]) : ClassFile where
  minorVersion := 0
  majorVersion := 65
  constantPool := pool
  accessFlags := fl
  thisClass := this
  superClass := sup
  interfaces := ifs
  fields := fds
  methods := ms
  attributes := attrs
def plain (name : String) (sup : Option ClassId) : Class where
  name := name
  kind := .ordinary
  loader := none
  accessFlags := 33
  super := sup
  interfaces := #[]
  cf := none
  fields := #[]
  methods := #[]
  instanceTypes := #[]
  staticTypes := #[]
  resolved := #[]
  callSites := []
  init := .initialized
  statics := none
  mirror := none

def pool0 : Array CpInfo := pool [(5, u "<init>"), (0, u "()V"), (1, .class_ 10), (1, u "java/lang/Object"), (85, u "clone"), (0, u "()Ljava/lang/Object;")] 26

def k0c0 : Code := { maxStack := 0, maxLocals := 1, code := object_method_1_code, exceptionTable := #[], attributes := #[] }
def k0m0 : Method := { name := "<init>", desc := "()V", sig := { parameters := [], returnType := none }, accessFlags := 1, code := some k0c0 }
def k0m1 : Method := { name := "clone", desc := "()Ljava/lang/Object;", sig := { parameters := [], returnType := some (.object "java/lang/Object") }, accessFlags := 260, code := none }
/-- java/lang/Object -/
def k0 : Class := { plain "java/lang/Object" none with
  accessFlags := 33
  interfaces := #[]
  cf := some (fileOf pool0 8 #[] #[{ accessFlags := 1, nameIndex := 5, descriptorIndex := 6, attributes := #[] }, { accessFlags := 260, nameIndex := 96, descriptorIndex := 97, attributes := #[] }] 33 0 #[] #[])
  fields := #[]
  methods := #[k0m0, k0m1]
  instanceTypes := #[]
  staticTypes := #[]
  resolved := Array.replicate 124 none
  statics := none }

def pool1 : Array CpInfo := pool [(2, .class_ 4), (1, u "java/lang/Object"), (0, u "<init>"), (0, u "()V"), (0, .integer 2147483647), (0, .class_ 9), (0, u "com/example/pilfer/pilfer/Tour"), (0, .methodref 8 11), (0, .nameAndType 5 12), (0, u "([I)V"), (0, .methodref 8 14), (0, .nameAndType 15 16), (0, u "reverse"), (0, u "(II)V"), (0, .methodref 8 18), (0, .nameAndType 19 20), (0, u "toArray"), (0, u "()[I"), (0, .methodref 22 23), (0, .class_ 24), (0, .nameAndType 25 26), (0, u "com/example/pilfer/pilfer/TourReversePinLaw"), (0, u "at"), (0, u "([IIII)I"), (0, .methodref 8 28), (0, .nameAndType 29 30), (0, u "position"), (0, u "(I)I"), (0, .methodref 22 32), (0, .nameAndType 33 34), (0, u "newPos"), (0, u "(III)I"), (3, u "law"), (0, u "(IIII)Z")] 4

def k1m0 : Method := { name := "<init>", desc := "()V", sig := { parameters := [], returnType := none }, accessFlags := 1, code := none }
def k1c1 : Code := { maxStack := 3, maxLocals := 4, code := method_2_code, exceptionTable := #[], attributes := #[] }
def k1m1 : Method := { name := "at", desc := "([IIII)I", sig := { parameters := [(.array .int), .int, .int, .int], returnType := some .int }, accessFlags := 10, code := some k1c1 }
def k1c2 : Code := { maxStack := 2, maxLocals := 3, code := method_3_code, exceptionTable := #[], attributes := #[] }
def k1m2 : Method := { name := "newPos", desc := "(III)I", sig := { parameters := [.int, .int, .int], returnType := some .int }, accessFlags := 10, code := some k1c2 }
def k1c3 : Code := { maxStack := 5, maxLocals := 13, code := code, exceptionTable := #[], attributes := #[] }
def k1m3 : Method := { name := "law", desc := "(IIII)Z", sig := { parameters := [.int, .int, .int, .int], returnType := some .boolean }, accessFlags := 9, code := some k1c3 }
/-- com/example/pilfer/pilfer/TourReversePinLaw -/
def k1 : Class := { plain "com/example/pilfer/pilfer/TourReversePinLaw" (some 0) with
  accessFlags := 49
  interfaces := #[]
  cf := some (fileOf pool1 22 #[] #[{ accessFlags := 1, nameIndex := 5, descriptorIndex := 6, attributes := #[] }, { accessFlags := 10, nameIndex := 25, descriptorIndex := 26, attributes := #[] }, { accessFlags := 10, nameIndex := 33, descriptorIndex := 34, attributes := #[] }, { accessFlags := 9, nameIndex := 38, descriptorIndex := 39, attributes := #[] }] 49 2 #[] #[])
  fields := #[]
  methods := #[k1m0, k1m1, k1m2, k1m3]
  instanceTypes := #[]
  staticTypes := #[]
  resolved := Array.replicate 44 none
  statics := none }

def pool2 : Array CpInfo := pool [(1, .methodref 2 3), (0, .class_ 4), (0, .nameAndType 5 6), (0, u "java/lang/Object"), (0, u "<init>"), (0, u "()V"), (0, .fieldref 8 9), (0, .class_ 10), (0, .nameAndType 11 12), (0, u "com/example/pilfer/pilfer/Tour"), (0, u "order"), (0, u "[I"), (0, .fieldref 8 14), (0, .nameAndType 15 12), (0, u "position"), (2, u "([I)V"), (6, .methodref 26 27), (0, .class_ 12), (0, .nameAndType 28 29), (0, u "clone"), (0, u "()Ljava/lang/Object;"), (2, u "reverse"), (0, u "(II)V"), (10, u "(I)I"), (6, u "toArray"), (0, u "()[I")] 5

def k2c0 : Code := { maxStack := 3, maxLocals := 3, code := prog_24_method_1_code, exceptionTable := #[], attributes := #[] }
def k2m0 : Method := { name := "<init>", desc := "([I)V", sig := { parameters := [(.array .int)], returnType := none }, accessFlags := 0, code := some k2c0 }
def k2c1 : Code := { maxStack := 2, maxLocals := 2, code := prog_24_method_4_code, exceptionTable := #[], attributes := #[] }
def k2m1 : Method := { name := "position", desc := "(I)I", sig := { parameters := [.int], returnType := some .int }, accessFlags := 0, code := some k2c1 }
def k2c2 : Code := { maxStack := 1, maxLocals := 1, code := prog_24_method_9_code, exceptionTable := #[], attributes := #[] }
def k2m2 : Method := { name := "toArray", desc := "()[I", sig := { parameters := [], returnType := some (.array .int) }, accessFlags := 0, code := some k2c2 }
def k2c3 : Code := { maxStack := 4, maxLocals := 6, code := prog_24_method_10_code, exceptionTable := #[], attributes := #[] }
def k2m3 : Method := { name := "reverse", desc := "(II)V", sig := { parameters := [.int, .int], returnType := none }, accessFlags := 0, code := some k2c3 }
/-- com/example/pilfer/pilfer/Tour -/
def k2 : Class := { plain "com/example/pilfer/pilfer/Tour" (some 0) with
  accessFlags := 48
  interfaces := #[]
  cf := some (fileOf pool2 8 #[] #[{ accessFlags := 0, nameIndex := 5, descriptorIndex := 18, attributes := #[] }, { accessFlags := 0, nameIndex := 15, descriptorIndex := 44, attributes := #[] }, { accessFlags := 0, nameIndex := 51, descriptorIndex := 52, attributes := #[] }, { accessFlags := 0, nameIndex := 32, descriptorIndex := 33, attributes := #[] }] 48 2 #[] #[{ accessFlags := 18, nameIndex := 11, descriptorIndex := 12, attributes := #[] }, { accessFlags := 18, nameIndex := 15, descriptorIndex := 12, attributes := #[] }])
  fields := #[{ name := "order", type := (.array .int), accessFlags := 18, slot := 0, constantValue := 0 }, { name := "position", type := (.array .int), accessFlags := 18, slot := 1, constantValue := 0 }]
  methods := #[k2m0, k2m1, k2m2, k2m3]
  instanceTypes := #[(.array .int), (.array .int)]
  staticTypes := #[]
  resolved := Array.replicate 58 none
  statics := none }

def pool3 : Array CpInfo := pool [(1, .class_ 2), (0, u "java/lang/Cloneable"), (0, .class_ 4), (0, u "java/lang/Object")] 2

/-- java/lang/Cloneable -/
def k3 : Class := { plain "java/lang/Cloneable" (some 0) with
  accessFlags := 1537
  interfaces := #[]
  cf := some (fileOf pool3 1 #[] #[] 1537 3 #[] #[])
  fields := #[]
  methods := #[]
  instanceTypes := #[]
  staticTypes := #[]
  resolved := Array.replicate 7 none
  statics := none }

def pool4 : Array CpInfo := pool [(1, u "java/io/Serializable"), (0, .class_ 1), (0, u "java/lang/Object"), (0, .class_ 3)] 3

/-- java/io/Serializable -/
def k4 : Class := { plain "java/io/Serializable" (some 0) with
  accessFlags := 1537
  interfaces := #[]
  cf := some (fileOf pool4 2 #[] #[] 1537 4 #[] #[])
  fields := #[]
  methods := #[]
  instanceTypes := #[]
  staticTypes := #[]
  resolved := Array.replicate 8 none
  statics := none }

/-- the primitive byte -/
def k5 : Class := { plain "byte" none with kind := .primitive 'B', accessFlags := 0x411 }
/-- [B -/
def k6 : Class := { plain "[B" (some 0) with kind := .array 5 .byte, interfaces := #[3, 4], accessFlags := 1041 }

/-- the primitive int -/
def k7 : Class := { plain "int" none with kind := .primitive 'I', accessFlags := 0x411 }
/-- [I -/
def k8 : Class := { plain "[I" (some 0) with kind := .array 7 .int, interfaces := #[3, 4], accessFlags := 1041 }

def heap : Heap := #[]
def classes : Array Class := #[k0, k1, k2, k3, k4, k5, k6, k7, k8]
def interned : List (Array UInt16 × Addr) := []
def slotsUsed : Nat := 0
def theMethod : MethodId := ⟨1, 3⟩
def args0 : Array Value := #[.int 5, .int 6, .int 7, .int 8]
def aboutOver (below : List Frame) : State where
  vm := { classes := classes, interned := interned.toArray }
  heap := heap
  slotsUsed := slotsUsed
  threads := #[{ frames := .invoking theMethod args0 :: below }]
def below0 : List Frame := [.native { method := ⟨0, 0⟩, args := #[] }]
def about1 : State := aboutOver below0
def p0 : Program := .bare "" "" ""
def e0 : Env := launch0.env 0 0 0
theorem w_frames : about1.frames = Frame.invoking theMethod args0 :: below0 := rfl
set_option maxRecDepth 65536 in
theorem w_args : argsFit about1.vm theMethod args0 = true := by decide +kernel
set_option maxRecDepth 65536 in
theorem w_heap : heapFits about1 = true := by decide +kernel
set_option maxRecDepth 65536 in
theorem w_runnable : about1.curStatus? = some .runnable := by decide +kernel
set_option maxRecDepth 65536 in
theorem w_alone : about1.alone = true := by decide +kernel
set_option maxRecDepth 65536 in
theorem w_named : about1.methodNamed? x = some theMethod := by decide +kernel
set_option maxRecDepth 65536 in
theorem w_hears : about1.hears theMethod below0 = true := by decide +kernel
set_option maxRecDepth 65536 in
theorem w_ripe : about1.ripe theMethod args0 below0 = true := by decide +kernel
theorem w_running : about1.status = .running := rfl
set_option maxRecDepth 65536 in
theorem w_room : about1.hasRoom e0.platform room_1 = true :=
  launch0.hasRoom_least _ room_1 (by decide +kernel) (by decide +kernel) (by decide +kernel) (by decide +kernel) (by decide +kernel) (by decide +kernel)
theorem allAtoms_all (ts : List Jvm.Cond) (a : Array Jvm.Value) (st : Jvm.State) : (allAtoms ts).before a st = ts.all (fun c => c.before a st) := by
  induction ts with
  | nil => rfl
  | cons c t ih =>
    show (Jvm.Cond.and c (allAtoms t)).before a st = _
    rw [Jvm.Cond.before_and, ih, List.all_cons]
def words1 : List Jvm.Cond := Jvm.Cond.code x code maxLocals ret :: tables_1
/-- a 'code' word, met by the world's own term for the bytes: nothing is compared byte by byte -/
theorem code_word {y : MethodName} {bytes : ByteArray} {mx : Nat} {rt : Option FieldType} {a : Array Value} {s : State} {m : MethodId} {meth : Method} {c : Code} (h1 : s.methodNamed? y = some m) (h2 : s.vm.method? m = some meth) (h3 : meth.code = some c) (h4 : c.code = bytes)
    (h5 : (c.maxLocals == mx && c.exceptionTable.isEmpty && decide (c.maxStack ≤ mostOperands) && decide (meth.sig.returnType = rt) && !meth.locks && decide (parseMethodDescriptor y.desc = some meth.sig)) = true) : (Jvm.Cond.code y bytes mx rt).before a s = true := by
  simp only [Bool.and_eq_true, beq_iff_eq, Bool.not_eq_true', decide_eq_true_eq] at h5
  obtain ⟨⟨⟨⟨⟨g1, g2⟩, g3⟩, g4⟩, g5⟩, g6⟩ := h5
  simp [Cond.before, Cond.holds, Cond.value, h1, h2, h3, h4, g1, g2, g3, g4, g5, g6]
def isCode : Jvm.Cond → Bool
  | .code _ _ _ _ => true
  | _ => false
theorem all_split {L : List Jvm.Cond} {P : Jvm.Cond → Bool} (h1 : L.all (fun c => isCode c || P c) = true) (h2 : ∀ c ∈ L.filter isCode, P c = true) : L.all P = true := by
  refine List.all_eq_true.mpr fun c hc => ?_
  have h := List.all_eq_true.mp h1 c hc
  rcases Bool.eq_false_or_eq_true (isCode c) with hi | hi
  · exact h2 c (List.mem_filter.mpr ⟨hc, hi⟩)
  · simpa [hi] using h
set_option maxRecDepth 65536 in
theorem w_c0 : (Jvm.Cond.code x code maxLocals ret).before args0 about1 = true := code_word (m := ⟨1, 3⟩) (meth := k1m3) (c := k1c3) (by decide +kernel) rfl rfl rfl (by decide +kernel)
set_option maxRecDepth 65536 in
theorem w_c1 : (Jvm.Cond.code ({ cls := "com/example/pilfer/pilfer/Tour", name := "<init>", desc := "([I)V" } : Jvm.MethodName) prog_24_method_1_code (3 : Nat) (Option.none : Option Jvm.ClassFile.FieldType)).before args0 about1 = true := code_word (m := ⟨2, 0⟩) (meth := k2m0) (c := k2c0) (by decide +kernel) rfl rfl rfl (by decide +kernel)
set_option maxRecDepth 65536 in
theorem w_c2 : (Jvm.Cond.code ({ cls := "java/lang/Object", name := "<init>", desc := "()V" } : Jvm.MethodName) object_method_1_code (1 : Nat) (Option.none : Option Jvm.ClassFile.FieldType)).before args0 about1 = true := code_word (m := ⟨0, 0⟩) (meth := k0m0) (c := k0c0) (by decide +kernel) rfl rfl rfl (by decide +kernel)
set_option maxRecDepth 65536 in
theorem w_c3 : (Jvm.Cond.code ({ cls := "com/example/pilfer/pilfer/Tour", name := "reverse", desc := "(II)V" } : Jvm.MethodName) prog_24_method_10_code (6 : Nat) (Option.none : Option Jvm.ClassFile.FieldType)).before args0 about1 = true := code_word (m := ⟨2, 3⟩) (meth := k2m3) (c := k2c3) (by decide +kernel) rfl rfl rfl (by decide +kernel)
set_option maxRecDepth 65536 in
theorem w_c4 : (Jvm.Cond.code ({ cls := "com/example/pilfer/pilfer/Tour", name := "toArray", desc := "()[I" } : Jvm.MethodName) prog_24_method_9_code (1 : Nat) (Option.some (Jvm.ClassFile.FieldType.array Jvm.ClassFile.FieldType.int))).before args0 about1 = true := code_word (m := ⟨2, 2⟩) (meth := k2m2) (c := k2c2) (by decide +kernel) rfl rfl rfl (by decide +kernel)
set_option maxRecDepth 65536 in
theorem w_c5 : (Jvm.Cond.code ({ cls := "com/example/pilfer/pilfer/TourReversePinLaw", name := "at", desc := "([IIII)I" } : Jvm.MethodName) method_2_code (4 : Nat) (Option.some Jvm.ClassFile.FieldType.int)).before args0 about1 = true := code_word (m := ⟨1, 1⟩) (meth := k1m1) (c := k1c1) (by decide +kernel) rfl rfl rfl (by decide +kernel)
set_option maxRecDepth 65536 in
theorem w_c6 : (Jvm.Cond.code ({ cls := "com/example/pilfer/pilfer/Tour", name := "position", desc := "(I)I" } : Jvm.MethodName) prog_24_method_4_code (2 : Nat) (Option.some Jvm.ClassFile.FieldType.int)).before args0 about1 = true := code_word (m := ⟨2, 1⟩) (meth := k2m1) (c := k2c1) (by decide +kernel) rfl rfl rfl (by decide +kernel)
set_option maxRecDepth 65536 in
theorem w_c7 : (Jvm.Cond.code ({ cls := "com/example/pilfer/pilfer/TourReversePinLaw", name := "newPos", desc := "(III)I" } : Jvm.MethodName) method_3_code (3 : Nat) (Option.some Jvm.ClassFile.FieldType.int)).before args0 about1 = true := code_word (m := ⟨1, 2⟩) (meth := k1m2) (c := k1c2) (by decide +kernel) rfl rfl rfl (by decide +kernel)
def codes1 : List Jvm.Cond := [Jvm.Cond.code x code maxLocals ret, Jvm.Cond.code ({ cls := "com/example/pilfer/pilfer/Tour", name := "<init>", desc := "([I)V" } : Jvm.MethodName) prog_24_method_1_code (3 : Nat) (Option.none : Option Jvm.ClassFile.FieldType), Jvm.Cond.code ({ cls := "java/lang/Object", name := "<init>", desc := "()V" } : Jvm.MethodName) object_method_1_code (1 : Nat) (Option.none : Option Jvm.ClassFile.FieldType), Jvm.Cond.code ({ cls := "com/example/pilfer/pilfer/Tour", name := "reverse", desc := "(II)V" } : Jvm.MethodName) prog_24_method_10_code (6 : Nat) (Option.none : Option Jvm.ClassFile.FieldType), Jvm.Cond.code ({ cls := "com/example/pilfer/pilfer/Tour", name := "toArray", desc := "()[I" } : Jvm.MethodName) prog_24_method_9_code (1 : Nat) (Option.some (Jvm.ClassFile.FieldType.array Jvm.ClassFile.FieldType.int)), Jvm.Cond.code ({ cls := "com/example/pilfer/pilfer/TourReversePinLaw", name := "at", desc := "([IIII)I" } : Jvm.MethodName) method_2_code (4 : Nat) (Option.some Jvm.ClassFile.FieldType.int), Jvm.Cond.code ({ cls := "com/example/pilfer/pilfer/Tour", name := "position", desc := "(I)I" } : Jvm.MethodName) prog_24_method_4_code (2 : Nat) (Option.some Jvm.ClassFile.FieldType.int), Jvm.Cond.code ({ cls := "com/example/pilfer/pilfer/TourReversePinLaw", name := "newPos", desc := "(III)I" } : Jvm.MethodName) method_3_code (3 : Nat) (Option.some Jvm.ClassFile.FieldType.int)]
set_option maxRecDepth 65536 in
theorem codes_eq : words1.filter isCode = codes1 := rfl
theorem w_codes : ∀ c ∈ words1.filter isCode, c.before args0 about1 = true := by
  rw [codes_eq]
  intro c hc
  simp only [codes1, List.mem_cons, List.not_mem_nil, or_false] at hc
  rcases hc with rfl | rfl | rfl | rfl | rfl | rfl | rfl | rfl
  · exact w_c0
  · exact w_c1
  · exact w_c2
  · exact w_c3
  · exact w_c4
  · exact w_c5
  · exact w_c6
  · exact w_c7
set_option maxRecDepth 65536 in
theorem w_t1 : (words1.take 24).all (fun c => isCode c || c.before args0 about1) = true := by decide +kernel
set_option maxRecDepth 65536 in
theorem w_t2 : (words1.drop 24).all (fun c => isCode c || c.before args0 about1) = true := by decide +kernel
theorem w_tables : (allAtoms (Jvm.Cond.code x code maxLocals ret :: tables_1)).before args0 about1 = true := by
  rw [allAtoms_all]
  show words1.all (fun c => c.before args0 about1) = true
  refine all_split ?_ w_codes
  rw [← List.take_append_drop 24 words1, List.all_append, w_t1, w_t2]
  rfl
set_option maxRecDepth 65536 in
theorem w_case : (Jvm.Cond.and given_1 narrow_1).before args0 about1 = true := by decide +kernel
theorem w_applies : (headSpec (Jvm.Cond.code x code maxLocals ret :: tables_1) room_1).applies x e0.platform about1 = true :=
  (Spec.applies_iff w_frames).mpr ⟨w_running, w_runnable, w_alone, w_named, w_hears, w_ripe, w_room, w_tables⟩
theorem atStart : AtStart classFile x code maxLocals ret World_1 tables_1 room_1 Calls_1 rest_1 Pre_1 launch0 p0 e0 about1 theMethod args0 below0 :=
  ⟨lists_1, trivial, launch0.admits_env _ _ _, launch0.least_env, fairChoices_fair.cas, fairChoices_fair.clock, w_frames, w_args, w_heap, w_applies, trivial, trivial, w_case⟩
end start1
theorem witness_1 : WitnessClaimed_1 := ⟨start1.p0, start1.e0, start1.about1, start1.theMethod, start1.args0, start1.below0, start1.atStart⟩
end Jvm.Pilot.@@N@@
