import JvmDerived
import JvmDerived.Pilot.@@N@@Statement
import JvmDerived.Pilot.@@N@@Code
set_option linter.unusedVariables false
set_option linter.unusedSimpArgs false
namespace Jvm.Pilot.@@N@@
open Jvm Jvm.ClassFile Sem Op Lib Jvm.Free Jvm.Stand Jvm.LawKit Jvm.RoadKit Bundle Jvm.Pilot.@@N@@.Jvm.D
section OwnKit
variable {p : Program} {l : Launch} {e : Env} {R : Room} {s : State} {m : MethodId} {args : Array Value} {below : List Frame} {meth : Method} {c : Code} {T : State} {locs : List Loc} {cells slots : Nat} {Z : State} {a0 : Array Value} {h : Heap} {W : State → Outcome → Prop}
/-- what a walk owes from a frame on -/
def Go (p : Program) (e : Env) (below : List Frame) (W : State → Outcome → Prop) (T : State) (g : JFrame) : Prop := ∃ t o, Steps p.tables e below (T.setTop g) t ∧ t.status = .running ∧ Ended t below o ∧ W t o
theorem Go.of {T T' : State} {g g' : JFrame} (q : ∀ t, Steps p.tables e below (T'.setTop g') t → Steps p.tables e below (T.setTop g) t) (k : Go p e below W T' g') : Go p e below W T g := by
  obtain ⟨t, o, h1, h2⟩ := k
  exact ⟨t, o, q t h1, h2⟩
theorem Go.ret (X : Stand p l e R s m args below meth c T locs cells slots) {g : JFrame} {v : Option Value} (hv : meth.sig.returnType = none → v = none) (hk : meth.locks = false)
    (st : ∀ fs, (∀ (f : JFrame) (acts : List Action), f.method = m → f.locked = none → f.entered = [] → (doReturn e (T.setTop f) acts v).1 = T.setFrames fs) → Steps p.tables e below (T.setTop g) (T.setFrames fs))
    (hq : ∀ t : State, t.heap = T.heap → FrameEnd s (.returned v) t locs cells slots → W t (.returned v)) : Go p e below W T g := by
  obtain ⟨fs, hr, hrun, hended, hW, hsame⟩ := X.leave (v := v) hv hk
  exact ⟨_, _, st fs hr, hrun, hended, hq _ rfl ⟨⟨_, rfl⟩, hW, hsame⟩⟩
/-- ireturn of a boolean, byte, char, short -/
theorem Go.retN (X : Stand p l e R s m args below meth c T locs cells slots) (hx : p.tables.exec = Jvm.exec) {pc : Nat} {Ls : Array Slot} {z w : Int32} {t : FieldType} {rest : List Value} (hret : meth.sig.returnType = some t) (ht : t = .boolean ∨ t = .byte ∨ t = .char ∨ t = .short) (hd : decode c.code pc = .ok (.ireturn, 1)) (hk : meth.locks = false) (hn : nar t z = w)
    (hq : ∀ t : State, t.heap = T.heap → FrameEnd s (.returned (some (.int w))) t locs cells slots → W t (.returned (some (.int w)))) : Go p e below W T (mkF m pc Ls (.int z :: rest)) := by
  subst hn
  exact Go.ret X (fun q => by rw [hret] at q; cases q) hk (fun fs hr => Jvm.RoadKit.retN X hx hret ht hd hr) hq
theorem Go.retI (X : Stand p l e R s m args below meth c T locs cells slots) (hx : p.tables.exec = Jvm.exec) {pc : Nat} {Ls : Array Slot} {z w : Int32} {rest : List Value} (hret : meth.sig.returnType = some .int) (hd : decode c.code pc = .ok (.ireturn, 1)) (hk : meth.locks = false) (hn : z = w)
    (hq : ∀ t : State, t.heap = T.heap → FrameEnd s (.returned (some (.int w))) t locs cells slots → W t (.returned (some (.int w)))) : Go p e below W T (mkF m pc Ls (.int z :: rest)) := by
  subst hn
  exact Go.ret X (fun q => by rw [hret] at q; cases q) hk (fun fs hr => retOut X hx hret rfl (Or.inl ⟨rfl, Or.inl rfl, z, rfl⟩) hd hr) hq
theorem Go.retJ (X : Stand p l e R s m args below meth c T locs cells slots) (hx : p.tables.exec = Jvm.exec) {pc : Nat} {Ls : Array Slot} {z w : Int64} {rest : List Value} (hret : meth.sig.returnType = some .long) (hd : decode c.code pc = .ok (.lreturn, 1)) (hk : meth.locks = false) (hn : z = w)
    (hq : ∀ t : State, t.heap = T.heap → FrameEnd s (.returned (some (.long w))) t locs cells slots → W t (.returned (some (.long w)))) : Go p e below W T (mkF m pc Ls (.long z :: rest)) := by
  subst hn
  exact Go.ret X (fun q => by rw [hret] at q; cases q) hk (fun fs hr => retOut X hx hret rfl (Or.inr (Or.inl ⟨rfl, rfl, z, rfl⟩)) hd hr) hq
theorem Go.retA (X : Stand p l e R s m args below meth c T locs cells slots) (hx : p.tables.exec = Jvm.exec) {pc : Nat} {Ls : Array Slot} {t : FieldType} {a : Addr} {rest : List Value} (hret : meth.sig.returnType = some t) (ht : t.isReference = true) (hnr : narrow t (.ref a) = .ref a) (hd : decode c.code pc = .ok (.areturn, 1)) (hk : meth.locks = false)
    (hq : ∀ t : State, t.heap = T.heap → FrameEnd s (.returned (some (.ref a))) t locs cells slots → W t (.returned (some (.ref a)))) : Go p e below W T (mkF m pc Ls (.ref a :: rest)) :=
  Go.ret X (fun q => by rw [hret] at q; cases q) hk (fun fs hr => retOut X hx hret hnr (Or.inr (Or.inr (Or.inr (Or.inr ⟨rfl, ht, rfl⟩)))) hd hr) hq
theorem Go.retV (X : Stand p l e R s m args below meth c T locs cells slots) (hx : p.tables.exec = Jvm.exec) {pc : Nat} {Ls : Array Slot} (hret : meth.sig.returnType = none) (hd : decode c.code pc = .ok (.return_, 1)) (hk : meth.locks = false)
    (hq : ∀ t : State, t.heap = T.heap → FrameEnd s (.returned none) t locs cells slots → W t (.returned none)) : Go p e below W T (mkF m pc Ls []) :=
  Go.ret X (fun _ => rfl) hk (fun fs hr => X.returnOut hx hret hd hr) hq
/-- a body's contract out of its walk -/
theorem own_body {y : MethodName} {bytes : ByteArray} {maxL : Nat} {ret : Option FieldType} {ws : List Jvm.Cond} {rm : Room} {as' : Array Value} {Q : Option Value → Heap → List Loc → Prop} {Ls : Array Slot} (hpn : plainFor y = true) (hef : ∀ m, entryFrame m as' maxL = mkF m 0 Ls [])
    (walk : ∀ (p : Program) (e : Env) (s : State) (m : MethodId) (below : List Frame) (meth : Method) (c : Code) (T : State) (W : State → Outcome → Prop), Stand p l e rm s m as' below meth c T [] 0 0 → p.tables.exec = Jvm.exec → c.code = bytes → c.maxLocals = maxL → meth.sig.returnType = ret → meth.locks = false → s.vm.findClass y.cls = some m.cls → meth.name = y.name → Z.Warmed39 s.vm → T.heap = h →
      (∀ (t : State) v L cells slots, Q v t.heap L → FrameEnd s (.returned v) t L cells slots → cells ≤ rm.cells → slots ≤ rm.slots → W t (.returned v)) → Go p e below W T (mkF m 0 Ls [])) :
    MetFree l y (head1 (Jvm.Cond.code y bytes maxL ret :: ws) rm) (fun a U => a = as' ∧ Z.Warmed39 U.vm ∧ U.heap = h) (fun _ _ _ _ _ => True) (fun _ U o U' => ∃ v L, o = .returned v ∧ Q v U'.heap L ∧ FrameEnd U o U' L rm.cells rm.slots) := by
  refine MetFree.of_bodySF hpn hisR ?_
  intro p e s m args below meth c s₁ Bd hml hP hK
  obtain ⟨rfl, hZ, hh⟩ := hP
  obtain ⟨t, o, h1, h2, h3, h4⟩ := walk p e s m below meth c s₁ (fun t o => ∃ v L, o = .returned v ∧ Q v t.heap L ∧ FrameEnd s o t L rm.cells rm.slots) (Stand.of_body Bd) Bd.exec Bd.bytes hml Bd.returns (BodyLoose.notSynchronized Bd) (findClass_of_methodNamed Bd.named) (name_of_methodNamed Bd.named Bd.method).1 hZ (by rw [← hh, Bd.state]; rfl)
    (fun t v L cells slots hQ hF hc hs => ⟨v, L, rfl, hQ, hF.1, hF.2.1, hF.2.2.mono hc hs⟩)
  exact ⟨t, o, castTop (hef m) h1, h2, h3, h4⟩
/-- a contract, written short -/
abbrev Con (l : Launch) (Z : State) (y : MethodName) (bytes : ByteArray) (maxL : Nat) (ret : Option FieldType) (ws : List Jvm.Cond) (rm : Room) (as' : Array Value) (h : Heap) (Q : Option Value → Heap → List Loc → Prop) : Prop :=
  MetFree l y (head1 (Jvm.Cond.code y bytes maxL ret :: ws) rm) (fun a U => a = as' ∧ Z.Warmed39 U.vm ∧ U.heap = h) (fun _ _ _ _ _ => True) (fun _ U o U' => ∃ v L, o = .returned v ∧ Q v U'.heap L ∧ FrameEnd U o U' L rm.cells rm.slots)
/-- what a callee that leaves the heap as it is says -/
def PQ (w : Value) (h0 : Heap) (v : Option Value) (h : Heap) (L : List Loc) : Prop := v = some w ∧ L = [] ∧ h = h0
theorem Go.callS (X : Stand p l e R s m args below meth c T locs cells slots) (hx : p.tables.exec = Jvm.exec) (hZ : Z.Warmed39 s.vm) {own : String} {index : Nat} {y : MethodName} {bytes : ByteArray} {maxL : Nat} {ret : Option FieldType} {rm : Room} {as' : Array Value} {Q : Option Value → Heap → List Loc → Prop} (hown : s.vm.findClass own = some m.cls)
    (w1 : (Jvm.Cond.methodLink own index y).before a0 Z = true) (w2 : (Jvm.Cond.static y).before a0 Z = true) (w3 : (Jvm.Cond.initialized y.cls).before a0 Z = true) (w4 : (Jvm.Cond.code y bytes maxL ret).before a0 Z = true) (hy : y.cls ≠ "java/lang/invoke/MethodHandle" ∧ y.cls ≠ "java/lang/invoke/VarHandle") (eT : T.heap = h)
    (hM : Con l Z y bytes maxL ret [] rm as' h Q) {V : Nat} (hf : rm.frames + 1 ≤ R.frames) (hl : V + (maxL + 11) + rm.locals ≤ R.locals) (hc : cells + rm.cells ≤ R.cells) (hs : slots + rm.slots ≤ R.slots)
    {pc : Nat} {Ls : Array Slot} {st : List Value} (hsize : Ls.size = c.maxLocals) {argsL rest : List Value} (has : argsL.toArray = as') (hlen : ∀ sig, parseMethodDescriptor y.desc = some sig → argsL.length = sig.parameters.length) (hstack : st = argsL.reverse ++ rest) (hV : (rest.map fun v => v.category).sum ≤ V) (hd : decode c.code pc = .ok (.invokestatic index, 3))
    (K : ∀ T' v L, Q v T'.heap L → Stand p l e R s m args below meth c T' (locs ++ L) (cells + rm.cells) (slots + rm.slots) → Go p e below W T' (mkF m (pc + 3) Ls (v.toList ++ rest))) : Go p e below W T (mkF m pc Ls st) := by
  obtain ⟨v, vm₁, ⟨T', L', k', n'⟩, -, X', ⟨L, hQ, e1, e2, e3⟩, st'⟩ := Jvm.LawKit.callS X hx hown (mvT hZ w1) (mvT hZ w2) (mvT hZ w3) (mvT hZ w4) hy (backOf (W := V) hM hZ w4 w3 hf hl) (g := mkF m pc Ls st) rfl hsize hlen hstack (by show 2 * 0 + _ ≤ _; omega) hd (fun _ _ => ⟨has, eT, hc, hs⟩)
  dsimp only [Pt.U, Pt.locs, Pt.cells, Pt.slots] at X' e1 e2 e3 st' hQ
  subst e1 e2 e3
  exact Go.of st' (K _ _ _ hQ X')
theorem Go.callP (X : Stand p l e R s m args below meth c T locs cells slots) (hx : p.tables.exec = Jvm.exec) (hZ : Z.Warmed39 s.vm) {own : String} {index : Nat} {y : MethodName} {bytes : ByteArray} {maxL : Nat} {ret : Option FieldType} {rm : Room} {as' : Array Value} {w : Value} (hown : s.vm.findClass own = some m.cls)
    (w1 : (Jvm.Cond.methodLink own index y).before a0 Z = true) (w2 : (Jvm.Cond.static y).before a0 Z = true) (w3 : (Jvm.Cond.initialized y.cls).before a0 Z = true) (w4 : (Jvm.Cond.code y bytes maxL ret).before a0 Z = true) (hy : y.cls ≠ "java/lang/invoke/MethodHandle" ∧ y.cls ≠ "java/lang/invoke/VarHandle") (eT : T.heap = h)
    (hM : Con l Z y bytes maxL ret [] rm as' h (PQ w h)) {V : Nat} (hf : rm.frames + 1 ≤ R.frames) (hl : V + (maxL + 11) + rm.locals ≤ R.locals) (z1 : rm.cells = 0) (z2 : rm.slots = 0) (hc : cells ≤ R.cells) (hs : slots ≤ R.slots)
    {pc : Nat} {Ls : Array Slot} {st : List Value} (hsize : Ls.size = c.maxLocals) {argsL rest : List Value} (has : argsL.toArray = as') (hlen : ∀ sig, parseMethodDescriptor y.desc = some sig → argsL.length = sig.parameters.length) (hstack : st = argsL.reverse ++ rest) (hV : (rest.map fun v => v.category).sum ≤ V) (hd : decode c.code pc = .ok (.invokestatic index, 3))
    (K : ∀ T', Stand p l e R s m args below meth c T' locs cells slots → T'.heap = h → Go p e below W T' (mkF m (pc + 3) Ls (w :: rest))) : Go p e below W T (mkF m pc Ls st) := by
  refine Go.callS X hx hZ hown w1 w2 w3 w4 hy eT hM hf hl (by rw [z1]; exact hc) (by rw [z2]; exact hs) hsize has hlen hstack hV hd ?_
  rintro T' v L ⟨rfl, rfl, h3⟩ X'
  rw [z1, z2, List.append_nil] at X'
  exact K T' X' h3
end OwnKit
section OwnHeap
variable {p : Program} {l : Launch} {e : Env} {R : Room} {s : State} {m : MethodId} {args : Array Value} {below : List Frame} {meth : Method} {c : Code} {T : State} {locs : List Loc} {cells slots : Nat} {Z : State} {a0 : Array Value} {h h' : Heap} {W : State → Outcome → Prop}
/-- an array: its kind, its length, the ints in its places -/
def AI (Z : State) (h : Heap) (a : Addr) (ty : FieldType) (n : Nat) (f : Nat → Int32) : Prop := ∃ cl : Cell, Arr Z h a cl ty ∧ cl.slots.size = n ∧ n < 2 ^ 31 ∧ ∀ j, j < n → cl.slots[j]? = some (.int (f j)) ∧ fits ty (.int (f j)) = true
theorem AI.lt {a : Addr} {ty : FieldType} {n : Nat} {f : Nat → Int32} (A : AI Z h a ty n f) : a < h.size := by obtain ⟨cl, A, -⟩ := A; exact A.lt
theorem AI.small {a : Addr} {ty : FieldType} {n : Nat} {f : Nat → Int32} (A : AI Z h a ty n f) : n < 2 ^ 31 := by obtain ⟨cl, -, -, h, -⟩ := A; exact h
theorem AI.ext {a : Addr} {ty : FieldType} {n : Nat} {f : Nat → Int32} (A : AI Z h a ty n f) (E : Ext h h') : AI Z h' a ty n f := by obtain ⟨cl, A, r⟩ := A; exact ⟨cl, A.ext E, r⟩
theorem AI.other {a b : Addr} {ty : FieldType} {n sl : Nat} {f : Nat → Int32} {v : Value} (A : AI Z h b ty n f) (W : Wr h h' a sl v) (q : b ≠ a) : AI Z h' b ty n f := by obtain ⟨cl, A, r⟩ := A; exact ⟨cl, A.other W q, r⟩
theorem AI.keep {a : Addr} {ty : FieldType} {n : Nat} {f : Nat → Int32} {ws : List Addr} (A : AI Z h a ty n f) (K : Keep h h' ws) (q : a ∉ ws) : AI Z h' a ty n f := by obtain ⟨cl, A, r⟩ := A; exact ⟨cl, ⟨K.2.1 a cl A.1 q, A.2⟩, r⟩
theorem AI.congr {a : Addr} {ty : FieldType} {n : Nat} {f g : Nat → Int32} (A : AI Z h a ty n f) (q : ∀ j, j < n → f j = g j) : AI Z h a ty n g := by obtain ⟨cl, A, r1, r2, r3⟩ := A; exact ⟨cl, A, r1, r2, fun j hj => by rw [← q j hj]; exact r3 j hj⟩
def upd (f : Nat → Int32) (i : Nat) (x : Int32) : Nat → Int32 := fun j => if j = i then x else f j
theorem AI.set {a : Addr} {ty : FieldType} {n i : Nat} {f : Nat → Int32} {x : Int32} (A : AI Z h a ty n f) (W : Wr h h' a i (.int x)) (hv : fits ty (.int x) = true) : AI Z h' a ty n (upd f i x) := by
  obtain ⟨cl, A, r1, r2, r3⟩ := A
  refine ⟨_, A.same W, by rw [sz_set]; exact r1, r2, fun j hj => ?_⟩
  simp only [Cell.setSlot, upd]
  by_cases q : j = i
  · subst q; rw [if_pos rfl]; exact ⟨by simp [r1, hj], hv⟩
  · rw [if_neg q, Array.getElem?_setIfInBounds_ne (Ne.symm q)]; exact r3 j hj
/-- a place within the length -/
def PV (h0 : Heap) (v : Option Value) (h : Heap) (L : List Loc) : Prop := v = none ∧ L = [] ∧ h = h0
def inb (j : Int32) (n : Nat) : Prop := ¬ j < 0 ∧ j.toNatClampNeg < n
theorem inb.no {cl : Cell} {j : Int32} {n : Nat} (q : inb j n) (r : cl.slots.size = n) : ¬ (j < 0 ∨ cl.slots.size ≤ j.toNatClampNeg) := by rw [r]; exact fun z => z.elim q.1 (fun z => absurd q.2 (Nat.not_lt.mpr z))
theorem Go.alen (X : Stand p l e R s m args below meth c T locs cells slots) (hx : p.tables.exec = Jvm.exec) (hZ : Z.Warmed39 s.vm) (eT : T.heap = h) {a : Addr} {ty : FieldType} {n : Nat} {f : Nat → Int32} (A : AI Z h a ty n f) {pc : Nat} {Ls : Array Slot} {st : List Value} (hd : decode c.code pc = .ok (.arraylength, 1))
    (K : Go p e below W T (mkF m (pc + 1) Ls (.int n.toInt32 :: st))) : Go p e below W T (mkF m pc Ls (.ref a :: st)) := by
  obtain ⟨cl, A, r1, -⟩ := A
  subst r1
  exact Go.of (fun t k => X.arraylength hx (by rw [eT]; exact A.1) (State.isArrayOf_alike hZ.alike A.2.1) (g := mkF m pc Ls (.ref a :: st)) rfl rfl hd t k) K
theorem Go.iald (X : Stand p l e R s m args below meth c T locs cells slots) (hx : p.tables.exec = Jvm.exec) (hZ : Z.Warmed39 s.vm) (eT : T.heap = h) {a : Addr} {n : Nat} {f : Nat → Int32} (A : AI Z h a .int n f) {j : Int32} (hj : inb j n) {pc : Nat} {Ls : Array Slot} {st : List Value} (hd : decode c.code pc = .ok (.iaload, 1))
    (K : Go p e below W T (mkF m (pc + 1) Ls (.int (f j.toNatClampNeg) :: st))) : Go p e below W T (mkF m pc Ls (.int j :: .ref a :: st)) := by
  obtain ⟨cl, A, r1, -, r3⟩ := A
  exact Go.of (fun t k => X.iaload hx (j := j) (v := .int (f j.toNatClampNeg)) (by rw [eT]; exact A.1) (State.isArrayOf_alike hZ.alike A.2.1) A.2.2 (hj.no r1) (r3 _ hj.2).1 (g := mkF m pc Ls (.int j :: .ref a :: st)) rfl rfl hd t k) K
theorem Go.cald (X : Stand p l e R s m args below meth c T locs cells slots) (hx : p.tables.exec = Jvm.exec) (hZ : Z.Warmed39 s.vm) (eT : T.heap = h) {a : Addr} {n : Nat} {f : Nat → Int32} (A : AI Z h a .char n f) {j : Int32} (hj : inb j n) {pc : Nat} {Ls : Array Slot} {st : List Value} (hd : decode c.code pc = .ok (.caload, 1))
    (K : Go p e below W T (mkF m (pc + 1) Ls (.int (f j.toNatClampNeg) :: st))) : Go p e below W T (mkF m pc Ls (.int j :: .ref a :: st)) := by
  obtain ⟨cl, A, r1, -, r3⟩ := A
  exact Go.of (fun t k => X.caload hx (j := j) (v := .int (f j.toNatClampNeg)) (by rw [eT]; exact A.1) (State.isArrayOf_alike hZ.alike A.2.1) A.2.2 (hj.no r1) (r3 _ hj.2).1 (g := mkF m pc Ls (.int j :: .ref a :: st)) rfl rfl hd t k) K
theorem Go.bald (X : Stand p l e R s m args below meth c T locs cells slots) (hx : p.tables.exec = Jvm.exec) (hZ : Z.Warmed39 s.vm) (eT : T.heap = h) {a : Addr} {n : Nat} {f : Nat → Int32} (A : AI Z h a .byte n f) {j : Int32} (hj : inb j n) {pc : Nat} {Ls : Array Slot} {st : List Value} (hd : decode c.code pc = .ok (.baload, 1))
    (K : Go p e below W T (mkF m (pc + 1) Ls (.int (f j.toNatClampNeg) :: st))) : Go p e below W T (mkF m pc Ls (.int j :: .ref a :: st)) := by
  obtain ⟨cl, A, r1, -, r3⟩ := A
  exact Go.of (fun t k => X.baloadBytes hx (j := j) (v := .int (f j.toNatClampNeg)) (by rw [eT]; exact A.1) (State.isArrayOf_alike hZ.alike A.2.1) A.2.2 (hj.no r1) (r3 _ hj.2).1 (g := mkF m pc Ls (.int j :: .ref a :: st)) rfl rfl hd t k) K
theorem Go.zald (X : Stand p l e R s m args below meth c T locs cells slots) (hx : p.tables.exec = Jvm.exec) (hZ : Z.Warmed39 s.vm) (eT : T.heap = h) {a : Addr} {n : Nat} {f : Nat → Int32} (A : AI Z h a .boolean n f) {j : Int32} (hj : inb j n) {pc : Nat} {Ls : Array Slot} {st : List Value} (hd : decode c.code pc = .ok (.baload, 1))
    (K : Go p e below W T (mkF m (pc + 1) Ls (.int (f j.toNatClampNeg) :: st))) : Go p e below W T (mkF m pc Ls (.int j :: .ref a :: st)) := by
  obtain ⟨cl, A, r1, -, r3⟩ := A
  exact Go.of (fun t k => X.baloadBooleans hx (j := j) (v := .int (f j.toNatClampNeg)) (by rw [eT]; exact A.1) (State.isArrayOf_alike hZ.alike A.2.1) A.2.2 (hj.no r1) (r3 _ hj.2).1 (g := mkF m pc Ls (.int j :: .ref a :: st)) rfl rfl hd t k) K
theorem Go.ist (X : Stand p l e R s m args below meth c T locs cells slots) (hx : p.tables.exec = Jvm.exec) (hZ : Z.Warmed39 s.vm) (eT : T.heap = h) {n0 : Nat} (N : Fr n0 locs) {a : Addr} (ga : n0 ≤ a) {n : Nat} {f : Nat → Int32} (A : AI Z h a .int n f) {j x : Int32} (hj : inb j n) {pc : Nat} {Ls : Array Slot} {st : List Value} (hd : decode c.code pc = .ok (.iastore, 1))
    (K : ∀ T' h' L', Stand p l e R s m args below meth c T' L' cells slots → Fr n0 L' → T'.heap = h' → Wr h h' a j.toNatClampNeg (.int x) → AI Z h' a .int n (upd f j.toNatClampNeg x) → Go p e below W T' (mkF m (pc + 1) Ls st)) : Go p e below W T (mkF m pc Ls (.int x :: .int j :: .ref a :: st)) := by
  obtain ⟨cl, A', r1, r2, r3⟩ := id A
  obtain ⟨T', h', X', e', W', st'⟩ := stI X hx hZ eT A' (j := j) (hj.no r1) (g := mkF m pc Ls (.int x :: .int j :: .ref a :: st)) rfl rfl hd
  exact Go.of st' (K _ _ _ X' (Fr.snoc X' N ga) e' W' (A.set W' rfl))
theorem Go.bst (X : Stand p l e R s m args below meth c T locs cells slots) (hx : p.tables.exec = Jvm.exec) (hZ : Z.Warmed39 s.vm) (eT : T.heap = h) {n0 : Nat} (N : Fr n0 locs) {a : Addr} (ga : n0 ≤ a) {n : Nat} {f : Nat → Int32} (A : AI Z h a .byte n f) {j x : Int32} (hj : inb j n) {pc : Nat} {Ls : Array Slot} {st : List Value} (hd : decode c.code pc = .ok (.bastore, 1))
    (K : ∀ T' h' L', Stand p l e R s m args below meth c T' L' cells slots → Fr n0 L' → T'.heap = h' → Wr h h' a j.toNatClampNeg (.int (nar .byte x)) → AI Z h' a .byte n (upd f j.toNatClampNeg (nar .byte x)) → Go p e below W T' (mkF m (pc + 1) Ls st)) : Go p e below W T (mkF m pc Ls (.int x :: .int j :: .ref a :: st)) := by
  obtain ⟨cl, A', r1, r2, r3⟩ := id A
  obtain ⟨T', h', X', e', W', st'⟩ := stB X hx hZ eT A' (j := j) (hj.no r1) (g := mkF m pc Ls (.int x :: .int j :: .ref a :: st)) rfl rfl hd
  exact Go.of st' (K _ _ _ X' (Fr.snoc X' N ga) e' W' (A.set W' (fits_nar_byte _)))
theorem Go.zst (X : Stand p l e R s m args below meth c T locs cells slots) (hx : p.tables.exec = Jvm.exec) (hZ : Z.Warmed39 s.vm) (eT : T.heap = h) {n0 : Nat} (N : Fr n0 locs) {a : Addr} (ga : n0 ≤ a) {n : Nat} {f : Nat → Int32} (A : AI Z h a .boolean n f) {j x : Int32} (hj : inb j n) {pc : Nat} {Ls : Array Slot} {st : List Value} (hd : decode c.code pc = .ok (.bastore, 1))
    (K : ∀ T' h' L', Stand p l e R s m args below meth c T' L' cells slots → Fr n0 L' → T'.heap = h' → Wr h h' a j.toNatClampNeg (.int (nar .boolean x)) → AI Z h' a .boolean n (upd f j.toNatClampNeg (nar .boolean x)) → Go p e below W T' (mkF m (pc + 1) Ls st)) : Go p e below W T (mkF m pc Ls (.int x :: .int j :: .ref a :: st)) := by
  obtain ⟨cl, A', r1, r2, r3⟩ := id A
  obtain ⟨T', h', X', e', W', st'⟩ := stZ X hx hZ eT A' (j := j) (hj.no r1) (g := mkF m pc Ls (.int x :: .int j :: .ref a :: st)) rfl rfl hd
  exact Go.of st' (K _ _ _ X' (Fr.snoc X' N ga) e' W' (A.set W' (fits_nar_bool _)))
theorem Go.cst (X : Stand p l e R s m args below meth c T locs cells slots) (hx : p.tables.exec = Jvm.exec) (hZ : Z.Warmed39 s.vm) (eT : T.heap = h) {n0 : Nat} (N : Fr n0 locs) {a : Addr} (ga : n0 ≤ a) {n : Nat} {f : Nat → Int32} (A : AI Z h a .char n f) {j x : Int32} (hj : inb j n) {pc : Nat} {Ls : Array Slot} {st : List Value} (hd : decode c.code pc = .ok (.castore, 1))
    (K : ∀ T' h' L', Stand p l e R s m args below meth c T' L' cells slots → Fr n0 L' → T'.heap = h' → Wr h h' a j.toNatClampNeg (.int (nar .char x)) → AI Z h' a .char n (upd f j.toNatClampNeg (nar .char x)) → Go p e below W T' (mkF m (pc + 1) Ls st)) : Go p e below W T (mkF m pc Ls (.int x :: .int j :: .ref a :: st)) := by
  obtain ⟨cl, A', r1, r2, r3⟩ := id A
  obtain ⟨T', h', X', e', W', st'⟩ := stC X hx hZ eT A' (j := j) (hj.no r1) (g := mkF m pc Ls (.int x :: .int j :: .ref a :: st)) rfl rfl hd
  exact Go.of st' (K _ _ _ X' (Fr.snoc X' N ga) e' W' (A.set W' (fits_nar_char _)))
theorem AI.new {b cA : Nat} {ty : FieldType} {n : Int32} (A : Arr Z h b (newA cA ty n) ty) (hd : defaultValue ty = .int 0) (hf : fits ty (.int 0) = true) : AI Z h b ty n.toNatClampNeg (fun _ => 0) := by
  refine ⟨_, A, sz_new _ _ _, ?_, fun j hj => ?_⟩
  · show n.toInt.toNat < 2 ^ 31
    have := n.toInt_lt; omega
  · exact ⟨by simp [newA, hj, hd], hf⟩
theorem Go.newA (X : Stand p l e R s m args below meth c T locs cells slots) (hx : p.tables.exec = Jvm.exec) (hZ : Z.Warmed39 s.vm) {aty : ArrayType} (w : (Jvm.Cond.arrayClass (newarray.typeOf aty)).before a0 Z = true) (hdef : defaultValue (newarray.typeOf aty) = .int 0) (hft : fits (newarray.typeOf aty) (.int 0) = true) {ad : String} (had : "[" ++ (newarray.typeOf aty).toString = ad) (eT : T.heap = h) {pc : Nat} {Ls : Array Slot} {n : Int32} {st : List Value} (hd : decode c.code pc = .ok (.newarray aty, 2))
    (hn : ¬ n < 0) {cap : Nat} (hcap : n.toNatClampNeg ≤ cap) (hb : cap * 8 ≤ 536870912) (hc : cells + 1 ≤ R.cells) (hl : slots + cap ≤ R.slots)
    (K : ∀ T' h' b, b = h.size → Stand p l e R s m args below meth c T' locs (cells + 1) (slots + cap) → T'.heap = h' → Ext h h' → Exa Z h' b ad → AI Z h' b (newarray.typeOf aty) n.toNatClampNeg (fun _ => 0) → Go p e below W T' (mkF m (pc + 2) Ls (.ref b :: st))) : Go p e below W T (mkF m pc Ls (.int n :: st)) := by
  obtain ⟨T', h', cA, X', e', E', A', B', st'⟩ := newPE X hx hZ w eT (g := mkF m pc Ls (.int n :: st)) rfl hd rfl hn hcap hb hc hl had
  exact Go.of st' (K _ _ _ rfl X' e' E' B' (AI.new A' hdef hft))
theorem Go.newO (X : Stand p l e R s m args below meth c T locs cells slots) (hx : p.tables.exec = Jvm.exec) (hZ : Z.Warmed39 s.vm) {own C : String} {index n : Nat} (hown : s.vm.findClass own = some m.cls) (w : (Jvm.Cond.classLink own index C).before a0 Z = true) (wi : (Jvm.Cond.instantiable C n).before a0 Z = true) (wz : (Jvm.Cond.initialized C).before a0 Z = true) (eT : T.heap = h)
    {pc : Nat} {Ls : Array Slot} {st : List Value} (hd : decode c.code pc = .ok (.new index, 3)) (hc : cells + 1 ≤ R.cells) (hl : slots + n ≤ R.slots)
    (K : ∀ T' h' b, b = h.size → Stand p l e R s m args below meth c T' locs (cells + 1) (slots + n) → T'.heap = h' → Ext h h' → Exa Z h' b C → (∀ {O nm d : String} {ty : FieldType}, Laid Z a0 C O nm d → parseFieldDescriptor d = some ty → Fld Z h' b O nm d (defaultValue ty)) → Go p e below W T' (mkF m (pc + 3) Ls (.ref b :: st))) : Go p e below W T (mkF m pc Ls st) := by
  obtain ⟨T', h', X', e', E', A', D', -, st'⟩ := Jvm.RoadKit.newO X hx hZ hown w wi wz eT (g := mkF m pc Ls st) rfl hd hc hl
  exact Go.of st' (K _ _ _ rfl X' e' E' A' D')
theorem Go.getF (X : Stand p l e R s m args below meth c T locs cells slots) (hx : p.tables.exec = Jvm.exec) (hZ : Z.Warmed39 s.vm) {own O n d : String} {index : Nat} (hown : s.vm.findClass own = some m.cls) (w : (Jvm.Cond.fieldLink own index O n d).before a0 Z = true) (eT : T.heap = h) {a : Addr} {v : Value} (F : Fld Z h a O n d v)
    {pc : Nat} {Ls : Array Slot} {st : List Value} (hd : decode c.code pc = .ok (.getfield index, 3)) (K : ∀ T', Stand p l e R s m args below meth c T' locs cells slots → T'.heap = h → Go p e below W T' (mkF m (pc + 3) Ls (v :: st))) : Go p e below W T (mkF m pc Ls (.ref a :: st)) := by
  obtain ⟨T', X', e', st'⟩ := Jvm.RoadKit.getF X hx hZ hown (host := "") (Or.inl w) Via.refl eT F (g := mkF m pc Ls (.ref a :: st)) rfl rfl hd
  exact Go.of st' (K _ X' e')
theorem Go.putF (X : Stand p l e R s m args below meth c T locs cells slots) (hx : p.tables.exec = Jvm.exec) (hZ : Z.Warmed39 s.vm) {own O n d C : String} {index kk : Nat} {ty : FieldType} (hown : s.vm.findClass own = some m.cls) (w : (Jvm.Cond.fieldLink own index O n d).before a0 Z = true) (eT : T.heap = h) {n0 : Nat} (N : Fr n0 locs) {a : Addr} (ga : n0 ≤ a) {v old : Value} (F : Fld Z h a O n d old) (E : Exa Z h a C)
    (L : (Jvm.Cond.lays C O n d).before a0 Z = true ∨ ((Jvm.Cond.laysFinal C O n d).before a0 Z = true ∧ own = O ∧ meth.name = "<init>")) (wi : (Jvm.Cond.instantiable C kk).before a0 Z = true) (hty : parseFieldDescriptor d = some ty) {v' : Value} (hn : narrow ty v = v') (hf : fits ty v' = true)
    {pc : Nat} {Ls : Array Slot} {st : List Value} (hd : decode c.code pc = .ok (.putfield index, 3)) (K : ∀ T' h' L', Stand p l e R s m args below meth c T' L' cells slots → Fr n0 L' → T'.heap = h' → Wr h h' a (Jvm.RoadKit.slotOf Z O n d) v' → Fld Z h' a O n d v' → Go p e below W T' (mkF m (pc + 3) Ls st)) : Go p e below W T (mkF m pc Ls (v :: .ref a :: st)) := by
  obtain ⟨T', h', X', e', W', st'⟩ := putFN X hx hZ hown w Via.refl eT F E L wi hty hn hf (g := mkF m pc Ls (v :: .ref a :: st)) rfl rfl hd
  exact Go.of st' (K _ _ _ X' (Fr.snoc X' N ga) e' W' (F.same W'))
theorem Go.initO (X : Stand p l e R s m args below meth c T locs cells slots) (hx : p.tables.exec = Jvm.exec) (hZ : Z.Warmed39 s.vm) {own : String} {idx : Nat} (hown : s.vm.findClass own = some m.cls) (w1 : (Jvm.Cond.methodLink own idx Lib.objectInit).before a0 Z = true) (w2 : (Jvm.Cond.instanceMethod Lib.objectInit).before a0 Z = true)
    (w3 : (Jvm.Cond.code Lib.objectInit Jvm.LibCode.Object.Init0.code 1 none).before a0 Z = true) (eT : T.heap = h) {pc : Nat} {Ls : Array Slot} {st : List Value} (hsize : Ls.size = c.maxLocals) {a : Addr} (hd : decode c.code pc = .ok (.invokespecial idx, 3)) (hf : 1 ≤ R.frames) {V : Nat} (hV : (st.map fun v => v.category).sum ≤ V) (hl : V + 12 ≤ R.locals)
    (K : ∀ T', Stand p l e R s m args below meth c T' locs cells slots → T'.heap = h → Go p e below W T' (mkF m (pc + 3) Ls st)) : Go p e below W T (mkF m pc Ls (.ref a :: st)) := by
  obtain ⟨T', X', e', st'⟩ := Jvm.RoadKit.initO X hx hZ hown w1 w2 w3 eT (g := mkF m pc Ls (.ref a :: st)) rfl hsize rfl hd hf (W := V) (by show 2 * 0 + _ ≤ _; omega) hl
  exact Go.of st' (K _ X' e')
/-- a constructor by its contract -/
theorem Go.callI (X : Stand p l e R s m args below meth c T locs cells slots) (hx : p.tables.exec = Jvm.exec) (hZ : Z.Warmed39 s.vm) {own : String} {index : Nat} {y : MethodName} {bytes : ByteArray} {maxL : Nat} {rm : Room} {as' : Array Value} {Q : Option Value → Heap → List Loc → Prop} (hy1 : y.name = "<init>") (hown : s.vm.findClass own = some m.cls)
    (w1 : (Jvm.Cond.methodLink own index y).before a0 Z = true) (w2 : (Jvm.Cond.instanceMethod y).before a0 Z = true) (w3 : (Jvm.Cond.initialized y.cls).before a0 Z = true) (w4 : (Jvm.Cond.code y bytes maxL none).before a0 Z = true) (hy : y.cls ≠ "java/lang/invoke/MethodHandle" ∧ y.cls ≠ "java/lang/invoke/VarHandle") (eT : T.heap = h)
    (hM : Con l Z y bytes maxL none [] rm as' h Q) {V : Nat} (hf : rm.frames + 1 ≤ R.frames) (hl : V + (maxL + 11) + rm.locals ≤ R.locals) (hc : cells + rm.cells ≤ R.cells) (hs : slots + rm.slots ≤ R.slots)
    {pc : Nat} {Ls : Array Slot} {st : List Value} (hsize : Ls.size = c.maxLocals) {a : Addr} {argsL rest : List Value} (has : (.ref a :: argsL).toArray = as') (hlen : ∀ sig, parseMethodDescriptor y.desc = some sig → argsL.length = sig.parameters.length) (hstack : st = argsL.reverse ++ .ref a :: rest) (hV : (rest.map fun v => v.category).sum ≤ V) (hd : decode c.code pc = .ok (.invokespecial index, 3))
    (K : ∀ T' v L, Q v T'.heap L → Stand p l e R s m args below meth c T' (locs ++ L) (cells + rm.cells) (slots + rm.slots) → Go p e below W T' (mkF m (pc + 3) Ls (v.toList ++ rest))) : Go p e below W T (mkF m pc Ls st) := by
  obtain ⟨v, vm₁, ⟨T', L', k', n'⟩, -, X', ⟨L, hQ, e1, e2, e3⟩, st'⟩ := X.specialBack hx hy1 hown (mvT hZ w1) (mvT hZ w2) (mvT hZ w4) hy (backOf (W := V) hM hZ w4 w3 hf hl) (g := mkF m pc Ls st) rfl hsize (Steps.refl _) hlen hstack (by show 2 * 0 + _ ≤ _; omega) hd (fun _ _ => ⟨has, eT, hc, hs⟩)
  dsimp only [Pt.U, Pt.locs, Pt.cells, Pt.slots] at X' e1 e2 e3 st' hQ
  subst e1 e2 e3
  exact Go.of (fun _ k => st'.trans k) (K _ _ _ hQ X')
/-- an instance method by the contract of the body that the receiver's class selects -/
theorem Go.callV (X : Stand p l e R s m args below meth c T locs cells slots) (hx : p.tables.exec = Jvm.exec) (hZ : Z.Warmed39 s.vm) {own C : String} {index : Nat} {y : MethodName} {bytes : ByteArray} {maxL : Nat} {ret : Option FieldType} {rm : Room} {as' : Array Value} {Q : Option Value → Heap → List Loc → Prop} (hown : s.vm.findClass own = some m.cls)
    (w1 : (Jvm.Cond.methodLink own index y).before a0 Z = true) (w5 : (Jvm.Cond.declares y).before a0 Z = true) (w6 : (Jvm.Cond.selects C y y).before a0 Z = true) (w2 : (Jvm.Cond.instanceMethod y).before a0 Z = true) (w3 : (Jvm.Cond.initialized y.cls).before a0 Z = true) (w4 : (Jvm.Cond.code y bytes maxL ret).before a0 Z = true) (hy : y.cls ≠ "java/lang/invoke/MethodHandle" ∧ y.cls ≠ "java/lang/invoke/VarHandle") (eT : T.heap = h)
    {a : Addr} (E : Exa Z h a C) (hM : Con l Z y bytes maxL ret [] rm as' h Q) {V : Nat} (hf : rm.frames + 1 ≤ R.frames) (hl : V + (maxL + 11) + rm.locals ≤ R.locals) (hc : cells + rm.cells ≤ R.cells) (hs : slots + rm.slots ≤ R.slots)
    {pc : Nat} {Ls : Array Slot} {st : List Value} (hsize : Ls.size = c.maxLocals) {argsL rest : List Value} (has : (.ref a :: argsL).toArray = as') (hlen : ∀ sig, parseMethodDescriptor y.desc = some sig → argsL.length = sig.parameters.length) (hstack : st = argsL.reverse ++ .ref a :: rest) (hV : (rest.map fun v => v.category).sum ≤ V) (hd : decode c.code pc = .ok (.invokevirtual index, 3))
    (K : ∀ T' v L, Q v T'.heap L → Stand p l e R s m args below meth c T' (locs ++ L) (cells + rm.cells) (slots + rm.slots) → Go p e below W T' (mkF m (pc + 3) Ls (v.toList ++ rest))) : Go p e below W T (mkF m pc Ls st) := by
  obtain ⟨cq, kq, qa, qb, qc⟩ := isOf hZ eT E
  obtain ⟨v, vm₁, ⟨T', L', k', n'⟩, -, X', ⟨L, hQ, e1, e2, e3⟩, st'⟩ := X.virtualBack hx hown (mvT hZ w1) (mvT hZ w5) (notFace_of_selects (args := #[]) (mvT hZ w6)) (mvT hZ w6) (mvT hZ w2) hy (backOf (W := V) hM hZ w4 w3 hf hl) qa qc (g := mkF m pc Ls st) rfl hsize (Steps.refl _) hlen hstack (by show 2 * 0 + _ ≤ _; omega) hd (fun _ _ => ⟨has, eT, hc, hs⟩)
  dsimp only [Pt.U, Pt.locs, Pt.cells, Pt.slots] at X' e1 e2 e3 st' hQ
  subst e1 e2 e3
  exact Go.of (fun _ k => st'.trans k) (K _ _ _ hQ X')
end OwnHeap
section OwnMore
variable {p : Program} {l : Launch} {e : Env} {R : Room} {s : State} {m : MethodId} {args : Array Value} {below : List Frame} {meth : Method} {c : Code} {T : State} {locs : List Loc} {cells slots : Nat} {Z : State} {a0 : Array Value} {h h' : Heap} {W : State → Outcome → Prop}
/-- the model's own selection picks a private method itself -/
theorem own_selects {y : MethodName} {n : Nat} (hy : y.cls ≠ "java/lang/invoke/MethodHandle" ∧ y.cls ≠ "java/lang/invoke/VarHandle") (hins : (Jvm.Cond.instantiable y.cls n).before args s = true) (hpriv : (Jvm.Cond.privateMethod y).before args s = true) (hinst : (Jvm.Cond.instanceMethod y).before args s = true) :
    (Jvm.Cond.selects y.cls y y).before args s = true := by
  obtain ⟨c, k, hc, hk, -, hniab, -, -⟩ := Cond.instantiable_spec hins
  have hni : k.isInterface = false := (Bool.or_eq_false_iff.mp hniab).1
  obtain ⟨mk, methM, hnamed, hmethM, -, -⟩ := Cond.instanceMethod_spec hinst
  have hfound : s.methodFound? y.cls y.name y.desc = some mk := State.methodFound?_of_named hnamed hy
  have hcls : mk.cls = c := Option.some.inj ((findClass_of_methodNamed hnamed).symm.trans hc)
  have hsel : selectMethod {} s.vm c mk = .method mk := selectMethod_private hmethM (Cond.privateMethod_at hpriv mk methM hnamed hmethM)
  simp only [Cond.before, Cond.holds, Cond.value, hc, hfound, hnamed, hsel, hcls, hk]
  simp; exact hni
theorem Go.callPr (X : Stand p l e R s m args below meth c T locs cells slots) (hx : p.tables.exec = Jvm.exec) (hZ : Z.Warmed39 s.vm) {own : String} {index kk : Nat} {y : MethodName} {bytes : ByteArray} {maxL : Nat} {ret : Option FieldType} {rm : Room} {as' : Array Value} {Q : Option Value → Heap → List Loc → Prop} (hown : s.vm.findClass own = some m.cls)
    (w1 : (Jvm.Cond.methodLink own index y).before a0 Z = true) (w5 : (Jvm.Cond.instantiable y.cls kk).before a0 Z = true) (w6 : (Jvm.Cond.privateMethod y).before a0 Z = true) (w2 : (Jvm.Cond.instanceMethod y).before a0 Z = true) (w3 : (Jvm.Cond.initialized y.cls).before a0 Z = true) (w4 : (Jvm.Cond.code y bytes maxL ret).before a0 Z = true) (hy : y.cls ≠ "java/lang/invoke/MethodHandle" ∧ y.cls ≠ "java/lang/invoke/VarHandle") (eT : T.heap = h)
    {a : Addr} {C : String} (E : Exa Z h a C) (hM : Con l Z y bytes maxL ret [] rm as' h Q) {V : Nat} (hf : rm.frames + 1 ≤ R.frames) (hl : V + (maxL + 11) + rm.locals ≤ R.locals) (hc : cells + rm.cells ≤ R.cells) (hs : slots + rm.slots ≤ R.slots)
    {pc : Nat} {Ls : Array Slot} {st : List Value} (hsize : Ls.size = c.maxLocals) {argsL rest : List Value} (has : (.ref a :: argsL).toArray = as') (hlen : ∀ sig, parseMethodDescriptor y.desc = some sig → argsL.length = sig.parameters.length) (hstack : st = argsL.reverse ++ .ref a :: rest) (hV : (rest.map fun v => v.category).sum ≤ V) (hd : decode c.code pc = .ok (.invokevirtual index, 3))
    (K : ∀ T' v L, Q v T'.heap L → Stand p l e R s m args below meth c T' (locs ++ L) (cells + rm.cells) (slots + rm.slots) → Go p e below W T' (mkF m (pc + 3) Ls (v.toList ++ rest))) : Go p e below W T (mkF m pc Ls st) := by
  obtain ⟨cq, q1, q2⟩ := E.cell
  obtain ⟨v, vm₁, ⟨T', L', k', n'⟩, -, X', ⟨L, hQ, e1, e2, e3⟩, st'⟩ := X.privateBack hx hown (mvT hZ w1) (mvT hZ w2) (own_selects hy (mvT hZ w5) (mvP hZ w6) (mvT hZ w2)) (Cond.privateMethod_at (mvP hZ w6 (args := #[]))) (mvT hZ w4) hy (backOf (W := V) hM hZ w4 w3 hf hl) (g := mkF m pc Ls st) rfl hsize (Steps.refl _) (a := a) (by rw [eT]; exact q1) q2 hlen hstack (by show 2 * 0 + _ ≤ _; omega) hd (fun _ _ => ⟨has, eT, hc, hs⟩)
  dsimp only [Pt.U, Pt.locs, Pt.cells, Pt.slots] at X' e1 e2 e3 st' hQ
  subst e1 e2 e3
  exact Go.of (fun _ k => st'.trans k) (K _ _ _ hQ X')
theorem Go.clone (X : Stand p l e R s m args below meth c T locs cells slots) (hx : p.tables.exec = Jvm.exec) (hZ : Z.Warmed39 s.vm) {own ad : String} {index : Nat} (hown : s.vm.findClass own = some m.cls)
    (w1 : (Jvm.Cond.methodLink own index ⟨ad, "clone", "()Ljava/lang/Object;"⟩).before a0 Z = true) (w2 : (Jvm.Cond.sameMethod ad "java/lang/Object" "clone" "()Ljava/lang/Object;").before a0 Z = true) (w3 : (Jvm.Cond.native ⟨"java/lang/Object", "clone", "()Ljava/lang/Object;"⟩).before a0 Z = true)
    (w4 : (Jvm.Cond.instanceMethod ⟨"java/lang/Object", "clone", "()Ljava/lang/Object;"⟩).before a0 Z = true) (w5 : (Jvm.Cond.selects ad ⟨ad, "clone", "()Ljava/lang/Object;"⟩ ⟨"java/lang/Object", "clone", "()Ljava/lang/Object;"⟩).before a0 Z = true) (w6 : (Jvm.Cond.castable ad "java/lang/Cloneable").before a0 Z = true)
    (eT : T.heap = h) {a : Addr} {ty : FieldType} {n : Nat} {f : Nat → Int32} (A : AI Z h a ty n f) (E : Exa Z h a ad) {pc : Nat} {Ls : Array Slot} {st : List Value} (hsize : Ls.size = c.maxLocals) (hd : decode c.code pc = .ok (.invokevirtual index, 3))
    (hf : 1 ≤ R.frames) {V cap : Nat} (hV : (st.map fun v => v.category).sum ≤ V) (hl : V + 14 ≤ R.locals) (hcap : n ≤ cap) (hc : cells + 1 ≤ R.cells) (hsl : slots + cap ≤ R.slots)
    (K : ∀ T' h' b, b = h.size → Stand p l e R s m args below meth c T' locs (cells + 1) (slots + cap) → T'.heap = h' → Ext h h' → Exa Z h' b ad → AI Z h' b ty n f → Go p e below W T' (mkF m (pc + 3) Ls (.ref b :: st))) : Go p e below W T (mkF m pc Ls (.ref a :: st)) := by
  obtain ⟨cl, A', r1, r2, r3⟩ := id A
  have FC : FitC Z cl := fitC_of A' fun i hi v hv => by rw [(r3 i (r1 ▸ hi)).1] at hv; cases hv; exact (r3 i (r1 ▸ hi)).2
  obtain ⟨T', h', X', e', ex, B', E', st'⟩ := cloneA X hx hZ hown w1 w2 w3 w4 w5 w6 eT A' E FC (g := mkF m pc Ls (.ref a :: st)) rfl hsize rfl hd hf (W := V) (by show 2 * 0 + _ ≤ _; omega) hl (by rw [r1]; exact hcap) hc hsl
  exact Go.of st' (K _ _ _ rfl X' e' ex E' ⟨cloneOf cl, B', r1, r2, r3⟩)
theorem Go.cast (X : Stand p l e R s m args below meth c T locs cells slots) (hx : p.tables.exec = Jvm.exec) (hZ : Z.Warmed39 s.vm) {own C : String} {index : Nat} (hown : s.vm.findClass own = some m.cls) (w : (Jvm.Cond.classLink own index C).before a0 Z = true) (eT : T.heap = h) {a : Addr} (E : Exa Z h a C)
    {pc : Nat} {Ls : Array Slot} {st : List Value} (hd : decode c.code pc = .ok (.checkcast index, 3)) (K : ∀ T', Stand p l e R s m args below meth c T' locs cells slots → T'.heap = h → Go p e below W T' (mkF m (pc + 3) Ls (.ref a :: st))) : Go p e below W T (mkF m pc Ls (.ref a :: st)) := by
  obtain ⟨T', X', e', st'⟩ := castY X hx hZ hown w eT (Ins.self E) (g := mkF m pc Ls (.ref a :: st)) rfl rfl hd
  exact Go.of st' (K _ X' e')
theorem AI.arv {a : Addr} {ty : FieldType} {n : Nat} {f : Nat → Int32} (A : AI Z h a ty n f) : ∃ k, Arv Z h a k ty (Int32.ofNat n) ((List.range n).map fun j => .int (f j)) (.int 0) := by
  obtain ⟨cl, A, r1, r2, r3⟩ := A
  have e1 : (Int32.ofNat n).toInt = n := Int32.toInt_ofNat_of_lt (by omega)
  have e2 : (Int32.ofNat n).toNatClampNeg = n := by rw [Int32.toNatClampNeg, e1]; rfl
  have e3 : ∀ k, k < n → ((List.range n).map fun j => Value.int (f j)).getD k (.int 0) = .int (f k) := fun k hk => by simp [List.getD_eq_getElem?_getD, hk]
  refine ⟨cl.cls, cl, A, rfl, by rw [e2]; exact r1, ?_, fun k hk => ?_, fun k hk => ?_⟩
  · rw [Int32.lt_iff_toInt_lt, e1, show (0 : Int32).toInt = 0 from rfl]; omega
  · rw [e3 k (r1 ▸ hk)]; exact (r3 k (r1 ▸ hk)).1
  · rw [e3 k (r1 ▸ hk)]; exact (r3 k (r1 ▸ hk)).2
theorem AI.of_arv {a : Addr} {k : ClassId} {ty : FieldType} {n : Nat} {z : Int32} {vs : List Value} {d : Value} {f : Nat → Int32} (A : Arv Z h a k ty z vs d) (hz : z.toNatClampNeg = n) (hn : n < 2 ^ 31) (q : ∀ j, j < n → vs.getD j d = .int (f j)) : AI Z h a ty n f := by
  obtain ⟨cl, A, -, S, -, H, G⟩ := A
  rw [hz] at S
  exact ⟨cl, A, S, hn, fun j hj => by rw [← q j hj]; exact ⟨H j (by omega), G j (by omega)⟩⟩
/-- what a copy of nn places from sp on to dp leaves -/
def cpf (f g : Nat → Int32) (sp dp nn : Nat) : Nat → Int32 := fun j => if dp ≤ j ∧ j < dp + nn then f (sp + (j - dp)) else g j
theorem Go.acopy (X : Stand p l e R s m args below meth c T locs cells slots) (hx : p.tables.exec = Jvm.exec) (hZ : Z.Warmed39 s.vm) {own : String} {index : Nat} (hown : s.vm.findClass own = some m.cls)
    (w1 : (Jvm.Cond.methodLink own index Jvm.Stand.acN).before a0 Z = true) (w2 : (Jvm.Cond.native Jvm.Stand.acN).before a0 Z = true) (w3 : (Jvm.Cond.static Jvm.Stand.acN).before a0 Z = true) (w4 : (Jvm.Cond.initialized "java/lang/System").before a0 Z = true) (eT : T.heap = h)
    {a b : Addr} {ty : FieldType} {n n' : Nat} {f g : Nat → Int32} (A : AI Z h a ty n f) (B : AI Z h b ty n' g) (hty : refKind ty = false) {sp dp nn : Int32} (h1 : ¬ sp < 0) (h2 : ¬ dp < 0) (h3 : ¬ nn < 0) (h4 : sp.toNatClampNeg + nn.toNatClampNeg ≤ n) (h5 : dp.toNatClampNeg + nn.toNatClampNeg ≤ n')
    {n0 : Nat} (N : Fr n0 locs) (gb : n0 ≤ b) {pc : Nat} {Ls : Array Slot} {st : List Value} (hsize : Ls.size = c.maxLocals) (hd : decode c.code pc = .ok (.invokestatic index, 3)) (hf : 1 ≤ R.frames) {V : Nat} (hV : (st.map fun v => v.category).sum ≤ V) (hlo : V + (nativeFrameWords "java/lang/System" "arraycopy" 5 + 11) ≤ R.locals)
    (K : ∀ T' h' L', Stand p l e R s m args below meth c T' L' cells slots → Fr n0 L' → T'.heap = h' → Keep h h' [b] → AI Z h' b ty n' (cpf f g sp.toNatClampNeg dp.toNatClampNeg nn.toNatClampNeg) → Go p e below W T' (mkF m (pc + 3) Ls st)) : Go p e below W T (mkF m pc Ls (.int nn :: .int dp :: .ref b :: .int sp :: .ref a :: st)) := by
  obtain ⟨ka, Va⟩ := A.arv
  obtain ⟨kb, Vb⟩ := B.arv
  have na := A.small
  have nb := B.small
  have ea : (Int32.ofNat n).toNatClampNeg = n := by rw [Int32.toNatClampNeg, Int32.toInt_ofNat_of_lt (by omega)]; rfl
  have eb : (Int32.ofNat n').toNatClampNeg = n' := by rw [Int32.toNatClampNeg, Int32.toInt_ofNat_of_lt (by omega)]; rfl
  obtain ⟨T', h', L', X', e', N', K', V', st'⟩ := cpA X hx hZ hown w1 w2 w3 w4 eT Va Vb (Or.inl ⟨rfl, hty⟩) h1 h2 h3 (by rw [ea]; exact h4) (by rw [eb]; exact h5) rfl (by simpa using h5) N gb (g := mkF m pc Ls (.int nn :: .int dp :: .ref b :: .int sp :: .ref a :: st)) rfl hsize rfl hd hf (W := V) (by show 2 * 0 + _ ≤ _; omega) hlo
  refine Go.of st' (K _ _ _ X' N' e' K' (AI.of_arv V' eb nb fun j hj => ?_))
  have l1 : (((List.range n').map fun j => Value.int (g j)).take dp.toNatClampNeg).length = dp.toNatClampNeg := by rw [List.length_take]; simp; omega
  simp only [List.getD_eq_getElem?_getD, cpf]
  by_cases c1 : j < dp.toNatClampNeg
  · rw [if_neg (by omega), List.append_assoc, List.getElem?_append_left (by omega), List.getElem?_take_of_lt c1]
    simp [hj]
  · by_cases c2 : j < dp.toNatClampNeg + nn.toNatClampNeg
    · rw [if_pos ⟨by omega, c2⟩, List.getElem?_append_left (by rw [List.length_append, l1]; simp; omega), List.getElem?_append_right (by omega), l1]
      have q1 : j - dp.toNatClampNeg < nn.toNatClampNeg := by omega
      have q2 : sp.toNatClampNeg + (j - dp.toNatClampNeg) < n := by omega
      simp [q1, q2]
    · rw [if_neg (by omega), List.getElem?_append_right (by rw [List.length_append, l1]; simp; omega), List.length_append, l1, List.getElem?_drop]
      simp only [List.length_map, List.length_range]
      rw [show dp.toNatClampNeg + nn.toNatClampNeg + (j - (dp.toNatClampNeg + nn.toNatClampNeg)) = j by omega]
      simp [hj]
end OwnMore
section OwnNats
theorem own_toInt {n : Nat} (h : n < 2147483648) : (Int32.ofNat n).toInt = n := Int32.toInt_ofNat_of_lt (by omega)
theorem own_lt {i n : Nat} (h : i < n) (hn : n < 2147483648) : Int32.ofNat i < Int32.ofNat n := by
  rw [Int32.lt_iff_toInt_lt, own_toInt (by omega), own_toInt (by omega)]
  omega
theorem own_nlt {i n : Nat} (h : n ≤ i) (hn : i < 2147483648) : ¬ Int32.ofNat i < Int32.ofNat n := by
  rw [Int32.lt_iff_toInt_lt, own_toInt (by omega), own_toInt (by omega)]
  omega
theorem own_nn {n : Nat} (hn : n < 2147483648) : ¬ Int32.ofNat n < 0 := by
  rw [Int32.lt_iff_toInt_lt, own_toInt hn, show (0 : Int32).toInt = 0 from rfl]
  omega
theorem own_n32 {n : Nat} (hn : n < 2147483648) : (Int32.ofNat n).toNatClampNeg = n := by
  rw [Int32.toNatClampNeg, own_toInt hn]; rfl
theorem own_one (i : Nat) : Int32.ofNat i + (1 : Int32) = Int32.ofNat (i + 1) := (Int32.ofNat_add i 1).symm
theorem own_inbN {i n : Nat} (h : i < n) (hn : n ≤ 2147483648) : inb (Int32.ofNat i) n := ⟨own_nn (by omega), by rw [own_n32 (by omega)]; exact h⟩
theorem own_back {x : Int32} (h : ¬ x < 0) : Int32.ofNat x.toNatClampNeg = x := (back32 h).1
end OwnNats

def own_rng (a b : Int32) : Prop := 1 ≤ a.toInt ∧ a.toInt ≤ b.toInt ∧ b.toInt ≤ 4
def own_rk (a : Int32) : Prop := 1 ≤ a.toInt ∧ a.toInt ≤ 4
def own_rs (a : Int32) : Prop := 0 ≤ a.toInt ∧ a.toInt ≤ 4
theorem own_zero {n : Nat} (h : 0 < n := by decide) : ∀ j : Nat, j < n → inb (0 : Int32) n := fun _ _ => ⟨by decide, h⟩
theorem own_updin {f : Nat → Int32} {i n : Nat} {x : Int32} (h : ∀ j, j < n → inb (f j) n) (hx : inb x n) : ∀ j, j < n → inb (upd f i x j) n := fun j hj => by
  simp only [upd]
  by_cases q : j = i
  · rw [if_pos q]; exact hx
  · rw [if_neg q]; exact h j hj
theorem own_in5 {x : Int32} (h0 : 0 ≤ x.toInt) (h1 : x.toInt < 5) : inb x 5 := by
  refine ⟨?_, ?_⟩
  · rw [Int32.lt_iff_toInt_lt, show (0 : Int32).toInt = 0 from rfl]; omega
  · show x.toInt.toNat < 5
    omega
theorem own_b1 {a b : Int32} (h : own_rng a b) : inb a 5 := own_in5 (by have := h.1; omega) (by have := h.2; omega)
theorem own_b2 {a b : Int32} (h : own_rng a b) : inb b 5 := own_in5 (by have := h.1; have := h.2; omega) (by have := h.2; omega)
theorem own_up {a : Int32} (h : a.toInt ≤ 1000) : (a + 1).toInt = a.toInt + 1 := by
  have e : ((a + 1).toInt - (a.toInt + 1)) % 4294967296 = 0 := c_iadd a 1
  have r1 := rng32 a
  have r2 := rng32 (a + 1)
  omega
theorem own_dn {a : Int32} (h : -1000 ≤ a.toInt) : (a + -1).toInt = a.toInt - 1 := by
  have e : ((a + -1).toInt - (a.toInt + -1)) % 4294967296 = 0 := c_iadd a (-1)
  have r1 := rng32 a
  have r2 := rng32 (a + -1)
  omega
theorem own_b3 {a b : Int32} (h : own_rng a b) (c : a + 1 < b + -1) : inb (a + 1) 5 := by
  obtain ⟨h1, h2, h3⟩ := h
  rw [Int32.lt_iff_toInt_lt, own_up (by omega), own_dn (by omega)] at c
  exact own_in5 (by rw [own_up (by omega)]; omega) (by rw [own_up (by omega)]; omega)
theorem own_b4 {a b : Int32} (h : own_rng a b) (c : a + 1 < b + -1) : inb (b + -1) 5 := by
  obtain ⟨h1, h2, h3⟩ := h
  rw [Int32.lt_iff_toInt_lt, own_up (by omega), own_dn (by omega)] at c
  exact own_in5 (by rw [own_dn (by omega)]; omega) (by rw [own_dn (by omega)]; omega)
theorem own_done {a b : Int32} (h : own_rng a b) : ¬ a + 1 + 1 < b + -1 + -1 := by
  obtain ⟨h1, h2, h3⟩ := h
  rw [Int32.lt_iff_toInt_lt, own_up (by rw [own_up (by omega)]; omega), own_up (by omega), own_dn (by rw [own_dn (by omega)]; omega), own_dn (by omega)]
  omega
theorem own_b5 {a b x : Int32} (h : own_rng a b) (c1 : ¬ x < a) (c2 : ¬ b < x) : inb (a + b - x) 5 := by
  obtain ⟨h1, h2, h3⟩ := h
  rw [Int32.lt_iff_toInt_lt] at c1 c2
  have e1 : ((a + b).toInt - (a.toInt + b.toInt)) % 4294967296 = 0 := c_iadd a b
  have r1 := rng32 (a + b)
  have e2 : ((a + b - x).toInt - ((a + b).toInt - x.toInt)) % 4294967296 = 0 := c_isub (a + b) x
  have r2 := rng32 (a + b - x)
  exact own_in5 (by omega) (by omega)
theorem own_nz {a b : Int32} (h : own_rng a b) : (5 : Int32) - a ≠ 0 := by
  obtain ⟨h1, h2, h3⟩ := h
  have e : ((5 - a).toInt - (5 - a.toInt)) % 4294967296 = 0 := c_isub 5 a
  have r := rng32 (5 - a)
  intro q
  rw [q, show (0 : Int32).toInt = 0 from rfl] at e
  omega

def own_rng0 (a b : Int32) : Prop := 0 ≤ a.toInt ∧ a.toInt ≤ b.toInt ∧ b.toInt ≤ 4
def own_P (a b p : Int32) (k : Int) : Prop := own_rng0 a b ∧ p.toInt = a.toInt + k ∧ p.toInt ≤ 4 ∧ 0 ≤ k
theorem own_first {a b : Int32} (h : own_rng0 a b) : own_P a b a 0 := by
  obtain ⟨h1, h2, h3⟩ := h
  exact ⟨⟨h1, h2, h3⟩, by omega, by omega, by omega⟩
theorem own_stepP {a b p : Int32} {k : Int} (h : own_P a b p k) (c : ¬ b < p + 1) : own_P a b (p + 1) (k + 1) := by
  obtain ⟨⟨h1, h2, h3⟩, h4, h5, h6⟩ := h
  rw [Int32.lt_iff_toInt_lt, own_up (by omega)] at c
  exact ⟨⟨h1, h2, h3⟩, by rw [own_up (by omega)]; omega, by rw [own_up (by omega)]; omega, by omega⟩
theorem own_inP {a b p : Int32} {k : Int} (h : own_P a b p k) : inb p 5 := by
  obtain ⟨⟨h1, h2, h3⟩, h4, h5, h6⟩ := h
  exact own_in5 (by omega) (by omega)
theorem own_stopP {a b p : Int32} (h : own_P a b p (0 + 1 + 1 + 1 + 1)) : b < p + 1 := by
  obtain ⟨⟨h1, h2, h3⟩, h4, h5, h6⟩ := h
  rw [Int32.lt_iff_toInt_lt, own_up (by omega)]; omega
theorem own_b7 {a b x : Int32} (h : own_rng0 a b) (c1 : ¬ x < a) (c2 : ¬ b < x) : inb (a + b - x) 5 := by
  obtain ⟨h1, h2, h3⟩ := h
  rw [Int32.lt_iff_toInt_lt] at c1 c2
  have e1 : ((a + b).toInt - (a.toInt + b.toInt)) % 4294967296 = 0 := c_iadd a b
  have r1 := rng32 (a + b)
  have e2 : ((a + b - x).toInt - ((a + b).toInt - x.toInt)) % 4294967296 = 0 := c_isub (a + b) x
  have r2 := rng32 (a + b - x)
  exact own_in5 (by omega) (by omega)
theorem own_b8 {a b x : Int32} (h : own_rng0 a b) (c1 : ¬ x < a) (c2 : ¬ b < x) : inb (if x = b then a else x + 1) 5 := by
  obtain ⟨h1, h2, h3⟩ := h
  rw [Int32.lt_iff_toInt_lt] at c1 c2
  by_cases q : x = b
  · rw [if_pos q]; exact own_in5 (by omega) (by omega)
  · rw [if_neg q]
    have : x.toInt ≠ b.toInt := fun z => q (Int32.toInt_inj.mp z)
    exact own_in5 (by rw [own_up (by omega)]; omega) (by rw [own_up (by omega)]; omega)
theorem own_nz0 {a b : Int32} (h : own_rng0 a b) : (5 : Int32) - a ≠ 0 := by
  obtain ⟨h1, h2, h3⟩ := h
  have e : ((5 - a).toInt - (5 - a.toInt)) % 4294967296 = 0 := c_isub 5 a
  have r := rng32 (5 - a)
  intro q
  rw [q, show (0 : Int32).toInt = 0 from rfl] at e
  omega
def own_R (p5 : Int32) : Int32 := if (p5 &&& (1 : Int32)) = (0 : Int32) then (0 : Int32) else (1 : Int32)
theorem pd___IIIIZ_I : parseMethodDescriptor "([IIIIZ)I" = some ⟨[(.array .int), .int, .int, .int, .boolean], some .int⟩ := by decide +kernel
theorem pd___I_V : parseMethodDescriptor "([I)V" = some ⟨[(.array .int)], none⟩ := by decide +kernel
theorem pd__Lcom_example_pilfer_pilfer_Tour_II_V : parseMethodDescriptor "(Lcom/example/pilfer/pilfer/Tour;II)V" = some ⟨[(.object "com/example/pilfer/pilfer/Tour"), .int, .int], none⟩ := by decide +kernel
theorem pd____I : parseMethodDescriptor "()[I" = some ⟨[], some (.array .int)⟩ := by decide +kernel
theorem pd__I_I : parseMethodDescriptor "(I)I" = some ⟨[.int], some .int⟩ := by decide +kernel
theorem d2_0 : decode prog_24_method_1_code 0 = .ok (.aload_n 0, 1) := by decide +kernel
theorem d2_1 : decode prog_24_method_1_code 1 = .ok (.invokespecial 1, 3) := by decide +kernel
theorem d2_4 : decode prog_24_method_1_code 4 = .ok (.aload_n 0, 1) := by decide +kernel
theorem d2_5 : decode prog_24_method_1_code 5 = .ok (.aload_n 1, 1) := by decide +kernel
theorem d2_6 : decode prog_24_method_1_code 6 = .ok (.putfield 7, 3) := by decide +kernel
theorem d2_9 : decode prog_24_method_1_code 9 = .ok (.aload_n 0, 1) := by decide +kernel
theorem d2_10 : decode prog_24_method_1_code 10 = .ok (.aload_n 1, 1) := by decide +kernel
theorem d2_11 : decode prog_24_method_1_code 11 = .ok (.arraylength, 1) := by decide +kernel
theorem d2_12 : decode prog_24_method_1_code 12 = .ok (.newarray .int, 2) := by decide +kernel
theorem d2_14 : decode prog_24_method_1_code 14 = .ok (.putfield 13, 3) := by decide +kernel
theorem d2_17 : decode prog_24_method_1_code 17 = .ok (.iconst 0, 1) := by decide +kernel
theorem d2_18 : decode prog_24_method_1_code 18 = .ok (.istore_n 2, 1) := by decide +kernel
theorem d2_19 : decode prog_24_method_1_code 19 = .ok (.iload_n 2, 1) := by decide +kernel
theorem d2_20 : decode prog_24_method_1_code 20 = .ok (.aload_n 1, 1) := by decide +kernel
theorem d2_21 : decode prog_24_method_1_code 21 = .ok (.arraylength, 1) := by decide +kernel
theorem d2_22 : decode prog_24_method_1_code 22 = .ok (.if_icmp .ge 18, 3) := by decide +kernel
theorem d2_25 : decode prog_24_method_1_code 25 = .ok (.aload_n 0, 1) := by decide +kernel
theorem d2_26 : decode prog_24_method_1_code 26 = .ok (.getfield 13, 3) := by decide +kernel
theorem d2_29 : decode prog_24_method_1_code 29 = .ok (.aload_n 1, 1) := by decide +kernel
theorem d2_30 : decode prog_24_method_1_code 30 = .ok (.iload_n 2, 1) := by decide +kernel
theorem d2_31 : decode prog_24_method_1_code 31 = .ok (.iaload, 1) := by decide +kernel
theorem d2_32 : decode prog_24_method_1_code 32 = .ok (.iload_n 2, 1) := by decide +kernel
theorem d2_33 : decode prog_24_method_1_code 33 = .ok (.iastore, 1) := by decide +kernel
theorem d2_34 : decode prog_24_method_1_code 34 = .ok (.iinc 2 1, 3) := by decide +kernel
theorem d2_37 : decode prog_24_method_1_code 37 = .ok (.goto (-18), 3) := by decide +kernel
theorem d2_40 : decode prog_24_method_1_code 40 = .ok (.return_, 1) := by decide +kernel
theorem pn_2 : plainFor (⟨"com/example/pilfer/pilfer/Tour", "<init>", "([I)V"⟩ : MethodName) = true := plainFor_of_name (by show plainName "com/example/pilfer/pilfer/Tour" = true; first | (simp [plainName, overriddenIn]; done) | decide +kernel)
theorem ef_2 (m : MethodId) (a1 : Addr) (a2 : Addr) : entryFrame m #[(.ref a1), (.ref a2)] 3 = mkF m 0 #[.val (.ref a1), .val (.ref a2), .unset] [] := by first | (simp [entryFrame, mkF, argsToLocals, Value.category]; done) | rfl
def w2_4 (fo : Nat → Int32) : Nat → Int32 := fun _ => 0
def w2_8 (fo : Nat → Int32) : Nat → Int32 := upd (w2_4 fo) (fo 0).toNatClampNeg (0 : Int32)
def w2_11 (fo : Nat → Int32) : Nat → Int32 := upd (w2_8 fo) (fo 1).toNatClampNeg (1 : Int32)
def w2_14 (fo : Nat → Int32) : Nat → Int32 := upd (w2_11 fo) (fo 2).toNatClampNeg (2 : Int32)
def w2_17 (fo : Nat → Int32) : Nat → Int32 := upd (w2_14 fo) (fo 3).toNatClampNeg (3 : Int32)
def w2_20 (fo : Nat → Int32) : Nat → Int32 := upd (w2_17 fo) (fo 4).toNatClampNeg (4 : Int32)
def f2_np (fo : Nat → Int32) : Nat → Int32 := (w2_20 fo)
def Q2 (Z : State) (a1 : Addr) (a2 : Addr) (fo : Nat → Int32) (h0 : Heap) (n0 : Nat) (v : Option Value) (h : Heap) (L : List Loc) : Prop := ∃ np : Addr, v = none ∧ Fr n0 L ∧ Keep h0 h [a1] ∧ h0.size ≤ np ∧ Fld Z h a1 "com/example/pilfer/pilfer/Tour" "order" "[I" (.ref a2) ∧ Fld Z h a1 "com/example/pilfer/pilfer/Tour" "position" "[I" (.ref np) ∧ AI Z h np .int 5 (f2_np fo)
theorem d4_0 : decode prog_24_method_8_code 0 = .ok (.iload_n 2, 1) := by decide +kernel
theorem d4_1 : decode prog_24_method_8_code 1 = .ok (.istore 4, 2) := by decide +kernel
theorem d4_3 : decode prog_24_method_8_code 3 = .ok (.iload 4, 2) := by decide +kernel
theorem d4_5 : decode prog_24_method_8_code 5 = .ok (.iload_n 3, 1) := by decide +kernel
theorem d4_6 : decode prog_24_method_8_code 6 = .ok (.if_icmp .gt 37, 3) := by decide +kernel
theorem d4_9 : decode prog_24_method_8_code 9 = .ok (.aload_n 0, 1) := by decide +kernel
theorem d4_10 : decode prog_24_method_8_code 10 = .ok (.getfield 7, 3) := by decide +kernel
theorem d4_13 : decode prog_24_method_8_code 13 = .ok (.iload 4, 2) := by decide +kernel
theorem d4_15 : decode prog_24_method_8_code 15 = .ok (.aload_n 1, 1) := by decide +kernel
theorem d4_16 : decode prog_24_method_8_code 16 = .ok (.getfield 7, 3) := by decide +kernel
theorem d4_19 : decode prog_24_method_8_code 19 = .ok (.iload 4, 2) := by decide +kernel
theorem d4_21 : decode prog_24_method_8_code 21 = .ok (.iaload, 1) := by decide +kernel
theorem d4_22 : decode prog_24_method_8_code 22 = .ok (.iastore, 1) := by decide +kernel
theorem d4_23 : decode prog_24_method_8_code 23 = .ok (.aload_n 0, 1) := by decide +kernel
theorem d4_24 : decode prog_24_method_8_code 24 = .ok (.getfield 13, 3) := by decide +kernel
theorem d4_27 : decode prog_24_method_8_code 27 = .ok (.aload_n 0, 1) := by decide +kernel
theorem d4_28 : decode prog_24_method_8_code 28 = .ok (.getfield 7, 3) := by decide +kernel
theorem d4_31 : decode prog_24_method_8_code 31 = .ok (.iload 4, 2) := by decide +kernel
theorem d4_33 : decode prog_24_method_8_code 33 = .ok (.iaload, 1) := by decide +kernel
theorem d4_34 : decode prog_24_method_8_code 34 = .ok (.iload 4, 2) := by decide +kernel
theorem d4_36 : decode prog_24_method_8_code 36 = .ok (.iastore, 1) := by decide +kernel
theorem d4_37 : decode prog_24_method_8_code 37 = .ok (.iinc 4 1, 3) := by decide +kernel
theorem d4_40 : decode prog_24_method_8_code 40 = .ok (.goto (-37), 3) := by decide +kernel
theorem d4_43 : decode prog_24_method_8_code 43 = .ok (.return_, 1) := by decide +kernel
theorem pn_4 : plainFor (⟨"com/example/pilfer/pilfer/Tour", "copyFrom", "(Lcom/example/pilfer/pilfer/Tour;II)V"⟩ : MethodName) = true := plainFor_of_name (by show plainName "com/example/pilfer/pilfer/Tour" = true; first | (simp [plainName, overriddenIn]; done) | decide +kernel)
theorem ef_4 (m : MethodId) (a1 : Addr) (a2 : Addr) (p3 : Int32) (p4 : Int32) : entryFrame m #[(.ref a1), (.ref a2), (.int p3), (.int p4)] 5 = mkF m 0 #[.val (.ref a1), .val (.ref a2), .val (.int p3), .val (.int p4), .unset] [] := by first | (simp [entryFrame, mkF, argsToLocals, Value.category]; done) | rfl
def w4_5 (p3 : Int32) (p4 : Int32) (fo : Nat → Int32) (fp : Nat → Int32) (fb : Nat → Int32) : Nat → Int32 := upd fo (p3).toNatClampNeg (fb (p3).toNatClampNeg)
def w4_9 (p3 : Int32) (p4 : Int32) (fo : Nat → Int32) (fp : Nat → Int32) (fb : Nat → Int32) : Nat → Int32 := upd fp (w4_5 p3 p4 fo fp fb (p3).toNatClampNeg).toNatClampNeg p3
def v4_10 (p3 : Int32) (p4 : Int32) (fo : Nat → Int32) (fp : Nat → Int32) (fb : Nat → Int32) : Int32 := (p3 + (1 : Int32))
def w4_15 (p3 : Int32) (p4 : Int32) (fo : Nat → Int32) (fp : Nat → Int32) (fb : Nat → Int32) : Nat → Int32 := upd (w4_5 p3 p4 fo fp fb) (v4_10 p3 p4 fo fp fb).toNatClampNeg (fb (v4_10 p3 p4 fo fp fb).toNatClampNeg)
def w4_19 (p3 : Int32) (p4 : Int32) (fo : Nat → Int32) (fp : Nat → Int32) (fb : Nat → Int32) : Nat → Int32 := upd (w4_9 p3 p4 fo fp fb) (w4_15 p3 p4 fo fp fb (v4_10 p3 p4 fo fp fb).toNatClampNeg).toNatClampNeg (v4_10 p3 p4 fo fp fb)
def v4_20 (p3 : Int32) (p4 : Int32) (fo : Nat → Int32) (fp : Nat → Int32) (fb : Nat → Int32) : Int32 := ((v4_10 p3 p4 fo fp fb) + (1 : Int32))
def w4_25 (p3 : Int32) (p4 : Int32) (fo : Nat → Int32) (fp : Nat → Int32) (fb : Nat → Int32) : Nat → Int32 := upd (w4_15 p3 p4 fo fp fb) (v4_20 p3 p4 fo fp fb).toNatClampNeg (fb (v4_20 p3 p4 fo fp fb).toNatClampNeg)
def w4_29 (p3 : Int32) (p4 : Int32) (fo : Nat → Int32) (fp : Nat → Int32) (fb : Nat → Int32) : Nat → Int32 := upd (w4_19 p3 p4 fo fp fb) (w4_25 p3 p4 fo fp fb (v4_20 p3 p4 fo fp fb).toNatClampNeg).toNatClampNeg (v4_20 p3 p4 fo fp fb)
def v4_30 (p3 : Int32) (p4 : Int32) (fo : Nat → Int32) (fp : Nat → Int32) (fb : Nat → Int32) : Int32 := ((v4_20 p3 p4 fo fp fb) + (1 : Int32))
def w4_35 (p3 : Int32) (p4 : Int32) (fo : Nat → Int32) (fp : Nat → Int32) (fb : Nat → Int32) : Nat → Int32 := upd (w4_25 p3 p4 fo fp fb) (v4_30 p3 p4 fo fp fb).toNatClampNeg (fb (v4_30 p3 p4 fo fp fb).toNatClampNeg)
def w4_39 (p3 : Int32) (p4 : Int32) (fo : Nat → Int32) (fp : Nat → Int32) (fb : Nat → Int32) : Nat → Int32 := upd (w4_29 p3 p4 fo fp fb) (w4_35 p3 p4 fo fp fb (v4_30 p3 p4 fo fp fb).toNatClampNeg).toNatClampNeg (v4_30 p3 p4 fo fp fb)
def v4_40 (p3 : Int32) (p4 : Int32) (fo : Nat → Int32) (fp : Nat → Int32) (fb : Nat → Int32) : Int32 := ((v4_30 p3 p4 fo fp fb) + (1 : Int32))
def w4_45 (p3 : Int32) (p4 : Int32) (fo : Nat → Int32) (fp : Nat → Int32) (fb : Nat → Int32) : Nat → Int32 := upd (w4_35 p3 p4 fo fp fb) (v4_40 p3 p4 fo fp fb).toNatClampNeg (fb (v4_40 p3 p4 fo fp fb).toNatClampNeg)
def w4_49 (p3 : Int32) (p4 : Int32) (fo : Nat → Int32) (fp : Nat → Int32) (fb : Nat → Int32) : Nat → Int32 := upd (w4_39 p3 p4 fo fp fb) (w4_45 p3 p4 fo fp fb (v4_40 p3 p4 fo fp fb).toNatClampNeg).toNatClampNeg (v4_40 p3 p4 fo fp fb)
def v4_50 (p3 : Int32) (p4 : Int32) (fo : Nat → Int32) (fp : Nat → Int32) (fb : Nat → Int32) : Int32 := ((v4_40 p3 p4 fo fp fb) + (1 : Int32))
def f4_ao (p3 : Int32) (p4 : Int32) (fo : Nat → Int32) (fp : Nat → Int32) (fb : Nat → Int32) : Nat → Int32 := (if p4 < p3 then fo else (if p4 < (v4_10 p3 p4 fo fp fb) then (w4_5 p3 p4 fo fp fb) else (if p4 < (v4_20 p3 p4 fo fp fb) then (w4_15 p3 p4 fo fp fb) else (if p4 < (v4_30 p3 p4 fo fp fb) then (w4_25 p3 p4 fo fp fb) else (if p4 < (v4_40 p3 p4 fo fp fb) then (w4_35 p3 p4 fo fp fb) else (w4_45 p3 p4 fo fp fb))))))
def f4_aq (p3 : Int32) (p4 : Int32) (fo : Nat → Int32) (fp : Nat → Int32) (fb : Nat → Int32) : Nat → Int32 := (if p4 < p3 then fp else (if p4 < (v4_10 p3 p4 fo fp fb) then (w4_9 p3 p4 fo fp fb) else (if p4 < (v4_20 p3 p4 fo fp fb) then (w4_19 p3 p4 fo fp fb) else (if p4 < (v4_30 p3 p4 fo fp fb) then (w4_29 p3 p4 fo fp fb) else (if p4 < (v4_40 p3 p4 fo fp fb) then (w4_39 p3 p4 fo fp fb) else (w4_49 p3 p4 fo fp fb))))))
def Q4 (Z : State) (a1 : Addr) (a2 : Addr) (p3 : Int32) (p4 : Int32) (ao : Addr) (aq : Addr) (ab : Addr) (fo : Nat → Int32) (fp : Nat → Int32) (fb : Nat → Int32) (h0 : Heap) (n0 : Nat) (v : Option Value) (h : Heap) (L : List Loc) : Prop := v = none ∧ Fr n0 L ∧ Keep h0 h [ao, aq] ∧ AI Z h ao .int 5 (f4_ao p3 p4 fo fp fb) ∧ AI Z h aq .int 5 (f4_aq p3 p4 fo fp fb)
theorem d5_0 : decode prog_24_method_9_code 0 = .ok (.aload_n 0, 1) := by decide +kernel
theorem d5_1 : decode prog_24_method_9_code 1 = .ok (.getfield 7, 3) := by decide +kernel
theorem d5_4 : decode prog_24_method_9_code 4 = .ok (.invokevirtual 25, 3) := by decide +kernel
theorem d5_7 : decode prog_24_method_9_code 7 = .ok (.checkcast 26, 3) := by decide +kernel
theorem d5_10 : decode prog_24_method_9_code 10 = .ok (.areturn, 1) := by decide +kernel
theorem pn_5 : plainFor (⟨"com/example/pilfer/pilfer/Tour", "toArray", "()[I"⟩ : MethodName) = true := plainFor_of_name (by show plainName "com/example/pilfer/pilfer/Tour" = true; first | (simp [plainName, overriddenIn]; done) | decide +kernel)
theorem ef_5 (m : MethodId) (a1 : Addr) : entryFrame m #[(.ref a1)] 1 = mkF m 0 #[.val (.ref a1)] [] := by first | (simp [entryFrame, mkF, argsToLocals, Value.category]; done) | rfl
def Q5 (Z : State) (a1 : Addr) (ao : Addr) (fo : Nat → Int32) (h0 : Heap) (n0 : Nat) (v : Option Value) (h : Heap) (L : List Loc) : Prop := ∃ nc : Addr, v = some (.ref nc) ∧ Fr n0 L ∧ Keep h0 h [] ∧ h0.size ≤ nc ∧ AI Z h nc .int 5 fo
theorem d1_0 : decode method_2_code 0 = .ok (.iload_n 1, 1) := by decide +kernel
theorem d1_1 : decode method_2_code 1 = .ok (.iload_n 2, 1) := by decide +kernel
theorem d1_2 : decode method_2_code 2 = .ok (.if_icmp .lt 8, 3) := by decide +kernel
theorem d1_5 : decode method_2_code 5 = .ok (.iload_n 1, 1) := by decide +kernel
theorem d1_6 : decode method_2_code 6 = .ok (.iload_n 3, 1) := by decide +kernel
theorem d1_7 : decode method_2_code 7 = .ok (.if_icmp .le 7, 3) := by decide +kernel
theorem d1_10 : decode method_2_code 10 = .ok (.aload_n 0, 1) := by decide +kernel
theorem d1_11 : decode method_2_code 11 = .ok (.iload_n 1, 1) := by decide +kernel
theorem d1_12 : decode method_2_code 12 = .ok (.iaload, 1) := by decide +kernel
theorem d1_13 : decode method_2_code 13 = .ok (.ireturn, 1) := by decide +kernel
theorem d1_14 : decode method_2_code 14 = .ok (.iload 4, 2) := by decide +kernel
theorem d1_16 : decode method_2_code 16 = .ok (.ifCond .eq 11, 3) := by decide +kernel
theorem d1_19 : decode method_2_code 19 = .ok (.aload_n 0, 1) := by decide +kernel
theorem d1_20 : decode method_2_code 20 = .ok (.iload_n 2, 1) := by decide +kernel
theorem d1_21 : decode method_2_code 21 = .ok (.iload_n 3, 1) := by decide +kernel
theorem d1_22 : decode method_2_code 22 = .ok (.iadd, 1) := by decide +kernel
theorem d1_23 : decode method_2_code 23 = .ok (.iload_n 1, 1) := by decide +kernel
theorem d1_24 : decode method_2_code 24 = .ok (.isub, 1) := by decide +kernel
theorem d1_25 : decode method_2_code 25 = .ok (.iaload, 1) := by decide +kernel
theorem d1_26 : decode method_2_code 26 = .ok (.ireturn, 1) := by decide +kernel
theorem d1_27 : decode method_2_code 27 = .ok (.aload_n 0, 1) := by decide +kernel
theorem d1_28 : decode method_2_code 28 = .ok (.iload_n 1, 1) := by decide +kernel
theorem d1_29 : decode method_2_code 29 = .ok (.iload_n 3, 1) := by decide +kernel
theorem d1_30 : decode method_2_code 30 = .ok (.if_icmp .ne 7, 3) := by decide +kernel
theorem d1_33 : decode method_2_code 33 = .ok (.iload_n 2, 1) := by decide +kernel
theorem d1_34 : decode method_2_code 34 = .ok (.goto 6, 3) := by decide +kernel
theorem d1_37 : decode method_2_code 37 = .ok (.iload_n 1, 1) := by decide +kernel
theorem d1_38 : decode method_2_code 38 = .ok (.iconst 1, 1) := by decide +kernel
theorem d1_39 : decode method_2_code 39 = .ok (.iadd, 1) := by decide +kernel
theorem d1_40 : decode method_2_code 40 = .ok (.iaload, 1) := by decide +kernel
theorem d1_41 : decode method_2_code 41 = .ok (.ireturn, 1) := by decide +kernel
theorem pn_1 : plainFor (⟨"com/example/pilfer/pilfer/TourCopyFromPinLaw", "pick", "([IIIIZ)I"⟩ : MethodName) = true := plainFor_of_name (by show plainName "com/example/pilfer/pilfer/TourCopyFromPinLaw" = true; first | (simp [plainName, overriddenIn]; done) | decide +kernel)
theorem ef_1 (m : MethodId) (a1 : Addr) (p2 : Int32) (p3 : Int32) (p4 : Int32) (p5 : Int32) : entryFrame m #[(.ref a1), (.int p2), (.int p3), (.int p4), (.int p5)] 5 = mkF m 0 #[.val (.ref a1), .val (.int p2), .val (.int p3), .val (.int p4), .val (.int p5)] [] := by first | (simp [entryFrame, mkF, argsToLocals, Value.category]; done) | rfl
def v1_6 (p2 : Int32) (p3 : Int32) (p4 : Int32) (p5 : Int32) (fo : Nat → Int32) : Int32 := (if p2 = p4 then p3 else (p2 + (1 : Int32)))
def f1 (p2 : Int32) (p3 : Int32) (p4 : Int32) (p5 : Int32) (fo : Nat → Int32) : Int32 := (if p2 < p3 then (fo (p2).toNatClampNeg) else (if p4 < p2 then (fo (p2).toNatClampNeg) else (if p5 = (0 : Int32) then (fo (v1_6 p2 p3 p4 p5 fo).toNatClampNeg) else (fo ((p3 + p4) - p2).toNatClampNeg))))
theorem d6_0 : decode prog_24_method_4_code 0 = .ok (.aload_n 0, 1) := by decide +kernel
theorem d6_1 : decode prog_24_method_4_code 1 = .ok (.getfield 13, 3) := by decide +kernel
theorem d6_4 : decode prog_24_method_4_code 4 = .ok (.iload_n 1, 1) := by decide +kernel
theorem d6_5 : decode prog_24_method_4_code 5 = .ok (.iaload, 1) := by decide +kernel
theorem d6_6 : decode prog_24_method_4_code 6 = .ok (.ireturn, 1) := by decide +kernel
theorem pn_6 : plainFor (⟨"com/example/pilfer/pilfer/Tour", "position", "(I)I"⟩ : MethodName) = true := plainFor_of_name (by show plainName "com/example/pilfer/pilfer/Tour" = true; first | (simp [plainName, overriddenIn]; done) | decide +kernel)
theorem ef_6 (m : MethodId) (a1 : Addr) (p2 : Int32) : entryFrame m #[(.ref a1), (.int p2)] 2 = mkF m 0 #[.val (.ref a1), .val (.int p2)] [] := by first | (simp [entryFrame, mkF, argsToLocals, Value.category]; done) | rfl
def f6 (p2 : Int32) (fp : Nat → Int32) : Int32 := (fp (p2).toNatClampNeg)
theorem pn_0 : plainFor x = true := plainFor_of_name (by show plainName "com/example/pilfer/pilfer/TourCopyFromPinLaw" = true; first | (simp [plainName, overriddenIn]; done) | decide +kernel)
theorem ef_0 (m : MethodId) (p1 : Int32) (p2 : Int32) (p3 : Int32) (p4 : Int32) (p5 : Int32) : entryFrame m #[(.int p1), (.int p2), (.int p3), (.int p4), (.int p5)] maxLocals = mkF m 0 #[.val (.int p1), .val (.int p2), .val (.int p3), .val (.int p4), .val (.int p5), .unset, .unset, .unset, .unset, .unset, .unset, .unset, .unset, .unset, .unset, .unset, .unset] [] := by first | (simp [entryFrame, mkF, argsToLocals, Value.category, maxLocals]; done) | rfl
def w0_2 (p5 : Int32) (mm : Int32) (kk : Int32) (fr : Int32) (tt : Int32) (rv : Int32) : Nat → Int32 := fun _ => 0
def w0_4 (p5 : Int32) (mm : Int32) (kk : Int32) (fr : Int32) (tt : Int32) (rv : Int32) : Nat → Int32 := upd (w0_2 p5 mm kk fr tt rv) 0 (kk % (5 : Int32))
def w0_6 (p5 : Int32) (mm : Int32) (kk : Int32) (fr : Int32) (tt : Int32) (rv : Int32) : Nat → Int32 := upd (w0_4 p5 mm kk fr tt rv) 1 ((mm + kk) % (5 : Int32))
def w0_8 (p5 : Int32) (mm : Int32) (kk : Int32) (fr : Int32) (tt : Int32) (rv : Int32) : Nat → Int32 := upd (w0_6 p5 mm kk fr tt rv) 2 ((((2 : Int32) * mm) + kk) % (5 : Int32))
def w0_10 (p5 : Int32) (mm : Int32) (kk : Int32) (fr : Int32) (tt : Int32) (rv : Int32) : Nat → Int32 := upd (w0_8 p5 mm kk fr tt rv) 3 ((((3 : Int32) * mm) + kk) % (5 : Int32))
def w0_12 (p5 : Int32) (mm : Int32) (kk : Int32) (fr : Int32) (tt : Int32) (rv : Int32) : Nat → Int32 := upd (w0_10 p5 mm kk fr tt rv) 4 ((((4 : Int32) * mm) + kk) % (5 : Int32))
def v0_15 (p5 : Int32) (mm : Int32) (kk : Int32) (fr : Int32) (tt : Int32) (rv : Int32) : Int32 := (if (p5 &&& (1 : Int32)) = (0 : Int32) then (0 : Int32) else (1 : Int32))
def w0_17 (p5 : Int32) (mm : Int32) (kk : Int32) (fr : Int32) (tt : Int32) (rv : Int32) : Nat → Int32 := fun _ => 0
def w0_20 (p5 : Int32) (mm : Int32) (kk : Int32) (fr : Int32) (tt : Int32) (rv : Int32) : Nat → Int32 := upd (w0_17 p5 mm kk fr tt rv) 0 (f1 (0 : Int32) fr tt rv (w0_12 p5 mm kk fr tt rv))
def w0_23 (p5 : Int32) (mm : Int32) (kk : Int32) (fr : Int32) (tt : Int32) (rv : Int32) : Nat → Int32 := upd (w0_20 p5 mm kk fr tt rv) 1 (f1 (1 : Int32) fr tt rv (w0_12 p5 mm kk fr tt rv))
def w0_26 (p5 : Int32) (mm : Int32) (kk : Int32) (fr : Int32) (tt : Int32) (rv : Int32) : Nat → Int32 := upd (w0_23 p5 mm kk fr tt rv) 2 (f1 (2 : Int32) fr tt rv (w0_12 p5 mm kk fr tt rv))
def w0_29 (p5 : Int32) (mm : Int32) (kk : Int32) (fr : Int32) (tt : Int32) (rv : Int32) : Nat → Int32 := upd (w0_26 p5 mm kk fr tt rv) 3 (f1 (3 : Int32) fr tt rv (w0_12 p5 mm kk fr tt rv))
def w0_32 (p5 : Int32) (mm : Int32) (kk : Int32) (fr : Int32) (tt : Int32) (rv : Int32) : Nat → Int32 := upd (w0_29 p5 mm kk fr tt rv) 4 (f1 (4 : Int32) fr tt rv (w0_12 p5 mm kk fr tt rv))
def v0_45 (p5 : Int32) (mm : Int32) (kk : Int32) (fr : Int32) (tt : Int32) (rv : Int32) : Int32 := (if ((f4_ao fr tt (w0_12 p5 mm kk fr tt rv) (f2_np (w0_12 p5 mm kk fr tt rv)) (w0_32 p5 mm kk fr tt rv)) 0) = (w0_32 p5 mm kk fr tt rv 0) then (if ((f4_ao fr tt (w0_12 p5 mm kk fr tt rv) (f2_np (w0_12 p5 mm kk fr tt rv)) (w0_32 p5 mm kk fr tt rv)) 1) = (w0_32 p5 mm kk fr tt rv 1) then (if ((f4_ao fr tt (w0_12 p5 mm kk fr tt rv) (f2_np (w0_12 p5 mm kk fr tt rv)) (w0_32 p5 mm kk fr tt rv)) 2) = (w0_32 p5 mm kk fr tt rv 2) then (if ((f4_ao fr tt (w0_12 p5 mm kk fr tt rv) (f2_np (w0_12 p5 mm kk fr tt rv)) (w0_32 p5 mm kk fr tt rv)) 3) = (w0_32 p5 mm kk fr tt rv 3) then (if ((f4_ao fr tt (w0_12 p5 mm kk fr tt rv) (f2_np (w0_12 p5 mm kk fr tt rv)) (w0_32 p5 mm kk fr tt rv)) 4) = (w0_32 p5 mm kk fr tt rv 4) then (1 : Int32) else (0 : Int32)) else (0 : Int32)) else (0 : Int32)) else (0 : Int32)) else (0 : Int32))
def v0_57 (p5 : Int32) (mm : Int32) (kk : Int32) (fr : Int32) (tt : Int32) (rv : Int32) : Int32 := (if (f6 (w0_32 p5 mm kk fr tt rv 0) (f4_aq fr tt (w0_12 p5 mm kk fr tt rv) (f2_np (w0_12 p5 mm kk fr tt rv)) (w0_32 p5 mm kk fr tt rv))) = (0 : Int32) then (if (f6 (w0_32 p5 mm kk fr tt rv 1) (f4_aq fr tt (w0_12 p5 mm kk fr tt rv) (f2_np (w0_12 p5 mm kk fr tt rv)) (w0_32 p5 mm kk fr tt rv))) = (1 : Int32) then (if (f6 (w0_32 p5 mm kk fr tt rv 2) (f4_aq fr tt (w0_12 p5 mm kk fr tt rv) (f2_np (w0_12 p5 mm kk fr tt rv)) (w0_32 p5 mm kk fr tt rv))) = (2 : Int32) then (if (f6 (w0_32 p5 mm kk fr tt rv 3) (f4_aq fr tt (w0_12 p5 mm kk fr tt rv) (f2_np (w0_12 p5 mm kk fr tt rv)) (w0_32 p5 mm kk fr tt rv))) = (3 : Int32) then (if (f6 (w0_32 p5 mm kk fr tt rv 4) (f4_aq fr tt (w0_12 p5 mm kk fr tt rv) (f2_np (w0_12 p5 mm kk fr tt rv)) (w0_32 p5 mm kk fr tt rv))) = (4 : Int32) then (1 : Int32) else (0 : Int32)) else (0 : Int32)) else (0 : Int32)) else (0 : Int32)) else (0 : Int32))
def f0 (p5 : Int32) (mm : Int32) (kk : Int32) (fr : Int32) (tt : Int32) (rv : Int32) : Int32 := (if (v0_45 p5 mm kk fr tt rv) = (0 : Int32) then (0 : Int32) else (if (v0_57 p5 mm kk fr tt rv) = (0 : Int32) then (0 : Int32) else (1 : Int32)))
def Q0 (Z : State) (p1 : Int32) (p2 : Int32) (p3 : Int32) (p4 : Int32) (p5 : Int32) (mm : Int32) (kk : Int32) (fr : Int32) (tt : Int32) (rv : Int32) (h0 : Heap) (n0 : Nat) (v : Option Value) (h : Heap) (L : List Loc) : Prop := v = some (.int (f0 p5 mm kk fr tt rv)) ∧ Fr n0 L ∧ Keep h0 h []
theorem own_cs {x : Int32} {a b : Nat} (h0 : (a : Int) ≤ x.toInt) (h1 : x.toInt ≤ b) (hb : b < 2147483648) : ∃ i, a ≤ i ∧ i ≤ b ∧ x = Int32.ofNat i := by
  refine ⟨x.toInt.toNat, by omega, by omega, ?_⟩
  apply Int32.toInt_inj.mp
  rw [own_toInt (by omega)]; omega
theorem own_tabA : ∀ a : Fin 4, ∀ b : Fin 5, ∀ j : Fin 5, inb (w0_12 0 (Int32.ofNat (a.val + 1)) (Int32.ofNat b.val) 0 0 0 j.val) 5 := by
  unfold inb
  decide +kernel
theorem own_tabB : ∀ a : Fin 4, ∀ b : Fin 5, ∀ u : Fin 5, ∀ v : Fin 5, u.val ≤ v.val → ∀ j : Fin 5, inb (w0_32 0 (Int32.ofNat (a.val + 1)) (Int32.ofNat b.val) (Int32.ofNat u.val) (Int32.ofNat v.val) 0 j.val) 5 ∧ inb (w0_32 0 (Int32.ofNat (a.val + 1)) (Int32.ofNat b.val) (Int32.ofNat u.val) (Int32.ofNat v.val) 1 j.val) 5 := by
  unfold inb
  decide +kernel
theorem own_big : ∀ a : Fin 4, ∀ b : Fin 5, ∀ u : Fin 5, ∀ v : Fin 5, u.val ≤ v.val → f0 0 (Int32.ofNat (a.val + 1)) (Int32.ofNat b.val) (Int32.ofNat u.val) (Int32.ofNat v.val) 0 = 1 ∧ f0 0 (Int32.ofNat (a.val + 1)) (Int32.ofNat b.val) (Int32.ofNat u.val) (Int32.ofNat v.val) 1 = 1 := by decide +kernel
theorem own_w0_12 (p5 mm kk fr tt rv : Int32) (rmm : own_rk mm) (rk : own_rs kk) (rf : own_rng0 fr tt) (rr : rv = 0 ∨ rv = 1) : ∀ j, j < 5 → inb (w0_12 p5 mm kk fr tt rv j) 5 := by
  intro j hj
  obtain ⟨a, a1, a2, rfl⟩ := own_cs (a := 1) (b := 4) rmm.1 rmm.2 (by decide)
  obtain ⟨b, b1, b2, rfl⟩ := own_cs (a := 0) (b := 4) rk.1 rk.2 (by decide)
  have := own_tabA ⟨a - 1, by omega⟩ ⟨b, by omega⟩ ⟨j, hj⟩
  simp only [show a - 1 + 1 = a by omega] at this
  exact this
theorem own_w0_32 (p5 mm kk fr tt rv : Int32) (rmm : own_rk mm) (rk : own_rs kk) (rf : own_rng0 fr tt) (rr : rv = 0 ∨ rv = 1) : ∀ j, j < 5 → inb (w0_32 p5 mm kk fr tt rv j) 5 := by
  intro j hj
  obtain ⟨r1, r2, r3⟩ := rf
  obtain ⟨a, a1, a2, rfl⟩ := own_cs (a := 1) (b := 4) rmm.1 rmm.2 (by decide)
  obtain ⟨b, b1, b2, rfl⟩ := own_cs (a := 0) (b := 4) rk.1 rk.2 (by decide)
  obtain ⟨u, u1, u2, rfl⟩ := own_cs (x := fr) (a := 0) (b := 4) r1 (by omega) (by decide)
  obtain ⟨v, v1, v2, rfl⟩ := own_cs (x := tt) (a := 0) (b := 4) (by omega) r3 (by decide)
  rw [own_toInt (by omega), own_toInt (by omega)] at r2
  have := own_tabB ⟨a - 1, by omega⟩ ⟨b, by omega⟩ ⟨u, by omega⟩ ⟨v, by omega⟩ (by show u ≤ v; omega) ⟨j, hj⟩
  simp only [show a - 1 + 1 = a by omega] at this
  rcases rr with rfl | rfl
  · exact this.1
  · exact this.2
theorem own_law (p5 mm kk fr tt rv : Int32) (rmm : own_rk mm) (rk : own_rs kk) (rf : own_rng0 fr tt) (rr : rv = 0 ∨ rv = 1) : f0 p5 mm kk fr tt rv = 1 := by
  obtain ⟨r1, r2, r3⟩ := rf
  obtain ⟨a, a1, a2, rfl⟩ := own_cs (a := 1) (b := 4) rmm.1 rmm.2 (by decide)
  obtain ⟨b, b1, b2, rfl⟩ := own_cs (a := 0) (b := 4) rk.1 rk.2 (by decide)
  obtain ⟨u, u1, u2, rfl⟩ := own_cs (x := fr) (a := 0) (b := 4) r1 (by omega) (by decide)
  obtain ⟨v, v1, v2, rfl⟩ := own_cs (x := tt) (a := 0) (b := 4) (by omega) r3 (by decide)
  rw [own_toInt (by omega), own_toInt (by omega)] at r2
  have := own_big ⟨a - 1, by omega⟩ ⟨b, by omega⟩ ⟨u, by omega⟩ ⟨v, by omega⟩ (by show u ≤ v; omega)
  simp only [show a - 1 + 1 = a by omega] at this
  rcases rr with rfl | rfl
  · exact this.1
  · exact this.2
def own_M (p1 : Int32) : Int32 := ((1 : Int32) + (p1 &&& (3 : Int32)))
def own_K (p2 : Int32) : Int32 := ((p2 &&& (2147483647 : Int32)) % (5 : Int32))
def own_F (p3 : Int32) : Int32 := ((p3 &&& (2147483647 : Int32)) % (5 : Int32))
def own_T (p3 p4 : Int32) : Int32 := ((own_F p3) + ((p4 &&& (2147483647 : Int32)) % ((5 : Int32) - (own_F p3))))
theorem own_pos (x : Int32) : 0 ≤ (x &&& 2147483647).toInt := by
  have a1 : (x &&& 2147483647).toInt = x.toInt % (2 ^ 31 : Nat) := c_mask x 2147483647 31 (by decide) (by decide)
  omega
theorem own_mr (x : Int32) : own_rk (own_M x) := by
  have a1 : (x &&& 3).toInt = x.toInt % (2 ^ 2 : Nat) := c_mask x 3 2 (by decide) (by decide)
  have e : ((own_M x).toInt - (1 + (x &&& 3).toInt)) % 4294967296 = 0 := c_iadd 1 _
  have r := rng32 (own_M x)
  exact ⟨by omega, by omega⟩
theorem own_kr (x : Int32) : own_rs (own_K x) := by
  have m1 : (own_K x).toInt = (x &&& 2147483647).toInt % 5 := (c_irem (x &&& 2147483647) 5 5 rfl).1 (own_pos x)
  exact ⟨by omega, by omega⟩
theorem own_fr (x y : Int32) : own_rng0 (own_F x) (own_T x y) := by
  have m1 : (own_F x).toInt = (x &&& 2147483647).toInt % 5 := (c_irem (x &&& 2147483647) 5 5 rfl).1 (own_pos x)
  have e2 : ((5 - own_F x).toInt - (5 - (own_F x).toInt)) % 4294967296 = 0 := c_isub 5 _
  have r2 := rng32 (5 - own_F x)
  obtain ⟨b1, b2, -⟩ := (c_iremV (y &&& 2147483647) (5 - own_F x)).1 (own_pos y) (by omega)
  have e3 : ((own_T x y).toInt - ((own_F x).toInt + ((y &&& 2147483647) % (5 - own_F x)).toInt)) % 4294967296 = 0 := c_iadd _ _
  have r3 := rng32 (own_T x y)
  exact ⟨by omega, by omega, by omega⟩
theorem own_rr (x : Int32) : own_R x = 0 ∨ own_R x = 1 := by
  rw [own_R]; split
  · exact Or.inl rfl
  · exact Or.inr rfl
set_option maxRecDepth 65536 in
set_option maxHeartbeats 40000000 in
theorem rm2 (l : Launch) (Z : State) (a0 : Array Value) (hw : ∀ d ∈ tables_1, d.before a0 Z = true) (ws : List Jvm.Cond) (a1 : Addr) (a2 : Addr) (fo : Nat → Int32) (h0 : Heap) (n0 : Nat) (Z0 : n0 ≤ h0.size) (E_a1 : Exa Z h0 a1 "com/example/pilfer/pilfer/Tour") (F_a1_order : Fld Z h0 a1 "com/example/pilfer/pilfer/Tour" "order" "[I" .null) (F_a1_position : Fld Z h0 a1 "com/example/pilfer/pilfer/Tour" "position" "[I" .null) (A_a2 : AI Z h0 a2 .int 5 fo) (g_a1 : n0 ≤ a1) (ne_a1_a2 : a1 ≠ a2) (hfo : ∀ j, j < 5 → inb (fo j) 5) :
    Con l Z (⟨"com/example/pilfer/pilfer/Tour", "<init>", "([I)V"⟩ : MethodName) prog_24_method_1_code 3 none ws ({ frames := 1, cells := 1, slots := 5, locals := 12 } : Room) #[(.ref a1), (.ref a2)] h0 (Q2 Z a1 a2 fo h0 n0) := by
  refine own_body pn_2 (fun m => ef_2 m a1 a2) ?_
  intro p e s m below meth c T0 W X0 hx hby hml hret hlk hown hnm hZ e0 hW
  have K : Keep h0 h0 [a1] := Keep.refl _ _
  have N := Fr.nil n0
  show Go p e below W T0 (mkF m 0 #[.val (.ref a1), .val (.ref a2), .unset] [])
  refine Go.of (fun _ k => XS.aloadN X0.here hx rfl (hb hby d2_0) rfl rfl k) ?_
  show Go p e below W T0 (mkF m 1 #[.val (.ref a1), .val (.ref a2), .unset] [(.ref a1)])
  refine Go.initO X0 hx hZ hown (hw _ (List.mem_of_getElem? (i := 12) rfl)) (hw _ (List.mem_of_getElem? (i := 13) rfl)) (hw _ (List.mem_of_getElem? (i := 14) rfl)) e0 (by rw [hml]; rfl) (hb hby d2_1) (by decide) (V := 0) (Nat.le_of_ble_eq_true rfl) (by decide) ?_
  intro T1 X1 e1
  show Go p e below W T1 (mkF m 4 #[.val (.ref a1), .val (.ref a2), .unset] [])
  refine Go.of (fun _ k => XS.aloadN X1.here hx rfl (hb hby d2_4) rfl rfl k) ?_
  show Go p e below W T1 (mkF m 5 #[.val (.ref a1), .val (.ref a2), .unset] [(.ref a1)])
  refine Go.of (fun _ k => XS.aloadN X1.here hx rfl (hb hby d2_5) rfl rfl k) ?_
  show Go p e below W T1 (mkF m 6 #[.val (.ref a1), .val (.ref a2), .unset] [(.ref a2), (.ref a1)])
  refine Go.putF X1 hx hZ hown (hw _ (List.mem_of_getElem? (i := 15) rfl)) e1 N g_a1 F_a1_order E_a1 (Or.inr ⟨(hw _ (List.mem_of_getElem? (i := 16) rfl)), rfl, hnm⟩) (hw _ (List.mem_of_getElem? (i := 7) rfl)) (ty := (.array .int)) (by decide) (v' := (.ref a2)) rfl rfl (hb hby d2_6) ?_
  intro T2 h2 L2 X2 N e2 W2 F_a1_order
  have E_a1 := E_a1.wr W2
  have F_a1_position := F_a1_position.other W2 (Or.inr (slot_ne (Or.inr (hw _ (List.mem_of_getElem? (i := 18) rfl))) (Or.inr (hw _ (List.mem_of_getElem? (i := 16) rfl))) (by decide) (t := (.array .int)) (t' := (.array .int)) (by decide) (by decide)))
  have A_a2 := A_a2.other W2 (Ne.symm ne_a1_a2)
  have K := K.wr W2 (Or.inl (List.mem_of_getElem? (i := 0) rfl))
  have Z0 := Nat.le_trans Z0 (Keep.of_wr W2).1
  show Go p e below W T2 (mkF m 9 #[.val (.ref a1), .val (.ref a2), .unset] [])
  refine Go.of (fun _ k => XS.aloadN X2.here hx rfl (hb hby d2_9) rfl rfl k) ?_
  show Go p e below W T2 (mkF m 10 #[.val (.ref a1), .val (.ref a2), .unset] [(.ref a1)])
  refine Go.of (fun _ k => XS.aloadN X2.here hx rfl (hb hby d2_10) rfl rfl k) ?_
  show Go p e below W T2 (mkF m 11 #[.val (.ref a1), .val (.ref a2), .unset] [(.ref a2), (.ref a1)])
  refine Go.alen X2 hx hZ e2 A_a2 (hb hby d2_11) ?_
  show Go p e below W T2 (mkF m 12 #[.val (.ref a1), .val (.ref a2), .unset] [(.int (5 : Int32)), (.ref a1)])
  refine Go.newA X2 hx hZ (hw _ (List.mem_of_getElem? (i := 1) rfl)) rfl rfl rfl e2 (hb hby d2_12) (by decide) (cap := 5) (by decide) (by decide) (by decide) (by decide) ?_
  intro T3 h3 b3 zq3 X3 e3 E3 E_b3 A_b3
  have ne_a1_b3 : a1 ≠ b3 := by rw [zq3]; exact Nat.ne_of_lt E_a1.lt
  have ne_a2_b3 : a2 ≠ b3 := by rw [zq3]; exact Nat.ne_of_lt A_a2.lt
  have g_b3 : n0 ≤ b3 := by rw [zq3]; exact Z0
  have s_b3 : h0.size ≤ b3 := by rw [zq3]; exact K.1
  have E_a1 := E_a1.ext E3
  have F_a1_order := F_a1_order.ext E3
  have F_a1_position := F_a1_position.ext E3
  have A_a2 := A_a2.ext E3
  have K := K.ext E3
  have Z0 := Nat.le_trans Z0 E3.1
  have A_b3 : AI Z h3 b3 .int 5 (w2_4 fo) := A_b3
  show Go p e below W T3 (mkF m 14 #[.val (.ref a1), .val (.ref a2), .unset] [(.ref b3), (.ref a1)])
  refine Go.putF X3 hx hZ hown (hw _ (List.mem_of_getElem? (i := 17) rfl)) e3 N g_a1 F_a1_position E_a1 (Or.inr ⟨(hw _ (List.mem_of_getElem? (i := 18) rfl)), rfl, hnm⟩) (hw _ (List.mem_of_getElem? (i := 7) rfl)) (ty := (.array .int)) (by decide) (v' := (.ref b3)) rfl rfl (hb hby d2_14) ?_
  intro T5 h5 L5 X5 N e5 W5 F_a1_position
  have E_a1 := E_a1.wr W5
  have F_a1_order := F_a1_order.other W5 (Or.inr (slot_ne (Or.inr (hw _ (List.mem_of_getElem? (i := 16) rfl))) (Or.inr (hw _ (List.mem_of_getElem? (i := 18) rfl))) (by decide) (t := (.array .int)) (t' := (.array .int)) (by decide) (by decide)))
  have A_a2 := A_a2.other W5 (Ne.symm ne_a1_a2)
  have A_b3 := A_b3.other W5 (Ne.symm ne_a1_b3)
  have K := K.wr W5 (Or.inl (List.mem_of_getElem? (i := 0) rfl))
  have Z0 := Nat.le_trans Z0 (Keep.of_wr W5).1
  show Go p e below W T5 (mkF m 17 #[.val (.ref a1), .val (.ref a2), .unset] [])
  refine Go.of (fun _ k => XS.iconst X5.here hx rfl (hb hby d2_17) k) ?_
  show Go p e below W T5 (mkF m 18 #[.val (.ref a1), .val (.ref a2), .unset] [(.int (0 : Int32))])
  refine Go.of (fun _ k => XS.istoreN X5.here hx rfl (hb hby d2_18) rfl (l' := #[.val (.ref a1), .val (.ref a2), .val (.int (0 : Int32))]) rfl k) ?_
  show Go p e below W T5 (mkF m 19 #[.val (.ref a1), .val (.ref a2), .val (.int (0 : Int32))] [])
  refine Go.of (fun _ k => XS.iloadN X5.here hx rfl (hb hby d2_19) rfl k) ?_
  show Go p e below W T5 (mkF m 20 #[.val (.ref a1), .val (.ref a2), .val (.int (0 : Int32))] [(.int (0 : Int32))])
  refine Go.of (fun _ k => XS.aloadN X5.here hx rfl (hb hby d2_20) rfl rfl k) ?_
  show Go p e below W T5 (mkF m 21 #[.val (.ref a1), .val (.ref a2), .val (.int (0 : Int32))] [(.ref a2), (.int (0 : Int32))])
  refine Go.alen X5 hx hZ e5 A_a2 (hb hby d2_21) ?_
  show Go p e below W T5 (mkF m 22 #[.val (.ref a1), .val (.ref a2), .val (.int (0 : Int32))] [(.int (5 : Int32)), (.int (0 : Int32))])
  refine Go.of (fun _ k => XS.icmpNo X5.here hx rfl (hb hby d2_22) rfl (Jvm.Free.XT.ii_ge_f (by decide)) k) ?_
  show Go p e below W T5 (mkF m 25 #[.val (.ref a1), .val (.ref a2), .val (.int (0 : Int32))] [])
  refine Go.of (fun _ k => XS.aloadN X5.here hx rfl (hb hby d2_25) rfl rfl k) ?_
  show Go p e below W T5 (mkF m 26 #[.val (.ref a1), .val (.ref a2), .val (.int (0 : Int32))] [(.ref a1)])
  refine Go.getF X5 hx hZ hown (hw _ (List.mem_of_getElem? (i := 17) rfl)) e5 F_a1_position (hb hby d2_26) ?_
  intro T6 X6 e6
  show Go p e below W T6 (mkF m 29 #[.val (.ref a1), .val (.ref a2), .val (.int (0 : Int32))] [(.ref b3)])
  refine Go.of (fun _ k => XS.aloadN X6.here hx rfl (hb hby d2_29) rfl rfl k) ?_
  show Go p e below W T6 (mkF m 30 #[.val (.ref a1), .val (.ref a2), .val (.int (0 : Int32))] [(.ref a2), (.ref b3)])
  refine Go.of (fun _ k => XS.iloadN X6.here hx rfl (hb hby d2_30) rfl k) ?_
  show Go p e below W T6 (mkF m 31 #[.val (.ref a1), .val (.ref a2), .val (.int (0 : Int32))] [(.int (0 : Int32)), (.ref a2), (.ref b3)])
  refine Go.iald X6 hx hZ e6 A_a2 ⟨by decide, by decide⟩ (hb hby d2_31) ?_
  show Go p e below W T6 (mkF m 32 #[.val (.ref a1), .val (.ref a2), .val (.int (0 : Int32))] [(.int (fo 0)), (.ref b3)])
  refine Go.of (fun _ k => XS.iloadN X6.here hx rfl (hb hby d2_32) rfl k) ?_
  show Go p e below W T6 (mkF m 33 #[.val (.ref a1), .val (.ref a2), .val (.int (0 : Int32))] [(.int (0 : Int32)), (.int (fo 0)), (.ref b3)])
  refine Go.ist X6 hx hZ e6 N g_b3 A_b3 (hfo 0 (⟨by decide, by decide⟩ : inb (0 : Int32) 5).2) (hb hby d2_33) ?_
  intro T7 h7 L7 X7 N e7 W7 A_b3
  have E_a1 := E_a1.wr W7
  have F_a1_order := F_a1_order.other W7 (Or.inl ne_a1_b3)
  have F_a1_position := F_a1_position.other W7 (Or.inl ne_a1_b3)
  have A_a2 := A_a2.other W7 ne_a2_b3
  have K := K.wr W7 (Or.inr s_b3)
  have Z0 := Nat.le_trans Z0 (Keep.of_wr W7).1
  have A_b3 : AI Z h7 b3 .int 5 (w2_8 fo) := A_b3
  show Go p e below W T7 (mkF m 34 #[.val (.ref a1), .val (.ref a2), .val (.int (0 : Int32))] [])
  refine Go.of (fun _ k => XS.iinc X7.here hx rfl (hb hby d2_34) rfl (l' := #[.val (.ref a1), .val (.ref a2), .val (.int (1 : Int32))]) rfl k) ?_
  show Go p e below W T7 (mkF m 37 #[.val (.ref a1), .val (.ref a2), .val (.int (1 : Int32))] [])
  refine Go.of (fun _ k => XS.goto X7.here hx rfl (pc0 := 37) (pc' := 19) rfl (hb hby d2_37) (by decide) (by decide) k) ?_
  show Go p e below W T7 (mkF m 19 #[.val (.ref a1), .val (.ref a2), .val (.int (1 : Int32))] [])
  refine Go.of (fun _ k => XS.iloadN X7.here hx rfl (hb hby d2_19) rfl k) ?_
  show Go p e below W T7 (mkF m 20 #[.val (.ref a1), .val (.ref a2), .val (.int (1 : Int32))] [(.int (1 : Int32))])
  refine Go.of (fun _ k => XS.aloadN X7.here hx rfl (hb hby d2_20) rfl rfl k) ?_
  show Go p e below W T7 (mkF m 21 #[.val (.ref a1), .val (.ref a2), .val (.int (1 : Int32))] [(.ref a2), (.int (1 : Int32))])
  refine Go.alen X7 hx hZ e7 A_a2 (hb hby d2_21) ?_
  show Go p e below W T7 (mkF m 22 #[.val (.ref a1), .val (.ref a2), .val (.int (1 : Int32))] [(.int (5 : Int32)), (.int (1 : Int32))])
  refine Go.of (fun _ k => XS.icmpNo X7.here hx rfl (hb hby d2_22) rfl (Jvm.Free.XT.ii_ge_f (by decide)) k) ?_
  show Go p e below W T7 (mkF m 25 #[.val (.ref a1), .val (.ref a2), .val (.int (1 : Int32))] [])
  refine Go.of (fun _ k => XS.aloadN X7.here hx rfl (hb hby d2_25) rfl rfl k) ?_
  show Go p e below W T7 (mkF m 26 #[.val (.ref a1), .val (.ref a2), .val (.int (1 : Int32))] [(.ref a1)])
  refine Go.getF X7 hx hZ hown (hw _ (List.mem_of_getElem? (i := 17) rfl)) e7 F_a1_position (hb hby d2_26) ?_
  intro T9 X9 e9
  show Go p e below W T9 (mkF m 29 #[.val (.ref a1), .val (.ref a2), .val (.int (1 : Int32))] [(.ref b3)])
  refine Go.of (fun _ k => XS.aloadN X9.here hx rfl (hb hby d2_29) rfl rfl k) ?_
  show Go p e below W T9 (mkF m 30 #[.val (.ref a1), .val (.ref a2), .val (.int (1 : Int32))] [(.ref a2), (.ref b3)])
  refine Go.of (fun _ k => XS.iloadN X9.here hx rfl (hb hby d2_30) rfl k) ?_
  show Go p e below W T9 (mkF m 31 #[.val (.ref a1), .val (.ref a2), .val (.int (1 : Int32))] [(.int (1 : Int32)), (.ref a2), (.ref b3)])
  refine Go.iald X9 hx hZ e9 A_a2 ⟨by decide, by decide⟩ (hb hby d2_31) ?_
  show Go p e below W T9 (mkF m 32 #[.val (.ref a1), .val (.ref a2), .val (.int (1 : Int32))] [(.int (fo 1)), (.ref b3)])
  refine Go.of (fun _ k => XS.iloadN X9.here hx rfl (hb hby d2_32) rfl k) ?_
  show Go p e below W T9 (mkF m 33 #[.val (.ref a1), .val (.ref a2), .val (.int (1 : Int32))] [(.int (1 : Int32)), (.int (fo 1)), (.ref b3)])
  refine Go.ist X9 hx hZ e9 N g_b3 A_b3 (hfo 1 (⟨by decide, by decide⟩ : inb (1 : Int32) 5).2) (hb hby d2_33) ?_
  intro T10 h10 L10 X10 N e10 W10 A_b3
  have E_a1 := E_a1.wr W10
  have F_a1_order := F_a1_order.other W10 (Or.inl ne_a1_b3)
  have F_a1_position := F_a1_position.other W10 (Or.inl ne_a1_b3)
  have A_a2 := A_a2.other W10 ne_a2_b3
  have K := K.wr W10 (Or.inr s_b3)
  have Z0 := Nat.le_trans Z0 (Keep.of_wr W10).1
  have A_b3 : AI Z h10 b3 .int 5 (w2_11 fo) := A_b3
  show Go p e below W T10 (mkF m 34 #[.val (.ref a1), .val (.ref a2), .val (.int (1 : Int32))] [])
  refine Go.of (fun _ k => XS.iinc X10.here hx rfl (hb hby d2_34) rfl (l' := #[.val (.ref a1), .val (.ref a2), .val (.int (2 : Int32))]) rfl k) ?_
  show Go p e below W T10 (mkF m 37 #[.val (.ref a1), .val (.ref a2), .val (.int (2 : Int32))] [])
  refine Go.of (fun _ k => XS.goto X10.here hx rfl (pc0 := 37) (pc' := 19) rfl (hb hby d2_37) (by decide) (by decide) k) ?_
  show Go p e below W T10 (mkF m 19 #[.val (.ref a1), .val (.ref a2), .val (.int (2 : Int32))] [])
  refine Go.of (fun _ k => XS.iloadN X10.here hx rfl (hb hby d2_19) rfl k) ?_
  show Go p e below W T10 (mkF m 20 #[.val (.ref a1), .val (.ref a2), .val (.int (2 : Int32))] [(.int (2 : Int32))])
  refine Go.of (fun _ k => XS.aloadN X10.here hx rfl (hb hby d2_20) rfl rfl k) ?_
  show Go p e below W T10 (mkF m 21 #[.val (.ref a1), .val (.ref a2), .val (.int (2 : Int32))] [(.ref a2), (.int (2 : Int32))])
  refine Go.alen X10 hx hZ e10 A_a2 (hb hby d2_21) ?_
  show Go p e below W T10 (mkF m 22 #[.val (.ref a1), .val (.ref a2), .val (.int (2 : Int32))] [(.int (5 : Int32)), (.int (2 : Int32))])
  refine Go.of (fun _ k => XS.icmpNo X10.here hx rfl (hb hby d2_22) rfl (Jvm.Free.XT.ii_ge_f (by decide)) k) ?_
  show Go p e below W T10 (mkF m 25 #[.val (.ref a1), .val (.ref a2), .val (.int (2 : Int32))] [])
  refine Go.of (fun _ k => XS.aloadN X10.here hx rfl (hb hby d2_25) rfl rfl k) ?_
  show Go p e below W T10 (mkF m 26 #[.val (.ref a1), .val (.ref a2), .val (.int (2 : Int32))] [(.ref a1)])
  refine Go.getF X10 hx hZ hown (hw _ (List.mem_of_getElem? (i := 17) rfl)) e10 F_a1_position (hb hby d2_26) ?_
  intro T12 X12 e12
  show Go p e below W T12 (mkF m 29 #[.val (.ref a1), .val (.ref a2), .val (.int (2 : Int32))] [(.ref b3)])
  refine Go.of (fun _ k => XS.aloadN X12.here hx rfl (hb hby d2_29) rfl rfl k) ?_
  show Go p e below W T12 (mkF m 30 #[.val (.ref a1), .val (.ref a2), .val (.int (2 : Int32))] [(.ref a2), (.ref b3)])
  refine Go.of (fun _ k => XS.iloadN X12.here hx rfl (hb hby d2_30) rfl k) ?_
  show Go p e below W T12 (mkF m 31 #[.val (.ref a1), .val (.ref a2), .val (.int (2 : Int32))] [(.int (2 : Int32)), (.ref a2), (.ref b3)])
  refine Go.iald X12 hx hZ e12 A_a2 ⟨by decide, by decide⟩ (hb hby d2_31) ?_
  show Go p e below W T12 (mkF m 32 #[.val (.ref a1), .val (.ref a2), .val (.int (2 : Int32))] [(.int (fo 2)), (.ref b3)])
  refine Go.of (fun _ k => XS.iloadN X12.here hx rfl (hb hby d2_32) rfl k) ?_
  show Go p e below W T12 (mkF m 33 #[.val (.ref a1), .val (.ref a2), .val (.int (2 : Int32))] [(.int (2 : Int32)), (.int (fo 2)), (.ref b3)])
  refine Go.ist X12 hx hZ e12 N g_b3 A_b3 (hfo 2 (⟨by decide, by decide⟩ : inb (2 : Int32) 5).2) (hb hby d2_33) ?_
  intro T13 h13 L13 X13 N e13 W13 A_b3
  have E_a1 := E_a1.wr W13
  have F_a1_order := F_a1_order.other W13 (Or.inl ne_a1_b3)
  have F_a1_position := F_a1_position.other W13 (Or.inl ne_a1_b3)
  have A_a2 := A_a2.other W13 ne_a2_b3
  have K := K.wr W13 (Or.inr s_b3)
  have Z0 := Nat.le_trans Z0 (Keep.of_wr W13).1
  have A_b3 : AI Z h13 b3 .int 5 (w2_14 fo) := A_b3
  show Go p e below W T13 (mkF m 34 #[.val (.ref a1), .val (.ref a2), .val (.int (2 : Int32))] [])
  refine Go.of (fun _ k => XS.iinc X13.here hx rfl (hb hby d2_34) rfl (l' := #[.val (.ref a1), .val (.ref a2), .val (.int (3 : Int32))]) rfl k) ?_
  show Go p e below W T13 (mkF m 37 #[.val (.ref a1), .val (.ref a2), .val (.int (3 : Int32))] [])
  refine Go.of (fun _ k => XS.goto X13.here hx rfl (pc0 := 37) (pc' := 19) rfl (hb hby d2_37) (by decide) (by decide) k) ?_
  show Go p e below W T13 (mkF m 19 #[.val (.ref a1), .val (.ref a2), .val (.int (3 : Int32))] [])
  refine Go.of (fun _ k => XS.iloadN X13.here hx rfl (hb hby d2_19) rfl k) ?_
  show Go p e below W T13 (mkF m 20 #[.val (.ref a1), .val (.ref a2), .val (.int (3 : Int32))] [(.int (3 : Int32))])
  refine Go.of (fun _ k => XS.aloadN X13.here hx rfl (hb hby d2_20) rfl rfl k) ?_
  show Go p e below W T13 (mkF m 21 #[.val (.ref a1), .val (.ref a2), .val (.int (3 : Int32))] [(.ref a2), (.int (3 : Int32))])
  refine Go.alen X13 hx hZ e13 A_a2 (hb hby d2_21) ?_
  show Go p e below W T13 (mkF m 22 #[.val (.ref a1), .val (.ref a2), .val (.int (3 : Int32))] [(.int (5 : Int32)), (.int (3 : Int32))])
  refine Go.of (fun _ k => XS.icmpNo X13.here hx rfl (hb hby d2_22) rfl (Jvm.Free.XT.ii_ge_f (by decide)) k) ?_
  show Go p e below W T13 (mkF m 25 #[.val (.ref a1), .val (.ref a2), .val (.int (3 : Int32))] [])
  refine Go.of (fun _ k => XS.aloadN X13.here hx rfl (hb hby d2_25) rfl rfl k) ?_
  show Go p e below W T13 (mkF m 26 #[.val (.ref a1), .val (.ref a2), .val (.int (3 : Int32))] [(.ref a1)])
  refine Go.getF X13 hx hZ hown (hw _ (List.mem_of_getElem? (i := 17) rfl)) e13 F_a1_position (hb hby d2_26) ?_
  intro T15 X15 e15
  show Go p e below W T15 (mkF m 29 #[.val (.ref a1), .val (.ref a2), .val (.int (3 : Int32))] [(.ref b3)])
  refine Go.of (fun _ k => XS.aloadN X15.here hx rfl (hb hby d2_29) rfl rfl k) ?_
  show Go p e below W T15 (mkF m 30 #[.val (.ref a1), .val (.ref a2), .val (.int (3 : Int32))] [(.ref a2), (.ref b3)])
  refine Go.of (fun _ k => XS.iloadN X15.here hx rfl (hb hby d2_30) rfl k) ?_
  show Go p e below W T15 (mkF m 31 #[.val (.ref a1), .val (.ref a2), .val (.int (3 : Int32))] [(.int (3 : Int32)), (.ref a2), (.ref b3)])
  refine Go.iald X15 hx hZ e15 A_a2 ⟨by decide, by decide⟩ (hb hby d2_31) ?_
  show Go p e below W T15 (mkF m 32 #[.val (.ref a1), .val (.ref a2), .val (.int (3 : Int32))] [(.int (fo 3)), (.ref b3)])
  refine Go.of (fun _ k => XS.iloadN X15.here hx rfl (hb hby d2_32) rfl k) ?_
  show Go p e below W T15 (mkF m 33 #[.val (.ref a1), .val (.ref a2), .val (.int (3 : Int32))] [(.int (3 : Int32)), (.int (fo 3)), (.ref b3)])
  refine Go.ist X15 hx hZ e15 N g_b3 A_b3 (hfo 3 (⟨by decide, by decide⟩ : inb (3 : Int32) 5).2) (hb hby d2_33) ?_
  intro T16 h16 L16 X16 N e16 W16 A_b3
  have E_a1 := E_a1.wr W16
  have F_a1_order := F_a1_order.other W16 (Or.inl ne_a1_b3)
  have F_a1_position := F_a1_position.other W16 (Or.inl ne_a1_b3)
  have A_a2 := A_a2.other W16 ne_a2_b3
  have K := K.wr W16 (Or.inr s_b3)
  have Z0 := Nat.le_trans Z0 (Keep.of_wr W16).1
  have A_b3 : AI Z h16 b3 .int 5 (w2_17 fo) := A_b3
  show Go p e below W T16 (mkF m 34 #[.val (.ref a1), .val (.ref a2), .val (.int (3 : Int32))] [])
  refine Go.of (fun _ k => XS.iinc X16.here hx rfl (hb hby d2_34) rfl (l' := #[.val (.ref a1), .val (.ref a2), .val (.int (4 : Int32))]) rfl k) ?_
  show Go p e below W T16 (mkF m 37 #[.val (.ref a1), .val (.ref a2), .val (.int (4 : Int32))] [])
  refine Go.of (fun _ k => XS.goto X16.here hx rfl (pc0 := 37) (pc' := 19) rfl (hb hby d2_37) (by decide) (by decide) k) ?_
  show Go p e below W T16 (mkF m 19 #[.val (.ref a1), .val (.ref a2), .val (.int (4 : Int32))] [])
  refine Go.of (fun _ k => XS.iloadN X16.here hx rfl (hb hby d2_19) rfl k) ?_
  show Go p e below W T16 (mkF m 20 #[.val (.ref a1), .val (.ref a2), .val (.int (4 : Int32))] [(.int (4 : Int32))])
  refine Go.of (fun _ k => XS.aloadN X16.here hx rfl (hb hby d2_20) rfl rfl k) ?_
  show Go p e below W T16 (mkF m 21 #[.val (.ref a1), .val (.ref a2), .val (.int (4 : Int32))] [(.ref a2), (.int (4 : Int32))])
  refine Go.alen X16 hx hZ e16 A_a2 (hb hby d2_21) ?_
  show Go p e below W T16 (mkF m 22 #[.val (.ref a1), .val (.ref a2), .val (.int (4 : Int32))] [(.int (5 : Int32)), (.int (4 : Int32))])
  refine Go.of (fun _ k => XS.icmpNo X16.here hx rfl (hb hby d2_22) rfl (Jvm.Free.XT.ii_ge_f (by decide)) k) ?_
  show Go p e below W T16 (mkF m 25 #[.val (.ref a1), .val (.ref a2), .val (.int (4 : Int32))] [])
  refine Go.of (fun _ k => XS.aloadN X16.here hx rfl (hb hby d2_25) rfl rfl k) ?_
  show Go p e below W T16 (mkF m 26 #[.val (.ref a1), .val (.ref a2), .val (.int (4 : Int32))] [(.ref a1)])
  refine Go.getF X16 hx hZ hown (hw _ (List.mem_of_getElem? (i := 17) rfl)) e16 F_a1_position (hb hby d2_26) ?_
  intro T18 X18 e18
  show Go p e below W T18 (mkF m 29 #[.val (.ref a1), .val (.ref a2), .val (.int (4 : Int32))] [(.ref b3)])
  refine Go.of (fun _ k => XS.aloadN X18.here hx rfl (hb hby d2_29) rfl rfl k) ?_
  show Go p e below W T18 (mkF m 30 #[.val (.ref a1), .val (.ref a2), .val (.int (4 : Int32))] [(.ref a2), (.ref b3)])
  refine Go.of (fun _ k => XS.iloadN X18.here hx rfl (hb hby d2_30) rfl k) ?_
  show Go p e below W T18 (mkF m 31 #[.val (.ref a1), .val (.ref a2), .val (.int (4 : Int32))] [(.int (4 : Int32)), (.ref a2), (.ref b3)])
  refine Go.iald X18 hx hZ e18 A_a2 ⟨by decide, by decide⟩ (hb hby d2_31) ?_
  show Go p e below W T18 (mkF m 32 #[.val (.ref a1), .val (.ref a2), .val (.int (4 : Int32))] [(.int (fo 4)), (.ref b3)])
  refine Go.of (fun _ k => XS.iloadN X18.here hx rfl (hb hby d2_32) rfl k) ?_
  show Go p e below W T18 (mkF m 33 #[.val (.ref a1), .val (.ref a2), .val (.int (4 : Int32))] [(.int (4 : Int32)), (.int (fo 4)), (.ref b3)])
  refine Go.ist X18 hx hZ e18 N g_b3 A_b3 (hfo 4 (⟨by decide, by decide⟩ : inb (4 : Int32) 5).2) (hb hby d2_33) ?_
  intro T19 h19 L19 X19 N e19 W19 A_b3
  have E_a1 := E_a1.wr W19
  have F_a1_order := F_a1_order.other W19 (Or.inl ne_a1_b3)
  have F_a1_position := F_a1_position.other W19 (Or.inl ne_a1_b3)
  have A_a2 := A_a2.other W19 ne_a2_b3
  have K := K.wr W19 (Or.inr s_b3)
  have Z0 := Nat.le_trans Z0 (Keep.of_wr W19).1
  have A_b3 : AI Z h19 b3 .int 5 (w2_20 fo) := A_b3
  show Go p e below W T19 (mkF m 34 #[.val (.ref a1), .val (.ref a2), .val (.int (4 : Int32))] [])
  refine Go.of (fun _ k => XS.iinc X19.here hx rfl (hb hby d2_34) rfl (l' := #[.val (.ref a1), .val (.ref a2), .val (.int (5 : Int32))]) rfl k) ?_
  show Go p e below W T19 (mkF m 37 #[.val (.ref a1), .val (.ref a2), .val (.int (5 : Int32))] [])
  refine Go.of (fun _ k => XS.goto X19.here hx rfl (pc0 := 37) (pc' := 19) rfl (hb hby d2_37) (by decide) (by decide) k) ?_
  show Go p e below W T19 (mkF m 19 #[.val (.ref a1), .val (.ref a2), .val (.int (5 : Int32))] [])
  refine Go.of (fun _ k => XS.iloadN X19.here hx rfl (hb hby d2_19) rfl k) ?_
  show Go p e below W T19 (mkF m 20 #[.val (.ref a1), .val (.ref a2), .val (.int (5 : Int32))] [(.int (5 : Int32))])
  refine Go.of (fun _ k => XS.aloadN X19.here hx rfl (hb hby d2_20) rfl rfl k) ?_
  show Go p e below W T19 (mkF m 21 #[.val (.ref a1), .val (.ref a2), .val (.int (5 : Int32))] [(.ref a2), (.int (5 : Int32))])
  refine Go.alen X19 hx hZ e19 A_a2 (hb hby d2_21) ?_
  show Go p e below W T19 (mkF m 22 #[.val (.ref a1), .val (.ref a2), .val (.int (5 : Int32))] [(.int (5 : Int32)), (.int (5 : Int32))])
  refine Go.of (fun _ k => XS.icmpYes X19.here hx rfl (pc0 := 22) (pc' := 40) rfl (hb hby d2_22) rfl (Jvm.Free.XT.ii_ge_t (by decide)) (by decide) (by decide) k) ?_
  show Go p e below W T19 (mkF m 40 #[.val (.ref a1), .val (.ref a2), .val (.int (5 : Int32))] [])
  have u_f2_np : (f2_np fo) = (w2_20 fo) := by rw [f2_np]
  have fin : Q2 Z a1 a2 fo h0 n0 (none) h19 L19 := ⟨b3, rfl, N, K, s_b3, F_a1_order, F_a1_position, (by rw [u_f2_np]; exact A_b3)⟩
  exact Go.retV X19 hx hret (hb hby d2_40) hlk (fun t ht fe => hW t _ _ _ _ (by rw [ht, e19]; exact fin) fe (by decide) (by decide))
set_option maxRecDepth 65536 in
set_option maxHeartbeats 40000000 in
theorem rm4 (l : Launch) (Z : State) (a0 : Array Value) (hw : ∀ d ∈ tables_1, d.before a0 Z = true) (ws : List Jvm.Cond) (a1 : Addr) (a2 : Addr) (p3 : Int32) (p4 : Int32) (ao : Addr) (aq : Addr) (ab : Addr) (fo : Nat → Int32) (fp : Nat → Int32) (fb : Nat → Int32) (h0 : Heap) (n0 : Nat) (Z0 : n0 ≤ h0.size) (F_a1_order : Fld Z h0 a1 "com/example/pilfer/pilfer/Tour" "order" "[I" (.ref ao)) (F_a1_position : Fld Z h0 a1 "com/example/pilfer/pilfer/Tour" "position" "[I" (.ref aq)) (F_a2_order : Fld Z h0 a2 "com/example/pilfer/pilfer/Tour" "order" "[I" (.ref ab)) (A_ao : AI Z h0 ao .int 5 fo) (A_aq : AI Z h0 aq .int 5 fp) (A_ab : AI Z h0 ab .int 5 fb) (g_ao : n0 ≤ ao) (g_aq : n0 ≤ aq) (ne_a1_ao : a1 ≠ ao) (ne_a1_aq : a1 ≠ aq) (ne_a2_ao : a2 ≠ ao) (ne_a2_aq : a2 ≠ aq) (ne_ao_aq : ao ≠ aq) (ne_ao_ab : ao ≠ ab) (ne_aq_ab : aq ≠ ab) (hfo : ∀ j, j < 5 → inb (fo j) 5) (hfb : ∀ j, j < 5 → inb (fb j) 5) (hft : own_rng0 p3 p4) :
    Con l Z (⟨"com/example/pilfer/pilfer/Tour", "copyFrom", "(Lcom/example/pilfer/pilfer/Tour;II)V"⟩ : MethodName) prog_24_method_8_code 5 none ws ({ frames := 0, cells := 0, slots := 0, locals := 0 } : Room) #[(.ref a1), (.ref a2), (.int p3), (.int p4)] h0 (Q4 Z a1 a2 p3 p4 ao aq ab fo fp fb h0 n0) := by
  refine own_body pn_4 (fun m => ef_4 m a1 a2 p3 p4) ?_
  intro p e s m below meth c T0 W X0 hx hby hml hret hlk hown hnm hZ e0 hW
  have K : Keep h0 h0 [ao, aq] := Keep.refl _ _
  have N := Fr.nil n0
  show Go p e below W T0 (mkF m 0 #[.val (.ref a1), .val (.ref a2), .val (.int p3), .val (.int p4), .unset] [])
  refine Go.of (fun _ k => XS.iloadN X0.here hx rfl (hb hby d4_0) rfl k) ?_
  show Go p e below W T0 (mkF m 1 #[.val (.ref a1), .val (.ref a2), .val (.int p3), .val (.int p4), .unset] [(.int p3)])
  refine Go.of (fun _ k => XS.istore X0.here hx rfl (hb hby d4_1) rfl (l' := #[.val (.ref a1), .val (.ref a2), .val (.int p3), .val (.int p4), .val (.int p3)]) rfl k) ?_
  show Go p e below W T0 (mkF m 3 #[.val (.ref a1), .val (.ref a2), .val (.int p3), .val (.int p4), .val (.int p3)] [])
  refine Go.of (fun _ k => XS.iload X0.here hx rfl (hb hby d4_3) rfl k) ?_
  show Go p e below W T0 (mkF m 5 #[.val (.ref a1), .val (.ref a2), .val (.int p3), .val (.int p4), .val (.int p3)] [(.int p3)])
  refine Go.of (fun _ k => XS.iloadN X0.here hx rfl (hb hby d4_5) rfl k) ?_
  show Go p e below W T0 (mkF m 6 #[.val (.ref a1), .val (.ref a2), .val (.int p3), .val (.int p4), .val (.int p3)] [(.int p4), (.int p3)])
  by_cases c1 : p4 < p3
  · refine Go.of (fun _ k => XS.icmpYes X0.here hx rfl (pc0 := 6) (pc' := 43) rfl (hb hby d4_6) rfl (Jvm.Free.XT.ii_gt_t c1) (by decide) (by decide) k) ?_
    show Go p e below W T0 (mkF m 43 #[.val (.ref a1), .val (.ref a2), .val (.int p3), .val (.int p4), .val (.int p3)] [])
    have u_f4_ao : (f4_ao p3 p4 fo fp fb) = fo := by rw [f4_ao, if_pos c1]
    have u_f4_aq : (f4_aq p3 p4 fo fp fb) = fp := by rw [f4_aq, if_pos c1]
    have fin : Q4 Z a1 a2 p3 p4 ao aq ab fo fp fb h0 n0 (none) h0 [] := ⟨rfl, N, K, (by rw [u_f4_ao]; exact A_ao), (by rw [u_f4_aq]; exact A_aq)⟩
    exact Go.retV X0 hx hret (hb hby d4_43) hlk (fun t ht fe => hW t _ _ _ _ (by rw [ht, e0]; exact fin) fe (by decide) (by decide))
  · refine Go.of (fun _ k => XS.icmpNo X0.here hx rfl (hb hby d4_6) rfl (Jvm.Free.XT.ii_gt_f c1) k) ?_
    show Go p e below W T0 (mkF m 9 #[.val (.ref a1), .val (.ref a2), .val (.int p3), .val (.int p4), .val (.int p3)] [])
    refine Go.of (fun _ k => XS.aloadN X0.here hx rfl (hb hby d4_9) rfl rfl k) ?_
    show Go p e below W T0 (mkF m 10 #[.val (.ref a1), .val (.ref a2), .val (.int p3), .val (.int p4), .val (.int p3)] [(.ref a1)])
    refine Go.getF X0 hx hZ hown (hw _ (List.mem_of_getElem? (i := 15) rfl)) e0 F_a1_order (hb hby d4_10) ?_
    intro T2 X2 e2
    show Go p e below W T2 (mkF m 13 #[.val (.ref a1), .val (.ref a2), .val (.int p3), .val (.int p4), .val (.int p3)] [(.ref ao)])
    refine Go.of (fun _ k => XS.iload X2.here hx rfl (hb hby d4_13) rfl k) ?_
    show Go p e below W T2 (mkF m 15 #[.val (.ref a1), .val (.ref a2), .val (.int p3), .val (.int p4), .val (.int p3)] [(.int p3), (.ref ao)])
    refine Go.of (fun _ k => XS.aloadN X2.here hx rfl (hb hby d4_15) rfl rfl k) ?_
    show Go p e below W T2 (mkF m 16 #[.val (.ref a1), .val (.ref a2), .val (.int p3), .val (.int p4), .val (.int p3)] [(.ref a2), (.int p3), (.ref ao)])
    refine Go.getF X2 hx hZ hown (hw _ (List.mem_of_getElem? (i := 15) rfl)) e2 F_a2_order (hb hby d4_16) ?_
    intro T3 X3 e3
    show Go p e below W T3 (mkF m 19 #[.val (.ref a1), .val (.ref a2), .val (.int p3), .val (.int p4), .val (.int p3)] [(.ref ab), (.int p3), (.ref ao)])
    refine Go.of (fun _ k => XS.iload X3.here hx rfl (hb hby d4_19) rfl k) ?_
    show Go p e below W T3 (mkF m 21 #[.val (.ref a1), .val (.ref a2), .val (.int p3), .val (.int p4), .val (.int p3)] [(.int p3), (.ref ab), (.int p3), (.ref ao)])
    refine Go.iald X3 hx hZ e3 A_ab (own_inP (own_first hft)) (hb hby d4_21) ?_
    show Go p e below W T3 (mkF m 22 #[.val (.ref a1), .val (.ref a2), .val (.int p3), .val (.int p4), .val (.int p3)] [(.int (fb (p3).toNatClampNeg)), (.int p3), (.ref ao)])
    refine Go.ist X3 hx hZ e3 N g_ao A_ao (own_inP (own_first hft)) (hb hby d4_22) ?_
    intro T4 h4 L4 X4 N e4 W4 A_ao
    have F_a1_order := F_a1_order.other W4 (Or.inl ne_a1_ao)
    have F_a1_position := F_a1_position.other W4 (Or.inl ne_a1_ao)
    have F_a2_order := F_a2_order.other W4 (Or.inl ne_a2_ao)
    have A_aq := A_aq.other W4 (Ne.symm ne_ao_aq)
    have A_ab := A_ab.other W4 (Ne.symm ne_ao_ab)
    have K := K.wr W4 (Or.inl (List.mem_of_getElem? (i := 0) rfl))
    have Z0 := Nat.le_trans Z0 (Keep.of_wr W4).1
    have A_ao : AI Z h4 ao .int 5 (w4_5 p3 p4 fo fp fb) := A_ao
    show Go p e below W T4 (mkF m 23 #[.val (.ref a1), .val (.ref a2), .val (.int p3), .val (.int p4), .val (.int p3)] [])
    refine Go.of (fun _ k => XS.aloadN X4.here hx rfl (hb hby d4_23) rfl rfl k) ?_
    show Go p e below W T4 (mkF m 24 #[.val (.ref a1), .val (.ref a2), .val (.int p3), .val (.int p4), .val (.int p3)] [(.ref a1)])
    refine Go.getF X4 hx hZ hown (hw _ (List.mem_of_getElem? (i := 17) rfl)) e4 F_a1_position (hb hby d4_24) ?_
    intro T6 X6 e6
    show Go p e below W T6 (mkF m 27 #[.val (.ref a1), .val (.ref a2), .val (.int p3), .val (.int p4), .val (.int p3)] [(.ref aq)])
    refine Go.of (fun _ k => XS.aloadN X6.here hx rfl (hb hby d4_27) rfl rfl k) ?_
    show Go p e below W T6 (mkF m 28 #[.val (.ref a1), .val (.ref a2), .val (.int p3), .val (.int p4), .val (.int p3)] [(.ref a1), (.ref aq)])
    refine Go.getF X6 hx hZ hown (hw _ (List.mem_of_getElem? (i := 15) rfl)) e6 F_a1_order (hb hby d4_28) ?_
    intro T7 X7 e7
    show Go p e below W T7 (mkF m 31 #[.val (.ref a1), .val (.ref a2), .val (.int p3), .val (.int p4), .val (.int p3)] [(.ref ao), (.ref aq)])
    refine Go.of (fun _ k => XS.iload X7.here hx rfl (hb hby d4_31) rfl k) ?_
    show Go p e below W T7 (mkF m 33 #[.val (.ref a1), .val (.ref a2), .val (.int p3), .val (.int p4), .val (.int p3)] [(.int p3), (.ref ao), (.ref aq)])
    refine Go.iald X7 hx hZ e7 A_ao (own_inP (own_first hft)) (hb hby d4_33) ?_
    show Go p e below W T7 (mkF m 34 #[.val (.ref a1), .val (.ref a2), .val (.int p3), .val (.int p4), .val (.int p3)] [(.int (w4_5 p3 p4 fo fp fb (p3).toNatClampNeg)), (.ref aq)])
    refine Go.of (fun _ k => XS.iload X7.here hx rfl (hb hby d4_34) rfl k) ?_
    show Go p e below W T7 (mkF m 36 #[.val (.ref a1), .val (.ref a2), .val (.int p3), .val (.int p4), .val (.int p3)] [(.int p3), (.int (w4_5 p3 p4 fo fp fb (p3).toNatClampNeg)), (.ref aq)])
    refine Go.ist X7 hx hZ e7 N g_aq A_aq ((own_updin hfo (hfb (p3).toNatClampNeg (own_inP (own_first hft)).2)) (p3).toNatClampNeg (own_inP (own_first hft)).2) (hb hby d4_36) ?_
    intro T8 h8 L8 X8 N e8 W8 A_aq
    have F_a1_order := F_a1_order.other W8 (Or.inl ne_a1_aq)
    have F_a1_position := F_a1_position.other W8 (Or.inl ne_a1_aq)
    have F_a2_order := F_a2_order.other W8 (Or.inl ne_a2_aq)
    have A_ao := A_ao.other W8 ne_ao_aq
    have A_ab := A_ab.other W8 (Ne.symm ne_aq_ab)
    have K := K.wr W8 (Or.inl (List.mem_of_getElem? (i := 1) rfl))
    have Z0 := Nat.le_trans Z0 (Keep.of_wr W8).1
    have A_aq : AI Z h8 aq .int 5 (w4_9 p3 p4 fo fp fb) := A_aq
    show Go p e below W T8 (mkF m 37 #[.val (.ref a1), .val (.ref a2), .val (.int p3), .val (.int p4), .val (.int p3)] [])
    refine Go.of (fun _ k => XS.iinc X8.here hx rfl (hb hby d4_37) rfl (l' := #[.val (.ref a1), .val (.ref a2), .val (.int p3), .val (.int p4), .val (.int (v4_10 p3 p4 fo fp fb))]) rfl k) ?_
    show Go p e below W T8 (mkF m 40 #[.val (.ref a1), .val (.ref a2), .val (.int p3), .val (.int p4), .val (.int (v4_10 p3 p4 fo fp fb))] [])
    refine Go.of (fun _ k => XS.goto X8.here hx rfl (pc0 := 40) (pc' := 3) rfl (hb hby d4_40) (by decide) (by decide) k) ?_
    show Go p e below W T8 (mkF m 3 #[.val (.ref a1), .val (.ref a2), .val (.int p3), .val (.int p4), .val (.int (v4_10 p3 p4 fo fp fb))] [])
    refine Go.of (fun _ k => XS.iload X8.here hx rfl (hb hby d4_3) rfl k) ?_
    show Go p e below W T8 (mkF m 5 #[.val (.ref a1), .val (.ref a2), .val (.int p3), .val (.int p4), .val (.int (v4_10 p3 p4 fo fp fb))] [(.int (v4_10 p3 p4 fo fp fb))])
    refine Go.of (fun _ k => XS.iloadN X8.here hx rfl (hb hby d4_5) rfl k) ?_
    show Go p e below W T8 (mkF m 6 #[.val (.ref a1), .val (.ref a2), .val (.int p3), .val (.int p4), .val (.int (v4_10 p3 p4 fo fp fb))] [(.int p4), (.int (v4_10 p3 p4 fo fp fb))])
    by_cases c11 : p4 < (v4_10 p3 p4 fo fp fb)
    · refine Go.of (fun _ k => XS.icmpYes X8.here hx rfl (pc0 := 6) (pc' := 43) rfl (hb hby d4_6) rfl (Jvm.Free.XT.ii_gt_t c11) (by decide) (by decide) k) ?_
      show Go p e below W T8 (mkF m 43 #[.val (.ref a1), .val (.ref a2), .val (.int p3), .val (.int p4), .val (.int (v4_10 p3 p4 fo fp fb))] [])
      have u_f4_ao : (f4_ao p3 p4 fo fp fb) = (w4_5 p3 p4 fo fp fb) := by rw [f4_ao, if_neg c1, if_pos c11]
      have u_f4_aq : (f4_aq p3 p4 fo fp fb) = (w4_9 p3 p4 fo fp fb) := by rw [f4_aq, if_neg c1, if_pos c11]
      have fin : Q4 Z a1 a2 p3 p4 ao aq ab fo fp fb h0 n0 (none) h8 L8 := ⟨rfl, N, K, (by rw [u_f4_ao]; exact A_ao), (by rw [u_f4_aq]; exact A_aq)⟩
      exact Go.retV X8 hx hret (hb hby d4_43) hlk (fun t ht fe => hW t _ _ _ _ (by rw [ht, e8]; exact fin) fe (by decide) (by decide))
    · refine Go.of (fun _ k => XS.icmpNo X8.here hx rfl (hb hby d4_6) rfl (Jvm.Free.XT.ii_gt_f c11) k) ?_
      show Go p e below W T8 (mkF m 9 #[.val (.ref a1), .val (.ref a2), .val (.int p3), .val (.int p4), .val (.int (v4_10 p3 p4 fo fp fb))] [])
      refine Go.of (fun _ k => XS.aloadN X8.here hx rfl (hb hby d4_9) rfl rfl k) ?_
      show Go p e below W T8 (mkF m 10 #[.val (.ref a1), .val (.ref a2), .val (.int p3), .val (.int p4), .val (.int (v4_10 p3 p4 fo fp fb))] [(.ref a1)])
      refine Go.getF X8 hx hZ hown (hw _ (List.mem_of_getElem? (i := 15) rfl)) e8 F_a1_order (hb hby d4_10) ?_
      intro T12 X12 e12
      show Go p e below W T12 (mkF m 13 #[.val (.ref a1), .val (.ref a2), .val (.int p3), .val (.int p4), .val (.int (v4_10 p3 p4 fo fp fb))] [(.ref ao)])
      refine Go.of (fun _ k => XS.iload X12.here hx rfl (hb hby d4_13) rfl k) ?_
      show Go p e below W T12 (mkF m 15 #[.val (.ref a1), .val (.ref a2), .val (.int p3), .val (.int p4), .val (.int (v4_10 p3 p4 fo fp fb))] [(.int (v4_10 p3 p4 fo fp fb)), (.ref ao)])
      refine Go.of (fun _ k => XS.aloadN X12.here hx rfl (hb hby d4_15) rfl rfl k) ?_
      show Go p e below W T12 (mkF m 16 #[.val (.ref a1), .val (.ref a2), .val (.int p3), .val (.int p4), .val (.int (v4_10 p3 p4 fo fp fb))] [(.ref a2), (.int (v4_10 p3 p4 fo fp fb)), (.ref ao)])
      refine Go.getF X12 hx hZ hown (hw _ (List.mem_of_getElem? (i := 15) rfl)) e12 F_a2_order (hb hby d4_16) ?_
      intro T13 X13 e13
      show Go p e below W T13 (mkF m 19 #[.val (.ref a1), .val (.ref a2), .val (.int p3), .val (.int p4), .val (.int (v4_10 p3 p4 fo fp fb))] [(.ref ab), (.int (v4_10 p3 p4 fo fp fb)), (.ref ao)])
      refine Go.of (fun _ k => XS.iload X13.here hx rfl (hb hby d4_19) rfl k) ?_
      show Go p e below W T13 (mkF m 21 #[.val (.ref a1), .val (.ref a2), .val (.int p3), .val (.int p4), .val (.int (v4_10 p3 p4 fo fp fb))] [(.int (v4_10 p3 p4 fo fp fb)), (.ref ab), (.int (v4_10 p3 p4 fo fp fb)), (.ref ao)])
      refine Go.iald X13 hx hZ e13 A_ab (own_inP (own_stepP (own_first hft) c11)) (hb hby d4_21) ?_
      show Go p e below W T13 (mkF m 22 #[.val (.ref a1), .val (.ref a2), .val (.int p3), .val (.int p4), .val (.int (v4_10 p3 p4 fo fp fb))] [(.int (fb (v4_10 p3 p4 fo fp fb).toNatClampNeg)), (.int (v4_10 p3 p4 fo fp fb)), (.ref ao)])
      refine Go.ist X13 hx hZ e13 N g_ao A_ao (own_inP (own_stepP (own_first hft) c11)) (hb hby d4_22) ?_
      intro T14 h14 L14 X14 N e14 W14 A_ao
      have F_a1_order := F_a1_order.other W14 (Or.inl ne_a1_ao)
      have F_a1_position := F_a1_position.other W14 (Or.inl ne_a1_ao)
      have F_a2_order := F_a2_order.other W14 (Or.inl ne_a2_ao)
      have A_aq := A_aq.other W14 (Ne.symm ne_ao_aq)
      have A_ab := A_ab.other W14 (Ne.symm ne_ao_ab)
      have K := K.wr W14 (Or.inl (List.mem_of_getElem? (i := 0) rfl))
      have Z0 := Nat.le_trans Z0 (Keep.of_wr W14).1
      have A_ao : AI Z h14 ao .int 5 (w4_15 p3 p4 fo fp fb) := A_ao
      show Go p e below W T14 (mkF m 23 #[.val (.ref a1), .val (.ref a2), .val (.int p3), .val (.int p4), .val (.int (v4_10 p3 p4 fo fp fb))] [])
      refine Go.of (fun _ k => XS.aloadN X14.here hx rfl (hb hby d4_23) rfl rfl k) ?_
      show Go p e below W T14 (mkF m 24 #[.val (.ref a1), .val (.ref a2), .val (.int p3), .val (.int p4), .val (.int (v4_10 p3 p4 fo fp fb))] [(.ref a1)])
      refine Go.getF X14 hx hZ hown (hw _ (List.mem_of_getElem? (i := 17) rfl)) e14 F_a1_position (hb hby d4_24) ?_
      intro T16 X16 e16
      show Go p e below W T16 (mkF m 27 #[.val (.ref a1), .val (.ref a2), .val (.int p3), .val (.int p4), .val (.int (v4_10 p3 p4 fo fp fb))] [(.ref aq)])
      refine Go.of (fun _ k => XS.aloadN X16.here hx rfl (hb hby d4_27) rfl rfl k) ?_
      show Go p e below W T16 (mkF m 28 #[.val (.ref a1), .val (.ref a2), .val (.int p3), .val (.int p4), .val (.int (v4_10 p3 p4 fo fp fb))] [(.ref a1), (.ref aq)])
      refine Go.getF X16 hx hZ hown (hw _ (List.mem_of_getElem? (i := 15) rfl)) e16 F_a1_order (hb hby d4_28) ?_
      intro T17 X17 e17
      show Go p e below W T17 (mkF m 31 #[.val (.ref a1), .val (.ref a2), .val (.int p3), .val (.int p4), .val (.int (v4_10 p3 p4 fo fp fb))] [(.ref ao), (.ref aq)])
      refine Go.of (fun _ k => XS.iload X17.here hx rfl (hb hby d4_31) rfl k) ?_
      show Go p e below W T17 (mkF m 33 #[.val (.ref a1), .val (.ref a2), .val (.int p3), .val (.int p4), .val (.int (v4_10 p3 p4 fo fp fb))] [(.int (v4_10 p3 p4 fo fp fb)), (.ref ao), (.ref aq)])
      refine Go.iald X17 hx hZ e17 A_ao (own_inP (own_stepP (own_first hft) c11)) (hb hby d4_33) ?_
      show Go p e below W T17 (mkF m 34 #[.val (.ref a1), .val (.ref a2), .val (.int p3), .val (.int p4), .val (.int (v4_10 p3 p4 fo fp fb))] [(.int (w4_15 p3 p4 fo fp fb (v4_10 p3 p4 fo fp fb).toNatClampNeg)), (.ref aq)])
      refine Go.of (fun _ k => XS.iload X17.here hx rfl (hb hby d4_34) rfl k) ?_
      show Go p e below W T17 (mkF m 36 #[.val (.ref a1), .val (.ref a2), .val (.int p3), .val (.int p4), .val (.int (v4_10 p3 p4 fo fp fb))] [(.int (v4_10 p3 p4 fo fp fb)), (.int (w4_15 p3 p4 fo fp fb (v4_10 p3 p4 fo fp fb).toNatClampNeg)), (.ref aq)])
      refine Go.ist X17 hx hZ e17 N g_aq A_aq ((own_updin (own_updin hfo (hfb (p3).toNatClampNeg (own_inP (own_first hft)).2)) (hfb (v4_10 p3 p4 fo fp fb).toNatClampNeg (own_inP (own_stepP (own_first hft) c11)).2)) (v4_10 p3 p4 fo fp fb).toNatClampNeg (own_inP (own_stepP (own_first hft) c11)).2) (hb hby d4_36) ?_
      intro T18 h18 L18 X18 N e18 W18 A_aq
      have F_a1_order := F_a1_order.other W18 (Or.inl ne_a1_aq)
      have F_a1_position := F_a1_position.other W18 (Or.inl ne_a1_aq)
      have F_a2_order := F_a2_order.other W18 (Or.inl ne_a2_aq)
      have A_ao := A_ao.other W18 ne_ao_aq
      have A_ab := A_ab.other W18 (Ne.symm ne_aq_ab)
      have K := K.wr W18 (Or.inl (List.mem_of_getElem? (i := 1) rfl))
      have Z0 := Nat.le_trans Z0 (Keep.of_wr W18).1
      have A_aq : AI Z h18 aq .int 5 (w4_19 p3 p4 fo fp fb) := A_aq
      show Go p e below W T18 (mkF m 37 #[.val (.ref a1), .val (.ref a2), .val (.int p3), .val (.int p4), .val (.int (v4_10 p3 p4 fo fp fb))] [])
      refine Go.of (fun _ k => XS.iinc X18.here hx rfl (hb hby d4_37) rfl (l' := #[.val (.ref a1), .val (.ref a2), .val (.int p3), .val (.int p4), .val (.int (v4_20 p3 p4 fo fp fb))]) rfl k) ?_
      show Go p e below W T18 (mkF m 40 #[.val (.ref a1), .val (.ref a2), .val (.int p3), .val (.int p4), .val (.int (v4_20 p3 p4 fo fp fb))] [])
      refine Go.of (fun _ k => XS.goto X18.here hx rfl (pc0 := 40) (pc' := 3) rfl (hb hby d4_40) (by decide) (by decide) k) ?_
      show Go p e below W T18 (mkF m 3 #[.val (.ref a1), .val (.ref a2), .val (.int p3), .val (.int p4), .val (.int (v4_20 p3 p4 fo fp fb))] [])
      refine Go.of (fun _ k => XS.iload X18.here hx rfl (hb hby d4_3) rfl k) ?_
      show Go p e below W T18 (mkF m 5 #[.val (.ref a1), .val (.ref a2), .val (.int p3), .val (.int p4), .val (.int (v4_20 p3 p4 fo fp fb))] [(.int (v4_20 p3 p4 fo fp fb))])
      refine Go.of (fun _ k => XS.iloadN X18.here hx rfl (hb hby d4_5) rfl k) ?_
      show Go p e below W T18 (mkF m 6 #[.val (.ref a1), .val (.ref a2), .val (.int p3), .val (.int p4), .val (.int (v4_20 p3 p4 fo fp fb))] [(.int p4), (.int (v4_20 p3 p4 fo fp fb))])
      by_cases c21 : p4 < (v4_20 p3 p4 fo fp fb)
      · refine Go.of (fun _ k => XS.icmpYes X18.here hx rfl (pc0 := 6) (pc' := 43) rfl (hb hby d4_6) rfl (Jvm.Free.XT.ii_gt_t c21) (by decide) (by decide) k) ?_
        show Go p e below W T18 (mkF m 43 #[.val (.ref a1), .val (.ref a2), .val (.int p3), .val (.int p4), .val (.int (v4_20 p3 p4 fo fp fb))] [])
        have u_f4_ao : (f4_ao p3 p4 fo fp fb) = (w4_15 p3 p4 fo fp fb) := by rw [f4_ao, if_neg c1, if_neg c11, if_pos c21]
        have u_f4_aq : (f4_aq p3 p4 fo fp fb) = (w4_19 p3 p4 fo fp fb) := by rw [f4_aq, if_neg c1, if_neg c11, if_pos c21]
        have fin : Q4 Z a1 a2 p3 p4 ao aq ab fo fp fb h0 n0 (none) h18 L18 := ⟨rfl, N, K, (by rw [u_f4_ao]; exact A_ao), (by rw [u_f4_aq]; exact A_aq)⟩
        exact Go.retV X18 hx hret (hb hby d4_43) hlk (fun t ht fe => hW t _ _ _ _ (by rw [ht, e18]; exact fin) fe (by decide) (by decide))
      · refine Go.of (fun _ k => XS.icmpNo X18.here hx rfl (hb hby d4_6) rfl (Jvm.Free.XT.ii_gt_f c21) k) ?_
        show Go p e below W T18 (mkF m 9 #[.val (.ref a1), .val (.ref a2), .val (.int p3), .val (.int p4), .val (.int (v4_20 p3 p4 fo fp fb))] [])
        refine Go.of (fun _ k => XS.aloadN X18.here hx rfl (hb hby d4_9) rfl rfl k) ?_
        show Go p e below W T18 (mkF m 10 #[.val (.ref a1), .val (.ref a2), .val (.int p3), .val (.int p4), .val (.int (v4_20 p3 p4 fo fp fb))] [(.ref a1)])
        refine Go.getF X18 hx hZ hown (hw _ (List.mem_of_getElem? (i := 15) rfl)) e18 F_a1_order (hb hby d4_10) ?_
        intro T22 X22 e22
        show Go p e below W T22 (mkF m 13 #[.val (.ref a1), .val (.ref a2), .val (.int p3), .val (.int p4), .val (.int (v4_20 p3 p4 fo fp fb))] [(.ref ao)])
        refine Go.of (fun _ k => XS.iload X22.here hx rfl (hb hby d4_13) rfl k) ?_
        show Go p e below W T22 (mkF m 15 #[.val (.ref a1), .val (.ref a2), .val (.int p3), .val (.int p4), .val (.int (v4_20 p3 p4 fo fp fb))] [(.int (v4_20 p3 p4 fo fp fb)), (.ref ao)])
        refine Go.of (fun _ k => XS.aloadN X22.here hx rfl (hb hby d4_15) rfl rfl k) ?_
        show Go p e below W T22 (mkF m 16 #[.val (.ref a1), .val (.ref a2), .val (.int p3), .val (.int p4), .val (.int (v4_20 p3 p4 fo fp fb))] [(.ref a2), (.int (v4_20 p3 p4 fo fp fb)), (.ref ao)])
        refine Go.getF X22 hx hZ hown (hw _ (List.mem_of_getElem? (i := 15) rfl)) e22 F_a2_order (hb hby d4_16) ?_
        intro T23 X23 e23
        show Go p e below W T23 (mkF m 19 #[.val (.ref a1), .val (.ref a2), .val (.int p3), .val (.int p4), .val (.int (v4_20 p3 p4 fo fp fb))] [(.ref ab), (.int (v4_20 p3 p4 fo fp fb)), (.ref ao)])
        refine Go.of (fun _ k => XS.iload X23.here hx rfl (hb hby d4_19) rfl k) ?_
        show Go p e below W T23 (mkF m 21 #[.val (.ref a1), .val (.ref a2), .val (.int p3), .val (.int p4), .val (.int (v4_20 p3 p4 fo fp fb))] [(.int (v4_20 p3 p4 fo fp fb)), (.ref ab), (.int (v4_20 p3 p4 fo fp fb)), (.ref ao)])
        refine Go.iald X23 hx hZ e23 A_ab (own_inP (own_stepP (own_stepP (own_first hft) c11) c21)) (hb hby d4_21) ?_
        show Go p e below W T23 (mkF m 22 #[.val (.ref a1), .val (.ref a2), .val (.int p3), .val (.int p4), .val (.int (v4_20 p3 p4 fo fp fb))] [(.int (fb (v4_20 p3 p4 fo fp fb).toNatClampNeg)), (.int (v4_20 p3 p4 fo fp fb)), (.ref ao)])
        refine Go.ist X23 hx hZ e23 N g_ao A_ao (own_inP (own_stepP (own_stepP (own_first hft) c11) c21)) (hb hby d4_22) ?_
        intro T24 h24 L24 X24 N e24 W24 A_ao
        have F_a1_order := F_a1_order.other W24 (Or.inl ne_a1_ao)
        have F_a1_position := F_a1_position.other W24 (Or.inl ne_a1_ao)
        have F_a2_order := F_a2_order.other W24 (Or.inl ne_a2_ao)
        have A_aq := A_aq.other W24 (Ne.symm ne_ao_aq)
        have A_ab := A_ab.other W24 (Ne.symm ne_ao_ab)
        have K := K.wr W24 (Or.inl (List.mem_of_getElem? (i := 0) rfl))
        have Z0 := Nat.le_trans Z0 (Keep.of_wr W24).1
        have A_ao : AI Z h24 ao .int 5 (w4_25 p3 p4 fo fp fb) := A_ao
        show Go p e below W T24 (mkF m 23 #[.val (.ref a1), .val (.ref a2), .val (.int p3), .val (.int p4), .val (.int (v4_20 p3 p4 fo fp fb))] [])
        refine Go.of (fun _ k => XS.aloadN X24.here hx rfl (hb hby d4_23) rfl rfl k) ?_
        show Go p e below W T24 (mkF m 24 #[.val (.ref a1), .val (.ref a2), .val (.int p3), .val (.int p4), .val (.int (v4_20 p3 p4 fo fp fb))] [(.ref a1)])
        refine Go.getF X24 hx hZ hown (hw _ (List.mem_of_getElem? (i := 17) rfl)) e24 F_a1_position (hb hby d4_24) ?_
        intro T26 X26 e26
        show Go p e below W T26 (mkF m 27 #[.val (.ref a1), .val (.ref a2), .val (.int p3), .val (.int p4), .val (.int (v4_20 p3 p4 fo fp fb))] [(.ref aq)])
        refine Go.of (fun _ k => XS.aloadN X26.here hx rfl (hb hby d4_27) rfl rfl k) ?_
        show Go p e below W T26 (mkF m 28 #[.val (.ref a1), .val (.ref a2), .val (.int p3), .val (.int p4), .val (.int (v4_20 p3 p4 fo fp fb))] [(.ref a1), (.ref aq)])
        refine Go.getF X26 hx hZ hown (hw _ (List.mem_of_getElem? (i := 15) rfl)) e26 F_a1_order (hb hby d4_28) ?_
        intro T27 X27 e27
        show Go p e below W T27 (mkF m 31 #[.val (.ref a1), .val (.ref a2), .val (.int p3), .val (.int p4), .val (.int (v4_20 p3 p4 fo fp fb))] [(.ref ao), (.ref aq)])
        refine Go.of (fun _ k => XS.iload X27.here hx rfl (hb hby d4_31) rfl k) ?_
        show Go p e below W T27 (mkF m 33 #[.val (.ref a1), .val (.ref a2), .val (.int p3), .val (.int p4), .val (.int (v4_20 p3 p4 fo fp fb))] [(.int (v4_20 p3 p4 fo fp fb)), (.ref ao), (.ref aq)])
        refine Go.iald X27 hx hZ e27 A_ao (own_inP (own_stepP (own_stepP (own_first hft) c11) c21)) (hb hby d4_33) ?_
        show Go p e below W T27 (mkF m 34 #[.val (.ref a1), .val (.ref a2), .val (.int p3), .val (.int p4), .val (.int (v4_20 p3 p4 fo fp fb))] [(.int (w4_25 p3 p4 fo fp fb (v4_20 p3 p4 fo fp fb).toNatClampNeg)), (.ref aq)])
        refine Go.of (fun _ k => XS.iload X27.here hx rfl (hb hby d4_34) rfl k) ?_
        show Go p e below W T27 (mkF m 36 #[.val (.ref a1), .val (.ref a2), .val (.int p3), .val (.int p4), .val (.int (v4_20 p3 p4 fo fp fb))] [(.int (v4_20 p3 p4 fo fp fb)), (.int (w4_25 p3 p4 fo fp fb (v4_20 p3 p4 fo fp fb).toNatClampNeg)), (.ref aq)])
        refine Go.ist X27 hx hZ e27 N g_aq A_aq ((own_updin (own_updin (own_updin hfo (hfb (p3).toNatClampNeg (own_inP (own_first hft)).2)) (hfb (v4_10 p3 p4 fo fp fb).toNatClampNeg (own_inP (own_stepP (own_first hft) c11)).2)) (hfb (v4_20 p3 p4 fo fp fb).toNatClampNeg (own_inP (own_stepP (own_stepP (own_first hft) c11) c21)).2)) (v4_20 p3 p4 fo fp fb).toNatClampNeg (own_inP (own_stepP (own_stepP (own_first hft) c11) c21)).2) (hb hby d4_36) ?_
        intro T28 h28 L28 X28 N e28 W28 A_aq
        have F_a1_order := F_a1_order.other W28 (Or.inl ne_a1_aq)
        have F_a1_position := F_a1_position.other W28 (Or.inl ne_a1_aq)
        have F_a2_order := F_a2_order.other W28 (Or.inl ne_a2_aq)
        have A_ao := A_ao.other W28 ne_ao_aq
        have A_ab := A_ab.other W28 (Ne.symm ne_aq_ab)
        have K := K.wr W28 (Or.inl (List.mem_of_getElem? (i := 1) rfl))
        have Z0 := Nat.le_trans Z0 (Keep.of_wr W28).1
        have A_aq : AI Z h28 aq .int 5 (w4_29 p3 p4 fo fp fb) := A_aq
        show Go p e below W T28 (mkF m 37 #[.val (.ref a1), .val (.ref a2), .val (.int p3), .val (.int p4), .val (.int (v4_20 p3 p4 fo fp fb))] [])
        refine Go.of (fun _ k => XS.iinc X28.here hx rfl (hb hby d4_37) rfl (l' := #[.val (.ref a1), .val (.ref a2), .val (.int p3), .val (.int p4), .val (.int (v4_30 p3 p4 fo fp fb))]) rfl k) ?_
        show Go p e below W T28 (mkF m 40 #[.val (.ref a1), .val (.ref a2), .val (.int p3), .val (.int p4), .val (.int (v4_30 p3 p4 fo fp fb))] [])
        refine Go.of (fun _ k => XS.goto X28.here hx rfl (pc0 := 40) (pc' := 3) rfl (hb hby d4_40) (by decide) (by decide) k) ?_
        show Go p e below W T28 (mkF m 3 #[.val (.ref a1), .val (.ref a2), .val (.int p3), .val (.int p4), .val (.int (v4_30 p3 p4 fo fp fb))] [])
        refine Go.of (fun _ k => XS.iload X28.here hx rfl (hb hby d4_3) rfl k) ?_
        show Go p e below W T28 (mkF m 5 #[.val (.ref a1), .val (.ref a2), .val (.int p3), .val (.int p4), .val (.int (v4_30 p3 p4 fo fp fb))] [(.int (v4_30 p3 p4 fo fp fb))])
        refine Go.of (fun _ k => XS.iloadN X28.here hx rfl (hb hby d4_5) rfl k) ?_
        show Go p e below W T28 (mkF m 6 #[.val (.ref a1), .val (.ref a2), .val (.int p3), .val (.int p4), .val (.int (v4_30 p3 p4 fo fp fb))] [(.int p4), (.int (v4_30 p3 p4 fo fp fb))])
        by_cases c31 : p4 < (v4_30 p3 p4 fo fp fb)
        · refine Go.of (fun _ k => XS.icmpYes X28.here hx rfl (pc0 := 6) (pc' := 43) rfl (hb hby d4_6) rfl (Jvm.Free.XT.ii_gt_t c31) (by decide) (by decide) k) ?_
          show Go p e below W T28 (mkF m 43 #[.val (.ref a1), .val (.ref a2), .val (.int p3), .val (.int p4), .val (.int (v4_30 p3 p4 fo fp fb))] [])
          have u_f4_ao : (f4_ao p3 p4 fo fp fb) = (w4_25 p3 p4 fo fp fb) := by rw [f4_ao, if_neg c1, if_neg c11, if_neg c21, if_pos c31]
          have u_f4_aq : (f4_aq p3 p4 fo fp fb) = (w4_29 p3 p4 fo fp fb) := by rw [f4_aq, if_neg c1, if_neg c11, if_neg c21, if_pos c31]
          have fin : Q4 Z a1 a2 p3 p4 ao aq ab fo fp fb h0 n0 (none) h28 L28 := ⟨rfl, N, K, (by rw [u_f4_ao]; exact A_ao), (by rw [u_f4_aq]; exact A_aq)⟩
          exact Go.retV X28 hx hret (hb hby d4_43) hlk (fun t ht fe => hW t _ _ _ _ (by rw [ht, e28]; exact fin) fe (by decide) (by decide))
        · refine Go.of (fun _ k => XS.icmpNo X28.here hx rfl (hb hby d4_6) rfl (Jvm.Free.XT.ii_gt_f c31) k) ?_
          show Go p e below W T28 (mkF m 9 #[.val (.ref a1), .val (.ref a2), .val (.int p3), .val (.int p4), .val (.int (v4_30 p3 p4 fo fp fb))] [])
          refine Go.of (fun _ k => XS.aloadN X28.here hx rfl (hb hby d4_9) rfl rfl k) ?_
          show Go p e below W T28 (mkF m 10 #[.val (.ref a1), .val (.ref a2), .val (.int p3), .val (.int p4), .val (.int (v4_30 p3 p4 fo fp fb))] [(.ref a1)])
          refine Go.getF X28 hx hZ hown (hw _ (List.mem_of_getElem? (i := 15) rfl)) e28 F_a1_order (hb hby d4_10) ?_
          intro T32 X32 e32
          show Go p e below W T32 (mkF m 13 #[.val (.ref a1), .val (.ref a2), .val (.int p3), .val (.int p4), .val (.int (v4_30 p3 p4 fo fp fb))] [(.ref ao)])
          refine Go.of (fun _ k => XS.iload X32.here hx rfl (hb hby d4_13) rfl k) ?_
          show Go p e below W T32 (mkF m 15 #[.val (.ref a1), .val (.ref a2), .val (.int p3), .val (.int p4), .val (.int (v4_30 p3 p4 fo fp fb))] [(.int (v4_30 p3 p4 fo fp fb)), (.ref ao)])
          refine Go.of (fun _ k => XS.aloadN X32.here hx rfl (hb hby d4_15) rfl rfl k) ?_
          show Go p e below W T32 (mkF m 16 #[.val (.ref a1), .val (.ref a2), .val (.int p3), .val (.int p4), .val (.int (v4_30 p3 p4 fo fp fb))] [(.ref a2), (.int (v4_30 p3 p4 fo fp fb)), (.ref ao)])
          refine Go.getF X32 hx hZ hown (hw _ (List.mem_of_getElem? (i := 15) rfl)) e32 F_a2_order (hb hby d4_16) ?_
          intro T33 X33 e33
          show Go p e below W T33 (mkF m 19 #[.val (.ref a1), .val (.ref a2), .val (.int p3), .val (.int p4), .val (.int (v4_30 p3 p4 fo fp fb))] [(.ref ab), (.int (v4_30 p3 p4 fo fp fb)), (.ref ao)])
          refine Go.of (fun _ k => XS.iload X33.here hx rfl (hb hby d4_19) rfl k) ?_
          show Go p e below W T33 (mkF m 21 #[.val (.ref a1), .val (.ref a2), .val (.int p3), .val (.int p4), .val (.int (v4_30 p3 p4 fo fp fb))] [(.int (v4_30 p3 p4 fo fp fb)), (.ref ab), (.int (v4_30 p3 p4 fo fp fb)), (.ref ao)])
          refine Go.iald X33 hx hZ e33 A_ab (own_inP (own_stepP (own_stepP (own_stepP (own_first hft) c11) c21) c31)) (hb hby d4_21) ?_
          show Go p e below W T33 (mkF m 22 #[.val (.ref a1), .val (.ref a2), .val (.int p3), .val (.int p4), .val (.int (v4_30 p3 p4 fo fp fb))] [(.int (fb (v4_30 p3 p4 fo fp fb).toNatClampNeg)), (.int (v4_30 p3 p4 fo fp fb)), (.ref ao)])
          refine Go.ist X33 hx hZ e33 N g_ao A_ao (own_inP (own_stepP (own_stepP (own_stepP (own_first hft) c11) c21) c31)) (hb hby d4_22) ?_
          intro T34 h34 L34 X34 N e34 W34 A_ao
          have F_a1_order := F_a1_order.other W34 (Or.inl ne_a1_ao)
          have F_a1_position := F_a1_position.other W34 (Or.inl ne_a1_ao)
          have F_a2_order := F_a2_order.other W34 (Or.inl ne_a2_ao)
          have A_aq := A_aq.other W34 (Ne.symm ne_ao_aq)
          have A_ab := A_ab.other W34 (Ne.symm ne_ao_ab)
          have K := K.wr W34 (Or.inl (List.mem_of_getElem? (i := 0) rfl))
          have Z0 := Nat.le_trans Z0 (Keep.of_wr W34).1
          have A_ao : AI Z h34 ao .int 5 (w4_35 p3 p4 fo fp fb) := A_ao
          show Go p e below W T34 (mkF m 23 #[.val (.ref a1), .val (.ref a2), .val (.int p3), .val (.int p4), .val (.int (v4_30 p3 p4 fo fp fb))] [])
          refine Go.of (fun _ k => XS.aloadN X34.here hx rfl (hb hby d4_23) rfl rfl k) ?_
          show Go p e below W T34 (mkF m 24 #[.val (.ref a1), .val (.ref a2), .val (.int p3), .val (.int p4), .val (.int (v4_30 p3 p4 fo fp fb))] [(.ref a1)])
          refine Go.getF X34 hx hZ hown (hw _ (List.mem_of_getElem? (i := 17) rfl)) e34 F_a1_position (hb hby d4_24) ?_
          intro T36 X36 e36
          show Go p e below W T36 (mkF m 27 #[.val (.ref a1), .val (.ref a2), .val (.int p3), .val (.int p4), .val (.int (v4_30 p3 p4 fo fp fb))] [(.ref aq)])
          refine Go.of (fun _ k => XS.aloadN X36.here hx rfl (hb hby d4_27) rfl rfl k) ?_
          show Go p e below W T36 (mkF m 28 #[.val (.ref a1), .val (.ref a2), .val (.int p3), .val (.int p4), .val (.int (v4_30 p3 p4 fo fp fb))] [(.ref a1), (.ref aq)])
          refine Go.getF X36 hx hZ hown (hw _ (List.mem_of_getElem? (i := 15) rfl)) e36 F_a1_order (hb hby d4_28) ?_
          intro T37 X37 e37
          show Go p e below W T37 (mkF m 31 #[.val (.ref a1), .val (.ref a2), .val (.int p3), .val (.int p4), .val (.int (v4_30 p3 p4 fo fp fb))] [(.ref ao), (.ref aq)])
          refine Go.of (fun _ k => XS.iload X37.here hx rfl (hb hby d4_31) rfl k) ?_
          show Go p e below W T37 (mkF m 33 #[.val (.ref a1), .val (.ref a2), .val (.int p3), .val (.int p4), .val (.int (v4_30 p3 p4 fo fp fb))] [(.int (v4_30 p3 p4 fo fp fb)), (.ref ao), (.ref aq)])
          refine Go.iald X37 hx hZ e37 A_ao (own_inP (own_stepP (own_stepP (own_stepP (own_first hft) c11) c21) c31)) (hb hby d4_33) ?_
          show Go p e below W T37 (mkF m 34 #[.val (.ref a1), .val (.ref a2), .val (.int p3), .val (.int p4), .val (.int (v4_30 p3 p4 fo fp fb))] [(.int (w4_35 p3 p4 fo fp fb (v4_30 p3 p4 fo fp fb).toNatClampNeg)), (.ref aq)])
          refine Go.of (fun _ k => XS.iload X37.here hx rfl (hb hby d4_34) rfl k) ?_
          show Go p e below W T37 (mkF m 36 #[.val (.ref a1), .val (.ref a2), .val (.int p3), .val (.int p4), .val (.int (v4_30 p3 p4 fo fp fb))] [(.int (v4_30 p3 p4 fo fp fb)), (.int (w4_35 p3 p4 fo fp fb (v4_30 p3 p4 fo fp fb).toNatClampNeg)), (.ref aq)])
          refine Go.ist X37 hx hZ e37 N g_aq A_aq ((own_updin (own_updin (own_updin (own_updin hfo (hfb (p3).toNatClampNeg (own_inP (own_first hft)).2)) (hfb (v4_10 p3 p4 fo fp fb).toNatClampNeg (own_inP (own_stepP (own_first hft) c11)).2)) (hfb (v4_20 p3 p4 fo fp fb).toNatClampNeg (own_inP (own_stepP (own_stepP (own_first hft) c11) c21)).2)) (hfb (v4_30 p3 p4 fo fp fb).toNatClampNeg (own_inP (own_stepP (own_stepP (own_stepP (own_first hft) c11) c21) c31)).2)) (v4_30 p3 p4 fo fp fb).toNatClampNeg (own_inP (own_stepP (own_stepP (own_stepP (own_first hft) c11) c21) c31)).2) (hb hby d4_36) ?_
          intro T38 h38 L38 X38 N e38 W38 A_aq
          have F_a1_order := F_a1_order.other W38 (Or.inl ne_a1_aq)
          have F_a1_position := F_a1_position.other W38 (Or.inl ne_a1_aq)
          have F_a2_order := F_a2_order.other W38 (Or.inl ne_a2_aq)
          have A_ao := A_ao.other W38 ne_ao_aq
          have A_ab := A_ab.other W38 (Ne.symm ne_aq_ab)
          have K := K.wr W38 (Or.inl (List.mem_of_getElem? (i := 1) rfl))
          have Z0 := Nat.le_trans Z0 (Keep.of_wr W38).1
          have A_aq : AI Z h38 aq .int 5 (w4_39 p3 p4 fo fp fb) := A_aq
          show Go p e below W T38 (mkF m 37 #[.val (.ref a1), .val (.ref a2), .val (.int p3), .val (.int p4), .val (.int (v4_30 p3 p4 fo fp fb))] [])
          refine Go.of (fun _ k => XS.iinc X38.here hx rfl (hb hby d4_37) rfl (l' := #[.val (.ref a1), .val (.ref a2), .val (.int p3), .val (.int p4), .val (.int (v4_40 p3 p4 fo fp fb))]) rfl k) ?_
          show Go p e below W T38 (mkF m 40 #[.val (.ref a1), .val (.ref a2), .val (.int p3), .val (.int p4), .val (.int (v4_40 p3 p4 fo fp fb))] [])
          refine Go.of (fun _ k => XS.goto X38.here hx rfl (pc0 := 40) (pc' := 3) rfl (hb hby d4_40) (by decide) (by decide) k) ?_
          show Go p e below W T38 (mkF m 3 #[.val (.ref a1), .val (.ref a2), .val (.int p3), .val (.int p4), .val (.int (v4_40 p3 p4 fo fp fb))] [])
          refine Go.of (fun _ k => XS.iload X38.here hx rfl (hb hby d4_3) rfl k) ?_
          show Go p e below W T38 (mkF m 5 #[.val (.ref a1), .val (.ref a2), .val (.int p3), .val (.int p4), .val (.int (v4_40 p3 p4 fo fp fb))] [(.int (v4_40 p3 p4 fo fp fb))])
          refine Go.of (fun _ k => XS.iloadN X38.here hx rfl (hb hby d4_5) rfl k) ?_
          show Go p e below W T38 (mkF m 6 #[.val (.ref a1), .val (.ref a2), .val (.int p3), .val (.int p4), .val (.int (v4_40 p3 p4 fo fp fb))] [(.int p4), (.int (v4_40 p3 p4 fo fp fb))])
          by_cases c41 : p4 < (v4_40 p3 p4 fo fp fb)
          · refine Go.of (fun _ k => XS.icmpYes X38.here hx rfl (pc0 := 6) (pc' := 43) rfl (hb hby d4_6) rfl (Jvm.Free.XT.ii_gt_t c41) (by decide) (by decide) k) ?_
            show Go p e below W T38 (mkF m 43 #[.val (.ref a1), .val (.ref a2), .val (.int p3), .val (.int p4), .val (.int (v4_40 p3 p4 fo fp fb))] [])
            have u_f4_ao : (f4_ao p3 p4 fo fp fb) = (w4_35 p3 p4 fo fp fb) := by rw [f4_ao, if_neg c1, if_neg c11, if_neg c21, if_neg c31, if_pos c41]
            have u_f4_aq : (f4_aq p3 p4 fo fp fb) = (w4_39 p3 p4 fo fp fb) := by rw [f4_aq, if_neg c1, if_neg c11, if_neg c21, if_neg c31, if_pos c41]
            have fin : Q4 Z a1 a2 p3 p4 ao aq ab fo fp fb h0 n0 (none) h38 L38 := ⟨rfl, N, K, (by rw [u_f4_ao]; exact A_ao), (by rw [u_f4_aq]; exact A_aq)⟩
            exact Go.retV X38 hx hret (hb hby d4_43) hlk (fun t ht fe => hW t _ _ _ _ (by rw [ht, e38]; exact fin) fe (by decide) (by decide))
          · refine Go.of (fun _ k => XS.icmpNo X38.here hx rfl (hb hby d4_6) rfl (Jvm.Free.XT.ii_gt_f c41) k) ?_
            show Go p e below W T38 (mkF m 9 #[.val (.ref a1), .val (.ref a2), .val (.int p3), .val (.int p4), .val (.int (v4_40 p3 p4 fo fp fb))] [])
            refine Go.of (fun _ k => XS.aloadN X38.here hx rfl (hb hby d4_9) rfl rfl k) ?_
            show Go p e below W T38 (mkF m 10 #[.val (.ref a1), .val (.ref a2), .val (.int p3), .val (.int p4), .val (.int (v4_40 p3 p4 fo fp fb))] [(.ref a1)])
            refine Go.getF X38 hx hZ hown (hw _ (List.mem_of_getElem? (i := 15) rfl)) e38 F_a1_order (hb hby d4_10) ?_
            intro T42 X42 e42
            show Go p e below W T42 (mkF m 13 #[.val (.ref a1), .val (.ref a2), .val (.int p3), .val (.int p4), .val (.int (v4_40 p3 p4 fo fp fb))] [(.ref ao)])
            refine Go.of (fun _ k => XS.iload X42.here hx rfl (hb hby d4_13) rfl k) ?_
            show Go p e below W T42 (mkF m 15 #[.val (.ref a1), .val (.ref a2), .val (.int p3), .val (.int p4), .val (.int (v4_40 p3 p4 fo fp fb))] [(.int (v4_40 p3 p4 fo fp fb)), (.ref ao)])
            refine Go.of (fun _ k => XS.aloadN X42.here hx rfl (hb hby d4_15) rfl rfl k) ?_
            show Go p e below W T42 (mkF m 16 #[.val (.ref a1), .val (.ref a2), .val (.int p3), .val (.int p4), .val (.int (v4_40 p3 p4 fo fp fb))] [(.ref a2), (.int (v4_40 p3 p4 fo fp fb)), (.ref ao)])
            refine Go.getF X42 hx hZ hown (hw _ (List.mem_of_getElem? (i := 15) rfl)) e42 F_a2_order (hb hby d4_16) ?_
            intro T43 X43 e43
            show Go p e below W T43 (mkF m 19 #[.val (.ref a1), .val (.ref a2), .val (.int p3), .val (.int p4), .val (.int (v4_40 p3 p4 fo fp fb))] [(.ref ab), (.int (v4_40 p3 p4 fo fp fb)), (.ref ao)])
            refine Go.of (fun _ k => XS.iload X43.here hx rfl (hb hby d4_19) rfl k) ?_
            show Go p e below W T43 (mkF m 21 #[.val (.ref a1), .val (.ref a2), .val (.int p3), .val (.int p4), .val (.int (v4_40 p3 p4 fo fp fb))] [(.int (v4_40 p3 p4 fo fp fb)), (.ref ab), (.int (v4_40 p3 p4 fo fp fb)), (.ref ao)])
            refine Go.iald X43 hx hZ e43 A_ab (own_inP (own_stepP (own_stepP (own_stepP (own_stepP (own_first hft) c11) c21) c31) c41)) (hb hby d4_21) ?_
            show Go p e below W T43 (mkF m 22 #[.val (.ref a1), .val (.ref a2), .val (.int p3), .val (.int p4), .val (.int (v4_40 p3 p4 fo fp fb))] [(.int (fb (v4_40 p3 p4 fo fp fb).toNatClampNeg)), (.int (v4_40 p3 p4 fo fp fb)), (.ref ao)])
            refine Go.ist X43 hx hZ e43 N g_ao A_ao (own_inP (own_stepP (own_stepP (own_stepP (own_stepP (own_first hft) c11) c21) c31) c41)) (hb hby d4_22) ?_
            intro T44 h44 L44 X44 N e44 W44 A_ao
            have F_a1_order := F_a1_order.other W44 (Or.inl ne_a1_ao)
            have F_a1_position := F_a1_position.other W44 (Or.inl ne_a1_ao)
            have F_a2_order := F_a2_order.other W44 (Or.inl ne_a2_ao)
            have A_aq := A_aq.other W44 (Ne.symm ne_ao_aq)
            have A_ab := A_ab.other W44 (Ne.symm ne_ao_ab)
            have K := K.wr W44 (Or.inl (List.mem_of_getElem? (i := 0) rfl))
            have Z0 := Nat.le_trans Z0 (Keep.of_wr W44).1
            have A_ao : AI Z h44 ao .int 5 (w4_45 p3 p4 fo fp fb) := A_ao
            show Go p e below W T44 (mkF m 23 #[.val (.ref a1), .val (.ref a2), .val (.int p3), .val (.int p4), .val (.int (v4_40 p3 p4 fo fp fb))] [])
            refine Go.of (fun _ k => XS.aloadN X44.here hx rfl (hb hby d4_23) rfl rfl k) ?_
            show Go p e below W T44 (mkF m 24 #[.val (.ref a1), .val (.ref a2), .val (.int p3), .val (.int p4), .val (.int (v4_40 p3 p4 fo fp fb))] [(.ref a1)])
            refine Go.getF X44 hx hZ hown (hw _ (List.mem_of_getElem? (i := 17) rfl)) e44 F_a1_position (hb hby d4_24) ?_
            intro T46 X46 e46
            show Go p e below W T46 (mkF m 27 #[.val (.ref a1), .val (.ref a2), .val (.int p3), .val (.int p4), .val (.int (v4_40 p3 p4 fo fp fb))] [(.ref aq)])
            refine Go.of (fun _ k => XS.aloadN X46.here hx rfl (hb hby d4_27) rfl rfl k) ?_
            show Go p e below W T46 (mkF m 28 #[.val (.ref a1), .val (.ref a2), .val (.int p3), .val (.int p4), .val (.int (v4_40 p3 p4 fo fp fb))] [(.ref a1), (.ref aq)])
            refine Go.getF X46 hx hZ hown (hw _ (List.mem_of_getElem? (i := 15) rfl)) e46 F_a1_order (hb hby d4_28) ?_
            intro T47 X47 e47
            show Go p e below W T47 (mkF m 31 #[.val (.ref a1), .val (.ref a2), .val (.int p3), .val (.int p4), .val (.int (v4_40 p3 p4 fo fp fb))] [(.ref ao), (.ref aq)])
            refine Go.of (fun _ k => XS.iload X47.here hx rfl (hb hby d4_31) rfl k) ?_
            show Go p e below W T47 (mkF m 33 #[.val (.ref a1), .val (.ref a2), .val (.int p3), .val (.int p4), .val (.int (v4_40 p3 p4 fo fp fb))] [(.int (v4_40 p3 p4 fo fp fb)), (.ref ao), (.ref aq)])
            refine Go.iald X47 hx hZ e47 A_ao (own_inP (own_stepP (own_stepP (own_stepP (own_stepP (own_first hft) c11) c21) c31) c41)) (hb hby d4_33) ?_
            show Go p e below W T47 (mkF m 34 #[.val (.ref a1), .val (.ref a2), .val (.int p3), .val (.int p4), .val (.int (v4_40 p3 p4 fo fp fb))] [(.int (w4_45 p3 p4 fo fp fb (v4_40 p3 p4 fo fp fb).toNatClampNeg)), (.ref aq)])
            refine Go.of (fun _ k => XS.iload X47.here hx rfl (hb hby d4_34) rfl k) ?_
            show Go p e below W T47 (mkF m 36 #[.val (.ref a1), .val (.ref a2), .val (.int p3), .val (.int p4), .val (.int (v4_40 p3 p4 fo fp fb))] [(.int (v4_40 p3 p4 fo fp fb)), (.int (w4_45 p3 p4 fo fp fb (v4_40 p3 p4 fo fp fb).toNatClampNeg)), (.ref aq)])
            refine Go.ist X47 hx hZ e47 N g_aq A_aq ((own_updin (own_updin (own_updin (own_updin (own_updin hfo (hfb (p3).toNatClampNeg (own_inP (own_first hft)).2)) (hfb (v4_10 p3 p4 fo fp fb).toNatClampNeg (own_inP (own_stepP (own_first hft) c11)).2)) (hfb (v4_20 p3 p4 fo fp fb).toNatClampNeg (own_inP (own_stepP (own_stepP (own_first hft) c11) c21)).2)) (hfb (v4_30 p3 p4 fo fp fb).toNatClampNeg (own_inP (own_stepP (own_stepP (own_stepP (own_first hft) c11) c21) c31)).2)) (hfb (v4_40 p3 p4 fo fp fb).toNatClampNeg (own_inP (own_stepP (own_stepP (own_stepP (own_stepP (own_first hft) c11) c21) c31) c41)).2)) (v4_40 p3 p4 fo fp fb).toNatClampNeg (own_inP (own_stepP (own_stepP (own_stepP (own_stepP (own_first hft) c11) c21) c31) c41)).2) (hb hby d4_36) ?_
            intro T48 h48 L48 X48 N e48 W48 A_aq
            have F_a1_order := F_a1_order.other W48 (Or.inl ne_a1_aq)
            have F_a1_position := F_a1_position.other W48 (Or.inl ne_a1_aq)
            have F_a2_order := F_a2_order.other W48 (Or.inl ne_a2_aq)
            have A_ao := A_ao.other W48 ne_ao_aq
            have A_ab := A_ab.other W48 (Ne.symm ne_aq_ab)
            have K := K.wr W48 (Or.inl (List.mem_of_getElem? (i := 1) rfl))
            have Z0 := Nat.le_trans Z0 (Keep.of_wr W48).1
            have A_aq : AI Z h48 aq .int 5 (w4_49 p3 p4 fo fp fb) := A_aq
            show Go p e below W T48 (mkF m 37 #[.val (.ref a1), .val (.ref a2), .val (.int p3), .val (.int p4), .val (.int (v4_40 p3 p4 fo fp fb))] [])
            refine Go.of (fun _ k => XS.iinc X48.here hx rfl (hb hby d4_37) rfl (l' := #[.val (.ref a1), .val (.ref a2), .val (.int p3), .val (.int p4), .val (.int (v4_50 p3 p4 fo fp fb))]) rfl k) ?_
            show Go p e below W T48 (mkF m 40 #[.val (.ref a1), .val (.ref a2), .val (.int p3), .val (.int p4), .val (.int (v4_50 p3 p4 fo fp fb))] [])
            refine Go.of (fun _ k => XS.goto X48.here hx rfl (pc0 := 40) (pc' := 3) rfl (hb hby d4_40) (by decide) (by decide) k) ?_
            show Go p e below W T48 (mkF m 3 #[.val (.ref a1), .val (.ref a2), .val (.int p3), .val (.int p4), .val (.int (v4_50 p3 p4 fo fp fb))] [])
            refine Go.of (fun _ k => XS.iload X48.here hx rfl (hb hby d4_3) rfl k) ?_
            show Go p e below W T48 (mkF m 5 #[.val (.ref a1), .val (.ref a2), .val (.int p3), .val (.int p4), .val (.int (v4_50 p3 p4 fo fp fb))] [(.int (v4_50 p3 p4 fo fp fb))])
            refine Go.of (fun _ k => XS.iloadN X48.here hx rfl (hb hby d4_5) rfl k) ?_
            show Go p e below W T48 (mkF m 6 #[.val (.ref a1), .val (.ref a2), .val (.int p3), .val (.int p4), .val (.int (v4_50 p3 p4 fo fp fb))] [(.int p4), (.int (v4_50 p3 p4 fo fp fb))])
            refine Go.of (fun _ k => XS.icmpYes X48.here hx rfl (pc0 := 6) (pc' := 43) rfl (hb hby d4_6) rfl (Jvm.Free.XT.ii_gt_t (own_stopP (own_stepP (own_stepP (own_stepP (own_stepP (own_first hft) c11) c21) c31) c41))) (by decide) (by decide) k) ?_
            show Go p e below W T48 (mkF m 43 #[.val (.ref a1), .val (.ref a2), .val (.int p3), .val (.int p4), .val (.int (v4_50 p3 p4 fo fp fb))] [])
            have u_f4_ao : (f4_ao p3 p4 fo fp fb) = (w4_45 p3 p4 fo fp fb) := by rw [f4_ao, if_neg c1, if_neg c11, if_neg c21, if_neg c31, if_neg c41]
            have u_f4_aq : (f4_aq p3 p4 fo fp fb) = (w4_49 p3 p4 fo fp fb) := by rw [f4_aq, if_neg c1, if_neg c11, if_neg c21, if_neg c31, if_neg c41]
            have fin : Q4 Z a1 a2 p3 p4 ao aq ab fo fp fb h0 n0 (none) h48 L48 := ⟨rfl, N, K, (by rw [u_f4_ao]; exact A_ao), (by rw [u_f4_aq]; exact A_aq)⟩
            exact Go.retV X48 hx hret (hb hby d4_43) hlk (fun t ht fe => hW t _ _ _ _ (by rw [ht, e48]; exact fin) fe (by decide) (by decide))
set_option maxRecDepth 65536 in
set_option maxHeartbeats 40000000 in
theorem rm5 (l : Launch) (Z : State) (a0 : Array Value) (hw : ∀ d ∈ tables_1, d.before a0 Z = true) (ws : List Jvm.Cond) (a1 : Addr) (ao : Addr) (fo : Nat → Int32) (h0 : Heap) (n0 : Nat) (Z0 : n0 ≤ h0.size) (F_a1_order : Fld Z h0 a1 "com/example/pilfer/pilfer/Tour" "order" "[I" (.ref ao)) (A_ao : AI Z h0 ao .int 5 fo) (E_ao : Exa Z h0 ao "[I") :
    Con l Z (⟨"com/example/pilfer/pilfer/Tour", "toArray", "()[I"⟩ : MethodName) prog_24_method_9_code 1 (some (.array .int)) ws ({ frames := 1, cells := 1, slots := 5, locals := 14 } : Room) #[(.ref a1)] h0 (Q5 Z a1 ao fo h0 n0) := by
  refine own_body pn_5 (fun m => ef_5 m a1) ?_
  intro p e s m below meth c T0 W X0 hx hby hml hret hlk hown hnm hZ e0 hW
  have K : Keep h0 h0 [] := Keep.refl _ _
  have N := Fr.nil n0
  show Go p e below W T0 (mkF m 0 #[.val (.ref a1)] [])
  refine Go.of (fun _ k => XS.aloadN X0.here hx rfl (hb hby d5_0) rfl rfl k) ?_
  show Go p e below W T0 (mkF m 1 #[.val (.ref a1)] [(.ref a1)])
  refine Go.getF X0 hx hZ hown (hw _ (List.mem_of_getElem? (i := 15) rfl)) e0 F_a1_order (hb hby d5_1) ?_
  intro T1 X1 e1
  show Go p e below W T1 (mkF m 4 #[.val (.ref a1)] [(.ref ao)])
  refine Go.clone X1 hx hZ hown (hw _ (List.mem_of_getElem? (i := 29) rfl)) (hw _ (List.mem_of_getElem? (i := 30) rfl)) (hw _ (List.mem_of_getElem? (i := 34) rfl)) (hw _ (List.mem_of_getElem? (i := 32) rfl)) (hw _ (List.mem_of_getElem? (i := 33) rfl)) (hw _ (List.mem_of_getElem? (i := 35) rfl)) e1 A_ao E_ao (by rw [hml]; rfl) (hb hby d5_4) (by decide) (V := 0) (cap := 5) (Nat.le_of_ble_eq_true rfl) (by decide) (by decide) (by decide) (by decide) ?_
  intro T2 h2 b2 zq2 X2 e2 E2 E_b2 A_b2
  have ne_a1_b2 : a1 ≠ b2 := by rw [zq2]; exact Nat.ne_of_lt F_a1_order.lt
  have ne_ao_b2 : ao ≠ b2 := by rw [zq2]; exact Nat.ne_of_lt E_ao.lt
  have g_b2 : n0 ≤ b2 := by rw [zq2]; exact Z0
  have s_b2 : h0.size ≤ b2 := by rw [zq2]; exact K.1
  have F_a1_order := F_a1_order.ext E2
  have E_ao := E_ao.ext E2
  have A_ao := A_ao.ext E2
  have K := K.ext E2
  have Z0 := Nat.le_trans Z0 E2.1
  show Go p e below W T2 (mkF m 7 #[.val (.ref a1)] [(.ref b2)])
  refine Go.cast X2 hx hZ hown (hw _ (List.mem_of_getElem? (i := 36) rfl)) e2 E_b2 (hb hby d5_7) ?_
  intro T3 X3 e3
  show Go p e below W T3 (mkF m 10 #[.val (.ref a1)] [(.ref b2)])
  have fin : Q5 Z a1 ao fo h0 n0 (some (.ref b2)) h2 [] := ⟨b2, rfl, N, K, s_b2, A_b2⟩
  exact Go.retA X3 hx hret rfl rfl (hb hby d5_10) hlk (fun t ht fe => hW t _ _ _ _ (by rw [ht, e3]; exact fin) fe (by decide) (by decide))
set_option maxRecDepth 65536 in
set_option maxHeartbeats 40000000 in
theorem rm1 (l : Launch) (Z : State) (a0 : Array Value) (hw : ∀ d ∈ tables_1, d.before a0 Z = true) (ws : List Jvm.Cond) (a1 : Addr) (p2 : Int32) (p3 : Int32) (p4 : Int32) (p5 : Int32) (fo : Nat → Int32) (h0 : Heap) (A_a1 : AI Z h0 a1 .int 5 fo) (hft : own_rng0 p3 p4) (hp : inb p2 5) :
    Con l Z (⟨"com/example/pilfer/pilfer/TourCopyFromPinLaw", "pick", "([IIIIZ)I"⟩ : MethodName) method_2_code 5 (some .int) ws ({ frames := 0, cells := 0, slots := 0, locals := 0 } : Room) #[(.ref a1), (.int p2), (.int p3), (.int p4), (.int p5)] h0 (PQ (.int (f1 p2 p3 p4 p5 fo)) h0) := by
  refine own_body pn_1 (fun m => ef_1 m a1 p2 p3 p4 p5) ?_
  intro p e s m below meth c T0 W X0 hx hby hml hret hlk hown hnm hZ e0 hW
  show Go p e below W T0 (mkF m 0 #[.val (.ref a1), .val (.int p2), .val (.int p3), .val (.int p4), .val (.int p5)] [])
  refine Go.of (fun _ k => XS.iloadN X0.here hx rfl (hb hby d1_0) rfl k) ?_
  show Go p e below W T0 (mkF m 1 #[.val (.ref a1), .val (.int p2), .val (.int p3), .val (.int p4), .val (.int p5)] [(.int p2)])
  refine Go.of (fun _ k => XS.iloadN X0.here hx rfl (hb hby d1_1) rfl k) ?_
  show Go p e below W T0 (mkF m 2 #[.val (.ref a1), .val (.int p2), .val (.int p3), .val (.int p4), .val (.int p5)] [(.int p3), (.int p2)])
  by_cases c1 : p2 < p3
  · refine Go.of (fun _ k => XS.icmpYes X0.here hx rfl (pc0 := 2) (pc' := 10) rfl (hb hby d1_2) rfl (Jvm.Free.XT.ii_lt_t c1) (by decide) (by decide) k) ?_
    show Go p e below W T0 (mkF m 10 #[.val (.ref a1), .val (.int p2), .val (.int p3), .val (.int p4), .val (.int p5)] [])
    refine Go.of (fun _ k => XS.aloadN X0.here hx rfl (hb hby d1_10) rfl rfl k) ?_
    show Go p e below W T0 (mkF m 11 #[.val (.ref a1), .val (.int p2), .val (.int p3), .val (.int p4), .val (.int p5)] [(.ref a1)])
    refine Go.of (fun _ k => XS.iloadN X0.here hx rfl (hb hby d1_11) rfl k) ?_
    show Go p e below W T0 (mkF m 12 #[.val (.ref a1), .val (.int p2), .val (.int p3), .val (.int p4), .val (.int p5)] [(.int p2), (.ref a1)])
    refine Go.iald X0 hx hZ e0 A_a1 hp (hb hby d1_12) ?_
    show Go p e below W T0 (mkF m 13 #[.val (.ref a1), .val (.int p2), .val (.int p3), .val (.int p4), .val (.int p5)] [(.int (fo (p2).toNatClampNeg))])
    have u_f1 : (f1 p2 p3 p4 p5 fo) = (fo (p2).toNatClampNeg) := by rw [f1, if_pos c1]
    exact Go.retI X0 hx hret (hb hby d1_13) hlk u_f1.symm (fun t ht fe => hW t _ _ _ _ ⟨rfl, rfl, ht.trans e0⟩ fe (by decide) (by decide))
  · refine Go.of (fun _ k => XS.icmpNo X0.here hx rfl (hb hby d1_2) rfl (Jvm.Free.XT.ii_lt_f c1) k) ?_
    show Go p e below W T0 (mkF m 5 #[.val (.ref a1), .val (.int p2), .val (.int p3), .val (.int p4), .val (.int p5)] [])
    refine Go.of (fun _ k => XS.iloadN X0.here hx rfl (hb hby d1_5) rfl k) ?_
    show Go p e below W T0 (mkF m 6 #[.val (.ref a1), .val (.int p2), .val (.int p3), .val (.int p4), .val (.int p5)] [(.int p2)])
    refine Go.of (fun _ k => XS.iloadN X0.here hx rfl (hb hby d1_6) rfl k) ?_
    show Go p e below W T0 (mkF m 7 #[.val (.ref a1), .val (.int p2), .val (.int p3), .val (.int p4), .val (.int p5)] [(.int p4), (.int p2)])
    by_cases c2 : p4 < p2
    · refine Go.of (fun _ k => XS.icmpNo X0.here hx rfl (hb hby d1_7) rfl (Jvm.Free.XT.ii_le_f c2) k) ?_
      show Go p e below W T0 (mkF m 10 #[.val (.ref a1), .val (.int p2), .val (.int p3), .val (.int p4), .val (.int p5)] [])
      refine Go.of (fun _ k => XS.aloadN X0.here hx rfl (hb hby d1_10) rfl rfl k) ?_
      show Go p e below W T0 (mkF m 11 #[.val (.ref a1), .val (.int p2), .val (.int p3), .val (.int p4), .val (.int p5)] [(.ref a1)])
      refine Go.of (fun _ k => XS.iloadN X0.here hx rfl (hb hby d1_11) rfl k) ?_
      show Go p e below W T0 (mkF m 12 #[.val (.ref a1), .val (.int p2), .val (.int p3), .val (.int p4), .val (.int p5)] [(.int p2), (.ref a1)])
      refine Go.iald X0 hx hZ e0 A_a1 hp (hb hby d1_12) ?_
      show Go p e below W T0 (mkF m 13 #[.val (.ref a1), .val (.int p2), .val (.int p3), .val (.int p4), .val (.int p5)] [(.int (fo (p2).toNatClampNeg))])
      have u_f1 : (f1 p2 p3 p4 p5 fo) = (fo (p2).toNatClampNeg) := by rw [f1, if_neg c1, if_pos c2]
      exact Go.retI X0 hx hret (hb hby d1_13) hlk u_f1.symm (fun t ht fe => hW t _ _ _ _ ⟨rfl, rfl, ht.trans e0⟩ fe (by decide) (by decide))
    · refine Go.of (fun _ k => XS.icmpYes X0.here hx rfl (pc0 := 7) (pc' := 14) rfl (hb hby d1_7) rfl (Jvm.Free.XT.ii_le_t c2) (by decide) (by decide) k) ?_
      show Go p e below W T0 (mkF m 14 #[.val (.ref a1), .val (.int p2), .val (.int p3), .val (.int p4), .val (.int p5)] [])
      refine Go.of (fun _ k => XS.iload X0.here hx rfl (hb hby d1_14) rfl k) ?_
      show Go p e below W T0 (mkF m 16 #[.val (.ref a1), .val (.int p2), .val (.int p3), .val (.int p4), .val (.int p5)] [(.int p5)])
      by_cases c3 : p5 = (0 : Int32)
      · refine Go.of (fun _ k => XS.ifYes X0.here hx rfl (pc0 := 16) (pc' := 27) rfl (hb hby d1_16) rfl (Jvm.Free.XT.i0_eq_t c3) (by decide) (by decide) k) ?_
        show Go p e below W T0 (mkF m 27 #[.val (.ref a1), .val (.int p2), .val (.int p3), .val (.int p4), .val (.int p5)] [])
        refine Go.of (fun _ k => XS.aloadN X0.here hx rfl (hb hby d1_27) rfl rfl k) ?_
        show Go p e below W T0 (mkF m 28 #[.val (.ref a1), .val (.int p2), .val (.int p3), .val (.int p4), .val (.int p5)] [(.ref a1)])
        refine Go.of (fun _ k => XS.iloadN X0.here hx rfl (hb hby d1_28) rfl k) ?_
        show Go p e below W T0 (mkF m 29 #[.val (.ref a1), .val (.int p2), .val (.int p3), .val (.int p4), .val (.int p5)] [(.int p2), (.ref a1)])
        refine Go.of (fun _ k => XS.iloadN X0.here hx rfl (hb hby d1_29) rfl k) ?_
        show Go p e below W T0 (mkF m 30 #[.val (.ref a1), .val (.int p2), .val (.int p3), .val (.int p4), .val (.int p5)] [(.int p4), (.int p2), (.ref a1)])
        suffices G5 : ∀ T', Stand p l e ({ frames := 0, cells := 0, slots := 0, locals := 0 } : Room) s m #[(.ref a1), (.int p2), (.int p3), (.int p4), (.int p5)] below meth c T' [] 0 0 → T'.heap = h0 → Go p e below W T' (mkF m 40 #[.val (.ref a1), .val (.int p2), .val (.int p3), .val (.int p4), .val (.int p5)] [(.int (v1_6 p2 p3 p4 p5 fo)), (.ref a1)]) by
          by_cases c4 : p2 = p4
          · refine Go.of (fun _ k => XS.icmpNo X0.here hx rfl (hb hby d1_30) rfl (Jvm.Free.XT.ii_ne_f c4) k) ?_
            show Go p e below W T0 (mkF m 33 #[.val (.ref a1), .val (.int p2), .val (.int p3), .val (.int p4), .val (.int p5)] [(.ref a1)])
            refine Go.of (fun _ k => XS.iloadN X0.here hx rfl (hb hby d1_33) rfl k) ?_
            show Go p e below W T0 (mkF m 34 #[.val (.ref a1), .val (.int p2), .val (.int p3), .val (.int p4), .val (.int p5)] [(.int p3), (.ref a1)])
            refine Go.of (fun _ k => XS.goto X0.here hx rfl (pc0 := 34) (pc' := 40) rfl (hb hby d1_34) (by decide) (by decide) k) ?_
            have G5 := G5
            have q_v1_6 : (v1_6 p2 p3 p4 p5 fo) = p3 := by rw [v1_6, if_pos c4]
            rw [q_v1_6] at G5
            exact G5 _ X0 e0
          · refine Go.of (fun _ k => XS.icmpYes X0.here hx rfl (pc0 := 30) (pc' := 37) rfl (hb hby d1_30) rfl (Jvm.Free.XT.ii_ne_t c4) (by decide) (by decide) k) ?_
            show Go p e below W T0 (mkF m 37 #[.val (.ref a1), .val (.int p2), .val (.int p3), .val (.int p4), .val (.int p5)] [(.ref a1)])
            refine Go.of (fun _ k => XS.iloadN X0.here hx rfl (hb hby d1_37) rfl k) ?_
            show Go p e below W T0 (mkF m 38 #[.val (.ref a1), .val (.int p2), .val (.int p3), .val (.int p4), .val (.int p5)] [(.int p2), (.ref a1)])
            refine Go.of (fun _ k => XS.iconst X0.here hx rfl (hb hby d1_38) k) ?_
            show Go p e below W T0 (mkF m 39 #[.val (.ref a1), .val (.int p2), .val (.int p3), .val (.int p4), .val (.int p5)] [(.int (1 : Int32)), (.int p2), (.ref a1)])
            refine Go.of (fun _ k => XS.iadd X0.here hx rfl (hb hby d1_39) rfl k) ?_
            have G5 := G5
            have q_v1_6 : (v1_6 p2 p3 p4 p5 fo) = (p2 + (1 : Int32)) := by rw [v1_6, if_neg c4]
            rw [q_v1_6] at G5
            exact G5 _ X0 e0
        intro T5 X5 e5
        show Go p e below W T5 (mkF m 40 #[.val (.ref a1), .val (.int p2), .val (.int p3), .val (.int p4), .val (.int p5)] [(.int (v1_6 p2 p3 p4 p5 fo)), (.ref a1)])
        refine Go.iald X5 hx hZ e5 A_a1 (own_b8 hft c1 c2) (hb hby d1_40) ?_
        show Go p e below W T5 (mkF m 41 #[.val (.ref a1), .val (.int p2), .val (.int p3), .val (.int p4), .val (.int p5)] [(.int (fo (v1_6 p2 p3 p4 p5 fo).toNatClampNeg))])
        have u_f1 : (f1 p2 p3 p4 p5 fo) = (fo (v1_6 p2 p3 p4 p5 fo).toNatClampNeg) := by rw [f1, if_neg c1, if_neg c2, if_pos c3]
        exact Go.retI X5 hx hret (hb hby d1_41) hlk u_f1.symm (fun t ht fe => hW t _ _ _ _ ⟨rfl, rfl, ht.trans e5⟩ fe (by decide) (by decide))
      · refine Go.of (fun _ k => XS.ifNo X0.here hx rfl (hb hby d1_16) rfl (Jvm.Free.XT.i0_eq_f c3) k) ?_
        show Go p e below W T0 (mkF m 19 #[.val (.ref a1), .val (.int p2), .val (.int p3), .val (.int p4), .val (.int p5)] [])
        refine Go.of (fun _ k => XS.aloadN X0.here hx rfl (hb hby d1_19) rfl rfl k) ?_
        show Go p e below W T0 (mkF m 20 #[.val (.ref a1), .val (.int p2), .val (.int p3), .val (.int p4), .val (.int p5)] [(.ref a1)])
        refine Go.of (fun _ k => XS.iloadN X0.here hx rfl (hb hby d1_20) rfl k) ?_
        show Go p e below W T0 (mkF m 21 #[.val (.ref a1), .val (.int p2), .val (.int p3), .val (.int p4), .val (.int p5)] [(.int p3), (.ref a1)])
        refine Go.of (fun _ k => XS.iloadN X0.here hx rfl (hb hby d1_21) rfl k) ?_
        show Go p e below W T0 (mkF m 22 #[.val (.ref a1), .val (.int p2), .val (.int p3), .val (.int p4), .val (.int p5)] [(.int p4), (.int p3), (.ref a1)])
        refine Go.of (fun _ k => XS.iadd X0.here hx rfl (hb hby d1_22) rfl k) ?_
        show Go p e below W T0 (mkF m 23 #[.val (.ref a1), .val (.int p2), .val (.int p3), .val (.int p4), .val (.int p5)] [(.int (p3 + p4)), (.ref a1)])
        refine Go.of (fun _ k => XS.iloadN X0.here hx rfl (hb hby d1_23) rfl k) ?_
        show Go p e below W T0 (mkF m 24 #[.val (.ref a1), .val (.int p2), .val (.int p3), .val (.int p4), .val (.int p5)] [(.int p2), (.int (p3 + p4)), (.ref a1)])
        refine Go.of (fun _ k => XS.isub X0.here hx rfl (hb hby d1_24) rfl k) ?_
        show Go p e below W T0 (mkF m 25 #[.val (.ref a1), .val (.int p2), .val (.int p3), .val (.int p4), .val (.int p5)] [(.int ((p3 + p4) - p2)), (.ref a1)])
        refine Go.iald X0 hx hZ e0 A_a1 (own_b7 hft c1 c2) (hb hby d1_25) ?_
        show Go p e below W T0 (mkF m 26 #[.val (.ref a1), .val (.int p2), .val (.int p3), .val (.int p4), .val (.int p5)] [(.int (fo ((p3 + p4) - p2).toNatClampNeg))])
        have u_f1 : (f1 p2 p3 p4 p5 fo) = (fo ((p3 + p4) - p2).toNatClampNeg) := by rw [f1, if_neg c1, if_neg c2, if_neg c3]
        exact Go.retI X0 hx hret (hb hby d1_26) hlk u_f1.symm (fun t ht fe => hW t _ _ _ _ ⟨rfl, rfl, ht.trans e0⟩ fe (by decide) (by decide))
set_option maxRecDepth 65536 in
set_option maxHeartbeats 40000000 in
theorem rm6 (l : Launch) (Z : State) (a0 : Array Value) (hw : ∀ d ∈ tables_1, d.before a0 Z = true) (ws : List Jvm.Cond) (a1 : Addr) (p2 : Int32) (aq : Addr) (fp : Nat → Int32) (h0 : Heap) (F_a1_position : Fld Z h0 a1 "com/example/pilfer/pilfer/Tour" "position" "[I" (.ref aq)) (A_aq : AI Z h0 aq .int 5 fp) (hp : inb p2 5) :
    Con l Z (⟨"com/example/pilfer/pilfer/Tour", "position", "(I)I"⟩ : MethodName) prog_24_method_4_code 2 (some .int) ws ({ frames := 0, cells := 0, slots := 0, locals := 0 } : Room) #[(.ref a1), (.int p2)] h0 (PQ (.int (f6 p2 fp)) h0) := by
  refine own_body pn_6 (fun m => ef_6 m a1 p2) ?_
  intro p e s m below meth c T0 W X0 hx hby hml hret hlk hown hnm hZ e0 hW
  show Go p e below W T0 (mkF m 0 #[.val (.ref a1), .val (.int p2)] [])
  refine Go.of (fun _ k => XS.aloadN X0.here hx rfl (hb hby d6_0) rfl rfl k) ?_
  show Go p e below W T0 (mkF m 1 #[.val (.ref a1), .val (.int p2)] [(.ref a1)])
  refine Go.getF X0 hx hZ hown (hw _ (List.mem_of_getElem? (i := 17) rfl)) e0 F_a1_position (hb hby d6_1) ?_
  intro T1 X1 e1
  show Go p e below W T1 (mkF m 4 #[.val (.ref a1), .val (.int p2)] [(.ref aq)])
  refine Go.of (fun _ k => XS.iloadN X1.here hx rfl (hb hby d6_4) rfl k) ?_
  show Go p e below W T1 (mkF m 5 #[.val (.ref a1), .val (.int p2)] [(.int p2), (.ref aq)])
  refine Go.iald X1 hx hZ e1 A_aq hp (hb hby d6_5) ?_
  show Go p e below W T1 (mkF m 6 #[.val (.ref a1), .val (.int p2)] [(.int (fp (p2).toNatClampNeg))])
  have u_f6 : (f6 p2 fp) = (fp (p2).toNatClampNeg) := by rw [f6]
  exact Go.retI X1 hx hret (hb hby d6_6) hlk u_f6.symm (fun t ht fe => hW t _ _ _ _ ⟨rfl, rfl, ht.trans e1⟩ fe (by decide) (by decide))
set_option maxRecDepth 65536 in
set_option maxHeartbeats 40000000 in
theorem rm0 (l : Launch) (Z : State) (a0 : Array Value) (hw : ∀ d ∈ tables_1, d.before a0 Z = true) (ws : List Jvm.Cond) (p1 : Int32) (p2 : Int32) (p3 : Int32) (p4 : Int32) (p5 : Int32) (mm : Int32) (kk : Int32) (fr : Int32) (tt : Int32) (rv : Int32) (h0 : Heap) (n0 : Nat) (Z0 : n0 ≤ h0.size) (hm : ((1 : Int32) + (p1 &&& (3 : Int32))) = mm) (hk : ((p2 &&& (2147483647 : Int32)) % (5 : Int32)) = kk) (hf : ((p3 &&& (2147483647 : Int32)) % (5 : Int32)) = fr) (ht : (fr + ((p4 &&& (2147483647 : Int32)) % ((5 : Int32) - fr))) = tt) (hr : own_R p5 = rv) (rmm : own_rk mm) (rk : own_rs kk) (rf : own_rng0 fr tt) (rr : rv = 0 ∨ rv = 1) :
    Con l Z x code maxLocals ret ws room_1 #[(.int p1), (.int p2), (.int p3), (.int p4), (.int p5)] h0 (Q0 Z p1 p2 p3 p4 p5 mm kk fr tt rv h0 n0) := by
  refine own_body pn_0 (fun m => ef_0 m p1 p2 p3 p4 p5) ?_
  intro p e s m below meth c T0 W X0 hx hby hml hret hlk hown hnm hZ e0 hW
  have K : Keep h0 h0 [] := Keep.refl _ _
  have N := Fr.nil n0
  show Go p e below W T0 (mkF m 0 #[.val (.int p1), .val (.int p2), .val (.int p3), .val (.int p4), .val (.int p5), .unset, .unset, .unset, .unset, .unset, .unset, .unset, .unset, .unset, .unset, .unset, .unset] [])
  refine Go.of (fun _ k => XS.iconst X0.here hx rfl (hb hby at_0) k) ?_
  show Go p e below W T0 (mkF m 1 #[.val (.int p1), .val (.int p2), .val (.int p3), .val (.int p4), .val (.int p5), .unset, .unset, .unset, .unset, .unset, .unset, .unset, .unset, .unset, .unset, .unset, .unset] [(.int (1 : Int32))])
  refine Go.of (fun _ k => XS.iloadN X0.here hx rfl (hb hby at_1) rfl k) ?_
  show Go p e below W T0 (mkF m 2 #[.val (.int p1), .val (.int p2), .val (.int p3), .val (.int p4), .val (.int p5), .unset, .unset, .unset, .unset, .unset, .unset, .unset, .unset, .unset, .unset, .unset, .unset] [(.int p1), (.int (1 : Int32))])
  refine Go.of (fun _ k => XS.iconst X0.here hx rfl (hb hby at_2) k) ?_
  show Go p e below W T0 (mkF m 3 #[.val (.int p1), .val (.int p2), .val (.int p3), .val (.int p4), .val (.int p5), .unset, .unset, .unset, .unset, .unset, .unset, .unset, .unset, .unset, .unset, .unset, .unset] [(.int (3 : Int32)), (.int p1), (.int (1 : Int32))])
  refine Go.of (fun _ k => XS.iand X0.here hx rfl (hb hby at_3) rfl k) ?_
  show Go p e below W T0 (mkF m 4 #[.val (.int p1), .val (.int p2), .val (.int p3), .val (.int p4), .val (.int p5), .unset, .unset, .unset, .unset, .unset, .unset, .unset, .unset, .unset, .unset, .unset, .unset] [(.int (p1 &&& (3 : Int32))), (.int (1 : Int32))])
  refine Go.of (fun _ k => XS.iadd X0.here hx rfl (hb hby at_4) rfl k) ?_
  show Go p e below W T0 (mkF m 5 #[.val (.int p1), .val (.int p2), .val (.int p3), .val (.int p4), .val (.int p5), .unset, .unset, .unset, .unset, .unset, .unset, .unset, .unset, .unset, .unset, .unset, .unset] [(.int ((1 : Int32) + (p1 &&& (3 : Int32))))])
  rw [hm]
  show Go p e below W T0 (mkF m 5 #[.val (.int p1), .val (.int p2), .val (.int p3), .val (.int p4), .val (.int p5), .unset, .unset, .unset, .unset, .unset, .unset, .unset, .unset, .unset, .unset, .unset, .unset] [(.int mm)])
  show Go p e below W T0 (mkF m 5 #[.val (.int p1), .val (.int p2), .val (.int p3), .val (.int p4), .val (.int p5), .unset, .unset, .unset, .unset, .unset, .unset, .unset, .unset, .unset, .unset, .unset, .unset] [(.int mm)])
  refine Go.of (fun _ k => XS.istore X0.here hx rfl (hb hby at_5) rfl (l' := #[.val (.int p1), .val (.int p2), .val (.int p3), .val (.int p4), .val (.int p5), .val (.int mm), .unset, .unset, .unset, .unset, .unset, .unset, .unset, .unset, .unset, .unset, .unset]) rfl k) ?_
  show Go p e below W T0 (mkF m 7 #[.val (.int p1), .val (.int p2), .val (.int p3), .val (.int p4), .val (.int p5), .val (.int mm), .unset, .unset, .unset, .unset, .unset, .unset, .unset, .unset, .unset, .unset, .unset] [])
  refine Go.of (fun _ k => XS.iloadN X0.here hx rfl (hb hby at_7) rfl k) ?_
  show Go p e below W T0 (mkF m 8 #[.val (.int p1), .val (.int p2), .val (.int p3), .val (.int p4), .val (.int p5), .val (.int mm), .unset, .unset, .unset, .unset, .unset, .unset, .unset, .unset, .unset, .unset, .unset] [(.int p2)])
  refine Go.of (fun _ k => X0.ldcI hx hown (mvT hZ (hw _ (List.mem_of_getElem? (i := 0) rfl))) rfl (hb hby at_8) k) ?_
  show Go p e below W T0 (mkF m 10 #[.val (.int p1), .val (.int p2), .val (.int p3), .val (.int p4), .val (.int p5), .val (.int mm), .unset, .unset, .unset, .unset, .unset, .unset, .unset, .unset, .unset, .unset, .unset] [(.int (2147483647 : Int32)), (.int p2)])
  refine Go.of (fun _ k => XS.iand X0.here hx rfl (hb hby at_10) rfl k) ?_
  show Go p e below W T0 (mkF m 11 #[.val (.int p1), .val (.int p2), .val (.int p3), .val (.int p4), .val (.int p5), .val (.int mm), .unset, .unset, .unset, .unset, .unset, .unset, .unset, .unset, .unset, .unset, .unset] [(.int (p2 &&& (2147483647 : Int32)))])
  refine Go.of (fun _ k => XS.iconst X0.here hx rfl (hb hby at_11) k) ?_
  show Go p e below W T0 (mkF m 12 #[.val (.int p1), .val (.int p2), .val (.int p3), .val (.int p4), .val (.int p5), .val (.int mm), .unset, .unset, .unset, .unset, .unset, .unset, .unset, .unset, .unset, .unset, .unset] [(.int (5 : Int32)), (.int (p2 &&& (2147483647 : Int32)))])
  refine Go.of (fun _ k => iremM X0 hx rfl (hb hby at_12) rfl (by decide) k) ?_
  show Go p e below W T0 (mkF m 13 #[.val (.int p1), .val (.int p2), .val (.int p3), .val (.int p4), .val (.int p5), .val (.int mm), .unset, .unset, .unset, .unset, .unset, .unset, .unset, .unset, .unset, .unset, .unset] [(.int ((p2 &&& (2147483647 : Int32)) % (5 : Int32)))])
  rw [hk]
  show Go p e below W T0 (mkF m 13 #[.val (.int p1), .val (.int p2), .val (.int p3), .val (.int p4), .val (.int p5), .val (.int mm), .unset, .unset, .unset, .unset, .unset, .unset, .unset, .unset, .unset, .unset, .unset] [(.int kk)])
  show Go p e below W T0 (mkF m 13 #[.val (.int p1), .val (.int p2), .val (.int p3), .val (.int p4), .val (.int p5), .val (.int mm), .unset, .unset, .unset, .unset, .unset, .unset, .unset, .unset, .unset, .unset, .unset] [(.int kk)])
  refine Go.of (fun _ k => XS.istore X0.here hx rfl (hb hby at_13) rfl (l' := #[.val (.int p1), .val (.int p2), .val (.int p3), .val (.int p4), .val (.int p5), .val (.int mm), .val (.int kk), .unset, .unset, .unset, .unset, .unset, .unset, .unset, .unset, .unset, .unset]) rfl k) ?_
  show Go p e below W T0 (mkF m 15 #[.val (.int p1), .val (.int p2), .val (.int p3), .val (.int p4), .val (.int p5), .val (.int mm), .val (.int kk), .unset, .unset, .unset, .unset, .unset, .unset, .unset, .unset, .unset, .unset] [])
  refine Go.of (fun _ k => XS.iconst X0.here hx rfl (hb hby at_15) k) ?_
  show Go p e below W T0 (mkF m 16 #[.val (.int p1), .val (.int p2), .val (.int p3), .val (.int p4), .val (.int p5), .val (.int mm), .val (.int kk), .unset, .unset, .unset, .unset, .unset, .unset, .unset, .unset, .unset, .unset] [(.int (5 : Int32))])
  refine Go.newA X0 hx hZ (hw _ (List.mem_of_getElem? (i := 1) rfl)) rfl rfl rfl e0 (hb hby at_16) (by decide) (cap := 5) (by decide) (by decide) (by decide) (by decide) ?_
  intro T1 h1 b1 zq1 X1 e1 E1 E_b1 A_b1
  have g_b1 : n0 ≤ b1 := by rw [zq1]; exact Z0
  have s_b1 : h0.size ≤ b1 := by rw [zq1]; exact K.1
  have K := K.ext E1
  have Z0 := Nat.le_trans Z0 E1.1
  have A_b1 : AI Z h1 b1 .int 5 (w0_2 p5 mm kk fr tt rv) := A_b1
  show Go p e below W T1 (mkF m 18 #[.val (.int p1), .val (.int p2), .val (.int p3), .val (.int p4), .val (.int p5), .val (.int mm), .val (.int kk), .unset, .unset, .unset, .unset, .unset, .unset, .unset, .unset, .unset, .unset] [(.ref b1)])
  refine Go.of (fun _ k => XS.astore X1.here hx rfl (hb hby at_18) rfl rfl (l' := #[.val (.int p1), .val (.int p2), .val (.int p3), .val (.int p4), .val (.int p5), .val (.int mm), .val (.int kk), .val (.ref b1), .unset, .unset, .unset, .unset, .unset, .unset, .unset, .unset, .unset]) rfl k) ?_
  show Go p e below W T1 (mkF m 20 #[.val (.int p1), .val (.int p2), .val (.int p3), .val (.int p4), .val (.int p5), .val (.int mm), .val (.int kk), .val (.ref b1), .unset, .unset, .unset, .unset, .unset, .unset, .unset, .unset, .unset] [])
  refine Go.of (fun _ k => XS.aload X1.here hx rfl (hb hby at_20) rfl rfl k) ?_
  show Go p e below W T1 (mkF m 22 #[.val (.int p1), .val (.int p2), .val (.int p3), .val (.int p4), .val (.int p5), .val (.int mm), .val (.int kk), .val (.ref b1), .unset, .unset, .unset, .unset, .unset, .unset, .unset, .unset, .unset] [(.ref b1)])
  refine Go.of (fun _ k => XS.iconst X1.here hx rfl (hb hby at_22) k) ?_
  show Go p e below W T1 (mkF m 23 #[.val (.int p1), .val (.int p2), .val (.int p3), .val (.int p4), .val (.int p5), .val (.int mm), .val (.int kk), .val (.ref b1), .unset, .unset, .unset, .unset, .unset, .unset, .unset, .unset, .unset] [(.int (0 : Int32)), (.ref b1)])
  refine Go.of (fun _ k => XS.iload X1.here hx rfl (hb hby at_23) rfl k) ?_
  show Go p e below W T1 (mkF m 25 #[.val (.int p1), .val (.int p2), .val (.int p3), .val (.int p4), .val (.int p5), .val (.int mm), .val (.int kk), .val (.ref b1), .unset, .unset, .unset, .unset, .unset, .unset, .unset, .unset, .unset] [(.int kk), (.int (0 : Int32)), (.ref b1)])
  refine Go.of (fun _ k => XS.iconst X1.here hx rfl (hb hby at_25) k) ?_
  show Go p e below W T1 (mkF m 26 #[.val (.int p1), .val (.int p2), .val (.int p3), .val (.int p4), .val (.int p5), .val (.int mm), .val (.int kk), .val (.ref b1), .unset, .unset, .unset, .unset, .unset, .unset, .unset, .unset, .unset] [(.int (5 : Int32)), (.int kk), (.int (0 : Int32)), (.ref b1)])
  refine Go.of (fun _ k => iremM X1 hx rfl (hb hby at_26) rfl (by decide) k) ?_
  show Go p e below W T1 (mkF m 27 #[.val (.int p1), .val (.int p2), .val (.int p3), .val (.int p4), .val (.int p5), .val (.int mm), .val (.int kk), .val (.ref b1), .unset, .unset, .unset, .unset, .unset, .unset, .unset, .unset, .unset] [(.int (kk % (5 : Int32))), (.int (0 : Int32)), (.ref b1)])
  refine Go.ist X1 hx hZ e1 N g_b1 A_b1 ⟨by decide, by decide⟩ (hb hby at_27) ?_
  intro T3 h3 L3 X3 N e3 W3 A_b1
  have E_b1 := E_b1.wr W3
  have K := K.wr W3 (Or.inr s_b1)
  have Z0 := Nat.le_trans Z0 (Keep.of_wr W3).1
  have A_b1 : AI Z h3 b1 .int 5 (w0_4 p5 mm kk fr tt rv) := A_b1
  show Go p e below W T3 (mkF m 28 #[.val (.int p1), .val (.int p2), .val (.int p3), .val (.int p4), .val (.int p5), .val (.int mm), .val (.int kk), .val (.ref b1), .unset, .unset, .unset, .unset, .unset, .unset, .unset, .unset, .unset] [])
  refine Go.of (fun _ k => XS.aload X3.here hx rfl (hb hby at_28) rfl rfl k) ?_
  show Go p e below W T3 (mkF m 30 #[.val (.int p1), .val (.int p2), .val (.int p3), .val (.int p4), .val (.int p5), .val (.int mm), .val (.int kk), .val (.ref b1), .unset, .unset, .unset, .unset, .unset, .unset, .unset, .unset, .unset] [(.ref b1)])
  refine Go.of (fun _ k => XS.iconst X3.here hx rfl (hb hby at_30) k) ?_
  show Go p e below W T3 (mkF m 31 #[.val (.int p1), .val (.int p2), .val (.int p3), .val (.int p4), .val (.int p5), .val (.int mm), .val (.int kk), .val (.ref b1), .unset, .unset, .unset, .unset, .unset, .unset, .unset, .unset, .unset] [(.int (1 : Int32)), (.ref b1)])
  refine Go.of (fun _ k => XS.iload X3.here hx rfl (hb hby at_31) rfl k) ?_
  show Go p e below W T3 (mkF m 33 #[.val (.int p1), .val (.int p2), .val (.int p3), .val (.int p4), .val (.int p5), .val (.int mm), .val (.int kk), .val (.ref b1), .unset, .unset, .unset, .unset, .unset, .unset, .unset, .unset, .unset] [(.int mm), (.int (1 : Int32)), (.ref b1)])
  refine Go.of (fun _ k => XS.iload X3.here hx rfl (hb hby at_33) rfl k) ?_
  show Go p e below W T3 (mkF m 35 #[.val (.int p1), .val (.int p2), .val (.int p3), .val (.int p4), .val (.int p5), .val (.int mm), .val (.int kk), .val (.ref b1), .unset, .unset, .unset, .unset, .unset, .unset, .unset, .unset, .unset] [(.int kk), (.int mm), (.int (1 : Int32)), (.ref b1)])
  refine Go.of (fun _ k => XS.iadd X3.here hx rfl (hb hby at_35) rfl k) ?_
  show Go p e below W T3 (mkF m 36 #[.val (.int p1), .val (.int p2), .val (.int p3), .val (.int p4), .val (.int p5), .val (.int mm), .val (.int kk), .val (.ref b1), .unset, .unset, .unset, .unset, .unset, .unset, .unset, .unset, .unset] [(.int (mm + kk)), (.int (1 : Int32)), (.ref b1)])
  refine Go.of (fun _ k => XS.iconst X3.here hx rfl (hb hby at_36) k) ?_
  show Go p e below W T3 (mkF m 37 #[.val (.int p1), .val (.int p2), .val (.int p3), .val (.int p4), .val (.int p5), .val (.int mm), .val (.int kk), .val (.ref b1), .unset, .unset, .unset, .unset, .unset, .unset, .unset, .unset, .unset] [(.int (5 : Int32)), (.int (mm + kk)), (.int (1 : Int32)), (.ref b1)])
  refine Go.of (fun _ k => iremM X3 hx rfl (hb hby at_37) rfl (by decide) k) ?_
  show Go p e below W T3 (mkF m 38 #[.val (.int p1), .val (.int p2), .val (.int p3), .val (.int p4), .val (.int p5), .val (.int mm), .val (.int kk), .val (.ref b1), .unset, .unset, .unset, .unset, .unset, .unset, .unset, .unset, .unset] [(.int ((mm + kk) % (5 : Int32))), (.int (1 : Int32)), (.ref b1)])
  refine Go.ist X3 hx hZ e3 N g_b1 A_b1 ⟨by decide, by decide⟩ (hb hby at_38) ?_
  intro T5 h5 L5 X5 N e5 W5 A_b1
  have E_b1 := E_b1.wr W5
  have K := K.wr W5 (Or.inr s_b1)
  have Z0 := Nat.le_trans Z0 (Keep.of_wr W5).1
  have A_b1 : AI Z h5 b1 .int 5 (w0_6 p5 mm kk fr tt rv) := A_b1
  show Go p e below W T5 (mkF m 39 #[.val (.int p1), .val (.int p2), .val (.int p3), .val (.int p4), .val (.int p5), .val (.int mm), .val (.int kk), .val (.ref b1), .unset, .unset, .unset, .unset, .unset, .unset, .unset, .unset, .unset] [])
  refine Go.of (fun _ k => XS.aload X5.here hx rfl (hb hby at_39) rfl rfl k) ?_
  show Go p e below W T5 (mkF m 41 #[.val (.int p1), .val (.int p2), .val (.int p3), .val (.int p4), .val (.int p5), .val (.int mm), .val (.int kk), .val (.ref b1), .unset, .unset, .unset, .unset, .unset, .unset, .unset, .unset, .unset] [(.ref b1)])
  refine Go.of (fun _ k => XS.iconst X5.here hx rfl (hb hby at_41) k) ?_
  show Go p e below W T5 (mkF m 42 #[.val (.int p1), .val (.int p2), .val (.int p3), .val (.int p4), .val (.int p5), .val (.int mm), .val (.int kk), .val (.ref b1), .unset, .unset, .unset, .unset, .unset, .unset, .unset, .unset, .unset] [(.int (2 : Int32)), (.ref b1)])
  refine Go.of (fun _ k => XS.iconst X5.here hx rfl (hb hby at_42) k) ?_
  show Go p e below W T5 (mkF m 43 #[.val (.int p1), .val (.int p2), .val (.int p3), .val (.int p4), .val (.int p5), .val (.int mm), .val (.int kk), .val (.ref b1), .unset, .unset, .unset, .unset, .unset, .unset, .unset, .unset, .unset] [(.int (2 : Int32)), (.int (2 : Int32)), (.ref b1)])
  refine Go.of (fun _ k => XS.iload X5.here hx rfl (hb hby at_43) rfl k) ?_
  show Go p e below W T5 (mkF m 45 #[.val (.int p1), .val (.int p2), .val (.int p3), .val (.int p4), .val (.int p5), .val (.int mm), .val (.int kk), .val (.ref b1), .unset, .unset, .unset, .unset, .unset, .unset, .unset, .unset, .unset] [(.int mm), (.int (2 : Int32)), (.int (2 : Int32)), (.ref b1)])
  refine Go.of (fun _ k => XS.imul X5.here hx rfl (hb hby at_45) rfl k) ?_
  show Go p e below W T5 (mkF m 46 #[.val (.int p1), .val (.int p2), .val (.int p3), .val (.int p4), .val (.int p5), .val (.int mm), .val (.int kk), .val (.ref b1), .unset, .unset, .unset, .unset, .unset, .unset, .unset, .unset, .unset] [(.int ((2 : Int32) * mm)), (.int (2 : Int32)), (.ref b1)])
  refine Go.of (fun _ k => XS.iload X5.here hx rfl (hb hby at_46) rfl k) ?_
  show Go p e below W T5 (mkF m 48 #[.val (.int p1), .val (.int p2), .val (.int p3), .val (.int p4), .val (.int p5), .val (.int mm), .val (.int kk), .val (.ref b1), .unset, .unset, .unset, .unset, .unset, .unset, .unset, .unset, .unset] [(.int kk), (.int ((2 : Int32) * mm)), (.int (2 : Int32)), (.ref b1)])
  refine Go.of (fun _ k => XS.iadd X5.here hx rfl (hb hby at_48) rfl k) ?_
  show Go p e below W T5 (mkF m 49 #[.val (.int p1), .val (.int p2), .val (.int p3), .val (.int p4), .val (.int p5), .val (.int mm), .val (.int kk), .val (.ref b1), .unset, .unset, .unset, .unset, .unset, .unset, .unset, .unset, .unset] [(.int (((2 : Int32) * mm) + kk)), (.int (2 : Int32)), (.ref b1)])
  refine Go.of (fun _ k => XS.iconst X5.here hx rfl (hb hby at_49) k) ?_
  show Go p e below W T5 (mkF m 50 #[.val (.int p1), .val (.int p2), .val (.int p3), .val (.int p4), .val (.int p5), .val (.int mm), .val (.int kk), .val (.ref b1), .unset, .unset, .unset, .unset, .unset, .unset, .unset, .unset, .unset] [(.int (5 : Int32)), (.int (((2 : Int32) * mm) + kk)), (.int (2 : Int32)), (.ref b1)])
  refine Go.of (fun _ k => iremM X5 hx rfl (hb hby at_50) rfl (by decide) k) ?_
  show Go p e below W T5 (mkF m 51 #[.val (.int p1), .val (.int p2), .val (.int p3), .val (.int p4), .val (.int p5), .val (.int mm), .val (.int kk), .val (.ref b1), .unset, .unset, .unset, .unset, .unset, .unset, .unset, .unset, .unset] [(.int ((((2 : Int32) * mm) + kk) % (5 : Int32))), (.int (2 : Int32)), (.ref b1)])
  refine Go.ist X5 hx hZ e5 N g_b1 A_b1 ⟨by decide, by decide⟩ (hb hby at_51) ?_
  intro T7 h7 L7 X7 N e7 W7 A_b1
  have E_b1 := E_b1.wr W7
  have K := K.wr W7 (Or.inr s_b1)
  have Z0 := Nat.le_trans Z0 (Keep.of_wr W7).1
  have A_b1 : AI Z h7 b1 .int 5 (w0_8 p5 mm kk fr tt rv) := A_b1
  show Go p e below W T7 (mkF m 52 #[.val (.int p1), .val (.int p2), .val (.int p3), .val (.int p4), .val (.int p5), .val (.int mm), .val (.int kk), .val (.ref b1), .unset, .unset, .unset, .unset, .unset, .unset, .unset, .unset, .unset] [])
  refine Go.of (fun _ k => XS.aload X7.here hx rfl (hb hby at_52) rfl rfl k) ?_
  show Go p e below W T7 (mkF m 54 #[.val (.int p1), .val (.int p2), .val (.int p3), .val (.int p4), .val (.int p5), .val (.int mm), .val (.int kk), .val (.ref b1), .unset, .unset, .unset, .unset, .unset, .unset, .unset, .unset, .unset] [(.ref b1)])
  refine Go.of (fun _ k => XS.iconst X7.here hx rfl (hb hby at_54) k) ?_
  show Go p e below W T7 (mkF m 55 #[.val (.int p1), .val (.int p2), .val (.int p3), .val (.int p4), .val (.int p5), .val (.int mm), .val (.int kk), .val (.ref b1), .unset, .unset, .unset, .unset, .unset, .unset, .unset, .unset, .unset] [(.int (3 : Int32)), (.ref b1)])
  refine Go.of (fun _ k => XS.iconst X7.here hx rfl (hb hby at_55) k) ?_
  show Go p e below W T7 (mkF m 56 #[.val (.int p1), .val (.int p2), .val (.int p3), .val (.int p4), .val (.int p5), .val (.int mm), .val (.int kk), .val (.ref b1), .unset, .unset, .unset, .unset, .unset, .unset, .unset, .unset, .unset] [(.int (3 : Int32)), (.int (3 : Int32)), (.ref b1)])
  refine Go.of (fun _ k => XS.iload X7.here hx rfl (hb hby at_56) rfl k) ?_
  show Go p e below W T7 (mkF m 58 #[.val (.int p1), .val (.int p2), .val (.int p3), .val (.int p4), .val (.int p5), .val (.int mm), .val (.int kk), .val (.ref b1), .unset, .unset, .unset, .unset, .unset, .unset, .unset, .unset, .unset] [(.int mm), (.int (3 : Int32)), (.int (3 : Int32)), (.ref b1)])
  refine Go.of (fun _ k => XS.imul X7.here hx rfl (hb hby at_58) rfl k) ?_
  show Go p e below W T7 (mkF m 59 #[.val (.int p1), .val (.int p2), .val (.int p3), .val (.int p4), .val (.int p5), .val (.int mm), .val (.int kk), .val (.ref b1), .unset, .unset, .unset, .unset, .unset, .unset, .unset, .unset, .unset] [(.int ((3 : Int32) * mm)), (.int (3 : Int32)), (.ref b1)])
  refine Go.of (fun _ k => XS.iload X7.here hx rfl (hb hby at_59) rfl k) ?_
  show Go p e below W T7 (mkF m 61 #[.val (.int p1), .val (.int p2), .val (.int p3), .val (.int p4), .val (.int p5), .val (.int mm), .val (.int kk), .val (.ref b1), .unset, .unset, .unset, .unset, .unset, .unset, .unset, .unset, .unset] [(.int kk), (.int ((3 : Int32) * mm)), (.int (3 : Int32)), (.ref b1)])
  refine Go.of (fun _ k => XS.iadd X7.here hx rfl (hb hby at_61) rfl k) ?_
  show Go p e below W T7 (mkF m 62 #[.val (.int p1), .val (.int p2), .val (.int p3), .val (.int p4), .val (.int p5), .val (.int mm), .val (.int kk), .val (.ref b1), .unset, .unset, .unset, .unset, .unset, .unset, .unset, .unset, .unset] [(.int (((3 : Int32) * mm) + kk)), (.int (3 : Int32)), (.ref b1)])
  refine Go.of (fun _ k => XS.iconst X7.here hx rfl (hb hby at_62) k) ?_
  show Go p e below W T7 (mkF m 63 #[.val (.int p1), .val (.int p2), .val (.int p3), .val (.int p4), .val (.int p5), .val (.int mm), .val (.int kk), .val (.ref b1), .unset, .unset, .unset, .unset, .unset, .unset, .unset, .unset, .unset] [(.int (5 : Int32)), (.int (((3 : Int32) * mm) + kk)), (.int (3 : Int32)), (.ref b1)])
  refine Go.of (fun _ k => iremM X7 hx rfl (hb hby at_63) rfl (by decide) k) ?_
  show Go p e below W T7 (mkF m 64 #[.val (.int p1), .val (.int p2), .val (.int p3), .val (.int p4), .val (.int p5), .val (.int mm), .val (.int kk), .val (.ref b1), .unset, .unset, .unset, .unset, .unset, .unset, .unset, .unset, .unset] [(.int ((((3 : Int32) * mm) + kk) % (5 : Int32))), (.int (3 : Int32)), (.ref b1)])
  refine Go.ist X7 hx hZ e7 N g_b1 A_b1 ⟨by decide, by decide⟩ (hb hby at_64) ?_
  intro T9 h9 L9 X9 N e9 W9 A_b1
  have E_b1 := E_b1.wr W9
  have K := K.wr W9 (Or.inr s_b1)
  have Z0 := Nat.le_trans Z0 (Keep.of_wr W9).1
  have A_b1 : AI Z h9 b1 .int 5 (w0_10 p5 mm kk fr tt rv) := A_b1
  show Go p e below W T9 (mkF m 65 #[.val (.int p1), .val (.int p2), .val (.int p3), .val (.int p4), .val (.int p5), .val (.int mm), .val (.int kk), .val (.ref b1), .unset, .unset, .unset, .unset, .unset, .unset, .unset, .unset, .unset] [])
  refine Go.of (fun _ k => XS.aload X9.here hx rfl (hb hby at_65) rfl rfl k) ?_
  show Go p e below W T9 (mkF m 67 #[.val (.int p1), .val (.int p2), .val (.int p3), .val (.int p4), .val (.int p5), .val (.int mm), .val (.int kk), .val (.ref b1), .unset, .unset, .unset, .unset, .unset, .unset, .unset, .unset, .unset] [(.ref b1)])
  refine Go.of (fun _ k => XS.iconst X9.here hx rfl (hb hby at_67) k) ?_
  show Go p e below W T9 (mkF m 68 #[.val (.int p1), .val (.int p2), .val (.int p3), .val (.int p4), .val (.int p5), .val (.int mm), .val (.int kk), .val (.ref b1), .unset, .unset, .unset, .unset, .unset, .unset, .unset, .unset, .unset] [(.int (4 : Int32)), (.ref b1)])
  refine Go.of (fun _ k => XS.iconst X9.here hx rfl (hb hby at_68) k) ?_
  show Go p e below W T9 (mkF m 69 #[.val (.int p1), .val (.int p2), .val (.int p3), .val (.int p4), .val (.int p5), .val (.int mm), .val (.int kk), .val (.ref b1), .unset, .unset, .unset, .unset, .unset, .unset, .unset, .unset, .unset] [(.int (4 : Int32)), (.int (4 : Int32)), (.ref b1)])
  refine Go.of (fun _ k => XS.iload X9.here hx rfl (hb hby at_69) rfl k) ?_
  show Go p e below W T9 (mkF m 71 #[.val (.int p1), .val (.int p2), .val (.int p3), .val (.int p4), .val (.int p5), .val (.int mm), .val (.int kk), .val (.ref b1), .unset, .unset, .unset, .unset, .unset, .unset, .unset, .unset, .unset] [(.int mm), (.int (4 : Int32)), (.int (4 : Int32)), (.ref b1)])
  refine Go.of (fun _ k => XS.imul X9.here hx rfl (hb hby at_71) rfl k) ?_
  show Go p e below W T9 (mkF m 72 #[.val (.int p1), .val (.int p2), .val (.int p3), .val (.int p4), .val (.int p5), .val (.int mm), .val (.int kk), .val (.ref b1), .unset, .unset, .unset, .unset, .unset, .unset, .unset, .unset, .unset] [(.int ((4 : Int32) * mm)), (.int (4 : Int32)), (.ref b1)])
  refine Go.of (fun _ k => XS.iload X9.here hx rfl (hb hby at_72) rfl k) ?_
  show Go p e below W T9 (mkF m 74 #[.val (.int p1), .val (.int p2), .val (.int p3), .val (.int p4), .val (.int p5), .val (.int mm), .val (.int kk), .val (.ref b1), .unset, .unset, .unset, .unset, .unset, .unset, .unset, .unset, .unset] [(.int kk), (.int ((4 : Int32) * mm)), (.int (4 : Int32)), (.ref b1)])
  refine Go.of (fun _ k => XS.iadd X9.here hx rfl (hb hby at_74) rfl k) ?_
  show Go p e below W T9 (mkF m 75 #[.val (.int p1), .val (.int p2), .val (.int p3), .val (.int p4), .val (.int p5), .val (.int mm), .val (.int kk), .val (.ref b1), .unset, .unset, .unset, .unset, .unset, .unset, .unset, .unset, .unset] [(.int (((4 : Int32) * mm) + kk)), (.int (4 : Int32)), (.ref b1)])
  refine Go.of (fun _ k => XS.iconst X9.here hx rfl (hb hby at_75) k) ?_
  show Go p e below W T9 (mkF m 76 #[.val (.int p1), .val (.int p2), .val (.int p3), .val (.int p4), .val (.int p5), .val (.int mm), .val (.int kk), .val (.ref b1), .unset, .unset, .unset, .unset, .unset, .unset, .unset, .unset, .unset] [(.int (5 : Int32)), (.int (((4 : Int32) * mm) + kk)), (.int (4 : Int32)), (.ref b1)])
  refine Go.of (fun _ k => iremM X9 hx rfl (hb hby at_76) rfl (by decide) k) ?_
  show Go p e below W T9 (mkF m 77 #[.val (.int p1), .val (.int p2), .val (.int p3), .val (.int p4), .val (.int p5), .val (.int mm), .val (.int kk), .val (.ref b1), .unset, .unset, .unset, .unset, .unset, .unset, .unset, .unset, .unset] [(.int ((((4 : Int32) * mm) + kk) % (5 : Int32))), (.int (4 : Int32)), (.ref b1)])
  refine Go.ist X9 hx hZ e9 N g_b1 A_b1 ⟨by decide, by decide⟩ (hb hby at_77) ?_
  intro T11 h11 L11 X11 N e11 W11 A_b1
  have E_b1 := E_b1.wr W11
  have K := K.wr W11 (Or.inr s_b1)
  have Z0 := Nat.le_trans Z0 (Keep.of_wr W11).1
  have A_b1 : AI Z h11 b1 .int 5 (w0_12 p5 mm kk fr tt rv) := A_b1
  show Go p e below W T11 (mkF m 78 #[.val (.int p1), .val (.int p2), .val (.int p3), .val (.int p4), .val (.int p5), .val (.int mm), .val (.int kk), .val (.ref b1), .unset, .unset, .unset, .unset, .unset, .unset, .unset, .unset, .unset] [])
  refine Go.of (fun _ k => XS.iloadN X11.here hx rfl (hb hby at_78) rfl k) ?_
  show Go p e below W T11 (mkF m 79 #[.val (.int p1), .val (.int p2), .val (.int p3), .val (.int p4), .val (.int p5), .val (.int mm), .val (.int kk), .val (.ref b1), .unset, .unset, .unset, .unset, .unset, .unset, .unset, .unset, .unset] [(.int p3)])
  refine Go.of (fun _ k => X11.ldcI hx hown (mvT hZ (hw _ (List.mem_of_getElem? (i := 0) rfl))) rfl (hb hby at_79) k) ?_
  show Go p e below W T11 (mkF m 81 #[.val (.int p1), .val (.int p2), .val (.int p3), .val (.int p4), .val (.int p5), .val (.int mm), .val (.int kk), .val (.ref b1), .unset, .unset, .unset, .unset, .unset, .unset, .unset, .unset, .unset] [(.int (2147483647 : Int32)), (.int p3)])
  refine Go.of (fun _ k => XS.iand X11.here hx rfl (hb hby at_81) rfl k) ?_
  show Go p e below W T11 (mkF m 82 #[.val (.int p1), .val (.int p2), .val (.int p3), .val (.int p4), .val (.int p5), .val (.int mm), .val (.int kk), .val (.ref b1), .unset, .unset, .unset, .unset, .unset, .unset, .unset, .unset, .unset] [(.int (p3 &&& (2147483647 : Int32)))])
  refine Go.of (fun _ k => XS.iconst X11.here hx rfl (hb hby at_82) k) ?_
  show Go p e below W T11 (mkF m 83 #[.val (.int p1), .val (.int p2), .val (.int p3), .val (.int p4), .val (.int p5), .val (.int mm), .val (.int kk), .val (.ref b1), .unset, .unset, .unset, .unset, .unset, .unset, .unset, .unset, .unset] [(.int (5 : Int32)), (.int (p3 &&& (2147483647 : Int32)))])
  refine Go.of (fun _ k => iremM X11 hx rfl (hb hby at_83) rfl (by decide) k) ?_
  show Go p e below W T11 (mkF m 84 #[.val (.int p1), .val (.int p2), .val (.int p3), .val (.int p4), .val (.int p5), .val (.int mm), .val (.int kk), .val (.ref b1), .unset, .unset, .unset, .unset, .unset, .unset, .unset, .unset, .unset] [(.int ((p3 &&& (2147483647 : Int32)) % (5 : Int32)))])
  rw [hf]
  show Go p e below W T11 (mkF m 84 #[.val (.int p1), .val (.int p2), .val (.int p3), .val (.int p4), .val (.int p5), .val (.int mm), .val (.int kk), .val (.ref b1), .unset, .unset, .unset, .unset, .unset, .unset, .unset, .unset, .unset] [(.int fr)])
  show Go p e below W T11 (mkF m 84 #[.val (.int p1), .val (.int p2), .val (.int p3), .val (.int p4), .val (.int p5), .val (.int mm), .val (.int kk), .val (.ref b1), .unset, .unset, .unset, .unset, .unset, .unset, .unset, .unset, .unset] [(.int fr)])
  refine Go.of (fun _ k => XS.istore X11.here hx rfl (hb hby at_84) rfl (l' := #[.val (.int p1), .val (.int p2), .val (.int p3), .val (.int p4), .val (.int p5), .val (.int mm), .val (.int kk), .val (.ref b1), .val (.int fr), .unset, .unset, .unset, .unset, .unset, .unset, .unset, .unset]) rfl k) ?_
  show Go p e below W T11 (mkF m 86 #[.val (.int p1), .val (.int p2), .val (.int p3), .val (.int p4), .val (.int p5), .val (.int mm), .val (.int kk), .val (.ref b1), .val (.int fr), .unset, .unset, .unset, .unset, .unset, .unset, .unset, .unset] [])
  refine Go.of (fun _ k => XS.iload X11.here hx rfl (hb hby at_86) rfl k) ?_
  show Go p e below W T11 (mkF m 88 #[.val (.int p1), .val (.int p2), .val (.int p3), .val (.int p4), .val (.int p5), .val (.int mm), .val (.int kk), .val (.ref b1), .val (.int fr), .unset, .unset, .unset, .unset, .unset, .unset, .unset, .unset] [(.int fr)])
  refine Go.of (fun _ k => XS.iloadN X11.here hx rfl (hb hby at_88) rfl k) ?_
  show Go p e below W T11 (mkF m 89 #[.val (.int p1), .val (.int p2), .val (.int p3), .val (.int p4), .val (.int p5), .val (.int mm), .val (.int kk), .val (.ref b1), .val (.int fr), .unset, .unset, .unset, .unset, .unset, .unset, .unset, .unset] [(.int p4), (.int fr)])
  refine Go.of (fun _ k => X11.ldcI hx hown (mvT hZ (hw _ (List.mem_of_getElem? (i := 0) rfl))) rfl (hb hby at_89) k) ?_
  show Go p e below W T11 (mkF m 91 #[.val (.int p1), .val (.int p2), .val (.int p3), .val (.int p4), .val (.int p5), .val (.int mm), .val (.int kk), .val (.ref b1), .val (.int fr), .unset, .unset, .unset, .unset, .unset, .unset, .unset, .unset] [(.int (2147483647 : Int32)), (.int p4), (.int fr)])
  refine Go.of (fun _ k => XS.iand X11.here hx rfl (hb hby at_91) rfl k) ?_
  show Go p e below W T11 (mkF m 92 #[.val (.int p1), .val (.int p2), .val (.int p3), .val (.int p4), .val (.int p5), .val (.int mm), .val (.int kk), .val (.ref b1), .val (.int fr), .unset, .unset, .unset, .unset, .unset, .unset, .unset, .unset] [(.int (p4 &&& (2147483647 : Int32))), (.int fr)])
  refine Go.of (fun _ k => XS.iconst X11.here hx rfl (hb hby at_92) k) ?_
  show Go p e below W T11 (mkF m 93 #[.val (.int p1), .val (.int p2), .val (.int p3), .val (.int p4), .val (.int p5), .val (.int mm), .val (.int kk), .val (.ref b1), .val (.int fr), .unset, .unset, .unset, .unset, .unset, .unset, .unset, .unset] [(.int (5 : Int32)), (.int (p4 &&& (2147483647 : Int32))), (.int fr)])
  refine Go.of (fun _ k => XS.iload X11.here hx rfl (hb hby at_93) rfl k) ?_
  show Go p e below W T11 (mkF m 95 #[.val (.int p1), .val (.int p2), .val (.int p3), .val (.int p4), .val (.int p5), .val (.int mm), .val (.int kk), .val (.ref b1), .val (.int fr), .unset, .unset, .unset, .unset, .unset, .unset, .unset, .unset] [(.int fr), (.int (5 : Int32)), (.int (p4 &&& (2147483647 : Int32))), (.int fr)])
  refine Go.of (fun _ k => XS.isub X11.here hx rfl (hb hby at_95) rfl k) ?_
  show Go p e below W T11 (mkF m 96 #[.val (.int p1), .val (.int p2), .val (.int p3), .val (.int p4), .val (.int p5), .val (.int mm), .val (.int kk), .val (.ref b1), .val (.int fr), .unset, .unset, .unset, .unset, .unset, .unset, .unset, .unset] [(.int ((5 : Int32) - fr)), (.int (p4 &&& (2147483647 : Int32))), (.int fr)])
  refine Go.of (fun _ k => iremM X11 hx rfl (hb hby at_96) rfl (own_nz0 rf) k) ?_
  show Go p e below W T11 (mkF m 97 #[.val (.int p1), .val (.int p2), .val (.int p3), .val (.int p4), .val (.int p5), .val (.int mm), .val (.int kk), .val (.ref b1), .val (.int fr), .unset, .unset, .unset, .unset, .unset, .unset, .unset, .unset] [(.int ((p4 &&& (2147483647 : Int32)) % ((5 : Int32) - fr))), (.int fr)])
  refine Go.of (fun _ k => XS.iadd X11.here hx rfl (hb hby at_97) rfl k) ?_
  show Go p e below W T11 (mkF m 98 #[.val (.int p1), .val (.int p2), .val (.int p3), .val (.int p4), .val (.int p5), .val (.int mm), .val (.int kk), .val (.ref b1), .val (.int fr), .unset, .unset, .unset, .unset, .unset, .unset, .unset, .unset] [(.int (fr + ((p4 &&& (2147483647 : Int32)) % ((5 : Int32) - fr))))])
  rw [ht]
  show Go p e below W T11 (mkF m 98 #[.val (.int p1), .val (.int p2), .val (.int p3), .val (.int p4), .val (.int p5), .val (.int mm), .val (.int kk), .val (.ref b1), .val (.int fr), .unset, .unset, .unset, .unset, .unset, .unset, .unset, .unset] [(.int tt)])
  show Go p e below W T11 (mkF m 98 #[.val (.int p1), .val (.int p2), .val (.int p3), .val (.int p4), .val (.int p5), .val (.int mm), .val (.int kk), .val (.ref b1), .val (.int fr), .unset, .unset, .unset, .unset, .unset, .unset, .unset, .unset] [(.int tt)])
  refine Go.of (fun _ k => XS.istore X11.here hx rfl (hb hby at_98) rfl (l' := #[.val (.int p1), .val (.int p2), .val (.int p3), .val (.int p4), .val (.int p5), .val (.int mm), .val (.int kk), .val (.ref b1), .val (.int fr), .val (.int tt), .unset, .unset, .unset, .unset, .unset, .unset, .unset]) rfl k) ?_
  show Go p e below W T11 (mkF m 100 #[.val (.int p1), .val (.int p2), .val (.int p3), .val (.int p4), .val (.int p5), .val (.int mm), .val (.int kk), .val (.ref b1), .val (.int fr), .val (.int tt), .unset, .unset, .unset, .unset, .unset, .unset, .unset] [])
  refine Go.of (fun _ k => XS.iload X11.here hx rfl (hb hby at_100) rfl k) ?_
  show Go p e below W T11 (mkF m 102 #[.val (.int p1), .val (.int p2), .val (.int p3), .val (.int p4), .val (.int p5), .val (.int mm), .val (.int kk), .val (.ref b1), .val (.int fr), .val (.int tt), .unset, .unset, .unset, .unset, .unset, .unset, .unset] [(.int p5)])
  refine Go.of (fun _ k => XS.iconst X11.here hx rfl (hb hby at_102) k) ?_
  show Go p e below W T11 (mkF m 103 #[.val (.int p1), .val (.int p2), .val (.int p3), .val (.int p4), .val (.int p5), .val (.int mm), .val (.int kk), .val (.ref b1), .val (.int fr), .val (.int tt), .unset, .unset, .unset, .unset, .unset, .unset, .unset] [(.int (1 : Int32)), (.int p5)])
  refine Go.of (fun _ k => XS.iand X11.here hx rfl (hb hby at_103) rfl k) ?_
  show Go p e below W T11 (mkF m 104 #[.val (.int p1), .val (.int p2), .val (.int p3), .val (.int p4), .val (.int p5), .val (.int mm), .val (.int kk), .val (.ref b1), .val (.int fr), .val (.int tt), .unset, .unset, .unset, .unset, .unset, .unset, .unset] [(.int (p5 &&& (1 : Int32)))])
  suffices G14 : ∀ T', Stand p l e room_1 s m #[(.int p1), (.int p2), (.int p3), (.int p4), (.int p5)] below meth c T' L11 1 5 → T'.heap = h11 → Go p e below W T' (mkF m 112 #[.val (.int p1), .val (.int p2), .val (.int p3), .val (.int p4), .val (.int p5), .val (.int mm), .val (.int kk), .val (.ref b1), .val (.int fr), .val (.int tt), .unset, .unset, .unset, .unset, .unset, .unset, .unset] [(.int (v0_15 p5 mm kk fr tt rv))]) by
    by_cases c13 : (p5 &&& (1 : Int32)) = (0 : Int32)
    · refine Go.of (fun _ k => XS.ifYes X11.here hx rfl (pc0 := 104) (pc' := 111) rfl (hb hby at_104) rfl (Jvm.Free.XT.i0_eq_t c13) (by decide) (by decide) k) ?_
      show Go p e below W T11 (mkF m 111 #[.val (.int p1), .val (.int p2), .val (.int p3), .val (.int p4), .val (.int p5), .val (.int mm), .val (.int kk), .val (.ref b1), .val (.int fr), .val (.int tt), .unset, .unset, .unset, .unset, .unset, .unset, .unset] [])
      refine Go.of (fun _ k => XS.iconst X11.here hx rfl (hb hby at_111) k) ?_
      have G14 := G14
      have q_v0_15 : (v0_15 p5 mm kk fr tt rv) = (0 : Int32) := by rw [v0_15, if_pos c13]
      rw [q_v0_15] at G14
      exact G14 _ X11 e11
    · refine Go.of (fun _ k => XS.ifNo X11.here hx rfl (hb hby at_104) rfl (Jvm.Free.XT.i0_eq_f c13) k) ?_
      show Go p e below W T11 (mkF m 107 #[.val (.int p1), .val (.int p2), .val (.int p3), .val (.int p4), .val (.int p5), .val (.int mm), .val (.int kk), .val (.ref b1), .val (.int fr), .val (.int tt), .unset, .unset, .unset, .unset, .unset, .unset, .unset] [])
      refine Go.of (fun _ k => XS.iconst X11.here hx rfl (hb hby at_107) k) ?_
      show Go p e below W T11 (mkF m 108 #[.val (.int p1), .val (.int p2), .val (.int p3), .val (.int p4), .val (.int p5), .val (.int mm), .val (.int kk), .val (.ref b1), .val (.int fr), .val (.int tt), .unset, .unset, .unset, .unset, .unset, .unset, .unset] [(.int (1 : Int32))])
      refine Go.of (fun _ k => XS.goto X11.here hx rfl (pc0 := 108) (pc' := 112) rfl (hb hby at_108) (by decide) (by decide) k) ?_
      have G14 := G14
      have q_v0_15 : (v0_15 p5 mm kk fr tt rv) = (1 : Int32) := by rw [v0_15, if_neg c13]
      rw [q_v0_15] at G14
      exact G14 _ X11 e11
  intro T14 X14 e14
  show Go p e below W T14 (mkF m 112 #[.val (.int p1), .val (.int p2), .val (.int p3), .val (.int p4), .val (.int p5), .val (.int mm), .val (.int kk), .val (.ref b1), .val (.int fr), .val (.int tt), .unset, .unset, .unset, .unset, .unset, .unset, .unset] [(.int (v0_15 p5 mm kk fr tt rv))])
  rw [show (v0_15 p5 mm kk fr tt rv) = own_R p5 from rfl, hr]
  show Go p e below W T14 (mkF m 112 #[.val (.int p1), .val (.int p2), .val (.int p3), .val (.int p4), .val (.int p5), .val (.int mm), .val (.int kk), .val (.ref b1), .val (.int fr), .val (.int tt), .unset, .unset, .unset, .unset, .unset, .unset, .unset] [(.int rv)])
  show Go p e below W T14 (mkF m 112 #[.val (.int p1), .val (.int p2), .val (.int p3), .val (.int p4), .val (.int p5), .val (.int mm), .val (.int kk), .val (.ref b1), .val (.int fr), .val (.int tt), .unset, .unset, .unset, .unset, .unset, .unset, .unset] [(.int rv)])
  refine Go.of (fun _ k => XS.istore X14.here hx rfl (hb hby at_112) rfl (l' := #[.val (.int p1), .val (.int p2), .val (.int p3), .val (.int p4), .val (.int p5), .val (.int mm), .val (.int kk), .val (.ref b1), .val (.int fr), .val (.int tt), .val (.int rv), .unset, .unset, .unset, .unset, .unset, .unset]) rfl k) ?_
  show Go p e below W T14 (mkF m 114 #[.val (.int p1), .val (.int p2), .val (.int p3), .val (.int p4), .val (.int p5), .val (.int mm), .val (.int kk), .val (.ref b1), .val (.int fr), .val (.int tt), .val (.int rv), .unset, .unset, .unset, .unset, .unset, .unset] [])
  refine Go.of (fun _ k => XS.iconst X14.here hx rfl (hb hby at_114) k) ?_
  show Go p e below W T14 (mkF m 115 #[.val (.int p1), .val (.int p2), .val (.int p3), .val (.int p4), .val (.int p5), .val (.int mm), .val (.int kk), .val (.ref b1), .val (.int fr), .val (.int tt), .val (.int rv), .unset, .unset, .unset, .unset, .unset, .unset] [(.int (5 : Int32))])
  refine Go.newA X14 hx hZ (hw _ (List.mem_of_getElem? (i := 1) rfl)) rfl rfl rfl e14 (hb hby at_115) (by decide) (cap := 5) (by decide) (by decide) (by decide) (by decide) ?_
  intro T16 h16 b16 zq16 X16 e16 E16 E_b16 A_b16
  have ne_b1_b16 : b1 ≠ b16 := by rw [zq16]; exact Nat.ne_of_lt E_b1.lt
  have g_b16 : n0 ≤ b16 := by rw [zq16]; exact Z0
  have s_b16 : h0.size ≤ b16 := by rw [zq16]; exact K.1
  have E_b1 := E_b1.ext E16
  have A_b1 := A_b1.ext E16
  have K := K.ext E16
  have Z0 := Nat.le_trans Z0 E16.1
  have A_b16 : AI Z h16 b16 .int 5 (w0_17 p5 mm kk fr tt rv) := A_b16
  show Go p e below W T16 (mkF m 117 #[.val (.int p1), .val (.int p2), .val (.int p3), .val (.int p4), .val (.int p5), .val (.int mm), .val (.int kk), .val (.ref b1), .val (.int fr), .val (.int tt), .val (.int rv), .unset, .unset, .unset, .unset, .unset, .unset] [(.ref b16)])
  refine Go.of (fun _ k => XS.astore X16.here hx rfl (hb hby at_117) rfl rfl (l' := #[.val (.int p1), .val (.int p2), .val (.int p3), .val (.int p4), .val (.int p5), .val (.int mm), .val (.int kk), .val (.ref b1), .val (.int fr), .val (.int tt), .val (.int rv), .val (.ref b16), .unset, .unset, .unset, .unset, .unset]) rfl k) ?_
  show Go p e below W T16 (mkF m 119 #[.val (.int p1), .val (.int p2), .val (.int p3), .val (.int p4), .val (.int p5), .val (.int mm), .val (.int kk), .val (.ref b1), .val (.int fr), .val (.int tt), .val (.int rv), .val (.ref b16), .unset, .unset, .unset, .unset, .unset] [])
  refine Go.of (fun _ k => XS.aload X16.here hx rfl (hb hby at_119) rfl rfl k) ?_
  show Go p e below W T16 (mkF m 121 #[.val (.int p1), .val (.int p2), .val (.int p3), .val (.int p4), .val (.int p5), .val (.int mm), .val (.int kk), .val (.ref b1), .val (.int fr), .val (.int tt), .val (.int rv), .val (.ref b16), .unset, .unset, .unset, .unset, .unset] [(.ref b16)])
  refine Go.of (fun _ k => XS.iconst X16.here hx rfl (hb hby at_121) k) ?_
  show Go p e below W T16 (mkF m 122 #[.val (.int p1), .val (.int p2), .val (.int p3), .val (.int p4), .val (.int p5), .val (.int mm), .val (.int kk), .val (.ref b1), .val (.int fr), .val (.int tt), .val (.int rv), .val (.ref b16), .unset, .unset, .unset, .unset, .unset] [(.int (0 : Int32)), (.ref b16)])
  refine Go.of (fun _ k => XS.aload X16.here hx rfl (hb hby at_122) rfl rfl k) ?_
  show Go p e below W T16 (mkF m 124 #[.val (.int p1), .val (.int p2), .val (.int p3), .val (.int p4), .val (.int p5), .val (.int mm), .val (.int kk), .val (.ref b1), .val (.int fr), .val (.int tt), .val (.int rv), .val (.ref b16), .unset, .unset, .unset, .unset, .unset] [(.ref b1), (.int (0 : Int32)), (.ref b16)])
  refine Go.of (fun _ k => XS.iconst X16.here hx rfl (hb hby at_124) k) ?_
  show Go p e below W T16 (mkF m 125 #[.val (.int p1), .val (.int p2), .val (.int p3), .val (.int p4), .val (.int p5), .val (.int mm), .val (.int kk), .val (.ref b1), .val (.int fr), .val (.int tt), .val (.int rv), .val (.ref b16), .unset, .unset, .unset, .unset, .unset] [(.int (0 : Int32)), (.ref b1), (.int (0 : Int32)), (.ref b16)])
  refine Go.of (fun _ k => XS.iload X16.here hx rfl (hb hby at_125) rfl k) ?_
  show Go p e below W T16 (mkF m 127 #[.val (.int p1), .val (.int p2), .val (.int p3), .val (.int p4), .val (.int p5), .val (.int mm), .val (.int kk), .val (.ref b1), .val (.int fr), .val (.int tt), .val (.int rv), .val (.ref b16), .unset, .unset, .unset, .unset, .unset] [(.int fr), (.int (0 : Int32)), (.ref b1), (.int (0 : Int32)), (.ref b16)])
  refine Go.of (fun _ k => XS.iload X16.here hx rfl (hb hby at_127) rfl k) ?_
  show Go p e below W T16 (mkF m 129 #[.val (.int p1), .val (.int p2), .val (.int p3), .val (.int p4), .val (.int p5), .val (.int mm), .val (.int kk), .val (.ref b1), .val (.int fr), .val (.int tt), .val (.int rv), .val (.ref b16), .unset, .unset, .unset, .unset, .unset] [(.int tt), (.int fr), (.int (0 : Int32)), (.ref b1), (.int (0 : Int32)), (.ref b16)])
  refine Go.of (fun _ k => XS.iload X16.here hx rfl (hb hby at_129) rfl k) ?_
  show Go p e below W T16 (mkF m 131 #[.val (.int p1), .val (.int p2), .val (.int p3), .val (.int p4), .val (.int p5), .val (.int mm), .val (.int kk), .val (.ref b1), .val (.int fr), .val (.int tt), .val (.int rv), .val (.ref b16), .unset, .unset, .unset, .unset, .unset] [(.int rv), (.int tt), (.int fr), (.int (0 : Int32)), (.ref b1), (.int (0 : Int32)), (.ref b16)])
  refine Go.callS X16 hx hZ hown (hw _ (List.mem_of_getElem? (i := 2) rfl)) (hw _ (List.mem_of_getElem? (i := 3) rfl)) (hw _ (List.mem_of_getElem? (i := 4) rfl)) (hw _ (List.mem_of_getElem? (i := 5) rfl)) (by decide) e16 (rm1 l Z a0 hw [] b1 (0 : Int32) fr tt rv (w0_12 p5 mm kk fr tt rv) h16 A_b1 rf ⟨by decide, by decide⟩) (V := 2) (by decide) (by decide) (by decide) (by decide) (by rw [hml]; rfl) (argsL := [(.ref b1), (.int (0 : Int32)), (.int fr), (.int tt), (.int rv)]) (rest := [(.int (0 : Int32)), (.ref b16)]) rfl (lenOf pd___IIIIZ_I rfl) rfl (Nat.le_of_ble_eq_true rfl) (hb hby at_131) ?_
  rintro T18 _ _ ⟨rfl, rfl, e18⟩ X18
  rw [List.append_nil] at X18
  show Go p e below W T18 (mkF m 134 #[.val (.int p1), .val (.int p2), .val (.int p3), .val (.int p4), .val (.int p5), .val (.int mm), .val (.int kk), .val (.ref b1), .val (.int fr), .val (.int tt), .val (.int rv), .val (.ref b16), .unset, .unset, .unset, .unset, .unset] [(.int (f1 (0 : Int32) fr tt rv (w0_12 p5 mm kk fr tt rv))), (.int (0 : Int32)), (.ref b16)])
  refine Go.ist X18 hx hZ e18 N g_b16 A_b16 ⟨by decide, by decide⟩ (hb hby at_134) ?_
  intro T19 h19 L19 X19 N e19 W19 A_b16
  have E_b1 := E_b1.wr W19
  have A_b1 := A_b1.other W19 ne_b1_b16
  have E_b16 := E_b16.wr W19
  have K := K.wr W19 (Or.inr s_b16)
  have Z0 := Nat.le_trans Z0 (Keep.of_wr W19).1
  have A_b16 : AI Z h19 b16 .int 5 (w0_20 p5 mm kk fr tt rv) := A_b16
  show Go p e below W T19 (mkF m 135 #[.val (.int p1), .val (.int p2), .val (.int p3), .val (.int p4), .val (.int p5), .val (.int mm), .val (.int kk), .val (.ref b1), .val (.int fr), .val (.int tt), .val (.int rv), .val (.ref b16), .unset, .unset, .unset, .unset, .unset] [])
  refine Go.of (fun _ k => XS.aload X19.here hx rfl (hb hby at_135) rfl rfl k) ?_
  show Go p e below W T19 (mkF m 137 #[.val (.int p1), .val (.int p2), .val (.int p3), .val (.int p4), .val (.int p5), .val (.int mm), .val (.int kk), .val (.ref b1), .val (.int fr), .val (.int tt), .val (.int rv), .val (.ref b16), .unset, .unset, .unset, .unset, .unset] [(.ref b16)])
  refine Go.of (fun _ k => XS.iconst X19.here hx rfl (hb hby at_137) k) ?_
  show Go p e below W T19 (mkF m 138 #[.val (.int p1), .val (.int p2), .val (.int p3), .val (.int p4), .val (.int p5), .val (.int mm), .val (.int kk), .val (.ref b1), .val (.int fr), .val (.int tt), .val (.int rv), .val (.ref b16), .unset, .unset, .unset, .unset, .unset] [(.int (1 : Int32)), (.ref b16)])
  refine Go.of (fun _ k => XS.aload X19.here hx rfl (hb hby at_138) rfl rfl k) ?_
  show Go p e below W T19 (mkF m 140 #[.val (.int p1), .val (.int p2), .val (.int p3), .val (.int p4), .val (.int p5), .val (.int mm), .val (.int kk), .val (.ref b1), .val (.int fr), .val (.int tt), .val (.int rv), .val (.ref b16), .unset, .unset, .unset, .unset, .unset] [(.ref b1), (.int (1 : Int32)), (.ref b16)])
  refine Go.of (fun _ k => XS.iconst X19.here hx rfl (hb hby at_140) k) ?_
  show Go p e below W T19 (mkF m 141 #[.val (.int p1), .val (.int p2), .val (.int p3), .val (.int p4), .val (.int p5), .val (.int mm), .val (.int kk), .val (.ref b1), .val (.int fr), .val (.int tt), .val (.int rv), .val (.ref b16), .unset, .unset, .unset, .unset, .unset] [(.int (1 : Int32)), (.ref b1), (.int (1 : Int32)), (.ref b16)])
  refine Go.of (fun _ k => XS.iload X19.here hx rfl (hb hby at_141) rfl k) ?_
  show Go p e below W T19 (mkF m 143 #[.val (.int p1), .val (.int p2), .val (.int p3), .val (.int p4), .val (.int p5), .val (.int mm), .val (.int kk), .val (.ref b1), .val (.int fr), .val (.int tt), .val (.int rv), .val (.ref b16), .unset, .unset, .unset, .unset, .unset] [(.int fr), (.int (1 : Int32)), (.ref b1), (.int (1 : Int32)), (.ref b16)])
  refine Go.of (fun _ k => XS.iload X19.here hx rfl (hb hby at_143) rfl k) ?_
  show Go p e below W T19 (mkF m 145 #[.val (.int p1), .val (.int p2), .val (.int p3), .val (.int p4), .val (.int p5), .val (.int mm), .val (.int kk), .val (.ref b1), .val (.int fr), .val (.int tt), .val (.int rv), .val (.ref b16), .unset, .unset, .unset, .unset, .unset] [(.int tt), (.int fr), (.int (1 : Int32)), (.ref b1), (.int (1 : Int32)), (.ref b16)])
  refine Go.of (fun _ k => XS.iload X19.here hx rfl (hb hby at_145) rfl k) ?_
  show Go p e below W T19 (mkF m 147 #[.val (.int p1), .val (.int p2), .val (.int p3), .val (.int p4), .val (.int p5), .val (.int mm), .val (.int kk), .val (.ref b1), .val (.int fr), .val (.int tt), .val (.int rv), .val (.ref b16), .unset, .unset, .unset, .unset, .unset] [(.int rv), (.int tt), (.int fr), (.int (1 : Int32)), (.ref b1), (.int (1 : Int32)), (.ref b16)])
  refine Go.callS X19 hx hZ hown (hw _ (List.mem_of_getElem? (i := 2) rfl)) (hw _ (List.mem_of_getElem? (i := 3) rfl)) (hw _ (List.mem_of_getElem? (i := 4) rfl)) (hw _ (List.mem_of_getElem? (i := 5) rfl)) (by decide) e19 (rm1 l Z a0 hw [] b1 (1 : Int32) fr tt rv (w0_12 p5 mm kk fr tt rv) h19 A_b1 rf ⟨by decide, by decide⟩) (V := 2) (by decide) (by decide) (by decide) (by decide) (by rw [hml]; rfl) (argsL := [(.ref b1), (.int (1 : Int32)), (.int fr), (.int tt), (.int rv)]) (rest := [(.int (1 : Int32)), (.ref b16)]) rfl (lenOf pd___IIIIZ_I rfl) rfl (Nat.le_of_ble_eq_true rfl) (hb hby at_147) ?_
  rintro T21 _ _ ⟨rfl, rfl, e21⟩ X21
  rw [List.append_nil] at X21
  show Go p e below W T21 (mkF m 150 #[.val (.int p1), .val (.int p2), .val (.int p3), .val (.int p4), .val (.int p5), .val (.int mm), .val (.int kk), .val (.ref b1), .val (.int fr), .val (.int tt), .val (.int rv), .val (.ref b16), .unset, .unset, .unset, .unset, .unset] [(.int (f1 (1 : Int32) fr tt rv (w0_12 p5 mm kk fr tt rv))), (.int (1 : Int32)), (.ref b16)])
  refine Go.ist X21 hx hZ e21 N g_b16 A_b16 ⟨by decide, by decide⟩ (hb hby at_150) ?_
  intro T22 h22 L22 X22 N e22 W22 A_b16
  have E_b1 := E_b1.wr W22
  have A_b1 := A_b1.other W22 ne_b1_b16
  have E_b16 := E_b16.wr W22
  have K := K.wr W22 (Or.inr s_b16)
  have Z0 := Nat.le_trans Z0 (Keep.of_wr W22).1
  have A_b16 : AI Z h22 b16 .int 5 (w0_23 p5 mm kk fr tt rv) := A_b16
  show Go p e below W T22 (mkF m 151 #[.val (.int p1), .val (.int p2), .val (.int p3), .val (.int p4), .val (.int p5), .val (.int mm), .val (.int kk), .val (.ref b1), .val (.int fr), .val (.int tt), .val (.int rv), .val (.ref b16), .unset, .unset, .unset, .unset, .unset] [])
  refine Go.of (fun _ k => XS.aload X22.here hx rfl (hb hby at_151) rfl rfl k) ?_
  show Go p e below W T22 (mkF m 153 #[.val (.int p1), .val (.int p2), .val (.int p3), .val (.int p4), .val (.int p5), .val (.int mm), .val (.int kk), .val (.ref b1), .val (.int fr), .val (.int tt), .val (.int rv), .val (.ref b16), .unset, .unset, .unset, .unset, .unset] [(.ref b16)])
  refine Go.of (fun _ k => XS.iconst X22.here hx rfl (hb hby at_153) k) ?_
  show Go p e below W T22 (mkF m 154 #[.val (.int p1), .val (.int p2), .val (.int p3), .val (.int p4), .val (.int p5), .val (.int mm), .val (.int kk), .val (.ref b1), .val (.int fr), .val (.int tt), .val (.int rv), .val (.ref b16), .unset, .unset, .unset, .unset, .unset] [(.int (2 : Int32)), (.ref b16)])
  refine Go.of (fun _ k => XS.aload X22.here hx rfl (hb hby at_154) rfl rfl k) ?_
  show Go p e below W T22 (mkF m 156 #[.val (.int p1), .val (.int p2), .val (.int p3), .val (.int p4), .val (.int p5), .val (.int mm), .val (.int kk), .val (.ref b1), .val (.int fr), .val (.int tt), .val (.int rv), .val (.ref b16), .unset, .unset, .unset, .unset, .unset] [(.ref b1), (.int (2 : Int32)), (.ref b16)])
  refine Go.of (fun _ k => XS.iconst X22.here hx rfl (hb hby at_156) k) ?_
  show Go p e below W T22 (mkF m 157 #[.val (.int p1), .val (.int p2), .val (.int p3), .val (.int p4), .val (.int p5), .val (.int mm), .val (.int kk), .val (.ref b1), .val (.int fr), .val (.int tt), .val (.int rv), .val (.ref b16), .unset, .unset, .unset, .unset, .unset] [(.int (2 : Int32)), (.ref b1), (.int (2 : Int32)), (.ref b16)])
  refine Go.of (fun _ k => XS.iload X22.here hx rfl (hb hby at_157) rfl k) ?_
  show Go p e below W T22 (mkF m 159 #[.val (.int p1), .val (.int p2), .val (.int p3), .val (.int p4), .val (.int p5), .val (.int mm), .val (.int kk), .val (.ref b1), .val (.int fr), .val (.int tt), .val (.int rv), .val (.ref b16), .unset, .unset, .unset, .unset, .unset] [(.int fr), (.int (2 : Int32)), (.ref b1), (.int (2 : Int32)), (.ref b16)])
  refine Go.of (fun _ k => XS.iload X22.here hx rfl (hb hby at_159) rfl k) ?_
  show Go p e below W T22 (mkF m 161 #[.val (.int p1), .val (.int p2), .val (.int p3), .val (.int p4), .val (.int p5), .val (.int mm), .val (.int kk), .val (.ref b1), .val (.int fr), .val (.int tt), .val (.int rv), .val (.ref b16), .unset, .unset, .unset, .unset, .unset] [(.int tt), (.int fr), (.int (2 : Int32)), (.ref b1), (.int (2 : Int32)), (.ref b16)])
  refine Go.of (fun _ k => XS.iload X22.here hx rfl (hb hby at_161) rfl k) ?_
  show Go p e below W T22 (mkF m 163 #[.val (.int p1), .val (.int p2), .val (.int p3), .val (.int p4), .val (.int p5), .val (.int mm), .val (.int kk), .val (.ref b1), .val (.int fr), .val (.int tt), .val (.int rv), .val (.ref b16), .unset, .unset, .unset, .unset, .unset] [(.int rv), (.int tt), (.int fr), (.int (2 : Int32)), (.ref b1), (.int (2 : Int32)), (.ref b16)])
  refine Go.callS X22 hx hZ hown (hw _ (List.mem_of_getElem? (i := 2) rfl)) (hw _ (List.mem_of_getElem? (i := 3) rfl)) (hw _ (List.mem_of_getElem? (i := 4) rfl)) (hw _ (List.mem_of_getElem? (i := 5) rfl)) (by decide) e22 (rm1 l Z a0 hw [] b1 (2 : Int32) fr tt rv (w0_12 p5 mm kk fr tt rv) h22 A_b1 rf ⟨by decide, by decide⟩) (V := 2) (by decide) (by decide) (by decide) (by decide) (by rw [hml]; rfl) (argsL := [(.ref b1), (.int (2 : Int32)), (.int fr), (.int tt), (.int rv)]) (rest := [(.int (2 : Int32)), (.ref b16)]) rfl (lenOf pd___IIIIZ_I rfl) rfl (Nat.le_of_ble_eq_true rfl) (hb hby at_163) ?_
  rintro T24 _ _ ⟨rfl, rfl, e24⟩ X24
  rw [List.append_nil] at X24
  show Go p e below W T24 (mkF m 166 #[.val (.int p1), .val (.int p2), .val (.int p3), .val (.int p4), .val (.int p5), .val (.int mm), .val (.int kk), .val (.ref b1), .val (.int fr), .val (.int tt), .val (.int rv), .val (.ref b16), .unset, .unset, .unset, .unset, .unset] [(.int (f1 (2 : Int32) fr tt rv (w0_12 p5 mm kk fr tt rv))), (.int (2 : Int32)), (.ref b16)])
  refine Go.ist X24 hx hZ e24 N g_b16 A_b16 ⟨by decide, by decide⟩ (hb hby at_166) ?_
  intro T25 h25 L25 X25 N e25 W25 A_b16
  have E_b1 := E_b1.wr W25
  have A_b1 := A_b1.other W25 ne_b1_b16
  have E_b16 := E_b16.wr W25
  have K := K.wr W25 (Or.inr s_b16)
  have Z0 := Nat.le_trans Z0 (Keep.of_wr W25).1
  have A_b16 : AI Z h25 b16 .int 5 (w0_26 p5 mm kk fr tt rv) := A_b16
  show Go p e below W T25 (mkF m 167 #[.val (.int p1), .val (.int p2), .val (.int p3), .val (.int p4), .val (.int p5), .val (.int mm), .val (.int kk), .val (.ref b1), .val (.int fr), .val (.int tt), .val (.int rv), .val (.ref b16), .unset, .unset, .unset, .unset, .unset] [])
  refine Go.of (fun _ k => XS.aload X25.here hx rfl (hb hby at_167) rfl rfl k) ?_
  show Go p e below W T25 (mkF m 169 #[.val (.int p1), .val (.int p2), .val (.int p3), .val (.int p4), .val (.int p5), .val (.int mm), .val (.int kk), .val (.ref b1), .val (.int fr), .val (.int tt), .val (.int rv), .val (.ref b16), .unset, .unset, .unset, .unset, .unset] [(.ref b16)])
  refine Go.of (fun _ k => XS.iconst X25.here hx rfl (hb hby at_169) k) ?_
  show Go p e below W T25 (mkF m 170 #[.val (.int p1), .val (.int p2), .val (.int p3), .val (.int p4), .val (.int p5), .val (.int mm), .val (.int kk), .val (.ref b1), .val (.int fr), .val (.int tt), .val (.int rv), .val (.ref b16), .unset, .unset, .unset, .unset, .unset] [(.int (3 : Int32)), (.ref b16)])
  refine Go.of (fun _ k => XS.aload X25.here hx rfl (hb hby at_170) rfl rfl k) ?_
  show Go p e below W T25 (mkF m 172 #[.val (.int p1), .val (.int p2), .val (.int p3), .val (.int p4), .val (.int p5), .val (.int mm), .val (.int kk), .val (.ref b1), .val (.int fr), .val (.int tt), .val (.int rv), .val (.ref b16), .unset, .unset, .unset, .unset, .unset] [(.ref b1), (.int (3 : Int32)), (.ref b16)])
  refine Go.of (fun _ k => XS.iconst X25.here hx rfl (hb hby at_172) k) ?_
  show Go p e below W T25 (mkF m 173 #[.val (.int p1), .val (.int p2), .val (.int p3), .val (.int p4), .val (.int p5), .val (.int mm), .val (.int kk), .val (.ref b1), .val (.int fr), .val (.int tt), .val (.int rv), .val (.ref b16), .unset, .unset, .unset, .unset, .unset] [(.int (3 : Int32)), (.ref b1), (.int (3 : Int32)), (.ref b16)])
  refine Go.of (fun _ k => XS.iload X25.here hx rfl (hb hby at_173) rfl k) ?_
  show Go p e below W T25 (mkF m 175 #[.val (.int p1), .val (.int p2), .val (.int p3), .val (.int p4), .val (.int p5), .val (.int mm), .val (.int kk), .val (.ref b1), .val (.int fr), .val (.int tt), .val (.int rv), .val (.ref b16), .unset, .unset, .unset, .unset, .unset] [(.int fr), (.int (3 : Int32)), (.ref b1), (.int (3 : Int32)), (.ref b16)])
  refine Go.of (fun _ k => XS.iload X25.here hx rfl (hb hby at_175) rfl k) ?_
  show Go p e below W T25 (mkF m 177 #[.val (.int p1), .val (.int p2), .val (.int p3), .val (.int p4), .val (.int p5), .val (.int mm), .val (.int kk), .val (.ref b1), .val (.int fr), .val (.int tt), .val (.int rv), .val (.ref b16), .unset, .unset, .unset, .unset, .unset] [(.int tt), (.int fr), (.int (3 : Int32)), (.ref b1), (.int (3 : Int32)), (.ref b16)])
  refine Go.of (fun _ k => XS.iload X25.here hx rfl (hb hby at_177) rfl k) ?_
  show Go p e below W T25 (mkF m 179 #[.val (.int p1), .val (.int p2), .val (.int p3), .val (.int p4), .val (.int p5), .val (.int mm), .val (.int kk), .val (.ref b1), .val (.int fr), .val (.int tt), .val (.int rv), .val (.ref b16), .unset, .unset, .unset, .unset, .unset] [(.int rv), (.int tt), (.int fr), (.int (3 : Int32)), (.ref b1), (.int (3 : Int32)), (.ref b16)])
  refine Go.callS X25 hx hZ hown (hw _ (List.mem_of_getElem? (i := 2) rfl)) (hw _ (List.mem_of_getElem? (i := 3) rfl)) (hw _ (List.mem_of_getElem? (i := 4) rfl)) (hw _ (List.mem_of_getElem? (i := 5) rfl)) (by decide) e25 (rm1 l Z a0 hw [] b1 (3 : Int32) fr tt rv (w0_12 p5 mm kk fr tt rv) h25 A_b1 rf ⟨by decide, by decide⟩) (V := 2) (by decide) (by decide) (by decide) (by decide) (by rw [hml]; rfl) (argsL := [(.ref b1), (.int (3 : Int32)), (.int fr), (.int tt), (.int rv)]) (rest := [(.int (3 : Int32)), (.ref b16)]) rfl (lenOf pd___IIIIZ_I rfl) rfl (Nat.le_of_ble_eq_true rfl) (hb hby at_179) ?_
  rintro T27 _ _ ⟨rfl, rfl, e27⟩ X27
  rw [List.append_nil] at X27
  show Go p e below W T27 (mkF m 182 #[.val (.int p1), .val (.int p2), .val (.int p3), .val (.int p4), .val (.int p5), .val (.int mm), .val (.int kk), .val (.ref b1), .val (.int fr), .val (.int tt), .val (.int rv), .val (.ref b16), .unset, .unset, .unset, .unset, .unset] [(.int (f1 (3 : Int32) fr tt rv (w0_12 p5 mm kk fr tt rv))), (.int (3 : Int32)), (.ref b16)])
  refine Go.ist X27 hx hZ e27 N g_b16 A_b16 ⟨by decide, by decide⟩ (hb hby at_182) ?_
  intro T28 h28 L28 X28 N e28 W28 A_b16
  have E_b1 := E_b1.wr W28
  have A_b1 := A_b1.other W28 ne_b1_b16
  have E_b16 := E_b16.wr W28
  have K := K.wr W28 (Or.inr s_b16)
  have Z0 := Nat.le_trans Z0 (Keep.of_wr W28).1
  have A_b16 : AI Z h28 b16 .int 5 (w0_29 p5 mm kk fr tt rv) := A_b16
  show Go p e below W T28 (mkF m 183 #[.val (.int p1), .val (.int p2), .val (.int p3), .val (.int p4), .val (.int p5), .val (.int mm), .val (.int kk), .val (.ref b1), .val (.int fr), .val (.int tt), .val (.int rv), .val (.ref b16), .unset, .unset, .unset, .unset, .unset] [])
  refine Go.of (fun _ k => XS.aload X28.here hx rfl (hb hby at_183) rfl rfl k) ?_
  show Go p e below W T28 (mkF m 185 #[.val (.int p1), .val (.int p2), .val (.int p3), .val (.int p4), .val (.int p5), .val (.int mm), .val (.int kk), .val (.ref b1), .val (.int fr), .val (.int tt), .val (.int rv), .val (.ref b16), .unset, .unset, .unset, .unset, .unset] [(.ref b16)])
  refine Go.of (fun _ k => XS.iconst X28.here hx rfl (hb hby at_185) k) ?_
  show Go p e below W T28 (mkF m 186 #[.val (.int p1), .val (.int p2), .val (.int p3), .val (.int p4), .val (.int p5), .val (.int mm), .val (.int kk), .val (.ref b1), .val (.int fr), .val (.int tt), .val (.int rv), .val (.ref b16), .unset, .unset, .unset, .unset, .unset] [(.int (4 : Int32)), (.ref b16)])
  refine Go.of (fun _ k => XS.aload X28.here hx rfl (hb hby at_186) rfl rfl k) ?_
  show Go p e below W T28 (mkF m 188 #[.val (.int p1), .val (.int p2), .val (.int p3), .val (.int p4), .val (.int p5), .val (.int mm), .val (.int kk), .val (.ref b1), .val (.int fr), .val (.int tt), .val (.int rv), .val (.ref b16), .unset, .unset, .unset, .unset, .unset] [(.ref b1), (.int (4 : Int32)), (.ref b16)])
  refine Go.of (fun _ k => XS.iconst X28.here hx rfl (hb hby at_188) k) ?_
  show Go p e below W T28 (mkF m 189 #[.val (.int p1), .val (.int p2), .val (.int p3), .val (.int p4), .val (.int p5), .val (.int mm), .val (.int kk), .val (.ref b1), .val (.int fr), .val (.int tt), .val (.int rv), .val (.ref b16), .unset, .unset, .unset, .unset, .unset] [(.int (4 : Int32)), (.ref b1), (.int (4 : Int32)), (.ref b16)])
  refine Go.of (fun _ k => XS.iload X28.here hx rfl (hb hby at_189) rfl k) ?_
  show Go p e below W T28 (mkF m 191 #[.val (.int p1), .val (.int p2), .val (.int p3), .val (.int p4), .val (.int p5), .val (.int mm), .val (.int kk), .val (.ref b1), .val (.int fr), .val (.int tt), .val (.int rv), .val (.ref b16), .unset, .unset, .unset, .unset, .unset] [(.int fr), (.int (4 : Int32)), (.ref b1), (.int (4 : Int32)), (.ref b16)])
  refine Go.of (fun _ k => XS.iload X28.here hx rfl (hb hby at_191) rfl k) ?_
  show Go p e below W T28 (mkF m 193 #[.val (.int p1), .val (.int p2), .val (.int p3), .val (.int p4), .val (.int p5), .val (.int mm), .val (.int kk), .val (.ref b1), .val (.int fr), .val (.int tt), .val (.int rv), .val (.ref b16), .unset, .unset, .unset, .unset, .unset] [(.int tt), (.int fr), (.int (4 : Int32)), (.ref b1), (.int (4 : Int32)), (.ref b16)])
  refine Go.of (fun _ k => XS.iload X28.here hx rfl (hb hby at_193) rfl k) ?_
  show Go p e below W T28 (mkF m 195 #[.val (.int p1), .val (.int p2), .val (.int p3), .val (.int p4), .val (.int p5), .val (.int mm), .val (.int kk), .val (.ref b1), .val (.int fr), .val (.int tt), .val (.int rv), .val (.ref b16), .unset, .unset, .unset, .unset, .unset] [(.int rv), (.int tt), (.int fr), (.int (4 : Int32)), (.ref b1), (.int (4 : Int32)), (.ref b16)])
  refine Go.callS X28 hx hZ hown (hw _ (List.mem_of_getElem? (i := 2) rfl)) (hw _ (List.mem_of_getElem? (i := 3) rfl)) (hw _ (List.mem_of_getElem? (i := 4) rfl)) (hw _ (List.mem_of_getElem? (i := 5) rfl)) (by decide) e28 (rm1 l Z a0 hw [] b1 (4 : Int32) fr tt rv (w0_12 p5 mm kk fr tt rv) h28 A_b1 rf ⟨by decide, by decide⟩) (V := 2) (by decide) (by decide) (by decide) (by decide) (by rw [hml]; rfl) (argsL := [(.ref b1), (.int (4 : Int32)), (.int fr), (.int tt), (.int rv)]) (rest := [(.int (4 : Int32)), (.ref b16)]) rfl (lenOf pd___IIIIZ_I rfl) rfl (Nat.le_of_ble_eq_true rfl) (hb hby at_195) ?_
  rintro T30 _ _ ⟨rfl, rfl, e30⟩ X30
  rw [List.append_nil] at X30
  show Go p e below W T30 (mkF m 198 #[.val (.int p1), .val (.int p2), .val (.int p3), .val (.int p4), .val (.int p5), .val (.int mm), .val (.int kk), .val (.ref b1), .val (.int fr), .val (.int tt), .val (.int rv), .val (.ref b16), .unset, .unset, .unset, .unset, .unset] [(.int (f1 (4 : Int32) fr tt rv (w0_12 p5 mm kk fr tt rv))), (.int (4 : Int32)), (.ref b16)])
  refine Go.ist X30 hx hZ e30 N g_b16 A_b16 ⟨by decide, by decide⟩ (hb hby at_198) ?_
  intro T31 h31 L31 X31 N e31 W31 A_b16
  have E_b1 := E_b1.wr W31
  have A_b1 := A_b1.other W31 ne_b1_b16
  have E_b16 := E_b16.wr W31
  have K := K.wr W31 (Or.inr s_b16)
  have Z0 := Nat.le_trans Z0 (Keep.of_wr W31).1
  have A_b16 : AI Z h31 b16 .int 5 (w0_32 p5 mm kk fr tt rv) := A_b16
  show Go p e below W T31 (mkF m 199 #[.val (.int p1), .val (.int p2), .val (.int p3), .val (.int p4), .val (.int p5), .val (.int mm), .val (.int kk), .val (.ref b1), .val (.int fr), .val (.int tt), .val (.int rv), .val (.ref b16), .unset, .unset, .unset, .unset, .unset] [])
  refine Go.newO X31 hx hZ hown (hw _ (List.mem_of_getElem? (i := 6) rfl)) (hw _ (List.mem_of_getElem? (i := 7) rfl)) (hw _ (List.mem_of_getElem? (i := 8) rfl)) e31 (hb hby at_199) (by decide) (by decide) ?_
  intro T33 h33 b33 zq33 X33 e33 E33 E_b33 D33
  have ne_b1_b33 : b1 ≠ b33 := by rw [zq33]; exact Nat.ne_of_lt E_b1.lt
  have ne_b16_b33 : b16 ≠ b33 := by rw [zq33]; exact Nat.ne_of_lt E_b16.lt
  have g_b33 : n0 ≤ b33 := by rw [zq33]; exact Z0
  have s_b33 : h0.size ≤ b33 := by rw [zq33]; exact K.1
  have E_b1 := E_b1.ext E33
  have A_b1 := A_b1.ext E33
  have E_b16 := E_b16.ext E33
  have A_b16 := A_b16.ext E33
  have K := K.ext E33
  have Z0 := Nat.le_trans Z0 E33.1
  have F_b33_order : Fld Z h33 b33 "com/example/pilfer/pilfer/Tour" "order" "[I" .null := D33 (Or.inr (hw _ (List.mem_of_getElem? (i := 16) rfl))) (ty := (.array .int)) (by decide)
  have F_b33_position : Fld Z h33 b33 "com/example/pilfer/pilfer/Tour" "position" "[I" .null := D33 (Or.inr (hw _ (List.mem_of_getElem? (i := 18) rfl))) (ty := (.array .int)) (by decide)
  show Go p e below W T33 (mkF m 202 #[.val (.int p1), .val (.int p2), .val (.int p3), .val (.int p4), .val (.int p5), .val (.int mm), .val (.int kk), .val (.ref b1), .val (.int fr), .val (.int tt), .val (.int rv), .val (.ref b16), .unset, .unset, .unset, .unset, .unset] [(.ref b33)])
  refine Go.of (fun _ k => XS.dup X33.here hx rfl (hb hby at_202) rfl rfl k) ?_
  show Go p e below W T33 (mkF m 203 #[.val (.int p1), .val (.int p2), .val (.int p3), .val (.int p4), .val (.int p5), .val (.int mm), .val (.int kk), .val (.ref b1), .val (.int fr), .val (.int tt), .val (.int rv), .val (.ref b16), .unset, .unset, .unset, .unset, .unset] [(.ref b33), (.ref b33)])
  refine Go.of (fun _ k => XS.aload X33.here hx rfl (hb hby at_203) rfl rfl k) ?_
  show Go p e below W T33 (mkF m 205 #[.val (.int p1), .val (.int p2), .val (.int p3), .val (.int p4), .val (.int p5), .val (.int mm), .val (.int kk), .val (.ref b1), .val (.int fr), .val (.int tt), .val (.int rv), .val (.ref b16), .unset, .unset, .unset, .unset, .unset] [(.ref b1), (.ref b33), (.ref b33)])
  refine Go.callI X33 hx hZ rfl hown (hw _ (List.mem_of_getElem? (i := 9) rfl)) (hw _ (List.mem_of_getElem? (i := 10) rfl)) (hw _ (List.mem_of_getElem? (i := 8) rfl)) (hw _ (List.mem_of_getElem? (i := 11) rfl)) (by decide) e33 (rm2 l Z a0 hw [] b33 b1 (w0_12 p5 mm kk fr tt rv) h33 n0 Z0 E_b33 F_b33_order F_b33_position A_b1 g_b33 (Ne.symm ne_b1_b33) (own_w0_12 p5 mm kk fr tt rv rmm rk rf rr)) (V := 1) (by decide) (by decide) (by decide) (by decide) (by rw [hml]; rfl) (argsL := [(.ref b1)]) (rest := [(.ref b33)]) rfl (lenOf pd___I_V rfl) rfl (Nat.le_of_ble_eq_true rfl) (hb hby at_205) ?_
  rintro T34 _ M34 ⟨b34, rfl, N34, K34, s_b34, F_b33_order, F_b33_position, A_b34⟩ X34
  obtain ⟨L34, zq34⟩ : ∃ z, z = L31 ++ M34 := ⟨_, rfl⟩
  have N := Fr.app N N34
  rw [← zq34] at X34 N
  have ne_b1_b34 : b1 ≠ b34 := Nat.ne_of_lt (Nat.lt_of_lt_of_le E_b1.lt s_b34)
  have ne_b16_b34 : b16 ≠ b34 := Nat.ne_of_lt (Nat.lt_of_lt_of_le E_b16.lt s_b34)
  have ne_b33_b34 : b33 ≠ b34 := Nat.ne_of_lt (Nat.lt_of_lt_of_le E_b33.lt s_b34)
  have g_b34 : n0 ≤ b34 := Nat.le_trans Z0 s_b34
  have s_b34 : h0.size ≤ b34 := Nat.le_trans K.1 s_b34
  have E_b1 := E_b1.keep K34
  have A_b1 := A_b1.keep K34 (ninS ne_b1_b33 nin0)
  have E_b16 := E_b16.keep K34
  have A_b16 := A_b16.keep K34 (ninS ne_b16_b33 nin0)
  have E_b33 := E_b33.keep K34
  have K := K.trans K34 (by
    intro x hx
    simp only [List.mem_cons, List.not_mem_nil, or_false] at hx
    rcases hx with rfl
    · exact Or.inr s_b33)
  have Z0 := Nat.le_trans Z0 K34.1
  show Go p e below W T34 (mkF m 208 #[.val (.int p1), .val (.int p2), .val (.int p3), .val (.int p4), .val (.int p5), .val (.int mm), .val (.int kk), .val (.ref b1), .val (.int fr), .val (.int tt), .val (.int rv), .val (.ref b16), .unset, .unset, .unset, .unset, .unset] [(.ref b33)])
  refine Go.of (fun _ k => XS.astore X34.here hx rfl (hb hby at_208) rfl rfl (l' := #[.val (.int p1), .val (.int p2), .val (.int p3), .val (.int p4), .val (.int p5), .val (.int mm), .val (.int kk), .val (.ref b1), .val (.int fr), .val (.int tt), .val (.int rv), .val (.ref b16), .val (.ref b33), .unset, .unset, .unset, .unset]) rfl k) ?_
  show Go p e below W T34 (mkF m 210 #[.val (.int p1), .val (.int p2), .val (.int p3), .val (.int p4), .val (.int p5), .val (.int mm), .val (.int kk), .val (.ref b1), .val (.int fr), .val (.int tt), .val (.int rv), .val (.ref b16), .val (.ref b33), .unset, .unset, .unset, .unset] [])
  refine Go.newO X34 hx hZ hown (hw _ (List.mem_of_getElem? (i := 6) rfl)) (hw _ (List.mem_of_getElem? (i := 7) rfl)) (hw _ (List.mem_of_getElem? (i := 8) rfl)) rfl (hb hby at_210) (by decide) (by decide) ?_
  intro T35 h35 b35 zq35 X35 e35 E35 E_b35 D35
  have ne_b1_b35 : b1 ≠ b35 := by rw [zq35]; exact Nat.ne_of_lt E_b1.lt
  have ne_b16_b35 : b16 ≠ b35 := by rw [zq35]; exact Nat.ne_of_lt E_b16.lt
  have ne_b33_b35 : b33 ≠ b35 := by rw [zq35]; exact Nat.ne_of_lt E_b33.lt
  have ne_b34_b35 : b34 ≠ b35 := by rw [zq35]; exact Nat.ne_of_lt A_b34.lt
  have g_b35 : n0 ≤ b35 := by rw [zq35]; exact Z0
  have s_b35 : h0.size ≤ b35 := by rw [zq35]; exact K.1
  have E_b1 := E_b1.ext E35
  have A_b1 := A_b1.ext E35
  have E_b16 := E_b16.ext E35
  have A_b16 := A_b16.ext E35
  have E_b33 := E_b33.ext E35
  have F_b33_order := F_b33_order.ext E35
  have F_b33_position := F_b33_position.ext E35
  have A_b34 := A_b34.ext E35
  have K := K.ext E35
  have Z0 := Nat.le_trans Z0 E35.1
  have F_b35_order : Fld Z h35 b35 "com/example/pilfer/pilfer/Tour" "order" "[I" .null := D35 (Or.inr (hw _ (List.mem_of_getElem? (i := 16) rfl))) (ty := (.array .int)) (by decide)
  have F_b35_position : Fld Z h35 b35 "com/example/pilfer/pilfer/Tour" "position" "[I" .null := D35 (Or.inr (hw _ (List.mem_of_getElem? (i := 18) rfl))) (ty := (.array .int)) (by decide)
  show Go p e below W T35 (mkF m 213 #[.val (.int p1), .val (.int p2), .val (.int p3), .val (.int p4), .val (.int p5), .val (.int mm), .val (.int kk), .val (.ref b1), .val (.int fr), .val (.int tt), .val (.int rv), .val (.ref b16), .val (.ref b33), .unset, .unset, .unset, .unset] [(.ref b35)])
  refine Go.of (fun _ k => XS.dup X35.here hx rfl (hb hby at_213) rfl rfl k) ?_
  show Go p e below W T35 (mkF m 214 #[.val (.int p1), .val (.int p2), .val (.int p3), .val (.int p4), .val (.int p5), .val (.int mm), .val (.int kk), .val (.ref b1), .val (.int fr), .val (.int tt), .val (.int rv), .val (.ref b16), .val (.ref b33), .unset, .unset, .unset, .unset] [(.ref b35), (.ref b35)])
  refine Go.of (fun _ k => XS.aload X35.here hx rfl (hb hby at_214) rfl rfl k) ?_
  show Go p e below W T35 (mkF m 216 #[.val (.int p1), .val (.int p2), .val (.int p3), .val (.int p4), .val (.int p5), .val (.int mm), .val (.int kk), .val (.ref b1), .val (.int fr), .val (.int tt), .val (.int rv), .val (.ref b16), .val (.ref b33), .unset, .unset, .unset, .unset] [(.ref b16), (.ref b35), (.ref b35)])
  refine Go.callI X35 hx hZ rfl hown (hw _ (List.mem_of_getElem? (i := 9) rfl)) (hw _ (List.mem_of_getElem? (i := 10) rfl)) (hw _ (List.mem_of_getElem? (i := 8) rfl)) (hw _ (List.mem_of_getElem? (i := 11) rfl)) (by decide) e35 (rm2 l Z a0 hw [] b35 b16 (w0_32 p5 mm kk fr tt rv) h35 n0 Z0 E_b35 F_b35_order F_b35_position A_b16 g_b35 (Ne.symm ne_b16_b35) (own_w0_32 p5 mm kk fr tt rv rmm rk rf rr)) (V := 1) (by decide) (by decide) (by decide) (by decide) (by rw [hml]; rfl) (argsL := [(.ref b16)]) (rest := [(.ref b35)]) rfl (lenOf pd___I_V rfl) rfl (Nat.le_of_ble_eq_true rfl) (hb hby at_216) ?_
  rintro T36 _ M36 ⟨b36, rfl, N36, K36, s_b36, F_b35_order, F_b35_position, A_b36⟩ X36
  obtain ⟨L36, zq36⟩ : ∃ z, z = L34 ++ M36 := ⟨_, rfl⟩
  have N := Fr.app N N36
  rw [← zq36] at X36 N
  have ne_b1_b36 : b1 ≠ b36 := Nat.ne_of_lt (Nat.lt_of_lt_of_le E_b1.lt s_b36)
  have ne_b16_b36 : b16 ≠ b36 := Nat.ne_of_lt (Nat.lt_of_lt_of_le E_b16.lt s_b36)
  have ne_b33_b36 : b33 ≠ b36 := Nat.ne_of_lt (Nat.lt_of_lt_of_le E_b33.lt s_b36)
  have ne_b34_b36 : b34 ≠ b36 := Nat.ne_of_lt (Nat.lt_of_lt_of_le A_b34.lt s_b36)
  have ne_b35_b36 : b35 ≠ b36 := Nat.ne_of_lt (Nat.lt_of_lt_of_le E_b35.lt s_b36)
  have g_b36 : n0 ≤ b36 := Nat.le_trans Z0 s_b36
  have s_b36 : h0.size ≤ b36 := Nat.le_trans K.1 s_b36
  have E_b1 := E_b1.keep K36
  have A_b1 := A_b1.keep K36 (ninS ne_b1_b35 nin0)
  have E_b16 := E_b16.keep K36
  have A_b16 := A_b16.keep K36 (ninS ne_b16_b35 nin0)
  have E_b33 := E_b33.keep K36
  have F_b33_order := F_b33_order.keep K36 (ninS ne_b33_b35 nin0)
  have F_b33_position := F_b33_position.keep K36 (ninS ne_b33_b35 nin0)
  have A_b34 := A_b34.keep K36 (ninS ne_b34_b35 nin0)
  have E_b35 := E_b35.keep K36
  have K := K.trans K36 (by
    intro x hx
    simp only [List.mem_cons, List.not_mem_nil, or_false] at hx
    rcases hx with rfl
    · exact Or.inr s_b35)
  have Z0 := Nat.le_trans Z0 K36.1
  show Go p e below W T36 (mkF m 219 #[.val (.int p1), .val (.int p2), .val (.int p3), .val (.int p4), .val (.int p5), .val (.int mm), .val (.int kk), .val (.ref b1), .val (.int fr), .val (.int tt), .val (.int rv), .val (.ref b16), .val (.ref b33), .unset, .unset, .unset, .unset] [(.ref b35)])
  refine Go.of (fun _ k => XS.astore X36.here hx rfl (hb hby at_219) rfl rfl (l' := #[.val (.int p1), .val (.int p2), .val (.int p3), .val (.int p4), .val (.int p5), .val (.int mm), .val (.int kk), .val (.ref b1), .val (.int fr), .val (.int tt), .val (.int rv), .val (.ref b16), .val (.ref b33), .val (.ref b35), .unset, .unset, .unset]) rfl k) ?_
  show Go p e below W T36 (mkF m 221 #[.val (.int p1), .val (.int p2), .val (.int p3), .val (.int p4), .val (.int p5), .val (.int mm), .val (.int kk), .val (.ref b1), .val (.int fr), .val (.int tt), .val (.int rv), .val (.ref b16), .val (.ref b33), .val (.ref b35), .unset, .unset, .unset] [])
  refine Go.of (fun _ k => XS.aload X36.here hx rfl (hb hby at_221) rfl rfl k) ?_
  show Go p e below W T36 (mkF m 223 #[.val (.int p1), .val (.int p2), .val (.int p3), .val (.int p4), .val (.int p5), .val (.int mm), .val (.int kk), .val (.ref b1), .val (.int fr), .val (.int tt), .val (.int rv), .val (.ref b16), .val (.ref b33), .val (.ref b35), .unset, .unset, .unset] [(.ref b33)])
  refine Go.of (fun _ k => XS.aload X36.here hx rfl (hb hby at_223) rfl rfl k) ?_
  show Go p e below W T36 (mkF m 225 #[.val (.int p1), .val (.int p2), .val (.int p3), .val (.int p4), .val (.int p5), .val (.int mm), .val (.int kk), .val (.ref b1), .val (.int fr), .val (.int tt), .val (.int rv), .val (.ref b16), .val (.ref b33), .val (.ref b35), .unset, .unset, .unset] [(.ref b35), (.ref b33)])
  refine Go.of (fun _ k => XS.iload X36.here hx rfl (hb hby at_225) rfl k) ?_
  show Go p e below W T36 (mkF m 227 #[.val (.int p1), .val (.int p2), .val (.int p3), .val (.int p4), .val (.int p5), .val (.int mm), .val (.int kk), .val (.ref b1), .val (.int fr), .val (.int tt), .val (.int rv), .val (.ref b16), .val (.ref b33), .val (.ref b35), .unset, .unset, .unset] [(.int fr), (.ref b35), (.ref b33)])
  refine Go.of (fun _ k => XS.iload X36.here hx rfl (hb hby at_227) rfl k) ?_
  show Go p e below W T36 (mkF m 229 #[.val (.int p1), .val (.int p2), .val (.int p3), .val (.int p4), .val (.int p5), .val (.int mm), .val (.int kk), .val (.ref b1), .val (.int fr), .val (.int tt), .val (.int rv), .val (.ref b16), .val (.ref b33), .val (.ref b35), .unset, .unset, .unset] [(.int tt), (.int fr), (.ref b35), (.ref b33)])
  refine Go.callV X36 hx hZ hown (hw _ (List.mem_of_getElem? (i := 19) rfl)) (hw _ (List.mem_of_getElem? (i := 20) rfl)) (hw _ (List.mem_of_getElem? (i := 22) rfl)) (hw _ (List.mem_of_getElem? (i := 21) rfl)) (hw _ (List.mem_of_getElem? (i := 8) rfl)) (hw _ (List.mem_of_getElem? (i := 23) rfl)) (by decide) rfl E_b33 (rm4 l Z a0 hw [] b33 b35 fr tt b1 b34 b16 (w0_12 p5 mm kk fr tt rv) (f2_np (w0_12 p5 mm kk fr tt rv)) (w0_32 p5 mm kk fr tt rv) T36.heap n0 Z0 F_b33_order F_b33_position F_b35_order A_b1 A_b34 A_b16 g_b1 g_b34 (Ne.symm ne_b1_b33) ne_b33_b34 (Ne.symm ne_b1_b35) (Ne.symm ne_b34_b35) ne_b1_b34 ne_b1_b16 (Ne.symm ne_b16_b34) (own_w0_12 p5 mm kk fr tt rv rmm rk rf rr) (own_w0_32 p5 mm kk fr tt rv rmm rk rf rr) rf) (V := 0) (by decide) (by decide) (by decide) (by decide) (by rw [hml]; rfl) (argsL := [(.ref b35), (.int fr), (.int tt)]) (rest := []) rfl (lenOf pd__Lcom_example_pilfer_pilfer_Tour_II_V rfl) rfl (Nat.le_of_ble_eq_true rfl) (hb hby at_229) ?_
  rintro T37 _ M37 ⟨rfl, N37, K37, A_b1, A_b34⟩ X37
  obtain ⟨L37, zq37⟩ : ∃ z, z = L36 ++ M37 := ⟨_, rfl⟩
  have N := Fr.app N N37
  rw [← zq37] at X37 N
  have E_b1 := E_b1.keep K37
  have E_b16 := E_b16.keep K37
  have A_b16 := A_b16.keep K37 (ninS (Ne.symm ne_b1_b16) (ninS ne_b16_b34 nin0))
  have E_b33 := E_b33.keep K37
  have F_b33_order := F_b33_order.keep K37 (ninS (Ne.symm ne_b1_b33) (ninS ne_b33_b34 nin0))
  have F_b33_position := F_b33_position.keep K37 (ninS (Ne.symm ne_b1_b33) (ninS ne_b33_b34 nin0))
  have E_b35 := E_b35.keep K37
  have F_b35_order := F_b35_order.keep K37 (ninS (Ne.symm ne_b1_b35) (ninS (Ne.symm ne_b34_b35) nin0))
  have F_b35_position := F_b35_position.keep K37 (ninS (Ne.symm ne_b1_b35) (ninS (Ne.symm ne_b34_b35) nin0))
  have A_b36 := A_b36.keep K37 (ninS (Ne.symm ne_b1_b36) (ninS (Ne.symm ne_b34_b36) nin0))
  have K := K.trans K37 (by
    intro x hx
    simp only [List.mem_cons, List.not_mem_nil, or_false] at hx
    rcases hx with rfl | rfl
    · exact Or.inr s_b1
    · exact Or.inr s_b34)
  have Z0 := Nat.le_trans Z0 K37.1
  show Go p e below W T37 (mkF m 232 #[.val (.int p1), .val (.int p2), .val (.int p3), .val (.int p4), .val (.int p5), .val (.int mm), .val (.int kk), .val (.ref b1), .val (.int fr), .val (.int tt), .val (.int rv), .val (.ref b16), .val (.ref b33), .val (.ref b35), .unset, .unset, .unset] [])
  refine Go.of (fun _ k => XS.aload X37.here hx rfl (hb hby at_232) rfl rfl k) ?_
  show Go p e below W T37 (mkF m 234 #[.val (.int p1), .val (.int p2), .val (.int p3), .val (.int p4), .val (.int p5), .val (.int mm), .val (.int kk), .val (.ref b1), .val (.int fr), .val (.int tt), .val (.int rv), .val (.ref b16), .val (.ref b33), .val (.ref b35), .unset, .unset, .unset] [(.ref b33)])
  refine Go.callV X37 hx hZ hown (hw _ (List.mem_of_getElem? (i := 24) rfl)) (hw _ (List.mem_of_getElem? (i := 25) rfl)) (hw _ (List.mem_of_getElem? (i := 27) rfl)) (hw _ (List.mem_of_getElem? (i := 26) rfl)) (hw _ (List.mem_of_getElem? (i := 8) rfl)) (hw _ (List.mem_of_getElem? (i := 28) rfl)) (by decide) rfl E_b33 (rm5 l Z a0 hw [] b33 b1 (f4_ao fr tt (w0_12 p5 mm kk fr tt rv) (f2_np (w0_12 p5 mm kk fr tt rv)) (w0_32 p5 mm kk fr tt rv)) T37.heap n0 Z0 F_b33_order A_b1 E_b1) (V := 0) (by decide) (by decide) (by decide) (by decide) (by rw [hml]; rfl) (argsL := []) (rest := []) rfl (lenOf pd____I rfl) rfl (Nat.le_of_ble_eq_true rfl) (hb hby at_234) ?_
  rintro T38 _ M38 ⟨b38, rfl, N38, K38, s_b38, A_b38⟩ X38
  obtain ⟨L38, zq38⟩ : ∃ z, z = L37 ++ M38 := ⟨_, rfl⟩
  have N := Fr.app N N38
  rw [← zq38] at X38 N
  have ne_b1_b38 : b1 ≠ b38 := Nat.ne_of_lt (Nat.lt_of_lt_of_le E_b1.lt s_b38)
  have ne_b16_b38 : b16 ≠ b38 := Nat.ne_of_lt (Nat.lt_of_lt_of_le E_b16.lt s_b38)
  have ne_b33_b38 : b33 ≠ b38 := Nat.ne_of_lt (Nat.lt_of_lt_of_le E_b33.lt s_b38)
  have ne_b34_b38 : b34 ≠ b38 := Nat.ne_of_lt (Nat.lt_of_lt_of_le A_b34.lt s_b38)
  have ne_b35_b38 : b35 ≠ b38 := Nat.ne_of_lt (Nat.lt_of_lt_of_le E_b35.lt s_b38)
  have ne_b36_b38 : b36 ≠ b38 := Nat.ne_of_lt (Nat.lt_of_lt_of_le A_b36.lt s_b38)
  have g_b38 : n0 ≤ b38 := Nat.le_trans Z0 s_b38
  have s_b38 : h0.size ≤ b38 := Nat.le_trans K.1 s_b38
  have E_b1 := E_b1.keep K38
  have A_b1 := A_b1.keep K38 nin0
  have E_b16 := E_b16.keep K38
  have A_b16 := A_b16.keep K38 nin0
  have E_b33 := E_b33.keep K38
  have F_b33_order := F_b33_order.keep K38 nin0
  have F_b33_position := F_b33_position.keep K38 nin0
  have A_b34 := A_b34.keep K38 nin0
  have E_b35 := E_b35.keep K38
  have F_b35_order := F_b35_order.keep K38 nin0
  have F_b35_position := F_b35_position.keep K38 nin0
  have A_b36 := A_b36.keep K38 nin0
  have K := K.trans K38 all0
  have Z0 := Nat.le_trans Z0 K38.1
  show Go p e below W T38 (mkF m 237 #[.val (.int p1), .val (.int p2), .val (.int p3), .val (.int p4), .val (.int p5), .val (.int mm), .val (.int kk), .val (.ref b1), .val (.int fr), .val (.int tt), .val (.int rv), .val (.ref b16), .val (.ref b33), .val (.ref b35), .unset, .unset, .unset] [(.ref b38)])
  refine Go.of (fun _ k => XS.astore X38.here hx rfl (hb hby at_237) rfl rfl (l' := #[.val (.int p1), .val (.int p2), .val (.int p3), .val (.int p4), .val (.int p5), .val (.int mm), .val (.int kk), .val (.ref b1), .val (.int fr), .val (.int tt), .val (.int rv), .val (.ref b16), .val (.ref b33), .val (.ref b35), .val (.ref b38), .unset, .unset]) rfl k) ?_
  show Go p e below W T38 (mkF m 239 #[.val (.int p1), .val (.int p2), .val (.int p3), .val (.int p4), .val (.int p5), .val (.int mm), .val (.int kk), .val (.ref b1), .val (.int fr), .val (.int tt), .val (.int rv), .val (.ref b16), .val (.ref b33), .val (.ref b35), .val (.ref b38), .unset, .unset] [])
  refine Go.of (fun _ k => XS.aload X38.here hx rfl (hb hby at_239) rfl rfl k) ?_
  show Go p e below W T38 (mkF m 241 #[.val (.int p1), .val (.int p2), .val (.int p3), .val (.int p4), .val (.int p5), .val (.int mm), .val (.int kk), .val (.ref b1), .val (.int fr), .val (.int tt), .val (.int rv), .val (.ref b16), .val (.ref b33), .val (.ref b35), .val (.ref b38), .unset, .unset] [(.ref b38)])
  refine Go.alen X38 hx hZ rfl A_b38 (hb hby at_241) ?_
  show Go p e below W T38 (mkF m 242 #[.val (.int p1), .val (.int p2), .val (.int p3), .val (.int p4), .val (.int p5), .val (.int mm), .val (.int kk), .val (.ref b1), .val (.int fr), .val (.int tt), .val (.int rv), .val (.ref b16), .val (.ref b33), .val (.ref b35), .val (.ref b38), .unset, .unset] [(.int (5 : Int32))])
  refine Go.of (fun _ k => XS.iconst X38.here hx rfl (hb hby at_242) k) ?_
  show Go p e below W T38 (mkF m 243 #[.val (.int p1), .val (.int p2), .val (.int p3), .val (.int p4), .val (.int p5), .val (.int mm), .val (.int kk), .val (.ref b1), .val (.int fr), .val (.int tt), .val (.int rv), .val (.ref b16), .val (.ref b33), .val (.ref b35), .val (.ref b38), .unset, .unset] [(.int (5 : Int32)), (.int (5 : Int32))])
  refine Go.of (fun _ k => XS.icmpYes X38.here hx rfl (pc0 := 243) (pc' := 248) rfl (hb hby at_243) rfl (Jvm.Free.XT.ii_eq_t (by decide)) (by decide) (by decide) k) ?_
  show Go p e below W T38 (mkF m 248 #[.val (.int p1), .val (.int p2), .val (.int p3), .val (.int p4), .val (.int p5), .val (.int mm), .val (.int kk), .val (.ref b1), .val (.int fr), .val (.int tt), .val (.int rv), .val (.ref b16), .val (.ref b33), .val (.ref b35), .val (.ref b38), .unset, .unset] [])
  refine Go.of (fun _ k => XS.aload X38.here hx rfl (hb hby at_248) rfl rfl k) ?_
  show Go p e below W T38 (mkF m 250 #[.val (.int p1), .val (.int p2), .val (.int p3), .val (.int p4), .val (.int p5), .val (.int mm), .val (.int kk), .val (.ref b1), .val (.int fr), .val (.int tt), .val (.int rv), .val (.ref b16), .val (.ref b33), .val (.ref b35), .val (.ref b38), .unset, .unset] [(.ref b38)])
  refine Go.of (fun _ k => XS.iconst X38.here hx rfl (hb hby at_250) k) ?_
  show Go p e below W T38 (mkF m 251 #[.val (.int p1), .val (.int p2), .val (.int p3), .val (.int p4), .val (.int p5), .val (.int mm), .val (.int kk), .val (.ref b1), .val (.int fr), .val (.int tt), .val (.int rv), .val (.ref b16), .val (.ref b33), .val (.ref b35), .val (.ref b38), .unset, .unset] [(.int (0 : Int32)), (.ref b38)])
  refine Go.iald X38 hx hZ rfl A_b38 ⟨by decide, by decide⟩ (hb hby at_251) ?_
  show Go p e below W T38 (mkF m 252 #[.val (.int p1), .val (.int p2), .val (.int p3), .val (.int p4), .val (.int p5), .val (.int mm), .val (.int kk), .val (.ref b1), .val (.int fr), .val (.int tt), .val (.int rv), .val (.ref b16), .val (.ref b33), .val (.ref b35), .val (.ref b38), .unset, .unset] [(.int ((f4_ao fr tt (w0_12 p5 mm kk fr tt rv) (f2_np (w0_12 p5 mm kk fr tt rv)) (w0_32 p5 mm kk fr tt rv)) 0))])
  refine Go.of (fun _ k => XS.aload X38.here hx rfl (hb hby at_252) rfl rfl k) ?_
  show Go p e below W T38 (mkF m 254 #[.val (.int p1), .val (.int p2), .val (.int p3), .val (.int p4), .val (.int p5), .val (.int mm), .val (.int kk), .val (.ref b1), .val (.int fr), .val (.int tt), .val (.int rv), .val (.ref b16), .val (.ref b33), .val (.ref b35), .val (.ref b38), .unset, .unset] [(.ref b16), (.int ((f4_ao fr tt (w0_12 p5 mm kk fr tt rv) (f2_np (w0_12 p5 mm kk fr tt rv)) (w0_32 p5 mm kk fr tt rv)) 0))])
  refine Go.of (fun _ k => XS.iconst X38.here hx rfl (hb hby at_254) k) ?_
  show Go p e below W T38 (mkF m 255 #[.val (.int p1), .val (.int p2), .val (.int p3), .val (.int p4), .val (.int p5), .val (.int mm), .val (.int kk), .val (.ref b1), .val (.int fr), .val (.int tt), .val (.int rv), .val (.ref b16), .val (.ref b33), .val (.ref b35), .val (.ref b38), .unset, .unset] [(.int (0 : Int32)), (.ref b16), (.int ((f4_ao fr tt (w0_12 p5 mm kk fr tt rv) (f2_np (w0_12 p5 mm kk fr tt rv)) (w0_32 p5 mm kk fr tt rv)) 0))])
  refine Go.iald X38 hx hZ rfl A_b16 ⟨by decide, by decide⟩ (hb hby at_255) ?_
  show Go p e below W T38 (mkF m 256 #[.val (.int p1), .val (.int p2), .val (.int p3), .val (.int p4), .val (.int p5), .val (.int mm), .val (.int kk), .val (.ref b1), .val (.int fr), .val (.int tt), .val (.int rv), .val (.ref b16), .val (.ref b33), .val (.ref b35), .val (.ref b38), .unset, .unset] [(.int (w0_32 p5 mm kk fr tt rv 0)), (.int ((f4_ao fr tt (w0_12 p5 mm kk fr tt rv) (f2_np (w0_12 p5 mm kk fr tt rv)) (w0_32 p5 mm kk fr tt rv)) 0))])
  suffices G44 : ∀ T', Stand p l e room_1 s m #[(.int p1), (.int p2), (.int p3), (.int p4), (.int p5)] below meth c T' L38 7 29 → T'.heap = T38.heap → Go p e below W T' (mkF m 308 #[.val (.int p1), .val (.int p2), .val (.int p3), .val (.int p4), .val (.int p5), .val (.int mm), .val (.int kk), .val (.ref b1), .val (.int fr), .val (.int tt), .val (.int rv), .val (.ref b16), .val (.ref b33), .val (.ref b35), .val (.ref b38), .unset, .unset] [(.int (v0_45 p5 mm kk fr tt rv))]) by
    by_cases c39 : ((f4_ao fr tt (w0_12 p5 mm kk fr tt rv) (f2_np (w0_12 p5 mm kk fr tt rv)) (w0_32 p5 mm kk fr tt rv)) 0) = (w0_32 p5 mm kk fr tt rv 0)
    · refine Go.of (fun _ k => XS.icmpNo X38.here hx rfl (hb hby at_256) rfl (Jvm.Free.XT.ii_ne_f c39) k) ?_
      show Go p e below W T38 (mkF m 259 #[.val (.int p1), .val (.int p2), .val (.int p3), .val (.int p4), .val (.int p5), .val (.int mm), .val (.int kk), .val (.ref b1), .val (.int fr), .val (.int tt), .val (.int rv), .val (.ref b16), .val (.ref b33), .val (.ref b35), .val (.ref b38), .unset, .unset] [])
      refine Go.of (fun _ k => XS.aload X38.here hx rfl (hb hby at_259) rfl rfl k) ?_
      show Go p e below W T38 (mkF m 261 #[.val (.int p1), .val (.int p2), .val (.int p3), .val (.int p4), .val (.int p5), .val (.int mm), .val (.int kk), .val (.ref b1), .val (.int fr), .val (.int tt), .val (.int rv), .val (.ref b16), .val (.ref b33), .val (.ref b35), .val (.ref b38), .unset, .unset] [(.ref b38)])
      refine Go.of (fun _ k => XS.iconst X38.here hx rfl (hb hby at_261) k) ?_
      show Go p e below W T38 (mkF m 262 #[.val (.int p1), .val (.int p2), .val (.int p3), .val (.int p4), .val (.int p5), .val (.int mm), .val (.int kk), .val (.ref b1), .val (.int fr), .val (.int tt), .val (.int rv), .val (.ref b16), .val (.ref b33), .val (.ref b35), .val (.ref b38), .unset, .unset] [(.int (1 : Int32)), (.ref b38)])
      refine Go.iald X38 hx hZ rfl A_b38 ⟨by decide, by decide⟩ (hb hby at_262) ?_
      show Go p e below W T38 (mkF m 263 #[.val (.int p1), .val (.int p2), .val (.int p3), .val (.int p4), .val (.int p5), .val (.int mm), .val (.int kk), .val (.ref b1), .val (.int fr), .val (.int tt), .val (.int rv), .val (.ref b16), .val (.ref b33), .val (.ref b35), .val (.ref b38), .unset, .unset] [(.int ((f4_ao fr tt (w0_12 p5 mm kk fr tt rv) (f2_np (w0_12 p5 mm kk fr tt rv)) (w0_32 p5 mm kk fr tt rv)) 1))])
      refine Go.of (fun _ k => XS.aload X38.here hx rfl (hb hby at_263) rfl rfl k) ?_
      show Go p e below W T38 (mkF m 265 #[.val (.int p1), .val (.int p2), .val (.int p3), .val (.int p4), .val (.int p5), .val (.int mm), .val (.int kk), .val (.ref b1), .val (.int fr), .val (.int tt), .val (.int rv), .val (.ref b16), .val (.ref b33), .val (.ref b35), .val (.ref b38), .unset, .unset] [(.ref b16), (.int ((f4_ao fr tt (w0_12 p5 mm kk fr tt rv) (f2_np (w0_12 p5 mm kk fr tt rv)) (w0_32 p5 mm kk fr tt rv)) 1))])
      refine Go.of (fun _ k => XS.iconst X38.here hx rfl (hb hby at_265) k) ?_
      show Go p e below W T38 (mkF m 266 #[.val (.int p1), .val (.int p2), .val (.int p3), .val (.int p4), .val (.int p5), .val (.int mm), .val (.int kk), .val (.ref b1), .val (.int fr), .val (.int tt), .val (.int rv), .val (.ref b16), .val (.ref b33), .val (.ref b35), .val (.ref b38), .unset, .unset] [(.int (1 : Int32)), (.ref b16), (.int ((f4_ao fr tt (w0_12 p5 mm kk fr tt rv) (f2_np (w0_12 p5 mm kk fr tt rv)) (w0_32 p5 mm kk fr tt rv)) 1))])
      refine Go.iald X38 hx hZ rfl A_b16 ⟨by decide, by decide⟩ (hb hby at_266) ?_
      show Go p e below W T38 (mkF m 267 #[.val (.int p1), .val (.int p2), .val (.int p3), .val (.int p4), .val (.int p5), .val (.int mm), .val (.int kk), .val (.ref b1), .val (.int fr), .val (.int tt), .val (.int rv), .val (.ref b16), .val (.ref b33), .val (.ref b35), .val (.ref b38), .unset, .unset] [(.int (w0_32 p5 mm kk fr tt rv 1)), (.int ((f4_ao fr tt (w0_12 p5 mm kk fr tt rv) (f2_np (w0_12 p5 mm kk fr tt rv)) (w0_32 p5 mm kk fr tt rv)) 1))])
      by_cases c40 : ((f4_ao fr tt (w0_12 p5 mm kk fr tt rv) (f2_np (w0_12 p5 mm kk fr tt rv)) (w0_32 p5 mm kk fr tt rv)) 1) = (w0_32 p5 mm kk fr tt rv 1)
      · refine Go.of (fun _ k => XS.icmpNo X38.here hx rfl (hb hby at_267) rfl (Jvm.Free.XT.ii_ne_f c40) k) ?_
        show Go p e below W T38 (mkF m 270 #[.val (.int p1), .val (.int p2), .val (.int p3), .val (.int p4), .val (.int p5), .val (.int mm), .val (.int kk), .val (.ref b1), .val (.int fr), .val (.int tt), .val (.int rv), .val (.ref b16), .val (.ref b33), .val (.ref b35), .val (.ref b38), .unset, .unset] [])
        refine Go.of (fun _ k => XS.aload X38.here hx rfl (hb hby at_270) rfl rfl k) ?_
        show Go p e below W T38 (mkF m 272 #[.val (.int p1), .val (.int p2), .val (.int p3), .val (.int p4), .val (.int p5), .val (.int mm), .val (.int kk), .val (.ref b1), .val (.int fr), .val (.int tt), .val (.int rv), .val (.ref b16), .val (.ref b33), .val (.ref b35), .val (.ref b38), .unset, .unset] [(.ref b38)])
        refine Go.of (fun _ k => XS.iconst X38.here hx rfl (hb hby at_272) k) ?_
        show Go p e below W T38 (mkF m 273 #[.val (.int p1), .val (.int p2), .val (.int p3), .val (.int p4), .val (.int p5), .val (.int mm), .val (.int kk), .val (.ref b1), .val (.int fr), .val (.int tt), .val (.int rv), .val (.ref b16), .val (.ref b33), .val (.ref b35), .val (.ref b38), .unset, .unset] [(.int (2 : Int32)), (.ref b38)])
        refine Go.iald X38 hx hZ rfl A_b38 ⟨by decide, by decide⟩ (hb hby at_273) ?_
        show Go p e below W T38 (mkF m 274 #[.val (.int p1), .val (.int p2), .val (.int p3), .val (.int p4), .val (.int p5), .val (.int mm), .val (.int kk), .val (.ref b1), .val (.int fr), .val (.int tt), .val (.int rv), .val (.ref b16), .val (.ref b33), .val (.ref b35), .val (.ref b38), .unset, .unset] [(.int ((f4_ao fr tt (w0_12 p5 mm kk fr tt rv) (f2_np (w0_12 p5 mm kk fr tt rv)) (w0_32 p5 mm kk fr tt rv)) 2))])
        refine Go.of (fun _ k => XS.aload X38.here hx rfl (hb hby at_274) rfl rfl k) ?_
        show Go p e below W T38 (mkF m 276 #[.val (.int p1), .val (.int p2), .val (.int p3), .val (.int p4), .val (.int p5), .val (.int mm), .val (.int kk), .val (.ref b1), .val (.int fr), .val (.int tt), .val (.int rv), .val (.ref b16), .val (.ref b33), .val (.ref b35), .val (.ref b38), .unset, .unset] [(.ref b16), (.int ((f4_ao fr tt (w0_12 p5 mm kk fr tt rv) (f2_np (w0_12 p5 mm kk fr tt rv)) (w0_32 p5 mm kk fr tt rv)) 2))])
        refine Go.of (fun _ k => XS.iconst X38.here hx rfl (hb hby at_276) k) ?_
        show Go p e below W T38 (mkF m 277 #[.val (.int p1), .val (.int p2), .val (.int p3), .val (.int p4), .val (.int p5), .val (.int mm), .val (.int kk), .val (.ref b1), .val (.int fr), .val (.int tt), .val (.int rv), .val (.ref b16), .val (.ref b33), .val (.ref b35), .val (.ref b38), .unset, .unset] [(.int (2 : Int32)), (.ref b16), (.int ((f4_ao fr tt (w0_12 p5 mm kk fr tt rv) (f2_np (w0_12 p5 mm kk fr tt rv)) (w0_32 p5 mm kk fr tt rv)) 2))])
        refine Go.iald X38 hx hZ rfl A_b16 ⟨by decide, by decide⟩ (hb hby at_277) ?_
        show Go p e below W T38 (mkF m 278 #[.val (.int p1), .val (.int p2), .val (.int p3), .val (.int p4), .val (.int p5), .val (.int mm), .val (.int kk), .val (.ref b1), .val (.int fr), .val (.int tt), .val (.int rv), .val (.ref b16), .val (.ref b33), .val (.ref b35), .val (.ref b38), .unset, .unset] [(.int (w0_32 p5 mm kk fr tt rv 2)), (.int ((f4_ao fr tt (w0_12 p5 mm kk fr tt rv) (f2_np (w0_12 p5 mm kk fr tt rv)) (w0_32 p5 mm kk fr tt rv)) 2))])
        by_cases c41 : ((f4_ao fr tt (w0_12 p5 mm kk fr tt rv) (f2_np (w0_12 p5 mm kk fr tt rv)) (w0_32 p5 mm kk fr tt rv)) 2) = (w0_32 p5 mm kk fr tt rv 2)
        · refine Go.of (fun _ k => XS.icmpNo X38.here hx rfl (hb hby at_278) rfl (Jvm.Free.XT.ii_ne_f c41) k) ?_
          show Go p e below W T38 (mkF m 281 #[.val (.int p1), .val (.int p2), .val (.int p3), .val (.int p4), .val (.int p5), .val (.int mm), .val (.int kk), .val (.ref b1), .val (.int fr), .val (.int tt), .val (.int rv), .val (.ref b16), .val (.ref b33), .val (.ref b35), .val (.ref b38), .unset, .unset] [])
          refine Go.of (fun _ k => XS.aload X38.here hx rfl (hb hby at_281) rfl rfl k) ?_
          show Go p e below W T38 (mkF m 283 #[.val (.int p1), .val (.int p2), .val (.int p3), .val (.int p4), .val (.int p5), .val (.int mm), .val (.int kk), .val (.ref b1), .val (.int fr), .val (.int tt), .val (.int rv), .val (.ref b16), .val (.ref b33), .val (.ref b35), .val (.ref b38), .unset, .unset] [(.ref b38)])
          refine Go.of (fun _ k => XS.iconst X38.here hx rfl (hb hby at_283) k) ?_
          show Go p e below W T38 (mkF m 284 #[.val (.int p1), .val (.int p2), .val (.int p3), .val (.int p4), .val (.int p5), .val (.int mm), .val (.int kk), .val (.ref b1), .val (.int fr), .val (.int tt), .val (.int rv), .val (.ref b16), .val (.ref b33), .val (.ref b35), .val (.ref b38), .unset, .unset] [(.int (3 : Int32)), (.ref b38)])
          refine Go.iald X38 hx hZ rfl A_b38 ⟨by decide, by decide⟩ (hb hby at_284) ?_
          show Go p e below W T38 (mkF m 285 #[.val (.int p1), .val (.int p2), .val (.int p3), .val (.int p4), .val (.int p5), .val (.int mm), .val (.int kk), .val (.ref b1), .val (.int fr), .val (.int tt), .val (.int rv), .val (.ref b16), .val (.ref b33), .val (.ref b35), .val (.ref b38), .unset, .unset] [(.int ((f4_ao fr tt (w0_12 p5 mm kk fr tt rv) (f2_np (w0_12 p5 mm kk fr tt rv)) (w0_32 p5 mm kk fr tt rv)) 3))])
          refine Go.of (fun _ k => XS.aload X38.here hx rfl (hb hby at_285) rfl rfl k) ?_
          show Go p e below W T38 (mkF m 287 #[.val (.int p1), .val (.int p2), .val (.int p3), .val (.int p4), .val (.int p5), .val (.int mm), .val (.int kk), .val (.ref b1), .val (.int fr), .val (.int tt), .val (.int rv), .val (.ref b16), .val (.ref b33), .val (.ref b35), .val (.ref b38), .unset, .unset] [(.ref b16), (.int ((f4_ao fr tt (w0_12 p5 mm kk fr tt rv) (f2_np (w0_12 p5 mm kk fr tt rv)) (w0_32 p5 mm kk fr tt rv)) 3))])
          refine Go.of (fun _ k => XS.iconst X38.here hx rfl (hb hby at_287) k) ?_
          show Go p e below W T38 (mkF m 288 #[.val (.int p1), .val (.int p2), .val (.int p3), .val (.int p4), .val (.int p5), .val (.int mm), .val (.int kk), .val (.ref b1), .val (.int fr), .val (.int tt), .val (.int rv), .val (.ref b16), .val (.ref b33), .val (.ref b35), .val (.ref b38), .unset, .unset] [(.int (3 : Int32)), (.ref b16), (.int ((f4_ao fr tt (w0_12 p5 mm kk fr tt rv) (f2_np (w0_12 p5 mm kk fr tt rv)) (w0_32 p5 mm kk fr tt rv)) 3))])
          refine Go.iald X38 hx hZ rfl A_b16 ⟨by decide, by decide⟩ (hb hby at_288) ?_
          show Go p e below W T38 (mkF m 289 #[.val (.int p1), .val (.int p2), .val (.int p3), .val (.int p4), .val (.int p5), .val (.int mm), .val (.int kk), .val (.ref b1), .val (.int fr), .val (.int tt), .val (.int rv), .val (.ref b16), .val (.ref b33), .val (.ref b35), .val (.ref b38), .unset, .unset] [(.int (w0_32 p5 mm kk fr tt rv 3)), (.int ((f4_ao fr tt (w0_12 p5 mm kk fr tt rv) (f2_np (w0_12 p5 mm kk fr tt rv)) (w0_32 p5 mm kk fr tt rv)) 3))])
          by_cases c42 : ((f4_ao fr tt (w0_12 p5 mm kk fr tt rv) (f2_np (w0_12 p5 mm kk fr tt rv)) (w0_32 p5 mm kk fr tt rv)) 3) = (w0_32 p5 mm kk fr tt rv 3)
          · refine Go.of (fun _ k => XS.icmpNo X38.here hx rfl (hb hby at_289) rfl (Jvm.Free.XT.ii_ne_f c42) k) ?_
            show Go p e below W T38 (mkF m 292 #[.val (.int p1), .val (.int p2), .val (.int p3), .val (.int p4), .val (.int p5), .val (.int mm), .val (.int kk), .val (.ref b1), .val (.int fr), .val (.int tt), .val (.int rv), .val (.ref b16), .val (.ref b33), .val (.ref b35), .val (.ref b38), .unset, .unset] [])
            refine Go.of (fun _ k => XS.aload X38.here hx rfl (hb hby at_292) rfl rfl k) ?_
            show Go p e below W T38 (mkF m 294 #[.val (.int p1), .val (.int p2), .val (.int p3), .val (.int p4), .val (.int p5), .val (.int mm), .val (.int kk), .val (.ref b1), .val (.int fr), .val (.int tt), .val (.int rv), .val (.ref b16), .val (.ref b33), .val (.ref b35), .val (.ref b38), .unset, .unset] [(.ref b38)])
            refine Go.of (fun _ k => XS.iconst X38.here hx rfl (hb hby at_294) k) ?_
            show Go p e below W T38 (mkF m 295 #[.val (.int p1), .val (.int p2), .val (.int p3), .val (.int p4), .val (.int p5), .val (.int mm), .val (.int kk), .val (.ref b1), .val (.int fr), .val (.int tt), .val (.int rv), .val (.ref b16), .val (.ref b33), .val (.ref b35), .val (.ref b38), .unset, .unset] [(.int (4 : Int32)), (.ref b38)])
            refine Go.iald X38 hx hZ rfl A_b38 ⟨by decide, by decide⟩ (hb hby at_295) ?_
            show Go p e below W T38 (mkF m 296 #[.val (.int p1), .val (.int p2), .val (.int p3), .val (.int p4), .val (.int p5), .val (.int mm), .val (.int kk), .val (.ref b1), .val (.int fr), .val (.int tt), .val (.int rv), .val (.ref b16), .val (.ref b33), .val (.ref b35), .val (.ref b38), .unset, .unset] [(.int ((f4_ao fr tt (w0_12 p5 mm kk fr tt rv) (f2_np (w0_12 p5 mm kk fr tt rv)) (w0_32 p5 mm kk fr tt rv)) 4))])
            refine Go.of (fun _ k => XS.aload X38.here hx rfl (hb hby at_296) rfl rfl k) ?_
            show Go p e below W T38 (mkF m 298 #[.val (.int p1), .val (.int p2), .val (.int p3), .val (.int p4), .val (.int p5), .val (.int mm), .val (.int kk), .val (.ref b1), .val (.int fr), .val (.int tt), .val (.int rv), .val (.ref b16), .val (.ref b33), .val (.ref b35), .val (.ref b38), .unset, .unset] [(.ref b16), (.int ((f4_ao fr tt (w0_12 p5 mm kk fr tt rv) (f2_np (w0_12 p5 mm kk fr tt rv)) (w0_32 p5 mm kk fr tt rv)) 4))])
            refine Go.of (fun _ k => XS.iconst X38.here hx rfl (hb hby at_298) k) ?_
            show Go p e below W T38 (mkF m 299 #[.val (.int p1), .val (.int p2), .val (.int p3), .val (.int p4), .val (.int p5), .val (.int mm), .val (.int kk), .val (.ref b1), .val (.int fr), .val (.int tt), .val (.int rv), .val (.ref b16), .val (.ref b33), .val (.ref b35), .val (.ref b38), .unset, .unset] [(.int (4 : Int32)), (.ref b16), (.int ((f4_ao fr tt (w0_12 p5 mm kk fr tt rv) (f2_np (w0_12 p5 mm kk fr tt rv)) (w0_32 p5 mm kk fr tt rv)) 4))])
            refine Go.iald X38 hx hZ rfl A_b16 ⟨by decide, by decide⟩ (hb hby at_299) ?_
            show Go p e below W T38 (mkF m 300 #[.val (.int p1), .val (.int p2), .val (.int p3), .val (.int p4), .val (.int p5), .val (.int mm), .val (.int kk), .val (.ref b1), .val (.int fr), .val (.int tt), .val (.int rv), .val (.ref b16), .val (.ref b33), .val (.ref b35), .val (.ref b38), .unset, .unset] [(.int (w0_32 p5 mm kk fr tt rv 4)), (.int ((f4_ao fr tt (w0_12 p5 mm kk fr tt rv) (f2_np (w0_12 p5 mm kk fr tt rv)) (w0_32 p5 mm kk fr tt rv)) 4))])
            by_cases c43 : ((f4_ao fr tt (w0_12 p5 mm kk fr tt rv) (f2_np (w0_12 p5 mm kk fr tt rv)) (w0_32 p5 mm kk fr tt rv)) 4) = (w0_32 p5 mm kk fr tt rv 4)
            · refine Go.of (fun _ k => XS.icmpNo X38.here hx rfl (hb hby at_300) rfl (Jvm.Free.XT.ii_ne_f c43) k) ?_
              show Go p e below W T38 (mkF m 303 #[.val (.int p1), .val (.int p2), .val (.int p3), .val (.int p4), .val (.int p5), .val (.int mm), .val (.int kk), .val (.ref b1), .val (.int fr), .val (.int tt), .val (.int rv), .val (.ref b16), .val (.ref b33), .val (.ref b35), .val (.ref b38), .unset, .unset] [])
              refine Go.of (fun _ k => XS.iconst X38.here hx rfl (hb hby at_303) k) ?_
              show Go p e below W T38 (mkF m 304 #[.val (.int p1), .val (.int p2), .val (.int p3), .val (.int p4), .val (.int p5), .val (.int mm), .val (.int kk), .val (.ref b1), .val (.int fr), .val (.int tt), .val (.int rv), .val (.ref b16), .val (.ref b33), .val (.ref b35), .val (.ref b38), .unset, .unset] [(.int (1 : Int32))])
              refine Go.of (fun _ k => XS.goto X38.here hx rfl (pc0 := 304) (pc' := 308) rfl (hb hby at_304) (by decide) (by decide) k) ?_
              have G44 := G44
              have q_v0_45 : (v0_45 p5 mm kk fr tt rv) = (1 : Int32) := by rw [v0_45, if_pos c39, if_pos c40, if_pos c41, if_pos c42, if_pos c43]
              rw [q_v0_45] at G44
              exact G44 _ X38 rfl
            · refine Go.of (fun _ k => XS.icmpYes X38.here hx rfl (pc0 := 300) (pc' := 307) rfl (hb hby at_300) rfl (Jvm.Free.XT.ii_ne_t c43) (by decide) (by decide) k) ?_
              show Go p e below W T38 (mkF m 307 #[.val (.int p1), .val (.int p2), .val (.int p3), .val (.int p4), .val (.int p5), .val (.int mm), .val (.int kk), .val (.ref b1), .val (.int fr), .val (.int tt), .val (.int rv), .val (.ref b16), .val (.ref b33), .val (.ref b35), .val (.ref b38), .unset, .unset] [])
              refine Go.of (fun _ k => XS.iconst X38.here hx rfl (hb hby at_307) k) ?_
              have G44 := G44
              have q_v0_45 : (v0_45 p5 mm kk fr tt rv) = (0 : Int32) := by rw [v0_45, if_pos c39, if_pos c40, if_pos c41, if_pos c42, if_neg c43]
              rw [q_v0_45] at G44
              exact G44 _ X38 rfl
          · refine Go.of (fun _ k => XS.icmpYes X38.here hx rfl (pc0 := 289) (pc' := 307) rfl (hb hby at_289) rfl (Jvm.Free.XT.ii_ne_t c42) (by decide) (by decide) k) ?_
            show Go p e below W T38 (mkF m 307 #[.val (.int p1), .val (.int p2), .val (.int p3), .val (.int p4), .val (.int p5), .val (.int mm), .val (.int kk), .val (.ref b1), .val (.int fr), .val (.int tt), .val (.int rv), .val (.ref b16), .val (.ref b33), .val (.ref b35), .val (.ref b38), .unset, .unset] [])
            refine Go.of (fun _ k => XS.iconst X38.here hx rfl (hb hby at_307) k) ?_
            have G44 := G44
            have q_v0_45 : (v0_45 p5 mm kk fr tt rv) = (0 : Int32) := by rw [v0_45, if_pos c39, if_pos c40, if_pos c41, if_neg c42]
            rw [q_v0_45] at G44
            exact G44 _ X38 rfl
        · refine Go.of (fun _ k => XS.icmpYes X38.here hx rfl (pc0 := 278) (pc' := 307) rfl (hb hby at_278) rfl (Jvm.Free.XT.ii_ne_t c41) (by decide) (by decide) k) ?_
          show Go p e below W T38 (mkF m 307 #[.val (.int p1), .val (.int p2), .val (.int p3), .val (.int p4), .val (.int p5), .val (.int mm), .val (.int kk), .val (.ref b1), .val (.int fr), .val (.int tt), .val (.int rv), .val (.ref b16), .val (.ref b33), .val (.ref b35), .val (.ref b38), .unset, .unset] [])
          refine Go.of (fun _ k => XS.iconst X38.here hx rfl (hb hby at_307) k) ?_
          have G44 := G44
          have q_v0_45 : (v0_45 p5 mm kk fr tt rv) = (0 : Int32) := by rw [v0_45, if_pos c39, if_pos c40, if_neg c41]
          rw [q_v0_45] at G44
          exact G44 _ X38 rfl
      · refine Go.of (fun _ k => XS.icmpYes X38.here hx rfl (pc0 := 267) (pc' := 307) rfl (hb hby at_267) rfl (Jvm.Free.XT.ii_ne_t c40) (by decide) (by decide) k) ?_
        show Go p e below W T38 (mkF m 307 #[.val (.int p1), .val (.int p2), .val (.int p3), .val (.int p4), .val (.int p5), .val (.int mm), .val (.int kk), .val (.ref b1), .val (.int fr), .val (.int tt), .val (.int rv), .val (.ref b16), .val (.ref b33), .val (.ref b35), .val (.ref b38), .unset, .unset] [])
        refine Go.of (fun _ k => XS.iconst X38.here hx rfl (hb hby at_307) k) ?_
        have G44 := G44
        have q_v0_45 : (v0_45 p5 mm kk fr tt rv) = (0 : Int32) := by rw [v0_45, if_pos c39, if_neg c40]
        rw [q_v0_45] at G44
        exact G44 _ X38 rfl
    · refine Go.of (fun _ k => XS.icmpYes X38.here hx rfl (pc0 := 256) (pc' := 307) rfl (hb hby at_256) rfl (Jvm.Free.XT.ii_ne_t c39) (by decide) (by decide) k) ?_
      show Go p e below W T38 (mkF m 307 #[.val (.int p1), .val (.int p2), .val (.int p3), .val (.int p4), .val (.int p5), .val (.int mm), .val (.int kk), .val (.ref b1), .val (.int fr), .val (.int tt), .val (.int rv), .val (.ref b16), .val (.ref b33), .val (.ref b35), .val (.ref b38), .unset, .unset] [])
      refine Go.of (fun _ k => XS.iconst X38.here hx rfl (hb hby at_307) k) ?_
      have G44 := G44
      have q_v0_45 : (v0_45 p5 mm kk fr tt rv) = (0 : Int32) := by rw [v0_45, if_neg c39]
      rw [q_v0_45] at G44
      exact G44 _ X38 rfl
  intro T44 X44 e44
  show Go p e below W T44 (mkF m 308 #[.val (.int p1), .val (.int p2), .val (.int p3), .val (.int p4), .val (.int p5), .val (.int mm), .val (.int kk), .val (.ref b1), .val (.int fr), .val (.int tt), .val (.int rv), .val (.ref b16), .val (.ref b33), .val (.ref b35), .val (.ref b38), .unset, .unset] [(.int (v0_45 p5 mm kk fr tt rv))])
  refine Go.of (fun _ k => XS.istore X44.here hx rfl (hb hby at_308) rfl (l' := #[.val (.int p1), .val (.int p2), .val (.int p3), .val (.int p4), .val (.int p5), .val (.int mm), .val (.int kk), .val (.ref b1), .val (.int fr), .val (.int tt), .val (.int rv), .val (.ref b16), .val (.ref b33), .val (.ref b35), .val (.ref b38), .val (.int (v0_45 p5 mm kk fr tt rv)), .unset]) rfl k) ?_
  show Go p e below W T44 (mkF m 310 #[.val (.int p1), .val (.int p2), .val (.int p3), .val (.int p4), .val (.int p5), .val (.int mm), .val (.int kk), .val (.ref b1), .val (.int fr), .val (.int tt), .val (.int rv), .val (.ref b16), .val (.ref b33), .val (.ref b35), .val (.ref b38), .val (.int (v0_45 p5 mm kk fr tt rv)), .unset] [])
  refine Go.of (fun _ k => XS.aload X44.here hx rfl (hb hby at_310) rfl rfl k) ?_
  show Go p e below W T44 (mkF m 312 #[.val (.int p1), .val (.int p2), .val (.int p3), .val (.int p4), .val (.int p5), .val (.int mm), .val (.int kk), .val (.ref b1), .val (.int fr), .val (.int tt), .val (.int rv), .val (.ref b16), .val (.ref b33), .val (.ref b35), .val (.ref b38), .val (.int (v0_45 p5 mm kk fr tt rv)), .unset] [(.ref b33)])
  refine Go.of (fun _ k => XS.aload X44.here hx rfl (hb hby at_312) rfl rfl k) ?_
  show Go p e below W T44 (mkF m 314 #[.val (.int p1), .val (.int p2), .val (.int p3), .val (.int p4), .val (.int p5), .val (.int mm), .val (.int kk), .val (.ref b1), .val (.int fr), .val (.int tt), .val (.int rv), .val (.ref b16), .val (.ref b33), .val (.ref b35), .val (.ref b38), .val (.int (v0_45 p5 mm kk fr tt rv)), .unset] [(.ref b16), (.ref b33)])
  refine Go.of (fun _ k => XS.iconst X44.here hx rfl (hb hby at_314) k) ?_
  show Go p e below W T44 (mkF m 315 #[.val (.int p1), .val (.int p2), .val (.int p3), .val (.int p4), .val (.int p5), .val (.int mm), .val (.int kk), .val (.ref b1), .val (.int fr), .val (.int tt), .val (.int rv), .val (.ref b16), .val (.ref b33), .val (.ref b35), .val (.ref b38), .val (.int (v0_45 p5 mm kk fr tt rv)), .unset] [(.int (0 : Int32)), (.ref b16), (.ref b33)])
  refine Go.iald X44 hx hZ e44 A_b16 ⟨by decide, by decide⟩ (hb hby at_315) ?_
  show Go p e below W T44 (mkF m 316 #[.val (.int p1), .val (.int p2), .val (.int p3), .val (.int p4), .val (.int p5), .val (.int mm), .val (.int kk), .val (.ref b1), .val (.int fr), .val (.int tt), .val (.int rv), .val (.ref b16), .val (.ref b33), .val (.ref b35), .val (.ref b38), .val (.int (v0_45 p5 mm kk fr tt rv)), .unset] [(.int (w0_32 p5 mm kk fr tt rv 0)), (.ref b33)])
  refine Go.callV X44 hx hZ hown (hw _ (List.mem_of_getElem? (i := 38) rfl)) (hw _ (List.mem_of_getElem? (i := 39) rfl)) (hw _ (List.mem_of_getElem? (i := 41) rfl)) (hw _ (List.mem_of_getElem? (i := 40) rfl)) (hw _ (List.mem_of_getElem? (i := 8) rfl)) (hw _ (List.mem_of_getElem? (i := 42) rfl)) (by decide) e44 E_b33 (rm6 l Z a0 hw [] b33 (w0_32 p5 mm kk fr tt rv 0) b34 (f4_aq fr tt (w0_12 p5 mm kk fr tt rv) (f2_np (w0_12 p5 mm kk fr tt rv)) (w0_32 p5 mm kk fr tt rv)) T38.heap F_b33_position A_b34 ((own_w0_32 p5 mm kk fr tt rv rmm rk rf rr) 0 (⟨by decide, by decide⟩ : inb (0 : Int32) 5).2)) (V := 0) (by decide) (by decide) (by decide) (by decide) (by rw [hml]; rfl) (argsL := [(.int (w0_32 p5 mm kk fr tt rv 0))]) (rest := []) rfl (lenOf pd__I_I rfl) rfl (Nat.le_of_ble_eq_true rfl) (hb hby at_316) ?_
  rintro T46 _ _ ⟨rfl, rfl, e46⟩ X46
  rw [List.append_nil] at X46
  show Go p e below W T46 (mkF m 319 #[.val (.int p1), .val (.int p2), .val (.int p3), .val (.int p4), .val (.int p5), .val (.int mm), .val (.int kk), .val (.ref b1), .val (.int fr), .val (.int tt), .val (.int rv), .val (.ref b16), .val (.ref b33), .val (.ref b35), .val (.ref b38), .val (.int (v0_45 p5 mm kk fr tt rv)), .unset] [(.int (f6 (w0_32 p5 mm kk fr tt rv 0) (f4_aq fr tt (w0_12 p5 mm kk fr tt rv) (f2_np (w0_12 p5 mm kk fr tt rv)) (w0_32 p5 mm kk fr tt rv))))])
  suffices G56 : ∀ T', Stand p l e room_1 s m #[(.int p1), (.int p2), (.int p3), (.int p4), (.int p5)] below meth c T' L38 7 29 → T'.heap = T38.heap → Go p e below W T' (mkF m 379 #[.val (.int p1), .val (.int p2), .val (.int p3), .val (.int p4), .val (.int p5), .val (.int mm), .val (.int kk), .val (.ref b1), .val (.int fr), .val (.int tt), .val (.int rv), .val (.ref b16), .val (.ref b33), .val (.ref b35), .val (.ref b38), .val (.int (v0_45 p5 mm kk fr tt rv)), .unset] [(.int (v0_57 p5 mm kk fr tt rv))]) by
    by_cases c47 : (f6 (w0_32 p5 mm kk fr tt rv 0) (f4_aq fr tt (w0_12 p5 mm kk fr tt rv) (f2_np (w0_12 p5 mm kk fr tt rv)) (w0_32 p5 mm kk fr tt rv))) = (0 : Int32)
    · refine Go.of (fun _ k => XS.ifNo X46.here hx rfl (hb hby at_319) rfl (Jvm.Free.XT.i0_ne_f c47) k) ?_
      show Go p e below W T46 (mkF m 322 #[.val (.int p1), .val (.int p2), .val (.int p3), .val (.int p4), .val (.int p5), .val (.int mm), .val (.int kk), .val (.ref b1), .val (.int fr), .val (.int tt), .val (.int rv), .val (.ref b16), .val (.ref b33), .val (.ref b35), .val (.ref b38), .val (.int (v0_45 p5 mm kk fr tt rv)), .unset] [])
      refine Go.of (fun _ k => XS.aload X46.here hx rfl (hb hby at_322) rfl rfl k) ?_
      show Go p e below W T46 (mkF m 324 #[.val (.int p1), .val (.int p2), .val (.int p3), .val (.int p4), .val (.int p5), .val (.int mm), .val (.int kk), .val (.ref b1), .val (.int fr), .val (.int tt), .val (.int rv), .val (.ref b16), .val (.ref b33), .val (.ref b35), .val (.ref b38), .val (.int (v0_45 p5 mm kk fr tt rv)), .unset] [(.ref b33)])
      refine Go.of (fun _ k => XS.aload X46.here hx rfl (hb hby at_324) rfl rfl k) ?_
      show Go p e below W T46 (mkF m 326 #[.val (.int p1), .val (.int p2), .val (.int p3), .val (.int p4), .val (.int p5), .val (.int mm), .val (.int kk), .val (.ref b1), .val (.int fr), .val (.int tt), .val (.int rv), .val (.ref b16), .val (.ref b33), .val (.ref b35), .val (.ref b38), .val (.int (v0_45 p5 mm kk fr tt rv)), .unset] [(.ref b16), (.ref b33)])
      refine Go.of (fun _ k => XS.iconst X46.here hx rfl (hb hby at_326) k) ?_
      show Go p e below W T46 (mkF m 327 #[.val (.int p1), .val (.int p2), .val (.int p3), .val (.int p4), .val (.int p5), .val (.int mm), .val (.int kk), .val (.ref b1), .val (.int fr), .val (.int tt), .val (.int rv), .val (.ref b16), .val (.ref b33), .val (.ref b35), .val (.ref b38), .val (.int (v0_45 p5 mm kk fr tt rv)), .unset] [(.int (1 : Int32)), (.ref b16), (.ref b33)])
      refine Go.iald X46 hx hZ e46 A_b16 ⟨by decide, by decide⟩ (hb hby at_327) ?_
      show Go p e below W T46 (mkF m 328 #[.val (.int p1), .val (.int p2), .val (.int p3), .val (.int p4), .val (.int p5), .val (.int mm), .val (.int kk), .val (.ref b1), .val (.int fr), .val (.int tt), .val (.int rv), .val (.ref b16), .val (.ref b33), .val (.ref b35), .val (.ref b38), .val (.int (v0_45 p5 mm kk fr tt rv)), .unset] [(.int (w0_32 p5 mm kk fr tt rv 1)), (.ref b33)])
      refine Go.callV X46 hx hZ hown (hw _ (List.mem_of_getElem? (i := 38) rfl)) (hw _ (List.mem_of_getElem? (i := 39) rfl)) (hw _ (List.mem_of_getElem? (i := 41) rfl)) (hw _ (List.mem_of_getElem? (i := 40) rfl)) (hw _ (List.mem_of_getElem? (i := 8) rfl)) (hw _ (List.mem_of_getElem? (i := 42) rfl)) (by decide) e46 E_b33 (rm6 l Z a0 hw [] b33 (w0_32 p5 mm kk fr tt rv 1) b34 (f4_aq fr tt (w0_12 p5 mm kk fr tt rv) (f2_np (w0_12 p5 mm kk fr tt rv)) (w0_32 p5 mm kk fr tt rv)) T38.heap F_b33_position A_b34 ((own_w0_32 p5 mm kk fr tt rv rmm rk rf rr) 1 (⟨by decide, by decide⟩ : inb (1 : Int32) 5).2)) (V := 0) (by decide) (by decide) (by decide) (by decide) (by rw [hml]; rfl) (argsL := [(.int (w0_32 p5 mm kk fr tt rv 1))]) (rest := []) rfl (lenOf pd__I_I rfl) rfl (Nat.le_of_ble_eq_true rfl) (hb hby at_328) ?_
      rintro T48 _ _ ⟨rfl, rfl, e48⟩ X48
      rw [List.append_nil] at X48
      show Go p e below W T48 (mkF m 331 #[.val (.int p1), .val (.int p2), .val (.int p3), .val (.int p4), .val (.int p5), .val (.int mm), .val (.int kk), .val (.ref b1), .val (.int fr), .val (.int tt), .val (.int rv), .val (.ref b16), .val (.ref b33), .val (.ref b35), .val (.ref b38), .val (.int (v0_45 p5 mm kk fr tt rv)), .unset] [(.int (f6 (w0_32 p5 mm kk fr tt rv 1) (f4_aq fr tt (w0_12 p5 mm kk fr tt rv) (f2_np (w0_12 p5 mm kk fr tt rv)) (w0_32 p5 mm kk fr tt rv))))])
      refine Go.of (fun _ k => XS.iconst X48.here hx rfl (hb hby at_331) k) ?_
      show Go p e below W T48 (mkF m 332 #[.val (.int p1), .val (.int p2), .val (.int p3), .val (.int p4), .val (.int p5), .val (.int mm), .val (.int kk), .val (.ref b1), .val (.int fr), .val (.int tt), .val (.int rv), .val (.ref b16), .val (.ref b33), .val (.ref b35), .val (.ref b38), .val (.int (v0_45 p5 mm kk fr tt rv)), .unset] [(.int (1 : Int32)), (.int (f6 (w0_32 p5 mm kk fr tt rv 1) (f4_aq fr tt (w0_12 p5 mm kk fr tt rv) (f2_np (w0_12 p5 mm kk fr tt rv)) (w0_32 p5 mm kk fr tt rv))))])
      by_cases c49 : (f6 (w0_32 p5 mm kk fr tt rv 1) (f4_aq fr tt (w0_12 p5 mm kk fr tt rv) (f2_np (w0_12 p5 mm kk fr tt rv)) (w0_32 p5 mm kk fr tt rv))) = (1 : Int32)
      · refine Go.of (fun _ k => XS.icmpNo X48.here hx rfl (hb hby at_332) rfl (Jvm.Free.XT.ii_ne_f c49) k) ?_
        show Go p e below W T48 (mkF m 335 #[.val (.int p1), .val (.int p2), .val (.int p3), .val (.int p4), .val (.int p5), .val (.int mm), .val (.int kk), .val (.ref b1), .val (.int fr), .val (.int tt), .val (.int rv), .val (.ref b16), .val (.ref b33), .val (.ref b35), .val (.ref b38), .val (.int (v0_45 p5 mm kk fr tt rv)), .unset] [])
        refine Go.of (fun _ k => XS.aload X48.here hx rfl (hb hby at_335) rfl rfl k) ?_
        show Go p e below W T48 (mkF m 337 #[.val (.int p1), .val (.int p2), .val (.int p3), .val (.int p4), .val (.int p5), .val (.int mm), .val (.int kk), .val (.ref b1), .val (.int fr), .val (.int tt), .val (.int rv), .val (.ref b16), .val (.ref b33), .val (.ref b35), .val (.ref b38), .val (.int (v0_45 p5 mm kk fr tt rv)), .unset] [(.ref b33)])
        refine Go.of (fun _ k => XS.aload X48.here hx rfl (hb hby at_337) rfl rfl k) ?_
        show Go p e below W T48 (mkF m 339 #[.val (.int p1), .val (.int p2), .val (.int p3), .val (.int p4), .val (.int p5), .val (.int mm), .val (.int kk), .val (.ref b1), .val (.int fr), .val (.int tt), .val (.int rv), .val (.ref b16), .val (.ref b33), .val (.ref b35), .val (.ref b38), .val (.int (v0_45 p5 mm kk fr tt rv)), .unset] [(.ref b16), (.ref b33)])
        refine Go.of (fun _ k => XS.iconst X48.here hx rfl (hb hby at_339) k) ?_
        show Go p e below W T48 (mkF m 340 #[.val (.int p1), .val (.int p2), .val (.int p3), .val (.int p4), .val (.int p5), .val (.int mm), .val (.int kk), .val (.ref b1), .val (.int fr), .val (.int tt), .val (.int rv), .val (.ref b16), .val (.ref b33), .val (.ref b35), .val (.ref b38), .val (.int (v0_45 p5 mm kk fr tt rv)), .unset] [(.int (2 : Int32)), (.ref b16), (.ref b33)])
        refine Go.iald X48 hx hZ e48 A_b16 ⟨by decide, by decide⟩ (hb hby at_340) ?_
        show Go p e below W T48 (mkF m 341 #[.val (.int p1), .val (.int p2), .val (.int p3), .val (.int p4), .val (.int p5), .val (.int mm), .val (.int kk), .val (.ref b1), .val (.int fr), .val (.int tt), .val (.int rv), .val (.ref b16), .val (.ref b33), .val (.ref b35), .val (.ref b38), .val (.int (v0_45 p5 mm kk fr tt rv)), .unset] [(.int (w0_32 p5 mm kk fr tt rv 2)), (.ref b33)])
        refine Go.callV X48 hx hZ hown (hw _ (List.mem_of_getElem? (i := 38) rfl)) (hw _ (List.mem_of_getElem? (i := 39) rfl)) (hw _ (List.mem_of_getElem? (i := 41) rfl)) (hw _ (List.mem_of_getElem? (i := 40) rfl)) (hw _ (List.mem_of_getElem? (i := 8) rfl)) (hw _ (List.mem_of_getElem? (i := 42) rfl)) (by decide) e48 E_b33 (rm6 l Z a0 hw [] b33 (w0_32 p5 mm kk fr tt rv 2) b34 (f4_aq fr tt (w0_12 p5 mm kk fr tt rv) (f2_np (w0_12 p5 mm kk fr tt rv)) (w0_32 p5 mm kk fr tt rv)) T38.heap F_b33_position A_b34 ((own_w0_32 p5 mm kk fr tt rv rmm rk rf rr) 2 (⟨by decide, by decide⟩ : inb (2 : Int32) 5).2)) (V := 0) (by decide) (by decide) (by decide) (by decide) (by rw [hml]; rfl) (argsL := [(.int (w0_32 p5 mm kk fr tt rv 2))]) (rest := []) rfl (lenOf pd__I_I rfl) rfl (Nat.le_of_ble_eq_true rfl) (hb hby at_341) ?_
        rintro T50 _ _ ⟨rfl, rfl, e50⟩ X50
        rw [List.append_nil] at X50
        show Go p e below W T50 (mkF m 344 #[.val (.int p1), .val (.int p2), .val (.int p3), .val (.int p4), .val (.int p5), .val (.int mm), .val (.int kk), .val (.ref b1), .val (.int fr), .val (.int tt), .val (.int rv), .val (.ref b16), .val (.ref b33), .val (.ref b35), .val (.ref b38), .val (.int (v0_45 p5 mm kk fr tt rv)), .unset] [(.int (f6 (w0_32 p5 mm kk fr tt rv 2) (f4_aq fr tt (w0_12 p5 mm kk fr tt rv) (f2_np (w0_12 p5 mm kk fr tt rv)) (w0_32 p5 mm kk fr tt rv))))])
        refine Go.of (fun _ k => XS.iconst X50.here hx rfl (hb hby at_344) k) ?_
        show Go p e below W T50 (mkF m 345 #[.val (.int p1), .val (.int p2), .val (.int p3), .val (.int p4), .val (.int p5), .val (.int mm), .val (.int kk), .val (.ref b1), .val (.int fr), .val (.int tt), .val (.int rv), .val (.ref b16), .val (.ref b33), .val (.ref b35), .val (.ref b38), .val (.int (v0_45 p5 mm kk fr tt rv)), .unset] [(.int (2 : Int32)), (.int (f6 (w0_32 p5 mm kk fr tt rv 2) (f4_aq fr tt (w0_12 p5 mm kk fr tt rv) (f2_np (w0_12 p5 mm kk fr tt rv)) (w0_32 p5 mm kk fr tt rv))))])
        by_cases c51 : (f6 (w0_32 p5 mm kk fr tt rv 2) (f4_aq fr tt (w0_12 p5 mm kk fr tt rv) (f2_np (w0_12 p5 mm kk fr tt rv)) (w0_32 p5 mm kk fr tt rv))) = (2 : Int32)
        · refine Go.of (fun _ k => XS.icmpNo X50.here hx rfl (hb hby at_345) rfl (Jvm.Free.XT.ii_ne_f c51) k) ?_
          show Go p e below W T50 (mkF m 348 #[.val (.int p1), .val (.int p2), .val (.int p3), .val (.int p4), .val (.int p5), .val (.int mm), .val (.int kk), .val (.ref b1), .val (.int fr), .val (.int tt), .val (.int rv), .val (.ref b16), .val (.ref b33), .val (.ref b35), .val (.ref b38), .val (.int (v0_45 p5 mm kk fr tt rv)), .unset] [])
          refine Go.of (fun _ k => XS.aload X50.here hx rfl (hb hby at_348) rfl rfl k) ?_
          show Go p e below W T50 (mkF m 350 #[.val (.int p1), .val (.int p2), .val (.int p3), .val (.int p4), .val (.int p5), .val (.int mm), .val (.int kk), .val (.ref b1), .val (.int fr), .val (.int tt), .val (.int rv), .val (.ref b16), .val (.ref b33), .val (.ref b35), .val (.ref b38), .val (.int (v0_45 p5 mm kk fr tt rv)), .unset] [(.ref b33)])
          refine Go.of (fun _ k => XS.aload X50.here hx rfl (hb hby at_350) rfl rfl k) ?_
          show Go p e below W T50 (mkF m 352 #[.val (.int p1), .val (.int p2), .val (.int p3), .val (.int p4), .val (.int p5), .val (.int mm), .val (.int kk), .val (.ref b1), .val (.int fr), .val (.int tt), .val (.int rv), .val (.ref b16), .val (.ref b33), .val (.ref b35), .val (.ref b38), .val (.int (v0_45 p5 mm kk fr tt rv)), .unset] [(.ref b16), (.ref b33)])
          refine Go.of (fun _ k => XS.iconst X50.here hx rfl (hb hby at_352) k) ?_
          show Go p e below W T50 (mkF m 353 #[.val (.int p1), .val (.int p2), .val (.int p3), .val (.int p4), .val (.int p5), .val (.int mm), .val (.int kk), .val (.ref b1), .val (.int fr), .val (.int tt), .val (.int rv), .val (.ref b16), .val (.ref b33), .val (.ref b35), .val (.ref b38), .val (.int (v0_45 p5 mm kk fr tt rv)), .unset] [(.int (3 : Int32)), (.ref b16), (.ref b33)])
          refine Go.iald X50 hx hZ e50 A_b16 ⟨by decide, by decide⟩ (hb hby at_353) ?_
          show Go p e below W T50 (mkF m 354 #[.val (.int p1), .val (.int p2), .val (.int p3), .val (.int p4), .val (.int p5), .val (.int mm), .val (.int kk), .val (.ref b1), .val (.int fr), .val (.int tt), .val (.int rv), .val (.ref b16), .val (.ref b33), .val (.ref b35), .val (.ref b38), .val (.int (v0_45 p5 mm kk fr tt rv)), .unset] [(.int (w0_32 p5 mm kk fr tt rv 3)), (.ref b33)])
          refine Go.callV X50 hx hZ hown (hw _ (List.mem_of_getElem? (i := 38) rfl)) (hw _ (List.mem_of_getElem? (i := 39) rfl)) (hw _ (List.mem_of_getElem? (i := 41) rfl)) (hw _ (List.mem_of_getElem? (i := 40) rfl)) (hw _ (List.mem_of_getElem? (i := 8) rfl)) (hw _ (List.mem_of_getElem? (i := 42) rfl)) (by decide) e50 E_b33 (rm6 l Z a0 hw [] b33 (w0_32 p5 mm kk fr tt rv 3) b34 (f4_aq fr tt (w0_12 p5 mm kk fr tt rv) (f2_np (w0_12 p5 mm kk fr tt rv)) (w0_32 p5 mm kk fr tt rv)) T38.heap F_b33_position A_b34 ((own_w0_32 p5 mm kk fr tt rv rmm rk rf rr) 3 (⟨by decide, by decide⟩ : inb (3 : Int32) 5).2)) (V := 0) (by decide) (by decide) (by decide) (by decide) (by rw [hml]; rfl) (argsL := [(.int (w0_32 p5 mm kk fr tt rv 3))]) (rest := []) rfl (lenOf pd__I_I rfl) rfl (Nat.le_of_ble_eq_true rfl) (hb hby at_354) ?_
          rintro T52 _ _ ⟨rfl, rfl, e52⟩ X52
          rw [List.append_nil] at X52
          show Go p e below W T52 (mkF m 357 #[.val (.int p1), .val (.int p2), .val (.int p3), .val (.int p4), .val (.int p5), .val (.int mm), .val (.int kk), .val (.ref b1), .val (.int fr), .val (.int tt), .val (.int rv), .val (.ref b16), .val (.ref b33), .val (.ref b35), .val (.ref b38), .val (.int (v0_45 p5 mm kk fr tt rv)), .unset] [(.int (f6 (w0_32 p5 mm kk fr tt rv 3) (f4_aq fr tt (w0_12 p5 mm kk fr tt rv) (f2_np (w0_12 p5 mm kk fr tt rv)) (w0_32 p5 mm kk fr tt rv))))])
          refine Go.of (fun _ k => XS.iconst X52.here hx rfl (hb hby at_357) k) ?_
          show Go p e below W T52 (mkF m 358 #[.val (.int p1), .val (.int p2), .val (.int p3), .val (.int p4), .val (.int p5), .val (.int mm), .val (.int kk), .val (.ref b1), .val (.int fr), .val (.int tt), .val (.int rv), .val (.ref b16), .val (.ref b33), .val (.ref b35), .val (.ref b38), .val (.int (v0_45 p5 mm kk fr tt rv)), .unset] [(.int (3 : Int32)), (.int (f6 (w0_32 p5 mm kk fr tt rv 3) (f4_aq fr tt (w0_12 p5 mm kk fr tt rv) (f2_np (w0_12 p5 mm kk fr tt rv)) (w0_32 p5 mm kk fr tt rv))))])
          by_cases c53 : (f6 (w0_32 p5 mm kk fr tt rv 3) (f4_aq fr tt (w0_12 p5 mm kk fr tt rv) (f2_np (w0_12 p5 mm kk fr tt rv)) (w0_32 p5 mm kk fr tt rv))) = (3 : Int32)
          · refine Go.of (fun _ k => XS.icmpNo X52.here hx rfl (hb hby at_358) rfl (Jvm.Free.XT.ii_ne_f c53) k) ?_
            show Go p e below W T52 (mkF m 361 #[.val (.int p1), .val (.int p2), .val (.int p3), .val (.int p4), .val (.int p5), .val (.int mm), .val (.int kk), .val (.ref b1), .val (.int fr), .val (.int tt), .val (.int rv), .val (.ref b16), .val (.ref b33), .val (.ref b35), .val (.ref b38), .val (.int (v0_45 p5 mm kk fr tt rv)), .unset] [])
            refine Go.of (fun _ k => XS.aload X52.here hx rfl (hb hby at_361) rfl rfl k) ?_
            show Go p e below W T52 (mkF m 363 #[.val (.int p1), .val (.int p2), .val (.int p3), .val (.int p4), .val (.int p5), .val (.int mm), .val (.int kk), .val (.ref b1), .val (.int fr), .val (.int tt), .val (.int rv), .val (.ref b16), .val (.ref b33), .val (.ref b35), .val (.ref b38), .val (.int (v0_45 p5 mm kk fr tt rv)), .unset] [(.ref b33)])
            refine Go.of (fun _ k => XS.aload X52.here hx rfl (hb hby at_363) rfl rfl k) ?_
            show Go p e below W T52 (mkF m 365 #[.val (.int p1), .val (.int p2), .val (.int p3), .val (.int p4), .val (.int p5), .val (.int mm), .val (.int kk), .val (.ref b1), .val (.int fr), .val (.int tt), .val (.int rv), .val (.ref b16), .val (.ref b33), .val (.ref b35), .val (.ref b38), .val (.int (v0_45 p5 mm kk fr tt rv)), .unset] [(.ref b16), (.ref b33)])
            refine Go.of (fun _ k => XS.iconst X52.here hx rfl (hb hby at_365) k) ?_
            show Go p e below W T52 (mkF m 366 #[.val (.int p1), .val (.int p2), .val (.int p3), .val (.int p4), .val (.int p5), .val (.int mm), .val (.int kk), .val (.ref b1), .val (.int fr), .val (.int tt), .val (.int rv), .val (.ref b16), .val (.ref b33), .val (.ref b35), .val (.ref b38), .val (.int (v0_45 p5 mm kk fr tt rv)), .unset] [(.int (4 : Int32)), (.ref b16), (.ref b33)])
            refine Go.iald X52 hx hZ e52 A_b16 ⟨by decide, by decide⟩ (hb hby at_366) ?_
            show Go p e below W T52 (mkF m 367 #[.val (.int p1), .val (.int p2), .val (.int p3), .val (.int p4), .val (.int p5), .val (.int mm), .val (.int kk), .val (.ref b1), .val (.int fr), .val (.int tt), .val (.int rv), .val (.ref b16), .val (.ref b33), .val (.ref b35), .val (.ref b38), .val (.int (v0_45 p5 mm kk fr tt rv)), .unset] [(.int (w0_32 p5 mm kk fr tt rv 4)), (.ref b33)])
            refine Go.callV X52 hx hZ hown (hw _ (List.mem_of_getElem? (i := 38) rfl)) (hw _ (List.mem_of_getElem? (i := 39) rfl)) (hw _ (List.mem_of_getElem? (i := 41) rfl)) (hw _ (List.mem_of_getElem? (i := 40) rfl)) (hw _ (List.mem_of_getElem? (i := 8) rfl)) (hw _ (List.mem_of_getElem? (i := 42) rfl)) (by decide) e52 E_b33 (rm6 l Z a0 hw [] b33 (w0_32 p5 mm kk fr tt rv 4) b34 (f4_aq fr tt (w0_12 p5 mm kk fr tt rv) (f2_np (w0_12 p5 mm kk fr tt rv)) (w0_32 p5 mm kk fr tt rv)) T38.heap F_b33_position A_b34 ((own_w0_32 p5 mm kk fr tt rv rmm rk rf rr) 4 (⟨by decide, by decide⟩ : inb (4 : Int32) 5).2)) (V := 0) (by decide) (by decide) (by decide) (by decide) (by rw [hml]; rfl) (argsL := [(.int (w0_32 p5 mm kk fr tt rv 4))]) (rest := []) rfl (lenOf pd__I_I rfl) rfl (Nat.le_of_ble_eq_true rfl) (hb hby at_367) ?_
            rintro T54 _ _ ⟨rfl, rfl, e54⟩ X54
            rw [List.append_nil] at X54
            show Go p e below W T54 (mkF m 370 #[.val (.int p1), .val (.int p2), .val (.int p3), .val (.int p4), .val (.int p5), .val (.int mm), .val (.int kk), .val (.ref b1), .val (.int fr), .val (.int tt), .val (.int rv), .val (.ref b16), .val (.ref b33), .val (.ref b35), .val (.ref b38), .val (.int (v0_45 p5 mm kk fr tt rv)), .unset] [(.int (f6 (w0_32 p5 mm kk fr tt rv 4) (f4_aq fr tt (w0_12 p5 mm kk fr tt rv) (f2_np (w0_12 p5 mm kk fr tt rv)) (w0_32 p5 mm kk fr tt rv))))])
            refine Go.of (fun _ k => XS.iconst X54.here hx rfl (hb hby at_370) k) ?_
            show Go p e below W T54 (mkF m 371 #[.val (.int p1), .val (.int p2), .val (.int p3), .val (.int p4), .val (.int p5), .val (.int mm), .val (.int kk), .val (.ref b1), .val (.int fr), .val (.int tt), .val (.int rv), .val (.ref b16), .val (.ref b33), .val (.ref b35), .val (.ref b38), .val (.int (v0_45 p5 mm kk fr tt rv)), .unset] [(.int (4 : Int32)), (.int (f6 (w0_32 p5 mm kk fr tt rv 4) (f4_aq fr tt (w0_12 p5 mm kk fr tt rv) (f2_np (w0_12 p5 mm kk fr tt rv)) (w0_32 p5 mm kk fr tt rv))))])
            by_cases c55 : (f6 (w0_32 p5 mm kk fr tt rv 4) (f4_aq fr tt (w0_12 p5 mm kk fr tt rv) (f2_np (w0_12 p5 mm kk fr tt rv)) (w0_32 p5 mm kk fr tt rv))) = (4 : Int32)
            · refine Go.of (fun _ k => XS.icmpNo X54.here hx rfl (hb hby at_371) rfl (Jvm.Free.XT.ii_ne_f c55) k) ?_
              show Go p e below W T54 (mkF m 374 #[.val (.int p1), .val (.int p2), .val (.int p3), .val (.int p4), .val (.int p5), .val (.int mm), .val (.int kk), .val (.ref b1), .val (.int fr), .val (.int tt), .val (.int rv), .val (.ref b16), .val (.ref b33), .val (.ref b35), .val (.ref b38), .val (.int (v0_45 p5 mm kk fr tt rv)), .unset] [])
              refine Go.of (fun _ k => XS.iconst X54.here hx rfl (hb hby at_374) k) ?_
              show Go p e below W T54 (mkF m 375 #[.val (.int p1), .val (.int p2), .val (.int p3), .val (.int p4), .val (.int p5), .val (.int mm), .val (.int kk), .val (.ref b1), .val (.int fr), .val (.int tt), .val (.int rv), .val (.ref b16), .val (.ref b33), .val (.ref b35), .val (.ref b38), .val (.int (v0_45 p5 mm kk fr tt rv)), .unset] [(.int (1 : Int32))])
              refine Go.of (fun _ k => XS.goto X54.here hx rfl (pc0 := 375) (pc' := 379) rfl (hb hby at_375) (by decide) (by decide) k) ?_
              have G56 := G56
              have q_v0_57 : (v0_57 p5 mm kk fr tt rv) = (1 : Int32) := by rw [v0_57, if_pos c47, if_pos c49, if_pos c51, if_pos c53, if_pos c55]
              rw [q_v0_57] at G56
              exact G56 _ X54 e54
            · refine Go.of (fun _ k => XS.icmpYes X54.here hx rfl (pc0 := 371) (pc' := 378) rfl (hb hby at_371) rfl (Jvm.Free.XT.ii_ne_t c55) (by decide) (by decide) k) ?_
              show Go p e below W T54 (mkF m 378 #[.val (.int p1), .val (.int p2), .val (.int p3), .val (.int p4), .val (.int p5), .val (.int mm), .val (.int kk), .val (.ref b1), .val (.int fr), .val (.int tt), .val (.int rv), .val (.ref b16), .val (.ref b33), .val (.ref b35), .val (.ref b38), .val (.int (v0_45 p5 mm kk fr tt rv)), .unset] [])
              refine Go.of (fun _ k => XS.iconst X54.here hx rfl (hb hby at_378) k) ?_
              have G56 := G56
              have q_v0_57 : (v0_57 p5 mm kk fr tt rv) = (0 : Int32) := by rw [v0_57, if_pos c47, if_pos c49, if_pos c51, if_pos c53, if_neg c55]
              rw [q_v0_57] at G56
              exact G56 _ X54 e54
          · refine Go.of (fun _ k => XS.icmpYes X52.here hx rfl (pc0 := 358) (pc' := 378) rfl (hb hby at_358) rfl (Jvm.Free.XT.ii_ne_t c53) (by decide) (by decide) k) ?_
            show Go p e below W T52 (mkF m 378 #[.val (.int p1), .val (.int p2), .val (.int p3), .val (.int p4), .val (.int p5), .val (.int mm), .val (.int kk), .val (.ref b1), .val (.int fr), .val (.int tt), .val (.int rv), .val (.ref b16), .val (.ref b33), .val (.ref b35), .val (.ref b38), .val (.int (v0_45 p5 mm kk fr tt rv)), .unset] [])
            refine Go.of (fun _ k => XS.iconst X52.here hx rfl (hb hby at_378) k) ?_
            have G56 := G56
            have q_v0_57 : (v0_57 p5 mm kk fr tt rv) = (0 : Int32) := by rw [v0_57, if_pos c47, if_pos c49, if_pos c51, if_neg c53]
            rw [q_v0_57] at G56
            exact G56 _ X52 e52
        · refine Go.of (fun _ k => XS.icmpYes X50.here hx rfl (pc0 := 345) (pc' := 378) rfl (hb hby at_345) rfl (Jvm.Free.XT.ii_ne_t c51) (by decide) (by decide) k) ?_
          show Go p e below W T50 (mkF m 378 #[.val (.int p1), .val (.int p2), .val (.int p3), .val (.int p4), .val (.int p5), .val (.int mm), .val (.int kk), .val (.ref b1), .val (.int fr), .val (.int tt), .val (.int rv), .val (.ref b16), .val (.ref b33), .val (.ref b35), .val (.ref b38), .val (.int (v0_45 p5 mm kk fr tt rv)), .unset] [])
          refine Go.of (fun _ k => XS.iconst X50.here hx rfl (hb hby at_378) k) ?_
          have G56 := G56
          have q_v0_57 : (v0_57 p5 mm kk fr tt rv) = (0 : Int32) := by rw [v0_57, if_pos c47, if_pos c49, if_neg c51]
          rw [q_v0_57] at G56
          exact G56 _ X50 e50
      · refine Go.of (fun _ k => XS.icmpYes X48.here hx rfl (pc0 := 332) (pc' := 378) rfl (hb hby at_332) rfl (Jvm.Free.XT.ii_ne_t c49) (by decide) (by decide) k) ?_
        show Go p e below W T48 (mkF m 378 #[.val (.int p1), .val (.int p2), .val (.int p3), .val (.int p4), .val (.int p5), .val (.int mm), .val (.int kk), .val (.ref b1), .val (.int fr), .val (.int tt), .val (.int rv), .val (.ref b16), .val (.ref b33), .val (.ref b35), .val (.ref b38), .val (.int (v0_45 p5 mm kk fr tt rv)), .unset] [])
        refine Go.of (fun _ k => XS.iconst X48.here hx rfl (hb hby at_378) k) ?_
        have G56 := G56
        have q_v0_57 : (v0_57 p5 mm kk fr tt rv) = (0 : Int32) := by rw [v0_57, if_pos c47, if_neg c49]
        rw [q_v0_57] at G56
        exact G56 _ X48 e48
    · refine Go.of (fun _ k => XS.ifYes X46.here hx rfl (pc0 := 319) (pc' := 378) rfl (hb hby at_319) rfl (Jvm.Free.XT.i0_ne_t c47) (by decide) (by decide) k) ?_
      show Go p e below W T46 (mkF m 378 #[.val (.int p1), .val (.int p2), .val (.int p3), .val (.int p4), .val (.int p5), .val (.int mm), .val (.int kk), .val (.ref b1), .val (.int fr), .val (.int tt), .val (.int rv), .val (.ref b16), .val (.ref b33), .val (.ref b35), .val (.ref b38), .val (.int (v0_45 p5 mm kk fr tt rv)), .unset] [])
      refine Go.of (fun _ k => XS.iconst X46.here hx rfl (hb hby at_378) k) ?_
      have G56 := G56
      have q_v0_57 : (v0_57 p5 mm kk fr tt rv) = (0 : Int32) := by rw [v0_57, if_neg c47]
      rw [q_v0_57] at G56
      exact G56 _ X46 e46
  intro T56 X56 e56
  show Go p e below W T56 (mkF m 379 #[.val (.int p1), .val (.int p2), .val (.int p3), .val (.int p4), .val (.int p5), .val (.int mm), .val (.int kk), .val (.ref b1), .val (.int fr), .val (.int tt), .val (.int rv), .val (.ref b16), .val (.ref b33), .val (.ref b35), .val (.ref b38), .val (.int (v0_45 p5 mm kk fr tt rv)), .unset] [(.int (v0_57 p5 mm kk fr tt rv))])
  refine Go.of (fun _ k => XS.istore X56.here hx rfl (hb hby at_379) rfl (l' := #[.val (.int p1), .val (.int p2), .val (.int p3), .val (.int p4), .val (.int p5), .val (.int mm), .val (.int kk), .val (.ref b1), .val (.int fr), .val (.int tt), .val (.int rv), .val (.ref b16), .val (.ref b33), .val (.ref b35), .val (.ref b38), .val (.int (v0_45 p5 mm kk fr tt rv)), .val (.int (v0_57 p5 mm kk fr tt rv))]) rfl k) ?_
  show Go p e below W T56 (mkF m 381 #[.val (.int p1), .val (.int p2), .val (.int p3), .val (.int p4), .val (.int p5), .val (.int mm), .val (.int kk), .val (.ref b1), .val (.int fr), .val (.int tt), .val (.int rv), .val (.ref b16), .val (.ref b33), .val (.ref b35), .val (.ref b38), .val (.int (v0_45 p5 mm kk fr tt rv)), .val (.int (v0_57 p5 mm kk fr tt rv))] [])
  refine Go.of (fun _ k => XS.iload X56.here hx rfl (hb hby at_381) rfl k) ?_
  show Go p e below W T56 (mkF m 383 #[.val (.int p1), .val (.int p2), .val (.int p3), .val (.int p4), .val (.int p5), .val (.int mm), .val (.int kk), .val (.ref b1), .val (.int fr), .val (.int tt), .val (.int rv), .val (.ref b16), .val (.ref b33), .val (.ref b35), .val (.ref b38), .val (.int (v0_45 p5 mm kk fr tt rv)), .val (.int (v0_57 p5 mm kk fr tt rv))] [(.int (v0_45 p5 mm kk fr tt rv))])
  by_cases c58 : (v0_45 p5 mm kk fr tt rv) = (0 : Int32)
  · refine Go.of (fun _ k => XS.ifYes X56.here hx rfl (pc0 := 383) (pc' := 395) rfl (hb hby at_383) rfl (Jvm.Free.XT.i0_eq_t c58) (by decide) (by decide) k) ?_
    show Go p e below W T56 (mkF m 395 #[.val (.int p1), .val (.int p2), .val (.int p3), .val (.int p4), .val (.int p5), .val (.int mm), .val (.int kk), .val (.ref b1), .val (.int fr), .val (.int tt), .val (.int rv), .val (.ref b16), .val (.ref b33), .val (.ref b35), .val (.ref b38), .val (.int (v0_45 p5 mm kk fr tt rv)), .val (.int (v0_57 p5 mm kk fr tt rv))] [])
    refine Go.of (fun _ k => XS.iconst X56.here hx rfl (hb hby at_395) k) ?_
    show Go p e below W T56 (mkF m 396 #[.val (.int p1), .val (.int p2), .val (.int p3), .val (.int p4), .val (.int p5), .val (.int mm), .val (.int kk), .val (.ref b1), .val (.int fr), .val (.int tt), .val (.int rv), .val (.ref b16), .val (.ref b33), .val (.ref b35), .val (.ref b38), .val (.int (v0_45 p5 mm kk fr tt rv)), .val (.int (v0_57 p5 mm kk fr tt rv))] [(.int (0 : Int32))])
    have u_f0 : (f0 p5 mm kk fr tt rv) = (0 : Int32) := by rw [f0, if_pos c58]
    have fin : Q0 Z p1 p2 p3 p4 p5 mm kk fr tt rv h0 n0 (some (.int (f0 p5 mm kk fr tt rv))) T38.heap L38 := ⟨rfl, N, K⟩
    exact Go.retN X56 hx hret (Or.inl rfl) (hb hby at_396) hlk (Eq.trans rfl u_f0.symm) (fun t ht fe => hW t _ _ _ _ (by rw [ht, e56]; exact fin) fe (by decide) (by decide))
  · refine Go.of (fun _ k => XS.ifNo X56.here hx rfl (hb hby at_383) rfl (Jvm.Free.XT.i0_eq_f c58) k) ?_
    show Go p e below W T56 (mkF m 386 #[.val (.int p1), .val (.int p2), .val (.int p3), .val (.int p4), .val (.int p5), .val (.int mm), .val (.int kk), .val (.ref b1), .val (.int fr), .val (.int tt), .val (.int rv), .val (.ref b16), .val (.ref b33), .val (.ref b35), .val (.ref b38), .val (.int (v0_45 p5 mm kk fr tt rv)), .val (.int (v0_57 p5 mm kk fr tt rv))] [])
    refine Go.of (fun _ k => XS.iload X56.here hx rfl (hb hby at_386) rfl k) ?_
    show Go p e below W T56 (mkF m 388 #[.val (.int p1), .val (.int p2), .val (.int p3), .val (.int p4), .val (.int p5), .val (.int mm), .val (.int kk), .val (.ref b1), .val (.int fr), .val (.int tt), .val (.int rv), .val (.ref b16), .val (.ref b33), .val (.ref b35), .val (.ref b38), .val (.int (v0_45 p5 mm kk fr tt rv)), .val (.int (v0_57 p5 mm kk fr tt rv))] [(.int (v0_57 p5 mm kk fr tt rv))])
    by_cases c59 : (v0_57 p5 mm kk fr tt rv) = (0 : Int32)
    · refine Go.of (fun _ k => XS.ifYes X56.here hx rfl (pc0 := 388) (pc' := 395) rfl (hb hby at_388) rfl (Jvm.Free.XT.i0_eq_t c59) (by decide) (by decide) k) ?_
      show Go p e below W T56 (mkF m 395 #[.val (.int p1), .val (.int p2), .val (.int p3), .val (.int p4), .val (.int p5), .val (.int mm), .val (.int kk), .val (.ref b1), .val (.int fr), .val (.int tt), .val (.int rv), .val (.ref b16), .val (.ref b33), .val (.ref b35), .val (.ref b38), .val (.int (v0_45 p5 mm kk fr tt rv)), .val (.int (v0_57 p5 mm kk fr tt rv))] [])
      refine Go.of (fun _ k => XS.iconst X56.here hx rfl (hb hby at_395) k) ?_
      show Go p e below W T56 (mkF m 396 #[.val (.int p1), .val (.int p2), .val (.int p3), .val (.int p4), .val (.int p5), .val (.int mm), .val (.int kk), .val (.ref b1), .val (.int fr), .val (.int tt), .val (.int rv), .val (.ref b16), .val (.ref b33), .val (.ref b35), .val (.ref b38), .val (.int (v0_45 p5 mm kk fr tt rv)), .val (.int (v0_57 p5 mm kk fr tt rv))] [(.int (0 : Int32))])
      have u_f0 : (f0 p5 mm kk fr tt rv) = (0 : Int32) := by rw [f0, if_neg c58, if_pos c59]
      have fin : Q0 Z p1 p2 p3 p4 p5 mm kk fr tt rv h0 n0 (some (.int (f0 p5 mm kk fr tt rv))) T38.heap L38 := ⟨rfl, N, K⟩
      exact Go.retN X56 hx hret (Or.inl rfl) (hb hby at_396) hlk (Eq.trans rfl u_f0.symm) (fun t ht fe => hW t _ _ _ _ (by rw [ht, e56]; exact fin) fe (by decide) (by decide))
    · refine Go.of (fun _ k => XS.ifNo X56.here hx rfl (hb hby at_388) rfl (Jvm.Free.XT.i0_eq_f c59) k) ?_
      show Go p e below W T56 (mkF m 391 #[.val (.int p1), .val (.int p2), .val (.int p3), .val (.int p4), .val (.int p5), .val (.int mm), .val (.int kk), .val (.ref b1), .val (.int fr), .val (.int tt), .val (.int rv), .val (.ref b16), .val (.ref b33), .val (.ref b35), .val (.ref b38), .val (.int (v0_45 p5 mm kk fr tt rv)), .val (.int (v0_57 p5 mm kk fr tt rv))] [])
      refine Go.of (fun _ k => XS.iconst X56.here hx rfl (hb hby at_391) k) ?_
      show Go p e below W T56 (mkF m 392 #[.val (.int p1), .val (.int p2), .val (.int p3), .val (.int p4), .val (.int p5), .val (.int mm), .val (.int kk), .val (.ref b1), .val (.int fr), .val (.int tt), .val (.int rv), .val (.ref b16), .val (.ref b33), .val (.ref b35), .val (.ref b38), .val (.int (v0_45 p5 mm kk fr tt rv)), .val (.int (v0_57 p5 mm kk fr tt rv))] [(.int (1 : Int32))])
      refine Go.of (fun _ k => XS.goto X56.here hx rfl (pc0 := 392) (pc' := 396) rfl (hb hby at_392) (by decide) (by decide) k) ?_
      show Go p e below W T56 (mkF m 396 #[.val (.int p1), .val (.int p2), .val (.int p3), .val (.int p4), .val (.int p5), .val (.int mm), .val (.int kk), .val (.ref b1), .val (.int fr), .val (.int tt), .val (.int rv), .val (.ref b16), .val (.ref b33), .val (.ref b35), .val (.ref b38), .val (.int (v0_45 p5 mm kk fr tt rv)), .val (.int (v0_57 p5 mm kk fr tt rv))] [(.int (1 : Int32))])
      have u_f0 : (f0 p5 mm kk fr tt rv) = (1 : Int32) := by rw [f0, if_neg c58, if_neg c59]
      have fin : Q0 Z p1 p2 p3 p4 p5 mm kk fr tt rv h0 n0 (some (.int (f0 p5 mm kk fr tt rv))) T38.heap L38 := ⟨rfl, N, K⟩
      exact Go.retN X56 hx hret (Or.inl rfl) (hb hby at_396) hlk (Eq.trans rfl u_f0.symm) (fun t ht fe => hW t _ _ _ _ (by rw [ht, e56]; exact fin) fe (by decide) (by decide))
set_option maxRecDepth 65536 in
set_option maxHeartbeats 40000000 in
theorem comes_1 {Post : Tables → Env → Array Value → State → Outcome → State → Prop} (hpost : ∀ tb e args s v u, (limb_1_1.after args s (.returned v) u = true ∧ limb_1_2.after args s (.returned v) u = true ∧ True) → FrameEnd s (.returned v) u (Jvm.fieldLocs frame_1_writes args s ++ Jvm.arrayLocs frame_1_arrays args s ++ Jvm.staticLocs frame_1_statics s) 24 128 → Post tb e args s (.returned v) u) :
    ArmFor flags0 classFile x code maxLocals ret World_1 tables_1 room_1 Calls_1 rest_1 Pre_1 Post := by
  intro l hfl _ _ p e ha hc hk s m args below hf hA hF happ hP
  obtain ⟨hcalls, hrest, hpre⟩ := hP
  obtain ⟨-, -, -, hnamed, -, -, -, hat⟩ := (Spec.applies_iff hf).mp happ
  obtain ⟨hg, hn⟩ := and_e (Cond.before_iff.mp (show (Jvm.Cond.and given_1 narrow_1).before args s = true from hpre))
  obtain ⟨g0, y0⟩ := and_e hg
  obtain ⟨x0, y1⟩ := and_e y0
  obtain ⟨x1, y2⟩ := and_e y1
  obtain ⟨x2, y3⟩ := and_e y2
  obtain ⟨x3, y4⟩ := and_e y3
  obtain ⟨w0, w1, w2, w3, w4, rfl⟩ : ∃ w0 w1 w2 w3 w4 : Value, args = #[w0, w1, w2, w3, w4] := by
    have hs : args.size = 5 := by simpa [Cond.value, given_1] using g0
    obtain ⟨L⟩ := args
    match L, hs with
    | [w0, w1, w2, w3, w4], _ => exact ⟨w0, w1, w2, w3, w4, rfl⟩
  have hw := fun d (hd : d ∈ tables_1) => atoms_spec (ws := Jvm.Cond.code x code maxLocals ret :: tables_1) hat d (List.mem_cons_of_mem _ hd)
  obtain ⟨i0, ei0⟩ := is_v x0
  obtain rfl : w0 = (.int i0) := Option.some.inj ei0
  obtain ⟨i1, ei1⟩ := is_v x1
  obtain rfl : w1 = (.int i1) := Option.some.inj ei1
  obtain ⟨i2, ei2⟩ := is_v x2
  obtain rfl : w2 = (.int i2) := Option.some.inj ei2
  obtain ⟨i3, ei3⟩ := is_v x3
  obtain rfl : w3 = (.int i3) := Option.some.inj ei3
  obtain ⟨i4, ei4⟩ := is_v y4
  obtain rfl : w4 = (.int i4) := Option.some.inj ei4
  obtain ⟨n, o, h1, h2, h3, _, L, rfl, ⟨rfl, N, -⟩, hq⟩ := rm0 l s _ hw tables_1 i0 i1 i2 i3 i4 (own_M i0) (own_K i1) (own_F i2) (own_T i2 i3) (own_R i4) s.heap s.heap.size (Nat.le_refl _) rfl rfl rfl rfl rfl (own_mr i0) (own_kr i1) (own_fr i2 i3) (own_rr i4) p e ha hc hk s m _ below hf ((Spec.applies_iff_loose hf).mp happ).1 ⟨rfl, State.Warmed39.refl s, rfl⟩ trivial
  rw [own_law _ _ _ _ _ _ (own_mr i0) (own_kr i1) (own_fr i2 i3) (own_rr i4)] at h3 hq
  refine ⟨n, _, h1, h2, h3, hpost _ _ _ _ _ _ ⟨Cond.after_iff.mpr rfl, Cond.after_iff.mpr (eq_i res_at (Term.int_eval (1)) rfl), trivial⟩ ⟨hq.1, hq.2.1, (hq.2.2.sift fun y hy => Or.inr (N y hy)).mono (by decide) (by decide)⟩⟩
theorem main_1_1 : Claimed_1_1 := comes_1 fun _ _ _ _ _ _ h hF => ⟨h.1, hF⟩
theorem main_1_2 : Claimed_1_2 := comes_1 fun _ _ _ _ _ _ h hF => ⟨h.2.1, hF⟩
end Jvm.Pilot.@@N@@
namespace Jvm.Pilot.@@N@@
open Jvm Jvm.ClassFile Sem Op Lib Jvm.Free Jvm.Stand Jvm.Pilot.@@N@@.Jvm.D
/-! MADE BY PROGRAM (witnessworld.py) out of the Statement's table words and the real class files: 9 classes; the members and pool entries that the words name. The judged class is class 1, her method 2. -/
namespace start1
open Jvm.ClassFile
def u (s : String) : CpInfo := .utf8 (stringToUtf16 s)
/-- a pool by its gaps: so many unusable entries, then the entry; so many at the end -/
def gap : Nat → List CpInfo → List CpInfo
  | 0, r => r
  | n + 1, r => .unusable :: gap n r
def poolList (es : List (Nat × CpInfo)) (last : Nat) : List CpInfo := es.foldr (fun e r => gap e.1 (e.2 :: r)) (gap last [])
def pool (es : List (Nat × CpInfo)) (last : Nat) : Array CpInfo := ⟨poolList es last⟩
def fileOf (pool : Array CpInfo) (this : Nat) (attrs : Array Attribute := #[]) (ms : Array MethodInfo := #[]) (fl : Nat := 33) (sup : Nat := 0) (ifs : Array Nat := #[]) (fds : Array FieldInfo := #[]) : ClassFile where
  minorVersion := 0
  majorVersion := 65
  constantPool := pool
  accessFlags := fl
  thisClass := this
  superClass := sup
  interfaces := ifs
  fields := fds
  methods := ms
  attributes := attrs
def plain (name : String) (sup : Option ClassId) : Class where
  name := name
  kind := .ordinary
  loader := none
  accessFlags := 33
  super := sup
  interfaces := #[]
  cf := none
  fields := #[]
  methods := #[]
  instanceTypes := #[]
  staticTypes := #[]
  resolved := #[]
  callSites := []
  init := .initialized
  statics := none
  mirror := none

def pool0 : Array CpInfo := pool [(5, u "<init>"), (0, u "()V"), (1, .class_ 10), (1, u "java/lang/Object"), (85, u "clone"), (0, u "()Ljava/lang/Object;")] 26

def k0c0 : Code := { maxStack := 0, maxLocals := 1, code := object_method_1_code, exceptionTable := #[], attributes := #[] }
def k0m0 : Method := { name := "<init>", desc := "()V", sig := { parameters := [], returnType := none }, accessFlags := 1, code := some k0c0 }
def k0m1 : Method := { name := "clone", desc := "()Ljava/lang/Object;", sig := { parameters := [], returnType := some (.object "java/lang/Object") }, accessFlags := 260, code := none }
/-- java/lang/Object -/
def k0 : Class := { plain "java/lang/Object" none with
  accessFlags := 33
  interfaces := #[]
  cf := some (fileOf pool0 8 #[] #[{ accessFlags := 1, nameIndex := 5, descriptorIndex := 6, attributes := #[] }, { accessFlags := 260, nameIndex := 96, descriptorIndex := 97, attributes := #[] }] 33 0 #[] #[])
  fields := #[]
  methods := #[k0m0, k0m1]
  instanceTypes := #[]
  staticTypes := #[]
  resolved := Array.replicate 124 none
  statics := none }

def pool1 : Array CpInfo := pool [(2, .class_ 4), (1, u "java/lang/Object"), (0, u "<init>"), (0, u "()V"), (0, .integer 2147483647), (0, .methodref 9 10), (0, .class_ 11), (0, .nameAndType 12 13), (0, u "com/example/pilfer/pilfer/TourCopyFromPinLaw"), (0, u "pick"), (0, u "([IIIIZ)I"), (0, .class_ 15), (0, u "com/example/pilfer/pilfer/Tour"), (0, .methodref 14 17), (0, .nameAndType 5 18), (0, u "([I)V"), (0, .methodref 14 20), (0, .nameAndType 21 22), (0, u "copyFrom"), (0, u "(Lcom/example/pilfer/pilfer/Tour;II)V"), (0, .methodref 14 24), (0, .nameAndType 25 26), (0, u "toArray"), (0, u "()[I"), (0, .methodref 14 28), (0, .nameAndType 29 30), (0, u "position"), (0, u "(I)I"), (5, u "law"), (0, u "(IIIII)Z")] 2

def k1m0 : Method := { name := "<init>", desc := "()V", sig := { parameters := [], returnType := none }, accessFlags := 1, code := none }
def k1c1 : Code := { maxStack := 3, maxLocals := 5, code := method_2_code, exceptionTable := #[], attributes := #[] }
def k1m1 : Method := { name := "pick", desc := "([IIIIZ)I", sig := { parameters := [(.array .int), .int, .int, .int, .boolean], returnType := some .int }, accessFlags := 10, code := some k1c1 }
def k1c2 : Code := { maxStack := 7, maxLocals := 17, code := code, exceptionTable := #[], attributes := #[] }
def k1m2 : Method := { name := "law", desc := "(IIIII)Z", sig := { parameters := [.int, .int, .int, .int, .int], returnType := some .boolean }, accessFlags := 9, code := some k1c2 }
/-- com/example/pilfer/pilfer/TourCopyFromPinLaw -/
def k1 : Class := { plain "com/example/pilfer/pilfer/TourCopyFromPinLaw" (some 0) with
  accessFlags := 49
  interfaces := #[]
  cf := some (fileOf pool1 9 #[] #[{ accessFlags := 1, nameIndex := 5, descriptorIndex := 6, attributes := #[] }, { accessFlags := 10, nameIndex := 12, descriptorIndex := 13, attributes := #[] }, { accessFlags := 9, nameIndex := 36, descriptorIndex := 37, attributes := #[] }] 49 2 #[] #[])
  fields := #[]
  methods := #[k1m0, k1m1, k1m2]
  instanceTypes := #[]
  staticTypes := #[]
  resolved := Array.replicate 40 none
  statics := none }

def pool2 : Array CpInfo := pool [(1, .methodref 2 3), (0, .class_ 4), (0, .nameAndType 5 6), (0, u "java/lang/Object"), (0, u "<init>"), (0, u "()V"), (0, .fieldref 8 9), (0, .class_ 10), (0, .nameAndType 11 12), (0, u "com/example/pilfer/pilfer/Tour"), (0, u "order"), (0, u "[I"), (0, .fieldref 8 14), (0, .nameAndType 15 12), (0, u "position"), (2, u "([I)V"), (6, .methodref 26 27), (0, .class_ 12), (0, .nameAndType 28 29), (0, u "clone"), (0, u "()Ljava/lang/Object;"), (14, u "(I)I"), (3, u "copyFrom"), (1, u "(Lcom/example/pilfer/pilfer/Tour;II)V"), (0, u "toArray"), (0, u "()[I")] 5

def k2c0 : Code := { maxStack := 3, maxLocals := 3, code := prog_24_method_1_code, exceptionTable := #[], attributes := #[] }
def k2m0 : Method := { name := "<init>", desc := "([I)V", sig := { parameters := [(.array .int)], returnType := none }, accessFlags := 0, code := some k2c0 }
def k2c1 : Code := { maxStack := 2, maxLocals := 2, code := prog_24_method_4_code, exceptionTable := #[], attributes := #[] }
def k2m1 : Method := { name := "position", desc := "(I)I", sig := { parameters := [.int], returnType := some .int }, accessFlags := 0, code := some k2c1 }
def k2c2 : Code := { maxStack := 4, maxLocals := 5, code := prog_24_method_8_code, exceptionTable := #[], attributes := #[] }
def k2m2 : Method := { name := "copyFrom", desc := "(Lcom/example/pilfer/pilfer/Tour;II)V", sig := { parameters := [(.object "com/example/pilfer/pilfer/Tour"), .int, .int], returnType := none }, accessFlags := 0, code := some k2c2 }
def k2c3 : Code := { maxStack := 1, maxLocals := 1, code := prog_24_method_9_code, exceptionTable := #[], attributes := #[] }
def k2m3 : Method := { name := "toArray", desc := "()[I", sig := { parameters := [], returnType := some (.array .int) }, accessFlags := 0, code := some k2c3 }
/-- com/example/pilfer/pilfer/Tour -/
def k2 : Class := { plain "com/example/pilfer/pilfer/Tour" (some 0) with
  accessFlags := 48
  interfaces := #[]
  cf := some (fileOf pool2 8 #[] #[{ accessFlags := 0, nameIndex := 5, descriptorIndex := 18, attributes := #[] }, { accessFlags := 0, nameIndex := 15, descriptorIndex := 44, attributes := #[] }, { accessFlags := 0, nameIndex := 48, descriptorIndex := 50, attributes := #[] }, { accessFlags := 0, nameIndex := 51, descriptorIndex := 52, attributes := #[] }] 48 2 #[] #[{ accessFlags := 18, nameIndex := 11, descriptorIndex := 12, attributes := #[] }, { accessFlags := 18, nameIndex := 15, descriptorIndex := 12, attributes := #[] }])
  fields := #[{ name := "order", type := (.array .int), accessFlags := 18, slot := 0, constantValue := 0 }, { name := "position", type := (.array .int), accessFlags := 18, slot := 1, constantValue := 0 }]
  methods := #[k2m0, k2m1, k2m2, k2m3]
  instanceTypes := #[(.array .int), (.array .int)]
  staticTypes := #[]
  resolved := Array.replicate 58 none
  statics := none }

def pool3 : Array CpInfo := pool [(1, .class_ 2), (0, u "java/lang/Cloneable"), (0, .class_ 4), (0, u "java/lang/Object")] 2

/-- java/lang/Cloneable -/
def k3 : Class := { plain "java/lang/Cloneable" (some 0) with
  accessFlags := 1537
  interfaces := #[]
  cf := some (fileOf pool3 1 #[] #[] 1537 3 #[] #[])
  fields := #[]
  methods := #[]
  instanceTypes := #[]
  staticTypes := #[]
  resolved := Array.replicate 7 none
  statics := none }

def pool4 : Array CpInfo := pool [(1, u "java/io/Serializable"), (0, .class_ 1), (0, u "java/lang/Object"), (0, .class_ 3)] 3

/-- java/io/Serializable -/
def k4 : Class := { plain "java/io/Serializable" (some 0) with
  accessFlags := 1537
  interfaces := #[]
  cf := some (fileOf pool4 2 #[] #[] 1537 4 #[] #[])
  fields := #[]
  methods := #[]
  instanceTypes := #[]
  staticTypes := #[]
  resolved := Array.replicate 8 none
  statics := none }

/-- the primitive byte -/
def k5 : Class := { plain "byte" none with kind := .primitive 'B', accessFlags := 0x411 }
/-- [B -/
def k6 : Class := { plain "[B" (some 0) with kind := .array 5 .byte, interfaces := #[3, 4], accessFlags := 1041 }

/-- the primitive int -/
def k7 : Class := { plain "int" none with kind := .primitive 'I', accessFlags := 0x411 }
/-- [I -/
def k8 : Class := { plain "[I" (some 0) with kind := .array 7 .int, interfaces := #[3, 4], accessFlags := 1041 }

def heap : Heap := #[]
def classes : Array Class := #[k0, k1, k2, k3, k4, k5, k6, k7, k8]
def interned : List (Array UInt16 × Addr) := []
def slotsUsed : Nat := 0
def theMethod : MethodId := ⟨1, 2⟩
def args0 : Array Value := #[.int 5, .int 6, .int 7, .int 8, .int 9]
def aboutOver (below : List Frame) : State where
  vm := { classes := classes, interned := interned.toArray }
  heap := heap
  slotsUsed := slotsUsed
  threads := #[{ frames := .invoking theMethod args0 :: below }]
def below0 : List Frame := [.native { method := ⟨0, 0⟩, args := #[] }]
def about1 : State := aboutOver below0
def p0 : Program := .bare "" "" ""
def e0 : Env := launch0.env 0 0 0
theorem w_frames : about1.frames = Frame.invoking theMethod args0 :: below0 := rfl
set_option maxRecDepth 65536 in
theorem w_args : argsFit about1.vm theMethod args0 = true := by decide +kernel
set_option maxRecDepth 65536 in
theorem w_heap : heapFits about1 = true := by decide +kernel
set_option maxRecDepth 65536 in
theorem w_runnable : about1.curStatus? = some .runnable := by decide +kernel
set_option maxRecDepth 65536 in
theorem w_alone : about1.alone = true := by decide +kernel
set_option maxRecDepth 65536 in
theorem w_named : about1.methodNamed? x = some theMethod := by decide +kernel
set_option maxRecDepth 65536 in
theorem w_hears : about1.hears theMethod below0 = true := by decide +kernel
set_option maxRecDepth 65536 in
theorem w_ripe : about1.ripe theMethod args0 below0 = true := by decide +kernel
theorem w_running : about1.status = .running := rfl
set_option maxRecDepth 65536 in
theorem w_room : about1.hasRoom e0.platform room_1 = true :=
  launch0.hasRoom_least _ room_1 (by decide +kernel) (by decide +kernel) (by decide +kernel) (by decide +kernel) (by decide +kernel) (by decide +kernel)
theorem allAtoms_all (ts : List Jvm.Cond) (a : Array Jvm.Value) (st : Jvm.State) : (allAtoms ts).before a st = ts.all (fun c => c.before a st) := by
  induction ts with
  | nil => rfl
  | cons c t ih =>
    show (Jvm.Cond.and c (allAtoms t)).before a st = _
    rw [Jvm.Cond.before_and, ih, List.all_cons]
def words1 : List Jvm.Cond := Jvm.Cond.code x code maxLocals ret :: tables_1
/-- a 'code' word, met by the world's own term for the bytes: nothing is compared byte by byte -/
theorem code_word {y : MethodName} {bytes : ByteArray} {mx : Nat} {rt : Option FieldType} {a : Array Value} {s : State} {m : MethodId} {meth : Method} {c : Code} (h1 : s.methodNamed? y = some m) (h2 : s.vm.method? m = some meth) (h3 : meth.code = some c) (h4 : c.code = bytes)
    (h5 : (c.maxLocals == mx && c.exceptionTable.isEmpty && decide (c.maxStack ≤ mostOperands) && decide (meth.sig.returnType = rt) && !meth.locks && decide (parseMethodDescriptor y.desc = some meth.sig)) = true) : (Jvm.Cond.code y bytes mx rt).before a s = true := by
  simp only [Bool.and_eq_true, beq_iff_eq, Bool.not_eq_true', decide_eq_true_eq] at h5
  obtain ⟨⟨⟨⟨⟨g1, g2⟩, g3⟩, g4⟩, g5⟩, g6⟩ := h5
  simp [Cond.before, Cond.holds, Cond.value, h1, h2, h3, h4, g1, g2, g3, g4, g5, g6]
def isCode : Jvm.Cond → Bool
  | .code _ _ _ _ => true
  | _ => false
theorem all_split {L : List Jvm.Cond} {P : Jvm.Cond → Bool} (h1 : L.all (fun c => isCode c || P c) = true) (h2 : ∀ c ∈ L.filter isCode, P c = true) : L.all P = true := by
  refine List.all_eq_true.mpr fun c hc => ?_
  have h := List.all_eq_true.mp h1 c hc
  rcases Bool.eq_false_or_eq_true (isCode c) with hi | hi
  · exact h2 c (List.mem_filter.mpr ⟨hc, hi⟩)
  · simpa [hi] using h
set_option maxRecDepth 65536 in
theorem w_c0 : (Jvm.Cond.code x code maxLocals ret).before args0 about1 = true := code_word (m := ⟨1, 2⟩) (meth := k1m2) (c := k1c2) (by decide +kernel) rfl rfl rfl (by decide +kernel)
set_option maxRecDepth 65536 in
theorem w_c1 : (Jvm.Cond.code ({ cls := "com/example/pilfer/pilfer/TourCopyFromPinLaw", name := "pick", desc := "([IIIIZ)I" } : Jvm.MethodName) method_2_code (5 : Nat) (Option.some Jvm.ClassFile.FieldType.int)).before args0 about1 = true := code_word (m := ⟨1, 1⟩) (meth := k1m1) (c := k1c1) (by decide +kernel) rfl rfl rfl (by decide +kernel)
set_option maxRecDepth 65536 in
theorem w_c2 : (Jvm.Cond.code ({ cls := "com/example/pilfer/pilfer/Tour", name := "<init>", desc := "([I)V" } : Jvm.MethodName) prog_24_method_1_code (3 : Nat) (Option.none : Option Jvm.ClassFile.FieldType)).before args0 about1 = true := code_word (m := ⟨2, 0⟩) (meth := k2m0) (c := k2c0) (by decide +kernel) rfl rfl rfl (by decide +kernel)
set_option maxRecDepth 65536 in
theorem w_c3 : (Jvm.Cond.code ({ cls := "java/lang/Object", name := "<init>", desc := "()V" } : Jvm.MethodName) object_method_1_code (1 : Nat) (Option.none : Option Jvm.ClassFile.FieldType)).before args0 about1 = true := code_word (m := ⟨0, 0⟩) (meth := k0m0) (c := k0c0) (by decide +kernel) rfl rfl rfl (by decide +kernel)
set_option maxRecDepth 65536 in
theorem w_c4 : (Jvm.Cond.code ({ cls := "com/example/pilfer/pilfer/Tour", name := "copyFrom", desc := "(Lcom/example/pilfer/pilfer/Tour;II)V" } : Jvm.MethodName) prog_24_method_8_code (5 : Nat) (Option.none : Option Jvm.ClassFile.FieldType)).before args0 about1 = true := code_word (m := ⟨2, 2⟩) (meth := k2m2) (c := k2c2) (by decide +kernel) rfl rfl rfl (by decide +kernel)
set_option maxRecDepth 65536 in
theorem w_c5 : (Jvm.Cond.code ({ cls := "com/example/pilfer/pilfer/Tour", name := "toArray", desc := "()[I" } : Jvm.MethodName) prog_24_method_9_code (1 : Nat) (Option.some (Jvm.ClassFile.FieldType.array Jvm.ClassFile.FieldType.int))).before args0 about1 = true := code_word (m := ⟨2, 3⟩) (meth := k2m3) (c := k2c3) (by decide +kernel) rfl rfl rfl (by decide +kernel)
set_option maxRecDepth 65536 in
theorem w_c6 : (Jvm.Cond.code ({ cls := "com/example/pilfer/pilfer/Tour", name := "position", desc := "(I)I" } : Jvm.MethodName) prog_24_method_4_code (2 : Nat) (Option.some Jvm.ClassFile.FieldType.int)).before args0 about1 = true := code_word (m := ⟨2, 1⟩) (meth := k2m1) (c := k2c1) (by decide +kernel) rfl rfl rfl (by decide +kernel)
def codes1 : List Jvm.Cond := [Jvm.Cond.code x code maxLocals ret, Jvm.Cond.code ({ cls := "com/example/pilfer/pilfer/TourCopyFromPinLaw", name := "pick", desc := "([IIIIZ)I" } : Jvm.MethodName) method_2_code (5 : Nat) (Option.some Jvm.ClassFile.FieldType.int), Jvm.Cond.code ({ cls := "com/example/pilfer/pilfer/Tour", name := "<init>", desc := "([I)V" } : Jvm.MethodName) prog_24_method_1_code (3 : Nat) (Option.none : Option Jvm.ClassFile.FieldType), Jvm.Cond.code ({ cls := "java/lang/Object", name := "<init>", desc := "()V" } : Jvm.MethodName) object_method_1_code (1 : Nat) (Option.none : Option Jvm.ClassFile.FieldType), Jvm.Cond.code ({ cls := "com/example/pilfer/pilfer/Tour", name := "copyFrom", desc := "(Lcom/example/pilfer/pilfer/Tour;II)V" } : Jvm.MethodName) prog_24_method_8_code (5 : Nat) (Option.none : Option Jvm.ClassFile.FieldType), Jvm.Cond.code ({ cls := "com/example/pilfer/pilfer/Tour", name := "toArray", desc := "()[I" } : Jvm.MethodName) prog_24_method_9_code (1 : Nat) (Option.some (Jvm.ClassFile.FieldType.array Jvm.ClassFile.FieldType.int)), Jvm.Cond.code ({ cls := "com/example/pilfer/pilfer/Tour", name := "position", desc := "(I)I" } : Jvm.MethodName) prog_24_method_4_code (2 : Nat) (Option.some Jvm.ClassFile.FieldType.int)]
set_option maxRecDepth 65536 in
theorem codes_eq : words1.filter isCode = codes1 := rfl
theorem w_codes : ∀ c ∈ words1.filter isCode, c.before args0 about1 = true := by
  rw [codes_eq]
  intro c hc
  simp only [codes1, List.mem_cons, List.not_mem_nil, or_false] at hc
  rcases hc with rfl | rfl | rfl | rfl | rfl | rfl | rfl
  · exact w_c0
  · exact w_c1
  · exact w_c2
  · exact w_c3
  · exact w_c4
  · exact w_c5
  · exact w_c6
set_option maxRecDepth 65536 in
theorem w_t1 : (words1.take 24).all (fun c => isCode c || c.before args0 about1) = true := by decide +kernel
set_option maxRecDepth 65536 in
theorem w_t2 : (words1.drop 24).all (fun c => isCode c || c.before args0 about1) = true := by decide +kernel
theorem w_tables : (allAtoms (Jvm.Cond.code x code maxLocals ret :: tables_1)).before args0 about1 = true := by
  rw [allAtoms_all]
  show words1.all (fun c => c.before args0 about1) = true
  refine all_split ?_ w_codes
  rw [← List.take_append_drop 24 words1, List.all_append, w_t1, w_t2]
  rfl
set_option maxRecDepth 65536 in
theorem w_case : (Jvm.Cond.and given_1 narrow_1).before args0 about1 = true := by decide +kernel
theorem w_applies : (headSpec (Jvm.Cond.code x code maxLocals ret :: tables_1) room_1).applies x e0.platform about1 = true :=
  (Spec.applies_iff w_frames).mpr ⟨w_running, w_runnable, w_alone, w_named, w_hears, w_ripe, w_room, w_tables⟩
theorem atStart : AtStart classFile x code maxLocals ret World_1 tables_1 room_1 Calls_1 rest_1 Pre_1 launch0 p0 e0 about1 theMethod args0 below0 :=
  ⟨lists_1, trivial, launch0.admits_env _ _ _, launch0.least_env, fairChoices_fair.cas, fairChoices_fair.clock, w_frames, w_args, w_heap, w_applies, trivial, trivial, w_case⟩
end start1
theorem witness_1 : WitnessClaimed_1 := ⟨start1.p0, start1.e0, start1.about1, start1.theMethod, start1.args0, start1.below0, start1.atStart⟩
end Jvm.Pilot.@@N@@
