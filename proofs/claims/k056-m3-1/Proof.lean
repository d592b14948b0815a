import JvmDerived
import JvmDerived.Pilot.@@N@@Statement
import JvmDerived.Pilot.@@N@@Code
set_option linter.unusedVariables false
set_option linter.unusedSimpArgs false
namespace Jvm.Pilot.@@N@@
open Jvm Jvm.ClassFile Sem Op Lib Jvm.Free Jvm.Stand Jvm.LawKit Jvm.RoadKit Bundle Jvm.Pilot.@@N@@.Jvm.D
section OwnKit
variable {p : Program} {l : Launch} {e : Env} {R : Room} {s : State} {m : MethodId} {args : Array Value} {below : List Frame} {meth : Method} {c : Code} {T : State} {locs : List Loc} {cells slots : Nat} {Z : State} {a0 : Array Value} {h : Heap} {W : State → Outcome → Prop}
/-- what a walk owes from a frame on -/
def Go (p : Program) (e : Env) (below : List Frame) (W : State → Outcome → Prop) (T : State) (g : JFrame) : Prop := ∃ t o, Steps p.tables e below (T.setTop g) t ∧ t.status = .running ∧ Ended t below o ∧ W t o
theorem Go.of {T T' : State} {g g' : JFrame} (q : ∀ t, Steps p.tables e below (T'.setTop g') t → Steps p.tables e below (T.setTop g) t) (k : Go p e below W T' g') : Go p e below W T g := by
  obtain ⟨t, o, h1, h2⟩ := k
  exact ⟨t, o, q t h1, h2⟩
theorem Go.ret (X : Stand p l e R s m args below meth c T locs cells slots) {g : JFrame} {v : Option Value} (hv : meth.sig.returnType = none → v = none) (hk : meth.locks = false)
    (st : ∀ fs, (∀ (f : JFrame) (acts : List Action), f.method = m → f.locked = none → f.entered = [] → (doReturn e (T.setTop f) acts v).1 = T.setFrames fs) → Steps p.tables e below (T.setTop g) (T.setFrames fs))
    (hq : ∀ t : State, t.heap = T.heap → FrameEnd s (.returned v) t locs cells slots → W t (.returned v)) : Go p e below W T g := by
  obtain ⟨fs, hr, hrun, hended, hW, hsame⟩ := X.leave (v := v) hv hk
  exact ⟨_, _, st fs hr, hrun, hended, hq _ rfl ⟨⟨_, rfl⟩, hW, hsame⟩⟩
/-- ireturn of a boolean, byte, char, short -/
theorem Go.retN (X : Stand p l e R s m args below meth c T locs cells slots) (hx : p.tables.exec = Jvm.exec) {pc : Nat} {Ls : Array Slot} {z w : Int32} {t : FieldType} {rest : List Value} (hret : meth.sig.returnType = some t) (ht : t = .boolean ∨ t = .byte ∨ t = .char ∨ t = .short) (hd : decode c.code pc = .ok (.ireturn, 1)) (hk : meth.locks = false) (hn : nar t z = w)
    (hq : ∀ t : State, t.heap = T.heap → FrameEnd s (.returned (some (.int w))) t locs cells slots → W t (.returned (some (.int w)))) : Go p e below W T (mkF m pc Ls (.int z :: rest)) := by
  subst hn
  exact Go.ret X (fun q => by rw [hret] at q; cases q) hk (fun fs hr => Jvm.RoadKit.retN X hx hret ht hd hr) hq
theorem Go.retI (X : Stand p l e R s m args below meth c T locs cells slots) (hx : p.tables.exec = Jvm.exec) {pc : Nat} {Ls : Array Slot} {z w : Int32} {rest : List Value} (hret : meth.sig.returnType = some .int) (hd : decode c.code pc = .ok (.ireturn, 1)) (hk : meth.locks = false) (hn : z = w)
    (hq : ∀ t : State, t.heap = T.heap → FrameEnd s (.returned (some (.int w))) t locs cells slots → W t (.returned (some (.int w)))) : Go p e below W T (mkF m pc Ls (.int z :: rest)) := by
  subst hn
  exact Go.ret X (fun q => by rw [hret] at q; cases q) hk (fun fs hr => retOut X hx hret rfl (Or.inl ⟨rfl, Or.inl rfl, z, rfl⟩) hd hr) hq
theorem Go.retJ (X : Stand p l e R s m args below meth c T locs cells slots) (hx : p.tables.exec = Jvm.exec) {pc : Nat} {Ls : Array Slot} {z w : Int64} {rest : List Value} (hret : meth.sig.returnType = some .long) (hd : decode c.code pc = .ok (.lreturn, 1)) (hk : meth.locks = false) (hn : z = w)
    (hq : ∀ t : State, t.heap = T.heap → FrameEnd s (.returned (some (.long w))) t locs cells slots → W t (.returned (some (.long w)))) : Go p e below W T (mkF m pc Ls (.long z :: rest)) := by
  subst hn
  exact Go.ret X (fun q => by rw [hret] at q; cases q) hk (fun fs hr => retOut X hx hret rfl (Or.inr (Or.inl ⟨rfl, rfl, z, rfl⟩)) hd hr) hq
theorem Go.retA (X : Stand p l e R s m args below meth c T locs cells slots) (hx : p.tables.exec = Jvm.exec) {pc : Nat} {Ls : Array Slot} {t : FieldType} {a : Addr} {rest : List Value} (hret : meth.sig.returnType = some t) (ht : t.isReference = true) (hnr : narrow t (.ref a) = .ref a) (hd : decode c.code pc = .ok (.areturn, 1)) (hk : meth.locks = false)
    (hq : ∀ t : State, t.heap = T.heap → FrameEnd s (.returned (some (.ref a))) t locs cells slots → W t (.returned (some (.ref a)))) : Go p e below W T (mkF m pc Ls (.ref a :: rest)) :=
  Go.ret X (fun q => by rw [hret] at q; cases q) hk (fun fs hr => retOut X hx hret hnr (Or.inr (Or.inr (Or.inr (Or.inr ⟨rfl, ht, rfl⟩)))) hd hr) hq
theorem Go.retV (X : Stand p l e R s m args below meth c T locs cells slots) (hx : p.tables.exec = Jvm.exec) {pc : Nat} {Ls : Array Slot} (hret : meth.sig.returnType = none) (hd : decode c.code pc = .ok (.return_, 1)) (hk : meth.locks = false)
    (hq : ∀ t : State, t.heap = T.heap → FrameEnd s (.returned none) t locs cells slots → W t (.returned none)) : Go p e below W T (mkF m pc Ls []) :=
  Go.ret X (fun _ => rfl) hk (fun fs hr => X.returnOut hx hret hd hr) hq
/-- a body's contract out of its walk -/
theorem own_body {y : MethodName} {bytes : ByteArray} {maxL : Nat} {ret : Option FieldType} {ws : List Jvm.Cond} {rm : Room} {as' : Array Value} {Q : Option Value → Heap → List Loc → Prop} {Ls : Array Slot} (hpn : plainFor y = true) (hef : ∀ m, entryFrame m as' maxL = mkF m 0 Ls [])
    (walk : ∀ (p : Program) (e : Env) (s : State) (m : MethodId) (below : List Frame) (meth : Method) (c : Code) (T : State) (W : State → Outcome → Prop), Stand p l e rm s m as' below meth c T [] 0 0 → p.tables.exec = Jvm.exec → c.code = bytes → c.maxLocals = maxL → meth.sig.returnType = ret → meth.locks = false → s.vm.findClass y.cls = some m.cls → meth.name = y.name → Z.Warmed39 s.vm → T.heap = h →
      (∀ (t : State) v L cells slots, Q v t.heap L → FrameEnd s (.returned v) t L cells slots → cells ≤ rm.cells → slots ≤ rm.slots → W t (.returned v)) → Go p e below W T (mkF m 0 Ls [])) :
    MetFree l y (head1 (Jvm.Cond.code y bytes maxL ret :: ws) rm) (fun a U => a = as' ∧ Z.Warmed39 U.vm ∧ U.heap = h) (fun _ _ _ _ _ => True) (fun _ U o U' => ∃ v L, o = .returned v ∧ Q v U'.heap L ∧ FrameEnd U o U' L rm.cells rm.slots) := by
  refine MetFree.of_bodySF hpn hisR ?_
  intro p e s m args below meth c s₁ Bd hml hP hK
  obtain ⟨rfl, hZ, hh⟩ := hP
  obtain ⟨t, o, h1, h2, h3, h4⟩ := walk p e s m below meth c s₁ (fun t o => ∃ v L, o = .returned v ∧ Q v t.heap L ∧ FrameEnd s o t L rm.cells rm.slots) (Stand.of_body Bd) Bd.exec Bd.bytes hml Bd.returns (BodyLoose.notSynchronized Bd) (findClass_of_methodNamed Bd.named) (name_of_methodNamed Bd.named Bd.method).1 hZ (by rw [← hh, Bd.state]; rfl)
    (fun t v L cells slots hQ hF hc hs => ⟨v, L, rfl, hQ, hF.1, hF.2.1, hF.2.2.mono hc hs⟩)
  exact ⟨t, o, castTop (hef m) h1, h2, h3, h4⟩
/-- a contract, written short -/
abbrev Con (l : Launch) (Z : State) (y : MethodName) (bytes : ByteArray) (maxL : Nat) (ret : Option FieldType) (ws : List Jvm.Cond) (rm : Room) (as' : Array Value) (h : Heap) (Q : Option Value → Heap → List Loc → Prop) : Prop :=
  MetFree l y (head1 (Jvm.Cond.code y bytes maxL ret :: ws) rm) (fun a U => a = as' ∧ Z.Warmed39 U.vm ∧ U.heap = h) (fun _ _ _ _ _ => True) (fun _ U o U' => ∃ v L, o = .returned v ∧ Q v U'.heap L ∧ FrameEnd U o U' L rm.cells rm.slots)
/-- what a callee that leaves the heap as it is says -/
def PQ (w : Value) (h0 : Heap) (v : Option Value) (h : Heap) (L : List Loc) : Prop := v = some w ∧ L = [] ∧ h = h0
theorem Go.callS (X : Stand p l e R s m args below meth c T locs cells slots) (hx : p.tables.exec = Jvm.exec) (hZ : Z.Warmed39 s.vm) {own : String} {index : Nat} {y : MethodName} {bytes : ByteArray} {maxL : Nat} {ret : Option FieldType} {rm : Room} {as' : Array Value} {Q : Option Value → Heap → List Loc → Prop} (hown : s.vm.findClass own = some m.cls)
    (w1 : (Jvm.Cond.methodLink own index y).before a0 Z = true) (w2 : (Jvm.Cond.static y).before a0 Z = true) (w3 : (Jvm.Cond.initialized y.cls).before a0 Z = true) (w4 : (Jvm.Cond.code y bytes maxL ret).before a0 Z = true) (hy : y.cls ≠ "java/lang/invoke/MethodHandle" ∧ y.cls ≠ "java/lang/invoke/VarHandle") (eT : T.heap = h)
    (hM : Con l Z y bytes maxL ret [] rm as' h Q) {V : Nat} (hf : rm.frames + 1 ≤ R.frames) (hl : V + (maxL + 11) + rm.locals ≤ R.locals) (hc : cells + rm.cells ≤ R.cells) (hs : slots + rm.slots ≤ R.slots)
    {pc : Nat} {Ls : Array Slot} {st : List Value} (hsize : Ls.size = c.maxLocals) {argsL rest : List Value} (has : argsL.toArray = as') (hlen : ∀ sig, parseMethodDescriptor y.desc = some sig → argsL.length = sig.parameters.length) (hstack : st = argsL.reverse ++ rest) (hV : (rest.map fun v => v.category).sum ≤ V) (hd : decode c.code pc = .ok (.invokestatic index, 3))
    (K : ∀ T' v L, Q v T'.heap L → Stand p l e R s m args below meth c T' (locs ++ L) (cells + rm.cells) (slots + rm.slots) → Go p e below W T' (mkF m (pc + 3) Ls (v.toList ++ rest))) : Go p e below W T (mkF m pc Ls st) := by
  obtain ⟨v, vm₁, ⟨T', L', k', n'⟩, -, X', ⟨L, hQ, e1, e2, e3⟩, st'⟩ := Jvm.LawKit.callS X hx hown (mvT hZ w1) (mvT hZ w2) (mvT hZ w3) (mvT hZ w4) hy (backOf (W := V) hM hZ w4 w3 hf hl) (g := mkF m pc Ls st) rfl hsize hlen hstack (by show 2 * 0 + _ ≤ _; omega) hd (fun _ _ => ⟨has, eT, hc, hs⟩)
  dsimp only [Pt.U, Pt.locs, Pt.cells, Pt.slots] at X' e1 e2 e3 st' hQ
  subst e1 e2 e3
  exact Go.of st' (K _ _ _ hQ X')
theorem Go.callP (X : Stand p l e R s m args below meth c T locs cells slots) (hx : p.tables.exec = Jvm.exec) (hZ : Z.Warmed39 s.vm) {own : String} {index : Nat} {y : MethodName} {bytes : ByteArray} {maxL : Nat} {ret : Option FieldType} {rm : Room} {as' : Array Value} {w : Value} (hown : s.vm.findClass own = some m.cls)
    (w1 : (Jvm.Cond.methodLink own index y).before a0 Z = true) (w2 : (Jvm.Cond.static y).before a0 Z = true) (w3 : (Jvm.Cond.initialized y.cls).before a0 Z = true) (w4 : (Jvm.Cond.code y bytes maxL ret).before a0 Z = true) (hy : y.cls ≠ "java/lang/invoke/MethodHandle" ∧ y.cls ≠ "java/lang/invoke/VarHandle") (eT : T.heap = h)
    (hM : Con l Z y bytes maxL ret [] rm as' h (PQ w h)) {V : Nat} (hf : rm.frames + 1 ≤ R.frames) (hl : V + (maxL + 11) + rm.locals ≤ R.locals) (z1 : rm.cells = 0) (z2 : rm.slots = 0) (hc : cells ≤ R.cells) (hs : slots ≤ R.slots)
    {pc : Nat} {Ls : Array Slot} {st : List Value} (hsize : Ls.size = c.maxLocals) {argsL rest : List Value} (has : argsL.toArray = as') (hlen : ∀ sig, parseMethodDescriptor y.desc = some sig → argsL.length = sig.parameters.length) (hstack : st = argsL.reverse ++ rest) (hV : (rest.map fun v => v.category).sum ≤ V) (hd : decode c.code pc = .ok (.invokestatic index, 3))
    (K : ∀ T', Stand p l e R s m args below meth c T' locs cells slots → T'.heap = h → Go p e below W T' (mkF m (pc + 3) Ls (w :: rest))) : Go p e below W T (mkF m pc Ls st) := by
  refine Go.callS X hx hZ hown w1 w2 w3 w4 hy eT hM hf hl (by rw [z1]; exact hc) (by rw [z2]; exact hs) hsize has hlen hstack hV hd ?_
  rintro T' v L ⟨rfl, rfl, h3⟩ X'
  rw [z1, z2, List.append_nil] at X'
  exact K T' X' h3
end OwnKit
section OwnHeap
variable {p : Program} {l : Launch} {e : Env} {R : Room} {s : State} {m : MethodId} {args : Array Value} {below : List Frame} {meth : Method} {c : Code} {T : State} {locs : List Loc} {cells slots : Nat} {Z : State} {a0 : Array Value} {h h' : Heap} {W : State → Outcome → Prop}
/-- an array: its kind, its length, the ints in its places -/
def AI (Z : State) (h : Heap) (a : Addr) (ty : FieldType) (n : Nat) (f : Nat → Int32) : Prop := ∃ cl : Cell, Arr Z h a cl ty ∧ cl.slots.size = n ∧ n < 2 ^ 31 ∧ ∀ j, j < n → cl.slots[j]? = some (.int (f j)) ∧ fits ty (.int (f j)) = true
theorem AI.lt {a : Addr} {ty : FieldType} {n : Nat} {f : Nat → Int32} (A : AI Z h a ty n f) : a < h.size := by obtain ⟨cl, A, -⟩ := A; exact A.lt
theorem AI.small {a : Addr} {ty : FieldType} {n : Nat} {f : Nat → Int32} (A : AI Z h a ty n f) : n < 2 ^ 31 := by obtain ⟨cl, -, -, h, -⟩ := A; exact h
theorem AI.ext {a : Addr} {ty : FieldType} {n : Nat} {f : Nat → Int32} (A : AI Z h a ty n f) (E : Ext h h') : AI Z h' a ty n f := by obtain ⟨cl, A, r⟩ := A; exact ⟨cl, A.ext E, r⟩
theorem AI.other {a b : Addr} {ty : FieldType} {n sl : Nat} {f : Nat → Int32} {v : Value} (A : AI Z h b ty n f) (W : Wr h h' a sl v) (q : b ≠ a) : AI Z h' b ty n f := by obtain ⟨cl, A, r⟩ := A; exact ⟨cl, A.other W q, r⟩
theorem AI.keep {a : Addr} {ty : FieldType} {n : Nat} {f : Nat → Int32} {ws : List Addr} (A : AI Z h a ty n f) (K : Keep h h' ws) (q : a ∉ ws) : AI Z h' a ty n f := by obtain ⟨cl, A, r⟩ := A; exact ⟨cl, ⟨K.2.1 a cl A.1 q, A.2⟩, r⟩
theorem AI.congr {a : Addr} {ty : FieldType} {n : Nat} {f g : Nat → Int32} (A : AI Z h a ty n f) (q : ∀ j, j < n → f j = g j) : AI Z h a ty n g := by obtain ⟨cl, A, r1, r2, r3⟩ := A; exact ⟨cl, A, r1, r2, fun j hj => by rw [← q j hj]; exact r3 j hj⟩
def upd (f : Nat → Int32) (i : Nat) (x : Int32) : Nat → Int32 := fun j => if j = i then x else f j
theorem AI.set {a : Addr} {ty : FieldType} {n i : Nat} {f : Nat → Int32} {x : Int32} (A : AI Z h a ty n f) (W : Wr h h' a i (.int x)) (hv : fits ty (.int x) = true) : AI Z h' a ty n (upd f i x) := by
  obtain ⟨cl, A, r1, r2, r3⟩ := A
  refine ⟨_, A.same W, by rw [sz_set]; exact r1, r2, fun j hj => ?_⟩
  simp only [Cell.setSlot, upd]
  by_cases q : j = i
  · subst q; rw [if_pos rfl]; exact ⟨by simp [r1, hj], hv⟩
  · rw [if_neg q, Array.getElem?_setIfInBounds_ne (Ne.symm q)]; exact r3 j hj
/-- a place within the length -/
def PV (h0 : Heap) (v : Option Value) (h : Heap) (L : List Loc) : Prop := v = none ∧ L = [] ∧ h = h0
def inb (j : Int32) (n : Nat) : Prop := ¬ j < 0 ∧ j.toNatClampNeg < n
theorem inb.no {cl : Cell} {j : Int32} {n : Nat} (q : inb j n) (r : cl.slots.size = n) : ¬ (j < 0 ∨ cl.slots.size ≤ j.toNatClampNeg) := by rw [r]; exact fun z => z.elim q.1 (fun z => absurd q.2 (Nat.not_lt.mpr z))
theorem Go.alen (X : Stand p l e R s m args below meth c T locs cells slots) (hx : p.tables.exec = Jvm.exec) (hZ : Z.Warmed39 s.vm) (eT : T.heap = h) {a : Addr} {ty : FieldType} {n : Nat} {f : Nat → Int32} (A : AI Z h a ty n f) {pc : Nat} {Ls : Array Slot} {st : List Value} (hd : decode c.code pc = .ok (.arraylength, 1))
    (K : Go p e below W T (mkF m (pc + 1) Ls (.int n.toInt32 :: st))) : Go p e below W T (mkF m pc Ls (.ref a :: st)) := by
  obtain ⟨cl, A, r1, -⟩ := A
  subst r1
  exact Go.of (fun t k => X.arraylength hx (by rw [eT]; exact A.1) (State.isArrayOf_alike hZ.alike A.2.1) (g := mkF m pc Ls (.ref a :: st)) rfl rfl hd t k) K
theorem Go.iald (X : Stand p l e R s m args below meth c T locs cells slots) (hx : p.tables.exec = Jvm.exec) (hZ : Z.Warmed39 s.vm) (eT : T.heap = h) {a : Addr} {n : Nat} {f : Nat → Int32} (A : AI Z h a .int n f) {j : Int32} (hj : inb j n) {pc : Nat} {Ls : Array Slot} {st : List Value} (hd : decode c.code pc = .ok (.iaload, 1))
    (K : Go p e below W T (mkF m (pc + 1) Ls (.int (f j.toNatClampNeg) :: st))) : Go p e below W T (mkF m pc Ls (.int j :: .ref a :: st)) := by
  obtain ⟨cl, A, r1, -, r3⟩ := A
  exact Go.of (fun t k => X.iaload hx (j := j) (v := .int (f j.toNatClampNeg)) (by rw [eT]; exact A.1) (State.isArrayOf_alike hZ.alike A.2.1) A.2.2 (hj.no r1) (r3 _ hj.2).1 (g := mkF m pc Ls (.int j :: .ref a :: st)) rfl rfl hd t k) K
theorem Go.cald (X : Stand p l e R s m args below meth c T locs cells slots) (hx : p.tables.exec = Jvm.exec) (hZ : Z.Warmed39 s.vm) (eT : T.heap = h) {a : Addr} {n : Nat} {f : Nat → Int32} (A : AI Z h a .char n f) {j : Int32} (hj : inb j n) {pc : Nat} {Ls : Array Slot} {st : List Value} (hd : decode c.code pc = .ok (.caload, 1))
    (K : Go p e below W T (mkF m (pc + 1) Ls (.int (f j.toNatClampNeg) :: st))) : Go p e below W T (mkF m pc Ls (.int j :: .ref a :: st)) := by
  obtain ⟨cl, A, r1, -, r3⟩ := A
  exact Go.of (fun t k => X.caload hx (j := j) (v := .int (f j.toNatClampNeg)) (by rw [eT]; exact A.1) (State.isArrayOf_alike hZ.alike A.2.1) A.2.2 (hj.no r1) (r3 _ hj.2).1 (g := mkF m pc Ls (.int j :: .ref a :: st)) rfl rfl hd t k) K
theorem Go.bald (X : Stand p l e R s m args below meth c T locs cells slots) (hx : p.tables.exec = Jvm.exec) (hZ : Z.Warmed39 s.vm) (eT : T.heap = h) {a : Addr} {n : Nat} {f : Nat → Int32} (A : AI Z h a .byte n f) {j : Int32} (hj : inb j n) {pc : Nat} {Ls : Array Slot} {st : List Value} (hd : decode c.code pc = .ok (.baload, 1))
    (K : Go p e below W T (mkF m (pc + 1) Ls (.int (f j.toNatClampNeg) :: st))) : Go p e below W T (mkF m pc Ls (.int j :: .ref a :: st)) := by
  obtain ⟨cl, A, r1, -, r3⟩ := A
  exact Go.of (fun t k => X.baloadBytes hx (j := j) (v := .int (f j.toNatClampNeg)) (by rw [eT]; exact A.1) (State.isArrayOf_alike hZ.alike A.2.1) A.2.2 (hj.no r1) (r3 _ hj.2).1 (g := mkF m pc Ls (.int j :: .ref a :: st)) rfl rfl hd t k) K
theorem Go.zald (X : Stand p l e R s m args below meth c T locs cells slots) (hx : p.tables.exec = Jvm.exec) (hZ : Z.Warmed39 s.vm) (eT : T.heap = h) {a : Addr} {n : Nat} {f : Nat → Int32} (A : AI Z h a .boolean n f) {j : Int32} (hj : inb j n) {pc : Nat} {Ls : Array Slot} {st : List Value} (hd : decode c.code pc = .ok (.baload, 1))
    (K : Go p e below W T (mkF m (pc + 1) Ls (.int (f j.toNatClampNeg) :: st))) : Go p e below W T (mkF m pc Ls (.int j :: .ref a :: st)) := by
  obtain ⟨cl, A, r1, -, r3⟩ := A
  exact Go.of (fun t k => X.baloadBooleans hx (j := j) (v := .int (f j.toNatClampNeg)) (by rw [eT]; exact A.1) (State.isArrayOf_alike hZ.alike A.2.1) A.2.2 (hj.no r1) (r3 _ hj.2).1 (g := mkF m pc Ls (.int j :: .ref a :: st)) rfl rfl hd t k) K
theorem Go.ist (X : Stand p l e R s m args below meth c T locs cells slots) (hx : p.tables.exec = Jvm.exec) (hZ : Z.Warmed39 s.vm) (eT : T.heap = h) {n0 : Nat} (N : Fr n0 locs) {a : Addr} (ga : n0 ≤ a) {n : Nat} {f : Nat → Int32} (A : AI Z h a .int n f) {j x : Int32} (hj : inb j n) {pc : Nat} {Ls : Array Slot} {st : List Value} (hd : decode c.code pc = .ok (.iastore, 1))
    (K : ∀ T' h' L', Stand p l e R s m args below meth c T' L' cells slots → Fr n0 L' → T'.heap = h' → Wr h h' a j.toNatClampNeg (.int x) → AI Z h' a .int n (upd f j.toNatClampNeg x) → Go p e below W T' (mkF m (pc + 1) Ls st)) : Go p e below W T (mkF m pc Ls (.int x :: .int j :: .ref a :: st)) := by
  obtain ⟨cl, A', r1, r2, r3⟩ := id A
  obtain ⟨T', h', X', e', W', st'⟩ := stI X hx hZ eT A' (j := j) (hj.no r1) (g := mkF m pc Ls (.int x :: .int j :: .ref a :: st)) rfl rfl hd
  exact Go.of st' (K _ _ _ X' (Fr.snoc X' N ga) e' W' (A.set W' rfl))
theorem Go.bst (X : Stand p l e R s m args below meth c T locs cells slots) (hx : p.tables.exec = Jvm.exec) (hZ : Z.Warmed39 s.vm) (eT : T.heap = h) {n0 : Nat} (N : Fr n0 locs) {a : Addr} (ga : n0 ≤ a) {n : Nat} {f : Nat → Int32} (A : AI Z h a .byte n f) {j x : Int32} (hj : inb j n) {pc : Nat} {Ls : Array Slot} {st : List Value} (hd : decode c.code pc = .ok (.bastore, 1))
    (K : ∀ T' h' L', Stand p l e R s m args below meth c T' L' cells slots → Fr n0 L' → T'.heap = h' → Wr h h' a j.toNatClampNeg (.int (nar .byte x)) → AI Z h' a .byte n (upd f j.toNatClampNeg (nar .byte x)) → Go p e below W T' (mkF m (pc + 1) Ls st)) : Go p e below W T (mkF m pc Ls (.int x :: .int j :: .ref a :: st)) := by
  obtain ⟨cl, A', r1, r2, r3⟩ := id A
  obtain ⟨T', h', X', e', W', st'⟩ := stB X hx hZ eT A' (j := j) (hj.no r1) (g := mkF m pc Ls (.int x :: .int j :: .ref a :: st)) rfl rfl hd
  exact Go.of st' (K _ _ _ X' (Fr.snoc X' N ga) e' W' (A.set W' (fits_nar_byte _)))
theorem Go.zst (X : Stand p l e R s m args below meth c T locs cells slots) (hx : p.tables.exec = Jvm.exec) (hZ : Z.Warmed39 s.vm) (eT : T.heap = h) {n0 : Nat} (N : Fr n0 locs) {a : Addr} (ga : n0 ≤ a) {n : Nat} {f : Nat → Int32} (A : AI Z h a .boolean n f) {j x : Int32} (hj : inb j n) {pc : Nat} {Ls : Array Slot} {st : List Value} (hd : decode c.code pc = .ok (.bastore, 1))
    (K : ∀ T' h' L', Stand p l e R s m args below meth c T' L' cells slots → Fr n0 L' → T'.heap = h' → Wr h h' a j.toNatClampNeg (.int (nar .boolean x)) → AI Z h' a .boolean n (upd f j.toNatClampNeg (nar .boolean x)) → Go p e below W T' (mkF m (pc + 1) Ls st)) : Go p e below W T (mkF m pc Ls (.int x :: .int j :: .ref a :: st)) := by
  obtain ⟨cl, A', r1, r2, r3⟩ := id A
  obtain ⟨T', h', X', e', W', st'⟩ := stZ X hx hZ eT A' (j := j) (hj.no r1) (g := mkF m pc Ls (.int x :: .int j :: .ref a :: st)) rfl rfl hd
  exact Go.of st' (K _ _ _ X' (Fr.snoc X' N ga) e' W' (A.set W' (fits_nar_bool _)))
theorem Go.cst (X : Stand p l e R s m args below meth c T locs cells slots) (hx : p.tables.exec = Jvm.exec) (hZ : Z.Warmed39 s.vm) (eT : T.heap = h) {n0 : Nat} (N : Fr n0 locs) {a : Addr} (ga : n0 ≤ a) {n : Nat} {f : Nat → Int32} (A : AI Z h a .char n f) {j x : Int32} (hj : inb j n) {pc : Nat} {Ls : Array Slot} {st : List Value} (hd : decode c.code pc = .ok (.castore, 1))
    (K : ∀ T' h' L', Stand p l e R s m args below meth c T' L' cells slots → Fr n0 L' → T'.heap = h' → Wr h h' a j.toNatClampNeg (.int (nar .char x)) → AI Z h' a .char n (upd f j.toNatClampNeg (nar .char x)) → Go p e below W T' (mkF m (pc + 1) Ls st)) : Go p e below W T (mkF m pc Ls (.int x :: .int j :: .ref a :: st)) := by
  obtain ⟨cl, A', r1, r2, r3⟩ := id A
  obtain ⟨T', h', X', e', W', st'⟩ := stC X hx hZ eT A' (j := j) (hj.no r1) (g := mkF m pc Ls (.int x :: .int j :: .ref a :: st)) rfl rfl hd
  exact Go.of st' (K _ _ _ X' (Fr.snoc X' N ga) e' W' (A.set W' (fits_nar_char _)))
theorem AI.new {b cA : Nat} {ty : FieldType} {n : Int32} (A : Arr Z h b (newA cA ty n) ty) (hd : defaultValue ty = .int 0) (hf : fits ty (.int 0) = true) : AI Z h b ty n.toNatClampNeg (fun _ => 0) := by
  refine ⟨_, A, sz_new _ _ _, ?_, fun j hj => ?_⟩
  · show n.toInt.toNat < 2 ^ 31
    have := n.toInt_lt; omega
  · exact ⟨by simp [newA, hj, hd], hf⟩
theorem Go.newA (X : Stand p l e R s m args below meth c T locs cells slots) (hx : p.tables.exec = Jvm.exec) (hZ : Z.Warmed39 s.vm) {aty : ArrayType} (w : (Jvm.Cond.arrayClass (newarray.typeOf aty)).before a0 Z = true) (hdef : defaultValue (newarray.typeOf aty) = .int 0) (hft : fits (newarray.typeOf aty) (.int 0) = true) {ad : String} (had : "[" ++ (newarray.typeOf aty).toString = ad) (eT : T.heap = h) {pc : Nat} {Ls : Array Slot} {n : Int32} {st : List Value} (hd : decode c.code pc = .ok (.newarray aty, 2))
    (hn : ¬ n < 0) {cap : Nat} (hcap : n.toNatClampNeg ≤ cap) (hb : cap * 8 ≤ 536870912) (hc : cells + 1 ≤ R.cells) (hl : slots + cap ≤ R.slots)
    (K : ∀ T' h' b, b = h.size → Stand p l e R s m args below meth c T' locs (cells + 1) (slots + cap) → T'.heap = h' → Ext h h' → Exa Z h' b ad → AI Z h' b (newarray.typeOf aty) n.toNatClampNeg (fun _ => 0) → Go p e below W T' (mkF m (pc + 2) Ls (.ref b :: st))) : Go p e below W T (mkF m pc Ls (.int n :: st)) := by
  obtain ⟨T', h', cA, X', e', E', A', B', st'⟩ := newPE X hx hZ w eT (g := mkF m pc Ls (.int n :: st)) rfl hd rfl hn hcap hb hc hl had
  exact Go.of st' (K _ _ _ rfl X' e' E' B' (AI.new A' hdef hft))
theorem Go.newO (X : Stand p l e R s m args below meth c T locs cells slots) (hx : p.tables.exec = Jvm.exec) (hZ : Z.Warmed39 s.vm) {own C : String} {index n : Nat} (hown : s.vm.findClass own = some m.cls) (w : (Jvm.Cond.classLink own index C).before a0 Z = true) (wi : (Jvm.Cond.instantiable C n).before a0 Z = true) (wz : (Jvm.Cond.initialized C).before a0 Z = true) (eT : T.heap = h)
    {pc : Nat} {Ls : Array Slot} {st : List Value} (hd : decode c.code pc = .ok (.new index, 3)) (hc : cells + 1 ≤ R.cells) (hl : slots + n ≤ R.slots)
    (K : ∀ T' h' b, b = h.size → Stand p l e R s m args below meth c T' locs (cells + 1) (slots + n) → T'.heap = h' → Ext h h' → Exa Z h' b C → (∀ {O nm d : String} {ty : FieldType}, Laid Z a0 C O nm d → parseFieldDescriptor d = some ty → Fld Z h' b O nm d (defaultValue ty)) → Go p e below W T' (mkF m (pc + 3) Ls (.ref b :: st))) : Go p e below W T (mkF m pc Ls st) := by
  obtain ⟨T', h', X', e', E', A', D', -, st'⟩ := Jvm.RoadKit.newO X hx hZ hown w wi wz eT (g := mkF m pc Ls st) rfl hd hc hl
  exact Go.of st' (K _ _ _ rfl X' e' E' A' D')
theorem Go.getF (X : Stand p l e R s m args below meth c T locs cells slots) (hx : p.tables.exec = Jvm.exec) (hZ : Z.Warmed39 s.vm) {own O n d : String} {index : Nat} (hown : s.vm.findClass own = some m.cls) (w : (Jvm.Cond.fieldLink own index O n d).before a0 Z = true) (eT : T.heap = h) {a : Addr} {v : Value} (F : Fld Z h a O n d v)
    {pc : Nat} {Ls : Array Slot} {st : List Value} (hd : decode c.code pc = .ok (.getfield index, 3)) (K : ∀ T', Stand p l e R s m args below meth c T' locs cells slots → T'.heap = h → Go p e below W T' (mkF m (pc + 3) Ls (v :: st))) : Go p e below W T (mkF m pc Ls (.ref a :: st)) := by
  obtain ⟨T', X', e', st'⟩ := Jvm.RoadKit.getF X hx hZ hown (host := "") (Or.inl w) Via.refl eT F (g := mkF m pc Ls (.ref a :: st)) rfl rfl hd
  exact Go.of st' (K _ X' e')
theorem Go.putF (X : Stand p l e R s m args below meth c T locs cells slots) (hx : p.tables.exec = Jvm.exec) (hZ : Z.Warmed39 s.vm) {own O n d C : String} {index kk : Nat} {ty : FieldType} (hown : s.vm.findClass own = some m.cls) (w : (Jvm.Cond.fieldLink own index O n d).before a0 Z = true) (eT : T.heap = h) {n0 : Nat} (N : Fr n0 locs) {a : Addr} (ga : n0 ≤ a) {v old : Value} (F : Fld Z h a O n d old) (E : Exa Z h a C)
    (L : (Jvm.Cond.lays C O n d).before a0 Z = true ∨ ((Jvm.Cond.laysFinal C O n d).before a0 Z = true ∧ own = O ∧ meth.name = "<init>")) (wi : (Jvm.Cond.instantiable C kk).before a0 Z = true) (hty : parseFieldDescriptor d = some ty) {v' : Value} (hn : narrow ty v = v') (hf : fits ty v' = true)
    {pc : Nat} {Ls : Array Slot} {st : List Value} (hd : decode c.code pc = .ok (.putfield index, 3)) (K : ∀ T' h' L', Stand p l e R s m args below meth c T' L' cells slots → Fr n0 L' → T'.heap = h' → Wr h h' a (Jvm.RoadKit.slotOf Z O n d) v' → Fld Z h' a O n d v' → Go p e below W T' (mkF m (pc + 3) Ls st)) : Go p e below W T (mkF m pc Ls (v :: .ref a :: st)) := by
  obtain ⟨T', h', X', e', W', st'⟩ := putFN X hx hZ hown w Via.refl eT F E L wi hty hn hf (g := mkF m pc Ls (v :: .ref a :: st)) rfl rfl hd
  exact Go.of st' (K _ _ _ X' (Fr.snoc X' N ga) e' W' (F.same W'))
theorem Go.initO (X : Stand p l e R s m args below meth c T locs cells slots) (hx : p.tables.exec = Jvm.exec) (hZ : Z.Warmed39 s.vm) {own : String} {idx : Nat} (hown : s.vm.findClass own = some m.cls) (w1 : (Jvm.Cond.methodLink own idx Lib.objectInit).before a0 Z = true) (w2 : (Jvm.Cond.instanceMethod Lib.objectInit).before a0 Z = true)
    (w3 : (Jvm.Cond.code Lib.objectInit Jvm.LibCode.Object.Init0.code 1 none).before a0 Z = true) (eT : T.heap = h) {pc : Nat} {Ls : Array Slot} {st : List Value} (hsize : Ls.size = c.maxLocals) {a : Addr} (hd : decode c.code pc = .ok (.invokespecial idx, 3)) (hf : 1 ≤ R.frames) {V : Nat} (hV : (st.map fun v => v.category).sum ≤ V) (hl : V + 12 ≤ R.locals)
    (K : ∀ T', Stand p l e R s m args below meth c T' locs cells slots → T'.heap = h → Go p e below W T' (mkF m (pc + 3) Ls st)) : Go p e below W T (mkF m pc Ls (.ref a :: st)) := by
  obtain ⟨T', X', e', st'⟩ := Jvm.RoadKit.initO X hx hZ hown w1 w2 w3 eT (g := mkF m pc Ls (.ref a :: st)) rfl hsize rfl hd hf (W := V) (by show 2 * 0 + _ ≤ _; omega) hl
  exact Go.of st' (K _ X' e')
/-- a constructor by its contract -/
theorem Go.callI (X : Stand p l e R s m args below meth c T locs cells slots) (hx : p.tables.exec = Jvm.exec) (hZ : Z.Warmed39 s.vm) {own : String} {index : Nat} {y : MethodName} {bytes : ByteArray} {maxL : Nat} {rm : Room} {as' : Array Value} {Q : Option Value → Heap → List Loc → Prop} (hy1 : y.name = "<init>") (hown : s.vm.findClass own = some m.cls)
    (w1 : (Jvm.Cond.methodLink own index y).before a0 Z = true) (w2 : (Jvm.Cond.instanceMethod y).before a0 Z = true) (w3 : (Jvm.Cond.initialized y.cls).before a0 Z = true) (w4 : (Jvm.Cond.code y bytes maxL none).before a0 Z = true) (hy : y.cls ≠ "java/lang/invoke/MethodHandle" ∧ y.cls ≠ "java/lang/invoke/VarHandle") (eT : T.heap = h)
    (hM : Con l Z y bytes maxL none [] rm as' h Q) {V : Nat} (hf : rm.frames + 1 ≤ R.frames) (hl : V + (maxL + 11) + rm.locals ≤ R.locals) (hc : cells + rm.cells ≤ R.cells) (hs : slots + rm.slots ≤ R.slots)
    {pc : Nat} {Ls : Array Slot} {st : List Value} (hsize : Ls.size = c.maxLocals) {a : Addr} {argsL rest : List Value} (has : (.ref a :: argsL).toArray = as') (hlen : ∀ sig, parseMethodDescriptor y.desc = some sig → argsL.length = sig.parameters.length) (hstack : st = argsL.reverse ++ .ref a :: rest) (hV : (rest.map fun v => v.category).sum ≤ V) (hd : decode c.code pc = .ok (.invokespecial index, 3))
    (K : ∀ T' v L, Q v T'.heap L → Stand p l e R s m args below meth c T' (locs ++ L) (cells + rm.cells) (slots + rm.slots) → Go p e below W T' (mkF m (pc + 3) Ls (v.toList ++ rest))) : Go p e below W T (mkF m pc Ls st) := by
  obtain ⟨v, vm₁, ⟨T', L', k', n'⟩, -, X', ⟨L, hQ, e1, e2, e3⟩, st'⟩ := X.specialBack hx hy1 hown (mvT hZ w1) (mvT hZ w2) (mvT hZ w4) hy (backOf (W := V) hM hZ w4 w3 hf hl) (g := mkF m pc Ls st) rfl hsize (Steps.refl _) hlen hstack (by show 2 * 0 + _ ≤ _; omega) hd (fun _ _ => ⟨has, eT, hc, hs⟩)
  dsimp only [Pt.U, Pt.locs, Pt.cells, Pt.slots] at X' e1 e2 e3 st' hQ
  subst e1 e2 e3
  exact Go.of (fun _ k => st'.trans k) (K _ _ _ hQ X')
/-- an instance method by the contract of the body that the receiver's class selects -/
theorem Go.callV (X : Stand p l e R s m args below meth c T locs cells slots) (hx : p.tables.exec = Jvm.exec) (hZ : Z.Warmed39 s.vm) {own C : String} {index : Nat} {y : MethodName} {bytes : ByteArray} {maxL : Nat} {ret : Option FieldType} {rm : Room} {as' : Array Value} {Q : Option Value → Heap → List Loc → Prop} (hown : s.vm.findClass own = some m.cls)
    (w1 : (Jvm.Cond.methodLink own index y).before a0 Z = true) (w5 : (Jvm.Cond.declares y).before a0 Z = true) (w6 : (Jvm.Cond.selects C y y).before a0 Z = true) (w2 : (Jvm.Cond.instanceMethod y).before a0 Z = true) (w3 : (Jvm.Cond.initialized y.cls).before a0 Z = true) (w4 : (Jvm.Cond.code y bytes maxL ret).before a0 Z = true) (hy : y.cls ≠ "java/lang/invoke/MethodHandle" ∧ y.cls ≠ "java/lang/invoke/VarHandle") (eT : T.heap = h)
    {a : Addr} (E : Exa Z h a C) (hM : Con l Z y bytes maxL ret [] rm as' h Q) {V : Nat} (hf : rm.frames + 1 ≤ R.frames) (hl : V + (maxL + 11) + rm.locals ≤ R.locals) (hc : cells + rm.cells ≤ R.cells) (hs : slots + rm.slots ≤ R.slots)
    {pc : Nat} {Ls : Array Slot} {st : List Value} (hsize : Ls.size = c.maxLocals) {argsL rest : List Value} (has : (.ref a :: argsL).toArray = as') (hlen : ∀ sig, parseMethodDescriptor y.desc = some sig → argsL.length = sig.parameters.length) (hstack : st = argsL.reverse ++ .ref a :: rest) (hV : (rest.map fun v => v.category).sum ≤ V) (hd : decode c.code pc = .ok (.invokevirtual index, 3))
    (K : ∀ T' v L, Q v T'.heap L → Stand p l e R s m args below meth c T' (locs ++ L) (cells + rm.cells) (slots + rm.slots) → Go p e below W T' (mkF m (pc + 3) Ls (v.toList ++ rest))) : Go p e below W T (mkF m pc Ls st) := by
  obtain ⟨cq, kq, qa, qb, qc⟩ := isOf hZ eT E
  obtain ⟨v, vm₁, ⟨T', L', k', n'⟩, -, X', ⟨L, hQ, e1, e2, e3⟩, st'⟩ := X.virtualBack hx hown (mvT hZ w1) (mvT hZ w5) (notFace_of_selects (args := #[]) (mvT hZ w6)) (mvT hZ w6) (mvT hZ w2) hy (backOf (W := V) hM hZ w4 w3 hf hl) qa qc (g := mkF m pc Ls st) rfl hsize (Steps.refl _) hlen hstack (by show 2 * 0 + _ ≤ _; omega) hd (fun _ _ => ⟨has, eT, hc, hs⟩)
  dsimp only [Pt.U, Pt.locs, Pt.cells, Pt.slots] at X' e1 e2 e3 st' hQ
  subst e1 e2 e3
  exact Go.of (fun _ k => st'.trans k) (K _ _ _ hQ X')
end OwnHeap
section OwnMore
variable {p : Program} {l : Launch} {e : Env} {R : Room} {s : State} {m : MethodId} {args : Array Value} {below : List Frame} {meth : Method} {c : Code} {T : State} {locs : List Loc} {cells slots : Nat} {Z : State} {a0 : Array Value} {h h' : Heap} {W : State → Outcome → Prop}
/-- the model's own selection picks a private method itself -/
theorem own_selects {y : MethodName} {n : Nat} (hy : y.cls ≠ "java/lang/invoke/MethodHandle" ∧ y.cls ≠ "java/lang/invoke/VarHandle") (hins : (Jvm.Cond.instantiable y.cls n).before args s = true) (hpriv : (Jvm.Cond.privateMethod y).before args s = true) (hinst : (Jvm.Cond.instanceMethod y).before args s = true) :
    (Jvm.Cond.selects y.cls y y).before args s = true := by
  obtain ⟨c, k, hc, hk, -, hniab, -, -⟩ := Cond.instantiable_spec hins
  have hni : k.isInterface = false := (Bool.or_eq_false_iff.mp hniab).1
  obtain ⟨mk, methM, hnamed, hmethM, -, -⟩ := Cond.instanceMethod_spec hinst
  have hfound : s.methodFound? y.cls y.name y.desc = some mk := State.methodFound?_of_named hnamed hy
  have hcls : mk.cls = c := Option.some.inj ((findClass_of_methodNamed hnamed).symm.trans hc)
  have hsel : selectMethod {} s.vm c mk = .method mk := selectMethod_private hmethM (Cond.privateMethod_at hpriv mk methM hnamed hmethM)
  simp only [Cond.before, Cond.holds, Cond.value, hc, hfound, hnamed, hsel, hcls, hk]
  simp; exact hni
theorem Go.callPr (X : Stand p l e R s m args below meth c T locs cells slots) (hx : p.tables.exec = Jvm.exec) (hZ : Z.Warmed39 s.vm) {own : String} {index kk : Nat} {y : MethodName} {bytes : ByteArray} {maxL : Nat} {ret : Option FieldType} {rm : Room} {as' : Array Value} {Q : Option Value → Heap → List Loc → Prop} (hown : s.vm.findClass own = some m.cls)
    (w1 : (Jvm.Cond.methodLink own index y).before a0 Z = true) (w5 : (Jvm.Cond.instantiable y.cls kk).before a0 Z = true) (w6 : (Jvm.Cond.privateMethod y).before a0 Z = true) (w2 : (Jvm.Cond.instanceMethod y).before a0 Z = true) (w3 : (Jvm.Cond.initialized y.cls).before a0 Z = true) (w4 : (Jvm.Cond.code y bytes maxL ret).before a0 Z = true) (hy : y.cls ≠ "java/lang/invoke/MethodHandle" ∧ y.cls ≠ "java/lang/invoke/VarHandle") (eT : T.heap = h)
    {a : Addr} {C : String} (E : Exa Z h a C) (hM : Con l Z y bytes maxL ret [] rm as' h Q) {V : Nat} (hf : rm.frames + 1 ≤ R.frames) (hl : V + (maxL + 11) + rm.locals ≤ R.locals) (hc : cells + rm.cells ≤ R.cells) (hs : slots + rm.slots ≤ R.slots)
    {pc : Nat} {Ls : Array Slot} {st : List Value} (hsize : Ls.size = c.maxLocals) {argsL rest : List Value} (has : (.ref a :: argsL).toArray = as') (hlen : ∀ sig, parseMethodDescriptor y.desc = some sig → argsL.length = sig.parameters.length) (hstack : st = argsL.reverse ++ .ref a :: rest) (hV : (rest.map fun v => v.category).sum ≤ V) (hd : decode c.code pc = .ok (.invokevirtual index, 3))
    (K : ∀ T' v L, Q v T'.heap L → Stand p l e R s m args below meth c T' (locs ++ L) (cells + rm.cells) (slots + rm.slots) → Go p e below W T' (mkF m (pc + 3) Ls (v.toList ++ rest))) : Go p e below W T (mkF m pc Ls st) := by
  obtain ⟨cq, q1, q2⟩ := E.cell
  obtain ⟨v, vm₁, ⟨T', L', k', n'⟩, -, X', ⟨L, hQ, e1, e2, e3⟩, st'⟩ := X.privateBack hx hown (mvT hZ w1) (mvT hZ w2) (own_selects hy (mvT hZ w5) (mvP hZ w6) (mvT hZ w2)) (Cond.privateMethod_at (mvP hZ w6 (args := #[]))) (mvT hZ w4) hy (backOf (W := V) hM hZ w4 w3 hf hl) (g := mkF m pc Ls st) rfl hsize (Steps.refl _) (a := a) (by rw [eT]; exact q1) q2 hlen hstack (by show 2 * 0 + _ ≤ _; omega) hd (fun _ _ => ⟨has, eT, hc, hs⟩)
  dsimp only [Pt.U, Pt.locs, Pt.cells, Pt.slots] at X' e1 e2 e3 st' hQ
  subst e1 e2 e3
  exact Go.of (fun _ k => st'.trans k) (K _ _ _ hQ X')
theorem Go.clone (X : Stand p l e R s m args below meth c T locs cells slots) (hx : p.tables.exec = Jvm.exec) (hZ : Z.Warmed39 s.vm) {own ad : String} {index : Nat} (hown : s.vm.findClass own = some m.cls)
    (w1 : (Jvm.Cond.methodLink own index ⟨ad, "clone", "()Ljava/lang/Object;"⟩).before a0 Z = true) (w2 : (Jvm.Cond.sameMethod ad "java/lang/Object" "clone" "()Ljava/lang/Object;").before a0 Z = true) (w3 : (Jvm.Cond.native ⟨"java/lang/Object", "clone", "()Ljava/lang/Object;"⟩).before a0 Z = true)
    (w4 : (Jvm.Cond.instanceMethod ⟨"java/lang/Object", "clone", "()Ljava/lang/Object;"⟩).before a0 Z = true) (w5 : (Jvm.Cond.selects ad ⟨ad, "clone", "()Ljava/lang/Object;"⟩ ⟨"java/lang/Object", "clone", "()Ljava/lang/Object;"⟩).before a0 Z = true) (w6 : (Jvm.Cond.castable ad "java/lang/Cloneable").before a0 Z = true)
    (eT : T.heap = h) {a : Addr} {ty : FieldType} {n : Nat} {f : Nat → Int32} (A : AI Z h a ty n f) (E : Exa Z h a ad) {pc : Nat} {Ls : Array Slot} {st : List Value} (hsize : Ls.size = c.maxLocals) (hd : decode c.code pc = .ok (.invokevirtual index, 3))
    (hf : 1 ≤ R.frames) {V cap : Nat} (hV : (st.map fun v => v.category).sum ≤ V) (hl : V + 14 ≤ R.locals) (hcap : n ≤ cap) (hc : cells + 1 ≤ R.cells) (hsl : slots + cap ≤ R.slots)
    (K : ∀ T' h' b, b = h.size → Stand p l e R s m args below meth c T' locs (cells + 1) (slots + cap) → T'.heap = h' → Ext h h' → Exa Z h' b ad → AI Z h' b ty n f → Go p e below W T' (mkF m (pc + 3) Ls (.ref b :: st))) : Go p e below W T (mkF m pc Ls (.ref a :: st)) := by
  obtain ⟨cl, A', r1, r2, r3⟩ := id A
  have FC : FitC Z cl := fitC_of A' fun i hi v hv => by rw [(r3 i (r1 ▸ hi)).1] at hv; cases hv; exact (r3 i (r1 ▸ hi)).2
  obtain ⟨T', h', X', e', ex, B', E', st'⟩ := cloneA X hx hZ hown w1 w2 w3 w4 w5 w6 eT A' E FC (g := mkF m pc Ls (.ref a :: st)) rfl hsize rfl hd hf (W := V) (by show 2 * 0 + _ ≤ _; omega) hl (by rw [r1]; exact hcap) hc hsl
  exact Go.of st' (K _ _ _ rfl X' e' ex E' ⟨cloneOf cl, B', r1, r2, r3⟩)
theorem Go.cast (X : Stand p l e R s m args below meth c T locs cells slots) (hx : p.tables.exec = Jvm.exec) (hZ : Z.Warmed39 s.vm) {own C : String} {index : Nat} (hown : s.vm.findClass own = some m.cls) (w : (Jvm.Cond.classLink own index C).before a0 Z = true) (eT : T.heap = h) {a : Addr} (E : Exa Z h a C)
    {pc : Nat} {Ls : Array Slot} {st : List Value} (hd : decode c.code pc = .ok (.checkcast index, 3)) (K : ∀ T', Stand p l e R s m args below meth c T' locs cells slots → T'.heap = h → Go p e below W T' (mkF m (pc + 3) Ls (.ref a :: st))) : Go p e below W T (mkF m pc Ls (.ref a :: st)) := by
  obtain ⟨T', X', e', st'⟩ := castY X hx hZ hown w eT (Ins.self E) (g := mkF m pc Ls (.ref a :: st)) rfl rfl hd
  exact Go.of st' (K _ X' e')
theorem AI.arv {a : Addr} {ty : FieldType} {n : Nat} {f : Nat → Int32} (A : AI Z h a ty n f) : ∃ k, Arv Z h a k ty (Int32.ofNat n) ((List.range n).map fun j => .int (f j)) (.int 0) := by
  obtain ⟨cl, A, r1, r2, r3⟩ := A
  have e1 : (Int32.ofNat n).toInt = n := Int32.toInt_ofNat_of_lt (by omega)
  have e2 : (Int32.ofNat n).toNatClampNeg = n := by rw [Int32.toNatClampNeg, e1]; rfl
  have e3 : ∀ k, k < n → ((List.range n).map fun j => Value.int (f j)).getD k (.int 0) = .int (f k) := fun k hk => by simp [List.getD_eq_getElem?_getD, hk]
  refine ⟨cl.cls, cl, A, rfl, by rw [e2]; exact r1, ?_, fun k hk => ?_, fun k hk => ?_⟩
  · rw [Int32.lt_iff_toInt_lt, e1, show (0 : Int32).toInt = 0 from rfl]; omega
  · rw [e3 k (r1 ▸ hk)]; exact (r3 k (r1 ▸ hk)).1
  · rw [e3 k (r1 ▸ hk)]; exact (r3 k (r1 ▸ hk)).2
theorem AI.of_arv {a : Addr} {k : ClassId} {ty : FieldType} {n : Nat} {z : Int32} {vs : List Value} {d : Value} {f : Nat → Int32} (A : Arv Z h a k ty z vs d) (hz : z.toNatClampNeg = n) (hn : n < 2 ^ 31) (q : ∀ j, j < n → vs.getD j d = .int (f j)) : AI Z h a ty n f := by
  obtain ⟨cl, A, -, S, -, H, G⟩ := A
  rw [hz] at S
  exact ⟨cl, A, S, hn, fun j hj => by rw [← q j hj]; exact ⟨H j (by omega), G j (by omega)⟩⟩
/-- what a copy of nn places from sp on to dp leaves -/
def cpf (f g : Nat → Int32) (sp dp nn : Nat) : Nat → Int32 := fun j => if dp ≤ j ∧ j < dp + nn then f (sp + (j - dp)) else g j
theorem Go.acopy (X : Stand p l e R s m args below meth c T locs cells slots) (hx : p.tables.exec = Jvm.exec) (hZ : Z.Warmed39 s.vm) {own : String} {index : Nat} (hown : s.vm.findClass own = some m.cls)
    (w1 : (Jvm.Cond.methodLink own index Jvm.Stand.acN).before a0 Z = true) (w2 : (Jvm.Cond.native Jvm.Stand.acN).before a0 Z = true) (w3 : (Jvm.Cond.static Jvm.Stand.acN).before a0 Z = true) (w4 : (Jvm.Cond.initialized "java/lang/System").before a0 Z = true) (eT : T.heap = h)
    {a b : Addr} {ty : FieldType} {n n' : Nat} {f g : Nat → Int32} (A : AI Z h a ty n f) (B : AI Z h b ty n' g) (hty : refKind ty = false) {sp dp nn : Int32} (h1 : ¬ sp < 0) (h2 : ¬ dp < 0) (h3 : ¬ nn < 0) (h4 : sp.toNatClampNeg + nn.toNatClampNeg ≤ n) (h5 : dp.toNatClampNeg + nn.toNatClampNeg ≤ n')
    {n0 : Nat} (N : Fr n0 locs) (gb : n0 ≤ b) {pc : Nat} {Ls : Array Slot} {st : List Value} (hsize : Ls.size = c.maxLocals) (hd : decode c.code pc = .ok (.invokestatic index, 3)) (hf : 1 ≤ R.frames) {V : Nat} (hV : (st.map fun v => v.category).sum ≤ V) (hlo : V + (nativeFrameWords "java/lang/System" "arraycopy" 5 + 11) ≤ R.locals)
    (K : ∀ T' h' L', Stand p l e R s m args below meth c T' L' cells slots → Fr n0 L' → T'.heap = h' → Keep h h' [b] → AI Z h' b ty n' (cpf f g sp.toNatClampNeg dp.toNatClampNeg nn.toNatClampNeg) → Go p e below W T' (mkF m (pc + 3) Ls st)) : Go p e below W T (mkF m pc Ls (.int nn :: .int dp :: .ref b :: .int sp :: .ref a :: st)) := by
  obtain ⟨ka, Va⟩ := A.arv
  obtain ⟨kb, Vb⟩ := B.arv
  have na := A.small
  have nb := B.small
  have ea : (Int32.ofNat n).toNatClampNeg = n := by rw [Int32.toNatClampNeg, Int32.toInt_ofNat_of_lt (by omega)]; rfl
  have eb : (Int32.ofNat n').toNatClampNeg = n' := by rw [Int32.toNatClampNeg, Int32.toInt_ofNat_of_lt (by omega)]; rfl
  obtain ⟨T', h', L', X', e', N', K', V', st'⟩ := cpA X hx hZ hown w1 w2 w3 w4 eT Va Vb (Or.inl ⟨rfl, hty⟩) h1 h2 h3 (by rw [ea]; exact h4) (by rw [eb]; exact h5) rfl (by simpa using h5) N gb (g := mkF m pc Ls (.int nn :: .int dp :: .ref b :: .int sp :: .ref a :: st)) rfl hsize rfl hd hf (W := V) (by show 2 * 0 + _ ≤ _; omega) hlo
  refine Go.of st' (K _ _ _ X' N' e' K' (AI.of_arv V' eb nb fun j hj => ?_))
  have l1 : (((List.range n').map fun j => Value.int (g j)).take dp.toNatClampNeg).length = dp.toNatClampNeg := by rw [List.length_take]; simp; omega
  simp only [List.getD_eq_getElem?_getD, cpf]
  by_cases c1 : j < dp.toNatClampNeg
  · rw [if_neg (by omega), List.append_assoc, List.getElem?_append_left (by omega), List.getElem?_take_of_lt c1]
    simp [hj]
  · by_cases c2 : j < dp.toNatClampNeg + nn.toNatClampNeg
    · rw [if_pos ⟨by omega, c2⟩, List.getElem?_append_left (by rw [List.length_append, l1]; simp; omega), List.getElem?_append_right (by omega), l1]
      have q1 : j - dp.toNatClampNeg < nn.toNatClampNeg := by omega
      have q2 : sp.toNatClampNeg + (j - dp.toNatClampNeg) < n := by omega
      simp [q1, q2]
    · rw [if_neg (by omega), List.getElem?_append_right (by rw [List.length_append, l1]; simp; omega), List.length_append, l1, List.getElem?_drop]
      simp only [List.length_map, List.length_range]
      rw [show dp.toNatClampNeg + nn.toNatClampNeg + (j - (dp.toNatClampNeg + nn.toNatClampNeg)) = j by omega]
      simp [hj]
end OwnMore
section OwnNats
theorem own_toInt {n : Nat} (h : n < 2147483648) : (Int32.ofNat n).toInt = n := Int32.toInt_ofNat_of_lt (by omega)
theorem own_lt {i n : Nat} (h : i < n) (hn : n < 2147483648) : Int32.ofNat i < Int32.ofNat n := by
  rw [Int32.lt_iff_toInt_lt, own_toInt (by omega), own_toInt (by omega)]
  omega
theorem own_nlt {i n : Nat} (h : n ≤ i) (hn : i < 2147483648) : ¬ Int32.ofNat i < Int32.ofNat n := by
  rw [Int32.lt_iff_toInt_lt, own_toInt (by omega), own_toInt (by omega)]
  omega
theorem own_nn {n : Nat} (hn : n < 2147483648) : ¬ Int32.ofNat n < 0 := by
  rw [Int32.lt_iff_toInt_lt, own_toInt hn, show (0 : Int32).toInt = 0 from rfl]
  omega
theorem own_n32 {n : Nat} (hn : n < 2147483648) : (Int32.ofNat n).toNatClampNeg = n := by
  rw [Int32.toNatClampNeg, own_toInt hn]; rfl
theorem own_one (i : Nat) : Int32.ofNat i + (1 : Int32) = Int32.ofNat (i + 1) := (Int32.ofNat_add i 1).symm
theorem own_inbN {i n : Nat} (h : i < n) (hn : n ≤ 2147483648) : inb (Int32.ofNat i) n := ⟨own_nn (by omega), by rw [own_n32 (by omega)]; exact h⟩
theorem own_back {x : Int32} (h : ¬ x < 0) : Int32.ofNat x.toNatClampNeg = x := (back32 h).1
end OwnNats

def own_rng (a b : Int32) : Prop := 1 ≤ a.toInt ∧ a.toInt ≤ b.toInt ∧ b.toInt ≤ 4
def own_rk (a : Int32) : Prop := 1 ≤ a.toInt ∧ a.toInt ≤ 4
def own_rs (a : Int32) : Prop := 0 ≤ a.toInt ∧ a.toInt ≤ 4
theorem own_zero {n : Nat} (h : 0 < n := by decide) : ∀ j : Nat, j < n → inb (0 : Int32) n := fun _ _ => ⟨by decide, h⟩
theorem own_updin {f : Nat → Int32} {i n : Nat} {x : Int32} (h : ∀ j, j < n → inb (f j) n) (hx : inb x n) : ∀ j, j < n → inb (upd f i x j) n := fun j hj => by
  simp only [upd]
  by_cases q : j = i
  · rw [if_pos q]; exact hx
  · rw [if_neg q]; exact h j hj
theorem own_in5 {x : Int32} (h0 : 0 ≤ x.toInt) (h1 : x.toInt < 5) : inb x 5 := by
  refine ⟨?_, ?_⟩
  · rw [Int32.lt_iff_toInt_lt, show (0 : Int32).toInt = 0 from rfl]; omega
  · show x.toInt.toNat < 5
    omega
theorem own_b1 {a b : Int32} (h : own_rng a b) : inb a 5 := own_in5 (by have := h.1; omega) (by have := h.2; omega)
theorem own_b2 {a b : Int32} (h : own_rng a b) : inb b 5 := own_in5 (by have := h.1; have := h.2; omega) (by have := h.2; omega)
theorem own_up {a : Int32} (h : a.toInt ≤ 1000) : (a + 1).toInt = a.toInt + 1 := by
  have e : ((a + 1).toInt - (a.toInt + 1)) % 4294967296 = 0 := c_iadd a 1
  have r1 := rng32 a
  have r2 := rng32 (a + 1)
  omega
theorem own_dn {a : Int32} (h : -1000 ≤ a.toInt) : (a + -1).toInt = a.toInt - 1 := by
  have e : ((a + -1).toInt - (a.toInt + -1)) % 4294967296 = 0 := c_iadd a (-1)
  have r1 := rng32 a
  have r2 := rng32 (a + -1)
  omega
theorem own_b3 {a b : Int32} (h : own_rng a b) (c : a + 1 < b + -1) : inb (a + 1) 5 := by
  obtain ⟨h1, h2, h3⟩ := h
  rw [Int32.lt_iff_toInt_lt, own_up (by omega), own_dn (by omega)] at c
  exact own_in5 (by rw [own_up (by omega)]; omega) (by rw [own_up (by omega)]; omega)
theorem own_b4 {a b : Int32} (h : own_rng a b) (c : a + 1 < b + -1) : inb (b + -1) 5 := by
  obtain ⟨h1, h2, h3⟩ := h
  rw [Int32.lt_iff_toInt_lt, own_up (by omega), own_dn (by omega)] at c
  exact own_in5 (by rw [own_dn (by omega)]; omega) (by rw [own_dn (by omega)]; omega)
theorem own_done {a b : Int32} (h : own_rng a b) : ¬ a + 1 + 1 < b + -1 + -1 := by
  obtain ⟨h1, h2, h3⟩ := h
  rw [Int32.lt_iff_toInt_lt, own_up (by rw [own_up (by omega)]; omega), own_up (by omega), own_dn (by rw [own_dn (by omega)]; omega), own_dn (by omega)]
  omega
theorem own_b5 {a b x : Int32} (h : own_rng a b) (c1 : ¬ x < a) (c2 : ¬ b < x) : inb (a + b - x) 5 := by
  obtain ⟨h1, h2, h3⟩ := h
  rw [Int32.lt_iff_toInt_lt] at c1 c2
  have e1 : ((a + b).toInt - (a.toInt + b.toInt)) % 4294967296 = 0 := c_iadd a b
  have r1 := rng32 (a + b)
  have e2 : ((a + b - x).toInt - ((a + b).toInt - x.toInt)) % 4294967296 = 0 := c_isub (a + b) x
  have r2 := rng32 (a + b - x)
  exact own_in5 (by omega) (by omega)
theorem own_nz {a b : Int32} (h : own_rng a b) : (5 : Int32) - a ≠ 0 := by
  obtain ⟨h1, h2, h3⟩ := h
  have e : ((5 - a).toInt - (5 - a.toInt)) % 4294967296 = 0 := c_isub 5 a
  have r := rng32 (5 - a)
  intro q
  rw [q, show (0 : Int32).toInt = 0 from rfl] at e
  omega
theorem pd__II_I : parseMethodDescriptor "(II)I" = some ⟨[.int, .int], some .int⟩ := by decide +kernel
theorem pd___III_V : parseMethodDescriptor "([III)V" = some ⟨[(.array .int), .int, .int], none⟩ := by decide +kernel
theorem pd___I_V : parseMethodDescriptor "([I)V" = some ⟨[(.array .int)], none⟩ := by decide +kernel
theorem pd__I_I : parseMethodDescriptor "(I)I" = some ⟨[.int], some .int⟩ := by decide +kernel
theorem d1_0 : decode method_3_code 0 = .ok (.iload_n 0, 1) := by decide +kernel
theorem d1_1 : decode method_3_code 1 = .ok (.iconst 3, 1) := by decide +kernel
theorem d1_2 : decode method_3_code 2 = .ok (.iand, 1) := by decide +kernel
theorem d1_3 : decode method_3_code 3 = .ok (.iload_n 1, 1) := by decide +kernel
theorem d1_4 : decode method_3_code 4 = .ok (.irem, 1) := by decide +kernel
theorem d1_5 : decode method_3_code 5 = .ok (.ireturn, 1) := by decide +kernel
theorem pn_1 : plainFor (⟨"com/example/pilfer/pilfer/TourNextPinLaw", "lo", "(II)I"⟩ : MethodName) = true := plainFor_of_name (by show plainName "com/example/pilfer/pilfer/TourNextPinLaw" = true; first | (simp [plainName, overriddenIn]; done) | decide +kernel)
theorem ef_1 (m : MethodId) (p1 : Int32) (p2 : Int32) : entryFrame m #[(.int p1), (.int p2)] 2 = mkF m 0 #[.val (.int p1), .val (.int p2)] [] := by first | (simp [entryFrame, mkF, argsToLocals, Value.category]; done) | rfl
def f1 (p1 : Int32) (p2 : Int32) : Int32 := ((p1 &&& (3 : Int32)) % p2)
theorem d2_0 : decode method_4_code 0 = .ok (.iload_n 0, 1) := by decide +kernel
theorem d2_1 : decode method_4_code 1 = .ok (.iconst 2, 1) := by decide +kernel
theorem d2_2 : decode method_4_code 2 = .ok (.iushr, 1) := by decide +kernel
theorem d2_3 : decode method_4_code 3 = .ok (.iconst 3, 1) := by decide +kernel
theorem d2_4 : decode method_4_code 4 = .ok (.iand, 1) := by decide +kernel
theorem d2_5 : decode method_4_code 5 = .ok (.iload_n 1, 1) := by decide +kernel
theorem d2_6 : decode method_4_code 6 = .ok (.irem, 1) := by decide +kernel
theorem d2_7 : decode method_4_code 7 = .ok (.ireturn, 1) := by decide +kernel
theorem pn_2 : plainFor (⟨"com/example/pilfer/pilfer/TourNextPinLaw", "hi", "(II)I"⟩ : MethodName) = true := plainFor_of_name (by show plainName "com/example/pilfer/pilfer/TourNextPinLaw" = true; first | (simp [plainName, overriddenIn]; done) | decide +kernel)
theorem ef_2 (m : MethodId) (p1 : Int32) (p2 : Int32) : entryFrame m #[(.int p1), (.int p2)] 2 = mkF m 0 #[.val (.int p1), .val (.int p2)] [] := by first | (simp [entryFrame, mkF, argsToLocals, Value.category]; done) | rfl
def f2 (p1 : Int32) (p2 : Int32) : Int32 := ((((p1.toUInt32 >>> ((2 : Int32) &&& 31).toUInt32).toInt32) &&& (3 : Int32)) % p2)
theorem d3_0 : decode method_2_code 0 = .ok (.aload_n 0, 1) := by decide +kernel
theorem d3_1 : decode method_2_code 1 = .ok (.iload_n 1, 1) := by decide +kernel
theorem d3_2 : decode method_2_code 2 = .ok (.iaload, 1) := by decide +kernel
theorem d3_3 : decode method_2_code 3 = .ok (.istore_n 3, 1) := by decide +kernel
theorem d3_4 : decode method_2_code 4 = .ok (.aload_n 0, 1) := by decide +kernel
theorem d3_5 : decode method_2_code 5 = .ok (.iload_n 1, 1) := by decide +kernel
theorem d3_6 : decode method_2_code 6 = .ok (.aload_n 0, 1) := by decide +kernel
theorem d3_7 : decode method_2_code 7 = .ok (.iload_n 2, 1) := by decide +kernel
theorem d3_8 : decode method_2_code 8 = .ok (.iaload, 1) := by decide +kernel
theorem d3_9 : decode method_2_code 9 = .ok (.iastore, 1) := by decide +kernel
theorem d3_10 : decode method_2_code 10 = .ok (.aload_n 0, 1) := by decide +kernel
theorem d3_11 : decode method_2_code 11 = .ok (.iload_n 2, 1) := by decide +kernel
theorem d3_12 : decode method_2_code 12 = .ok (.iload_n 3, 1) := by decide +kernel
theorem d3_13 : decode method_2_code 13 = .ok (.iastore, 1) := by decide +kernel
theorem d3_14 : decode method_2_code 14 = .ok (.return_, 1) := by decide +kernel
theorem pn_3 : plainFor (⟨"com/example/pilfer/pilfer/TourNextPinLaw", "swap", "([III)V"⟩ : MethodName) = true := plainFor_of_name (by show plainName "com/example/pilfer/pilfer/TourNextPinLaw" = true; first | (simp [plainName, overriddenIn]; done) | decide +kernel)
theorem ef_3 (m : MethodId) (a1 : Addr) (p2 : Int32) (p3 : Int32) : entryFrame m #[(.ref a1), (.int p2), (.int p3)] 4 = mkF m 0 #[.val (.ref a1), .val (.int p2), .val (.int p3), .unset] [] := by first | (simp [entryFrame, mkF, argsToLocals, Value.category]; done) | rfl
def v3_1 (p2 : Int32) (p3 : Int32) (fo : Nat → Int32) (n : Nat) : Int32 := (fo (p2).toNatClampNeg)
def w3_3 (p2 : Int32) (p3 : Int32) (fo : Nat → Int32) (n : Nat) : Nat → Int32 := upd fo (p2).toNatClampNeg (fo (p3).toNatClampNeg)
def w3_5 (p2 : Int32) (p3 : Int32) (fo : Nat → Int32) (n : Nat) : Nat → Int32 := upd (w3_3 p2 p3 fo n) (p3).toNatClampNeg (v3_1 p2 p3 fo n)
def f3_a1 (p2 : Int32) (p3 : Int32) (fo : Nat → Int32) (n : Nat) : Nat → Int32 := (w3_5 p2 p3 fo n)
def Q3 (Z : State) (a1 : Addr) (p2 : Int32) (p3 : Int32) (fo : Nat → Int32) (n : Nat) (h0 : Heap) (n0 : Nat) (v : Option Value) (h : Heap) (L : List Loc) : Prop := v = none ∧ Fr n0 L ∧ Keep h0 h [a1] ∧ AI Z h a1 .int n (f3_a1 p2 p3 fo n)
theorem d4_0 : decode prog_24_method_1_code 0 = .ok (.aload_n 0, 1) := by decide +kernel
theorem d4_1 : decode prog_24_method_1_code 1 = .ok (.invokespecial 1, 3) := by decide +kernel
theorem d4_4 : decode prog_24_method_1_code 4 = .ok (.aload_n 0, 1) := by decide +kernel
theorem d4_5 : decode prog_24_method_1_code 5 = .ok (.aload_n 1, 1) := by decide +kernel
theorem d4_6 : decode prog_24_method_1_code 6 = .ok (.putfield 7, 3) := by decide +kernel
theorem d4_9 : decode prog_24_method_1_code 9 = .ok (.aload_n 0, 1) := by decide +kernel
theorem d4_10 : decode prog_24_method_1_code 10 = .ok (.aload_n 1, 1) := by decide +kernel
theorem d4_11 : decode prog_24_method_1_code 11 = .ok (.arraylength, 1) := by decide +kernel
theorem d4_12 : decode prog_24_method_1_code 12 = .ok (.newarray .int, 2) := by decide +kernel
theorem d4_14 : decode prog_24_method_1_code 14 = .ok (.putfield 13, 3) := by decide +kernel
theorem d4_17 : decode prog_24_method_1_code 17 = .ok (.iconst 0, 1) := by decide +kernel
theorem d4_18 : decode prog_24_method_1_code 18 = .ok (.istore_n 2, 1) := by decide +kernel
theorem d4_19 : decode prog_24_method_1_code 19 = .ok (.iload_n 2, 1) := by decide +kernel
theorem d4_20 : decode prog_24_method_1_code 20 = .ok (.aload_n 1, 1) := by decide +kernel
theorem d4_21 : decode prog_24_method_1_code 21 = .ok (.arraylength, 1) := by decide +kernel
theorem d4_22 : decode prog_24_method_1_code 22 = .ok (.if_icmp .ge 18, 3) := by decide +kernel
theorem d4_25 : decode prog_24_method_1_code 25 = .ok (.aload_n 0, 1) := by decide +kernel
theorem d4_26 : decode prog_24_method_1_code 26 = .ok (.getfield 13, 3) := by decide +kernel
theorem d4_29 : decode prog_24_method_1_code 29 = .ok (.aload_n 1, 1) := by decide +kernel
theorem d4_30 : decode prog_24_method_1_code 30 = .ok (.iload_n 2, 1) := by decide +kernel
theorem d4_31 : decode prog_24_method_1_code 31 = .ok (.iaload, 1) := by decide +kernel
theorem d4_32 : decode prog_24_method_1_code 32 = .ok (.iload_n 2, 1) := by decide +kernel
theorem d4_33 : decode prog_24_method_1_code 33 = .ok (.iastore, 1) := by decide +kernel
theorem d4_34 : decode prog_24_method_1_code 34 = .ok (.iinc 2 1, 3) := by decide +kernel
theorem d4_37 : decode prog_24_method_1_code 37 = .ok (.goto (-18), 3) := by decide +kernel
theorem d4_40 : decode prog_24_method_1_code 40 = .ok (.return_, 1) := by decide +kernel
theorem pn_4 : plainFor (⟨"com/example/pilfer/pilfer/Tour", "<init>", "([I)V"⟩ : MethodName) = true := plainFor_of_name (by show plainName "com/example/pilfer/pilfer/Tour" = true; first | (simp [plainName, overriddenIn]; done) | decide +kernel)
theorem ef_4 (m : MethodId) (a1 : Addr) (a2 : Addr) : entryFrame m #[(.ref a1), (.ref a2)] 3 = mkF m 0 #[.val (.ref a1), .val (.ref a2), .unset] [] := by first | (simp [entryFrame, mkF, argsToLocals, Value.category]; done) | rfl
def w4_4 (fo : Nat → Int32) (n : Nat) : Nat → Int32 := fun _ => 0
def Q4 (Z : State) (a1 : Addr) (a2 : Addr) (fo : Nat → Int32) (n : Nat) (h0 : Heap) (n0 : Nat) (v : Option Value) (h : Heap) (L : List Loc) : Prop := v = none ∧ Fr n0 L ∧ Keep h0 h [a1] ∧ Fld Z h a1 "com/example/pilfer/pilfer/Tour" "order" "[I" (.ref a2)
theorem d6_0 : decode prog_24_method_5_code 0 = .ok (.iload_n 1, 1) := by decide +kernel
theorem d6_1 : decode prog_24_method_5_code 1 = .ok (.iconst 1, 1) := by decide +kernel
theorem d6_2 : decode prog_24_method_5_code 2 = .ok (.iadd, 1) := by decide +kernel
theorem d6_3 : decode prog_24_method_5_code 3 = .ok (.aload_n 0, 1) := by decide +kernel
theorem d6_4 : decode prog_24_method_5_code 4 = .ok (.getfield 7, 3) := by decide +kernel
theorem d6_7 : decode prog_24_method_5_code 7 = .ok (.arraylength, 1) := by decide +kernel
theorem d6_8 : decode prog_24_method_5_code 8 = .ok (.if_icmp .ge 14, 3) := by decide +kernel
theorem d6_11 : decode prog_24_method_5_code 11 = .ok (.aload_n 0, 1) := by decide +kernel
theorem d6_12 : decode prog_24_method_5_code 12 = .ok (.getfield 7, 3) := by decide +kernel
theorem d6_15 : decode prog_24_method_5_code 15 = .ok (.iload_n 1, 1) := by decide +kernel
theorem d6_16 : decode prog_24_method_5_code 16 = .ok (.iconst 1, 1) := by decide +kernel
theorem d6_17 : decode prog_24_method_5_code 17 = .ok (.iadd, 1) := by decide +kernel
theorem d6_18 : decode prog_24_method_5_code 18 = .ok (.iaload, 1) := by decide +kernel
theorem d6_19 : decode prog_24_method_5_code 19 = .ok (.goto 9, 3) := by decide +kernel
theorem d6_22 : decode prog_24_method_5_code 22 = .ok (.aload_n 0, 1) := by decide +kernel
theorem d6_23 : decode prog_24_method_5_code 23 = .ok (.getfield 7, 3) := by decide +kernel
theorem d6_26 : decode prog_24_method_5_code 26 = .ok (.iconst 0, 1) := by decide +kernel
theorem d6_27 : decode prog_24_method_5_code 27 = .ok (.iaload, 1) := by decide +kernel
theorem d6_28 : decode prog_24_method_5_code 28 = .ok (.ireturn, 1) := by decide +kernel
theorem pn_6 : plainFor (⟨"com/example/pilfer/pilfer/Tour", "next", "(I)I"⟩ : MethodName) = true := plainFor_of_name (by show plainName "com/example/pilfer/pilfer/Tour" = true; first | (simp [plainName, overriddenIn]; done) | decide +kernel)
theorem ef_6 (m : MethodId) (a1 : Addr) (p2 : Int32) : entryFrame m #[(.ref a1), (.int p2)] 2 = mkF m 0 #[.val (.ref a1), .val (.int p2)] [] := by first | (simp [entryFrame, mkF, argsToLocals, Value.category]; done) | rfl
def f6 (p2 : Int32) (fo : Nat → Int32) (n : Nat) : Int32 := (if (p2 + (1 : Int32)) < n.toInt32 then (fo (p2 + (1 : Int32)).toNatClampNeg) else (fo 0))
theorem pn_0 : plainFor x = true := plainFor_of_name (by show plainName "com/example/pilfer/pilfer/TourNextPinLaw" = true; first | (simp [plainName, overriddenIn]; done) | decide +kernel)
theorem ef_0 (m : MethodId) (p1 : Int32) (p2 : Int32) (p3 : Int32) (p4 : Int32) (p5 : Int32) : entryFrame m #[(.int p1), (.int p2), (.int p3), (.int p4), (.int p5)] maxLocals = mkF m 0 #[.val (.int p1), .val (.int p2), .val (.int p3), .val (.int p4), .val (.int p5), .unset, .unset, .unset, .unset, .unset, .unset, .unset, .unset, .unset, .unset, .unset] [] := by first | (simp [entryFrame, mkF, argsToLocals, Value.category, maxLocals]; done) | rfl
def w0_5 (p2 : Int32) (p3 : Int32) (p4 : Int32) (p5 : Int32) (nn : Int32) : Nat → Int32 := fun _ => 0
def w0_7 (p2 : Int32) (p3 : Int32) (p4 : Int32) (p5 : Int32) (nn : Int32) : Nat → Int32 := upd (w0_5 p2 p3 p4 p5 nn) 0 (0 : Int32)
def w0_9 (p2 : Int32) (p3 : Int32) (p4 : Int32) (p5 : Int32) (nn : Int32) : Nat → Int32 := upd (w0_7 p2 p3 p4 p5 nn) 1 (1 : Int32)
def w0_11 (p2 : Int32) (p3 : Int32) (p4 : Int32) (p5 : Int32) (nn : Int32) : Nat → Int32 := upd (w0_9 p2 p3 p4 p5 nn) 2 (2 : Int32)
def w0_13 (p2 : Int32) (p3 : Int32) (p4 : Int32) (p5 : Int32) (nn : Int32) : Nat → Int32 := upd (w0_11 p2 p3 p4 p5 nn) 3 (3 : Int32)
def v0_23 (p2 : Int32) (p3 : Int32) (p4 : Int32) (p5 : Int32) (nn : Int32) : Int32 := ((f3_a1 (f1 p5 (4 : Int32)) (f2 p5 (4 : Int32)) (f3_a1 (f1 p4 (4 : Int32)) (f2 p4 (4 : Int32)) (f3_a1 (f1 p3 (4 : Int32)) (f2 p3 (4 : Int32)) (w0_13 p2 p3 p4 p5 nn) (4 : Nat)) (4 : Nat)) (4 : Nat)) 0)
def v0_24 (p2 : Int32) (p3 : Int32) (p4 : Int32) (p5 : Int32) (nn : Int32) : Int32 := ((f3_a1 (f1 p5 (4 : Int32)) (f2 p5 (4 : Int32)) (f3_a1 (f1 p4 (4 : Int32)) (f2 p4 (4 : Int32)) (f3_a1 (f1 p3 (4 : Int32)) (f2 p3 (4 : Int32)) (w0_13 p2 p3 p4 p5 nn) (4 : Nat)) (4 : Nat)) (4 : Nat)) 1)
def v0_25 (p2 : Int32) (p3 : Int32) (p4 : Int32) (p5 : Int32) (nn : Int32) : Int32 := ((f3_a1 (f1 p5 (4 : Int32)) (f2 p5 (4 : Int32)) (f3_a1 (f1 p4 (4 : Int32)) (f2 p4 (4 : Int32)) (f3_a1 (f1 p3 (4 : Int32)) (f2 p3 (4 : Int32)) (w0_13 p2 p3 p4 p5 nn) (4 : Nat)) (4 : Nat)) (4 : Nat)) 2)
def v0_26 (p2 : Int32) (p3 : Int32) (p4 : Int32) (p5 : Int32) (nn : Int32) : Int32 := ((f3_a1 (f1 p5 (4 : Int32)) (f2 p5 (4 : Int32)) (f3_a1 (f1 p4 (4 : Int32)) (f2 p4 (4 : Int32)) (f3_a1 (f1 p3 (4 : Int32)) (f2 p3 (4 : Int32)) (w0_13 p2 p3 p4 p5 nn) (4 : Nat)) (4 : Nat)) (4 : Nat)) 3)
def v0_27 (p2 : Int32) (p3 : Int32) (p4 : Int32) (p5 : Int32) (nn : Int32) : Int32 := ((p2 &&& (2147483647 : Int32)) % (4 : Int32))
def v0_28 (p2 : Int32) (p3 : Int32) (p4 : Int32) (p5 : Int32) (nn : Int32) : Int32 := (((v0_27 p2 p3 p4 p5 nn) + (1 : Int32)) % (4 : Int32))
def v0_33 (p2 : Int32) (p3 : Int32) (p4 : Int32) (p5 : Int32) (nn : Int32) : Int32 := (if (v0_28 p2 p3 p4 p5 nn) = (0 : Int32) then (v0_23 p2 p3 p4 p5 nn) else (if (v0_28 p2 p3 p4 p5 nn) = (1 : Int32) then (v0_24 p2 p3 p4 p5 nn) else (if (v0_28 p2 p3 p4 p5 nn) = (2 : Int32) then (v0_25 p2 p3 p4 p5 nn) else (v0_26 p2 p3 p4 p5 nn))))
def v0_37 (p2 : Int32) (p3 : Int32) (p4 : Int32) (p5 : Int32) (nn : Int32) : Int32 := (f6 (v0_27 p2 p3 p4 p5 nn) (f3_a1 (f1 p5 (4 : Int32)) (f2 p5 (4 : Int32)) (f3_a1 (f1 p4 (4 : Int32)) (f2 p4 (4 : Int32)) (f3_a1 (f1 p3 (4 : Int32)) (f2 p3 (4 : Int32)) (w0_13 p2 p3 p4 p5 nn) (4 : Nat)) (4 : Nat)) (4 : Nat)) (4 : Nat))
def w0_40 (p2 : Int32) (p3 : Int32) (p4 : Int32) (p5 : Int32) (nn : Int32) : Nat → Int32 := fun _ => 0
def w0_42 (p2 : Int32) (p3 : Int32) (p4 : Int32) (p5 : Int32) (nn : Int32) : Nat → Int32 := upd (w0_40 p2 p3 p4 p5 nn) 0 (0 : Int32)
def w0_44 (p2 : Int32) (p3 : Int32) (p4 : Int32) (p5 : Int32) (nn : Int32) : Nat → Int32 := upd (w0_42 p2 p3 p4 p5 nn) 1 (1 : Int32)
def w0_46 (p2 : Int32) (p3 : Int32) (p4 : Int32) (p5 : Int32) (nn : Int32) : Nat → Int32 := upd (w0_44 p2 p3 p4 p5 nn) 2 (2 : Int32)
def v0_56 (p2 : Int32) (p3 : Int32) (p4 : Int32) (p5 : Int32) (nn : Int32) : Int32 := ((f3_a1 (f1 p5 (3 : Int32)) (f2 p5 (3 : Int32)) (f3_a1 (f1 p4 (3 : Int32)) (f2 p4 (3 : Int32)) (f3_a1 (f1 p3 (3 : Int32)) (f2 p3 (3 : Int32)) (w0_46 p2 p3 p4 p5 nn) (3 : Nat)) (3 : Nat)) (3 : Nat)) 0)
def v0_57 (p2 : Int32) (p3 : Int32) (p4 : Int32) (p5 : Int32) (nn : Int32) : Int32 := ((f3_a1 (f1 p5 (3 : Int32)) (f2 p5 (3 : Int32)) (f3_a1 (f1 p4 (3 : Int32)) (f2 p4 (3 : Int32)) (f3_a1 (f1 p3 (3 : Int32)) (f2 p3 (3 : Int32)) (w0_46 p2 p3 p4 p5 nn) (3 : Nat)) (3 : Nat)) (3 : Nat)) 1)
def v0_58 (p2 : Int32) (p3 : Int32) (p4 : Int32) (p5 : Int32) (nn : Int32) : Int32 := ((f3_a1 (f1 p5 (3 : Int32)) (f2 p5 (3 : Int32)) (f3_a1 (f1 p4 (3 : Int32)) (f2 p4 (3 : Int32)) (f3_a1 (f1 p3 (3 : Int32)) (f2 p3 (3 : Int32)) (w0_46 p2 p3 p4 p5 nn) (3 : Nat)) (3 : Nat)) (3 : Nat)) 2)
def v0_59 (p2 : Int32) (p3 : Int32) (p4 : Int32) (p5 : Int32) (nn : Int32) : Int32 := ((p2 &&& (2147483647 : Int32)) % (3 : Int32))
def v0_60 (p2 : Int32) (p3 : Int32) (p4 : Int32) (p5 : Int32) (nn : Int32) : Int32 := (((v0_59 p2 p3 p4 p5 nn) + (1 : Int32)) % (3 : Int32))
def v0_65 (p2 : Int32) (p3 : Int32) (p4 : Int32) (p5 : Int32) (nn : Int32) : Int32 := (if (v0_60 p2 p3 p4 p5 nn) = (0 : Int32) then (v0_56 p2 p3 p4 p5 nn) else (if (v0_60 p2 p3 p4 p5 nn) = (1 : Int32) then (v0_57 p2 p3 p4 p5 nn) else (if (v0_60 p2 p3 p4 p5 nn) = (2 : Int32) then (v0_58 p2 p3 p4 p5 nn) else (-1 : Int32))))
def v0_69 (p2 : Int32) (p3 : Int32) (p4 : Int32) (p5 : Int32) (nn : Int32) : Int32 := (f6 (v0_59 p2 p3 p4 p5 nn) (f3_a1 (f1 p5 (3 : Int32)) (f2 p5 (3 : Int32)) (f3_a1 (f1 p4 (3 : Int32)) (f2 p4 (3 : Int32)) (f3_a1 (f1 p3 (3 : Int32)) (f2 p3 (3 : Int32)) (w0_46 p2 p3 p4 p5 nn) (3 : Nat)) (3 : Nat)) (3 : Nat)) (3 : Nat))
def w0_72 (p2 : Int32) (p3 : Int32) (p4 : Int32) (p5 : Int32) (nn : Int32) : Nat → Int32 := fun _ => 0
def w0_74 (p2 : Int32) (p3 : Int32) (p4 : Int32) (p5 : Int32) (nn : Int32) : Nat → Int32 := upd (w0_72 p2 p3 p4 p5 nn) 0 (0 : Int32)
def w0_76 (p2 : Int32) (p3 : Int32) (p4 : Int32) (p5 : Int32) (nn : Int32) : Nat → Int32 := upd (w0_74 p2 p3 p4 p5 nn) 1 (1 : Int32)
def v0_86 (p2 : Int32) (p3 : Int32) (p4 : Int32) (p5 : Int32) (nn : Int32) : Int32 := ((f3_a1 (f1 p5 (2 : Int32)) (f2 p5 (2 : Int32)) (f3_a1 (f1 p4 (2 : Int32)) (f2 p4 (2 : Int32)) (f3_a1 (f1 p3 (2 : Int32)) (f2 p3 (2 : Int32)) (w0_76 p2 p3 p4 p5 nn) (2 : Nat)) (2 : Nat)) (2 : Nat)) 0)
def v0_87 (p2 : Int32) (p3 : Int32) (p4 : Int32) (p5 : Int32) (nn : Int32) : Int32 := ((f3_a1 (f1 p5 (2 : Int32)) (f2 p5 (2 : Int32)) (f3_a1 (f1 p4 (2 : Int32)) (f2 p4 (2 : Int32)) (f3_a1 (f1 p3 (2 : Int32)) (f2 p3 (2 : Int32)) (w0_76 p2 p3 p4 p5 nn) (2 : Nat)) (2 : Nat)) (2 : Nat)) 1)
def v0_88 (p2 : Int32) (p3 : Int32) (p4 : Int32) (p5 : Int32) (nn : Int32) : Int32 := ((p2 &&& (2147483647 : Int32)) % (2 : Int32))
def v0_89 (p2 : Int32) (p3 : Int32) (p4 : Int32) (p5 : Int32) (nn : Int32) : Int32 := (((v0_88 p2 p3 p4 p5 nn) + (1 : Int32)) % (2 : Int32))
def v0_94 (p2 : Int32) (p3 : Int32) (p4 : Int32) (p5 : Int32) (nn : Int32) : Int32 := (if (v0_89 p2 p3 p4 p5 nn) = (0 : Int32) then (v0_86 p2 p3 p4 p5 nn) else (if (v0_89 p2 p3 p4 p5 nn) = (1 : Int32) then (v0_87 p2 p3 p4 p5 nn) else (if (v0_89 p2 p3 p4 p5 nn) = (2 : Int32) then (-1 : Int32) else (-1 : Int32))))
def v0_98 (p2 : Int32) (p3 : Int32) (p4 : Int32) (p5 : Int32) (nn : Int32) : Int32 := (f6 (v0_88 p2 p3 p4 p5 nn) (f3_a1 (f1 p5 (2 : Int32)) (f2 p5 (2 : Int32)) (f3_a1 (f1 p4 (2 : Int32)) (f2 p4 (2 : Int32)) (f3_a1 (f1 p3 (2 : Int32)) (f2 p3 (2 : Int32)) (w0_76 p2 p3 p4 p5 nn) (2 : Nat)) (2 : Nat)) (2 : Nat)) (2 : Nat))
def w0_101 (p2 : Int32) (p3 : Int32) (p4 : Int32) (p5 : Int32) (nn : Int32) : Nat → Int32 := fun _ => 0
def w0_103 (p2 : Int32) (p3 : Int32) (p4 : Int32) (p5 : Int32) (nn : Int32) : Nat → Int32 := upd (w0_101 p2 p3 p4 p5 nn) 0 (0 : Int32)
def v0_113 (p2 : Int32) (p3 : Int32) (p4 : Int32) (p5 : Int32) (nn : Int32) : Int32 := ((f3_a1 (f1 p5 (1 : Int32)) (f2 p5 (1 : Int32)) (f3_a1 (f1 p4 (1 : Int32)) (f2 p4 (1 : Int32)) (f3_a1 (f1 p3 (1 : Int32)) (f2 p3 (1 : Int32)) (w0_103 p2 p3 p4 p5 nn) (1 : Nat)) (1 : Nat)) (1 : Nat)) 0)
def v0_114 (p2 : Int32) (p3 : Int32) (p4 : Int32) (p5 : Int32) (nn : Int32) : Int32 := ((p2 &&& (2147483647 : Int32)) % (1 : Int32))
def v0_115 (p2 : Int32) (p3 : Int32) (p4 : Int32) (p5 : Int32) (nn : Int32) : Int32 := (((v0_114 p2 p3 p4 p5 nn) + (1 : Int32)) % (1 : Int32))
def v0_120 (p2 : Int32) (p3 : Int32) (p4 : Int32) (p5 : Int32) (nn : Int32) : Int32 := (if (v0_115 p2 p3 p4 p5 nn) = (0 : Int32) then (v0_113 p2 p3 p4 p5 nn) else (if (v0_115 p2 p3 p4 p5 nn) = (1 : Int32) then (-1 : Int32) else (if (v0_115 p2 p3 p4 p5 nn) = (2 : Int32) then (-1 : Int32) else (-1 : Int32))))
def v0_124 (p2 : Int32) (p3 : Int32) (p4 : Int32) (p5 : Int32) (nn : Int32) : Int32 := (f6 (v0_114 p2 p3 p4 p5 nn) (f3_a1 (f1 p5 (1 : Int32)) (f2 p5 (1 : Int32)) (f3_a1 (f1 p4 (1 : Int32)) (f2 p4 (1 : Int32)) (f3_a1 (f1 p3 (1 : Int32)) (f2 p3 (1 : Int32)) (w0_103 p2 p3 p4 p5 nn) (1 : Nat)) (1 : Nat)) (1 : Nat)) (1 : Nat))
def f0 (p2 : Int32) (p3 : Int32) (p4 : Int32) (p5 : Int32) (nn : Int32) : Int32 := (if nn = (1 : Int32) then (if (v0_124 p2 p3 p4 p5 nn) = (v0_120 p2 p3 p4 p5 nn) then (1 : Int32) else (0 : Int32)) else (if nn = (2 : Int32) then (if (v0_98 p2 p3 p4 p5 nn) = (v0_94 p2 p3 p4 p5 nn) then (1 : Int32) else (0 : Int32)) else (if nn = (3 : Int32) then (if (v0_69 p2 p3 p4 p5 nn) = (v0_65 p2 p3 p4 p5 nn) then (1 : Int32) else (0 : Int32)) else (if (v0_37 p2 p3 p4 p5 nn) = (v0_33 p2 p3 p4 p5 nn) then (1 : Int32) else (0 : Int32)))))
def Q0 (Z : State) (p1 : Int32) (p2 : Int32) (p3 : Int32) (p4 : Int32) (p5 : Int32) (nn : Int32) (h0 : Heap) (n0 : Nat) (v : Option Value) (h : Heap) (L : List Loc) : Prop := v = some (.int (f0 p2 p3 p4 p5 nn)) ∧ Fr n0 L ∧ Keep h0 h []
theorem own_pos (x : Int32) : 0 ≤ (x &&& 2147483647).toInt := by
  have a1 : (x &&& 2147483647).toInt = x.toInt % (2 ^ 31 : Nat) := c_mask x 2147483647 31 (by decide) (by decide)
  omega
theorem own_pos3 (x : Int32) : 0 ≤ (x &&& 3).toInt := by
  have a1 : (x &&& 3).toInt = x.toInt % (2 ^ 2 : Nat) := c_mask x 3 2 (by decide) (by decide)
  omega
theorem own_inr {x : Int32} {n : Nat} (h0 : 0 ≤ x.toInt) (h1 : x.toInt < n) : inb x n := by
  refine ⟨?_, ?_⟩
  · rw [Int32.lt_iff_toInt_lt, show (0 : Int32).toInt = 0 from rfl]; omega
  · show x.toInt.toNat < n
    omega
theorem own_sw {fo : Nat → Int32} {n : Nat} {a b : Int32} (h : ∀ j, j < n → inb (fo j) n) (ha : inb a n) (hb : inb b n) : ∀ j, j < n → inb (f3_a1 a b fo n j) n :=
  own_updin (own_updin h (h _ hb.2)) (h _ ha.2)
theorem own_nx {n : Nat} {x : Int32} (hn : n ≤ 4) (hp : inb x n) (c : x + 1 < n.toInt32) : inb (x + 1) n := by
  have e : (n.toInt32).toInt = n := own_toInt (by omega)
  rw [Int32.lt_iff_toInt_lt, e] at c
  obtain ⟨h1, h2⟩ := hp
  rw [Int32.lt_iff_toInt_lt, show (0 : Int32).toInt = 0 from rfl] at h1
  have h3 : x.toInt.toNat < n := h2
  exact own_inr (by rw [own_up (by omega)]; omega) c
theorem own_z {n : Nat} {x : Int32} (hp : inb x n) : inb 0 n := ⟨by decide, Nat.lt_of_le_of_lt (Nat.zero_le _) hp.2⟩
theorem own_n4 {x : Int32} (r : own_rk x) (h1 : ¬ x = 1) (h2 : ¬ x = 2) (h3 : ¬ x = 3) : x = 4 := by
  obtain ⟨r1, r2⟩ := r
  rw [← Int32.toInt_inj, show (1 : Int32).toInt = 1 from rfl] at h1
  rw [← Int32.toInt_inj, show (2 : Int32).toInt = 2 from rfl] at h2
  rw [← Int32.toInt_inj, show (3 : Int32).toInt = 3 from rfl] at h3
  rw [← Int32.toInt_inj, show (4 : Int32).toInt = 4 from rfl]
  omega
theorem own_nr (x : Int32) : own_rk ((x &&& (3 : Int32)) + (1 : Int32)) := by
  have a1 : (x &&& 3).toInt = x.toInt % (2 ^ 2 : Nat) := c_mask x 3 2 (by decide) (by decide)
  have e : (((x &&& 3) + 1).toInt - ((x &&& 3).toInt + 1)) % 4294967296 = 0 := c_iadd _ 1
  have r := rng32 ((x &&& 3) + 1)
  exact ⟨by omega, by omega⟩
theorem own_ofi {x : Int32} {n : Nat} (h : inb x n) : ∃ i : Fin n, x = Int32.ofNat i.val := ⟨⟨_, h.2⟩, (own_back h.1).symm⟩

theorem own_lo1 (x : Int32) : inb (f1 x 1) 1 := by
  have m : ((x &&& 3) % 1).toInt = (x &&& 3).toInt % 1 := (c_irem (x &&& 3) 1 1 rfl).1 (own_pos3 x)
  exact own_inr (by show 0 ≤ ((x &&& 3) % 1).toInt; omega) (by show ((x &&& 3) % 1).toInt < 1; omega)
theorem own_hi1 (x : Int32) : inb (f2 x 1) 1 := own_lo1 _
theorem own_pp1 (x : Int32) : inb ((x &&& (2147483647 : Int32)) % (1 : Int32)) 1 := by
  have m : ((x &&& 2147483647) % 1).toInt = (x &&& 2147483647).toInt % 1 := (c_irem (x &&& 2147483647) 1 1 rfl).1 (own_pos x)
  exact own_inr (by omega) (by omega)
theorem own_next1 (F : Nat → Int32) : ∀ i : Fin 1, f6 (Int32.ofNat i.val) F 1 = if (Int32.ofNat i.val + 1) % 1 = 0 then F 0 else if (Int32.ofNat i.val + 1) % 1 = 1 then -1 else if (Int32.ofNat i.val + 1) % 1 = 2 then -1 else -1 := by
  rintro ⟨i, hi⟩
  match i, hi with
  | 0, _ => dsimp only; rw [f6]; (repeat (first | rw [if_pos (by decide)] | rw [if_neg (by decide)])) <;> try rfl

theorem own_lo2 (x : Int32) : inb (f1 x 2) 2 := by
  have m : ((x &&& 3) % 2).toInt = (x &&& 3).toInt % 2 := (c_irem (x &&& 3) 2 2 rfl).1 (own_pos3 x)
  exact own_inr (by show 0 ≤ ((x &&& 3) % 2).toInt; omega) (by show ((x &&& 3) % 2).toInt < 2; omega)
theorem own_hi2 (x : Int32) : inb (f2 x 2) 2 := own_lo2 _
theorem own_pp2 (x : Int32) : inb ((x &&& (2147483647 : Int32)) % (2 : Int32)) 2 := by
  have m : ((x &&& 2147483647) % 2).toInt = (x &&& 2147483647).toInt % 2 := (c_irem (x &&& 2147483647) 2 2 rfl).1 (own_pos x)
  exact own_inr (by omega) (by omega)
theorem own_next2 (F : Nat → Int32) : ∀ i : Fin 2, f6 (Int32.ofNat i.val) F 2 = if (Int32.ofNat i.val + 1) % 2 = 0 then F 0 else if (Int32.ofNat i.val + 1) % 2 = 1 then F 1 else if (Int32.ofNat i.val + 1) % 2 = 2 then -1 else -1 := by
  rintro ⟨i, hi⟩
  match i, hi with
  | 0, _ => dsimp only; rw [f6]; (repeat (first | rw [if_pos (by decide)] | rw [if_neg (by decide)])) <;> try rfl
  | 1, _ => dsimp only; rw [f6]; (repeat (first | rw [if_pos (by decide)] | rw [if_neg (by decide)])) <;> try rfl

theorem own_lo3 (x : Int32) : inb (f1 x 3) 3 := by
  have m : ((x &&& 3) % 3).toInt = (x &&& 3).toInt % 3 := (c_irem (x &&& 3) 3 3 rfl).1 (own_pos3 x)
  exact own_inr (by show 0 ≤ ((x &&& 3) % 3).toInt; omega) (by show ((x &&& 3) % 3).toInt < 3; omega)
theorem own_hi3 (x : Int32) : inb (f2 x 3) 3 := own_lo3 _
theorem own_pp3 (x : Int32) : inb ((x &&& (2147483647 : Int32)) % (3 : Int32)) 3 := by
  have m : ((x &&& 2147483647) % 3).toInt = (x &&& 2147483647).toInt % 3 := (c_irem (x &&& 2147483647) 3 3 rfl).1 (own_pos x)
  exact own_inr (by omega) (by omega)
theorem own_next3 (F : Nat → Int32) : ∀ i : Fin 3, f6 (Int32.ofNat i.val) F 3 = if (Int32.ofNat i.val + 1) % 3 = 0 then F 0 else if (Int32.ofNat i.val + 1) % 3 = 1 then F 1 else if (Int32.ofNat i.val + 1) % 3 = 2 then F 2 else -1 := by
  rintro ⟨i, hi⟩
  match i, hi with
  | 0, _ => dsimp only; rw [f6]; (repeat (first | rw [if_pos (by decide)] | rw [if_neg (by decide)])) <;> try rfl
  | 1, _ => dsimp only; rw [f6]; (repeat (first | rw [if_pos (by decide)] | rw [if_neg (by decide)])) <;> try rfl
  | 2, _ => dsimp only; rw [f6]; (repeat (first | rw [if_pos (by decide)] | rw [if_neg (by decide)])) <;> try rfl

theorem own_lo4 (x : Int32) : inb (f1 x 4) 4 := by
  have m : ((x &&& 3) % 4).toInt = (x &&& 3).toInt % 4 := (c_irem (x &&& 3) 4 4 rfl).1 (own_pos3 x)
  exact own_inr (by show 0 ≤ ((x &&& 3) % 4).toInt; omega) (by show ((x &&& 3) % 4).toInt < 4; omega)
theorem own_hi4 (x : Int32) : inb (f2 x 4) 4 := own_lo4 _
theorem own_pp4 (x : Int32) : inb ((x &&& (2147483647 : Int32)) % (4 : Int32)) 4 := by
  have m : ((x &&& 2147483647) % 4).toInt = (x &&& 2147483647).toInt % 4 := (c_irem (x &&& 2147483647) 4 4 rfl).1 (own_pos x)
  exact own_inr (by omega) (by omega)
theorem own_next4 (F : Nat → Int32) : ∀ i : Fin 4, f6 (Int32.ofNat i.val) F 4 = if (Int32.ofNat i.val + 1) % 4 = 0 then F 0 else if (Int32.ofNat i.val + 1) % 4 = 1 then F 1 else if (Int32.ofNat i.val + 1) % 4 = 2 then F 2 else F 3 := by
  rintro ⟨i, hi⟩
  match i, hi with
  | 0, _ => dsimp only; rw [f6]; (repeat (first | rw [if_pos (by decide)] | rw [if_neg (by decide)])) <;> try rfl
  | 1, _ => dsimp only; rw [f6]; (repeat (first | rw [if_pos (by decide)] | rw [if_neg (by decide)])) <;> try rfl
  | 2, _ => dsimp only; rw [f6]; (repeat (first | rw [if_pos (by decide)] | rw [if_neg (by decide)])) <;> try rfl
  | 3, _ => dsimp only; rw [f6]; (repeat (first | rw [if_pos (by decide)] | rw [if_neg (by decide)])) <;> try rfl
theorem own_eq1 (p2 p3 p4 p5 nn : Int32) : v0_124 p2 p3 p4 p5 nn = v0_120 p2 p3 p4 p5 nn := by
  obtain ⟨i, hi⟩ := own_ofi (own_pp1 p2)
  have h1 : v0_114 p2 p3 p4 p5 nn = Int32.ofNat i.val := hi
  rw [v0_124, v0_120, v0_115, h1]
  exact own_next1 _ i
theorem own_eq2 (p2 p3 p4 p5 nn : Int32) : v0_98 p2 p3 p4 p5 nn = v0_94 p2 p3 p4 p5 nn := by
  obtain ⟨i, hi⟩ := own_ofi (own_pp2 p2)
  have h1 : v0_88 p2 p3 p4 p5 nn = Int32.ofNat i.val := hi
  rw [v0_98, v0_94, v0_89, h1]
  exact own_next2 _ i
theorem own_eq3 (p2 p3 p4 p5 nn : Int32) : v0_69 p2 p3 p4 p5 nn = v0_65 p2 p3 p4 p5 nn := by
  obtain ⟨i, hi⟩ := own_ofi (own_pp3 p2)
  have h1 : v0_59 p2 p3 p4 p5 nn = Int32.ofNat i.val := hi
  rw [v0_69, v0_65, v0_60, h1]
  exact own_next3 _ i
theorem own_eq4 (p2 p3 p4 p5 nn : Int32) : v0_37 p2 p3 p4 p5 nn = v0_33 p2 p3 p4 p5 nn := by
  obtain ⟨i, hi⟩ := own_ofi (own_pp4 p2)
  have h1 : v0_27 p2 p3 p4 p5 nn = Int32.ofNat i.val := hi
  rw [v0_37, v0_33, v0_28, h1]
  exact own_next4 _ i
theorem own_law (p2 p3 p4 p5 nn : Int32) : f0 p2 p3 p4 p5 nn = 1 := by
  rw [f0]
  by_cases h1 : nn = 1
  · rw [if_pos h1, if_pos (own_eq1 _ _ _ _ _)]
  · rw [if_neg h1]
    by_cases h2 : nn = 2
    · rw [if_pos h2, if_pos (own_eq2 _ _ _ _ _)]
    · rw [if_neg h2]
      by_cases h3 : nn = 3
      · rw [if_pos h3, if_pos (own_eq3 _ _ _ _ _)]
      · rw [if_neg h3, if_pos (own_eq4 _ _ _ _ _)]
set_option maxRecDepth 65536 in
set_option maxHeartbeats 40000000 in
theorem rm1 (l : Launch) (Z : State) (a0 : Array Value) (hw : ∀ d ∈ tables_1, d.before a0 Z = true) (ws : List Jvm.Cond) (p1 : Int32) (p2 : Int32) (h0 : Heap) (hz : p2 ≠ 0) :
    Con l Z (⟨"com/example/pilfer/pilfer/TourNextPinLaw", "lo", "(II)I"⟩ : MethodName) method_3_code 2 (some .int) ws ({ frames := 0, cells := 0, slots := 0, locals := 0 } : Room) #[(.int p1), (.int p2)] h0 (PQ (.int (f1 p1 p2)) h0) := by
  refine own_body pn_1 (fun m => ef_1 m p1 p2) ?_
  intro p e s m below meth c T0 W X0 hx hby hml hret hlk hown hnm hZ e0 hW
  show Go p e below W T0 (mkF m 0 #[.val (.int p1), .val (.int p2)] [])
  refine Go.of (fun _ k => XS.iloadN X0.here hx rfl (hb hby d1_0) rfl k) ?_
  show Go p e below W T0 (mkF m 1 #[.val (.int p1), .val (.int p2)] [(.int p1)])
  refine Go.of (fun _ k => XS.iconst X0.here hx rfl (hb hby d1_1) k) ?_
  show Go p e below W T0 (mkF m 2 #[.val (.int p1), .val (.int p2)] [(.int (3 : Int32)), (.int p1)])
  refine Go.of (fun _ k => XS.iand X0.here hx rfl (hb hby d1_2) rfl k) ?_
  show Go p e below W T0 (mkF m 3 #[.val (.int p1), .val (.int p2)] [(.int (p1 &&& (3 : Int32)))])
  refine Go.of (fun _ k => XS.iloadN X0.here hx rfl (hb hby d1_3) rfl k) ?_
  show Go p e below W T0 (mkF m 4 #[.val (.int p1), .val (.int p2)] [(.int p2), (.int (p1 &&& (3 : Int32)))])
  refine Go.of (fun _ k => iremM X0 hx rfl (hb hby d1_4) rfl hz k) ?_
  show Go p e below W T0 (mkF m 5 #[.val (.int p1), .val (.int p2)] [(.int ((p1 &&& (3 : Int32)) % p2))])
  have q : (f1 p1 p2) = ((p1 &&& (3 : Int32)) % p2) := by rw [f1]
  exact Go.retI X0 hx hret (hb hby d1_5) hlk q.symm (fun t ht fe => hW t _ _ _ _ ⟨rfl, rfl, ht.trans e0⟩ fe (by decide) (by decide))
set_option maxRecDepth 65536 in
set_option maxHeartbeats 40000000 in
theorem rm2 (l : Launch) (Z : State) (a0 : Array Value) (hw : ∀ d ∈ tables_1, d.before a0 Z = true) (ws : List Jvm.Cond) (p1 : Int32) (p2 : Int32) (h0 : Heap) (hz : p2 ≠ 0) :
    Con l Z (⟨"com/example/pilfer/pilfer/TourNextPinLaw", "hi", "(II)I"⟩ : MethodName) method_4_code 2 (some .int) ws ({ frames := 0, cells := 0, slots := 0, locals := 0 } : Room) #[(.int p1), (.int p2)] h0 (PQ (.int (f2 p1 p2)) h0) := by
  refine own_body pn_2 (fun m => ef_2 m p1 p2) ?_
  intro p e s m below meth c T0 W X0 hx hby hml hret hlk hown hnm hZ e0 hW
  show Go p e below W T0 (mkF m 0 #[.val (.int p1), .val (.int p2)] [])
  refine Go.of (fun _ k => XS.iloadN X0.here hx rfl (hb hby d2_0) rfl k) ?_
  show Go p e below W T0 (mkF m 1 #[.val (.int p1), .val (.int p2)] [(.int p1)])
  refine Go.of (fun _ k => XS.iconst X0.here hx rfl (hb hby d2_1) k) ?_
  show Go p e below W T0 (mkF m 2 #[.val (.int p1), .val (.int p2)] [(.int (2 : Int32)), (.int p1)])
  refine Go.of (fun _ k => XS.iushr X0.here hx rfl (hb hby d2_2) rfl k) ?_
  show Go p e below W T0 (mkF m 3 #[.val (.int p1), .val (.int p2)] [(.int ((p1.toUInt32 >>> ((2 : Int32) &&& 31).toUInt32).toInt32))])
  refine Go.of (fun _ k => XS.iconst X0.here hx rfl (hb hby d2_3) k) ?_
  show Go p e below W T0 (mkF m 4 #[.val (.int p1), .val (.int p2)] [(.int (3 : Int32)), (.int ((p1.toUInt32 >>> ((2 : Int32) &&& 31).toUInt32).toInt32))])
  refine Go.of (fun _ k => XS.iand X0.here hx rfl (hb hby d2_4) rfl k) ?_
  show Go p e below W T0 (mkF m 5 #[.val (.int p1), .val (.int p2)] [(.int (((p1.toUInt32 >>> ((2 : Int32) &&& 31).toUInt32).toInt32) &&& (3 : Int32)))])
  refine Go.of (fun _ k => XS.iloadN X0.here hx rfl (hb hby d2_5) rfl k) ?_
  show Go p e below W T0 (mkF m 6 #[.val (.int p1), .val (.int p2)] [(.int p2), (.int (((p1.toUInt32 >>> ((2 : Int32) &&& 31).toUInt32).toInt32) &&& (3 : Int32)))])
  refine Go.of (fun _ k => iremM X0 hx rfl (hb hby d2_6) rfl hz k) ?_
  show Go p e below W T0 (mkF m 7 #[.val (.int p1), .val (.int p2)] [(.int ((((p1.toUInt32 >>> ((2 : Int32) &&& 31).toUInt32).toInt32) &&& (3 : Int32)) % p2))])
  have q : (f2 p1 p2) = ((((p1.toUInt32 >>> ((2 : Int32) &&& 31).toUInt32).toInt32) &&& (3 : Int32)) % p2) := by rw [f2]
  exact Go.retI X0 hx hret (hb hby d2_7) hlk q.symm (fun t ht fe => hW t _ _ _ _ ⟨rfl, rfl, ht.trans e0⟩ fe (by decide) (by decide))
set_option maxRecDepth 65536 in
set_option maxHeartbeats 40000000 in
theorem rm3 (l : Launch) (Z : State) (a0 : Array Value) (hw : ∀ d ∈ tables_1, d.before a0 Z = true) (ws : List Jvm.Cond) (a1 : Addr) (p2 : Int32) (p3 : Int32) (fo : Nat → Int32) (n : Nat) (h0 : Heap) (n0 : Nat) (Z0 : n0 ≤ h0.size) (A_a1 : AI Z h0 a1 .int n fo) (g_a1 : n0 ≤ a1) (h2 : inb p2 n) (h3 : inb p3 n) :
    Con l Z (⟨"com/example/pilfer/pilfer/TourNextPinLaw", "swap", "([III)V"⟩ : MethodName) method_2_code 4 none ws ({ frames := 0, cells := 0, slots := 0, locals := 0 } : Room) #[(.ref a1), (.int p2), (.int p3)] h0 (Q3 Z a1 p2 p3 fo n h0 n0) := by
  refine own_body pn_3 (fun m => ef_3 m a1 p2 p3) ?_
  intro p e s m below meth c T0 W X0 hx hby hml hret hlk hown hnm hZ e0 hW
  have K : Keep h0 h0 [a1] := Keep.refl _ _
  have N := Fr.nil n0
  show Go p e below W T0 (mkF m 0 #[.val (.ref a1), .val (.int p2), .val (.int p3), .unset] [])
  refine Go.of (fun _ k => XS.aloadN X0.here hx rfl (hb hby d3_0) rfl rfl k) ?_
  show Go p e below W T0 (mkF m 1 #[.val (.ref a1), .val (.int p2), .val (.int p3), .unset] [(.ref a1)])
  refine Go.of (fun _ k => XS.iloadN X0.here hx rfl (hb hby d3_1) rfl k) ?_
  show Go p e below W T0 (mkF m 2 #[.val (.ref a1), .val (.int p2), .val (.int p3), .unset] [(.int p2), (.ref a1)])
  refine Go.iald X0 hx hZ e0 A_a1 h2 (hb hby d3_2) ?_
  show Go p e below W T0 (mkF m 3 #[.val (.ref a1), .val (.int p2), .val (.int p3), .unset] [(.int (fo (p2).toNatClampNeg))])
  refine Go.of (fun _ k => XS.istoreN X0.here hx rfl (hb hby d3_3) rfl (l' := #[.val (.ref a1), .val (.int p2), .val (.int p3), .val (.int (v3_1 p2 p3 fo n))]) rfl k) ?_
  show Go p e below W T0 (mkF m 4 #[.val (.ref a1), .val (.int p2), .val (.int p3), .val (.int (v3_1 p2 p3 fo n))] [])
  refine Go.of (fun _ k => XS.aloadN X0.here hx rfl (hb hby d3_4) rfl rfl k) ?_
  show Go p e below W T0 (mkF m 5 #[.val (.ref a1), .val (.int p2), .val (.int p3), .val (.int (v3_1 p2 p3 fo n))] [(.ref a1)])
  refine Go.of (fun _ k => XS.iloadN X0.here hx rfl (hb hby d3_5) rfl k) ?_
  show Go p e below W T0 (mkF m 6 #[.val (.ref a1), .val (.int p2), .val (.int p3), .val (.int (v3_1 p2 p3 fo n))] [(.int p2), (.ref a1)])
  refine Go.of (fun _ k => XS.aloadN X0.here hx rfl (hb hby d3_6) rfl rfl k) ?_
  show Go p e below W T0 (mkF m 7 #[.val (.ref a1), .val (.int p2), .val (.int p3), .val (.int (v3_1 p2 p3 fo n))] [(.ref a1), (.int p2), (.ref a1)])
  refine Go.of (fun _ k => XS.iloadN X0.here hx rfl (hb hby d3_7) rfl k) ?_
  show Go p e below W T0 (mkF m 8 #[.val (.ref a1), .val (.int p2), .val (.int p3), .val (.int (v3_1 p2 p3 fo n))] [(.int p3), (.ref a1), (.int p2), (.ref a1)])
  refine Go.iald X0 hx hZ e0 A_a1 h3 (hb hby d3_8) ?_
  show Go p e below W T0 (mkF m 9 #[.val (.ref a1), .val (.int p2), .val (.int p3), .val (.int (v3_1 p2 p3 fo n))] [(.int (fo (p3).toNatClampNeg)), (.int p2), (.ref a1)])
  refine Go.ist X0 hx hZ e0 N g_a1 A_a1 h2 (hb hby d3_9) ?_
  intro T2 h2 L2 X2 N e2 W2 A_a1
  have K := K.wr W2 (Or.inl (List.mem_of_getElem? (i := 0) rfl))
  have Z0 := Nat.le_trans Z0 (Keep.of_wr W2).1
  have A_a1 : AI Z h2 a1 .int n (w3_3 p2 p3 fo n) := A_a1
  show Go p e below W T2 (mkF m 10 #[.val (.ref a1), .val (.int p2), .val (.int p3), .val (.int (v3_1 p2 p3 fo n))] [])
  refine Go.of (fun _ k => XS.aloadN X2.here hx rfl (hb hby d3_10) rfl rfl k) ?_
  show Go p e below W T2 (mkF m 11 #[.val (.ref a1), .val (.int p2), .val (.int p3), .val (.int (v3_1 p2 p3 fo n))] [(.ref a1)])
  refine Go.of (fun _ k => XS.iloadN X2.here hx rfl (hb hby d3_11) rfl k) ?_
  show Go p e below W T2 (mkF m 12 #[.val (.ref a1), .val (.int p2), .val (.int p3), .val (.int (v3_1 p2 p3 fo n))] [(.int p3), (.ref a1)])
  refine Go.of (fun _ k => XS.iloadN X2.here hx rfl (hb hby d3_12) rfl k) ?_
  show Go p e below W T2 (mkF m 13 #[.val (.ref a1), .val (.int p2), .val (.int p3), .val (.int (v3_1 p2 p3 fo n))] [(.int (v3_1 p2 p3 fo n)), (.int p3), (.ref a1)])
  refine Go.ist X2 hx hZ e2 N g_a1 A_a1 h3 (hb hby d3_13) ?_
  intro T4 h4 L4 X4 N e4 W4 A_a1
  have K := K.wr W4 (Or.inl (List.mem_of_getElem? (i := 0) rfl))
  have Z0 := Nat.le_trans Z0 (Keep.of_wr W4).1
  have A_a1 : AI Z h4 a1 .int n (w3_5 p2 p3 fo n) := A_a1
  show Go p e below W T4 (mkF m 14 #[.val (.ref a1), .val (.int p2), .val (.int p3), .val (.int (v3_1 p2 p3 fo n))] [])
  have u_f3_a1 : (f3_a1 p2 p3 fo n) = (w3_5 p2 p3 fo n) := by rw [f3_a1]
  have fin : Q3 Z a1 p2 p3 fo n h0 n0 (none) h4 L4 := ⟨rfl, N, K, (by rw [u_f3_a1]; exact A_a1)⟩
  exact Go.retV X4 hx hret (hb hby d3_14) hlk (fun t ht fe => hW t _ _ _ _ (by rw [ht, e4]; exact fin) fe (by decide) (by decide))
set_option maxRecDepth 65536 in
set_option maxHeartbeats 40000000 in
theorem rm4 (l : Launch) (Z : State) (a0 : Array Value) (hw : ∀ d ∈ tables_1, d.before a0 Z = true) (ws : List Jvm.Cond) (a1 : Addr) (a2 : Addr) (fo : Nat → Int32) (n : Nat) (h0 : Heap) (n0 : Nat) (Z0 : n0 ≤ h0.size) (E_a1 : Exa Z h0 a1 "com/example/pilfer/pilfer/Tour") (F_a1_order : Fld Z h0 a1 "com/example/pilfer/pilfer/Tour" "order" "[I" .null) (F_a1_position : Fld Z h0 a1 "com/example/pilfer/pilfer/Tour" "position" "[I" .null) (A_a2 : AI Z h0 a2 .int n fo) (g_a1 : n0 ≤ a1) (ne_a1_a2 : a1 ≠ a2) (hn : n ≤ 4) (hfo : ∀ j, j < n → inb (fo j) n) :
    Con l Z (⟨"com/example/pilfer/pilfer/Tour", "<init>", "([I)V"⟩ : MethodName) prog_24_method_1_code 3 none ws ({ frames := 1, cells := 1, slots := 4, locals := 12 } : Room) #[(.ref a1), (.ref a2)] h0 (Q4 Z a1 a2 fo n h0 n0) := by
  refine own_body pn_4 (fun m => ef_4 m a1 a2) ?_
  intro p e s m below meth c T0 W X0 hx hby hml hret hlk hown hnm hZ e0 hW
  have K : Keep h0 h0 [a1] := Keep.refl _ _
  have N := Fr.nil n0
  show Go p e below W T0 (mkF m 0 #[.val (.ref a1), .val (.ref a2), .unset] [])
  refine Go.of (fun _ k => XS.aloadN X0.here hx rfl (hb hby d4_0) rfl rfl k) ?_
  show Go p e below W T0 (mkF m 1 #[.val (.ref a1), .val (.ref a2), .unset] [(.ref a1)])
  refine Go.initO X0 hx hZ hown (hw _ (List.mem_of_getElem? (i := 18) rfl)) (hw _ (List.mem_of_getElem? (i := 19) rfl)) (hw _ (List.mem_of_getElem? (i := 20) rfl)) e0 (by rw [hml]; rfl) (hb hby d4_1) (by decide) (V := 0) (Nat.le_of_ble_eq_true rfl) (by decide) ?_
  intro T1 X1 e1
  show Go p e below W T1 (mkF m 4 #[.val (.ref a1), .val (.ref a2), .unset] [])
  refine Go.of (fun _ k => XS.aloadN X1.here hx rfl (hb hby d4_4) rfl rfl k) ?_
  show Go p e below W T1 (mkF m 5 #[.val (.ref a1), .val (.ref a2), .unset] [(.ref a1)])
  refine Go.of (fun _ k => XS.aloadN X1.here hx rfl (hb hby d4_5) rfl rfl k) ?_
  show Go p e below W T1 (mkF m 6 #[.val (.ref a1), .val (.ref a2), .unset] [(.ref a2), (.ref a1)])
  refine Go.putF X1 hx hZ hown (hw _ (List.mem_of_getElem? (i := 21) rfl)) e1 N g_a1 F_a1_order E_a1 (Or.inr ⟨(hw _ (List.mem_of_getElem? (i := 22) rfl)), rfl, hnm⟩) (hw _ (List.mem_of_getElem? (i := 13) rfl)) (ty := (.array .int)) (by decide) (v' := (.ref a2)) rfl rfl (hb hby d4_6) ?_
  intro T2 h2 L2 X2 N e2 W2 F_a1_order
  have E_a1 := E_a1.wr W2
  have F_a1_position := F_a1_position.other W2 (Or.inr (slot_ne (Or.inr (hw _ (List.mem_of_getElem? (i := 24) rfl))) (Or.inr (hw _ (List.mem_of_getElem? (i := 22) rfl))) (by decide) (t := (.array .int)) (t' := (.array .int)) (by decide) (by decide)))
  have A_a2 := A_a2.other W2 (Ne.symm ne_a1_a2)
  have K := K.wr W2 (Or.inl (List.mem_of_getElem? (i := 0) rfl))
  have Z0 := Nat.le_trans Z0 (Keep.of_wr W2).1
  show Go p e below W T2 (mkF m 9 #[.val (.ref a1), .val (.ref a2), .unset] [])
  refine Go.of (fun _ k => XS.aloadN X2.here hx rfl (hb hby d4_9) rfl rfl k) ?_
  show Go p e below W T2 (mkF m 10 #[.val (.ref a1), .val (.ref a2), .unset] [(.ref a1)])
  refine Go.of (fun _ k => XS.aloadN X2.here hx rfl (hb hby d4_10) rfl rfl k) ?_
  show Go p e below W T2 (mkF m 11 #[.val (.ref a1), .val (.ref a2), .unset] [(.ref a2), (.ref a1)])
  refine Go.alen X2 hx hZ e2 A_a2 (hb hby d4_11) ?_
  show Go p e below W T2 (mkF m 12 #[.val (.ref a1), .val (.ref a2), .unset] [(.int n.toInt32), (.ref a1)])
  refine Go.newA X2 hx hZ (hw _ (List.mem_of_getElem? (i := 0) rfl)) rfl rfl rfl e2 (hb hby d4_12) (own_nn (by omega)) (cap := 4) (by rw [show n.toInt32.toNatClampNeg = n from own_n32 (by omega)]; exact hn) (by decide) (by decide) (by decide) ?_
  intro T3 h3 b3 zq3 X3 e3 E3 E_b3 A_b3
  have ne_a1_b3 : a1 ≠ b3 := by rw [zq3]; exact Nat.ne_of_lt E_a1.lt
  have ne_a2_b3 : a2 ≠ b3 := by rw [zq3]; exact Nat.ne_of_lt A_a2.lt
  have g_b3 : n0 ≤ b3 := by rw [zq3]; exact Z0
  have s_b3 : h0.size ≤ b3 := by rw [zq3]; exact K.1
  have E_a1 := E_a1.ext E3
  have F_a1_order := F_a1_order.ext E3
  have F_a1_position := F_a1_position.ext E3
  have A_a2 := A_a2.ext E3
  have K := K.ext E3
  have Z0 := Nat.le_trans Z0 E3.1
  have A_b3 : AI Z h3 b3 .int n (w4_4 fo n) := ((show n.toInt32.toNatClampNeg = n from own_n32 (by omega)) ▸ A_b3)
  show Go p e below W T3 (mkF m 14 #[.val (.ref a1), .val (.ref a2), .unset] [(.ref b3), (.ref a1)])
  refine Go.putF X3 hx hZ hown (hw _ (List.mem_of_getElem? (i := 23) rfl)) e3 N g_a1 F_a1_position E_a1 (Or.inr ⟨(hw _ (List.mem_of_getElem? (i := 24) rfl)), rfl, hnm⟩) (hw _ (List.mem_of_getElem? (i := 13) rfl)) (ty := (.array .int)) (by decide) (v' := (.ref b3)) rfl rfl (hb hby d4_14) ?_
  intro T5 h5 L5 X5 N e5 W5 F_a1_position
  have E_a1 := E_a1.wr W5
  have F_a1_order := F_a1_order.other W5 (Or.inr (slot_ne (Or.inr (hw _ (List.mem_of_getElem? (i := 22) rfl))) (Or.inr (hw _ (List.mem_of_getElem? (i := 24) rfl))) (by decide) (t := (.array .int)) (t' := (.array .int)) (by decide) (by decide)))
  have A_a2 := A_a2.other W5 (Ne.symm ne_a1_a2)
  have A_b3 := A_b3.other W5 (Ne.symm ne_a1_b3)
  have K := K.wr W5 (Or.inl (List.mem_of_getElem? (i := 0) rfl))
  have Z0 := Nat.le_trans Z0 (Keep.of_wr W5).1
  show Go p e below W T5 (mkF m 17 #[.val (.ref a1), .val (.ref a2), .unset] [])
  refine Go.of (fun _ k => XS.iconst X5.here hx rfl (hb hby d4_17) k) ?_
  show Go p e below W T5 (mkF m 18 #[.val (.ref a1), .val (.ref a2), .unset] [(.int (0 : Int32))])
  refine Go.of (fun _ k => XS.istoreN X5.here hx rfl (hb hby d4_18) rfl (l' := #[.val (.ref a1), .val (.ref a2), .val (.int (0 : Int32))]) rfl k) ?_
  suffices LP6 : ∀ (k i : Nat) (T' : State) (h' : Heap) (L' : List Loc) (fq : Nat → Int32), i + k = n → Stand p l e ({ frames := 1, cells := 1, slots := 4, locals := 12 } : Room) s m #[(.ref a1), (.ref a2)] below meth c T' L' 1 4 → Fr n0 L' → T'.heap = h' → n0 ≤ h'.size → Keep h0 h' [a1] → Exa Z h' a1 "com/example/pilfer/pilfer/Tour" → Fld Z h' a1 "com/example/pilfer/pilfer/Tour" "order" "[I" (.ref a2) → Fld Z h' a1 "com/example/pilfer/pilfer/Tour" "position" "[I" (.ref b3) → AI Z h' a2 .int n fo → AI Z h' b3 .int n fq → Go p e below W T' (mkF m 19 #[.val (.ref a1), .val (.ref a2), .val (.int (Int32.ofNat i))] []) by
    exact LP6 (n) 0 _ _ _ _ (by omega) X5 N e5 Z0 K E_a1 F_a1_order F_a1_position A_a2 A_b3
  intro k
  induction k with
  | zero =>
    intro i T7 h7 L7 fq hik X7 N e7 Z0 K E_a1 F_a1_order F_a1_position A_a2 A_b3
    show Go p e below W T7 (mkF m 19 #[.val (.ref a1), .val (.ref a2), .val (.int (Int32.ofNat i))] [])
    refine Go.of (fun _ k => XS.iloadN X7.here hx rfl (hb hby d4_19) rfl k) ?_
    show Go p e below W T7 (mkF m 20 #[.val (.ref a1), .val (.ref a2), .val (.int (Int32.ofNat i))] [(.int (Int32.ofNat i))])
    refine Go.of (fun _ k => XS.aloadN X7.here hx rfl (hb hby d4_20) rfl rfl k) ?_
    show Go p e below W T7 (mkF m 21 #[.val (.ref a1), .val (.ref a2), .val (.int (Int32.ofNat i))] [(.ref a2), (.int (Int32.ofNat i))])
    refine Go.alen X7 hx hZ e7 A_a2 (hb hby d4_21) ?_
    show Go p e below W T7 (mkF m 22 #[.val (.ref a1), .val (.ref a2), .val (.int (Int32.ofNat i))] [(.int n.toInt32), (.int (Int32.ofNat i))])
    refine Go.of (fun _ k => XS.icmpYes X7.here hx rfl (pc0 := 22) (pc' := 40) rfl (hb hby d4_22) rfl (Jvm.Free.XT.ii_ge_t (own_nlt (by omega) (by omega))) (by decide) (by decide) k) ?_
    show Go p e below W T7 (mkF m 40 #[.val (.ref a1), .val (.ref a2), .val (.int (Int32.ofNat i))] [])
    have fin : Q4 Z a1 a2 fo n h0 n0 (none) h7 L7 := ⟨rfl, N, K, F_a1_order⟩
    exact Go.retV X7 hx hret (hb hby d4_40) hlk (fun t ht fe => hW t _ _ _ _ (by rw [ht, e7]; exact fin) fe (by decide) (by decide))
  | succ k ih =>
    intro i T8 h8 L8 fq hik X8 N e8 Z0 K E_a1 F_a1_order F_a1_position A_a2 A_b3
    show Go p e below W T8 (mkF m 19 #[.val (.ref a1), .val (.ref a2), .val (.int (Int32.ofNat i))] [])
    refine Go.of (fun _ k => XS.iloadN X8.here hx rfl (hb hby d4_19) rfl k) ?_
    show Go p e below W T8 (mkF m 20 #[.val (.ref a1), .val (.ref a2), .val (.int (Int32.ofNat i))] [(.int (Int32.ofNat i))])
    refine Go.of (fun _ k => XS.aloadN X8.here hx rfl (hb hby d4_20) rfl rfl k) ?_
    show Go p e below W T8 (mkF m 21 #[.val (.ref a1), .val (.ref a2), .val (.int (Int32.ofNat i))] [(.ref a2), (.int (Int32.ofNat i))])
    refine Go.alen X8 hx hZ e8 A_a2 (hb hby d4_21) ?_
    show Go p e below W T8 (mkF m 22 #[.val (.ref a1), .val (.ref a2), .val (.int (Int32.ofNat i))] [(.int n.toInt32), (.int (Int32.ofNat i))])
    refine Go.of (fun _ k => XS.icmpNo X8.here hx rfl (hb hby d4_22) rfl (Jvm.Free.XT.ii_ge_f (own_lt (by omega) (by omega))) k) ?_
    show Go p e below W T8 (mkF m 25 #[.val (.ref a1), .val (.ref a2), .val (.int (Int32.ofNat i))] [])
    refine Go.of (fun _ k => XS.aloadN X8.here hx rfl (hb hby d4_25) rfl rfl k) ?_
    show Go p e below W T8 (mkF m 26 #[.val (.ref a1), .val (.ref a2), .val (.int (Int32.ofNat i))] [(.ref a1)])
    refine Go.getF X8 hx hZ hown (hw _ (List.mem_of_getElem? (i := 23) rfl)) e8 F_a1_position (hb hby d4_26) ?_
    intro T9 X9 e9
    show Go p e below W T9 (mkF m 29 #[.val (.ref a1), .val (.ref a2), .val (.int (Int32.ofNat i))] [(.ref b3)])
    refine Go.of (fun _ k => XS.aloadN X9.here hx rfl (hb hby d4_29) rfl rfl k) ?_
    show Go p e below W T9 (mkF m 30 #[.val (.ref a1), .val (.ref a2), .val (.int (Int32.ofNat i))] [(.ref a2), (.ref b3)])
    refine Go.of (fun _ k => XS.iloadN X9.here hx rfl (hb hby d4_30) rfl k) ?_
    show Go p e below W T9 (mkF m 31 #[.val (.ref a1), .val (.ref a2), .val (.int (Int32.ofNat i))] [(.int (Int32.ofNat i)), (.ref a2), (.ref b3)])
    refine Go.iald X9 hx hZ e9 A_a2 (own_inbN (by omega) (by omega)) (hb hby d4_31) ?_
    show Go p e below W T9 (mkF m 32 #[.val (.ref a1), .val (.ref a2), .val (.int (Int32.ofNat i))] [(.int (fo (Int32.ofNat i).toNatClampNeg)), (.ref b3)])
    refine Go.of (fun _ k => XS.iloadN X9.here hx rfl (hb hby d4_32) rfl k) ?_
    show Go p e below W T9 (mkF m 33 #[.val (.ref a1), .val (.ref a2), .val (.int (Int32.ofNat i))] [(.int (Int32.ofNat i)), (.int (fo (Int32.ofNat i).toNatClampNeg)), (.ref b3)])
    refine Go.ist X9 hx hZ e9 N g_b3 A_b3 (hfo _ (by rw [own_n32 (by omega)]; omega)) (hb hby d4_33) ?_
    intro T10 h10 L10 X10 N e10 W10 A_b3
    have E_a1 := E_a1.wr W10
    have F_a1_order := F_a1_order.other W10 (Or.inl ne_a1_b3)
    have F_a1_position := F_a1_position.other W10 (Or.inl ne_a1_b3)
    have A_a2 := A_a2.other W10 ne_a2_b3
    have K := K.wr W10 (Or.inr s_b3)
    have Z0 := Nat.le_trans Z0 (Keep.of_wr W10).1
    have A_b3 : AI Z h10 b3 .int n (upd fq (fo (Int32.ofNat i).toNatClampNeg).toNatClampNeg (Int32.ofNat i)) := A_b3
    show Go p e below W T10 (mkF m 34 #[.val (.ref a1), .val (.ref a2), .val (.int (Int32.ofNat i))] [])
    refine Go.of (fun _ k => XS.iinc X10.here hx rfl (hb hby d4_34) rfl (l' := #[.val (.ref a1), .val (.ref a2), .val (.int ((Int32.ofNat i) + (1 : Int32)))]) rfl k) ?_
    show Go p e below W T10 (mkF m 37 #[.val (.ref a1), .val (.ref a2), .val (.int ((Int32.ofNat i) + (1 : Int32)))] [])
    refine Go.of (fun _ k => XS.goto X10.here hx rfl (pc0 := 37) (pc' := 19) rfl (hb hby d4_37) (by decide) (by decide) k) ?_
    rw [own_one]
    exact ih (i + 1) _ _ _ _ (by omega) X10 N e10 Z0 K E_a1 F_a1_order F_a1_position A_a2 A_b3
set_option maxRecDepth 65536 in
set_option maxHeartbeats 40000000 in
theorem rm6 (l : Launch) (Z : State) (a0 : Array Value) (hw : ∀ d ∈ tables_1, d.before a0 Z = true) (ws : List Jvm.Cond) (a1 : Addr) (p2 : Int32) (ao : Addr) (fo : Nat → Int32) (n : Nat) (h0 : Heap) (F_a1_order : Fld Z h0 a1 "com/example/pilfer/pilfer/Tour" "order" "[I" (.ref ao)) (A_ao : AI Z h0 ao .int n fo) (hn : n ≤ 4) (hp : inb p2 n) :
    Con l Z (⟨"com/example/pilfer/pilfer/Tour", "next", "(I)I"⟩ : MethodName) prog_24_method_5_code 2 (some .int) ws ({ frames := 0, cells := 0, slots := 0, locals := 0 } : Room) #[(.ref a1), (.int p2)] h0 (PQ (.int (f6 p2 fo n)) h0) := by
  refine own_body pn_6 (fun m => ef_6 m a1 p2) ?_
  intro p e s m below meth c T0 W X0 hx hby hml hret hlk hown hnm hZ e0 hW
  show Go p e below W T0 (mkF m 0 #[.val (.ref a1), .val (.int p2)] [])
  refine Go.of (fun _ k => XS.iloadN X0.here hx rfl (hb hby d6_0) rfl k) ?_
  show Go p e below W T0 (mkF m 1 #[.val (.ref a1), .val (.int p2)] [(.int p2)])
  refine Go.of (fun _ k => XS.iconst X0.here hx rfl (hb hby d6_1) k) ?_
  show Go p e below W T0 (mkF m 2 #[.val (.ref a1), .val (.int p2)] [(.int (1 : Int32)), (.int p2)])
  refine Go.of (fun _ k => XS.iadd X0.here hx rfl (hb hby d6_2) rfl k) ?_
  show Go p e below W T0 (mkF m 3 #[.val (.ref a1), .val (.int p2)] [(.int (p2 + (1 : Int32)))])
  refine Go.of (fun _ k => XS.aloadN X0.here hx rfl (hb hby d6_3) rfl rfl k) ?_
  show Go p e below W T0 (mkF m 4 #[.val (.ref a1), .val (.int p2)] [(.ref a1), (.int (p2 + (1 : Int32)))])
  refine Go.getF X0 hx hZ hown (hw _ (List.mem_of_getElem? (i := 21) rfl)) e0 F_a1_order (hb hby d6_4) ?_
  intro T1 X1 e1
  show Go p e below W T1 (mkF m 7 #[.val (.ref a1), .val (.int p2)] [(.ref ao), (.int (p2 + (1 : Int32)))])
  refine Go.alen X1 hx hZ e1 A_ao (hb hby d6_7) ?_
  show Go p e below W T1 (mkF m 8 #[.val (.ref a1), .val (.int p2)] [(.int n.toInt32), (.int (p2 + (1 : Int32)))])
  by_cases c2 : (p2 + (1 : Int32)) < n.toInt32
  · refine Go.of (fun _ k => XS.icmpNo X1.here hx rfl (hb hby d6_8) rfl (Jvm.Free.XT.ii_ge_f c2) k) ?_
    show Go p e below W T1 (mkF m 11 #[.val (.ref a1), .val (.int p2)] [])
    refine Go.of (fun _ k => XS.aloadN X1.here hx rfl (hb hby d6_11) rfl rfl k) ?_
    show Go p e below W T1 (mkF m 12 #[.val (.ref a1), .val (.int p2)] [(.ref a1)])
    refine Go.getF X1 hx hZ hown (hw _ (List.mem_of_getElem? (i := 21) rfl)) e1 F_a1_order (hb hby d6_12) ?_
    intro T4 X4 e4
    show Go p e below W T4 (mkF m 15 #[.val (.ref a1), .val (.int p2)] [(.ref ao)])
    refine Go.of (fun _ k => XS.iloadN X4.here hx rfl (hb hby d6_15) rfl k) ?_
    show Go p e below W T4 (mkF m 16 #[.val (.ref a1), .val (.int p2)] [(.int p2), (.ref ao)])
    refine Go.of (fun _ k => XS.iconst X4.here hx rfl (hb hby d6_16) k) ?_
    show Go p e below W T4 (mkF m 17 #[.val (.ref a1), .val (.int p2)] [(.int (1 : Int32)), (.int p2), (.ref ao)])
    refine Go.of (fun _ k => XS.iadd X4.here hx rfl (hb hby d6_17) rfl k) ?_
    show Go p e below W T4 (mkF m 18 #[.val (.ref a1), .val (.int p2)] [(.int (p2 + (1 : Int32))), (.ref ao)])
    refine Go.iald X4 hx hZ e4 A_ao (own_nx hn hp c2) (hb hby d6_18) ?_
    show Go p e below W T4 (mkF m 19 #[.val (.ref a1), .val (.int p2)] [(.int (fo (p2 + (1 : Int32)).toNatClampNeg))])
    refine Go.of (fun _ k => XS.goto X4.here hx rfl (pc0 := 19) (pc' := 28) rfl (hb hby d6_19) (by decide) (by decide) k) ?_
    show Go p e below W T4 (mkF m 28 #[.val (.ref a1), .val (.int p2)] [(.int (fo (p2 + (1 : Int32)).toNatClampNeg))])
    have u_f6 : (f6 p2 fo n) = (fo (p2 + (1 : Int32)).toNatClampNeg) := by rw [f6, if_pos c2]
    exact Go.retI X4 hx hret (hb hby d6_28) hlk u_f6.symm (fun t ht fe => hW t _ _ _ _ ⟨rfl, rfl, ht.trans e4⟩ fe (by decide) (by decide))
  · refine Go.of (fun _ k => XS.icmpYes X1.here hx rfl (pc0 := 8) (pc' := 22) rfl (hb hby d6_8) rfl (Jvm.Free.XT.ii_ge_t c2) (by decide) (by decide) k) ?_
    show Go p e below W T1 (mkF m 22 #[.val (.ref a1), .val (.int p2)] [])
    refine Go.of (fun _ k => XS.aloadN X1.here hx rfl (hb hby d6_22) rfl rfl k) ?_
    show Go p e below W T1 (mkF m 23 #[.val (.ref a1), .val (.int p2)] [(.ref a1)])
    refine Go.getF X1 hx hZ hown (hw _ (List.mem_of_getElem? (i := 21) rfl)) e1 F_a1_order (hb hby d6_23) ?_
    intro T3 X3 e3
    show Go p e below W T3 (mkF m 26 #[.val (.ref a1), .val (.int p2)] [(.ref ao)])
    refine Go.of (fun _ k => XS.iconst X3.here hx rfl (hb hby d6_26) k) ?_
    show Go p e below W T3 (mkF m 27 #[.val (.ref a1), .val (.int p2)] [(.int (0 : Int32)), (.ref ao)])
    refine Go.iald X3 hx hZ e3 A_ao (own_z hp) (hb hby d6_27) ?_
    show Go p e below W T3 (mkF m 28 #[.val (.ref a1), .val (.int p2)] [(.int (fo 0))])
    have u_f6 : (f6 p2 fo n) = (fo 0) := by rw [f6, if_neg c2]
    exact Go.retI X3 hx hret (hb hby d6_28) hlk u_f6.symm (fun t ht fe => hW t _ _ _ _ ⟨rfl, rfl, ht.trans e3⟩ fe (by decide) (by decide))
set_option maxRecDepth 65536 in
set_option maxHeartbeats 40000000 in
theorem rm0 (l : Launch) (Z : State) (a0 : Array Value) (hw : ∀ d ∈ tables_1, d.before a0 Z = true) (ws : List Jvm.Cond) (p1 : Int32) (p2 : Int32) (p3 : Int32) (p4 : Int32) (p5 : Int32) (nn : Int32) (h0 : Heap) (n0 : Nat) (Z0 : n0 ≤ h0.size) (hnn : ((p1 &&& (3 : Int32)) + (1 : Int32)) = nn) (rn : own_rk nn) :
    Con l Z x code maxLocals ret ws room_1 #[(.int p1), (.int p2), (.int p3), (.int p4), (.int p5)] h0 (Q0 Z p1 p2 p3 p4 p5 nn h0 n0) := by
  refine own_body pn_0 (fun m => ef_0 m p1 p2 p3 p4 p5) ?_
  intro p e s m below meth c T0 W X0 hx hby hml hret hlk hown hnm hZ e0 hW
  have K : Keep h0 h0 [] := Keep.refl _ _
  have N := Fr.nil n0
  show Go p e below W T0 (mkF m 0 #[.val (.int p1), .val (.int p2), .val (.int p3), .val (.int p4), .val (.int p5), .unset, .unset, .unset, .unset, .unset, .unset, .unset, .unset, .unset, .unset, .unset] [])
  refine Go.of (fun _ k => XS.iloadN X0.here hx rfl (hb hby at_0) rfl k) ?_
  show Go p e below W T0 (mkF m 1 #[.val (.int p1), .val (.int p2), .val (.int p3), .val (.int p4), .val (.int p5), .unset, .unset, .unset, .unset, .unset, .unset, .unset, .unset, .unset, .unset, .unset] [(.int p1)])
  refine Go.of (fun _ k => XS.iconst X0.here hx rfl (hb hby at_1) k) ?_
  show Go p e below W T0 (mkF m 2 #[.val (.int p1), .val (.int p2), .val (.int p3), .val (.int p4), .val (.int p5), .unset, .unset, .unset, .unset, .unset, .unset, .unset, .unset, .unset, .unset, .unset] [(.int (3 : Int32)), (.int p1)])
  refine Go.of (fun _ k => XS.iand X0.here hx rfl (hb hby at_2) rfl k) ?_
  show Go p e below W T0 (mkF m 3 #[.val (.int p1), .val (.int p2), .val (.int p3), .val (.int p4), .val (.int p5), .unset, .unset, .unset, .unset, .unset, .unset, .unset, .unset, .unset, .unset, .unset] [(.int (p1 &&& (3 : Int32)))])
  refine Go.of (fun _ k => XS.iconst X0.here hx rfl (hb hby at_3) k) ?_
  show Go p e below W T0 (mkF m 4 #[.val (.int p1), .val (.int p2), .val (.int p3), .val (.int p4), .val (.int p5), .unset, .unset, .unset, .unset, .unset, .unset, .unset, .unset, .unset, .unset, .unset] [(.int (1 : Int32)), (.int (p1 &&& (3 : Int32)))])
  refine Go.of (fun _ k => XS.iadd X0.here hx rfl (hb hby at_4) rfl k) ?_
  show Go p e below W T0 (mkF m 5 #[.val (.int p1), .val (.int p2), .val (.int p3), .val (.int p4), .val (.int p5), .unset, .unset, .unset, .unset, .unset, .unset, .unset, .unset, .unset, .unset, .unset] [(.int ((p1 &&& (3 : Int32)) + (1 : Int32)))])
  rw [hnn]
  show Go p e below W T0 (mkF m 5 #[.val (.int p1), .val (.int p2), .val (.int p3), .val (.int p4), .val (.int p5), .unset, .unset, .unset, .unset, .unset, .unset, .unset, .unset, .unset, .unset, .unset] [(.int nn)])
  show Go p e below W T0 (mkF m 5 #[.val (.int p1), .val (.int p2), .val (.int p3), .val (.int p4), .val (.int p5), .unset, .unset, .unset, .unset, .unset, .unset, .unset, .unset, .unset, .unset, .unset] [(.int nn)])
  refine Go.of (fun _ k => XS.istore X0.here hx rfl (hb hby at_5) rfl (l' := #[.val (.int p1), .val (.int p2), .val (.int p3), .val (.int p4), .val (.int p5), .val (.int nn), .unset, .unset, .unset, .unset, .unset, .unset, .unset, .unset, .unset, .unset]) rfl k) ?_
  show Go p e below W T0 (mkF m 7 #[.val (.int p1), .val (.int p2), .val (.int p3), .val (.int p4), .val (.int p5), .val (.int nn), .unset, .unset, .unset, .unset, .unset, .unset, .unset, .unset, .unset, .unset] [])
  refine Go.of (fun _ k => XS.iload X0.here hx rfl (hb hby at_7) rfl k) ?_
  show Go p e below W T0 (mkF m 9 #[.val (.int p1), .val (.int p2), .val (.int p3), .val (.int p4), .val (.int p5), .val (.int nn), .unset, .unset, .unset, .unset, .unset, .unset, .unset, .unset, .unset, .unset] [(.int nn)])
  refine Go.of (fun _ k => XS.iconst X0.here hx rfl (hb hby at_9) k) ?_
  show Go p e below W T0 (mkF m 10 #[.val (.int p1), .val (.int p2), .val (.int p3), .val (.int p4), .val (.int p5), .val (.int nn), .unset, .unset, .unset, .unset, .unset, .unset, .unset, .unset, .unset, .unset] [(.int (1 : Int32)), (.int nn)])
  by_cases c1 : nn = (1 : Int32)
  · refine Go.of (fun _ k => XS.icmpNo X0.here hx rfl (hb hby at_10) rfl (Jvm.Free.XT.ii_ne_f c1) k) ?_
    show Go p e below W T0 (mkF m 13 #[.val (.int p1), .val (.int p2), .val (.int p3), .val (.int p4), .val (.int p5), .val (.int nn), .unset, .unset, .unset, .unset, .unset, .unset, .unset, .unset, .unset, .unset] [])
    rw [c1]
    show Go p e below W T0 (mkF m 13 #[.val (.int p1), .val (.int p2), .val (.int p3), .val (.int p4), .val (.int p5), .val (.int (1 : Int32)), .unset, .unset, .unset, .unset, .unset, .unset, .unset, .unset, .unset, .unset] [])
    show Go p e below W T0 (mkF m 13 #[.val (.int p1), .val (.int p2), .val (.int p3), .val (.int p4), .val (.int p5), .val (.int (1 : Int32)), .unset, .unset, .unset, .unset, .unset, .unset, .unset, .unset, .unset, .unset] [])
    refine Go.of (fun _ k => XS.iconst X0.here hx rfl (hb hby at_13) k) ?_
    show Go p e below W T0 (mkF m 14 #[.val (.int p1), .val (.int p2), .val (.int p3), .val (.int p4), .val (.int p5), .val (.int (1 : Int32)), .unset, .unset, .unset, .unset, .unset, .unset, .unset, .unset, .unset, .unset] [(.int (1 : Int32))])
    refine Go.newA X0 hx hZ (hw _ (List.mem_of_getElem? (i := 0) rfl)) rfl rfl rfl e0 (hb hby at_14) (by decide) (cap := 1) (by decide) (by decide) (by decide) (by decide) ?_
    intro T100 h100 b100 zq100 X100 e100 E100 E_b100 A_b100
    have g_b100 : n0 ≤ b100 := by rw [zq100]; exact Z0
    have s_b100 : h0.size ≤ b100 := by rw [zq100]; exact K.1
    have K := K.ext E100
    have Z0 := Nat.le_trans Z0 E100.1
    have A_b100 : AI Z h100 b100 .int 1 (w0_101 p2 p3 p4 p5 nn) := A_b100
    show Go p e below W T100 (mkF m 16 #[.val (.int p1), .val (.int p2), .val (.int p3), .val (.int p4), .val (.int p5), .val (.int (1 : Int32)), .unset, .unset, .unset, .unset, .unset, .unset, .unset, .unset, .unset, .unset] [(.ref b100)])
    refine Go.of (fun _ k => XS.dup X100.here hx rfl (hb hby at_16) rfl rfl k) ?_
    show Go p e below W T100 (mkF m 17 #[.val (.int p1), .val (.int p2), .val (.int p3), .val (.int p4), .val (.int p5), .val (.int (1 : Int32)), .unset, .unset, .unset, .unset, .unset, .unset, .unset, .unset, .unset, .unset] [(.ref b100), (.ref b100)])
    refine Go.of (fun _ k => XS.iconst X100.here hx rfl (hb hby at_17) k) ?_
    show Go p e below W T100 (mkF m 18 #[.val (.int p1), .val (.int p2), .val (.int p3), .val (.int p4), .val (.int p5), .val (.int (1 : Int32)), .unset, .unset, .unset, .unset, .unset, .unset, .unset, .unset, .unset, .unset] [(.int (0 : Int32)), (.ref b100), (.ref b100)])
    refine Go.of (fun _ k => XS.iconst X100.here hx rfl (hb hby at_18) k) ?_
    show Go p e below W T100 (mkF m 19 #[.val (.int p1), .val (.int p2), .val (.int p3), .val (.int p4), .val (.int p5), .val (.int (1 : Int32)), .unset, .unset, .unset, .unset, .unset, .unset, .unset, .unset, .unset, .unset] [(.int (0 : Int32)), (.int (0 : Int32)), (.ref b100), (.ref b100)])
    refine Go.ist X100 hx hZ e100 N g_b100 A_b100 ⟨by decide, by decide⟩ (hb hby at_19) ?_
    intro T102 h102 L102 X102 N e102 W102 A_b100
    have K := K.wr W102 (Or.inr s_b100)
    have Z0 := Nat.le_trans Z0 (Keep.of_wr W102).1
    have A_b100 : AI Z h102 b100 .int 1 (w0_103 p2 p3 p4 p5 nn) := A_b100
    show Go p e below W T102 (mkF m 20 #[.val (.int p1), .val (.int p2), .val (.int p3), .val (.int p4), .val (.int p5), .val (.int (1 : Int32)), .unset, .unset, .unset, .unset, .unset, .unset, .unset, .unset, .unset, .unset] [(.ref b100)])
    refine Go.of (fun _ k => XS.astore X102.here hx rfl (hb hby at_20) rfl rfl (l' := #[.val (.int p1), .val (.int p2), .val (.int p3), .val (.int p4), .val (.int p5), .val (.int (1 : Int32)), .val (.ref b100), .unset, .unset, .unset, .unset, .unset, .unset, .unset, .unset, .unset]) rfl k) ?_
    show Go p e below W T102 (mkF m 22 #[.val (.int p1), .val (.int p2), .val (.int p3), .val (.int p4), .val (.int p5), .val (.int (1 : Int32)), .val (.ref b100), .unset, .unset, .unset, .unset, .unset, .unset, .unset, .unset, .unset] [])
    refine Go.of (fun _ k => XS.goto X102.here hx rfl (pc0 := 22) (pc' := 94) rfl (hb hby at_22) (by decide) (by decide) k) ?_
    show Go p e below W T102 (mkF m 94 #[.val (.int p1), .val (.int p2), .val (.int p3), .val (.int p4), .val (.int p5), .val (.int (1 : Int32)), .val (.ref b100), .unset, .unset, .unset, .unset, .unset, .unset, .unset, .unset, .unset] [])
    refine Go.of (fun _ k => XS.aload X102.here hx rfl (hb hby at_94) rfl rfl k) ?_
    show Go p e below W T102 (mkF m 96 #[.val (.int p1), .val (.int p2), .val (.int p3), .val (.int p4), .val (.int p5), .val (.int (1 : Int32)), .val (.ref b100), .unset, .unset, .unset, .unset, .unset, .unset, .unset, .unset, .unset] [(.ref b100)])
    refine Go.of (fun _ k => XS.iloadN X102.here hx rfl (hb hby at_96) rfl k) ?_
    show Go p e below W T102 (mkF m 97 #[.val (.int p1), .val (.int p2), .val (.int p3), .val (.int p4), .val (.int p5), .val (.int (1 : Int32)), .val (.ref b100), .unset, .unset, .unset, .unset, .unset, .unset, .unset, .unset, .unset] [(.int p3), (.ref b100)])
    refine Go.of (fun _ k => XS.iload X102.here hx rfl (hb hby at_97) rfl k) ?_
    show Go p e below W T102 (mkF m 99 #[.val (.int p1), .val (.int p2), .val (.int p3), .val (.int p4), .val (.int p5), .val (.int (1 : Int32)), .val (.ref b100), .unset, .unset, .unset, .unset, .unset, .unset, .unset, .unset, .unset] [(.int (1 : Int32)), (.int p3), (.ref b100)])
    refine Go.callP X102 hx hZ hown (hw _ (List.mem_of_getElem? (i := 1) rfl)) (hw _ (List.mem_of_getElem? (i := 2) rfl)) (hw _ (List.mem_of_getElem? (i := 3) rfl)) (hw _ (List.mem_of_getElem? (i := 4) rfl)) (by decide) e102 (rm1 l Z a0 hw [] p3 (1 : Int32) h102 (by decide)) (V := 1) (by decide) (by decide) rfl rfl (by decide) (by decide) (by rw [hml]; rfl) (argsL := [(.int p3), (.int (1 : Int32))]) (rest := [(.ref b100)]) rfl (lenOf pd__II_I rfl) rfl (Nat.le_of_ble_eq_true rfl) (hb hby at_99) ?_
    intro T104 X104 e104
    show Go p e below W T104 (mkF m 102 #[.val (.int p1), .val (.int p2), .val (.int p3), .val (.int p4), .val (.int p5), .val (.int (1 : Int32)), .val (.ref b100), .unset, .unset, .unset, .unset, .unset, .unset, .unset, .unset, .unset] [(.int (f1 p3 (1 : Int32))), (.ref b100)])
    refine Go.of (fun _ k => XS.iloadN X104.here hx rfl (hb hby at_102) rfl k) ?_
    show Go p e below W T104 (mkF m 103 #[.val (.int p1), .val (.int p2), .val (.int p3), .val (.int p4), .val (.int p5), .val (.int (1 : Int32)), .val (.ref b100), .unset, .unset, .unset, .unset, .unset, .unset, .unset, .unset, .unset] [(.int p3), (.int (f1 p3 (1 : Int32))), (.ref b100)])
    refine Go.of (fun _ k => XS.iload X104.here hx rfl (hb hby at_103) rfl k) ?_
    show Go p e below W T104 (mkF m 105 #[.val (.int p1), .val (.int p2), .val (.int p3), .val (.int p4), .val (.int p5), .val (.int (1 : Int32)), .val (.ref b100), .unset, .unset, .unset, .unset, .unset, .unset, .unset, .unset, .unset] [(.int (1 : Int32)), (.int p3), (.int (f1 p3 (1 : Int32))), (.ref b100)])
    refine Go.callP X104 hx hZ hown (hw _ (List.mem_of_getElem? (i := 5) rfl)) (hw _ (List.mem_of_getElem? (i := 6) rfl)) (hw _ (List.mem_of_getElem? (i := 3) rfl)) (hw _ (List.mem_of_getElem? (i := 7) rfl)) (by decide) e104 (rm2 l Z a0 hw [] p3 (1 : Int32) h102 (by decide)) (V := 2) (by decide) (by decide) rfl rfl (by decide) (by decide) (by rw [hml]; rfl) (argsL := [(.int p3), (.int (1 : Int32))]) (rest := [(.int (f1 p3 (1 : Int32))), (.ref b100)]) rfl (lenOf pd__II_I rfl) rfl (Nat.le_of_ble_eq_true rfl) (hb hby at_105) ?_
    intro T105 X105 e105
    show Go p e below W T105 (mkF m 108 #[.val (.int p1), .val (.int p2), .val (.int p3), .val (.int p4), .val (.int p5), .val (.int (1 : Int32)), .val (.ref b100), .unset, .unset, .unset, .unset, .unset, .unset, .unset, .unset, .unset] [(.int (f2 p3 (1 : Int32))), (.int (f1 p3 (1 : Int32))), (.ref b100)])
    refine Go.callS X105 hx hZ hown (hw _ (List.mem_of_getElem? (i := 8) rfl)) (hw _ (List.mem_of_getElem? (i := 9) rfl)) (hw _ (List.mem_of_getElem? (i := 3) rfl)) (hw _ (List.mem_of_getElem? (i := 10) rfl)) (by decide) e105 (rm3 l Z a0 hw [] b100 (f1 p3 (1 : Int32)) (f2 p3 (1 : Int32)) (w0_103 p2 p3 p4 p5 nn) (1 : Nat) h102 n0 Z0 A_b100 g_b100 (own_lo1 _) (own_hi1 _)) (V := 0) (by decide) (by decide) (by decide) (by decide) (by rw [hml]; rfl) (argsL := [(.ref b100), (.int (f1 p3 (1 : Int32))), (.int (f2 p3 (1 : Int32)))]) (rest := []) rfl (lenOf pd___III_V rfl) rfl (Nat.le_of_ble_eq_true rfl) (hb hby at_108) ?_
    rintro T106 _ M106 ⟨rfl, N106, K106, A_b100⟩ X106
    obtain ⟨L106, zq106⟩ : ∃ z, z = L102 ++ M106 := ⟨_, rfl⟩
    have N := Fr.app N N106
    rw [← zq106] at X106 N
    have K := K.trans K106 (by
      intro x hx
      simp only [List.mem_cons, List.not_mem_nil, or_false] at hx
      rcases hx with rfl
      · exact Or.inr s_b100)
    have Z0 := Nat.le_trans Z0 K106.1
    show Go p e below W T106 (mkF m 111 #[.val (.int p1), .val (.int p2), .val (.int p3), .val (.int p4), .val (.int p5), .val (.int (1 : Int32)), .val (.ref b100), .unset, .unset, .unset, .unset, .unset, .unset, .unset, .unset, .unset] [])
    refine Go.of (fun _ k => XS.aload X106.here hx rfl (hb hby at_111) rfl rfl k) ?_
    show Go p e below W T106 (mkF m 113 #[.val (.int p1), .val (.int p2), .val (.int p3), .val (.int p4), .val (.int p5), .val (.int (1 : Int32)), .val (.ref b100), .unset, .unset, .unset, .unset, .unset, .unset, .unset, .unset, .unset] [(.ref b100)])
    refine Go.of (fun _ k => XS.iloadN X106.here hx rfl (hb hby at_113) rfl k) ?_
    show Go p e below W T106 (mkF m 114 #[.val (.int p1), .val (.int p2), .val (.int p3), .val (.int p4), .val (.int p5), .val (.int (1 : Int32)), .val (.ref b100), .unset, .unset, .unset, .unset, .unset, .unset, .unset, .unset, .unset] [(.int p4), (.ref b100)])
    refine Go.of (fun _ k => XS.iload X106.here hx rfl (hb hby at_114) rfl k) ?_
    show Go p e below W T106 (mkF m 116 #[.val (.int p1), .val (.int p2), .val (.int p3), .val (.int p4), .val (.int p5), .val (.int (1 : Int32)), .val (.ref b100), .unset, .unset, .unset, .unset, .unset, .unset, .unset, .unset, .unset] [(.int (1 : Int32)), (.int p4), (.ref b100)])
    refine Go.callP X106 hx hZ hown (hw _ (List.mem_of_getElem? (i := 1) rfl)) (hw _ (List.mem_of_getElem? (i := 2) rfl)) (hw _ (List.mem_of_getElem? (i := 3) rfl)) (hw _ (List.mem_of_getElem? (i := 4) rfl)) (by decide) rfl (rm1 l Z a0 hw [] p4 (1 : Int32) T106.heap (by decide)) (V := 1) (by decide) (by decide) rfl rfl (by decide) (by decide) (by rw [hml]; rfl) (argsL := [(.int p4), (.int (1 : Int32))]) (rest := [(.ref b100)]) rfl (lenOf pd__II_I rfl) rfl (Nat.le_of_ble_eq_true rfl) (hb hby at_116) ?_
    intro T107 X107 e107
    show Go p e below W T107 (mkF m 119 #[.val (.int p1), .val (.int p2), .val (.int p3), .val (.int p4), .val (.int p5), .val (.int (1 : Int32)), .val (.ref b100), .unset, .unset, .unset, .unset, .unset, .unset, .unset, .unset, .unset] [(.int (f1 p4 (1 : Int32))), (.ref b100)])
    refine Go.of (fun _ k => XS.iloadN X107.here hx rfl (hb hby at_119) rfl k) ?_
    show Go p e below W T107 (mkF m 120 #[.val (.int p1), .val (.int p2), .val (.int p3), .val (.int p4), .val (.int p5), .val (.int (1 : Int32)), .val (.ref b100), .unset, .unset, .unset, .unset, .unset, .unset, .unset, .unset, .unset] [(.int p4), (.int (f1 p4 (1 : Int32))), (.ref b100)])
    refine Go.of (fun _ k => XS.iload X107.here hx rfl (hb hby at_120) rfl k) ?_
    show Go p e below W T107 (mkF m 122 #[.val (.int p1), .val (.int p2), .val (.int p3), .val (.int p4), .val (.int p5), .val (.int (1 : Int32)), .val (.ref b100), .unset, .unset, .unset, .unset, .unset, .unset, .unset, .unset, .unset] [(.int (1 : Int32)), (.int p4), (.int (f1 p4 (1 : Int32))), (.ref b100)])
    refine Go.callP X107 hx hZ hown (hw _ (List.mem_of_getElem? (i := 5) rfl)) (hw _ (List.mem_of_getElem? (i := 6) rfl)) (hw _ (List.mem_of_getElem? (i := 3) rfl)) (hw _ (List.mem_of_getElem? (i := 7) rfl)) (by decide) e107 (rm2 l Z a0 hw [] p4 (1 : Int32) T106.heap (by decide)) (V := 2) (by decide) (by decide) rfl rfl (by decide) (by decide) (by rw [hml]; rfl) (argsL := [(.int p4), (.int (1 : Int32))]) (rest := [(.int (f1 p4 (1 : Int32))), (.ref b100)]) rfl (lenOf pd__II_I rfl) rfl (Nat.le_of_ble_eq_true rfl) (hb hby at_122) ?_
    intro T108 X108 e108
    show Go p e below W T108 (mkF m 125 #[.val (.int p1), .val (.int p2), .val (.int p3), .val (.int p4), .val (.int p5), .val (.int (1 : Int32)), .val (.ref b100), .unset, .unset, .unset, .unset, .unset, .unset, .unset, .unset, .unset] [(.int (f2 p4 (1 : Int32))), (.int (f1 p4 (1 : Int32))), (.ref b100)])
    refine Go.callS X108 hx hZ hown (hw _ (List.mem_of_getElem? (i := 8) rfl)) (hw _ (List.mem_of_getElem? (i := 9) rfl)) (hw _ (List.mem_of_getElem? (i := 3) rfl)) (hw _ (List.mem_of_getElem? (i := 10) rfl)) (by decide) e108 (rm3 l Z a0 hw [] b100 (f1 p4 (1 : Int32)) (f2 p4 (1 : Int32)) (f3_a1 (f1 p3 (1 : Int32)) (f2 p3 (1 : Int32)) (w0_103 p2 p3 p4 p5 nn) (1 : Nat)) (1 : Nat) T106.heap n0 Z0 A_b100 g_b100 (own_lo1 _) (own_hi1 _)) (V := 0) (by decide) (by decide) (by decide) (by decide) (by rw [hml]; rfl) (argsL := [(.ref b100), (.int (f1 p4 (1 : Int32))), (.int (f2 p4 (1 : Int32)))]) (rest := []) rfl (lenOf pd___III_V rfl) rfl (Nat.le_of_ble_eq_true rfl) (hb hby at_125) ?_
    rintro T109 _ M109 ⟨rfl, N109, K109, A_b100⟩ X109
    obtain ⟨L109, zq109⟩ : ∃ z, z = L106 ++ M109 := ⟨_, rfl⟩
    have N := Fr.app N N109
    rw [← zq109] at X109 N
    have K := K.trans K109 (by
      intro x hx
      simp only [List.mem_cons, List.not_mem_nil, or_false] at hx
      rcases hx with rfl
      · exact Or.inr s_b100)
    have Z0 := Nat.le_trans Z0 K109.1
    show Go p e below W T109 (mkF m 128 #[.val (.int p1), .val (.int p2), .val (.int p3), .val (.int p4), .val (.int p5), .val (.int (1 : Int32)), .val (.ref b100), .unset, .unset, .unset, .unset, .unset, .unset, .unset, .unset, .unset] [])
    refine Go.of (fun _ k => XS.aload X109.here hx rfl (hb hby at_128) rfl rfl k) ?_
    show Go p e below W T109 (mkF m 130 #[.val (.int p1), .val (.int p2), .val (.int p3), .val (.int p4), .val (.int p5), .val (.int (1 : Int32)), .val (.ref b100), .unset, .unset, .unset, .unset, .unset, .unset, .unset, .unset, .unset] [(.ref b100)])
    refine Go.of (fun _ k => XS.iload X109.here hx rfl (hb hby at_130) rfl k) ?_
    show Go p e below W T109 (mkF m 132 #[.val (.int p1), .val (.int p2), .val (.int p3), .val (.int p4), .val (.int p5), .val (.int (1 : Int32)), .val (.ref b100), .unset, .unset, .unset, .unset, .unset, .unset, .unset, .unset, .unset] [(.int p5), (.ref b100)])
    refine Go.of (fun _ k => XS.iload X109.here hx rfl (hb hby at_132) rfl k) ?_
    show Go p e below W T109 (mkF m 134 #[.val (.int p1), .val (.int p2), .val (.int p3), .val (.int p4), .val (.int p5), .val (.int (1 : Int32)), .val (.ref b100), .unset, .unset, .unset, .unset, .unset, .unset, .unset, .unset, .unset] [(.int (1 : Int32)), (.int p5), (.ref b100)])
    refine Go.callP X109 hx hZ hown (hw _ (List.mem_of_getElem? (i := 1) rfl)) (hw _ (List.mem_of_getElem? (i := 2) rfl)) (hw _ (List.mem_of_getElem? (i := 3) rfl)) (hw _ (List.mem_of_getElem? (i := 4) rfl)) (by decide) rfl (rm1 l Z a0 hw [] p5 (1 : Int32) T109.heap (by decide)) (V := 1) (by decide) (by decide) rfl rfl (by decide) (by decide) (by rw [hml]; rfl) (argsL := [(.int p5), (.int (1 : Int32))]) (rest := [(.ref b100)]) rfl (lenOf pd__II_I rfl) rfl (Nat.le_of_ble_eq_true rfl) (hb hby at_134) ?_
    intro T110 X110 e110
    show Go p e below W T110 (mkF m 137 #[.val (.int p1), .val (.int p2), .val (.int p3), .val (.int p4), .val (.int p5), .val (.int (1 : Int32)), .val (.ref b100), .unset, .unset, .unset, .unset, .unset, .unset, .unset, .unset, .unset] [(.int (f1 p5 (1 : Int32))), (.ref b100)])
    refine Go.of (fun _ k => XS.iload X110.here hx rfl (hb hby at_137) rfl k) ?_
    show Go p e below W T110 (mkF m 139 #[.val (.int p1), .val (.int p2), .val (.int p3), .val (.int p4), .val (.int p5), .val (.int (1 : Int32)), .val (.ref b100), .unset, .unset, .unset, .unset, .unset, .unset, .unset, .unset, .unset] [(.int p5), (.int (f1 p5 (1 : Int32))), (.ref b100)])
    refine Go.of (fun _ k => XS.iload X110.here hx rfl (hb hby at_139) rfl k) ?_
    show Go p e below W T110 (mkF m 141 #[.val (.int p1), .val (.int p2), .val (.int p3), .val (.int p4), .val (.int p5), .val (.int (1 : Int32)), .val (.ref b100), .unset, .unset, .unset, .unset, .unset, .unset, .unset, .unset, .unset] [(.int (1 : Int32)), (.int p5), (.int (f1 p5 (1 : Int32))), (.ref b100)])
    refine Go.callP X110 hx hZ hown (hw _ (List.mem_of_getElem? (i := 5) rfl)) (hw _ (List.mem_of_getElem? (i := 6) rfl)) (hw _ (List.mem_of_getElem? (i := 3) rfl)) (hw _ (List.mem_of_getElem? (i := 7) rfl)) (by decide) e110 (rm2 l Z a0 hw [] p5 (1 : Int32) T109.heap (by decide)) (V := 2) (by decide) (by decide) rfl rfl (by decide) (by decide) (by rw [hml]; rfl) (argsL := [(.int p5), (.int (1 : Int32))]) (rest := [(.int (f1 p5 (1 : Int32))), (.ref b100)]) rfl (lenOf pd__II_I rfl) rfl (Nat.le_of_ble_eq_true rfl) (hb hby at_141) ?_
    intro T111 X111 e111
    show Go p e below W T111 (mkF m 144 #[.val (.int p1), .val (.int p2), .val (.int p3), .val (.int p4), .val (.int p5), .val (.int (1 : Int32)), .val (.ref b100), .unset, .unset, .unset, .unset, .unset, .unset, .unset, .unset, .unset] [(.int (f2 p5 (1 : Int32))), (.int (f1 p5 (1 : Int32))), (.ref b100)])
    refine Go.callS X111 hx hZ hown (hw _ (List.mem_of_getElem? (i := 8) rfl)) (hw _ (List.mem_of_getElem? (i := 9) rfl)) (hw _ (List.mem_of_getElem? (i := 3) rfl)) (hw _ (List.mem_of_getElem? (i := 10) rfl)) (by decide) e111 (rm3 l Z a0 hw [] b100 (f1 p5 (1 : Int32)) (f2 p5 (1 : Int32)) (f3_a1 (f1 p4 (1 : Int32)) (f2 p4 (1 : Int32)) (f3_a1 (f1 p3 (1 : Int32)) (f2 p3 (1 : Int32)) (w0_103 p2 p3 p4 p5 nn) (1 : Nat)) (1 : Nat)) (1 : Nat) T109.heap n0 Z0 A_b100 g_b100 (own_lo1 _) (own_hi1 _)) (V := 0) (by decide) (by decide) (by decide) (by decide) (by rw [hml]; rfl) (argsL := [(.ref b100), (.int (f1 p5 (1 : Int32))), (.int (f2 p5 (1 : Int32)))]) (rest := []) rfl (lenOf pd___III_V rfl) rfl (Nat.le_of_ble_eq_true rfl) (hb hby at_144) ?_
    rintro T112 _ M112 ⟨rfl, N112, K112, A_b100⟩ X112
    obtain ⟨L112, zq112⟩ : ∃ z, z = L109 ++ M112 := ⟨_, rfl⟩
    have N := Fr.app N N112
    rw [← zq112] at X112 N
    have K := K.trans K112 (by
      intro x hx
      simp only [List.mem_cons, List.not_mem_nil, or_false] at hx
      rcases hx with rfl
      · exact Or.inr s_b100)
    have Z0 := Nat.le_trans Z0 K112.1
    show Go p e below W T112 (mkF m 147 #[.val (.int p1), .val (.int p2), .val (.int p3), .val (.int p4), .val (.int p5), .val (.int (1 : Int32)), .val (.ref b100), .unset, .unset, .unset, .unset, .unset, .unset, .unset, .unset, .unset] [])
    refine Go.of (fun _ k => XS.aload X112.here hx rfl (hb hby at_147) rfl rfl k) ?_
    show Go p e below W T112 (mkF m 149 #[.val (.int p1), .val (.int p2), .val (.int p3), .val (.int p4), .val (.int p5), .val (.int (1 : Int32)), .val (.ref b100), .unset, .unset, .unset, .unset, .unset, .unset, .unset, .unset, .unset] [(.ref b100)])
    refine Go.of (fun _ k => XS.iconst X112.here hx rfl (hb hby at_149) k) ?_
    show Go p e below W T112 (mkF m 150 #[.val (.int p1), .val (.int p2), .val (.int p3), .val (.int p4), .val (.int p5), .val (.int (1 : Int32)), .val (.ref b100), .unset, .unset, .unset, .unset, .unset, .unset, .unset, .unset, .unset] [(.int (0 : Int32)), (.ref b100)])
    refine Go.iald X112 hx hZ rfl A_b100 ⟨by decide, by decide⟩ (hb hby at_150) ?_
    show Go p e below W T112 (mkF m 151 #[.val (.int p1), .val (.int p2), .val (.int p3), .val (.int p4), .val (.int p5), .val (.int (1 : Int32)), .val (.ref b100), .unset, .unset, .unset, .unset, .unset, .unset, .unset, .unset, .unset] [(.int ((f3_a1 (f1 p5 (1 : Int32)) (f2 p5 (1 : Int32)) (f3_a1 (f1 p4 (1 : Int32)) (f2 p4 (1 : Int32)) (f3_a1 (f1 p3 (1 : Int32)) (f2 p3 (1 : Int32)) (w0_103 p2 p3 p4 p5 nn) (1 : Nat)) (1 : Nat)) (1 : Nat)) 0))])
    refine Go.of (fun _ k => XS.istore X112.here hx rfl (hb hby at_151) rfl (l' := #[.val (.int p1), .val (.int p2), .val (.int p3), .val (.int p4), .val (.int p5), .val (.int (1 : Int32)), .val (.ref b100), .val (.int (v0_113 p2 p3 p4 p5 nn)), .unset, .unset, .unset, .unset, .unset, .unset, .unset, .unset]) rfl k) ?_
    show Go p e below W T112 (mkF m 153 #[.val (.int p1), .val (.int p2), .val (.int p3), .val (.int p4), .val (.int p5), .val (.int (1 : Int32)), .val (.ref b100), .val (.int (v0_113 p2 p3 p4 p5 nn)), .unset, .unset, .unset, .unset, .unset, .unset, .unset, .unset] [])
    refine Go.of (fun _ k => XS.iload X112.here hx rfl (hb hby at_153) rfl k) ?_
    show Go p e below W T112 (mkF m 155 #[.val (.int p1), .val (.int p2), .val (.int p3), .val (.int p4), .val (.int p5), .val (.int (1 : Int32)), .val (.ref b100), .val (.int (v0_113 p2 p3 p4 p5 nn)), .unset, .unset, .unset, .unset, .unset, .unset, .unset, .unset] [(.int (1 : Int32))])
    refine Go.of (fun _ k => XS.iconst X112.here hx rfl (hb hby at_155) k) ?_
    show Go p e below W T112 (mkF m 156 #[.val (.int p1), .val (.int p2), .val (.int p3), .val (.int p4), .val (.int p5), .val (.int (1 : Int32)), .val (.ref b100), .val (.int (v0_113 p2 p3 p4 p5 nn)), .unset, .unset, .unset, .unset, .unset, .unset, .unset, .unset] [(.int (1 : Int32)), (.int (1 : Int32))])
    refine Go.of (fun _ k => XS.icmpYes X112.here hx rfl (pc0 := 156) (pc' := 166) rfl (hb hby at_156) rfl (Jvm.Free.XT.ii_le_t (by decide)) (by decide) (by decide) k) ?_
    show Go p e below W T112 (mkF m 166 #[.val (.int p1), .val (.int p2), .val (.int p3), .val (.int p4), .val (.int p5), .val (.int (1 : Int32)), .val (.ref b100), .val (.int (v0_113 p2 p3 p4 p5 nn)), .unset, .unset, .unset, .unset, .unset, .unset, .unset, .unset] [])
    refine Go.of (fun _ k => XS.iconst X112.here hx rfl (hb hby at_166) k) ?_
    show Go p e below W T112 (mkF m 167 #[.val (.int p1), .val (.int p2), .val (.int p3), .val (.int p4), .val (.int p5), .val (.int (1 : Int32)), .val (.ref b100), .val (.int (v0_113 p2 p3 p4 p5 nn)), .unset, .unset, .unset, .unset, .unset, .unset, .unset, .unset] [(.int (-1 : Int32))])
    refine Go.of (fun _ k => XS.istore X112.here hx rfl (hb hby at_167) rfl (l' := #[.val (.int p1), .val (.int p2), .val (.int p3), .val (.int p4), .val (.int p5), .val (.int (1 : Int32)), .val (.ref b100), .val (.int (v0_113 p2 p3 p4 p5 nn)), .val (.int (-1 : Int32)), .unset, .unset, .unset, .unset, .unset, .unset, .unset]) rfl k) ?_
    show Go p e below W T112 (mkF m 169 #[.val (.int p1), .val (.int p2), .val (.int p3), .val (.int p4), .val (.int p5), .val (.int (1 : Int32)), .val (.ref b100), .val (.int (v0_113 p2 p3 p4 p5 nn)), .val (.int (-1 : Int32)), .unset, .unset, .unset, .unset, .unset, .unset, .unset] [])
    refine Go.of (fun _ k => XS.iload X112.here hx rfl (hb hby at_169) rfl k) ?_
    show Go p e below W T112 (mkF m 171 #[.val (.int p1), .val (.int p2), .val (.int p3), .val (.int p4), .val (.int p5), .val (.int (1 : Int32)), .val (.ref b100), .val (.int (v0_113 p2 p3 p4 p5 nn)), .val (.int (-1 : Int32)), .unset, .unset, .unset, .unset, .unset, .unset, .unset] [(.int (1 : Int32))])
    refine Go.of (fun _ k => XS.iconst X112.here hx rfl (hb hby at_171) k) ?_
    show Go p e below W T112 (mkF m 172 #[.val (.int p1), .val (.int p2), .val (.int p3), .val (.int p4), .val (.int p5), .val (.int (1 : Int32)), .val (.ref b100), .val (.int (v0_113 p2 p3 p4 p5 nn)), .val (.int (-1 : Int32)), .unset, .unset, .unset, .unset, .unset, .unset, .unset] [(.int (2 : Int32)), (.int (1 : Int32))])
    refine Go.of (fun _ k => XS.icmpYes X112.here hx rfl (pc0 := 172) (pc' := 182) rfl (hb hby at_172) rfl (Jvm.Free.XT.ii_le_t (by decide)) (by decide) (by decide) k) ?_
    show Go p e below W T112 (mkF m 182 #[.val (.int p1), .val (.int p2), .val (.int p3), .val (.int p4), .val (.int p5), .val (.int (1 : Int32)), .val (.ref b100), .val (.int (v0_113 p2 p3 p4 p5 nn)), .val (.int (-1 : Int32)), .unset, .unset, .unset, .unset, .unset, .unset, .unset] [])
    refine Go.of (fun _ k => XS.iconst X112.here hx rfl (hb hby at_182) k) ?_
    show Go p e below W T112 (mkF m 183 #[.val (.int p1), .val (.int p2), .val (.int p3), .val (.int p4), .val (.int p5), .val (.int (1 : Int32)), .val (.ref b100), .val (.int (v0_113 p2 p3 p4 p5 nn)), .val (.int (-1 : Int32)), .unset, .unset, .unset, .unset, .unset, .unset, .unset] [(.int (-1 : Int32))])
    refine Go.of (fun _ k => XS.istore X112.here hx rfl (hb hby at_183) rfl (l' := #[.val (.int p1), .val (.int p2), .val (.int p3), .val (.int p4), .val (.int p5), .val (.int (1 : Int32)), .val (.ref b100), .val (.int (v0_113 p2 p3 p4 p5 nn)), .val (.int (-1 : Int32)), .val (.int (-1 : Int32)), .unset, .unset, .unset, .unset, .unset, .unset]) rfl k) ?_
    show Go p e below W T112 (mkF m 185 #[.val (.int p1), .val (.int p2), .val (.int p3), .val (.int p4), .val (.int p5), .val (.int (1 : Int32)), .val (.ref b100), .val (.int (v0_113 p2 p3 p4 p5 nn)), .val (.int (-1 : Int32)), .val (.int (-1 : Int32)), .unset, .unset, .unset, .unset, .unset, .unset] [])
    refine Go.of (fun _ k => XS.iload X112.here hx rfl (hb hby at_185) rfl k) ?_
    show Go p e below W T112 (mkF m 187 #[.val (.int p1), .val (.int p2), .val (.int p3), .val (.int p4), .val (.int p5), .val (.int (1 : Int32)), .val (.ref b100), .val (.int (v0_113 p2 p3 p4 p5 nn)), .val (.int (-1 : Int32)), .val (.int (-1 : Int32)), .unset, .unset, .unset, .unset, .unset, .unset] [(.int (1 : Int32))])
    refine Go.of (fun _ k => XS.iconst X112.here hx rfl (hb hby at_187) k) ?_
    show Go p e below W T112 (mkF m 188 #[.val (.int p1), .val (.int p2), .val (.int p3), .val (.int p4), .val (.int p5), .val (.int (1 : Int32)), .val (.ref b100), .val (.int (v0_113 p2 p3 p4 p5 nn)), .val (.int (-1 : Int32)), .val (.int (-1 : Int32)), .unset, .unset, .unset, .unset, .unset, .unset] [(.int (3 : Int32)), (.int (1 : Int32))])
    refine Go.of (fun _ k => XS.icmpYes X112.here hx rfl (pc0 := 188) (pc' := 198) rfl (hb hby at_188) rfl (Jvm.Free.XT.ii_le_t (by decide)) (by decide) (by decide) k) ?_
    show Go p e below W T112 (mkF m 198 #[.val (.int p1), .val (.int p2), .val (.int p3), .val (.int p4), .val (.int p5), .val (.int (1 : Int32)), .val (.ref b100), .val (.int (v0_113 p2 p3 p4 p5 nn)), .val (.int (-1 : Int32)), .val (.int (-1 : Int32)), .unset, .unset, .unset, .unset, .unset, .unset] [])
    refine Go.of (fun _ k => XS.iconst X112.here hx rfl (hb hby at_198) k) ?_
    show Go p e below W T112 (mkF m 199 #[.val (.int p1), .val (.int p2), .val (.int p3), .val (.int p4), .val (.int p5), .val (.int (1 : Int32)), .val (.ref b100), .val (.int (v0_113 p2 p3 p4 p5 nn)), .val (.int (-1 : Int32)), .val (.int (-1 : Int32)), .unset, .unset, .unset, .unset, .unset, .unset] [(.int (-1 : Int32))])
    refine Go.of (fun _ k => XS.istore X112.here hx rfl (hb hby at_199) rfl (l' := #[.val (.int p1), .val (.int p2), .val (.int p3), .val (.int p4), .val (.int p5), .val (.int (1 : Int32)), .val (.ref b100), .val (.int (v0_113 p2 p3 p4 p5 nn)), .val (.int (-1 : Int32)), .val (.int (-1 : Int32)), .val (.int (-1 : Int32)), .unset, .unset, .unset, .unset, .unset]) rfl k) ?_
    show Go p e below W T112 (mkF m 201 #[.val (.int p1), .val (.int p2), .val (.int p3), .val (.int p4), .val (.int p5), .val (.int (1 : Int32)), .val (.ref b100), .val (.int (v0_113 p2 p3 p4 p5 nn)), .val (.int (-1 : Int32)), .val (.int (-1 : Int32)), .val (.int (-1 : Int32)), .unset, .unset, .unset, .unset, .unset] [])
    refine Go.of (fun _ k => XS.iloadN X112.here hx rfl (hb hby at_201) rfl k) ?_
    show Go p e below W T112 (mkF m 202 #[.val (.int p1), .val (.int p2), .val (.int p3), .val (.int p4), .val (.int p5), .val (.int (1 : Int32)), .val (.ref b100), .val (.int (v0_113 p2 p3 p4 p5 nn)), .val (.int (-1 : Int32)), .val (.int (-1 : Int32)), .val (.int (-1 : Int32)), .unset, .unset, .unset, .unset, .unset] [(.int p2)])
    refine Go.of (fun _ k => X112.ldcI hx hown (mvT hZ (hw _ (List.mem_of_getElem? (i := 11) rfl))) rfl (hb hby at_202) k) ?_
    show Go p e below W T112 (mkF m 204 #[.val (.int p1), .val (.int p2), .val (.int p3), .val (.int p4), .val (.int p5), .val (.int (1 : Int32)), .val (.ref b100), .val (.int (v0_113 p2 p3 p4 p5 nn)), .val (.int (-1 : Int32)), .val (.int (-1 : Int32)), .val (.int (-1 : Int32)), .unset, .unset, .unset, .unset, .unset] [(.int (2147483647 : Int32)), (.int p2)])
    refine Go.of (fun _ k => XS.iand X112.here hx rfl (hb hby at_204) rfl k) ?_
    show Go p e below W T112 (mkF m 205 #[.val (.int p1), .val (.int p2), .val (.int p3), .val (.int p4), .val (.int p5), .val (.int (1 : Int32)), .val (.ref b100), .val (.int (v0_113 p2 p3 p4 p5 nn)), .val (.int (-1 : Int32)), .val (.int (-1 : Int32)), .val (.int (-1 : Int32)), .unset, .unset, .unset, .unset, .unset] [(.int (p2 &&& (2147483647 : Int32)))])
    refine Go.of (fun _ k => XS.iload X112.here hx rfl (hb hby at_205) rfl k) ?_
    show Go p e below W T112 (mkF m 207 #[.val (.int p1), .val (.int p2), .val (.int p3), .val (.int p4), .val (.int p5), .val (.int (1 : Int32)), .val (.ref b100), .val (.int (v0_113 p2 p3 p4 p5 nn)), .val (.int (-1 : Int32)), .val (.int (-1 : Int32)), .val (.int (-1 : Int32)), .unset, .unset, .unset, .unset, .unset] [(.int (1 : Int32)), (.int (p2 &&& (2147483647 : Int32)))])
    refine Go.of (fun _ k => iremM X112 hx rfl (hb hby at_207) rfl (by decide) k) ?_
    show Go p e below W T112 (mkF m 208 #[.val (.int p1), .val (.int p2), .val (.int p3), .val (.int p4), .val (.int p5), .val (.int (1 : Int32)), .val (.ref b100), .val (.int (v0_113 p2 p3 p4 p5 nn)), .val (.int (-1 : Int32)), .val (.int (-1 : Int32)), .val (.int (-1 : Int32)), .unset, .unset, .unset, .unset, .unset] [(.int ((p2 &&& (2147483647 : Int32)) % (1 : Int32)))])
    refine Go.of (fun _ k => XS.istore X112.here hx rfl (hb hby at_208) rfl (l' := #[.val (.int p1), .val (.int p2), .val (.int p3), .val (.int p4), .val (.int p5), .val (.int (1 : Int32)), .val (.ref b100), .val (.int (v0_113 p2 p3 p4 p5 nn)), .val (.int (-1 : Int32)), .val (.int (-1 : Int32)), .val (.int (-1 : Int32)), .val (.int (v0_114 p2 p3 p4 p5 nn)), .unset, .unset, .unset, .unset]) rfl k) ?_
    show Go p e below W T112 (mkF m 210 #[.val (.int p1), .val (.int p2), .val (.int p3), .val (.int p4), .val (.int p5), .val (.int (1 : Int32)), .val (.ref b100), .val (.int (v0_113 p2 p3 p4 p5 nn)), .val (.int (-1 : Int32)), .val (.int (-1 : Int32)), .val (.int (-1 : Int32)), .val (.int (v0_114 p2 p3 p4 p5 nn)), .unset, .unset, .unset, .unset] [])
    refine Go.of (fun _ k => XS.iload X112.here hx rfl (hb hby at_210) rfl k) ?_
    show Go p e below W T112 (mkF m 212 #[.val (.int p1), .val (.int p2), .val (.int p3), .val (.int p4), .val (.int p5), .val (.int (1 : Int32)), .val (.ref b100), .val (.int (v0_113 p2 p3 p4 p5 nn)), .val (.int (-1 : Int32)), .val (.int (-1 : Int32)), .val (.int (-1 : Int32)), .val (.int (v0_114 p2 p3 p4 p5 nn)), .unset, .unset, .unset, .unset] [(.int (v0_114 p2 p3 p4 p5 nn))])
    refine Go.of (fun _ k => XS.iconst X112.here hx rfl (hb hby at_212) k) ?_
    show Go p e below W T112 (mkF m 213 #[.val (.int p1), .val (.int p2), .val (.int p3), .val (.int p4), .val (.int p5), .val (.int (1 : Int32)), .val (.ref b100), .val (.int (v0_113 p2 p3 p4 p5 nn)), .val (.int (-1 : Int32)), .val (.int (-1 : Int32)), .val (.int (-1 : Int32)), .val (.int (v0_114 p2 p3 p4 p5 nn)), .unset, .unset, .unset, .unset] [(.int (1 : Int32)), (.int (v0_114 p2 p3 p4 p5 nn))])
    refine Go.of (fun _ k => XS.iadd X112.here hx rfl (hb hby at_213) rfl k) ?_
    show Go p e below W T112 (mkF m 214 #[.val (.int p1), .val (.int p2), .val (.int p3), .val (.int p4), .val (.int p5), .val (.int (1 : Int32)), .val (.ref b100), .val (.int (v0_113 p2 p3 p4 p5 nn)), .val (.int (-1 : Int32)), .val (.int (-1 : Int32)), .val (.int (-1 : Int32)), .val (.int (v0_114 p2 p3 p4 p5 nn)), .unset, .unset, .unset, .unset] [(.int ((v0_114 p2 p3 p4 p5 nn) + (1 : Int32)))])
    refine Go.of (fun _ k => XS.iload X112.here hx rfl (hb hby at_214) rfl k) ?_
    show Go p e below W T112 (mkF m 216 #[.val (.int p1), .val (.int p2), .val (.int p3), .val (.int p4), .val (.int p5), .val (.int (1 : Int32)), .val (.ref b100), .val (.int (v0_113 p2 p3 p4 p5 nn)), .val (.int (-1 : Int32)), .val (.int (-1 : Int32)), .val (.int (-1 : Int32)), .val (.int (v0_114 p2 p3 p4 p5 nn)), .unset, .unset, .unset, .unset] [(.int (1 : Int32)), (.int ((v0_114 p2 p3 p4 p5 nn) + (1 : Int32)))])
    refine Go.of (fun _ k => iremM X112 hx rfl (hb hby at_216) rfl (by decide) k) ?_
    show Go p e below W T112 (mkF m 217 #[.val (.int p1), .val (.int p2), .val (.int p3), .val (.int p4), .val (.int p5), .val (.int (1 : Int32)), .val (.ref b100), .val (.int (v0_113 p2 p3 p4 p5 nn)), .val (.int (-1 : Int32)), .val (.int (-1 : Int32)), .val (.int (-1 : Int32)), .val (.int (v0_114 p2 p3 p4 p5 nn)), .unset, .unset, .unset, .unset] [(.int (((v0_114 p2 p3 p4 p5 nn) + (1 : Int32)) % (1 : Int32)))])
    refine Go.of (fun _ k => XS.istore X112.here hx rfl (hb hby at_217) rfl (l' := #[.val (.int p1), .val (.int p2), .val (.int p3), .val (.int p4), .val (.int p5), .val (.int (1 : Int32)), .val (.ref b100), .val (.int (v0_113 p2 p3 p4 p5 nn)), .val (.int (-1 : Int32)), .val (.int (-1 : Int32)), .val (.int (-1 : Int32)), .val (.int (v0_114 p2 p3 p4 p5 nn)), .val (.int (v0_115 p2 p3 p4 p5 nn)), .unset, .unset, .unset]) rfl k) ?_
    show Go p e below W T112 (mkF m 219 #[.val (.int p1), .val (.int p2), .val (.int p3), .val (.int p4), .val (.int p5), .val (.int (1 : Int32)), .val (.ref b100), .val (.int (v0_113 p2 p3 p4 p5 nn)), .val (.int (-1 : Int32)), .val (.int (-1 : Int32)), .val (.int (-1 : Int32)), .val (.int (v0_114 p2 p3 p4 p5 nn)), .val (.int (v0_115 p2 p3 p4 p5 nn)), .unset, .unset, .unset] [])
    refine Go.of (fun _ k => XS.iload X112.here hx rfl (hb hby at_219) rfl k) ?_
    show Go p e below W T112 (mkF m 221 #[.val (.int p1), .val (.int p2), .val (.int p3), .val (.int p4), .val (.int p5), .val (.int (1 : Int32)), .val (.ref b100), .val (.int (v0_113 p2 p3 p4 p5 nn)), .val (.int (-1 : Int32)), .val (.int (-1 : Int32)), .val (.int (-1 : Int32)), .val (.int (v0_114 p2 p3 p4 p5 nn)), .val (.int (v0_115 p2 p3 p4 p5 nn)), .unset, .unset, .unset] [(.int (v0_115 p2 p3 p4 p5 nn))])
    suffices G119 : ∀ T', Stand p l e room_1 s m #[(.int p1), (.int p2), (.int p3), (.int p4), (.int p5)] below meth c T' L112 1 1 → T'.heap = T112.heap → Go p e below W T' (mkF m 261 #[.val (.int p1), .val (.int p2), .val (.int p3), .val (.int p4), .val (.int p5), .val (.int (1 : Int32)), .val (.ref b100), .val (.int (v0_113 p2 p3 p4 p5 nn)), .val (.int (-1 : Int32)), .val (.int (-1 : Int32)), .val (.int (-1 : Int32)), .val (.int (v0_114 p2 p3 p4 p5 nn)), .val (.int (v0_115 p2 p3 p4 p5 nn)), .val (.int (v0_120 p2 p3 p4 p5 nn)), .unset, .unset] []) by
      by_cases c116 : (v0_115 p2 p3 p4 p5 nn) = (0 : Int32)
      · refine Go.of (fun _ k => XS.ifNo X112.here hx rfl (hb hby at_221) rfl (Jvm.Free.XT.i0_ne_f c116) k) ?_
        show Go p e below W T112 (mkF m 224 #[.val (.int p1), .val (.int p2), .val (.int p3), .val (.int p4), .val (.int p5), .val (.int (1 : Int32)), .val (.ref b100), .val (.int (v0_113 p2 p3 p4 p5 nn)), .val (.int (-1 : Int32)), .val (.int (-1 : Int32)), .val (.int (-1 : Int32)), .val (.int (v0_114 p2 p3 p4 p5 nn)), .val (.int (v0_115 p2 p3 p4 p5 nn)), .unset, .unset, .unset] [])
        refine Go.of (fun _ k => XS.iload X112.here hx rfl (hb hby at_224) rfl k) ?_
        show Go p e below W T112 (mkF m 226 #[.val (.int p1), .val (.int p2), .val (.int p3), .val (.int p4), .val (.int p5), .val (.int (1 : Int32)), .val (.ref b100), .val (.int (v0_113 p2 p3 p4 p5 nn)), .val (.int (-1 : Int32)), .val (.int (-1 : Int32)), .val (.int (-1 : Int32)), .val (.int (v0_114 p2 p3 p4 p5 nn)), .val (.int (v0_115 p2 p3 p4 p5 nn)), .unset, .unset, .unset] [(.int (v0_113 p2 p3 p4 p5 nn))])
        refine Go.of (fun _ k => XS.istore X112.here hx rfl (hb hby at_226) rfl (l' := #[.val (.int p1), .val (.int p2), .val (.int p3), .val (.int p4), .val (.int p5), .val (.int (1 : Int32)), .val (.ref b100), .val (.int (v0_113 p2 p3 p4 p5 nn)), .val (.int (-1 : Int32)), .val (.int (-1 : Int32)), .val (.int (-1 : Int32)), .val (.int (v0_114 p2 p3 p4 p5 nn)), .val (.int (v0_115 p2 p3 p4 p5 nn)), .val (.int (v0_113 p2 p3 p4 p5 nn)), .unset, .unset]) rfl k) ?_
        show Go p e below W T112 (mkF m 228 #[.val (.int p1), .val (.int p2), .val (.int p3), .val (.int p4), .val (.int p5), .val (.int (1 : Int32)), .val (.ref b100), .val (.int (v0_113 p2 p3 p4 p5 nn)), .val (.int (-1 : Int32)), .val (.int (-1 : Int32)), .val (.int (-1 : Int32)), .val (.int (v0_114 p2 p3 p4 p5 nn)), .val (.int (v0_115 p2 p3 p4 p5 nn)), .val (.int (v0_113 p2 p3 p4 p5 nn)), .unset, .unset] [])
        refine Go.of (fun _ k => XS.goto X112.here hx rfl (pc0 := 228) (pc' := 261) rfl (hb hby at_228) (by decide) (by decide) k) ?_
        have G119 := G119
        have q_v0_120 : (v0_120 p2 p3 p4 p5 nn) = (v0_113 p2 p3 p4 p5 nn) := by rw [v0_120, if_pos c116]
        rw [q_v0_120] at G119
        exact G119 _ X112 rfl
      · refine Go.of (fun _ k => XS.ifYes X112.here hx rfl (pc0 := 221) (pc' := 231) rfl (hb hby at_221) rfl (Jvm.Free.XT.i0_ne_t c116) (by decide) (by decide) k) ?_
        show Go p e below W T112 (mkF m 231 #[.val (.int p1), .val (.int p2), .val (.int p3), .val (.int p4), .val (.int p5), .val (.int (1 : Int32)), .val (.ref b100), .val (.int (v0_113 p2 p3 p4 p5 nn)), .val (.int (-1 : Int32)), .val (.int (-1 : Int32)), .val (.int (-1 : Int32)), .val (.int (v0_114 p2 p3 p4 p5 nn)), .val (.int (v0_115 p2 p3 p4 p5 nn)), .unset, .unset, .unset] [])
        refine Go.of (fun _ k => XS.iload X112.here hx rfl (hb hby at_231) rfl k) ?_
        show Go p e below W T112 (mkF m 233 #[.val (.int p1), .val (.int p2), .val (.int p3), .val (.int p4), .val (.int p5), .val (.int (1 : Int32)), .val (.ref b100), .val (.int (v0_113 p2 p3 p4 p5 nn)), .val (.int (-1 : Int32)), .val (.int (-1 : Int32)), .val (.int (-1 : Int32)), .val (.int (v0_114 p2 p3 p4 p5 nn)), .val (.int (v0_115 p2 p3 p4 p5 nn)), .unset, .unset, .unset] [(.int (v0_115 p2 p3 p4 p5 nn))])
        refine Go.of (fun _ k => XS.iconst X112.here hx rfl (hb hby at_233) k) ?_
        show Go p e below W T112 (mkF m 234 #[.val (.int p1), .val (.int p2), .val (.int p3), .val (.int p4), .val (.int p5), .val (.int (1 : Int32)), .val (.ref b100), .val (.int (v0_113 p2 p3 p4 p5 nn)), .val (.int (-1 : Int32)), .val (.int (-1 : Int32)), .val (.int (-1 : Int32)), .val (.int (v0_114 p2 p3 p4 p5 nn)), .val (.int (v0_115 p2 p3 p4 p5 nn)), .unset, .unset, .unset] [(.int (1 : Int32)), (.int (v0_115 p2 p3 p4 p5 nn))])
        by_cases c117 : (v0_115 p2 p3 p4 p5 nn) = (1 : Int32)
        · refine Go.of (fun _ k => XS.icmpNo X112.here hx rfl (hb hby at_234) rfl (Jvm.Free.XT.ii_ne_f c117) k) ?_
          show Go p e below W T112 (mkF m 237 #[.val (.int p1), .val (.int p2), .val (.int p3), .val (.int p4), .val (.int p5), .val (.int (1 : Int32)), .val (.ref b100), .val (.int (v0_113 p2 p3 p4 p5 nn)), .val (.int (-1 : Int32)), .val (.int (-1 : Int32)), .val (.int (-1 : Int32)), .val (.int (v0_114 p2 p3 p4 p5 nn)), .val (.int (v0_115 p2 p3 p4 p5 nn)), .unset, .unset, .unset] [])
          refine Go.of (fun _ k => XS.iload X112.here hx rfl (hb hby at_237) rfl k) ?_
          show Go p e below W T112 (mkF m 239 #[.val (.int p1), .val (.int p2), .val (.int p3), .val (.int p4), .val (.int p5), .val (.int (1 : Int32)), .val (.ref b100), .val (.int (v0_113 p2 p3 p4 p5 nn)), .val (.int (-1 : Int32)), .val (.int (-1 : Int32)), .val (.int (-1 : Int32)), .val (.int (v0_114 p2 p3 p4 p5 nn)), .val (.int (v0_115 p2 p3 p4 p5 nn)), .unset, .unset, .unset] [(.int (-1 : Int32))])
          refine Go.of (fun _ k => XS.istore X112.here hx rfl (hb hby at_239) rfl (l' := #[.val (.int p1), .val (.int p2), .val (.int p3), .val (.int p4), .val (.int p5), .val (.int (1 : Int32)), .val (.ref b100), .val (.int (v0_113 p2 p3 p4 p5 nn)), .val (.int (-1 : Int32)), .val (.int (-1 : Int32)), .val (.int (-1 : Int32)), .val (.int (v0_114 p2 p3 p4 p5 nn)), .val (.int (v0_115 p2 p3 p4 p5 nn)), .val (.int (-1 : Int32)), .unset, .unset]) rfl k) ?_
          show Go p e below W T112 (mkF m 241 #[.val (.int p1), .val (.int p2), .val (.int p3), .val (.int p4), .val (.int p5), .val (.int (1 : Int32)), .val (.ref b100), .val (.int (v0_113 p2 p3 p4 p5 nn)), .val (.int (-1 : Int32)), .val (.int (-1 : Int32)), .val (.int (-1 : Int32)), .val (.int (v0_114 p2 p3 p4 p5 nn)), .val (.int (v0_115 p2 p3 p4 p5 nn)), .val (.int (-1 : Int32)), .unset, .unset] [])
          refine Go.of (fun _ k => XS.goto X112.here hx rfl (pc0 := 241) (pc' := 261) rfl (hb hby at_241) (by decide) (by decide) k) ?_
          have G119 := G119
          have q_v0_120 : (v0_120 p2 p3 p4 p5 nn) = (-1 : Int32) := by rw [v0_120, if_neg c116, if_pos c117]
          rw [q_v0_120] at G119
          exact G119 _ X112 rfl
        · refine Go.of (fun _ k => XS.icmpYes X112.here hx rfl (pc0 := 234) (pc' := 244) rfl (hb hby at_234) rfl (Jvm.Free.XT.ii_ne_t c117) (by decide) (by decide) k) ?_
          show Go p e below W T112 (mkF m 244 #[.val (.int p1), .val (.int p2), .val (.int p3), .val (.int p4), .val (.int p5), .val (.int (1 : Int32)), .val (.ref b100), .val (.int (v0_113 p2 p3 p4 p5 nn)), .val (.int (-1 : Int32)), .val (.int (-1 : Int32)), .val (.int (-1 : Int32)), .val (.int (v0_114 p2 p3 p4 p5 nn)), .val (.int (v0_115 p2 p3 p4 p5 nn)), .unset, .unset, .unset] [])
          refine Go.of (fun _ k => XS.iload X112.here hx rfl (hb hby at_244) rfl k) ?_
          show Go p e below W T112 (mkF m 246 #[.val (.int p1), .val (.int p2), .val (.int p3), .val (.int p4), .val (.int p5), .val (.int (1 : Int32)), .val (.ref b100), .val (.int (v0_113 p2 p3 p4 p5 nn)), .val (.int (-1 : Int32)), .val (.int (-1 : Int32)), .val (.int (-1 : Int32)), .val (.int (v0_114 p2 p3 p4 p5 nn)), .val (.int (v0_115 p2 p3 p4 p5 nn)), .unset, .unset, .unset] [(.int (v0_115 p2 p3 p4 p5 nn))])
          refine Go.of (fun _ k => XS.iconst X112.here hx rfl (hb hby at_246) k) ?_
          show Go p e below W T112 (mkF m 247 #[.val (.int p1), .val (.int p2), .val (.int p3), .val (.int p4), .val (.int p5), .val (.int (1 : Int32)), .val (.ref b100), .val (.int (v0_113 p2 p3 p4 p5 nn)), .val (.int (-1 : Int32)), .val (.int (-1 : Int32)), .val (.int (-1 : Int32)), .val (.int (v0_114 p2 p3 p4 p5 nn)), .val (.int (v0_115 p2 p3 p4 p5 nn)), .unset, .unset, .unset] [(.int (2 : Int32)), (.int (v0_115 p2 p3 p4 p5 nn))])
          by_cases c118 : (v0_115 p2 p3 p4 p5 nn) = (2 : Int32)
          · refine Go.of (fun _ k => XS.icmpNo X112.here hx rfl (hb hby at_247) rfl (Jvm.Free.XT.ii_ne_f c118) k) ?_
            show Go p e below W T112 (mkF m 250 #[.val (.int p1), .val (.int p2), .val (.int p3), .val (.int p4), .val (.int p5), .val (.int (1 : Int32)), .val (.ref b100), .val (.int (v0_113 p2 p3 p4 p5 nn)), .val (.int (-1 : Int32)), .val (.int (-1 : Int32)), .val (.int (-1 : Int32)), .val (.int (v0_114 p2 p3 p4 p5 nn)), .val (.int (v0_115 p2 p3 p4 p5 nn)), .unset, .unset, .unset] [])
            refine Go.of (fun _ k => XS.iload X112.here hx rfl (hb hby at_250) rfl k) ?_
            show Go p e below W T112 (mkF m 252 #[.val (.int p1), .val (.int p2), .val (.int p3), .val (.int p4), .val (.int p5), .val (.int (1 : Int32)), .val (.ref b100), .val (.int (v0_113 p2 p3 p4 p5 nn)), .val (.int (-1 : Int32)), .val (.int (-1 : Int32)), .val (.int (-1 : Int32)), .val (.int (v0_114 p2 p3 p4 p5 nn)), .val (.int (v0_115 p2 p3 p4 p5 nn)), .unset, .unset, .unset] [(.int (-1 : Int32))])
            refine Go.of (fun _ k => XS.istore X112.here hx rfl (hb hby at_252) rfl (l' := #[.val (.int p1), .val (.int p2), .val (.int p3), .val (.int p4), .val (.int p5), .val (.int (1 : Int32)), .val (.ref b100), .val (.int (v0_113 p2 p3 p4 p5 nn)), .val (.int (-1 : Int32)), .val (.int (-1 : Int32)), .val (.int (-1 : Int32)), .val (.int (v0_114 p2 p3 p4 p5 nn)), .val (.int (v0_115 p2 p3 p4 p5 nn)), .val (.int (-1 : Int32)), .unset, .unset]) rfl k) ?_
            show Go p e below W T112 (mkF m 254 #[.val (.int p1), .val (.int p2), .val (.int p3), .val (.int p4), .val (.int p5), .val (.int (1 : Int32)), .val (.ref b100), .val (.int (v0_113 p2 p3 p4 p5 nn)), .val (.int (-1 : Int32)), .val (.int (-1 : Int32)), .val (.int (-1 : Int32)), .val (.int (v0_114 p2 p3 p4 p5 nn)), .val (.int (v0_115 p2 p3 p4 p5 nn)), .val (.int (-1 : Int32)), .unset, .unset] [])
            refine Go.of (fun _ k => XS.goto X112.here hx rfl (pc0 := 254) (pc' := 261) rfl (hb hby at_254) (by decide) (by decide) k) ?_
            have G119 := G119
            have q_v0_120 : (v0_120 p2 p3 p4 p5 nn) = (-1 : Int32) := by rw [v0_120, if_neg c116, if_neg c117, if_pos c118]
            rw [q_v0_120] at G119
            exact G119 _ X112 rfl
          · refine Go.of (fun _ k => XS.icmpYes X112.here hx rfl (pc0 := 247) (pc' := 257) rfl (hb hby at_247) rfl (Jvm.Free.XT.ii_ne_t c118) (by decide) (by decide) k) ?_
            show Go p e below W T112 (mkF m 257 #[.val (.int p1), .val (.int p2), .val (.int p3), .val (.int p4), .val (.int p5), .val (.int (1 : Int32)), .val (.ref b100), .val (.int (v0_113 p2 p3 p4 p5 nn)), .val (.int (-1 : Int32)), .val (.int (-1 : Int32)), .val (.int (-1 : Int32)), .val (.int (v0_114 p2 p3 p4 p5 nn)), .val (.int (v0_115 p2 p3 p4 p5 nn)), .unset, .unset, .unset] [])
            refine Go.of (fun _ k => XS.iload X112.here hx rfl (hb hby at_257) rfl k) ?_
            show Go p e below W T112 (mkF m 259 #[.val (.int p1), .val (.int p2), .val (.int p3), .val (.int p4), .val (.int p5), .val (.int (1 : Int32)), .val (.ref b100), .val (.int (v0_113 p2 p3 p4 p5 nn)), .val (.int (-1 : Int32)), .val (.int (-1 : Int32)), .val (.int (-1 : Int32)), .val (.int (v0_114 p2 p3 p4 p5 nn)), .val (.int (v0_115 p2 p3 p4 p5 nn)), .unset, .unset, .unset] [(.int (-1 : Int32))])
            refine Go.of (fun _ k => XS.istore X112.here hx rfl (hb hby at_259) rfl (l' := #[.val (.int p1), .val (.int p2), .val (.int p3), .val (.int p4), .val (.int p5), .val (.int (1 : Int32)), .val (.ref b100), .val (.int (v0_113 p2 p3 p4 p5 nn)), .val (.int (-1 : Int32)), .val (.int (-1 : Int32)), .val (.int (-1 : Int32)), .val (.int (v0_114 p2 p3 p4 p5 nn)), .val (.int (v0_115 p2 p3 p4 p5 nn)), .val (.int (-1 : Int32)), .unset, .unset]) rfl k) ?_
            have G119 := G119
            have q_v0_120 : (v0_120 p2 p3 p4 p5 nn) = (-1 : Int32) := by rw [v0_120, if_neg c116, if_neg c117, if_neg c118]
            rw [q_v0_120] at G119
            exact G119 _ X112 rfl
    intro T119 X119 e119
    show Go p e below W T119 (mkF m 261 #[.val (.int p1), .val (.int p2), .val (.int p3), .val (.int p4), .val (.int p5), .val (.int (1 : Int32)), .val (.ref b100), .val (.int (v0_113 p2 p3 p4 p5 nn)), .val (.int (-1 : Int32)), .val (.int (-1 : Int32)), .val (.int (-1 : Int32)), .val (.int (v0_114 p2 p3 p4 p5 nn)), .val (.int (v0_115 p2 p3 p4 p5 nn)), .val (.int (v0_120 p2 p3 p4 p5 nn)), .unset, .unset] [])
    refine Go.newO X119 hx hZ hown (hw _ (List.mem_of_getElem? (i := 12) rfl)) (hw _ (List.mem_of_getElem? (i := 13) rfl)) (hw _ (List.mem_of_getElem? (i := 14) rfl)) e119 (hb hby at_261) (by decide) (by decide) ?_
    intro T121 h121 b121 zq121 X121 e121 E121 E_b121 D121
    have ne_b100_b121 : b100 ≠ b121 := by rw [zq121]; exact Nat.ne_of_lt A_b100.lt
    have g_b121 : n0 ≤ b121 := by rw [zq121]; exact Z0
    have s_b121 : h0.size ≤ b121 := by rw [zq121]; exact K.1
    have A_b100 := A_b100.ext E121
    have K := K.ext E121
    have Z0 := Nat.le_trans Z0 E121.1
    have F_b121_order : Fld Z h121 b121 "com/example/pilfer/pilfer/Tour" "order" "[I" .null := D121 (Or.inr (hw _ (List.mem_of_getElem? (i := 22) rfl))) (ty := (.array .int)) (by decide)
    have F_b121_position : Fld Z h121 b121 "com/example/pilfer/pilfer/Tour" "position" "[I" .null := D121 (Or.inr (hw _ (List.mem_of_getElem? (i := 24) rfl))) (ty := (.array .int)) (by decide)
    show Go p e below W T121 (mkF m 264 #[.val (.int p1), .val (.int p2), .val (.int p3), .val (.int p4), .val (.int p5), .val (.int (1 : Int32)), .val (.ref b100), .val (.int (v0_113 p2 p3 p4 p5 nn)), .val (.int (-1 : Int32)), .val (.int (-1 : Int32)), .val (.int (-1 : Int32)), .val (.int (v0_114 p2 p3 p4 p5 nn)), .val (.int (v0_115 p2 p3 p4 p5 nn)), .val (.int (v0_120 p2 p3 p4 p5 nn)), .unset, .unset] [(.ref b121)])
    refine Go.of (fun _ k => XS.dup X121.here hx rfl (hb hby at_264) rfl rfl k) ?_
    show Go p e below W T121 (mkF m 265 #[.val (.int p1), .val (.int p2), .val (.int p3), .val (.int p4), .val (.int p5), .val (.int (1 : Int32)), .val (.ref b100), .val (.int (v0_113 p2 p3 p4 p5 nn)), .val (.int (-1 : Int32)), .val (.int (-1 : Int32)), .val (.int (-1 : Int32)), .val (.int (v0_114 p2 p3 p4 p5 nn)), .val (.int (v0_115 p2 p3 p4 p5 nn)), .val (.int (v0_120 p2 p3 p4 p5 nn)), .unset, .unset] [(.ref b121), (.ref b121)])
    refine Go.of (fun _ k => XS.aload X121.here hx rfl (hb hby at_265) rfl rfl k) ?_
    show Go p e below W T121 (mkF m 267 #[.val (.int p1), .val (.int p2), .val (.int p3), .val (.int p4), .val (.int p5), .val (.int (1 : Int32)), .val (.ref b100), .val (.int (v0_113 p2 p3 p4 p5 nn)), .val (.int (-1 : Int32)), .val (.int (-1 : Int32)), .val (.int (-1 : Int32)), .val (.int (v0_114 p2 p3 p4 p5 nn)), .val (.int (v0_115 p2 p3 p4 p5 nn)), .val (.int (v0_120 p2 p3 p4 p5 nn)), .unset, .unset] [(.ref b100), (.ref b121), (.ref b121)])
    refine Go.callI X121 hx hZ rfl hown (hw _ (List.mem_of_getElem? (i := 15) rfl)) (hw _ (List.mem_of_getElem? (i := 16) rfl)) (hw _ (List.mem_of_getElem? (i := 14) rfl)) (hw _ (List.mem_of_getElem? (i := 17) rfl)) (by decide) e121 (rm4 l Z a0 hw [] b121 b100 (f3_a1 (f1 p5 (1 : Int32)) (f2 p5 (1 : Int32)) (f3_a1 (f1 p4 (1 : Int32)) (f2 p4 (1 : Int32)) (f3_a1 (f1 p3 (1 : Int32)) (f2 p3 (1 : Int32)) (w0_103 p2 p3 p4 p5 nn) (1 : Nat)) (1 : Nat)) (1 : Nat)) (1 : Nat) h121 n0 Z0 E_b121 F_b121_order F_b121_position A_b100 g_b121 (Ne.symm ne_b100_b121) (by decide) (own_sw (own_sw (own_sw (own_updin own_zero ⟨by decide, by decide⟩) (own_lo1 _) (own_hi1 _)) (own_lo1 _) (own_hi1 _)) (own_lo1 _) (own_hi1 _))) (V := 1) (by decide) (by decide) (by decide) (by decide) (by rw [hml]; rfl) (argsL := [(.ref b100)]) (rest := [(.ref b121)]) rfl (lenOf pd___I_V rfl) rfl (Nat.le_of_ble_eq_true rfl) (hb hby at_267) ?_
    rintro T122 _ M122 ⟨rfl, N122, K122, F_b121_order⟩ X122
    obtain ⟨L122, zq122⟩ : ∃ z, z = L112 ++ M122 := ⟨_, rfl⟩
    have N := Fr.app N N122
    rw [← zq122] at X122 N
    have A_b100 := A_b100.keep K122 (ninS ne_b100_b121 nin0)
    have E_b121 := E_b121.keep K122
    have K := K.trans K122 (by
      intro x hx
      simp only [List.mem_cons, List.not_mem_nil, or_false] at hx
      rcases hx with rfl
      · exact Or.inr s_b121)
    have Z0 := Nat.le_trans Z0 K122.1
    show Go p e below W T122 (mkF m 270 #[.val (.int p1), .val (.int p2), .val (.int p3), .val (.int p4), .val (.int p5), .val (.int (1 : Int32)), .val (.ref b100), .val (.int (v0_113 p2 p3 p4 p5 nn)), .val (.int (-1 : Int32)), .val (.int (-1 : Int32)), .val (.int (-1 : Int32)), .val (.int (v0_114 p2 p3 p4 p5 nn)), .val (.int (v0_115 p2 p3 p4 p5 nn)), .val (.int (v0_120 p2 p3 p4 p5 nn)), .unset, .unset] [(.ref b121)])
    refine Go.of (fun _ k => XS.astore X122.here hx rfl (hb hby at_270) rfl rfl (l' := #[.val (.int p1), .val (.int p2), .val (.int p3), .val (.int p4), .val (.int p5), .val (.int (1 : Int32)), .val (.ref b100), .val (.int (v0_113 p2 p3 p4 p5 nn)), .val (.int (-1 : Int32)), .val (.int (-1 : Int32)), .val (.int (-1 : Int32)), .val (.int (v0_114 p2 p3 p4 p5 nn)), .val (.int (v0_115 p2 p3 p4 p5 nn)), .val (.int (v0_120 p2 p3 p4 p5 nn)), .val (.ref b121), .unset]) rfl k) ?_
    show Go p e below W T122 (mkF m 272 #[.val (.int p1), .val (.int p2), .val (.int p3), .val (.int p4), .val (.int p5), .val (.int (1 : Int32)), .val (.ref b100), .val (.int (v0_113 p2 p3 p4 p5 nn)), .val (.int (-1 : Int32)), .val (.int (-1 : Int32)), .val (.int (-1 : Int32)), .val (.int (v0_114 p2 p3 p4 p5 nn)), .val (.int (v0_115 p2 p3 p4 p5 nn)), .val (.int (v0_120 p2 p3 p4 p5 nn)), .val (.ref b121), .unset] [])
    refine Go.of (fun _ k => XS.aload X122.here hx rfl (hb hby at_272) rfl rfl k) ?_
    show Go p e below W T122 (mkF m 274 #[.val (.int p1), .val (.int p2), .val (.int p3), .val (.int p4), .val (.int p5), .val (.int (1 : Int32)), .val (.ref b100), .val (.int (v0_113 p2 p3 p4 p5 nn)), .val (.int (-1 : Int32)), .val (.int (-1 : Int32)), .val (.int (-1 : Int32)), .val (.int (v0_114 p2 p3 p4 p5 nn)), .val (.int (v0_115 p2 p3 p4 p5 nn)), .val (.int (v0_120 p2 p3 p4 p5 nn)), .val (.ref b121), .unset] [(.ref b121)])
    refine Go.of (fun _ k => XS.iload X122.here hx rfl (hb hby at_274) rfl k) ?_
    show Go p e below W T122 (mkF m 276 #[.val (.int p1), .val (.int p2), .val (.int p3), .val (.int p4), .val (.int p5), .val (.int (1 : Int32)), .val (.ref b100), .val (.int (v0_113 p2 p3 p4 p5 nn)), .val (.int (-1 : Int32)), .val (.int (-1 : Int32)), .val (.int (-1 : Int32)), .val (.int (v0_114 p2 p3 p4 p5 nn)), .val (.int (v0_115 p2 p3 p4 p5 nn)), .val (.int (v0_120 p2 p3 p4 p5 nn)), .val (.ref b121), .unset] [(.int (v0_114 p2 p3 p4 p5 nn)), (.ref b121)])
    refine Go.callV X122 hx hZ hown (hw _ (List.mem_of_getElem? (i := 25) rfl)) (hw _ (List.mem_of_getElem? (i := 26) rfl)) (hw _ (List.mem_of_getElem? (i := 28) rfl)) (hw _ (List.mem_of_getElem? (i := 27) rfl)) (hw _ (List.mem_of_getElem? (i := 14) rfl)) (hw _ (List.mem_of_getElem? (i := 29) rfl)) (by decide) rfl E_b121 (rm6 l Z a0 hw [] b121 (v0_114 p2 p3 p4 p5 nn) b100 (f3_a1 (f1 p5 (1 : Int32)) (f2 p5 (1 : Int32)) (f3_a1 (f1 p4 (1 : Int32)) (f2 p4 (1 : Int32)) (f3_a1 (f1 p3 (1 : Int32)) (f2 p3 (1 : Int32)) (w0_103 p2 p3 p4 p5 nn) (1 : Nat)) (1 : Nat)) (1 : Nat)) (1 : Nat) T122.heap F_b121_order A_b100 (by decide) (own_pp1 _)) (V := 0) (by decide) (by decide) (by decide) (by decide) (by rw [hml]; rfl) (argsL := [(.int (v0_114 p2 p3 p4 p5 nn))]) (rest := []) rfl (lenOf pd__I_I rfl) rfl (Nat.le_of_ble_eq_true rfl) (hb hby at_276) ?_
    rintro T123 _ _ ⟨rfl, rfl, e123⟩ X123
    rw [List.append_nil] at X123
    show Go p e below W T123 (mkF m 279 #[.val (.int p1), .val (.int p2), .val (.int p3), .val (.int p4), .val (.int p5), .val (.int (1 : Int32)), .val (.ref b100), .val (.int (v0_113 p2 p3 p4 p5 nn)), .val (.int (-1 : Int32)), .val (.int (-1 : Int32)), .val (.int (-1 : Int32)), .val (.int (v0_114 p2 p3 p4 p5 nn)), .val (.int (v0_115 p2 p3 p4 p5 nn)), .val (.int (v0_120 p2 p3 p4 p5 nn)), .val (.ref b121), .unset] [(.int (f6 (v0_114 p2 p3 p4 p5 nn) (f3_a1 (f1 p5 (1 : Int32)) (f2 p5 (1 : Int32)) (f3_a1 (f1 p4 (1 : Int32)) (f2 p4 (1 : Int32)) (f3_a1 (f1 p3 (1 : Int32)) (f2 p3 (1 : Int32)) (w0_103 p2 p3 p4 p5 nn) (1 : Nat)) (1 : Nat)) (1 : Nat)) (1 : Nat)))])
    refine Go.of (fun _ k => XS.istore X123.here hx rfl (hb hby at_279) rfl (l' := #[.val (.int p1), .val (.int p2), .val (.int p3), .val (.int p4), .val (.int p5), .val (.int (1 : Int32)), .val (.ref b100), .val (.int (v0_113 p2 p3 p4 p5 nn)), .val (.int (-1 : Int32)), .val (.int (-1 : Int32)), .val (.int (-1 : Int32)), .val (.int (v0_114 p2 p3 p4 p5 nn)), .val (.int (v0_115 p2 p3 p4 p5 nn)), .val (.int (v0_120 p2 p3 p4 p5 nn)), .val (.ref b121), .val (.int (v0_124 p2 p3 p4 p5 nn))]) rfl k) ?_
    show Go p e below W T123 (mkF m 281 #[.val (.int p1), .val (.int p2), .val (.int p3), .val (.int p4), .val (.int p5), .val (.int (1 : Int32)), .val (.ref b100), .val (.int (v0_113 p2 p3 p4 p5 nn)), .val (.int (-1 : Int32)), .val (.int (-1 : Int32)), .val (.int (-1 : Int32)), .val (.int (v0_114 p2 p3 p4 p5 nn)), .val (.int (v0_115 p2 p3 p4 p5 nn)), .val (.int (v0_120 p2 p3 p4 p5 nn)), .val (.ref b121), .val (.int (v0_124 p2 p3 p4 p5 nn))] [])
    refine Go.of (fun _ k => XS.iload X123.here hx rfl (hb hby at_281) rfl k) ?_
    show Go p e below W T123 (mkF m 283 #[.val (.int p1), .val (.int p2), .val (.int p3), .val (.int p4), .val (.int p5), .val (.int (1 : Int32)), .val (.ref b100), .val (.int (v0_113 p2 p3 p4 p5 nn)), .val (.int (-1 : Int32)), .val (.int (-1 : Int32)), .val (.int (-1 : Int32)), .val (.int (v0_114 p2 p3 p4 p5 nn)), .val (.int (v0_115 p2 p3 p4 p5 nn)), .val (.int (v0_120 p2 p3 p4 p5 nn)), .val (.ref b121), .val (.int (v0_124 p2 p3 p4 p5 nn))] [(.int (v0_124 p2 p3 p4 p5 nn))])
    refine Go.of (fun _ k => XS.iload X123.here hx rfl (hb hby at_283) rfl k) ?_
    show Go p e below W T123 (mkF m 285 #[.val (.int p1), .val (.int p2), .val (.int p3), .val (.int p4), .val (.int p5), .val (.int (1 : Int32)), .val (.ref b100), .val (.int (v0_113 p2 p3 p4 p5 nn)), .val (.int (-1 : Int32)), .val (.int (-1 : Int32)), .val (.int (-1 : Int32)), .val (.int (v0_114 p2 p3 p4 p5 nn)), .val (.int (v0_115 p2 p3 p4 p5 nn)), .val (.int (v0_120 p2 p3 p4 p5 nn)), .val (.ref b121), .val (.int (v0_124 p2 p3 p4 p5 nn))] [(.int (v0_120 p2 p3 p4 p5 nn)), (.int (v0_124 p2 p3 p4 p5 nn))])
    by_cases c125 : (v0_124 p2 p3 p4 p5 nn) = (v0_120 p2 p3 p4 p5 nn)
    · refine Go.of (fun _ k => XS.icmpNo X123.here hx rfl (hb hby at_285) rfl (Jvm.Free.XT.ii_ne_f c125) k) ?_
      show Go p e below W T123 (mkF m 288 #[.val (.int p1), .val (.int p2), .val (.int p3), .val (.int p4), .val (.int p5), .val (.int (1 : Int32)), .val (.ref b100), .val (.int (v0_113 p2 p3 p4 p5 nn)), .val (.int (-1 : Int32)), .val (.int (-1 : Int32)), .val (.int (-1 : Int32)), .val (.int (v0_114 p2 p3 p4 p5 nn)), .val (.int (v0_115 p2 p3 p4 p5 nn)), .val (.int (v0_120 p2 p3 p4 p5 nn)), .val (.ref b121), .val (.int (v0_124 p2 p3 p4 p5 nn))] [])
      refine Go.of (fun _ k => XS.iconst X123.here hx rfl (hb hby at_288) k) ?_
      show Go p e below W T123 (mkF m 289 #[.val (.int p1), .val (.int p2), .val (.int p3), .val (.int p4), .val (.int p5), .val (.int (1 : Int32)), .val (.ref b100), .val (.int (v0_113 p2 p3 p4 p5 nn)), .val (.int (-1 : Int32)), .val (.int (-1 : Int32)), .val (.int (-1 : Int32)), .val (.int (v0_114 p2 p3 p4 p5 nn)), .val (.int (v0_115 p2 p3 p4 p5 nn)), .val (.int (v0_120 p2 p3 p4 p5 nn)), .val (.ref b121), .val (.int (v0_124 p2 p3 p4 p5 nn))] [(.int (1 : Int32))])
      refine Go.of (fun _ k => XS.goto X123.here hx rfl (pc0 := 289) (pc' := 293) rfl (hb hby at_289) (by decide) (by decide) k) ?_
      show Go p e below W T123 (mkF m 293 #[.val (.int p1), .val (.int p2), .val (.int p3), .val (.int p4), .val (.int p5), .val (.int (1 : Int32)), .val (.ref b100), .val (.int (v0_113 p2 p3 p4 p5 nn)), .val (.int (-1 : Int32)), .val (.int (-1 : Int32)), .val (.int (-1 : Int32)), .val (.int (v0_114 p2 p3 p4 p5 nn)), .val (.int (v0_115 p2 p3 p4 p5 nn)), .val (.int (v0_120 p2 p3 p4 p5 nn)), .val (.ref b121), .val (.int (v0_124 p2 p3 p4 p5 nn))] [(.int (1 : Int32))])
      have u_f0 : (f0 p2 p3 p4 p5 nn) = (1 : Int32) := by rw [f0, if_pos c1, if_pos c125]
      have fin : Q0 Z p1 p2 p3 p4 p5 nn h0 n0 (some (.int (f0 p2 p3 p4 p5 nn))) T122.heap L122 := ⟨rfl, N, K⟩
      exact Go.retN X123 hx hret (Or.inl rfl) (hb hby at_293) hlk (Eq.trans rfl u_f0.symm) (fun t ht fe => hW t _ _ _ _ (by rw [ht, e123]; exact fin) fe (by decide) (by decide))
    · refine Go.of (fun _ k => XS.icmpYes X123.here hx rfl (pc0 := 285) (pc' := 292) rfl (hb hby at_285) rfl (Jvm.Free.XT.ii_ne_t c125) (by decide) (by decide) k) ?_
      show Go p e below W T123 (mkF m 292 #[.val (.int p1), .val (.int p2), .val (.int p3), .val (.int p4), .val (.int p5), .val (.int (1 : Int32)), .val (.ref b100), .val (.int (v0_113 p2 p3 p4 p5 nn)), .val (.int (-1 : Int32)), .val (.int (-1 : Int32)), .val (.int (-1 : Int32)), .val (.int (v0_114 p2 p3 p4 p5 nn)), .val (.int (v0_115 p2 p3 p4 p5 nn)), .val (.int (v0_120 p2 p3 p4 p5 nn)), .val (.ref b121), .val (.int (v0_124 p2 p3 p4 p5 nn))] [])
      refine Go.of (fun _ k => XS.iconst X123.here hx rfl (hb hby at_292) k) ?_
      show Go p e below W T123 (mkF m 293 #[.val (.int p1), .val (.int p2), .val (.int p3), .val (.int p4), .val (.int p5), .val (.int (1 : Int32)), .val (.ref b100), .val (.int (v0_113 p2 p3 p4 p5 nn)), .val (.int (-1 : Int32)), .val (.int (-1 : Int32)), .val (.int (-1 : Int32)), .val (.int (v0_114 p2 p3 p4 p5 nn)), .val (.int (v0_115 p2 p3 p4 p5 nn)), .val (.int (v0_120 p2 p3 p4 p5 nn)), .val (.ref b121), .val (.int (v0_124 p2 p3 p4 p5 nn))] [(.int (0 : Int32))])
      have u_f0 : (f0 p2 p3 p4 p5 nn) = (0 : Int32) := by rw [f0, if_pos c1, if_neg c125]
      have fin : Q0 Z p1 p2 p3 p4 p5 nn h0 n0 (some (.int (f0 p2 p3 p4 p5 nn))) T122.heap L122 := ⟨rfl, N, K⟩
      exact Go.retN X123 hx hret (Or.inl rfl) (hb hby at_293) hlk (Eq.trans rfl u_f0.symm) (fun t ht fe => hW t _ _ _ _ (by rw [ht, e123]; exact fin) fe (by decide) (by decide))
  · refine Go.of (fun _ k => XS.icmpYes X0.here hx rfl (pc0 := 10) (pc' := 25) rfl (hb hby at_10) rfl (Jvm.Free.XT.ii_ne_t c1) (by decide) (by decide) k) ?_
    show Go p e below W T0 (mkF m 25 #[.val (.int p1), .val (.int p2), .val (.int p3), .val (.int p4), .val (.int p5), .val (.int nn), .unset, .unset, .unset, .unset, .unset, .unset, .unset, .unset, .unset, .unset] [])
    refine Go.of (fun _ k => XS.iload X0.here hx rfl (hb hby at_25) rfl k) ?_
    show Go p e below W T0 (mkF m 27 #[.val (.int p1), .val (.int p2), .val (.int p3), .val (.int p4), .val (.int p5), .val (.int nn), .unset, .unset, .unset, .unset, .unset, .unset, .unset, .unset, .unset, .unset] [(.int nn)])
    refine Go.of (fun _ k => XS.iconst X0.here hx rfl (hb hby at_27) k) ?_
    show Go p e below W T0 (mkF m 28 #[.val (.int p1), .val (.int p2), .val (.int p3), .val (.int p4), .val (.int p5), .val (.int nn), .unset, .unset, .unset, .unset, .unset, .unset, .unset, .unset, .unset, .unset] [(.int (2 : Int32)), (.int nn)])
    by_cases c2 : nn = (2 : Int32)
    · refine Go.of (fun _ k => XS.icmpNo X0.here hx rfl (hb hby at_28) rfl (Jvm.Free.XT.ii_ne_f c2) k) ?_
      show Go p e below W T0 (mkF m 31 #[.val (.int p1), .val (.int p2), .val (.int p3), .val (.int p4), .val (.int p5), .val (.int nn), .unset, .unset, .unset, .unset, .unset, .unset, .unset, .unset, .unset, .unset] [])
      rw [c2]
      show Go p e below W T0 (mkF m 31 #[.val (.int p1), .val (.int p2), .val (.int p3), .val (.int p4), .val (.int p5), .val (.int (2 : Int32)), .unset, .unset, .unset, .unset, .unset, .unset, .unset, .unset, .unset, .unset] [])
      show Go p e below W T0 (mkF m 31 #[.val (.int p1), .val (.int p2), .val (.int p3), .val (.int p4), .val (.int p5), .val (.int (2 : Int32)), .unset, .unset, .unset, .unset, .unset, .unset, .unset, .unset, .unset, .unset] [])
      refine Go.of (fun _ k => XS.iconst X0.here hx rfl (hb hby at_31) k) ?_
      show Go p e below W T0 (mkF m 32 #[.val (.int p1), .val (.int p2), .val (.int p3), .val (.int p4), .val (.int p5), .val (.int (2 : Int32)), .unset, .unset, .unset, .unset, .unset, .unset, .unset, .unset, .unset, .unset] [(.int (2 : Int32))])
      refine Go.newA X0 hx hZ (hw _ (List.mem_of_getElem? (i := 0) rfl)) rfl rfl rfl e0 (hb hby at_32) (by decide) (cap := 2) (by decide) (by decide) (by decide) (by decide) ?_
      intro T71 h71 b71 zq71 X71 e71 E71 E_b71 A_b71
      have g_b71 : n0 ≤ b71 := by rw [zq71]; exact Z0
      have s_b71 : h0.size ≤ b71 := by rw [zq71]; exact K.1
      have K := K.ext E71
      have Z0 := Nat.le_trans Z0 E71.1
      have A_b71 : AI Z h71 b71 .int 2 (w0_72 p2 p3 p4 p5 nn) := A_b71
      show Go p e below W T71 (mkF m 34 #[.val (.int p1), .val (.int p2), .val (.int p3), .val (.int p4), .val (.int p5), .val (.int (2 : Int32)), .unset, .unset, .unset, .unset, .unset, .unset, .unset, .unset, .unset, .unset] [(.ref b71)])
      refine Go.of (fun _ k => XS.dup X71.here hx rfl (hb hby at_34) rfl rfl k) ?_
      show Go p e below W T71 (mkF m 35 #[.val (.int p1), .val (.int p2), .val (.int p3), .val (.int p4), .val (.int p5), .val (.int (2 : Int32)), .unset, .unset, .unset, .unset, .unset, .unset, .unset, .unset, .unset, .unset] [(.ref b71), (.ref b71)])
      refine Go.of (fun _ k => XS.iconst X71.here hx rfl (hb hby at_35) k) ?_
      show Go p e below W T71 (mkF m 36 #[.val (.int p1), .val (.int p2), .val (.int p3), .val (.int p4), .val (.int p5), .val (.int (2 : Int32)), .unset, .unset, .unset, .unset, .unset, .unset, .unset, .unset, .unset, .unset] [(.int (0 : Int32)), (.ref b71), (.ref b71)])
      refine Go.of (fun _ k => XS.iconst X71.here hx rfl (hb hby at_36) k) ?_
      show Go p e below W T71 (mkF m 37 #[.val (.int p1), .val (.int p2), .val (.int p3), .val (.int p4), .val (.int p5), .val (.int (2 : Int32)), .unset, .unset, .unset, .unset, .unset, .unset, .unset, .unset, .unset, .unset] [(.int (0 : Int32)), (.int (0 : Int32)), (.ref b71), (.ref b71)])
      refine Go.ist X71 hx hZ e71 N g_b71 A_b71 ⟨by decide, by decide⟩ (hb hby at_37) ?_
      intro T73 h73 L73 X73 N e73 W73 A_b71
      have K := K.wr W73 (Or.inr s_b71)
      have Z0 := Nat.le_trans Z0 (Keep.of_wr W73).1
      have A_b71 : AI Z h73 b71 .int 2 (w0_74 p2 p3 p4 p5 nn) := A_b71
      show Go p e below W T73 (mkF m 38 #[.val (.int p1), .val (.int p2), .val (.int p3), .val (.int p4), .val (.int p5), .val (.int (2 : Int32)), .unset, .unset, .unset, .unset, .unset, .unset, .unset, .unset, .unset, .unset] [(.ref b71)])
      refine Go.of (fun _ k => XS.dup X73.here hx rfl (hb hby at_38) rfl rfl k) ?_
      show Go p e below W T73 (mkF m 39 #[.val (.int p1), .val (.int p2), .val (.int p3), .val (.int p4), .val (.int p5), .val (.int (2 : Int32)), .unset, .unset, .unset, .unset, .unset, .unset, .unset, .unset, .unset, .unset] [(.ref b71), (.ref b71)])
      refine Go.of (fun _ k => XS.iconst X73.here hx rfl (hb hby at_39) k) ?_
      show Go p e below W T73 (mkF m 40 #[.val (.int p1), .val (.int p2), .val (.int p3), .val (.int p4), .val (.int p5), .val (.int (2 : Int32)), .unset, .unset, .unset, .unset, .unset, .unset, .unset, .unset, .unset, .unset] [(.int (1 : Int32)), (.ref b71), (.ref b71)])
      refine Go.of (fun _ k => XS.iconst X73.here hx rfl (hb hby at_40) k) ?_
      show Go p e below W T73 (mkF m 41 #[.val (.int p1), .val (.int p2), .val (.int p3), .val (.int p4), .val (.int p5), .val (.int (2 : Int32)), .unset, .unset, .unset, .unset, .unset, .unset, .unset, .unset, .unset, .unset] [(.int (1 : Int32)), (.int (1 : Int32)), (.ref b71), (.ref b71)])
      refine Go.ist X73 hx hZ e73 N g_b71 A_b71 ⟨by decide, by decide⟩ (hb hby at_41) ?_
      intro T75 h75 L75 X75 N e75 W75 A_b71
      have K := K.wr W75 (Or.inr s_b71)
      have Z0 := Nat.le_trans Z0 (Keep.of_wr W75).1
      have A_b71 : AI Z h75 b71 .int 2 (w0_76 p2 p3 p4 p5 nn) := A_b71
      show Go p e below W T75 (mkF m 42 #[.val (.int p1), .val (.int p2), .val (.int p3), .val (.int p4), .val (.int p5), .val (.int (2 : Int32)), .unset, .unset, .unset, .unset, .unset, .unset, .unset, .unset, .unset, .unset] [(.ref b71)])
      refine Go.of (fun _ k => XS.astore X75.here hx rfl (hb hby at_42) rfl rfl (l' := #[.val (.int p1), .val (.int p2), .val (.int p3), .val (.int p4), .val (.int p5), .val (.int (2 : Int32)), .val (.ref b71), .unset, .unset, .unset, .unset, .unset, .unset, .unset, .unset, .unset]) rfl k) ?_
      show Go p e below W T75 (mkF m 44 #[.val (.int p1), .val (.int p2), .val (.int p3), .val (.int p4), .val (.int p5), .val (.int (2 : Int32)), .val (.ref b71), .unset, .unset, .unset, .unset, .unset, .unset, .unset, .unset, .unset] [])
      refine Go.of (fun _ k => XS.goto X75.here hx rfl (pc0 := 44) (pc' := 94) rfl (hb hby at_44) (by decide) (by decide) k) ?_
      show Go p e below W T75 (mkF m 94 #[.val (.int p1), .val (.int p2), .val (.int p3), .val (.int p4), .val (.int p5), .val (.int (2 : Int32)), .val (.ref b71), .unset, .unset, .unset, .unset, .unset, .unset, .unset, .unset, .unset] [])
      refine Go.of (fun _ k => XS.aload X75.here hx rfl (hb hby at_94) rfl rfl k) ?_
      show Go p e below W T75 (mkF m 96 #[.val (.int p1), .val (.int p2), .val (.int p3), .val (.int p4), .val (.int p5), .val (.int (2 : Int32)), .val (.ref b71), .unset, .unset, .unset, .unset, .unset, .unset, .unset, .unset, .unset] [(.ref b71)])
      refine Go.of (fun _ k => XS.iloadN X75.here hx rfl (hb hby at_96) rfl k) ?_
      show Go p e below W T75 (mkF m 97 #[.val (.int p1), .val (.int p2), .val (.int p3), .val (.int p4), .val (.int p5), .val (.int (2 : Int32)), .val (.ref b71), .unset, .unset, .unset, .unset, .unset, .unset, .unset, .unset, .unset] [(.int p3), (.ref b71)])
      refine Go.of (fun _ k => XS.iload X75.here hx rfl (hb hby at_97) rfl k) ?_
      show Go p e below W T75 (mkF m 99 #[.val (.int p1), .val (.int p2), .val (.int p3), .val (.int p4), .val (.int p5), .val (.int (2 : Int32)), .val (.ref b71), .unset, .unset, .unset, .unset, .unset, .unset, .unset, .unset, .unset] [(.int (2 : Int32)), (.int p3), (.ref b71)])
      refine Go.callP X75 hx hZ hown (hw _ (List.mem_of_getElem? (i := 1) rfl)) (hw _ (List.mem_of_getElem? (i := 2) rfl)) (hw _ (List.mem_of_getElem? (i := 3) rfl)) (hw _ (List.mem_of_getElem? (i := 4) rfl)) (by decide) e75 (rm1 l Z a0 hw [] p3 (2 : Int32) h75 (by decide)) (V := 1) (by decide) (by decide) rfl rfl (by decide) (by decide) (by rw [hml]; rfl) (argsL := [(.int p3), (.int (2 : Int32))]) (rest := [(.ref b71)]) rfl (lenOf pd__II_I rfl) rfl (Nat.le_of_ble_eq_true rfl) (hb hby at_99) ?_
      intro T77 X77 e77
      show Go p e below W T77 (mkF m 102 #[.val (.int p1), .val (.int p2), .val (.int p3), .val (.int p4), .val (.int p5), .val (.int (2 : Int32)), .val (.ref b71), .unset, .unset, .unset, .unset, .unset, .unset, .unset, .unset, .unset] [(.int (f1 p3 (2 : Int32))), (.ref b71)])
      refine Go.of (fun _ k => XS.iloadN X77.here hx rfl (hb hby at_102) rfl k) ?_
      show Go p e below W T77 (mkF m 103 #[.val (.int p1), .val (.int p2), .val (.int p3), .val (.int p4), .val (.int p5), .val (.int (2 : Int32)), .val (.ref b71), .unset, .unset, .unset, .unset, .unset, .unset, .unset, .unset, .unset] [(.int p3), (.int (f1 p3 (2 : Int32))), (.ref b71)])
      refine Go.of (fun _ k => XS.iload X77.here hx rfl (hb hby at_103) rfl k) ?_
      show Go p e below W T77 (mkF m 105 #[.val (.int p1), .val (.int p2), .val (.int p3), .val (.int p4), .val (.int p5), .val (.int (2 : Int32)), .val (.ref b71), .unset, .unset, .unset, .unset, .unset, .unset, .unset, .unset, .unset] [(.int (2 : Int32)), (.int p3), (.int (f1 p3 (2 : Int32))), (.ref b71)])
      refine Go.callP X77 hx hZ hown (hw _ (List.mem_of_getElem? (i := 5) rfl)) (hw _ (List.mem_of_getElem? (i := 6) rfl)) (hw _ (List.mem_of_getElem? (i := 3) rfl)) (hw _ (List.mem_of_getElem? (i := 7) rfl)) (by decide) e77 (rm2 l Z a0 hw [] p3 (2 : Int32) h75 (by decide)) (V := 2) (by decide) (by decide) rfl rfl (by decide) (by decide) (by rw [hml]; rfl) (argsL := [(.int p3), (.int (2 : Int32))]) (rest := [(.int (f1 p3 (2 : Int32))), (.ref b71)]) rfl (lenOf pd__II_I rfl) rfl (Nat.le_of_ble_eq_true rfl) (hb hby at_105) ?_
      intro T78 X78 e78
      show Go p e below W T78 (mkF m 108 #[.val (.int p1), .val (.int p2), .val (.int p3), .val (.int p4), .val (.int p5), .val (.int (2 : Int32)), .val (.ref b71), .unset, .unset, .unset, .unset, .unset, .unset, .unset, .unset, .unset] [(.int (f2 p3 (2 : Int32))), (.int (f1 p3 (2 : Int32))), (.ref b71)])
      refine Go.callS X78 hx hZ hown (hw _ (List.mem_of_getElem? (i := 8) rfl)) (hw _ (List.mem_of_getElem? (i := 9) rfl)) (hw _ (List.mem_of_getElem? (i := 3) rfl)) (hw _ (List.mem_of_getElem? (i := 10) rfl)) (by decide) e78 (rm3 l Z a0 hw [] b71 (f1 p3 (2 : Int32)) (f2 p3 (2 : Int32)) (w0_76 p2 p3 p4 p5 nn) (2 : Nat) h75 n0 Z0 A_b71 g_b71 (own_lo2 _) (own_hi2 _)) (V := 0) (by decide) (by decide) (by decide) (by decide) (by rw [hml]; rfl) (argsL := [(.ref b71), (.int (f1 p3 (2 : Int32))), (.int (f2 p3 (2 : Int32)))]) (rest := []) rfl (lenOf pd___III_V rfl) rfl (Nat.le_of_ble_eq_true rfl) (hb hby at_108) ?_
      rintro T79 _ M79 ⟨rfl, N79, K79, A_b71⟩ X79
      obtain ⟨L79, zq79⟩ : ∃ z, z = L75 ++ M79 := ⟨_, rfl⟩
      have N := Fr.app N N79
      rw [← zq79] at X79 N
      have K := K.trans K79 (by
        intro x hx
        simp only [List.mem_cons, List.not_mem_nil, or_false] at hx
        rcases hx with rfl
        · exact Or.inr s_b71)
      have Z0 := Nat.le_trans Z0 K79.1
      show Go p e below W T79 (mkF m 111 #[.val (.int p1), .val (.int p2), .val (.int p3), .val (.int p4), .val (.int p5), .val (.int (2 : Int32)), .val (.ref b71), .unset, .unset, .unset, .unset, .unset, .unset, .unset, .unset, .unset] [])
      refine Go.of (fun _ k => XS.aload X79.here hx rfl (hb hby at_111) rfl rfl k) ?_
      show Go p e below W T79 (mkF m 113 #[.val (.int p1), .val (.int p2), .val (.int p3), .val (.int p4), .val (.int p5), .val (.int (2 : Int32)), .val (.ref b71), .unset, .unset, .unset, .unset, .unset, .unset, .unset, .unset, .unset] [(.ref b71)])
      refine Go.of (fun _ k => XS.iloadN X79.here hx rfl (hb hby at_113) rfl k) ?_
      show Go p e below W T79 (mkF m 114 #[.val (.int p1), .val (.int p2), .val (.int p3), .val (.int p4), .val (.int p5), .val (.int (2 : Int32)), .val (.ref b71), .unset, .unset, .unset, .unset, .unset, .unset, .unset, .unset, .unset] [(.int p4), (.ref b71)])
      refine Go.of (fun _ k => XS.iload X79.here hx rfl (hb hby at_114) rfl k) ?_
      show Go p e below W T79 (mkF m 116 #[.val (.int p1), .val (.int p2), .val (.int p3), .val (.int p4), .val (.int p5), .val (.int (2 : Int32)), .val (.ref b71), .unset, .unset, .unset, .unset, .unset, .unset, .unset, .unset, .unset] [(.int (2 : Int32)), (.int p4), (.ref b71)])
      refine Go.callP X79 hx hZ hown (hw _ (List.mem_of_getElem? (i := 1) rfl)) (hw _ (List.mem_of_getElem? (i := 2) rfl)) (hw _ (List.mem_of_getElem? (i := 3) rfl)) (hw _ (List.mem_of_getElem? (i := 4) rfl)) (by decide) rfl (rm1 l Z a0 hw [] p4 (2 : Int32) T79.heap (by decide)) (V := 1) (by decide) (by decide) rfl rfl (by decide) (by decide) (by rw [hml]; rfl) (argsL := [(.int p4), (.int (2 : Int32))]) (rest := [(.ref b71)]) rfl (lenOf pd__II_I rfl) rfl (Nat.le_of_ble_eq_true rfl) (hb hby at_116) ?_
      intro T80 X80 e80
      show Go p e below W T80 (mkF m 119 #[.val (.int p1), .val (.int p2), .val (.int p3), .val (.int p4), .val (.int p5), .val (.int (2 : Int32)), .val (.ref b71), .unset, .unset, .unset, .unset, .unset, .unset, .unset, .unset, .unset] [(.int (f1 p4 (2 : Int32))), (.ref b71)])
      refine Go.of (fun _ k => XS.iloadN X80.here hx rfl (hb hby at_119) rfl k) ?_
      show Go p e below W T80 (mkF m 120 #[.val (.int p1), .val (.int p2), .val (.int p3), .val (.int p4), .val (.int p5), .val (.int (2 : Int32)), .val (.ref b71), .unset, .unset, .unset, .unset, .unset, .unset, .unset, .unset, .unset] [(.int p4), (.int (f1 p4 (2 : Int32))), (.ref b71)])
      refine Go.of (fun _ k => XS.iload X80.here hx rfl (hb hby at_120) rfl k) ?_
      show Go p e below W T80 (mkF m 122 #[.val (.int p1), .val (.int p2), .val (.int p3), .val (.int p4), .val (.int p5), .val (.int (2 : Int32)), .val (.ref b71), .unset, .unset, .unset, .unset, .unset, .unset, .unset, .unset, .unset] [(.int (2 : Int32)), (.int p4), (.int (f1 p4 (2 : Int32))), (.ref b71)])
      refine Go.callP X80 hx hZ hown (hw _ (List.mem_of_getElem? (i := 5) rfl)) (hw _ (List.mem_of_getElem? (i := 6) rfl)) (hw _ (List.mem_of_getElem? (i := 3) rfl)) (hw _ (List.mem_of_getElem? (i := 7) rfl)) (by decide) e80 (rm2 l Z a0 hw [] p4 (2 : Int32) T79.heap (by decide)) (V := 2) (by decide) (by decide) rfl rfl (by decide) (by decide) (by rw [hml]; rfl) (argsL := [(.int p4), (.int (2 : Int32))]) (rest := [(.int (f1 p4 (2 : Int32))), (.ref b71)]) rfl (lenOf pd__II_I rfl) rfl (Nat.le_of_ble_eq_true rfl) (hb hby at_122) ?_
      intro T81 X81 e81
      show Go p e below W T81 (mkF m 125 #[.val (.int p1), .val (.int p2), .val (.int p3), .val (.int p4), .val (.int p5), .val (.int (2 : Int32)), .val (.ref b71), .unset, .unset, .unset, .unset, .unset, .unset, .unset, .unset, .unset] [(.int (f2 p4 (2 : Int32))), (.int (f1 p4 (2 : Int32))), (.ref b71)])
      refine Go.callS X81 hx hZ hown (hw _ (List.mem_of_getElem? (i := 8) rfl)) (hw _ (List.mem_of_getElem? (i := 9) rfl)) (hw _ (List.mem_of_getElem? (i := 3) rfl)) (hw _ (List.mem_of_getElem? (i := 10) rfl)) (by decide) e81 (rm3 l Z a0 hw [] b71 (f1 p4 (2 : Int32)) (f2 p4 (2 : Int32)) (f3_a1 (f1 p3 (2 : Int32)) (f2 p3 (2 : Int32)) (w0_76 p2 p3 p4 p5 nn) (2 : Nat)) (2 : Nat) T79.heap n0 Z0 A_b71 g_b71 (own_lo2 _) (own_hi2 _)) (V := 0) (by decide) (by decide) (by decide) (by decide) (by rw [hml]; rfl) (argsL := [(.ref b71), (.int (f1 p4 (2 : Int32))), (.int (f2 p4 (2 : Int32)))]) (rest := []) rfl (lenOf pd___III_V rfl) rfl (Nat.le_of_ble_eq_true rfl) (hb hby at_125) ?_
      rintro T82 _ M82 ⟨rfl, N82, K82, A_b71⟩ X82
      obtain ⟨L82, zq82⟩ : ∃ z, z = L79 ++ M82 := ⟨_, rfl⟩
      have N := Fr.app N N82
      rw [← zq82] at X82 N
      have K := K.trans K82 (by
        intro x hx
        simp only [List.mem_cons, List.not_mem_nil, or_false] at hx
        rcases hx with rfl
        · exact Or.inr s_b71)
      have Z0 := Nat.le_trans Z0 K82.1
      show Go p e below W T82 (mkF m 128 #[.val (.int p1), .val (.int p2), .val (.int p3), .val (.int p4), .val (.int p5), .val (.int (2 : Int32)), .val (.ref b71), .unset, .unset, .unset, .unset, .unset, .unset, .unset, .unset, .unset] [])
      refine Go.of (fun _ k => XS.aload X82.here hx rfl (hb hby at_128) rfl rfl k) ?_
      show Go p e below W T82 (mkF m 130 #[.val (.int p1), .val (.int p2), .val (.int p3), .val (.int p4), .val (.int p5), .val (.int (2 : Int32)), .val (.ref b71), .unset, .unset, .unset, .unset, .unset, .unset, .unset, .unset, .unset] [(.ref b71)])
      refine Go.of (fun _ k => XS.iload X82.here hx rfl (hb hby at_130) rfl k) ?_
      show Go p e below W T82 (mkF m 132 #[.val (.int p1), .val (.int p2), .val (.int p3), .val (.int p4), .val (.int p5), .val (.int (2 : Int32)), .val (.ref b71), .unset, .unset, .unset, .unset, .unset, .unset, .unset, .unset, .unset] [(.int p5), (.ref b71)])
      refine Go.of (fun _ k => XS.iload X82.here hx rfl (hb hby at_132) rfl k) ?_
      show Go p e below W T82 (mkF m 134 #[.val (.int p1), .val (.int p2), .val (.int p3), .val (.int p4), .val (.int p5), .val (.int (2 : Int32)), .val (.ref b71), .unset, .unset, .unset, .unset, .unset, .unset, .unset, .unset, .unset] [(.int (2 : Int32)), (.int p5), (.ref b71)])
      refine Go.callP X82 hx hZ hown (hw _ (List.mem_of_getElem? (i := 1) rfl)) (hw _ (List.mem_of_getElem? (i := 2) rfl)) (hw _ (List.mem_of_getElem? (i := 3) rfl)) (hw _ (List.mem_of_getElem? (i := 4) rfl)) (by decide) rfl (rm1 l Z a0 hw [] p5 (2 : Int32) T82.heap (by decide)) (V := 1) (by decide) (by decide) rfl rfl (by decide) (by decide) (by rw [hml]; rfl) (argsL := [(.int p5), (.int (2 : Int32))]) (rest := [(.ref b71)]) rfl (lenOf pd__II_I rfl) rfl (Nat.le_of_ble_eq_true rfl) (hb hby at_134) ?_
      intro T83 X83 e83
      show Go p e below W T83 (mkF m 137 #[.val (.int p1), .val (.int p2), .val (.int p3), .val (.int p4), .val (.int p5), .val (.int (2 : Int32)), .val (.ref b71), .unset, .unset, .unset, .unset, .unset, .unset, .unset, .unset, .unset] [(.int (f1 p5 (2 : Int32))), (.ref b71)])
      refine Go.of (fun _ k => XS.iload X83.here hx rfl (hb hby at_137) rfl k) ?_
      show Go p e below W T83 (mkF m 139 #[.val (.int p1), .val (.int p2), .val (.int p3), .val (.int p4), .val (.int p5), .val (.int (2 : Int32)), .val (.ref b71), .unset, .unset, .unset, .unset, .unset, .unset, .unset, .unset, .unset] [(.int p5), (.int (f1 p5 (2 : Int32))), (.ref b71)])
      refine Go.of (fun _ k => XS.iload X83.here hx rfl (hb hby at_139) rfl k) ?_
      show Go p e below W T83 (mkF m 141 #[.val (.int p1), .val (.int p2), .val (.int p3), .val (.int p4), .val (.int p5), .val (.int (2 : Int32)), .val (.ref b71), .unset, .unset, .unset, .unset, .unset, .unset, .unset, .unset, .unset] [(.int (2 : Int32)), (.int p5), (.int (f1 p5 (2 : Int32))), (.ref b71)])
      refine Go.callP X83 hx hZ hown (hw _ (List.mem_of_getElem? (i := 5) rfl)) (hw _ (List.mem_of_getElem? (i := 6) rfl)) (hw _ (List.mem_of_getElem? (i := 3) rfl)) (hw _ (List.mem_of_getElem? (i := 7) rfl)) (by decide) e83 (rm2 l Z a0 hw [] p5 (2 : Int32) T82.heap (by decide)) (V := 2) (by decide) (by decide) rfl rfl (by decide) (by decide) (by rw [hml]; rfl) (argsL := [(.int p5), (.int (2 : Int32))]) (rest := [(.int (f1 p5 (2 : Int32))), (.ref b71)]) rfl (lenOf pd__II_I rfl) rfl (Nat.le_of_ble_eq_true rfl) (hb hby at_141) ?_
      intro T84 X84 e84
      show Go p e below W T84 (mkF m 144 #[.val (.int p1), .val (.int p2), .val (.int p3), .val (.int p4), .val (.int p5), .val (.int (2 : Int32)), .val (.ref b71), .unset, .unset, .unset, .unset, .unset, .unset, .unset, .unset, .unset] [(.int (f2 p5 (2 : Int32))), (.int (f1 p5 (2 : Int32))), (.ref b71)])
      refine Go.callS X84 hx hZ hown (hw _ (List.mem_of_getElem? (i := 8) rfl)) (hw _ (List.mem_of_getElem? (i := 9) rfl)) (hw _ (List.mem_of_getElem? (i := 3) rfl)) (hw _ (List.mem_of_getElem? (i := 10) rfl)) (by decide) e84 (rm3 l Z a0 hw [] b71 (f1 p5 (2 : Int32)) (f2 p5 (2 : Int32)) (f3_a1 (f1 p4 (2 : Int32)) (f2 p4 (2 : Int32)) (f3_a1 (f1 p3 (2 : Int32)) (f2 p3 (2 : Int32)) (w0_76 p2 p3 p4 p5 nn) (2 : Nat)) (2 : Nat)) (2 : Nat) T82.heap n0 Z0 A_b71 g_b71 (own_lo2 _) (own_hi2 _)) (V := 0) (by decide) (by decide) (by decide) (by decide) (by rw [hml]; rfl) (argsL := [(.ref b71), (.int (f1 p5 (2 : Int32))), (.int (f2 p5 (2 : Int32)))]) (rest := []) rfl (lenOf pd___III_V rfl) rfl (Nat.le_of_ble_eq_true rfl) (hb hby at_144) ?_
      rintro T85 _ M85 ⟨rfl, N85, K85, A_b71⟩ X85
      obtain ⟨L85, zq85⟩ : ∃ z, z = L82 ++ M85 := ⟨_, rfl⟩
      have N := Fr.app N N85
      rw [← zq85] at X85 N
      have K := K.trans K85 (by
        intro x hx
        simp only [List.mem_cons, List.not_mem_nil, or_false] at hx
        rcases hx with rfl
        · exact Or.inr s_b71)
      have Z0 := Nat.le_trans Z0 K85.1
      show Go p e below W T85 (mkF m 147 #[.val (.int p1), .val (.int p2), .val (.int p3), .val (.int p4), .val (.int p5), .val (.int (2 : Int32)), .val (.ref b71), .unset, .unset, .unset, .unset, .unset, .unset, .unset, .unset, .unset] [])
      refine Go.of (fun _ k => XS.aload X85.here hx rfl (hb hby at_147) rfl rfl k) ?_
      show Go p e below W T85 (mkF m 149 #[.val (.int p1), .val (.int p2), .val (.int p3), .val (.int p4), .val (.int p5), .val (.int (2 : Int32)), .val (.ref b71), .unset, .unset, .unset, .unset, .unset, .unset, .unset, .unset, .unset] [(.ref b71)])
      refine Go.of (fun _ k => XS.iconst X85.here hx rfl (hb hby at_149) k) ?_
      show Go p e below W T85 (mkF m 150 #[.val (.int p1), .val (.int p2), .val (.int p3), .val (.int p4), .val (.int p5), .val (.int (2 : Int32)), .val (.ref b71), .unset, .unset, .unset, .unset, .unset, .unset, .unset, .unset, .unset] [(.int (0 : Int32)), (.ref b71)])
      refine Go.iald X85 hx hZ rfl A_b71 ⟨by decide, by decide⟩ (hb hby at_150) ?_
      show Go p e below W T85 (mkF m 151 #[.val (.int p1), .val (.int p2), .val (.int p3), .val (.int p4), .val (.int p5), .val (.int (2 : Int32)), .val (.ref b71), .unset, .unset, .unset, .unset, .unset, .unset, .unset, .unset, .unset] [(.int ((f3_a1 (f1 p5 (2 : Int32)) (f2 p5 (2 : Int32)) (f3_a1 (f1 p4 (2 : Int32)) (f2 p4 (2 : Int32)) (f3_a1 (f1 p3 (2 : Int32)) (f2 p3 (2 : Int32)) (w0_76 p2 p3 p4 p5 nn) (2 : Nat)) (2 : Nat)) (2 : Nat)) 0))])
      refine Go.of (fun _ k => XS.istore X85.here hx rfl (hb hby at_151) rfl (l' := #[.val (.int p1), .val (.int p2), .val (.int p3), .val (.int p4), .val (.int p5), .val (.int (2 : Int32)), .val (.ref b71), .val (.int (v0_86 p2 p3 p4 p5 nn)), .unset, .unset, .unset, .unset, .unset, .unset, .unset, .unset]) rfl k) ?_
      show Go p e below W T85 (mkF m 153 #[.val (.int p1), .val (.int p2), .val (.int p3), .val (.int p4), .val (.int p5), .val (.int (2 : Int32)), .val (.ref b71), .val (.int (v0_86 p2 p3 p4 p5 nn)), .unset, .unset, .unset, .unset, .unset, .unset, .unset, .unset] [])
      refine Go.of (fun _ k => XS.iload X85.here hx rfl (hb hby at_153) rfl k) ?_
      show Go p e below W T85 (mkF m 155 #[.val (.int p1), .val (.int p2), .val (.int p3), .val (.int p4), .val (.int p5), .val (.int (2 : Int32)), .val (.ref b71), .val (.int (v0_86 p2 p3 p4 p5 nn)), .unset, .unset, .unset, .unset, .unset, .unset, .unset, .unset] [(.int (2 : Int32))])
      refine Go.of (fun _ k => XS.iconst X85.here hx rfl (hb hby at_155) k) ?_
      show Go p e below W T85 (mkF m 156 #[.val (.int p1), .val (.int p2), .val (.int p3), .val (.int p4), .val (.int p5), .val (.int (2 : Int32)), .val (.ref b71), .val (.int (v0_86 p2 p3 p4 p5 nn)), .unset, .unset, .unset, .unset, .unset, .unset, .unset, .unset] [(.int (1 : Int32)), (.int (2 : Int32))])
      refine Go.of (fun _ k => XS.icmpNo X85.here hx rfl (hb hby at_156) rfl (Jvm.Free.XT.ii_le_f (by decide)) k) ?_
      show Go p e below W T85 (mkF m 159 #[.val (.int p1), .val (.int p2), .val (.int p3), .val (.int p4), .val (.int p5), .val (.int (2 : Int32)), .val (.ref b71), .val (.int (v0_86 p2 p3 p4 p5 nn)), .unset, .unset, .unset, .unset, .unset, .unset, .unset, .unset] [])
      refine Go.of (fun _ k => XS.aload X85.here hx rfl (hb hby at_159) rfl rfl k) ?_
      show Go p e below W T85 (mkF m 161 #[.val (.int p1), .val (.int p2), .val (.int p3), .val (.int p4), .val (.int p5), .val (.int (2 : Int32)), .val (.ref b71), .val (.int (v0_86 p2 p3 p4 p5 nn)), .unset, .unset, .unset, .unset, .unset, .unset, .unset, .unset] [(.ref b71)])
      refine Go.of (fun _ k => XS.iconst X85.here hx rfl (hb hby at_161) k) ?_
      show Go p e below W T85 (mkF m 162 #[.val (.int p1), .val (.int p2), .val (.int p3), .val (.int p4), .val (.int p5), .val (.int (2 : Int32)), .val (.ref b71), .val (.int (v0_86 p2 p3 p4 p5 nn)), .unset, .unset, .unset, .unset, .unset, .unset, .unset, .unset] [(.int (1 : Int32)), (.ref b71)])
      refine Go.iald X85 hx hZ rfl A_b71 ⟨by decide, by decide⟩ (hb hby at_162) ?_
      show Go p e below W T85 (mkF m 163 #[.val (.int p1), .val (.int p2), .val (.int p3), .val (.int p4), .val (.int p5), .val (.int (2 : Int32)), .val (.ref b71), .val (.int (v0_86 p2 p3 p4 p5 nn)), .unset, .unset, .unset, .unset, .unset, .unset, .unset, .unset] [(.int ((f3_a1 (f1 p5 (2 : Int32)) (f2 p5 (2 : Int32)) (f3_a1 (f1 p4 (2 : Int32)) (f2 p4 (2 : Int32)) (f3_a1 (f1 p3 (2 : Int32)) (f2 p3 (2 : Int32)) (w0_76 p2 p3 p4 p5 nn) (2 : Nat)) (2 : Nat)) (2 : Nat)) 1))])
      refine Go.of (fun _ k => XS.goto X85.here hx rfl (pc0 := 163) (pc' := 167) rfl (hb hby at_163) (by decide) (by decide) k) ?_
      show Go p e below W T85 (mkF m 167 #[.val (.int p1), .val (.int p2), .val (.int p3), .val (.int p4), .val (.int p5), .val (.int (2 : Int32)), .val (.ref b71), .val (.int (v0_86 p2 p3 p4 p5 nn)), .unset, .unset, .unset, .unset, .unset, .unset, .unset, .unset] [(.int ((f3_a1 (f1 p5 (2 : Int32)) (f2 p5 (2 : Int32)) (f3_a1 (f1 p4 (2 : Int32)) (f2 p4 (2 : Int32)) (f3_a1 (f1 p3 (2 : Int32)) (f2 p3 (2 : Int32)) (w0_76 p2 p3 p4 p5 nn) (2 : Nat)) (2 : Nat)) (2 : Nat)) 1))])
      refine Go.of (fun _ k => XS.istore X85.here hx rfl (hb hby at_167) rfl (l' := #[.val (.int p1), .val (.int p2), .val (.int p3), .val (.int p4), .val (.int p5), .val (.int (2 : Int32)), .val (.ref b71), .val (.int (v0_86 p2 p3 p4 p5 nn)), .val (.int (v0_87 p2 p3 p4 p5 nn)), .unset, .unset, .unset, .unset, .unset, .unset, .unset]) rfl k) ?_
      show Go p e below W T85 (mkF m 169 #[.val (.int p1), .val (.int p2), .val (.int p3), .val (.int p4), .val (.int p5), .val (.int (2 : Int32)), .val (.ref b71), .val (.int (v0_86 p2 p3 p4 p5 nn)), .val (.int (v0_87 p2 p3 p4 p5 nn)), .unset, .unset, .unset, .unset, .unset, .unset, .unset] [])
      refine Go.of (fun _ k => XS.iload X85.here hx rfl (hb hby at_169) rfl k) ?_
      show Go p e below W T85 (mkF m 171 #[.val (.int p1), .val (.int p2), .val (.int p3), .val (.int p4), .val (.int p5), .val (.int (2 : Int32)), .val (.ref b71), .val (.int (v0_86 p2 p3 p4 p5 nn)), .val (.int (v0_87 p2 p3 p4 p5 nn)), .unset, .unset, .unset, .unset, .unset, .unset, .unset] [(.int (2 : Int32))])
      refine Go.of (fun _ k => XS.iconst X85.here hx rfl (hb hby at_171) k) ?_
      show Go p e below W T85 (mkF m 172 #[.val (.int p1), .val (.int p2), .val (.int p3), .val (.int p4), .val (.int p5), .val (.int (2 : Int32)), .val (.ref b71), .val (.int (v0_86 p2 p3 p4 p5 nn)), .val (.int (v0_87 p2 p3 p4 p5 nn)), .unset, .unset, .unset, .unset, .unset, .unset, .unset] [(.int (2 : Int32)), (.int (2 : Int32))])
      refine Go.of (fun _ k => XS.icmpYes X85.here hx rfl (pc0 := 172) (pc' := 182) rfl (hb hby at_172) rfl (Jvm.Free.XT.ii_le_t (by decide)) (by decide) (by decide) k) ?_
      show Go p e below W T85 (mkF m 182 #[.val (.int p1), .val (.int p2), .val (.int p3), .val (.int p4), .val (.int p5), .val (.int (2 : Int32)), .val (.ref b71), .val (.int (v0_86 p2 p3 p4 p5 nn)), .val (.int (v0_87 p2 p3 p4 p5 nn)), .unset, .unset, .unset, .unset, .unset, .unset, .unset] [])
      refine Go.of (fun _ k => XS.iconst X85.here hx rfl (hb hby at_182) k) ?_
      show Go p e below W T85 (mkF m 183 #[.val (.int p1), .val (.int p2), .val (.int p3), .val (.int p4), .val (.int p5), .val (.int (2 : Int32)), .val (.ref b71), .val (.int (v0_86 p2 p3 p4 p5 nn)), .val (.int (v0_87 p2 p3 p4 p5 nn)), .unset, .unset, .unset, .unset, .unset, .unset, .unset] [(.int (-1 : Int32))])
      refine Go.of (fun _ k => XS.istore X85.here hx rfl (hb hby at_183) rfl (l' := #[.val (.int p1), .val (.int p2), .val (.int p3), .val (.int p4), .val (.int p5), .val (.int (2 : Int32)), .val (.ref b71), .val (.int (v0_86 p2 p3 p4 p5 nn)), .val (.int (v0_87 p2 p3 p4 p5 nn)), .val (.int (-1 : Int32)), .unset, .unset, .unset, .unset, .unset, .unset]) rfl k) ?_
      show Go p e below W T85 (mkF m 185 #[.val (.int p1), .val (.int p2), .val (.int p3), .val (.int p4), .val (.int p5), .val (.int (2 : Int32)), .val (.ref b71), .val (.int (v0_86 p2 p3 p4 p5 nn)), .val (.int (v0_87 p2 p3 p4 p5 nn)), .val (.int (-1 : Int32)), .unset, .unset, .unset, .unset, .unset, .unset] [])
      refine Go.of (fun _ k => XS.iload X85.here hx rfl (hb hby at_185) rfl k) ?_
      show Go p e below W T85 (mkF m 187 #[.val (.int p1), .val (.int p2), .val (.int p3), .val (.int p4), .val (.int p5), .val (.int (2 : Int32)), .val (.ref b71), .val (.int (v0_86 p2 p3 p4 p5 nn)), .val (.int (v0_87 p2 p3 p4 p5 nn)), .val (.int (-1 : Int32)), .unset, .unset, .unset, .unset, .unset, .unset] [(.int (2 : Int32))])
      refine Go.of (fun _ k => XS.iconst X85.here hx rfl (hb hby at_187) k) ?_
      show Go p e below W T85 (mkF m 188 #[.val (.int p1), .val (.int p2), .val (.int p3), .val (.int p4), .val (.int p5), .val (.int (2 : Int32)), .val (.ref b71), .val (.int (v0_86 p2 p3 p4 p5 nn)), .val (.int (v0_87 p2 p3 p4 p5 nn)), .val (.int (-1 : Int32)), .unset, .unset, .unset, .unset, .unset, .unset] [(.int (3 : Int32)), (.int (2 : Int32))])
      refine Go.of (fun _ k => XS.icmpYes X85.here hx rfl (pc0 := 188) (pc' := 198) rfl (hb hby at_188) rfl (Jvm.Free.XT.ii_le_t (by decide)) (by decide) (by decide) k) ?_
      show Go p e below W T85 (mkF m 198 #[.val (.int p1), .val (.int p2), .val (.int p3), .val (.int p4), .val (.int p5), .val (.int (2 : Int32)), .val (.ref b71), .val (.int (v0_86 p2 p3 p4 p5 nn)), .val (.int (v0_87 p2 p3 p4 p5 nn)), .val (.int (-1 : Int32)), .unset, .unset, .unset, .unset, .unset, .unset] [])
      refine Go.of (fun _ k => XS.iconst X85.here hx rfl (hb hby at_198) k) ?_
      show Go p e below W T85 (mkF m 199 #[.val (.int p1), .val (.int p2), .val (.int p3), .val (.int p4), .val (.int p5), .val (.int (2 : Int32)), .val (.ref b71), .val (.int (v0_86 p2 p3 p4 p5 nn)), .val (.int (v0_87 p2 p3 p4 p5 nn)), .val (.int (-1 : Int32)), .unset, .unset, .unset, .unset, .unset, .unset] [(.int (-1 : Int32))])
      refine Go.of (fun _ k => XS.istore X85.here hx rfl (hb hby at_199) rfl (l' := #[.val (.int p1), .val (.int p2), .val (.int p3), .val (.int p4), .val (.int p5), .val (.int (2 : Int32)), .val (.ref b71), .val (.int (v0_86 p2 p3 p4 p5 nn)), .val (.int (v0_87 p2 p3 p4 p5 nn)), .val (.int (-1 : Int32)), .val (.int (-1 : Int32)), .unset, .unset, .unset, .unset, .unset]) rfl k) ?_
      show Go p e below W T85 (mkF m 201 #[.val (.int p1), .val (.int p2), .val (.int p3), .val (.int p4), .val (.int p5), .val (.int (2 : Int32)), .val (.ref b71), .val (.int (v0_86 p2 p3 p4 p5 nn)), .val (.int (v0_87 p2 p3 p4 p5 nn)), .val (.int (-1 : Int32)), .val (.int (-1 : Int32)), .unset, .unset, .unset, .unset, .unset] [])
      refine Go.of (fun _ k => XS.iloadN X85.here hx rfl (hb hby at_201) rfl k) ?_
      show Go p e below W T85 (mkF m 202 #[.val (.int p1), .val (.int p2), .val (.int p3), .val (.int p4), .val (.int p5), .val (.int (2 : Int32)), .val (.ref b71), .val (.int (v0_86 p2 p3 p4 p5 nn)), .val (.int (v0_87 p2 p3 p4 p5 nn)), .val (.int (-1 : Int32)), .val (.int (-1 : Int32)), .unset, .unset, .unset, .unset, .unset] [(.int p2)])
      refine Go.of (fun _ k => X85.ldcI hx hown (mvT hZ (hw _ (List.mem_of_getElem? (i := 11) rfl))) rfl (hb hby at_202) k) ?_
      show Go p e below W T85 (mkF m 204 #[.val (.int p1), .val (.int p2), .val (.int p3), .val (.int p4), .val (.int p5), .val (.int (2 : Int32)), .val (.ref b71), .val (.int (v0_86 p2 p3 p4 p5 nn)), .val (.int (v0_87 p2 p3 p4 p5 nn)), .val (.int (-1 : Int32)), .val (.int (-1 : Int32)), .unset, .unset, .unset, .unset, .unset] [(.int (2147483647 : Int32)), (.int p2)])
      refine Go.of (fun _ k => XS.iand X85.here hx rfl (hb hby at_204) rfl k) ?_
      show Go p e below W T85 (mkF m 205 #[.val (.int p1), .val (.int p2), .val (.int p3), .val (.int p4), .val (.int p5), .val (.int (2 : Int32)), .val (.ref b71), .val (.int (v0_86 p2 p3 p4 p5 nn)), .val (.int (v0_87 p2 p3 p4 p5 nn)), .val (.int (-1 : Int32)), .val (.int (-1 : Int32)), .unset, .unset, .unset, .unset, .unset] [(.int (p2 &&& (2147483647 : Int32)))])
      refine Go.of (fun _ k => XS.iload X85.here hx rfl (hb hby at_205) rfl k) ?_
      show Go p e below W T85 (mkF m 207 #[.val (.int p1), .val (.int p2), .val (.int p3), .val (.int p4), .val (.int p5), .val (.int (2 : Int32)), .val (.ref b71), .val (.int (v0_86 p2 p3 p4 p5 nn)), .val (.int (v0_87 p2 p3 p4 p5 nn)), .val (.int (-1 : Int32)), .val (.int (-1 : Int32)), .unset, .unset, .unset, .unset, .unset] [(.int (2 : Int32)), (.int (p2 &&& (2147483647 : Int32)))])
      refine Go.of (fun _ k => iremM X85 hx rfl (hb hby at_207) rfl (by decide) k) ?_
      show Go p e below W T85 (mkF m 208 #[.val (.int p1), .val (.int p2), .val (.int p3), .val (.int p4), .val (.int p5), .val (.int (2 : Int32)), .val (.ref b71), .val (.int (v0_86 p2 p3 p4 p5 nn)), .val (.int (v0_87 p2 p3 p4 p5 nn)), .val (.int (-1 : Int32)), .val (.int (-1 : Int32)), .unset, .unset, .unset, .unset, .unset] [(.int ((p2 &&& (2147483647 : Int32)) % (2 : Int32)))])
      refine Go.of (fun _ k => XS.istore X85.here hx rfl (hb hby at_208) rfl (l' := #[.val (.int p1), .val (.int p2), .val (.int p3), .val (.int p4), .val (.int p5), .val (.int (2 : Int32)), .val (.ref b71), .val (.int (v0_86 p2 p3 p4 p5 nn)), .val (.int (v0_87 p2 p3 p4 p5 nn)), .val (.int (-1 : Int32)), .val (.int (-1 : Int32)), .val (.int (v0_88 p2 p3 p4 p5 nn)), .unset, .unset, .unset, .unset]) rfl k) ?_
      show Go p e below W T85 (mkF m 210 #[.val (.int p1), .val (.int p2), .val (.int p3), .val (.int p4), .val (.int p5), .val (.int (2 : Int32)), .val (.ref b71), .val (.int (v0_86 p2 p3 p4 p5 nn)), .val (.int (v0_87 p2 p3 p4 p5 nn)), .val (.int (-1 : Int32)), .val (.int (-1 : Int32)), .val (.int (v0_88 p2 p3 p4 p5 nn)), .unset, .unset, .unset, .unset] [])
      refine Go.of (fun _ k => XS.iload X85.here hx rfl (hb hby at_210) rfl k) ?_
      show Go p e below W T85 (mkF m 212 #[.val (.int p1), .val (.int p2), .val (.int p3), .val (.int p4), .val (.int p5), .val (.int (2 : Int32)), .val (.ref b71), .val (.int (v0_86 p2 p3 p4 p5 nn)), .val (.int (v0_87 p2 p3 p4 p5 nn)), .val (.int (-1 : Int32)), .val (.int (-1 : Int32)), .val (.int (v0_88 p2 p3 p4 p5 nn)), .unset, .unset, .unset, .unset] [(.int (v0_88 p2 p3 p4 p5 nn))])
      refine Go.of (fun _ k => XS.iconst X85.here hx rfl (hb hby at_212) k) ?_
      show Go p e below W T85 (mkF m 213 #[.val (.int p1), .val (.int p2), .val (.int p3), .val (.int p4), .val (.int p5), .val (.int (2 : Int32)), .val (.ref b71), .val (.int (v0_86 p2 p3 p4 p5 nn)), .val (.int (v0_87 p2 p3 p4 p5 nn)), .val (.int (-1 : Int32)), .val (.int (-1 : Int32)), .val (.int (v0_88 p2 p3 p4 p5 nn)), .unset, .unset, .unset, .unset] [(.int (1 : Int32)), (.int (v0_88 p2 p3 p4 p5 nn))])
      refine Go.of (fun _ k => XS.iadd X85.here hx rfl (hb hby at_213) rfl k) ?_
      show Go p e below W T85 (mkF m 214 #[.val (.int p1), .val (.int p2), .val (.int p3), .val (.int p4), .val (.int p5), .val (.int (2 : Int32)), .val (.ref b71), .val (.int (v0_86 p2 p3 p4 p5 nn)), .val (.int (v0_87 p2 p3 p4 p5 nn)), .val (.int (-1 : Int32)), .val (.int (-1 : Int32)), .val (.int (v0_88 p2 p3 p4 p5 nn)), .unset, .unset, .unset, .unset] [(.int ((v0_88 p2 p3 p4 p5 nn) + (1 : Int32)))])
      refine Go.of (fun _ k => XS.iload X85.here hx rfl (hb hby at_214) rfl k) ?_
      show Go p e below W T85 (mkF m 216 #[.val (.int p1), .val (.int p2), .val (.int p3), .val (.int p4), .val (.int p5), .val (.int (2 : Int32)), .val (.ref b71), .val (.int (v0_86 p2 p3 p4 p5 nn)), .val (.int (v0_87 p2 p3 p4 p5 nn)), .val (.int (-1 : Int32)), .val (.int (-1 : Int32)), .val (.int (v0_88 p2 p3 p4 p5 nn)), .unset, .unset, .unset, .unset] [(.int (2 : Int32)), (.int ((v0_88 p2 p3 p4 p5 nn) + (1 : Int32)))])
      refine Go.of (fun _ k => iremM X85 hx rfl (hb hby at_216) rfl (by decide) k) ?_
      show Go p e below W T85 (mkF m 217 #[.val (.int p1), .val (.int p2), .val (.int p3), .val (.int p4), .val (.int p5), .val (.int (2 : Int32)), .val (.ref b71), .val (.int (v0_86 p2 p3 p4 p5 nn)), .val (.int (v0_87 p2 p3 p4 p5 nn)), .val (.int (-1 : Int32)), .val (.int (-1 : Int32)), .val (.int (v0_88 p2 p3 p4 p5 nn)), .unset, .unset, .unset, .unset] [(.int (((v0_88 p2 p3 p4 p5 nn) + (1 : Int32)) % (2 : Int32)))])
      refine Go.of (fun _ k => XS.istore X85.here hx rfl (hb hby at_217) rfl (l' := #[.val (.int p1), .val (.int p2), .val (.int p3), .val (.int p4), .val (.int p5), .val (.int (2 : Int32)), .val (.ref b71), .val (.int (v0_86 p2 p3 p4 p5 nn)), .val (.int (v0_87 p2 p3 p4 p5 nn)), .val (.int (-1 : Int32)), .val (.int (-1 : Int32)), .val (.int (v0_88 p2 p3 p4 p5 nn)), .val (.int (v0_89 p2 p3 p4 p5 nn)), .unset, .unset, .unset]) rfl k) ?_
      show Go p e below W T85 (mkF m 219 #[.val (.int p1), .val (.int p2), .val (.int p3), .val (.int p4), .val (.int p5), .val (.int (2 : Int32)), .val (.ref b71), .val (.int (v0_86 p2 p3 p4 p5 nn)), .val (.int (v0_87 p2 p3 p4 p5 nn)), .val (.int (-1 : Int32)), .val (.int (-1 : Int32)), .val (.int (v0_88 p2 p3 p4 p5 nn)), .val (.int (v0_89 p2 p3 p4 p5 nn)), .unset, .unset, .unset] [])
      refine Go.of (fun _ k => XS.iload X85.here hx rfl (hb hby at_219) rfl k) ?_
      show Go p e below W T85 (mkF m 221 #[.val (.int p1), .val (.int p2), .val (.int p3), .val (.int p4), .val (.int p5), .val (.int (2 : Int32)), .val (.ref b71), .val (.int (v0_86 p2 p3 p4 p5 nn)), .val (.int (v0_87 p2 p3 p4 p5 nn)), .val (.int (-1 : Int32)), .val (.int (-1 : Int32)), .val (.int (v0_88 p2 p3 p4 p5 nn)), .val (.int (v0_89 p2 p3 p4 p5 nn)), .unset, .unset, .unset] [(.int (v0_89 p2 p3 p4 p5 nn))])
      suffices G93 : ∀ T', Stand p l e room_1 s m #[(.int p1), (.int p2), (.int p3), (.int p4), (.int p5)] below meth c T' L85 1 2 → T'.heap = T85.heap → Go p e below W T' (mkF m 261 #[.val (.int p1), .val (.int p2), .val (.int p3), .val (.int p4), .val (.int p5), .val (.int (2 : Int32)), .val (.ref b71), .val (.int (v0_86 p2 p3 p4 p5 nn)), .val (.int (v0_87 p2 p3 p4 p5 nn)), .val (.int (-1 : Int32)), .val (.int (-1 : Int32)), .val (.int (v0_88 p2 p3 p4 p5 nn)), .val (.int (v0_89 p2 p3 p4 p5 nn)), .val (.int (v0_94 p2 p3 p4 p5 nn)), .unset, .unset] []) by
        by_cases c90 : (v0_89 p2 p3 p4 p5 nn) = (0 : Int32)
        · refine Go.of (fun _ k => XS.ifNo X85.here hx rfl (hb hby at_221) rfl (Jvm.Free.XT.i0_ne_f c90) k) ?_
          show Go p e below W T85 (mkF m 224 #[.val (.int p1), .val (.int p2), .val (.int p3), .val (.int p4), .val (.int p5), .val (.int (2 : Int32)), .val (.ref b71), .val (.int (v0_86 p2 p3 p4 p5 nn)), .val (.int (v0_87 p2 p3 p4 p5 nn)), .val (.int (-1 : Int32)), .val (.int (-1 : Int32)), .val (.int (v0_88 p2 p3 p4 p5 nn)), .val (.int (v0_89 p2 p3 p4 p5 nn)), .unset, .unset, .unset] [])
          refine Go.of (fun _ k => XS.iload X85.here hx rfl (hb hby at_224) rfl k) ?_
          show Go p e below W T85 (mkF m 226 #[.val (.int p1), .val (.int p2), .val (.int p3), .val (.int p4), .val (.int p5), .val (.int (2 : Int32)), .val (.ref b71), .val (.int (v0_86 p2 p3 p4 p5 nn)), .val (.int (v0_87 p2 p3 p4 p5 nn)), .val (.int (-1 : Int32)), .val (.int (-1 : Int32)), .val (.int (v0_88 p2 p3 p4 p5 nn)), .val (.int (v0_89 p2 p3 p4 p5 nn)), .unset, .unset, .unset] [(.int (v0_86 p2 p3 p4 p5 nn))])
          refine Go.of (fun _ k => XS.istore X85.here hx rfl (hb hby at_226) rfl (l' := #[.val (.int p1), .val (.int p2), .val (.int p3), .val (.int p4), .val (.int p5), .val (.int (2 : Int32)), .val (.ref b71), .val (.int (v0_86 p2 p3 p4 p5 nn)), .val (.int (v0_87 p2 p3 p4 p5 nn)), .val (.int (-1 : Int32)), .val (.int (-1 : Int32)), .val (.int (v0_88 p2 p3 p4 p5 nn)), .val (.int (v0_89 p2 p3 p4 p5 nn)), .val (.int (v0_86 p2 p3 p4 p5 nn)), .unset, .unset]) rfl k) ?_
          show Go p e below W T85 (mkF m 228 #[.val (.int p1), .val (.int p2), .val (.int p3), .val (.int p4), .val (.int p5), .val (.int (2 : Int32)), .val (.ref b71), .val (.int (v0_86 p2 p3 p4 p5 nn)), .val (.int (v0_87 p2 p3 p4 p5 nn)), .val (.int (-1 : Int32)), .val (.int (-1 : Int32)), .val (.int (v0_88 p2 p3 p4 p5 nn)), .val (.int (v0_89 p2 p3 p4 p5 nn)), .val (.int (v0_86 p2 p3 p4 p5 nn)), .unset, .unset] [])
          refine Go.of (fun _ k => XS.goto X85.here hx rfl (pc0 := 228) (pc' := 261) rfl (hb hby at_228) (by decide) (by decide) k) ?_
          have G93 := G93
          have q_v0_94 : (v0_94 p2 p3 p4 p5 nn) = (v0_86 p2 p3 p4 p5 nn) := by rw [v0_94, if_pos c90]
          rw [q_v0_94] at G93
          exact G93 _ X85 rfl
        · refine Go.of (fun _ k => XS.ifYes X85.here hx rfl (pc0 := 221) (pc' := 231) rfl (hb hby at_221) rfl (Jvm.Free.XT.i0_ne_t c90) (by decide) (by decide) k) ?_
          show Go p e below W T85 (mkF m 231 #[.val (.int p1), .val (.int p2), .val (.int p3), .val (.int p4), .val (.int p5), .val (.int (2 : Int32)), .val (.ref b71), .val (.int (v0_86 p2 p3 p4 p5 nn)), .val (.int (v0_87 p2 p3 p4 p5 nn)), .val (.int (-1 : Int32)), .val (.int (-1 : Int32)), .val (.int (v0_88 p2 p3 p4 p5 nn)), .val (.int (v0_89 p2 p3 p4 p5 nn)), .unset, .unset, .unset] [])
          refine Go.of (fun _ k => XS.iload X85.here hx rfl (hb hby at_231) rfl k) ?_
          show Go p e below W T85 (mkF m 233 #[.val (.int p1), .val (.int p2), .val (.int p3), .val (.int p4), .val (.int p5), .val (.int (2 : Int32)), .val (.ref b71), .val (.int (v0_86 p2 p3 p4 p5 nn)), .val (.int (v0_87 p2 p3 p4 p5 nn)), .val (.int (-1 : Int32)), .val (.int (-1 : Int32)), .val (.int (v0_88 p2 p3 p4 p5 nn)), .val (.int (v0_89 p2 p3 p4 p5 nn)), .unset, .unset, .unset] [(.int (v0_89 p2 p3 p4 p5 nn))])
          refine Go.of (fun _ k => XS.iconst X85.here hx rfl (hb hby at_233) k) ?_
          show Go p e below W T85 (mkF m 234 #[.val (.int p1), .val (.int p2), .val (.int p3), .val (.int p4), .val (.int p5), .val (.int (2 : Int32)), .val (.ref b71), .val (.int (v0_86 p2 p3 p4 p5 nn)), .val (.int (v0_87 p2 p3 p4 p5 nn)), .val (.int (-1 : Int32)), .val (.int (-1 : Int32)), .val (.int (v0_88 p2 p3 p4 p5 nn)), .val (.int (v0_89 p2 p3 p4 p5 nn)), .unset, .unset, .unset] [(.int (1 : Int32)), (.int (v0_89 p2 p3 p4 p5 nn))])
          by_cases c91 : (v0_89 p2 p3 p4 p5 nn) = (1 : Int32)
          · refine Go.of (fun _ k => XS.icmpNo X85.here hx rfl (hb hby at_234) rfl (Jvm.Free.XT.ii_ne_f c91) k) ?_
            show Go p e below W T85 (mkF m 237 #[.val (.int p1), .val (.int p2), .val (.int p3), .val (.int p4), .val (.int p5), .val (.int (2 : Int32)), .val (.ref b71), .val (.int (v0_86 p2 p3 p4 p5 nn)), .val (.int (v0_87 p2 p3 p4 p5 nn)), .val (.int (-1 : Int32)), .val (.int (-1 : Int32)), .val (.int (v0_88 p2 p3 p4 p5 nn)), .val (.int (v0_89 p2 p3 p4 p5 nn)), .unset, .unset, .unset] [])
            refine Go.of (fun _ k => XS.iload X85.here hx rfl (hb hby at_237) rfl k) ?_
            show Go p e below W T85 (mkF m 239 #[.val (.int p1), .val (.int p2), .val (.int p3), .val (.int p4), .val (.int p5), .val (.int (2 : Int32)), .val (.ref b71), .val (.int (v0_86 p2 p3 p4 p5 nn)), .val (.int (v0_87 p2 p3 p4 p5 nn)), .val (.int (-1 : Int32)), .val (.int (-1 : Int32)), .val (.int (v0_88 p2 p3 p4 p5 nn)), .val (.int (v0_89 p2 p3 p4 p5 nn)), .unset, .unset, .unset] [(.int (v0_87 p2 p3 p4 p5 nn))])
            refine Go.of (fun _ k => XS.istore X85.here hx rfl (hb hby at_239) rfl (l' := #[.val (.int p1), .val (.int p2), .val (.int p3), .val (.int p4), .val (.int p5), .val (.int (2 : Int32)), .val (.ref b71), .val (.int (v0_86 p2 p3 p4 p5 nn)), .val (.int (v0_87 p2 p3 p4 p5 nn)), .val (.int (-1 : Int32)), .val (.int (-1 : Int32)), .val (.int (v0_88 p2 p3 p4 p5 nn)), .val (.int (v0_89 p2 p3 p4 p5 nn)), .val (.int (v0_87 p2 p3 p4 p5 nn)), .unset, .unset]) rfl k) ?_
            show Go p e below W T85 (mkF m 241 #[.val (.int p1), .val (.int p2), .val (.int p3), .val (.int p4), .val (.int p5), .val (.int (2 : Int32)), .val (.ref b71), .val (.int (v0_86 p2 p3 p4 p5 nn)), .val (.int (v0_87 p2 p3 p4 p5 nn)), .val (.int (-1 : Int32)), .val (.int (-1 : Int32)), .val (.int (v0_88 p2 p3 p4 p5 nn)), .val (.int (v0_89 p2 p3 p4 p5 nn)), .val (.int (v0_87 p2 p3 p4 p5 nn)), .unset, .unset] [])
            refine Go.of (fun _ k => XS.goto X85.here hx rfl (pc0 := 241) (pc' := 261) rfl (hb hby at_241) (by decide) (by decide) k) ?_
            have G93 := G93
            have q_v0_94 : (v0_94 p2 p3 p4 p5 nn) = (v0_87 p2 p3 p4 p5 nn) := by rw [v0_94, if_neg c90, if_pos c91]
            rw [q_v0_94] at G93
            exact G93 _ X85 rfl
          · refine Go.of (fun _ k => XS.icmpYes X85.here hx rfl (pc0 := 234) (pc' := 244) rfl (hb hby at_234) rfl (Jvm.Free.XT.ii_ne_t c91) (by decide) (by decide) k) ?_
            show Go p e below W T85 (mkF m 244 #[.val (.int p1), .val (.int p2), .val (.int p3), .val (.int p4), .val (.int p5), .val (.int (2 : Int32)), .val (.ref b71), .val (.int (v0_86 p2 p3 p4 p5 nn)), .val (.int (v0_87 p2 p3 p4 p5 nn)), .val (.int (-1 : Int32)), .val (.int (-1 : Int32)), .val (.int (v0_88 p2 p3 p4 p5 nn)), .val (.int (v0_89 p2 p3 p4 p5 nn)), .unset, .unset, .unset] [])
            refine Go.of (fun _ k => XS.iload X85.here hx rfl (hb hby at_244) rfl k) ?_
            show Go p e below W T85 (mkF m 246 #[.val (.int p1), .val (.int p2), .val (.int p3), .val (.int p4), .val (.int p5), .val (.int (2 : Int32)), .val (.ref b71), .val (.int (v0_86 p2 p3 p4 p5 nn)), .val (.int (v0_87 p2 p3 p4 p5 nn)), .val (.int (-1 : Int32)), .val (.int (-1 : Int32)), .val (.int (v0_88 p2 p3 p4 p5 nn)), .val (.int (v0_89 p2 p3 p4 p5 nn)), .unset, .unset, .unset] [(.int (v0_89 p2 p3 p4 p5 nn))])
            refine Go.of (fun _ k => XS.iconst X85.here hx rfl (hb hby at_246) k) ?_
            show Go p e below W T85 (mkF m 247 #[.val (.int p1), .val (.int p2), .val (.int p3), .val (.int p4), .val (.int p5), .val (.int (2 : Int32)), .val (.ref b71), .val (.int (v0_86 p2 p3 p4 p5 nn)), .val (.int (v0_87 p2 p3 p4 p5 nn)), .val (.int (-1 : Int32)), .val (.int (-1 : Int32)), .val (.int (v0_88 p2 p3 p4 p5 nn)), .val (.int (v0_89 p2 p3 p4 p5 nn)), .unset, .unset, .unset] [(.int (2 : Int32)), (.int (v0_89 p2 p3 p4 p5 nn))])
            by_cases c92 : (v0_89 p2 p3 p4 p5 nn) = (2 : Int32)
            · refine Go.of (fun _ k => XS.icmpNo X85.here hx rfl (hb hby at_247) rfl (Jvm.Free.XT.ii_ne_f c92) k) ?_
              show Go p e below W T85 (mkF m 250 #[.val (.int p1), .val (.int p2), .val (.int p3), .val (.int p4), .val (.int p5), .val (.int (2 : Int32)), .val (.ref b71), .val (.int (v0_86 p2 p3 p4 p5 nn)), .val (.int (v0_87 p2 p3 p4 p5 nn)), .val (.int (-1 : Int32)), .val (.int (-1 : Int32)), .val (.int (v0_88 p2 p3 p4 p5 nn)), .val (.int (v0_89 p2 p3 p4 p5 nn)), .unset, .unset, .unset] [])
              refine Go.of (fun _ k => XS.iload X85.here hx rfl (hb hby at_250) rfl k) ?_
              show Go p e below W T85 (mkF m 252 #[.val (.int p1), .val (.int p2), .val (.int p3), .val (.int p4), .val (.int p5), .val (.int (2 : Int32)), .val (.ref b71), .val (.int (v0_86 p2 p3 p4 p5 nn)), .val (.int (v0_87 p2 p3 p4 p5 nn)), .val (.int (-1 : Int32)), .val (.int (-1 : Int32)), .val (.int (v0_88 p2 p3 p4 p5 nn)), .val (.int (v0_89 p2 p3 p4 p5 nn)), .unset, .unset, .unset] [(.int (-1 : Int32))])
              refine Go.of (fun _ k => XS.istore X85.here hx rfl (hb hby at_252) rfl (l' := #[.val (.int p1), .val (.int p2), .val (.int p3), .val (.int p4), .val (.int p5), .val (.int (2 : Int32)), .val (.ref b71), .val (.int (v0_86 p2 p3 p4 p5 nn)), .val (.int (v0_87 p2 p3 p4 p5 nn)), .val (.int (-1 : Int32)), .val (.int (-1 : Int32)), .val (.int (v0_88 p2 p3 p4 p5 nn)), .val (.int (v0_89 p2 p3 p4 p5 nn)), .val (.int (-1 : Int32)), .unset, .unset]) rfl k) ?_
              show Go p e below W T85 (mkF m 254 #[.val (.int p1), .val (.int p2), .val (.int p3), .val (.int p4), .val (.int p5), .val (.int (2 : Int32)), .val (.ref b71), .val (.int (v0_86 p2 p3 p4 p5 nn)), .val (.int (v0_87 p2 p3 p4 p5 nn)), .val (.int (-1 : Int32)), .val (.int (-1 : Int32)), .val (.int (v0_88 p2 p3 p4 p5 nn)), .val (.int (v0_89 p2 p3 p4 p5 nn)), .val (.int (-1 : Int32)), .unset, .unset] [])
              refine Go.of (fun _ k => XS.goto X85.here hx rfl (pc0 := 254) (pc' := 261) rfl (hb hby at_254) (by decide) (by decide) k) ?_
              have G93 := G93
              have q_v0_94 : (v0_94 p2 p3 p4 p5 nn) = (-1 : Int32) := by rw [v0_94, if_neg c90, if_neg c91, if_pos c92]
              rw [q_v0_94] at G93
              exact G93 _ X85 rfl
            · refine Go.of (fun _ k => XS.icmpYes X85.here hx rfl (pc0 := 247) (pc' := 257) rfl (hb hby at_247) rfl (Jvm.Free.XT.ii_ne_t c92) (by decide) (by decide) k) ?_
              show Go p e below W T85 (mkF m 257 #[.val (.int p1), .val (.int p2), .val (.int p3), .val (.int p4), .val (.int p5), .val (.int (2 : Int32)), .val (.ref b71), .val (.int (v0_86 p2 p3 p4 p5 nn)), .val (.int (v0_87 p2 p3 p4 p5 nn)), .val (.int (-1 : Int32)), .val (.int (-1 : Int32)), .val (.int (v0_88 p2 p3 p4 p5 nn)), .val (.int (v0_89 p2 p3 p4 p5 nn)), .unset, .unset, .unset] [])
              refine Go.of (fun _ k => XS.iload X85.here hx rfl (hb hby at_257) rfl k) ?_
              show Go p e below W T85 (mkF m 259 #[.val (.int p1), .val (.int p2), .val (.int p3), .val (.int p4), .val (.int p5), .val (.int (2 : Int32)), .val (.ref b71), .val (.int (v0_86 p2 p3 p4 p5 nn)), .val (.int (v0_87 p2 p3 p4 p5 nn)), .val (.int (-1 : Int32)), .val (.int (-1 : Int32)), .val (.int (v0_88 p2 p3 p4 p5 nn)), .val (.int (v0_89 p2 p3 p4 p5 nn)), .unset, .unset, .unset] [(.int (-1 : Int32))])
              refine Go.of (fun _ k => XS.istore X85.here hx rfl (hb hby at_259) rfl (l' := #[.val (.int p1), .val (.int p2), .val (.int p3), .val (.int p4), .val (.int p5), .val (.int (2 : Int32)), .val (.ref b71), .val (.int (v0_86 p2 p3 p4 p5 nn)), .val (.int (v0_87 p2 p3 p4 p5 nn)), .val (.int (-1 : Int32)), .val (.int (-1 : Int32)), .val (.int (v0_88 p2 p3 p4 p5 nn)), .val (.int (v0_89 p2 p3 p4 p5 nn)), .val (.int (-1 : Int32)), .unset, .unset]) rfl k) ?_
              have G93 := G93
              have q_v0_94 : (v0_94 p2 p3 p4 p5 nn) = (-1 : Int32) := by rw [v0_94, if_neg c90, if_neg c91, if_neg c92]
              rw [q_v0_94] at G93
              exact G93 _ X85 rfl
      intro T93 X93 e93
      show Go p e below W T93 (mkF m 261 #[.val (.int p1), .val (.int p2), .val (.int p3), .val (.int p4), .val (.int p5), .val (.int (2 : Int32)), .val (.ref b71), .val (.int (v0_86 p2 p3 p4 p5 nn)), .val (.int (v0_87 p2 p3 p4 p5 nn)), .val (.int (-1 : Int32)), .val (.int (-1 : Int32)), .val (.int (v0_88 p2 p3 p4 p5 nn)), .val (.int (v0_89 p2 p3 p4 p5 nn)), .val (.int (v0_94 p2 p3 p4 p5 nn)), .unset, .unset] [])
      refine Go.newO X93 hx hZ hown (hw _ (List.mem_of_getElem? (i := 12) rfl)) (hw _ (List.mem_of_getElem? (i := 13) rfl)) (hw _ (List.mem_of_getElem? (i := 14) rfl)) e93 (hb hby at_261) (by decide) (by decide) ?_
      intro T95 h95 b95 zq95 X95 e95 E95 E_b95 D95
      have ne_b71_b95 : b71 ≠ b95 := by rw [zq95]; exact Nat.ne_of_lt A_b71.lt
      have g_b95 : n0 ≤ b95 := by rw [zq95]; exact Z0
      have s_b95 : h0.size ≤ b95 := by rw [zq95]; exact K.1
      have A_b71 := A_b71.ext E95
      have K := K.ext E95
      have Z0 := Nat.le_trans Z0 E95.1
      have F_b95_order : Fld Z h95 b95 "com/example/pilfer/pilfer/Tour" "order" "[I" .null := D95 (Or.inr (hw _ (List.mem_of_getElem? (i := 22) rfl))) (ty := (.array .int)) (by decide)
      have F_b95_position : Fld Z h95 b95 "com/example/pilfer/pilfer/Tour" "position" "[I" .null := D95 (Or.inr (hw _ (List.mem_of_getElem? (i := 24) rfl))) (ty := (.array .int)) (by decide)
      show Go p e below W T95 (mkF m 264 #[.val (.int p1), .val (.int p2), .val (.int p3), .val (.int p4), .val (.int p5), .val (.int (2 : Int32)), .val (.ref b71), .val (.int (v0_86 p2 p3 p4 p5 nn)), .val (.int (v0_87 p2 p3 p4 p5 nn)), .val (.int (-1 : Int32)), .val (.int (-1 : Int32)), .val (.int (v0_88 p2 p3 p4 p5 nn)), .val (.int (v0_89 p2 p3 p4 p5 nn)), .val (.int (v0_94 p2 p3 p4 p5 nn)), .unset, .unset] [(.ref b95)])
      refine Go.of (fun _ k => XS.dup X95.here hx rfl (hb hby at_264) rfl rfl k) ?_
      show Go p e below W T95 (mkF m 265 #[.val (.int p1), .val (.int p2), .val (.int p3), .val (.int p4), .val (.int p5), .val (.int (2 : Int32)), .val (.ref b71), .val (.int (v0_86 p2 p3 p4 p5 nn)), .val (.int (v0_87 p2 p3 p4 p5 nn)), .val (.int (-1 : Int32)), .val (.int (-1 : Int32)), .val (.int (v0_88 p2 p3 p4 p5 nn)), .val (.int (v0_89 p2 p3 p4 p5 nn)), .val (.int (v0_94 p2 p3 p4 p5 nn)), .unset, .unset] [(.ref b95), (.ref b95)])
      refine Go.of (fun _ k => XS.aload X95.here hx rfl (hb hby at_265) rfl rfl k) ?_
      show Go p e below W T95 (mkF m 267 #[.val (.int p1), .val (.int p2), .val (.int p3), .val (.int p4), .val (.int p5), .val (.int (2 : Int32)), .val (.ref b71), .val (.int (v0_86 p2 p3 p4 p5 nn)), .val (.int (v0_87 p2 p3 p4 p5 nn)), .val (.int (-1 : Int32)), .val (.int (-1 : Int32)), .val (.int (v0_88 p2 p3 p4 p5 nn)), .val (.int (v0_89 p2 p3 p4 p5 nn)), .val (.int (v0_94 p2 p3 p4 p5 nn)), .unset, .unset] [(.ref b71), (.ref b95), (.ref b95)])
      refine Go.callI X95 hx hZ rfl hown (hw _ (List.mem_of_getElem? (i := 15) rfl)) (hw _ (List.mem_of_getElem? (i := 16) rfl)) (hw _ (List.mem_of_getElem? (i := 14) rfl)) (hw _ (List.mem_of_getElem? (i := 17) rfl)) (by decide) e95 (rm4 l Z a0 hw [] b95 b71 (f3_a1 (f1 p5 (2 : Int32)) (f2 p5 (2 : Int32)) (f3_a1 (f1 p4 (2 : Int32)) (f2 p4 (2 : Int32)) (f3_a1 (f1 p3 (2 : Int32)) (f2 p3 (2 : Int32)) (w0_76 p2 p3 p4 p5 nn) (2 : Nat)) (2 : Nat)) (2 : Nat)) (2 : Nat) h95 n0 Z0 E_b95 F_b95_order F_b95_position A_b71 g_b95 (Ne.symm ne_b71_b95) (by decide) (own_sw (own_sw (own_sw (own_updin (own_updin own_zero ⟨by decide, by decide⟩) ⟨by decide, by decide⟩) (own_lo2 _) (own_hi2 _)) (own_lo2 _) (own_hi2 _)) (own_lo2 _) (own_hi2 _))) (V := 1) (by decide) (by decide) (by decide) (by decide) (by rw [hml]; rfl) (argsL := [(.ref b71)]) (rest := [(.ref b95)]) rfl (lenOf pd___I_V rfl) rfl (Nat.le_of_ble_eq_true rfl) (hb hby at_267) ?_
      rintro T96 _ M96 ⟨rfl, N96, K96, F_b95_order⟩ X96
      obtain ⟨L96, zq96⟩ : ∃ z, z = L85 ++ M96 := ⟨_, rfl⟩
      have N := Fr.app N N96
      rw [← zq96] at X96 N
      have A_b71 := A_b71.keep K96 (ninS ne_b71_b95 nin0)
      have E_b95 := E_b95.keep K96
      have K := K.trans K96 (by
        intro x hx
        simp only [List.mem_cons, List.not_mem_nil, or_false] at hx
        rcases hx with rfl
        · exact Or.inr s_b95)
      have Z0 := Nat.le_trans Z0 K96.1
      show Go p e below W T96 (mkF m 270 #[.val (.int p1), .val (.int p2), .val (.int p3), .val (.int p4), .val (.int p5), .val (.int (2 : Int32)), .val (.ref b71), .val (.int (v0_86 p2 p3 p4 p5 nn)), .val (.int (v0_87 p2 p3 p4 p5 nn)), .val (.int (-1 : Int32)), .val (.int (-1 : Int32)), .val (.int (v0_88 p2 p3 p4 p5 nn)), .val (.int (v0_89 p2 p3 p4 p5 nn)), .val (.int (v0_94 p2 p3 p4 p5 nn)), .unset, .unset] [(.ref b95)])
      refine Go.of (fun _ k => XS.astore X96.here hx rfl (hb hby at_270) rfl rfl (l' := #[.val (.int p1), .val (.int p2), .val (.int p3), .val (.int p4), .val (.int p5), .val (.int (2 : Int32)), .val (.ref b71), .val (.int (v0_86 p2 p3 p4 p5 nn)), .val (.int (v0_87 p2 p3 p4 p5 nn)), .val (.int (-1 : Int32)), .val (.int (-1 : Int32)), .val (.int (v0_88 p2 p3 p4 p5 nn)), .val (.int (v0_89 p2 p3 p4 p5 nn)), .val (.int (v0_94 p2 p3 p4 p5 nn)), .val (.ref b95), .unset]) rfl k) ?_
      show Go p e below W T96 (mkF m 272 #[.val (.int p1), .val (.int p2), .val (.int p3), .val (.int p4), .val (.int p5), .val (.int (2 : Int32)), .val (.ref b71), .val (.int (v0_86 p2 p3 p4 p5 nn)), .val (.int (v0_87 p2 p3 p4 p5 nn)), .val (.int (-1 : Int32)), .val (.int (-1 : Int32)), .val (.int (v0_88 p2 p3 p4 p5 nn)), .val (.int (v0_89 p2 p3 p4 p5 nn)), .val (.int (v0_94 p2 p3 p4 p5 nn)), .val (.ref b95), .unset] [])
      refine Go.of (fun _ k => XS.aload X96.here hx rfl (hb hby at_272) rfl rfl k) ?_
      show Go p e below W T96 (mkF m 274 #[.val (.int p1), .val (.int p2), .val (.int p3), .val (.int p4), .val (.int p5), .val (.int (2 : Int32)), .val (.ref b71), .val (.int (v0_86 p2 p3 p4 p5 nn)), .val (.int (v0_87 p2 p3 p4 p5 nn)), .val (.int (-1 : Int32)), .val (.int (-1 : Int32)), .val (.int (v0_88 p2 p3 p4 p5 nn)), .val (.int (v0_89 p2 p3 p4 p5 nn)), .val (.int (v0_94 p2 p3 p4 p5 nn)), .val (.ref b95), .unset] [(.ref b95)])
      refine Go.of (fun _ k => XS.iload X96.here hx rfl (hb hby at_274) rfl k) ?_
      show Go p e below W T96 (mkF m 276 #[.val (.int p1), .val (.int p2), .val (.int p3), .val (.int p4), .val (.int p5), .val (.int (2 : Int32)), .val (.ref b71), .val (.int (v0_86 p2 p3 p4 p5 nn)), .val (.int (v0_87 p2 p3 p4 p5 nn)), .val (.int (-1 : Int32)), .val (.int (-1 : Int32)), .val (.int (v0_88 p2 p3 p4 p5 nn)), .val (.int (v0_89 p2 p3 p4 p5 nn)), .val (.int (v0_94 p2 p3 p4 p5 nn)), .val (.ref b95), .unset] [(.int (v0_88 p2 p3 p4 p5 nn)), (.ref b95)])
      refine Go.callV X96 hx hZ hown (hw _ (List.mem_of_getElem? (i := 25) rfl)) (hw _ (List.mem_of_getElem? (i := 26) rfl)) (hw _ (List.mem_of_getElem? (i := 28) rfl)) (hw _ (List.mem_of_getElem? (i := 27) rfl)) (hw _ (List.mem_of_getElem? (i := 14) rfl)) (hw _ (List.mem_of_getElem? (i := 29) rfl)) (by decide) rfl E_b95 (rm6 l Z a0 hw [] b95 (v0_88 p2 p3 p4 p5 nn) b71 (f3_a1 (f1 p5 (2 : Int32)) (f2 p5 (2 : Int32)) (f3_a1 (f1 p4 (2 : Int32)) (f2 p4 (2 : Int32)) (f3_a1 (f1 p3 (2 : Int32)) (f2 p3 (2 : Int32)) (w0_76 p2 p3 p4 p5 nn) (2 : Nat)) (2 : Nat)) (2 : Nat)) (2 : Nat) T96.heap F_b95_order A_b71 (by decide) (own_pp2 _)) (V := 0) (by decide) (by decide) (by decide) (by decide) (by rw [hml]; rfl) (argsL := [(.int (v0_88 p2 p3 p4 p5 nn))]) (rest := []) rfl (lenOf pd__I_I rfl) rfl (Nat.le_of_ble_eq_true rfl) (hb hby at_276) ?_
      rintro T97 _ _ ⟨rfl, rfl, e97⟩ X97
      rw [List.append_nil] at X97
      show Go p e below W T97 (mkF m 279 #[.val (.int p1), .val (.int p2), .val (.int p3), .val (.int p4), .val (.int p5), .val (.int (2 : Int32)), .val (.ref b71), .val (.int (v0_86 p2 p3 p4 p5 nn)), .val (.int (v0_87 p2 p3 p4 p5 nn)), .val (.int (-1 : Int32)), .val (.int (-1 : Int32)), .val (.int (v0_88 p2 p3 p4 p5 nn)), .val (.int (v0_89 p2 p3 p4 p5 nn)), .val (.int (v0_94 p2 p3 p4 p5 nn)), .val (.ref b95), .unset] [(.int (f6 (v0_88 p2 p3 p4 p5 nn) (f3_a1 (f1 p5 (2 : Int32)) (f2 p5 (2 : Int32)) (f3_a1 (f1 p4 (2 : Int32)) (f2 p4 (2 : Int32)) (f3_a1 (f1 p3 (2 : Int32)) (f2 p3 (2 : Int32)) (w0_76 p2 p3 p4 p5 nn) (2 : Nat)) (2 : Nat)) (2 : Nat)) (2 : Nat)))])
      refine Go.of (fun _ k => XS.istore X97.here hx rfl (hb hby at_279) rfl (l' := #[.val (.int p1), .val (.int p2), .val (.int p3), .val (.int p4), .val (.int p5), .val (.int (2 : Int32)), .val (.ref b71), .val (.int (v0_86 p2 p3 p4 p5 nn)), .val (.int (v0_87 p2 p3 p4 p5 nn)), .val (.int (-1 : Int32)), .val (.int (-1 : Int32)), .val (.int (v0_88 p2 p3 p4 p5 nn)), .val (.int (v0_89 p2 p3 p4 p5 nn)), .val (.int (v0_94 p2 p3 p4 p5 nn)), .val (.ref b95), .val (.int (v0_98 p2 p3 p4 p5 nn))]) rfl k) ?_
      show Go p e below W T97 (mkF m 281 #[.val (.int p1), .val (.int p2), .val (.int p3), .val (.int p4), .val (.int p5), .val (.int (2 : Int32)), .val (.ref b71), .val (.int (v0_86 p2 p3 p4 p5 nn)), .val (.int (v0_87 p2 p3 p4 p5 nn)), .val (.int (-1 : Int32)), .val (.int (-1 : Int32)), .val (.int (v0_88 p2 p3 p4 p5 nn)), .val (.int (v0_89 p2 p3 p4 p5 nn)), .val (.int (v0_94 p2 p3 p4 p5 nn)), .val (.ref b95), .val (.int (v0_98 p2 p3 p4 p5 nn))] [])
      refine Go.of (fun _ k => XS.iload X97.here hx rfl (hb hby at_281) rfl k) ?_
      show Go p e below W T97 (mkF m 283 #[.val (.int p1), .val (.int p2), .val (.int p3), .val (.int p4), .val (.int p5), .val (.int (2 : Int32)), .val (.ref b71), .val (.int (v0_86 p2 p3 p4 p5 nn)), .val (.int (v0_87 p2 p3 p4 p5 nn)), .val (.int (-1 : Int32)), .val (.int (-1 : Int32)), .val (.int (v0_88 p2 p3 p4 p5 nn)), .val (.int (v0_89 p2 p3 p4 p5 nn)), .val (.int (v0_94 p2 p3 p4 p5 nn)), .val (.ref b95), .val (.int (v0_98 p2 p3 p4 p5 nn))] [(.int (v0_98 p2 p3 p4 p5 nn))])
      refine Go.of (fun _ k => XS.iload X97.here hx rfl (hb hby at_283) rfl k) ?_
      show Go p e below W T97 (mkF m 285 #[.val (.int p1), .val (.int p2), .val (.int p3), .val (.int p4), .val (.int p5), .val (.int (2 : Int32)), .val (.ref b71), .val (.int (v0_86 p2 p3 p4 p5 nn)), .val (.int (v0_87 p2 p3 p4 p5 nn)), .val (.int (-1 : Int32)), .val (.int (-1 : Int32)), .val (.int (v0_88 p2 p3 p4 p5 nn)), .val (.int (v0_89 p2 p3 p4 p5 nn)), .val (.int (v0_94 p2 p3 p4 p5 nn)), .val (.ref b95), .val (.int (v0_98 p2 p3 p4 p5 nn))] [(.int (v0_94 p2 p3 p4 p5 nn)), (.int (v0_98 p2 p3 p4 p5 nn))])
      by_cases c99 : (v0_98 p2 p3 p4 p5 nn) = (v0_94 p2 p3 p4 p5 nn)
      · refine Go.of (fun _ k => XS.icmpNo X97.here hx rfl (hb hby at_285) rfl (Jvm.Free.XT.ii_ne_f c99) k) ?_
        show Go p e below W T97 (mkF m 288 #[.val (.int p1), .val (.int p2), .val (.int p3), .val (.int p4), .val (.int p5), .val (.int (2 : Int32)), .val (.ref b71), .val (.int (v0_86 p2 p3 p4 p5 nn)), .val (.int (v0_87 p2 p3 p4 p5 nn)), .val (.int (-1 : Int32)), .val (.int (-1 : Int32)), .val (.int (v0_88 p2 p3 p4 p5 nn)), .val (.int (v0_89 p2 p3 p4 p5 nn)), .val (.int (v0_94 p2 p3 p4 p5 nn)), .val (.ref b95), .val (.int (v0_98 p2 p3 p4 p5 nn))] [])
        refine Go.of (fun _ k => XS.iconst X97.here hx rfl (hb hby at_288) k) ?_
        show Go p e below W T97 (mkF m 289 #[.val (.int p1), .val (.int p2), .val (.int p3), .val (.int p4), .val (.int p5), .val (.int (2 : Int32)), .val (.ref b71), .val (.int (v0_86 p2 p3 p4 p5 nn)), .val (.int (v0_87 p2 p3 p4 p5 nn)), .val (.int (-1 : Int32)), .val (.int (-1 : Int32)), .val (.int (v0_88 p2 p3 p4 p5 nn)), .val (.int (v0_89 p2 p3 p4 p5 nn)), .val (.int (v0_94 p2 p3 p4 p5 nn)), .val (.ref b95), .val (.int (v0_98 p2 p3 p4 p5 nn))] [(.int (1 : Int32))])
        refine Go.of (fun _ k => XS.goto X97.here hx rfl (pc0 := 289) (pc' := 293) rfl (hb hby at_289) (by decide) (by decide) k) ?_
        show Go p e below W T97 (mkF m 293 #[.val (.int p1), .val (.int p2), .val (.int p3), .val (.int p4), .val (.int p5), .val (.int (2 : Int32)), .val (.ref b71), .val (.int (v0_86 p2 p3 p4 p5 nn)), .val (.int (v0_87 p2 p3 p4 p5 nn)), .val (.int (-1 : Int32)), .val (.int (-1 : Int32)), .val (.int (v0_88 p2 p3 p4 p5 nn)), .val (.int (v0_89 p2 p3 p4 p5 nn)), .val (.int (v0_94 p2 p3 p4 p5 nn)), .val (.ref b95), .val (.int (v0_98 p2 p3 p4 p5 nn))] [(.int (1 : Int32))])
        have u_f0 : (f0 p2 p3 p4 p5 nn) = (1 : Int32) := by rw [f0, if_neg c1, if_pos c2, if_pos c99]
        have fin : Q0 Z p1 p2 p3 p4 p5 nn h0 n0 (some (.int (f0 p2 p3 p4 p5 nn))) T96.heap L96 := ⟨rfl, N, K⟩
        exact Go.retN X97 hx hret (Or.inl rfl) (hb hby at_293) hlk (Eq.trans rfl u_f0.symm) (fun t ht fe => hW t _ _ _ _ (by rw [ht, e97]; exact fin) fe (by decide) (by decide))
      · refine Go.of (fun _ k => XS.icmpYes X97.here hx rfl (pc0 := 285) (pc' := 292) rfl (hb hby at_285) rfl (Jvm.Free.XT.ii_ne_t c99) (by decide) (by decide) k) ?_
        show Go p e below W T97 (mkF m 292 #[.val (.int p1), .val (.int p2), .val (.int p3), .val (.int p4), .val (.int p5), .val (.int (2 : Int32)), .val (.ref b71), .val (.int (v0_86 p2 p3 p4 p5 nn)), .val (.int (v0_87 p2 p3 p4 p5 nn)), .val (.int (-1 : Int32)), .val (.int (-1 : Int32)), .val (.int (v0_88 p2 p3 p4 p5 nn)), .val (.int (v0_89 p2 p3 p4 p5 nn)), .val (.int (v0_94 p2 p3 p4 p5 nn)), .val (.ref b95), .val (.int (v0_98 p2 p3 p4 p5 nn))] [])
        refine Go.of (fun _ k => XS.iconst X97.here hx rfl (hb hby at_292) k) ?_
        show Go p e below W T97 (mkF m 293 #[.val (.int p1), .val (.int p2), .val (.int p3), .val (.int p4), .val (.int p5), .val (.int (2 : Int32)), .val (.ref b71), .val (.int (v0_86 p2 p3 p4 p5 nn)), .val (.int (v0_87 p2 p3 p4 p5 nn)), .val (.int (-1 : Int32)), .val (.int (-1 : Int32)), .val (.int (v0_88 p2 p3 p4 p5 nn)), .val (.int (v0_89 p2 p3 p4 p5 nn)), .val (.int (v0_94 p2 p3 p4 p5 nn)), .val (.ref b95), .val (.int (v0_98 p2 p3 p4 p5 nn))] [(.int (0 : Int32))])
        have u_f0 : (f0 p2 p3 p4 p5 nn) = (0 : Int32) := by rw [f0, if_neg c1, if_pos c2, if_neg c99]
        have fin : Q0 Z p1 p2 p3 p4 p5 nn h0 n0 (some (.int (f0 p2 p3 p4 p5 nn))) T96.heap L96 := ⟨rfl, N, K⟩
        exact Go.retN X97 hx hret (Or.inl rfl) (hb hby at_293) hlk (Eq.trans rfl u_f0.symm) (fun t ht fe => hW t _ _ _ _ (by rw [ht, e97]; exact fin) fe (by decide) (by decide))
    · refine Go.of (fun _ k => XS.icmpYes X0.here hx rfl (pc0 := 28) (pc' := 47) rfl (hb hby at_28) rfl (Jvm.Free.XT.ii_ne_t c2) (by decide) (by decide) k) ?_
      show Go p e below W T0 (mkF m 47 #[.val (.int p1), .val (.int p2), .val (.int p3), .val (.int p4), .val (.int p5), .val (.int nn), .unset, .unset, .unset, .unset, .unset, .unset, .unset, .unset, .unset, .unset] [])
      refine Go.of (fun _ k => XS.iload X0.here hx rfl (hb hby at_47) rfl k) ?_
      show Go p e below W T0 (mkF m 49 #[.val (.int p1), .val (.int p2), .val (.int p3), .val (.int p4), .val (.int p5), .val (.int nn), .unset, .unset, .unset, .unset, .unset, .unset, .unset, .unset, .unset, .unset] [(.int nn)])
      refine Go.of (fun _ k => XS.iconst X0.here hx rfl (hb hby at_49) k) ?_
      show Go p e below W T0 (mkF m 50 #[.val (.int p1), .val (.int p2), .val (.int p3), .val (.int p4), .val (.int p5), .val (.int nn), .unset, .unset, .unset, .unset, .unset, .unset, .unset, .unset, .unset, .unset] [(.int (3 : Int32)), (.int nn)])
      by_cases c3 : nn = (3 : Int32)
      · refine Go.of (fun _ k => XS.icmpNo X0.here hx rfl (hb hby at_50) rfl (Jvm.Free.XT.ii_ne_f c3) k) ?_
        show Go p e below W T0 (mkF m 53 #[.val (.int p1), .val (.int p2), .val (.int p3), .val (.int p4), .val (.int p5), .val (.int nn), .unset, .unset, .unset, .unset, .unset, .unset, .unset, .unset, .unset, .unset] [])
        rw [c3]
        show Go p e below W T0 (mkF m 53 #[.val (.int p1), .val (.int p2), .val (.int p3), .val (.int p4), .val (.int p5), .val (.int (3 : Int32)), .unset, .unset, .unset, .unset, .unset, .unset, .unset, .unset, .unset, .unset] [])
        show Go p e below W T0 (mkF m 53 #[.val (.int p1), .val (.int p2), .val (.int p3), .val (.int p4), .val (.int p5), .val (.int (3 : Int32)), .unset, .unset, .unset, .unset, .unset, .unset, .unset, .unset, .unset, .unset] [])
        refine Go.of (fun _ k => XS.iconst X0.here hx rfl (hb hby at_53) k) ?_
        show Go p e below W T0 (mkF m 54 #[.val (.int p1), .val (.int p2), .val (.int p3), .val (.int p4), .val (.int p5), .val (.int (3 : Int32)), .unset, .unset, .unset, .unset, .unset, .unset, .unset, .unset, .unset, .unset] [(.int (3 : Int32))])
        refine Go.newA X0 hx hZ (hw _ (List.mem_of_getElem? (i := 0) rfl)) rfl rfl rfl e0 (hb hby at_54) (by decide) (cap := 3) (by decide) (by decide) (by decide) (by decide) ?_
        intro T39 h39 b39 zq39 X39 e39 E39 E_b39 A_b39
        have g_b39 : n0 ≤ b39 := by rw [zq39]; exact Z0
        have s_b39 : h0.size ≤ b39 := by rw [zq39]; exact K.1
        have K := K.ext E39
        have Z0 := Nat.le_trans Z0 E39.1
        have A_b39 : AI Z h39 b39 .int 3 (w0_40 p2 p3 p4 p5 nn) := A_b39
        show Go p e below W T39 (mkF m 56 #[.val (.int p1), .val (.int p2), .val (.int p3), .val (.int p4), .val (.int p5), .val (.int (3 : Int32)), .unset, .unset, .unset, .unset, .unset, .unset, .unset, .unset, .unset, .unset] [(.ref b39)])
        refine Go.of (fun _ k => XS.dup X39.here hx rfl (hb hby at_56) rfl rfl k) ?_
        show Go p e below W T39 (mkF m 57 #[.val (.int p1), .val (.int p2), .val (.int p3), .val (.int p4), .val (.int p5), .val (.int (3 : Int32)), .unset, .unset, .unset, .unset, .unset, .unset, .unset, .unset, .unset, .unset] [(.ref b39), (.ref b39)])
        refine Go.of (fun _ k => XS.iconst X39.here hx rfl (hb hby at_57) k) ?_
        show Go p e below W T39 (mkF m 58 #[.val (.int p1), .val (.int p2), .val (.int p3), .val (.int p4), .val (.int p5), .val (.int (3 : Int32)), .unset, .unset, .unset, .unset, .unset, .unset, .unset, .unset, .unset, .unset] [(.int (0 : Int32)), (.ref b39), (.ref b39)])
        refine Go.of (fun _ k => XS.iconst X39.here hx rfl (hb hby at_58) k) ?_
        show Go p e below W T39 (mkF m 59 #[.val (.int p1), .val (.int p2), .val (.int p3), .val (.int p4), .val (.int p5), .val (.int (3 : Int32)), .unset, .unset, .unset, .unset, .unset, .unset, .unset, .unset, .unset, .unset] [(.int (0 : Int32)), (.int (0 : Int32)), (.ref b39), (.ref b39)])
        refine Go.ist X39 hx hZ e39 N g_b39 A_b39 ⟨by decide, by decide⟩ (hb hby at_59) ?_
        intro T41 h41 L41 X41 N e41 W41 A_b39
        have K := K.wr W41 (Or.inr s_b39)
        have Z0 := Nat.le_trans Z0 (Keep.of_wr W41).1
        have A_b39 : AI Z h41 b39 .int 3 (w0_42 p2 p3 p4 p5 nn) := A_b39
        show Go p e below W T41 (mkF m 60 #[.val (.int p1), .val (.int p2), .val (.int p3), .val (.int p4), .val (.int p5), .val (.int (3 : Int32)), .unset, .unset, .unset, .unset, .unset, .unset, .unset, .unset, .unset, .unset] [(.ref b39)])
        refine Go.of (fun _ k => XS.dup X41.here hx rfl (hb hby at_60) rfl rfl k) ?_
        show Go p e below W T41 (mkF m 61 #[.val (.int p1), .val (.int p2), .val (.int p3), .val (.int p4), .val (.int p5), .val (.int (3 : Int32)), .unset, .unset, .unset, .unset, .unset, .unset, .unset, .unset, .unset, .unset] [(.ref b39), (.ref b39)])
        refine Go.of (fun _ k => XS.iconst X41.here hx rfl (hb hby at_61) k) ?_
        show Go p e below W T41 (mkF m 62 #[.val (.int p1), .val (.int p2), .val (.int p3), .val (.int p4), .val (.int p5), .val (.int (3 : Int32)), .unset, .unset, .unset, .unset, .unset, .unset, .unset, .unset, .unset, .unset] [(.int (1 : Int32)), (.ref b39), (.ref b39)])
        refine Go.of (fun _ k => XS.iconst X41.here hx rfl (hb hby at_62) k) ?_
        show Go p e below W T41 (mkF m 63 #[.val (.int p1), .val (.int p2), .val (.int p3), .val (.int p4), .val (.int p5), .val (.int (3 : Int32)), .unset, .unset, .unset, .unset, .unset, .unset, .unset, .unset, .unset, .unset] [(.int (1 : Int32)), (.int (1 : Int32)), (.ref b39), (.ref b39)])
        refine Go.ist X41 hx hZ e41 N g_b39 A_b39 ⟨by decide, by decide⟩ (hb hby at_63) ?_
        intro T43 h43 L43 X43 N e43 W43 A_b39
        have K := K.wr W43 (Or.inr s_b39)
        have Z0 := Nat.le_trans Z0 (Keep.of_wr W43).1
        have A_b39 : AI Z h43 b39 .int 3 (w0_44 p2 p3 p4 p5 nn) := A_b39
        show Go p e below W T43 (mkF m 64 #[.val (.int p1), .val (.int p2), .val (.int p3), .val (.int p4), .val (.int p5), .val (.int (3 : Int32)), .unset, .unset, .unset, .unset, .unset, .unset, .unset, .unset, .unset, .unset] [(.ref b39)])
        refine Go.of (fun _ k => XS.dup X43.here hx rfl (hb hby at_64) rfl rfl k) ?_
        show Go p e below W T43 (mkF m 65 #[.val (.int p1), .val (.int p2), .val (.int p3), .val (.int p4), .val (.int p5), .val (.int (3 : Int32)), .unset, .unset, .unset, .unset, .unset, .unset, .unset, .unset, .unset, .unset] [(.ref b39), (.ref b39)])
        refine Go.of (fun _ k => XS.iconst X43.here hx rfl (hb hby at_65) k) ?_
        show Go p e below W T43 (mkF m 66 #[.val (.int p1), .val (.int p2), .val (.int p3), .val (.int p4), .val (.int p5), .val (.int (3 : Int32)), .unset, .unset, .unset, .unset, .unset, .unset, .unset, .unset, .unset, .unset] [(.int (2 : Int32)), (.ref b39), (.ref b39)])
        refine Go.of (fun _ k => XS.iconst X43.here hx rfl (hb hby at_66) k) ?_
        show Go p e below W T43 (mkF m 67 #[.val (.int p1), .val (.int p2), .val (.int p3), .val (.int p4), .val (.int p5), .val (.int (3 : Int32)), .unset, .unset, .unset, .unset, .unset, .unset, .unset, .unset, .unset, .unset] [(.int (2 : Int32)), (.int (2 : Int32)), (.ref b39), (.ref b39)])
        refine Go.ist X43 hx hZ e43 N g_b39 A_b39 ⟨by decide, by decide⟩ (hb hby at_67) ?_
        intro T45 h45 L45 X45 N e45 W45 A_b39
        have K := K.wr W45 (Or.inr s_b39)
        have Z0 := Nat.le_trans Z0 (Keep.of_wr W45).1
        have A_b39 : AI Z h45 b39 .int 3 (w0_46 p2 p3 p4 p5 nn) := A_b39
        show Go p e below W T45 (mkF m 68 #[.val (.int p1), .val (.int p2), .val (.int p3), .val (.int p4), .val (.int p5), .val (.int (3 : Int32)), .unset, .unset, .unset, .unset, .unset, .unset, .unset, .unset, .unset, .unset] [(.ref b39)])
        refine Go.of (fun _ k => XS.astore X45.here hx rfl (hb hby at_68) rfl rfl (l' := #[.val (.int p1), .val (.int p2), .val (.int p3), .val (.int p4), .val (.int p5), .val (.int (3 : Int32)), .val (.ref b39), .unset, .unset, .unset, .unset, .unset, .unset, .unset, .unset, .unset]) rfl k) ?_
        show Go p e below W T45 (mkF m 70 #[.val (.int p1), .val (.int p2), .val (.int p3), .val (.int p4), .val (.int p5), .val (.int (3 : Int32)), .val (.ref b39), .unset, .unset, .unset, .unset, .unset, .unset, .unset, .unset, .unset] [])
        refine Go.of (fun _ k => XS.goto X45.here hx rfl (pc0 := 70) (pc' := 94) rfl (hb hby at_70) (by decide) (by decide) k) ?_
        show Go p e below W T45 (mkF m 94 #[.val (.int p1), .val (.int p2), .val (.int p3), .val (.int p4), .val (.int p5), .val (.int (3 : Int32)), .val (.ref b39), .unset, .unset, .unset, .unset, .unset, .unset, .unset, .unset, .unset] [])
        refine Go.of (fun _ k => XS.aload X45.here hx rfl (hb hby at_94) rfl rfl k) ?_
        show Go p e below W T45 (mkF m 96 #[.val (.int p1), .val (.int p2), .val (.int p3), .val (.int p4), .val (.int p5), .val (.int (3 : Int32)), .val (.ref b39), .unset, .unset, .unset, .unset, .unset, .unset, .unset, .unset, .unset] [(.ref b39)])
        refine Go.of (fun _ k => XS.iloadN X45.here hx rfl (hb hby at_96) rfl k) ?_
        show Go p e below W T45 (mkF m 97 #[.val (.int p1), .val (.int p2), .val (.int p3), .val (.int p4), .val (.int p5), .val (.int (3 : Int32)), .val (.ref b39), .unset, .unset, .unset, .unset, .unset, .unset, .unset, .unset, .unset] [(.int p3), (.ref b39)])
        refine Go.of (fun _ k => XS.iload X45.here hx rfl (hb hby at_97) rfl k) ?_
        show Go p e below W T45 (mkF m 99 #[.val (.int p1), .val (.int p2), .val (.int p3), .val (.int p4), .val (.int p5), .val (.int (3 : Int32)), .val (.ref b39), .unset, .unset, .unset, .unset, .unset, .unset, .unset, .unset, .unset] [(.int (3 : Int32)), (.int p3), (.ref b39)])
        refine Go.callP X45 hx hZ hown (hw _ (List.mem_of_getElem? (i := 1) rfl)) (hw _ (List.mem_of_getElem? (i := 2) rfl)) (hw _ (List.mem_of_getElem? (i := 3) rfl)) (hw _ (List.mem_of_getElem? (i := 4) rfl)) (by decide) e45 (rm1 l Z a0 hw [] p3 (3 : Int32) h45 (by decide)) (V := 1) (by decide) (by decide) rfl rfl (by decide) (by decide) (by rw [hml]; rfl) (argsL := [(.int p3), (.int (3 : Int32))]) (rest := [(.ref b39)]) rfl (lenOf pd__II_I rfl) rfl (Nat.le_of_ble_eq_true rfl) (hb hby at_99) ?_
        intro T47 X47 e47
        show Go p e below W T47 (mkF m 102 #[.val (.int p1), .val (.int p2), .val (.int p3), .val (.int p4), .val (.int p5), .val (.int (3 : Int32)), .val (.ref b39), .unset, .unset, .unset, .unset, .unset, .unset, .unset, .unset, .unset] [(.int (f1 p3 (3 : Int32))), (.ref b39)])
        refine Go.of (fun _ k => XS.iloadN X47.here hx rfl (hb hby at_102) rfl k) ?_
        show Go p e below W T47 (mkF m 103 #[.val (.int p1), .val (.int p2), .val (.int p3), .val (.int p4), .val (.int p5), .val (.int (3 : Int32)), .val (.ref b39), .unset, .unset, .unset, .unset, .unset, .unset, .unset, .unset, .unset] [(.int p3), (.int (f1 p3 (3 : Int32))), (.ref b39)])
        refine Go.of (fun _ k => XS.iload X47.here hx rfl (hb hby at_103) rfl k) ?_
        show Go p e below W T47 (mkF m 105 #[.val (.int p1), .val (.int p2), .val (.int p3), .val (.int p4), .val (.int p5), .val (.int (3 : Int32)), .val (.ref b39), .unset, .unset, .unset, .unset, .unset, .unset, .unset, .unset, .unset] [(.int (3 : Int32)), (.int p3), (.int (f1 p3 (3 : Int32))), (.ref b39)])
        refine Go.callP X47 hx hZ hown (hw _ (List.mem_of_getElem? (i := 5) rfl)) (hw _ (List.mem_of_getElem? (i := 6) rfl)) (hw _ (List.mem_of_getElem? (i := 3) rfl)) (hw _ (List.mem_of_getElem? (i := 7) rfl)) (by decide) e47 (rm2 l Z a0 hw [] p3 (3 : Int32) h45 (by decide)) (V := 2) (by decide) (by decide) rfl rfl (by decide) (by decide) (by rw [hml]; rfl) (argsL := [(.int p3), (.int (3 : Int32))]) (rest := [(.int (f1 p3 (3 : Int32))), (.ref b39)]) rfl (lenOf pd__II_I rfl) rfl (Nat.le_of_ble_eq_true rfl) (hb hby at_105) ?_
        intro T48 X48 e48
        show Go p e below W T48 (mkF m 108 #[.val (.int p1), .val (.int p2), .val (.int p3), .val (.int p4), .val (.int p5), .val (.int (3 : Int32)), .val (.ref b39), .unset, .unset, .unset, .unset, .unset, .unset, .unset, .unset, .unset] [(.int (f2 p3 (3 : Int32))), (.int (f1 p3 (3 : Int32))), (.ref b39)])
        refine Go.callS X48 hx hZ hown (hw _ (List.mem_of_getElem? (i := 8) rfl)) (hw _ (List.mem_of_getElem? (i := 9) rfl)) (hw _ (List.mem_of_getElem? (i := 3) rfl)) (hw _ (List.mem_of_getElem? (i := 10) rfl)) (by decide) e48 (rm3 l Z a0 hw [] b39 (f1 p3 (3 : Int32)) (f2 p3 (3 : Int32)) (w0_46 p2 p3 p4 p5 nn) (3 : Nat) h45 n0 Z0 A_b39 g_b39 (own_lo3 _) (own_hi3 _)) (V := 0) (by decide) (by decide) (by decide) (by decide) (by rw [hml]; rfl) (argsL := [(.ref b39), (.int (f1 p3 (3 : Int32))), (.int (f2 p3 (3 : Int32)))]) (rest := []) rfl (lenOf pd___III_V rfl) rfl (Nat.le_of_ble_eq_true rfl) (hb hby at_108) ?_
        rintro T49 _ M49 ⟨rfl, N49, K49, A_b39⟩ X49
        obtain ⟨L49, zq49⟩ : ∃ z, z = L45 ++ M49 := ⟨_, rfl⟩
        have N := Fr.app N N49
        rw [← zq49] at X49 N
        have K := K.trans K49 (by
          intro x hx
          simp only [List.mem_cons, List.not_mem_nil, or_false] at hx
          rcases hx with rfl
          · exact Or.inr s_b39)
        have Z0 := Nat.le_trans Z0 K49.1
        show Go p e below W T49 (mkF m 111 #[.val (.int p1), .val (.int p2), .val (.int p3), .val (.int p4), .val (.int p5), .val (.int (3 : Int32)), .val (.ref b39), .unset, .unset, .unset, .unset, .unset, .unset, .unset, .unset, .unset] [])
        refine Go.of (fun _ k => XS.aload X49.here hx rfl (hb hby at_111) rfl rfl k) ?_
        show Go p e below W T49 (mkF m 113 #[.val (.int p1), .val (.int p2), .val (.int p3), .val (.int p4), .val (.int p5), .val (.int (3 : Int32)), .val (.ref b39), .unset, .unset, .unset, .unset, .unset, .unset, .unset, .unset, .unset] [(.ref b39)])
        refine Go.of (fun _ k => XS.iloadN X49.here hx rfl (hb hby at_113) rfl k) ?_
        show Go p e below W T49 (mkF m 114 #[.val (.int p1), .val (.int p2), .val (.int p3), .val (.int p4), .val (.int p5), .val (.int (3 : Int32)), .val (.ref b39), .unset, .unset, .unset, .unset, .unset, .unset, .unset, .unset, .unset] [(.int p4), (.ref b39)])
        refine Go.of (fun _ k => XS.iload X49.here hx rfl (hb hby at_114) rfl k) ?_
        show Go p e below W T49 (mkF m 116 #[.val (.int p1), .val (.int p2), .val (.int p3), .val (.int p4), .val (.int p5), .val (.int (3 : Int32)), .val (.ref b39), .unset, .unset, .unset, .unset, .unset, .unset, .unset, .unset, .unset] [(.int (3 : Int32)), (.int p4), (.ref b39)])
        refine Go.callP X49 hx hZ hown (hw _ (List.mem_of_getElem? (i := 1) rfl)) (hw _ (List.mem_of_getElem? (i := 2) rfl)) (hw _ (List.mem_of_getElem? (i := 3) rfl)) (hw _ (List.mem_of_getElem? (i := 4) rfl)) (by decide) rfl (rm1 l Z a0 hw [] p4 (3 : Int32) T49.heap (by decide)) (V := 1) (by decide) (by decide) rfl rfl (by decide) (by decide) (by rw [hml]; rfl) (argsL := [(.int p4), (.int (3 : Int32))]) (rest := [(.ref b39)]) rfl (lenOf pd__II_I rfl) rfl (Nat.le_of_ble_eq_true rfl) (hb hby at_116) ?_
        intro T50 X50 e50
        show Go p e below W T50 (mkF m 119 #[.val (.int p1), .val (.int p2), .val (.int p3), .val (.int p4), .val (.int p5), .val (.int (3 : Int32)), .val (.ref b39), .unset, .unset, .unset, .unset, .unset, .unset, .unset, .unset, .unset] [(.int (f1 p4 (3 : Int32))), (.ref b39)])
        refine Go.of (fun _ k => XS.iloadN X50.here hx rfl (hb hby at_119) rfl k) ?_
        show Go p e below W T50 (mkF m 120 #[.val (.int p1), .val (.int p2), .val (.int p3), .val (.int p4), .val (.int p5), .val (.int (3 : Int32)), .val (.ref b39), .unset, .unset, .unset, .unset, .unset, .unset, .unset, .unset, .unset] [(.int p4), (.int (f1 p4 (3 : Int32))), (.ref b39)])
        refine Go.of (fun _ k => XS.iload X50.here hx rfl (hb hby at_120) rfl k) ?_
        show Go p e below W T50 (mkF m 122 #[.val (.int p1), .val (.int p2), .val (.int p3), .val (.int p4), .val (.int p5), .val (.int (3 : Int32)), .val (.ref b39), .unset, .unset, .unset, .unset, .unset, .unset, .unset, .unset, .unset] [(.int (3 : Int32)), (.int p4), (.int (f1 p4 (3 : Int32))), (.ref b39)])
        refine Go.callP X50 hx hZ hown (hw _ (List.mem_of_getElem? (i := 5) rfl)) (hw _ (List.mem_of_getElem? (i := 6) rfl)) (hw _ (List.mem_of_getElem? (i := 3) rfl)) (hw _ (List.mem_of_getElem? (i := 7) rfl)) (by decide) e50 (rm2 l Z a0 hw [] p4 (3 : Int32) T49.heap (by decide)) (V := 2) (by decide) (by decide) rfl rfl (by decide) (by decide) (by rw [hml]; rfl) (argsL := [(.int p4), (.int (3 : Int32))]) (rest := [(.int (f1 p4 (3 : Int32))), (.ref b39)]) rfl (lenOf pd__II_I rfl) rfl (Nat.le_of_ble_eq_true rfl) (hb hby at_122) ?_
        intro T51 X51 e51
        show Go p e below W T51 (mkF m 125 #[.val (.int p1), .val (.int p2), .val (.int p3), .val (.int p4), .val (.int p5), .val (.int (3 : Int32)), .val (.ref b39), .unset, .unset, .unset, .unset, .unset, .unset, .unset, .unset, .unset] [(.int (f2 p4 (3 : Int32))), (.int (f1 p4 (3 : Int32))), (.ref b39)])
        refine Go.callS X51 hx hZ hown (hw _ (List.mem_of_getElem? (i := 8) rfl)) (hw _ (List.mem_of_getElem? (i := 9) rfl)) (hw _ (List.mem_of_getElem? (i := 3) rfl)) (hw _ (List.mem_of_getElem? (i := 10) rfl)) (by decide) e51 (rm3 l Z a0 hw [] b39 (f1 p4 (3 : Int32)) (f2 p4 (3 : Int32)) (f3_a1 (f1 p3 (3 : Int32)) (f2 p3 (3 : Int32)) (w0_46 p2 p3 p4 p5 nn) (3 : Nat)) (3 : Nat) T49.heap n0 Z0 A_b39 g_b39 (own_lo3 _) (own_hi3 _)) (V := 0) (by decide) (by decide) (by decide) (by decide) (by rw [hml]; rfl) (argsL := [(.ref b39), (.int (f1 p4 (3 : Int32))), (.int (f2 p4 (3 : Int32)))]) (rest := []) rfl (lenOf pd___III_V rfl) rfl (Nat.le_of_ble_eq_true rfl) (hb hby at_125) ?_
        rintro T52 _ M52 ⟨rfl, N52, K52, A_b39⟩ X52
        obtain ⟨L52, zq52⟩ : ∃ z, z = L49 ++ M52 := ⟨_, rfl⟩
        have N := Fr.app N N52
        rw [← zq52] at X52 N
        have K := K.trans K52 (by
          intro x hx
          simp only [List.mem_cons, List.not_mem_nil, or_false] at hx
          rcases hx with rfl
          · exact Or.inr s_b39)
        have Z0 := Nat.le_trans Z0 K52.1
        show Go p e below W T52 (mkF m 128 #[.val (.int p1), .val (.int p2), .val (.int p3), .val (.int p4), .val (.int p5), .val (.int (3 : Int32)), .val (.ref b39), .unset, .unset, .unset, .unset, .unset, .unset, .unset, .unset, .unset] [])
        refine Go.of (fun _ k => XS.aload X52.here hx rfl (hb hby at_128) rfl rfl k) ?_
        show Go p e below W T52 (mkF m 130 #[.val (.int p1), .val (.int p2), .val (.int p3), .val (.int p4), .val (.int p5), .val (.int (3 : Int32)), .val (.ref b39), .unset, .unset, .unset, .unset, .unset, .unset, .unset, .unset, .unset] [(.ref b39)])
        refine Go.of (fun _ k => XS.iload X52.here hx rfl (hb hby at_130) rfl k) ?_
        show Go p e below W T52 (mkF m 132 #[.val (.int p1), .val (.int p2), .val (.int p3), .val (.int p4), .val (.int p5), .val (.int (3 : Int32)), .val (.ref b39), .unset, .unset, .unset, .unset, .unset, .unset, .unset, .unset, .unset] [(.int p5), (.ref b39)])
        refine Go.of (fun _ k => XS.iload X52.here hx rfl (hb hby at_132) rfl k) ?_
        show Go p e below W T52 (mkF m 134 #[.val (.int p1), .val (.int p2), .val (.int p3), .val (.int p4), .val (.int p5), .val (.int (3 : Int32)), .val (.ref b39), .unset, .unset, .unset, .unset, .unset, .unset, .unset, .unset, .unset] [(.int (3 : Int32)), (.int p5), (.ref b39)])
        refine Go.callP X52 hx hZ hown (hw _ (List.mem_of_getElem? (i := 1) rfl)) (hw _ (List.mem_of_getElem? (i := 2) rfl)) (hw _ (List.mem_of_getElem? (i := 3) rfl)) (hw _ (List.mem_of_getElem? (i := 4) rfl)) (by decide) rfl (rm1 l Z a0 hw [] p5 (3 : Int32) T52.heap (by decide)) (V := 1) (by decide) (by decide) rfl rfl (by decide) (by decide) (by rw [hml]; rfl) (argsL := [(.int p5), (.int (3 : Int32))]) (rest := [(.ref b39)]) rfl (lenOf pd__II_I rfl) rfl (Nat.le_of_ble_eq_true rfl) (hb hby at_134) ?_
        intro T53 X53 e53
        show Go p e below W T53 (mkF m 137 #[.val (.int p1), .val (.int p2), .val (.int p3), .val (.int p4), .val (.int p5), .val (.int (3 : Int32)), .val (.ref b39), .unset, .unset, .unset, .unset, .unset, .unset, .unset, .unset, .unset] [(.int (f1 p5 (3 : Int32))), (.ref b39)])
        refine Go.of (fun _ k => XS.iload X53.here hx rfl (hb hby at_137) rfl k) ?_
        show Go p e below W T53 (mkF m 139 #[.val (.int p1), .val (.int p2), .val (.int p3), .val (.int p4), .val (.int p5), .val (.int (3 : Int32)), .val (.ref b39), .unset, .unset, .unset, .unset, .unset, .unset, .unset, .unset, .unset] [(.int p5), (.int (f1 p5 (3 : Int32))), (.ref b39)])
        refine Go.of (fun _ k => XS.iload X53.here hx rfl (hb hby at_139) rfl k) ?_
        show Go p e below W T53 (mkF m 141 #[.val (.int p1), .val (.int p2), .val (.int p3), .val (.int p4), .val (.int p5), .val (.int (3 : Int32)), .val (.ref b39), .unset, .unset, .unset, .unset, .unset, .unset, .unset, .unset, .unset] [(.int (3 : Int32)), (.int p5), (.int (f1 p5 (3 : Int32))), (.ref b39)])
        refine Go.callP X53 hx hZ hown (hw _ (List.mem_of_getElem? (i := 5) rfl)) (hw _ (List.mem_of_getElem? (i := 6) rfl)) (hw _ (List.mem_of_getElem? (i := 3) rfl)) (hw _ (List.mem_of_getElem? (i := 7) rfl)) (by decide) e53 (rm2 l Z a0 hw [] p5 (3 : Int32) T52.heap (by decide)) (V := 2) (by decide) (by decide) rfl rfl (by decide) (by decide) (by rw [hml]; rfl) (argsL := [(.int p5), (.int (3 : Int32))]) (rest := [(.int (f1 p5 (3 : Int32))), (.ref b39)]) rfl (lenOf pd__II_I rfl) rfl (Nat.le_of_ble_eq_true rfl) (hb hby at_141) ?_
        intro T54 X54 e54
        show Go p e below W T54 (mkF m 144 #[.val (.int p1), .val (.int p2), .val (.int p3), .val (.int p4), .val (.int p5), .val (.int (3 : Int32)), .val (.ref b39), .unset, .unset, .unset, .unset, .unset, .unset, .unset, .unset, .unset] [(.int (f2 p5 (3 : Int32))), (.int (f1 p5 (3 : Int32))), (.ref b39)])
        refine Go.callS X54 hx hZ hown (hw _ (List.mem_of_getElem? (i := 8) rfl)) (hw _ (List.mem_of_getElem? (i := 9) rfl)) (hw _ (List.mem_of_getElem? (i := 3) rfl)) (hw _ (List.mem_of_getElem? (i := 10) rfl)) (by decide) e54 (rm3 l Z a0 hw [] b39 (f1 p5 (3 : Int32)) (f2 p5 (3 : Int32)) (f3_a1 (f1 p4 (3 : Int32)) (f2 p4 (3 : Int32)) (f3_a1 (f1 p3 (3 : Int32)) (f2 p3 (3 : Int32)) (w0_46 p2 p3 p4 p5 nn) (3 : Nat)) (3 : Nat)) (3 : Nat) T52.heap n0 Z0 A_b39 g_b39 (own_lo3 _) (own_hi3 _)) (V := 0) (by decide) (by decide) (by decide) (by decide) (by rw [hml]; rfl) (argsL := [(.ref b39), (.int (f1 p5 (3 : Int32))), (.int (f2 p5 (3 : Int32)))]) (rest := []) rfl (lenOf pd___III_V rfl) rfl (Nat.le_of_ble_eq_true rfl) (hb hby at_144) ?_
        rintro T55 _ M55 ⟨rfl, N55, K55, A_b39⟩ X55
        obtain ⟨L55, zq55⟩ : ∃ z, z = L52 ++ M55 := ⟨_, rfl⟩
        have N := Fr.app N N55
        rw [← zq55] at X55 N
        have K := K.trans K55 (by
          intro x hx
          simp only [List.mem_cons, List.not_mem_nil, or_false] at hx
          rcases hx with rfl
          · exact Or.inr s_b39)
        have Z0 := Nat.le_trans Z0 K55.1
        show Go p e below W T55 (mkF m 147 #[.val (.int p1), .val (.int p2), .val (.int p3), .val (.int p4), .val (.int p5), .val (.int (3 : Int32)), .val (.ref b39), .unset, .unset, .unset, .unset, .unset, .unset, .unset, .unset, .unset] [])
        refine Go.of (fun _ k => XS.aload X55.here hx rfl (hb hby at_147) rfl rfl k) ?_
        show Go p e below W T55 (mkF m 149 #[.val (.int p1), .val (.int p2), .val (.int p3), .val (.int p4), .val (.int p5), .val (.int (3 : Int32)), .val (.ref b39), .unset, .unset, .unset, .unset, .unset, .unset, .unset, .unset, .unset] [(.ref b39)])
        refine Go.of (fun _ k => XS.iconst X55.here hx rfl (hb hby at_149) k) ?_
        show Go p e below W T55 (mkF m 150 #[.val (.int p1), .val (.int p2), .val (.int p3), .val (.int p4), .val (.int p5), .val (.int (3 : Int32)), .val (.ref b39), .unset, .unset, .unset, .unset, .unset, .unset, .unset, .unset, .unset] [(.int (0 : Int32)), (.ref b39)])
        refine Go.iald X55 hx hZ rfl A_b39 ⟨by decide, by decide⟩ (hb hby at_150) ?_
        show Go p e below W T55 (mkF m 151 #[.val (.int p1), .val (.int p2), .val (.int p3), .val (.int p4), .val (.int p5), .val (.int (3 : Int32)), .val (.ref b39), .unset, .unset, .unset, .unset, .unset, .unset, .unset, .unset, .unset] [(.int ((f3_a1 (f1 p5 (3 : Int32)) (f2 p5 (3 : Int32)) (f3_a1 (f1 p4 (3 : Int32)) (f2 p4 (3 : Int32)) (f3_a1 (f1 p3 (3 : Int32)) (f2 p3 (3 : Int32)) (w0_46 p2 p3 p4 p5 nn) (3 : Nat)) (3 : Nat)) (3 : Nat)) 0))])
        refine Go.of (fun _ k => XS.istore X55.here hx rfl (hb hby at_151) rfl (l' := #[.val (.int p1), .val (.int p2), .val (.int p3), .val (.int p4), .val (.int p5), .val (.int (3 : Int32)), .val (.ref b39), .val (.int (v0_56 p2 p3 p4 p5 nn)), .unset, .unset, .unset, .unset, .unset, .unset, .unset, .unset]) rfl k) ?_
        show Go p e below W T55 (mkF m 153 #[.val (.int p1), .val (.int p2), .val (.int p3), .val (.int p4), .val (.int p5), .val (.int (3 : Int32)), .val (.ref b39), .val (.int (v0_56 p2 p3 p4 p5 nn)), .unset, .unset, .unset, .unset, .unset, .unset, .unset, .unset] [])
        refine Go.of (fun _ k => XS.iload X55.here hx rfl (hb hby at_153) rfl k) ?_
        show Go p e below W T55 (mkF m 155 #[.val (.int p1), .val (.int p2), .val (.int p3), .val (.int p4), .val (.int p5), .val (.int (3 : Int32)), .val (.ref b39), .val (.int (v0_56 p2 p3 p4 p5 nn)), .unset, .unset, .unset, .unset, .unset, .unset, .unset, .unset] [(.int (3 : Int32))])
        refine Go.of (fun _ k => XS.iconst X55.here hx rfl (hb hby at_155) k) ?_
        show Go p e below W T55 (mkF m 156 #[.val (.int p1), .val (.int p2), .val (.int p3), .val (.int p4), .val (.int p5), .val (.int (3 : Int32)), .val (.ref b39), .val (.int (v0_56 p2 p3 p4 p5 nn)), .unset, .unset, .unset, .unset, .unset, .unset, .unset, .unset] [(.int (1 : Int32)), (.int (3 : Int32))])
        refine Go.of (fun _ k => XS.icmpNo X55.here hx rfl (hb hby at_156) rfl (Jvm.Free.XT.ii_le_f (by decide)) k) ?_
        show Go p e below W T55 (mkF m 159 #[.val (.int p1), .val (.int p2), .val (.int p3), .val (.int p4), .val (.int p5), .val (.int (3 : Int32)), .val (.ref b39), .val (.int (v0_56 p2 p3 p4 p5 nn)), .unset, .unset, .unset, .unset, .unset, .unset, .unset, .unset] [])
        refine Go.of (fun _ k => XS.aload X55.here hx rfl (hb hby at_159) rfl rfl k) ?_
        show Go p e below W T55 (mkF m 161 #[.val (.int p1), .val (.int p2), .val (.int p3), .val (.int p4), .val (.int p5), .val (.int (3 : Int32)), .val (.ref b39), .val (.int (v0_56 p2 p3 p4 p5 nn)), .unset, .unset, .unset, .unset, .unset, .unset, .unset, .unset] [(.ref b39)])
        refine Go.of (fun _ k => XS.iconst X55.here hx rfl (hb hby at_161) k) ?_
        show Go p e below W T55 (mkF m 162 #[.val (.int p1), .val (.int p2), .val (.int p3), .val (.int p4), .val (.int p5), .val (.int (3 : Int32)), .val (.ref b39), .val (.int (v0_56 p2 p3 p4 p5 nn)), .unset, .unset, .unset, .unset, .unset, .unset, .unset, .unset] [(.int (1 : Int32)), (.ref b39)])
        refine Go.iald X55 hx hZ rfl A_b39 ⟨by decide, by decide⟩ (hb hby at_162) ?_
        show Go p e below W T55 (mkF m 163 #[.val (.int p1), .val (.int p2), .val (.int p3), .val (.int p4), .val (.int p5), .val (.int (3 : Int32)), .val (.ref b39), .val (.int (v0_56 p2 p3 p4 p5 nn)), .unset, .unset, .unset, .unset, .unset, .unset, .unset, .unset] [(.int ((f3_a1 (f1 p5 (3 : Int32)) (f2 p5 (3 : Int32)) (f3_a1 (f1 p4 (3 : Int32)) (f2 p4 (3 : Int32)) (f3_a1 (f1 p3 (3 : Int32)) (f2 p3 (3 : Int32)) (w0_46 p2 p3 p4 p5 nn) (3 : Nat)) (3 : Nat)) (3 : Nat)) 1))])
        refine Go.of (fun _ k => XS.goto X55.here hx rfl (pc0 := 163) (pc' := 167) rfl (hb hby at_163) (by decide) (by decide) k) ?_
        show Go p e below W T55 (mkF m 167 #[.val (.int p1), .val (.int p2), .val (.int p3), .val (.int p4), .val (.int p5), .val (.int (3 : Int32)), .val (.ref b39), .val (.int (v0_56 p2 p3 p4 p5 nn)), .unset, .unset, .unset, .unset, .unset, .unset, .unset, .unset] [(.int ((f3_a1 (f1 p5 (3 : Int32)) (f2 p5 (3 : Int32)) (f3_a1 (f1 p4 (3 : Int32)) (f2 p4 (3 : Int32)) (f3_a1 (f1 p3 (3 : Int32)) (f2 p3 (3 : Int32)) (w0_46 p2 p3 p4 p5 nn) (3 : Nat)) (3 : Nat)) (3 : Nat)) 1))])
        refine Go.of (fun _ k => XS.istore X55.here hx rfl (hb hby at_167) rfl (l' := #[.val (.int p1), .val (.int p2), .val (.int p3), .val (.int p4), .val (.int p5), .val (.int (3 : Int32)), .val (.ref b39), .val (.int (v0_56 p2 p3 p4 p5 nn)), .val (.int (v0_57 p2 p3 p4 p5 nn)), .unset, .unset, .unset, .unset, .unset, .unset, .unset]) rfl k) ?_
        show Go p e below W T55 (mkF m 169 #[.val (.int p1), .val (.int p2), .val (.int p3), .val (.int p4), .val (.int p5), .val (.int (3 : Int32)), .val (.ref b39), .val (.int (v0_56 p2 p3 p4 p5 nn)), .val (.int (v0_57 p2 p3 p4 p5 nn)), .unset, .unset, .unset, .unset, .unset, .unset, .unset] [])
        refine Go.of (fun _ k => XS.iload X55.here hx rfl (hb hby at_169) rfl k) ?_
        show Go p e below W T55 (mkF m 171 #[.val (.int p1), .val (.int p2), .val (.int p3), .val (.int p4), .val (.int p5), .val (.int (3 : Int32)), .val (.ref b39), .val (.int (v0_56 p2 p3 p4 p5 nn)), .val (.int (v0_57 p2 p3 p4 p5 nn)), .unset, .unset, .unset, .unset, .unset, .unset, .unset] [(.int (3 : Int32))])
        refine Go.of (fun _ k => XS.iconst X55.here hx rfl (hb hby at_171) k) ?_
        show Go p e below W T55 (mkF m 172 #[.val (.int p1), .val (.int p2), .val (.int p3), .val (.int p4), .val (.int p5), .val (.int (3 : Int32)), .val (.ref b39), .val (.int (v0_56 p2 p3 p4 p5 nn)), .val (.int (v0_57 p2 p3 p4 p5 nn)), .unset, .unset, .unset, .unset, .unset, .unset, .unset] [(.int (2 : Int32)), (.int (3 : Int32))])
        refine Go.of (fun _ k => XS.icmpNo X55.here hx rfl (hb hby at_172) rfl (Jvm.Free.XT.ii_le_f (by decide)) k) ?_
        show Go p e below W T55 (mkF m 175 #[.val (.int p1), .val (.int p2), .val (.int p3), .val (.int p4), .val (.int p5), .val (.int (3 : Int32)), .val (.ref b39), .val (.int (v0_56 p2 p3 p4 p5 nn)), .val (.int (v0_57 p2 p3 p4 p5 nn)), .unset, .unset, .unset, .unset, .unset, .unset, .unset] [])
        refine Go.of (fun _ k => XS.aload X55.here hx rfl (hb hby at_175) rfl rfl k) ?_
        show Go p e below W T55 (mkF m 177 #[.val (.int p1), .val (.int p2), .val (.int p3), .val (.int p4), .val (.int p5), .val (.int (3 : Int32)), .val (.ref b39), .val (.int (v0_56 p2 p3 p4 p5 nn)), .val (.int (v0_57 p2 p3 p4 p5 nn)), .unset, .unset, .unset, .unset, .unset, .unset, .unset] [(.ref b39)])
        refine Go.of (fun _ k => XS.iconst X55.here hx rfl (hb hby at_177) k) ?_
        show Go p e below W T55 (mkF m 178 #[.val (.int p1), .val (.int p2), .val (.int p3), .val (.int p4), .val (.int p5), .val (.int (3 : Int32)), .val (.ref b39), .val (.int (v0_56 p2 p3 p4 p5 nn)), .val (.int (v0_57 p2 p3 p4 p5 nn)), .unset, .unset, .unset, .unset, .unset, .unset, .unset] [(.int (2 : Int32)), (.ref b39)])
        refine Go.iald X55 hx hZ rfl A_b39 ⟨by decide, by decide⟩ (hb hby at_178) ?_
        show Go p e below W T55 (mkF m 179 #[.val (.int p1), .val (.int p2), .val (.int p3), .val (.int p4), .val (.int p5), .val (.int (3 : Int32)), .val (.ref b39), .val (.int (v0_56 p2 p3 p4 p5 nn)), .val (.int (v0_57 p2 p3 p4 p5 nn)), .unset, .unset, .unset, .unset, .unset, .unset, .unset] [(.int ((f3_a1 (f1 p5 (3 : Int32)) (f2 p5 (3 : Int32)) (f3_a1 (f1 p4 (3 : Int32)) (f2 p4 (3 : Int32)) (f3_a1 (f1 p3 (3 : Int32)) (f2 p3 (3 : Int32)) (w0_46 p2 p3 p4 p5 nn) (3 : Nat)) (3 : Nat)) (3 : Nat)) 2))])
        refine Go.of (fun _ k => XS.goto X55.here hx rfl (pc0 := 179) (pc' := 183) rfl (hb hby at_179) (by decide) (by decide) k) ?_
        show Go p e below W T55 (mkF m 183 #[.val (.int p1), .val (.int p2), .val (.int p3), .val (.int p4), .val (.int p5), .val (.int (3 : Int32)), .val (.ref b39), .val (.int (v0_56 p2 p3 p4 p5 nn)), .val (.int (v0_57 p2 p3 p4 p5 nn)), .unset, .unset, .unset, .unset, .unset, .unset, .unset] [(.int ((f3_a1 (f1 p5 (3 : Int32)) (f2 p5 (3 : Int32)) (f3_a1 (f1 p4 (3 : Int32)) (f2 p4 (3 : Int32)) (f3_a1 (f1 p3 (3 : Int32)) (f2 p3 (3 : Int32)) (w0_46 p2 p3 p4 p5 nn) (3 : Nat)) (3 : Nat)) (3 : Nat)) 2))])
        refine Go.of (fun _ k => XS.istore X55.here hx rfl (hb hby at_183) rfl (l' := #[.val (.int p1), .val (.int p2), .val (.int p3), .val (.int p4), .val (.int p5), .val (.int (3 : Int32)), .val (.ref b39), .val (.int (v0_56 p2 p3 p4 p5 nn)), .val (.int (v0_57 p2 p3 p4 p5 nn)), .val (.int (v0_58 p2 p3 p4 p5 nn)), .unset, .unset, .unset, .unset, .unset, .unset]) rfl k) ?_
        show Go p e below W T55 (mkF m 185 #[.val (.int p1), .val (.int p2), .val (.int p3), .val (.int p4), .val (.int p5), .val (.int (3 : Int32)), .val (.ref b39), .val (.int (v0_56 p2 p3 p4 p5 nn)), .val (.int (v0_57 p2 p3 p4 p5 nn)), .val (.int (v0_58 p2 p3 p4 p5 nn)), .unset, .unset, .unset, .unset, .unset, .unset] [])
        refine Go.of (fun _ k => XS.iload X55.here hx rfl (hb hby at_185) rfl k) ?_
        show Go p e below W T55 (mkF m 187 #[.val (.int p1), .val (.int p2), .val (.int p3), .val (.int p4), .val (.int p5), .val (.int (3 : Int32)), .val (.ref b39), .val (.int (v0_56 p2 p3 p4 p5 nn)), .val (.int (v0_57 p2 p3 p4 p5 nn)), .val (.int (v0_58 p2 p3 p4 p5 nn)), .unset, .unset, .unset, .unset, .unset, .unset] [(.int (3 : Int32))])
        refine Go.of (fun _ k => XS.iconst X55.here hx rfl (hb hby at_187) k) ?_
        show Go p e below W T55 (mkF m 188 #[.val (.int p1), .val (.int p2), .val (.int p3), .val (.int p4), .val (.int p5), .val (.int (3 : Int32)), .val (.ref b39), .val (.int (v0_56 p2 p3 p4 p5 nn)), .val (.int (v0_57 p2 p3 p4 p5 nn)), .val (.int (v0_58 p2 p3 p4 p5 nn)), .unset, .unset, .unset, .unset, .unset, .unset] [(.int (3 : Int32)), (.int (3 : Int32))])
        refine Go.of (fun _ k => XS.icmpYes X55.here hx rfl (pc0 := 188) (pc' := 198) rfl (hb hby at_188) rfl (Jvm.Free.XT.ii_le_t (by decide)) (by decide) (by decide) k) ?_
        show Go p e below W T55 (mkF m 198 #[.val (.int p1), .val (.int p2), .val (.int p3), .val (.int p4), .val (.int p5), .val (.int (3 : Int32)), .val (.ref b39), .val (.int (v0_56 p2 p3 p4 p5 nn)), .val (.int (v0_57 p2 p3 p4 p5 nn)), .val (.int (v0_58 p2 p3 p4 p5 nn)), .unset, .unset, .unset, .unset, .unset, .unset] [])
        refine Go.of (fun _ k => XS.iconst X55.here hx rfl (hb hby at_198) k) ?_
        show Go p e below W T55 (mkF m 199 #[.val (.int p1), .val (.int p2), .val (.int p3), .val (.int p4), .val (.int p5), .val (.int (3 : Int32)), .val (.ref b39), .val (.int (v0_56 p2 p3 p4 p5 nn)), .val (.int (v0_57 p2 p3 p4 p5 nn)), .val (.int (v0_58 p2 p3 p4 p5 nn)), .unset, .unset, .unset, .unset, .unset, .unset] [(.int (-1 : Int32))])
        refine Go.of (fun _ k => XS.istore X55.here hx rfl (hb hby at_199) rfl (l' := #[.val (.int p1), .val (.int p2), .val (.int p3), .val (.int p4), .val (.int p5), .val (.int (3 : Int32)), .val (.ref b39), .val (.int (v0_56 p2 p3 p4 p5 nn)), .val (.int (v0_57 p2 p3 p4 p5 nn)), .val (.int (v0_58 p2 p3 p4 p5 nn)), .val (.int (-1 : Int32)), .unset, .unset, .unset, .unset, .unset]) rfl k) ?_
        show Go p e below W T55 (mkF m 201 #[.val (.int p1), .val (.int p2), .val (.int p3), .val (.int p4), .val (.int p5), .val (.int (3 : Int32)), .val (.ref b39), .val (.int (v0_56 p2 p3 p4 p5 nn)), .val (.int (v0_57 p2 p3 p4 p5 nn)), .val (.int (v0_58 p2 p3 p4 p5 nn)), .val (.int (-1 : Int32)), .unset, .unset, .unset, .unset, .unset] [])
        refine Go.of (fun _ k => XS.iloadN X55.here hx rfl (hb hby at_201) rfl k) ?_
        show Go p e below W T55 (mkF m 202 #[.val (.int p1), .val (.int p2), .val (.int p3), .val (.int p4), .val (.int p5), .val (.int (3 : Int32)), .val (.ref b39), .val (.int (v0_56 p2 p3 p4 p5 nn)), .val (.int (v0_57 p2 p3 p4 p5 nn)), .val (.int (v0_58 p2 p3 p4 p5 nn)), .val (.int (-1 : Int32)), .unset, .unset, .unset, .unset, .unset] [(.int p2)])
        refine Go.of (fun _ k => X55.ldcI hx hown (mvT hZ (hw _ (List.mem_of_getElem? (i := 11) rfl))) rfl (hb hby at_202) k) ?_
        show Go p e below W T55 (mkF m 204 #[.val (.int p1), .val (.int p2), .val (.int p3), .val (.int p4), .val (.int p5), .val (.int (3 : Int32)), .val (.ref b39), .val (.int (v0_56 p2 p3 p4 p5 nn)), .val (.int (v0_57 p2 p3 p4 p5 nn)), .val (.int (v0_58 p2 p3 p4 p5 nn)), .val (.int (-1 : Int32)), .unset, .unset, .unset, .unset, .unset] [(.int (2147483647 : Int32)), (.int p2)])
        refine Go.of (fun _ k => XS.iand X55.here hx rfl (hb hby at_204) rfl k) ?_
        show Go p e below W T55 (mkF m 205 #[.val (.int p1), .val (.int p2), .val (.int p3), .val (.int p4), .val (.int p5), .val (.int (3 : Int32)), .val (.ref b39), .val (.int (v0_56 p2 p3 p4 p5 nn)), .val (.int (v0_57 p2 p3 p4 p5 nn)), .val (.int (v0_58 p2 p3 p4 p5 nn)), .val (.int (-1 : Int32)), .unset, .unset, .unset, .unset, .unset] [(.int (p2 &&& (2147483647 : Int32)))])
        refine Go.of (fun _ k => XS.iload X55.here hx rfl (hb hby at_205) rfl k) ?_
        show Go p e below W T55 (mkF m 207 #[.val (.int p1), .val (.int p2), .val (.int p3), .val (.int p4), .val (.int p5), .val (.int (3 : Int32)), .val (.ref b39), .val (.int (v0_56 p2 p3 p4 p5 nn)), .val (.int (v0_57 p2 p3 p4 p5 nn)), .val (.int (v0_58 p2 p3 p4 p5 nn)), .val (.int (-1 : Int32)), .unset, .unset, .unset, .unset, .unset] [(.int (3 : Int32)), (.int (p2 &&& (2147483647 : Int32)))])
        refine Go.of (fun _ k => iremM X55 hx rfl (hb hby at_207) rfl (by decide) k) ?_
        show Go p e below W T55 (mkF m 208 #[.val (.int p1), .val (.int p2), .val (.int p3), .val (.int p4), .val (.int p5), .val (.int (3 : Int32)), .val (.ref b39), .val (.int (v0_56 p2 p3 p4 p5 nn)), .val (.int (v0_57 p2 p3 p4 p5 nn)), .val (.int (v0_58 p2 p3 p4 p5 nn)), .val (.int (-1 : Int32)), .unset, .unset, .unset, .unset, .unset] [(.int ((p2 &&& (2147483647 : Int32)) % (3 : Int32)))])
        refine Go.of (fun _ k => XS.istore X55.here hx rfl (hb hby at_208) rfl (l' := #[.val (.int p1), .val (.int p2), .val (.int p3), .val (.int p4), .val (.int p5), .val (.int (3 : Int32)), .val (.ref b39), .val (.int (v0_56 p2 p3 p4 p5 nn)), .val (.int (v0_57 p2 p3 p4 p5 nn)), .val (.int (v0_58 p2 p3 p4 p5 nn)), .val (.int (-1 : Int32)), .val (.int (v0_59 p2 p3 p4 p5 nn)), .unset, .unset, .unset, .unset]) rfl k) ?_
        show Go p e below W T55 (mkF m 210 #[.val (.int p1), .val (.int p2), .val (.int p3), .val (.int p4), .val (.int p5), .val (.int (3 : Int32)), .val (.ref b39), .val (.int (v0_56 p2 p3 p4 p5 nn)), .val (.int (v0_57 p2 p3 p4 p5 nn)), .val (.int (v0_58 p2 p3 p4 p5 nn)), .val (.int (-1 : Int32)), .val (.int (v0_59 p2 p3 p4 p5 nn)), .unset, .unset, .unset, .unset] [])
        refine Go.of (fun _ k => XS.iload X55.here hx rfl (hb hby at_210) rfl k) ?_
        show Go p e below W T55 (mkF m 212 #[.val (.int p1), .val (.int p2), .val (.int p3), .val (.int p4), .val (.int p5), .val (.int (3 : Int32)), .val (.ref b39), .val (.int (v0_56 p2 p3 p4 p5 nn)), .val (.int (v0_57 p2 p3 p4 p5 nn)), .val (.int (v0_58 p2 p3 p4 p5 nn)), .val (.int (-1 : Int32)), .val (.int (v0_59 p2 p3 p4 p5 nn)), .unset, .unset, .unset, .unset] [(.int (v0_59 p2 p3 p4 p5 nn))])
        refine Go.of (fun _ k => XS.iconst X55.here hx rfl (hb hby at_212) k) ?_
        show Go p e below W T55 (mkF m 213 #[.val (.int p1), .val (.int p2), .val (.int p3), .val (.int p4), .val (.int p5), .val (.int (3 : Int32)), .val (.ref b39), .val (.int (v0_56 p2 p3 p4 p5 nn)), .val (.int (v0_57 p2 p3 p4 p5 nn)), .val (.int (v0_58 p2 p3 p4 p5 nn)), .val (.int (-1 : Int32)), .val (.int (v0_59 p2 p3 p4 p5 nn)), .unset, .unset, .unset, .unset] [(.int (1 : Int32)), (.int (v0_59 p2 p3 p4 p5 nn))])
        refine Go.of (fun _ k => XS.iadd X55.here hx rfl (hb hby at_213) rfl k) ?_
        show Go p e below W T55 (mkF m 214 #[.val (.int p1), .val (.int p2), .val (.int p3), .val (.int p4), .val (.int p5), .val (.int (3 : Int32)), .val (.ref b39), .val (.int (v0_56 p2 p3 p4 p5 nn)), .val (.int (v0_57 p2 p3 p4 p5 nn)), .val (.int (v0_58 p2 p3 p4 p5 nn)), .val (.int (-1 : Int32)), .val (.int (v0_59 p2 p3 p4 p5 nn)), .unset, .unset, .unset, .unset] [(.int ((v0_59 p2 p3 p4 p5 nn) + (1 : Int32)))])
        refine Go.of (fun _ k => XS.iload X55.here hx rfl (hb hby at_214) rfl k) ?_
        show Go p e below W T55 (mkF m 216 #[.val (.int p1), .val (.int p2), .val (.int p3), .val (.int p4), .val (.int p5), .val (.int (3 : Int32)), .val (.ref b39), .val (.int (v0_56 p2 p3 p4 p5 nn)), .val (.int (v0_57 p2 p3 p4 p5 nn)), .val (.int (v0_58 p2 p3 p4 p5 nn)), .val (.int (-1 : Int32)), .val (.int (v0_59 p2 p3 p4 p5 nn)), .unset, .unset, .unset, .unset] [(.int (3 : Int32)), (.int ((v0_59 p2 p3 p4 p5 nn) + (1 : Int32)))])
        refine Go.of (fun _ k => iremM X55 hx rfl (hb hby at_216) rfl (by decide) k) ?_
        show Go p e below W T55 (mkF m 217 #[.val (.int p1), .val (.int p2), .val (.int p3), .val (.int p4), .val (.int p5), .val (.int (3 : Int32)), .val (.ref b39), .val (.int (v0_56 p2 p3 p4 p5 nn)), .val (.int (v0_57 p2 p3 p4 p5 nn)), .val (.int (v0_58 p2 p3 p4 p5 nn)), .val (.int (-1 : Int32)), .val (.int (v0_59 p2 p3 p4 p5 nn)), .unset, .unset, .unset, .unset] [(.int (((v0_59 p2 p3 p4 p5 nn) + (1 : Int32)) % (3 : Int32)))])
        refine Go.of (fun _ k => XS.istore X55.here hx rfl (hb hby at_217) rfl (l' := #[.val (.int p1), .val (.int p2), .val (.int p3), .val (.int p4), .val (.int p5), .val (.int (3 : Int32)), .val (.ref b39), .val (.int (v0_56 p2 p3 p4 p5 nn)), .val (.int (v0_57 p2 p3 p4 p5 nn)), .val (.int (v0_58 p2 p3 p4 p5 nn)), .val (.int (-1 : Int32)), .val (.int (v0_59 p2 p3 p4 p5 nn)), .val (.int (v0_60 p2 p3 p4 p5 nn)), .unset, .unset, .unset]) rfl k) ?_
        show Go p e below W T55 (mkF m 219 #[.val (.int p1), .val (.int p2), .val (.int p3), .val (.int p4), .val (.int p5), .val (.int (3 : Int32)), .val (.ref b39), .val (.int (v0_56 p2 p3 p4 p5 nn)), .val (.int (v0_57 p2 p3 p4 p5 nn)), .val (.int (v0_58 p2 p3 p4 p5 nn)), .val (.int (-1 : Int32)), .val (.int (v0_59 p2 p3 p4 p5 nn)), .val (.int (v0_60 p2 p3 p4 p5 nn)), .unset, .unset, .unset] [])
        refine Go.of (fun _ k => XS.iload X55.here hx rfl (hb hby at_219) rfl k) ?_
        show Go p e below W T55 (mkF m 221 #[.val (.int p1), .val (.int p2), .val (.int p3), .val (.int p4), .val (.int p5), .val (.int (3 : Int32)), .val (.ref b39), .val (.int (v0_56 p2 p3 p4 p5 nn)), .val (.int (v0_57 p2 p3 p4 p5 nn)), .val (.int (v0_58 p2 p3 p4 p5 nn)), .val (.int (-1 : Int32)), .val (.int (v0_59 p2 p3 p4 p5 nn)), .val (.int (v0_60 p2 p3 p4 p5 nn)), .unset, .unset, .unset] [(.int (v0_60 p2 p3 p4 p5 nn))])
        suffices G64 : ∀ T', Stand p l e room_1 s m #[(.int p1), (.int p2), (.int p3), (.int p4), (.int p5)] below meth c T' L55 1 3 → T'.heap = T55.heap → Go p e below W T' (mkF m 261 #[.val (.int p1), .val (.int p2), .val (.int p3), .val (.int p4), .val (.int p5), .val (.int (3 : Int32)), .val (.ref b39), .val (.int (v0_56 p2 p3 p4 p5 nn)), .val (.int (v0_57 p2 p3 p4 p5 nn)), .val (.int (v0_58 p2 p3 p4 p5 nn)), .val (.int (-1 : Int32)), .val (.int (v0_59 p2 p3 p4 p5 nn)), .val (.int (v0_60 p2 p3 p4 p5 nn)), .val (.int (v0_65 p2 p3 p4 p5 nn)), .unset, .unset] []) by
          by_cases c61 : (v0_60 p2 p3 p4 p5 nn) = (0 : Int32)
          · refine Go.of (fun _ k => XS.ifNo X55.here hx rfl (hb hby at_221) rfl (Jvm.Free.XT.i0_ne_f c61) k) ?_
            show Go p e below W T55 (mkF m 224 #[.val (.int p1), .val (.int p2), .val (.int p3), .val (.int p4), .val (.int p5), .val (.int (3 : Int32)), .val (.ref b39), .val (.int (v0_56 p2 p3 p4 p5 nn)), .val (.int (v0_57 p2 p3 p4 p5 nn)), .val (.int (v0_58 p2 p3 p4 p5 nn)), .val (.int (-1 : Int32)), .val (.int (v0_59 p2 p3 p4 p5 nn)), .val (.int (v0_60 p2 p3 p4 p5 nn)), .unset, .unset, .unset] [])
            refine Go.of (fun _ k => XS.iload X55.here hx rfl (hb hby at_224) rfl k) ?_
            show Go p e below W T55 (mkF m 226 #[.val (.int p1), .val (.int p2), .val (.int p3), .val (.int p4), .val (.int p5), .val (.int (3 : Int32)), .val (.ref b39), .val (.int (v0_56 p2 p3 p4 p5 nn)), .val (.int (v0_57 p2 p3 p4 p5 nn)), .val (.int (v0_58 p2 p3 p4 p5 nn)), .val (.int (-1 : Int32)), .val (.int (v0_59 p2 p3 p4 p5 nn)), .val (.int (v0_60 p2 p3 p4 p5 nn)), .unset, .unset, .unset] [(.int (v0_56 p2 p3 p4 p5 nn))])
            refine Go.of (fun _ k => XS.istore X55.here hx rfl (hb hby at_226) rfl (l' := #[.val (.int p1), .val (.int p2), .val (.int p3), .val (.int p4), .val (.int p5), .val (.int (3 : Int32)), .val (.ref b39), .val (.int (v0_56 p2 p3 p4 p5 nn)), .val (.int (v0_57 p2 p3 p4 p5 nn)), .val (.int (v0_58 p2 p3 p4 p5 nn)), .val (.int (-1 : Int32)), .val (.int (v0_59 p2 p3 p4 p5 nn)), .val (.int (v0_60 p2 p3 p4 p5 nn)), .val (.int (v0_56 p2 p3 p4 p5 nn)), .unset, .unset]) rfl k) ?_
            show Go p e below W T55 (mkF m 228 #[.val (.int p1), .val (.int p2), .val (.int p3), .val (.int p4), .val (.int p5), .val (.int (3 : Int32)), .val (.ref b39), .val (.int (v0_56 p2 p3 p4 p5 nn)), .val (.int (v0_57 p2 p3 p4 p5 nn)), .val (.int (v0_58 p2 p3 p4 p5 nn)), .val (.int (-1 : Int32)), .val (.int (v0_59 p2 p3 p4 p5 nn)), .val (.int (v0_60 p2 p3 p4 p5 nn)), .val (.int (v0_56 p2 p3 p4 p5 nn)), .unset, .unset] [])
            refine Go.of (fun _ k => XS.goto X55.here hx rfl (pc0 := 228) (pc' := 261) rfl (hb hby at_228) (by decide) (by decide) k) ?_
            have G64 := G64
            have q_v0_65 : (v0_65 p2 p3 p4 p5 nn) = (v0_56 p2 p3 p4 p5 nn) := by rw [v0_65, if_pos c61]
            rw [q_v0_65] at G64
            exact G64 _ X55 rfl
          · refine Go.of (fun _ k => XS.ifYes X55.here hx rfl (pc0 := 221) (pc' := 231) rfl (hb hby at_221) rfl (Jvm.Free.XT.i0_ne_t c61) (by decide) (by decide) k) ?_
            show Go p e below W T55 (mkF m 231 #[.val (.int p1), .val (.int p2), .val (.int p3), .val (.int p4), .val (.int p5), .val (.int (3 : Int32)), .val (.ref b39), .val (.int (v0_56 p2 p3 p4 p5 nn)), .val (.int (v0_57 p2 p3 p4 p5 nn)), .val (.int (v0_58 p2 p3 p4 p5 nn)), .val (.int (-1 : Int32)), .val (.int (v0_59 p2 p3 p4 p5 nn)), .val (.int (v0_60 p2 p3 p4 p5 nn)), .unset, .unset, .unset] [])
            refine Go.of (fun _ k => XS.iload X55.here hx rfl (hb hby at_231) rfl k) ?_
            show Go p e below W T55 (mkF m 233 #[.val (.int p1), .val (.int p2), .val (.int p3), .val (.int p4), .val (.int p5), .val (.int (3 : Int32)), .val (.ref b39), .val (.int (v0_56 p2 p3 p4 p5 nn)), .val (.int (v0_57 p2 p3 p4 p5 nn)), .val (.int (v0_58 p2 p3 p4 p5 nn)), .val (.int (-1 : Int32)), .val (.int (v0_59 p2 p3 p4 p5 nn)), .val (.int (v0_60 p2 p3 p4 p5 nn)), .unset, .unset, .unset] [(.int (v0_60 p2 p3 p4 p5 nn))])
            refine Go.of (fun _ k => XS.iconst X55.here hx rfl (hb hby at_233) k) ?_
            show Go p e below W T55 (mkF m 234 #[.val (.int p1), .val (.int p2), .val (.int p3), .val (.int p4), .val (.int p5), .val (.int (3 : Int32)), .val (.ref b39), .val (.int (v0_56 p2 p3 p4 p5 nn)), .val (.int (v0_57 p2 p3 p4 p5 nn)), .val (.int (v0_58 p2 p3 p4 p5 nn)), .val (.int (-1 : Int32)), .val (.int (v0_59 p2 p3 p4 p5 nn)), .val (.int (v0_60 p2 p3 p4 p5 nn)), .unset, .unset, .unset] [(.int (1 : Int32)), (.int (v0_60 p2 p3 p4 p5 nn))])
            by_cases c62 : (v0_60 p2 p3 p4 p5 nn) = (1 : Int32)
            · refine Go.of (fun _ k => XS.icmpNo X55.here hx rfl (hb hby at_234) rfl (Jvm.Free.XT.ii_ne_f c62) k) ?_
              show Go p e below W T55 (mkF m 237 #[.val (.int p1), .val (.int p2), .val (.int p3), .val (.int p4), .val (.int p5), .val (.int (3 : Int32)), .val (.ref b39), .val (.int (v0_56 p2 p3 p4 p5 nn)), .val (.int (v0_57 p2 p3 p4 p5 nn)), .val (.int (v0_58 p2 p3 p4 p5 nn)), .val (.int (-1 : Int32)), .val (.int (v0_59 p2 p3 p4 p5 nn)), .val (.int (v0_60 p2 p3 p4 p5 nn)), .unset, .unset, .unset] [])
              refine Go.of (fun _ k => XS.iload X55.here hx rfl (hb hby at_237) rfl k) ?_
              show Go p e below W T55 (mkF m 239 #[.val (.int p1), .val (.int p2), .val (.int p3), .val (.int p4), .val (.int p5), .val (.int (3 : Int32)), .val (.ref b39), .val (.int (v0_56 p2 p3 p4 p5 nn)), .val (.int (v0_57 p2 p3 p4 p5 nn)), .val (.int (v0_58 p2 p3 p4 p5 nn)), .val (.int (-1 : Int32)), .val (.int (v0_59 p2 p3 p4 p5 nn)), .val (.int (v0_60 p2 p3 p4 p5 nn)), .unset, .unset, .unset] [(.int (v0_57 p2 p3 p4 p5 nn))])
              refine Go.of (fun _ k => XS.istore X55.here hx rfl (hb hby at_239) rfl (l' := #[.val (.int p1), .val (.int p2), .val (.int p3), .val (.int p4), .val (.int p5), .val (.int (3 : Int32)), .val (.ref b39), .val (.int (v0_56 p2 p3 p4 p5 nn)), .val (.int (v0_57 p2 p3 p4 p5 nn)), .val (.int (v0_58 p2 p3 p4 p5 nn)), .val (.int (-1 : Int32)), .val (.int (v0_59 p2 p3 p4 p5 nn)), .val (.int (v0_60 p2 p3 p4 p5 nn)), .val (.int (v0_57 p2 p3 p4 p5 nn)), .unset, .unset]) rfl k) ?_
              show Go p e below W T55 (mkF m 241 #[.val (.int p1), .val (.int p2), .val (.int p3), .val (.int p4), .val (.int p5), .val (.int (3 : Int32)), .val (.ref b39), .val (.int (v0_56 p2 p3 p4 p5 nn)), .val (.int (v0_57 p2 p3 p4 p5 nn)), .val (.int (v0_58 p2 p3 p4 p5 nn)), .val (.int (-1 : Int32)), .val (.int (v0_59 p2 p3 p4 p5 nn)), .val (.int (v0_60 p2 p3 p4 p5 nn)), .val (.int (v0_57 p2 p3 p4 p5 nn)), .unset, .unset] [])
              refine Go.of (fun _ k => XS.goto X55.here hx rfl (pc0 := 241) (pc' := 261) rfl (hb hby at_241) (by decide) (by decide) k) ?_
              have G64 := G64
              have q_v0_65 : (v0_65 p2 p3 p4 p5 nn) = (v0_57 p2 p3 p4 p5 nn) := by rw [v0_65, if_neg c61, if_pos c62]
              rw [q_v0_65] at G64
              exact G64 _ X55 rfl
            · refine Go.of (fun _ k => XS.icmpYes X55.here hx rfl (pc0 := 234) (pc' := 244) rfl (hb hby at_234) rfl (Jvm.Free.XT.ii_ne_t c62) (by decide) (by decide) k) ?_
              show Go p e below W T55 (mkF m 244 #[.val (.int p1), .val (.int p2), .val (.int p3), .val (.int p4), .val (.int p5), .val (.int (3 : Int32)), .val (.ref b39), .val (.int (v0_56 p2 p3 p4 p5 nn)), .val (.int (v0_57 p2 p3 p4 p5 nn)), .val (.int (v0_58 p2 p3 p4 p5 nn)), .val (.int (-1 : Int32)), .val (.int (v0_59 p2 p3 p4 p5 nn)), .val (.int (v0_60 p2 p3 p4 p5 nn)), .unset, .unset, .unset] [])
              refine Go.of (fun _ k => XS.iload X55.here hx rfl (hb hby at_244) rfl k) ?_
              show Go p e below W T55 (mkF m 246 #[.val (.int p1), .val (.int p2), .val (.int p3), .val (.int p4), .val (.int p5), .val (.int (3 : Int32)), .val (.ref b39), .val (.int (v0_56 p2 p3 p4 p5 nn)), .val (.int (v0_57 p2 p3 p4 p5 nn)), .val (.int (v0_58 p2 p3 p4 p5 nn)), .val (.int (-1 : Int32)), .val (.int (v0_59 p2 p3 p4 p5 nn)), .val (.int (v0_60 p2 p3 p4 p5 nn)), .unset, .unset, .unset] [(.int (v0_60 p2 p3 p4 p5 nn))])
              refine Go.of (fun _ k => XS.iconst X55.here hx rfl (hb hby at_246) k) ?_
              show Go p e below W T55 (mkF m 247 #[.val (.int p1), .val (.int p2), .val (.int p3), .val (.int p4), .val (.int p5), .val (.int (3 : Int32)), .val (.ref b39), .val (.int (v0_56 p2 p3 p4 p5 nn)), .val (.int (v0_57 p2 p3 p4 p5 nn)), .val (.int (v0_58 p2 p3 p4 p5 nn)), .val (.int (-1 : Int32)), .val (.int (v0_59 p2 p3 p4 p5 nn)), .val (.int (v0_60 p2 p3 p4 p5 nn)), .unset, .unset, .unset] [(.int (2 : Int32)), (.int (v0_60 p2 p3 p4 p5 nn))])
              by_cases c63 : (v0_60 p2 p3 p4 p5 nn) = (2 : Int32)
              · refine Go.of (fun _ k => XS.icmpNo X55.here hx rfl (hb hby at_247) rfl (Jvm.Free.XT.ii_ne_f c63) k) ?_
                show Go p e below W T55 (mkF m 250 #[.val (.int p1), .val (.int p2), .val (.int p3), .val (.int p4), .val (.int p5), .val (.int (3 : Int32)), .val (.ref b39), .val (.int (v0_56 p2 p3 p4 p5 nn)), .val (.int (v0_57 p2 p3 p4 p5 nn)), .val (.int (v0_58 p2 p3 p4 p5 nn)), .val (.int (-1 : Int32)), .val (.int (v0_59 p2 p3 p4 p5 nn)), .val (.int (v0_60 p2 p3 p4 p5 nn)), .unset, .unset, .unset] [])
                refine Go.of (fun _ k => XS.iload X55.here hx rfl (hb hby at_250) rfl k) ?_
                show Go p e below W T55 (mkF m 252 #[.val (.int p1), .val (.int p2), .val (.int p3), .val (.int p4), .val (.int p5), .val (.int (3 : Int32)), .val (.ref b39), .val (.int (v0_56 p2 p3 p4 p5 nn)), .val (.int (v0_57 p2 p3 p4 p5 nn)), .val (.int (v0_58 p2 p3 p4 p5 nn)), .val (.int (-1 : Int32)), .val (.int (v0_59 p2 p3 p4 p5 nn)), .val (.int (v0_60 p2 p3 p4 p5 nn)), .unset, .unset, .unset] [(.int (v0_58 p2 p3 p4 p5 nn))])
                refine Go.of (fun _ k => XS.istore X55.here hx rfl (hb hby at_252) rfl (l' := #[.val (.int p1), .val (.int p2), .val (.int p3), .val (.int p4), .val (.int p5), .val (.int (3 : Int32)), .val (.ref b39), .val (.int (v0_56 p2 p3 p4 p5 nn)), .val (.int (v0_57 p2 p3 p4 p5 nn)), .val (.int (v0_58 p2 p3 p4 p5 nn)), .val (.int (-1 : Int32)), .val (.int (v0_59 p2 p3 p4 p5 nn)), .val (.int (v0_60 p2 p3 p4 p5 nn)), .val (.int (v0_58 p2 p3 p4 p5 nn)), .unset, .unset]) rfl k) ?_
                show Go p e below W T55 (mkF m 254 #[.val (.int p1), .val (.int p2), .val (.int p3), .val (.int p4), .val (.int p5), .val (.int (3 : Int32)), .val (.ref b39), .val (.int (v0_56 p2 p3 p4 p5 nn)), .val (.int (v0_57 p2 p3 p4 p5 nn)), .val (.int (v0_58 p2 p3 p4 p5 nn)), .val (.int (-1 : Int32)), .val (.int (v0_59 p2 p3 p4 p5 nn)), .val (.int (v0_60 p2 p3 p4 p5 nn)), .val (.int (v0_58 p2 p3 p4 p5 nn)), .unset, .unset] [])
                refine Go.of (fun _ k => XS.goto X55.here hx rfl (pc0 := 254) (pc' := 261) rfl (hb hby at_254) (by decide) (by decide) k) ?_
                have G64 := G64
                have q_v0_65 : (v0_65 p2 p3 p4 p5 nn) = (v0_58 p2 p3 p4 p5 nn) := by rw [v0_65, if_neg c61, if_neg c62, if_pos c63]
                rw [q_v0_65] at G64
                exact G64 _ X55 rfl
              · refine Go.of (fun _ k => XS.icmpYes X55.here hx rfl (pc0 := 247) (pc' := 257) rfl (hb hby at_247) rfl (Jvm.Free.XT.ii_ne_t c63) (by decide) (by decide) k) ?_
                show Go p e below W T55 (mkF m 257 #[.val (.int p1), .val (.int p2), .val (.int p3), .val (.int p4), .val (.int p5), .val (.int (3 : Int32)), .val (.ref b39), .val (.int (v0_56 p2 p3 p4 p5 nn)), .val (.int (v0_57 p2 p3 p4 p5 nn)), .val (.int (v0_58 p2 p3 p4 p5 nn)), .val (.int (-1 : Int32)), .val (.int (v0_59 p2 p3 p4 p5 nn)), .val (.int (v0_60 p2 p3 p4 p5 nn)), .unset, .unset, .unset] [])
                refine Go.of (fun _ k => XS.iload X55.here hx rfl (hb hby at_257) rfl k) ?_
                show Go p e below W T55 (mkF m 259 #[.val (.int p1), .val (.int p2), .val (.int p3), .val (.int p4), .val (.int p5), .val (.int (3 : Int32)), .val (.ref b39), .val (.int (v0_56 p2 p3 p4 p5 nn)), .val (.int (v0_57 p2 p3 p4 p5 nn)), .val (.int (v0_58 p2 p3 p4 p5 nn)), .val (.int (-1 : Int32)), .val (.int (v0_59 p2 p3 p4 p5 nn)), .val (.int (v0_60 p2 p3 p4 p5 nn)), .unset, .unset, .unset] [(.int (-1 : Int32))])
                refine Go.of (fun _ k => XS.istore X55.here hx rfl (hb hby at_259) rfl (l' := #[.val (.int p1), .val (.int p2), .val (.int p3), .val (.int p4), .val (.int p5), .val (.int (3 : Int32)), .val (.ref b39), .val (.int (v0_56 p2 p3 p4 p5 nn)), .val (.int (v0_57 p2 p3 p4 p5 nn)), .val (.int (v0_58 p2 p3 p4 p5 nn)), .val (.int (-1 : Int32)), .val (.int (v0_59 p2 p3 p4 p5 nn)), .val (.int (v0_60 p2 p3 p4 p5 nn)), .val (.int (-1 : Int32)), .unset, .unset]) rfl k) ?_
                have G64 := G64
                have q_v0_65 : (v0_65 p2 p3 p4 p5 nn) = (-1 : Int32) := by rw [v0_65, if_neg c61, if_neg c62, if_neg c63]
                rw [q_v0_65] at G64
                exact G64 _ X55 rfl
        intro T64 X64 e64
        show Go p e below W T64 (mkF m 261 #[.val (.int p1), .val (.int p2), .val (.int p3), .val (.int p4), .val (.int p5), .val (.int (3 : Int32)), .val (.ref b39), .val (.int (v0_56 p2 p3 p4 p5 nn)), .val (.int (v0_57 p2 p3 p4 p5 nn)), .val (.int (v0_58 p2 p3 p4 p5 nn)), .val (.int (-1 : Int32)), .val (.int (v0_59 p2 p3 p4 p5 nn)), .val (.int (v0_60 p2 p3 p4 p5 nn)), .val (.int (v0_65 p2 p3 p4 p5 nn)), .unset, .unset] [])
        refine Go.newO X64 hx hZ hown (hw _ (List.mem_of_getElem? (i := 12) rfl)) (hw _ (List.mem_of_getElem? (i := 13) rfl)) (hw _ (List.mem_of_getElem? (i := 14) rfl)) e64 (hb hby at_261) (by decide) (by decide) ?_
        intro T66 h66 b66 zq66 X66 e66 E66 E_b66 D66
        have ne_b39_b66 : b39 ≠ b66 := by rw [zq66]; exact Nat.ne_of_lt A_b39.lt
        have g_b66 : n0 ≤ b66 := by rw [zq66]; exact Z0
        have s_b66 : h0.size ≤ b66 := by rw [zq66]; exact K.1
        have A_b39 := A_b39.ext E66
        have K := K.ext E66
        have Z0 := Nat.le_trans Z0 E66.1
        have F_b66_order : Fld Z h66 b66 "com/example/pilfer/pilfer/Tour" "order" "[I" .null := D66 (Or.inr (hw _ (List.mem_of_getElem? (i := 22) rfl))) (ty := (.array .int)) (by decide)
        have F_b66_position : Fld Z h66 b66 "com/example/pilfer/pilfer/Tour" "position" "[I" .null := D66 (Or.inr (hw _ (List.mem_of_getElem? (i := 24) rfl))) (ty := (.array .int)) (by decide)
        show Go p e below W T66 (mkF m 264 #[.val (.int p1), .val (.int p2), .val (.int p3), .val (.int p4), .val (.int p5), .val (.int (3 : Int32)), .val (.ref b39), .val (.int (v0_56 p2 p3 p4 p5 nn)), .val (.int (v0_57 p2 p3 p4 p5 nn)), .val (.int (v0_58 p2 p3 p4 p5 nn)), .val (.int (-1 : Int32)), .val (.int (v0_59 p2 p3 p4 p5 nn)), .val (.int (v0_60 p2 p3 p4 p5 nn)), .val (.int (v0_65 p2 p3 p4 p5 nn)), .unset, .unset] [(.ref b66)])
        refine Go.of (fun _ k => XS.dup X66.here hx rfl (hb hby at_264) rfl rfl k) ?_
        show Go p e below W T66 (mkF m 265 #[.val (.int p1), .val (.int p2), .val (.int p3), .val (.int p4), .val (.int p5), .val (.int (3 : Int32)), .val (.ref b39), .val (.int (v0_56 p2 p3 p4 p5 nn)), .val (.int (v0_57 p2 p3 p4 p5 nn)), .val (.int (v0_58 p2 p3 p4 p5 nn)), .val (.int (-1 : Int32)), .val (.int (v0_59 p2 p3 p4 p5 nn)), .val (.int (v0_60 p2 p3 p4 p5 nn)), .val (.int (v0_65 p2 p3 p4 p5 nn)), .unset, .unset] [(.ref b66), (.ref b66)])
        refine Go.of (fun _ k => XS.aload X66.here hx rfl (hb hby at_265) rfl rfl k) ?_
        show Go p e below W T66 (mkF m 267 #[.val (.int p1), .val (.int p2), .val (.int p3), .val (.int p4), .val (.int p5), .val (.int (3 : Int32)), .val (.ref b39), .val (.int (v0_56 p2 p3 p4 p5 nn)), .val (.int (v0_57 p2 p3 p4 p5 nn)), .val (.int (v0_58 p2 p3 p4 p5 nn)), .val (.int (-1 : Int32)), .val (.int (v0_59 p2 p3 p4 p5 nn)), .val (.int (v0_60 p2 p3 p4 p5 nn)), .val (.int (v0_65 p2 p3 p4 p5 nn)), .unset, .unset] [(.ref b39), (.ref b66), (.ref b66)])
        refine Go.callI X66 hx hZ rfl hown (hw _ (List.mem_of_getElem? (i := 15) rfl)) (hw _ (List.mem_of_getElem? (i := 16) rfl)) (hw _ (List.mem_of_getElem? (i := 14) rfl)) (hw _ (List.mem_of_getElem? (i := 17) rfl)) (by decide) e66 (rm4 l Z a0 hw [] b66 b39 (f3_a1 (f1 p5 (3 : Int32)) (f2 p5 (3 : Int32)) (f3_a1 (f1 p4 (3 : Int32)) (f2 p4 (3 : Int32)) (f3_a1 (f1 p3 (3 : Int32)) (f2 p3 (3 : Int32)) (w0_46 p2 p3 p4 p5 nn) (3 : Nat)) (3 : Nat)) (3 : Nat)) (3 : Nat) h66 n0 Z0 E_b66 F_b66_order F_b66_position A_b39 g_b66 (Ne.symm ne_b39_b66) (by decide) (own_sw (own_sw (own_sw (own_updin (own_updin (own_updin own_zero ⟨by decide, by decide⟩) ⟨by decide, by decide⟩) ⟨by decide, by decide⟩) (own_lo3 _) (own_hi3 _)) (own_lo3 _) (own_hi3 _)) (own_lo3 _) (own_hi3 _))) (V := 1) (by decide) (by decide) (by decide) (by decide) (by rw [hml]; rfl) (argsL := [(.ref b39)]) (rest := [(.ref b66)]) rfl (lenOf pd___I_V rfl) rfl (Nat.le_of_ble_eq_true rfl) (hb hby at_267) ?_
        rintro T67 _ M67 ⟨rfl, N67, K67, F_b66_order⟩ X67
        obtain ⟨L67, zq67⟩ : ∃ z, z = L55 ++ M67 := ⟨_, rfl⟩
        have N := Fr.app N N67
        rw [← zq67] at X67 N
        have A_b39 := A_b39.keep K67 (ninS ne_b39_b66 nin0)
        have E_b66 := E_b66.keep K67
        have K := K.trans K67 (by
          intro x hx
          simp only [List.mem_cons, List.not_mem_nil, or_false] at hx
          rcases hx with rfl
          · exact Or.inr s_b66)
        have Z0 := Nat.le_trans Z0 K67.1
        show Go p e below W T67 (mkF m 270 #[.val (.int p1), .val (.int p2), .val (.int p3), .val (.int p4), .val (.int p5), .val (.int (3 : Int32)), .val (.ref b39), .val (.int (v0_56 p2 p3 p4 p5 nn)), .val (.int (v0_57 p2 p3 p4 p5 nn)), .val (.int (v0_58 p2 p3 p4 p5 nn)), .val (.int (-1 : Int32)), .val (.int (v0_59 p2 p3 p4 p5 nn)), .val (.int (v0_60 p2 p3 p4 p5 nn)), .val (.int (v0_65 p2 p3 p4 p5 nn)), .unset, .unset] [(.ref b66)])
        refine Go.of (fun _ k => XS.astore X67.here hx rfl (hb hby at_270) rfl rfl (l' := #[.val (.int p1), .val (.int p2), .val (.int p3), .val (.int p4), .val (.int p5), .val (.int (3 : Int32)), .val (.ref b39), .val (.int (v0_56 p2 p3 p4 p5 nn)), .val (.int (v0_57 p2 p3 p4 p5 nn)), .val (.int (v0_58 p2 p3 p4 p5 nn)), .val (.int (-1 : Int32)), .val (.int (v0_59 p2 p3 p4 p5 nn)), .val (.int (v0_60 p2 p3 p4 p5 nn)), .val (.int (v0_65 p2 p3 p4 p5 nn)), .val (.ref b66), .unset]) rfl k) ?_
        show Go p e below W T67 (mkF m 272 #[.val (.int p1), .val (.int p2), .val (.int p3), .val (.int p4), .val (.int p5), .val (.int (3 : Int32)), .val (.ref b39), .val (.int (v0_56 p2 p3 p4 p5 nn)), .val (.int (v0_57 p2 p3 p4 p5 nn)), .val (.int (v0_58 p2 p3 p4 p5 nn)), .val (.int (-1 : Int32)), .val (.int (v0_59 p2 p3 p4 p5 nn)), .val (.int (v0_60 p2 p3 p4 p5 nn)), .val (.int (v0_65 p2 p3 p4 p5 nn)), .val (.ref b66), .unset] [])
        refine Go.of (fun _ k => XS.aload X67.here hx rfl (hb hby at_272) rfl rfl k) ?_
        show Go p e below W T67 (mkF m 274 #[.val (.int p1), .val (.int p2), .val (.int p3), .val (.int p4), .val (.int p5), .val (.int (3 : Int32)), .val (.ref b39), .val (.int (v0_56 p2 p3 p4 p5 nn)), .val (.int (v0_57 p2 p3 p4 p5 nn)), .val (.int (v0_58 p2 p3 p4 p5 nn)), .val (.int (-1 : Int32)), .val (.int (v0_59 p2 p3 p4 p5 nn)), .val (.int (v0_60 p2 p3 p4 p5 nn)), .val (.int (v0_65 p2 p3 p4 p5 nn)), .val (.ref b66), .unset] [(.ref b66)])
        refine Go.of (fun _ k => XS.iload X67.here hx rfl (hb hby at_274) rfl k) ?_
        show Go p e below W T67 (mkF m 276 #[.val (.int p1), .val (.int p2), .val (.int p3), .val (.int p4), .val (.int p5), .val (.int (3 : Int32)), .val (.ref b39), .val (.int (v0_56 p2 p3 p4 p5 nn)), .val (.int (v0_57 p2 p3 p4 p5 nn)), .val (.int (v0_58 p2 p3 p4 p5 nn)), .val (.int (-1 : Int32)), .val (.int (v0_59 p2 p3 p4 p5 nn)), .val (.int (v0_60 p2 p3 p4 p5 nn)), .val (.int (v0_65 p2 p3 p4 p5 nn)), .val (.ref b66), .unset] [(.int (v0_59 p2 p3 p4 p5 nn)), (.ref b66)])
        refine Go.callV X67 hx hZ hown (hw _ (List.mem_of_getElem? (i := 25) rfl)) (hw _ (List.mem_of_getElem? (i := 26) rfl)) (hw _ (List.mem_of_getElem? (i := 28) rfl)) (hw _ (List.mem_of_getElem? (i := 27) rfl)) (hw _ (List.mem_of_getElem? (i := 14) rfl)) (hw _ (List.mem_of_getElem? (i := 29) rfl)) (by decide) rfl E_b66 (rm6 l Z a0 hw [] b66 (v0_59 p2 p3 p4 p5 nn) b39 (f3_a1 (f1 p5 (3 : Int32)) (f2 p5 (3 : Int32)) (f3_a1 (f1 p4 (3 : Int32)) (f2 p4 (3 : Int32)) (f3_a1 (f1 p3 (3 : Int32)) (f2 p3 (3 : Int32)) (w0_46 p2 p3 p4 p5 nn) (3 : Nat)) (3 : Nat)) (3 : Nat)) (3 : Nat) T67.heap F_b66_order A_b39 (by decide) (own_pp3 _)) (V := 0) (by decide) (by decide) (by decide) (by decide) (by rw [hml]; rfl) (argsL := [(.int (v0_59 p2 p3 p4 p5 nn))]) (rest := []) rfl (lenOf pd__I_I rfl) rfl (Nat.le_of_ble_eq_true rfl) (hb hby at_276) ?_
        rintro T68 _ _ ⟨rfl, rfl, e68⟩ X68
        rw [List.append_nil] at X68
        show Go p e below W T68 (mkF m 279 #[.val (.int p1), .val (.int p2), .val (.int p3), .val (.int p4), .val (.int p5), .val (.int (3 : Int32)), .val (.ref b39), .val (.int (v0_56 p2 p3 p4 p5 nn)), .val (.int (v0_57 p2 p3 p4 p5 nn)), .val (.int (v0_58 p2 p3 p4 p5 nn)), .val (.int (-1 : Int32)), .val (.int (v0_59 p2 p3 p4 p5 nn)), .val (.int (v0_60 p2 p3 p4 p5 nn)), .val (.int (v0_65 p2 p3 p4 p5 nn)), .val (.ref b66), .unset] [(.int (f6 (v0_59 p2 p3 p4 p5 nn) (f3_a1 (f1 p5 (3 : Int32)) (f2 p5 (3 : Int32)) (f3_a1 (f1 p4 (3 : Int32)) (f2 p4 (3 : Int32)) (f3_a1 (f1 p3 (3 : Int32)) (f2 p3 (3 : Int32)) (w0_46 p2 p3 p4 p5 nn) (3 : Nat)) (3 : Nat)) (3 : Nat)) (3 : Nat)))])
        refine Go.of (fun _ k => XS.istore X68.here hx rfl (hb hby at_279) rfl (l' := #[.val (.int p1), .val (.int p2), .val (.int p3), .val (.int p4), .val (.int p5), .val (.int (3 : Int32)), .val (.ref b39), .val (.int (v0_56 p2 p3 p4 p5 nn)), .val (.int (v0_57 p2 p3 p4 p5 nn)), .val (.int (v0_58 p2 p3 p4 p5 nn)), .val (.int (-1 : Int32)), .val (.int (v0_59 p2 p3 p4 p5 nn)), .val (.int (v0_60 p2 p3 p4 p5 nn)), .val (.int (v0_65 p2 p3 p4 p5 nn)), .val (.ref b66), .val (.int (v0_69 p2 p3 p4 p5 nn))]) rfl k) ?_
        show Go p e below W T68 (mkF m 281 #[.val (.int p1), .val (.int p2), .val (.int p3), .val (.int p4), .val (.int p5), .val (.int (3 : Int32)), .val (.ref b39), .val (.int (v0_56 p2 p3 p4 p5 nn)), .val (.int (v0_57 p2 p3 p4 p5 nn)), .val (.int (v0_58 p2 p3 p4 p5 nn)), .val (.int (-1 : Int32)), .val (.int (v0_59 p2 p3 p4 p5 nn)), .val (.int (v0_60 p2 p3 p4 p5 nn)), .val (.int (v0_65 p2 p3 p4 p5 nn)), .val (.ref b66), .val (.int (v0_69 p2 p3 p4 p5 nn))] [])
        refine Go.of (fun _ k => XS.iload X68.here hx rfl (hb hby at_281) rfl k) ?_
        show Go p e below W T68 (mkF m 283 #[.val (.int p1), .val (.int p2), .val (.int p3), .val (.int p4), .val (.int p5), .val (.int (3 : Int32)), .val (.ref b39), .val (.int (v0_56 p2 p3 p4 p5 nn)), .val (.int (v0_57 p2 p3 p4 p5 nn)), .val (.int (v0_58 p2 p3 p4 p5 nn)), .val (.int (-1 : Int32)), .val (.int (v0_59 p2 p3 p4 p5 nn)), .val (.int (v0_60 p2 p3 p4 p5 nn)), .val (.int (v0_65 p2 p3 p4 p5 nn)), .val (.ref b66), .val (.int (v0_69 p2 p3 p4 p5 nn))] [(.int (v0_69 p2 p3 p4 p5 nn))])
        refine Go.of (fun _ k => XS.iload X68.here hx rfl (hb hby at_283) rfl k) ?_
        show Go p e below W T68 (mkF m 285 #[.val (.int p1), .val (.int p2), .val (.int p3), .val (.int p4), .val (.int p5), .val (.int (3 : Int32)), .val (.ref b39), .val (.int (v0_56 p2 p3 p4 p5 nn)), .val (.int (v0_57 p2 p3 p4 p5 nn)), .val (.int (v0_58 p2 p3 p4 p5 nn)), .val (.int (-1 : Int32)), .val (.int (v0_59 p2 p3 p4 p5 nn)), .val (.int (v0_60 p2 p3 p4 p5 nn)), .val (.int (v0_65 p2 p3 p4 p5 nn)), .val (.ref b66), .val (.int (v0_69 p2 p3 p4 p5 nn))] [(.int (v0_65 p2 p3 p4 p5 nn)), (.int (v0_69 p2 p3 p4 p5 nn))])
        by_cases c70 : (v0_69 p2 p3 p4 p5 nn) = (v0_65 p2 p3 p4 p5 nn)
        · refine Go.of (fun _ k => XS.icmpNo X68.here hx rfl (hb hby at_285) rfl (Jvm.Free.XT.ii_ne_f c70) k) ?_
          show Go p e below W T68 (mkF m 288 #[.val (.int p1), .val (.int p2), .val (.int p3), .val (.int p4), .val (.int p5), .val (.int (3 : Int32)), .val (.ref b39), .val (.int (v0_56 p2 p3 p4 p5 nn)), .val (.int (v0_57 p2 p3 p4 p5 nn)), .val (.int (v0_58 p2 p3 p4 p5 nn)), .val (.int (-1 : Int32)), .val (.int (v0_59 p2 p3 p4 p5 nn)), .val (.int (v0_60 p2 p3 p4 p5 nn)), .val (.int (v0_65 p2 p3 p4 p5 nn)), .val (.ref b66), .val (.int (v0_69 p2 p3 p4 p5 nn))] [])
          refine Go.of (fun _ k => XS.iconst X68.here hx rfl (hb hby at_288) k) ?_
          show Go p e below W T68 (mkF m 289 #[.val (.int p1), .val (.int p2), .val (.int p3), .val (.int p4), .val (.int p5), .val (.int (3 : Int32)), .val (.ref b39), .val (.int (v0_56 p2 p3 p4 p5 nn)), .val (.int (v0_57 p2 p3 p4 p5 nn)), .val (.int (v0_58 p2 p3 p4 p5 nn)), .val (.int (-1 : Int32)), .val (.int (v0_59 p2 p3 p4 p5 nn)), .val (.int (v0_60 p2 p3 p4 p5 nn)), .val (.int (v0_65 p2 p3 p4 p5 nn)), .val (.ref b66), .val (.int (v0_69 p2 p3 p4 p5 nn))] [(.int (1 : Int32))])
          refine Go.of (fun _ k => XS.goto X68.here hx rfl (pc0 := 289) (pc' := 293) rfl (hb hby at_289) (by decide) (by decide) k) ?_
          show Go p e below W T68 (mkF m 293 #[.val (.int p1), .val (.int p2), .val (.int p3), .val (.int p4), .val (.int p5), .val (.int (3 : Int32)), .val (.ref b39), .val (.int (v0_56 p2 p3 p4 p5 nn)), .val (.int (v0_57 p2 p3 p4 p5 nn)), .val (.int (v0_58 p2 p3 p4 p5 nn)), .val (.int (-1 : Int32)), .val (.int (v0_59 p2 p3 p4 p5 nn)), .val (.int (v0_60 p2 p3 p4 p5 nn)), .val (.int (v0_65 p2 p3 p4 p5 nn)), .val (.ref b66), .val (.int (v0_69 p2 p3 p4 p5 nn))] [(.int (1 : Int32))])
          have u_f0 : (f0 p2 p3 p4 p5 nn) = (1 : Int32) := by rw [f0, if_neg c1, if_neg c2, if_pos c3, if_pos c70]
          have fin : Q0 Z p1 p2 p3 p4 p5 nn h0 n0 (some (.int (f0 p2 p3 p4 p5 nn))) T67.heap L67 := ⟨rfl, N, K⟩
          exact Go.retN X68 hx hret (Or.inl rfl) (hb hby at_293) hlk (Eq.trans rfl u_f0.symm) (fun t ht fe => hW t _ _ _ _ (by rw [ht, e68]; exact fin) fe (by decide) (by decide))
        · refine Go.of (fun _ k => XS.icmpYes X68.here hx rfl (pc0 := 285) (pc' := 292) rfl (hb hby at_285) rfl (Jvm.Free.XT.ii_ne_t c70) (by decide) (by decide) k) ?_
          show Go p e below W T68 (mkF m 292 #[.val (.int p1), .val (.int p2), .val (.int p3), .val (.int p4), .val (.int p5), .val (.int (3 : Int32)), .val (.ref b39), .val (.int (v0_56 p2 p3 p4 p5 nn)), .val (.int (v0_57 p2 p3 p4 p5 nn)), .val (.int (v0_58 p2 p3 p4 p5 nn)), .val (.int (-1 : Int32)), .val (.int (v0_59 p2 p3 p4 p5 nn)), .val (.int (v0_60 p2 p3 p4 p5 nn)), .val (.int (v0_65 p2 p3 p4 p5 nn)), .val (.ref b66), .val (.int (v0_69 p2 p3 p4 p5 nn))] [])
          refine Go.of (fun _ k => XS.iconst X68.here hx rfl (hb hby at_292) k) ?_
          show Go p e below W T68 (mkF m 293 #[.val (.int p1), .val (.int p2), .val (.int p3), .val (.int p4), .val (.int p5), .val (.int (3 : Int32)), .val (.ref b39), .val (.int (v0_56 p2 p3 p4 p5 nn)), .val (.int (v0_57 p2 p3 p4 p5 nn)), .val (.int (v0_58 p2 p3 p4 p5 nn)), .val (.int (-1 : Int32)), .val (.int (v0_59 p2 p3 p4 p5 nn)), .val (.int (v0_60 p2 p3 p4 p5 nn)), .val (.int (v0_65 p2 p3 p4 p5 nn)), .val (.ref b66), .val (.int (v0_69 p2 p3 p4 p5 nn))] [(.int (0 : Int32))])
          have u_f0 : (f0 p2 p3 p4 p5 nn) = (0 : Int32) := by rw [f0, if_neg c1, if_neg c2, if_pos c3, if_neg c70]
          have fin : Q0 Z p1 p2 p3 p4 p5 nn h0 n0 (some (.int (f0 p2 p3 p4 p5 nn))) T67.heap L67 := ⟨rfl, N, K⟩
          exact Go.retN X68 hx hret (Or.inl rfl) (hb hby at_293) hlk (Eq.trans rfl u_f0.symm) (fun t ht fe => hW t _ _ _ _ (by rw [ht, e68]; exact fin) fe (by decide) (by decide))
      · refine Go.of (fun _ k => XS.icmpYes X0.here hx rfl (pc0 := 50) (pc' := 73) rfl (hb hby at_50) rfl (Jvm.Free.XT.ii_ne_t c3) (by decide) (by decide) k) ?_
        show Go p e below W T0 (mkF m 73 #[.val (.int p1), .val (.int p2), .val (.int p3), .val (.int p4), .val (.int p5), .val (.int nn), .unset, .unset, .unset, .unset, .unset, .unset, .unset, .unset, .unset, .unset] [])
        have c4 : nn = 4 := own_n4 rn c1 c2 c3
        rw [c4]
        show Go p e below W T0 (mkF m 73 #[.val (.int p1), .val (.int p2), .val (.int p3), .val (.int p4), .val (.int p5), .val (.int (4 : Int32)), .unset, .unset, .unset, .unset, .unset, .unset, .unset, .unset, .unset, .unset] [])
        show Go p e below W T0 (mkF m 73 #[.val (.int p1), .val (.int p2), .val (.int p3), .val (.int p4), .val (.int p5), .val (.int (4 : Int32)), .unset, .unset, .unset, .unset, .unset, .unset, .unset, .unset, .unset, .unset] [])
        refine Go.of (fun _ k => XS.iconst X0.here hx rfl (hb hby at_73) k) ?_
        show Go p e below W T0 (mkF m 74 #[.val (.int p1), .val (.int p2), .val (.int p3), .val (.int p4), .val (.int p5), .val (.int (4 : Int32)), .unset, .unset, .unset, .unset, .unset, .unset, .unset, .unset, .unset, .unset] [(.int (4 : Int32))])
        refine Go.newA X0 hx hZ (hw _ (List.mem_of_getElem? (i := 0) rfl)) rfl rfl rfl e0 (hb hby at_74) (by decide) (cap := 4) (by decide) (by decide) (by decide) (by decide) ?_
        intro T4 h4 b4 zq4 X4 e4 E4 E_b4 A_b4
        have g_b4 : n0 ≤ b4 := by rw [zq4]; exact Z0
        have s_b4 : h0.size ≤ b4 := by rw [zq4]; exact K.1
        have K := K.ext E4
        have Z0 := Nat.le_trans Z0 E4.1
        have A_b4 : AI Z h4 b4 .int 4 (w0_5 p2 p3 p4 p5 nn) := A_b4
        show Go p e below W T4 (mkF m 76 #[.val (.int p1), .val (.int p2), .val (.int p3), .val (.int p4), .val (.int p5), .val (.int (4 : Int32)), .unset, .unset, .unset, .unset, .unset, .unset, .unset, .unset, .unset, .unset] [(.ref b4)])
        refine Go.of (fun _ k => XS.dup X4.here hx rfl (hb hby at_76) rfl rfl k) ?_
        show Go p e below W T4 (mkF m 77 #[.val (.int p1), .val (.int p2), .val (.int p3), .val (.int p4), .val (.int p5), .val (.int (4 : Int32)), .unset, .unset, .unset, .unset, .unset, .unset, .unset, .unset, .unset, .unset] [(.ref b4), (.ref b4)])
        refine Go.of (fun _ k => XS.iconst X4.here hx rfl (hb hby at_77) k) ?_
        show Go p e below W T4 (mkF m 78 #[.val (.int p1), .val (.int p2), .val (.int p3), .val (.int p4), .val (.int p5), .val (.int (4 : Int32)), .unset, .unset, .unset, .unset, .unset, .unset, .unset, .unset, .unset, .unset] [(.int (0 : Int32)), (.ref b4), (.ref b4)])
        refine Go.of (fun _ k => XS.iconst X4.here hx rfl (hb hby at_78) k) ?_
        show Go p e below W T4 (mkF m 79 #[.val (.int p1), .val (.int p2), .val (.int p3), .val (.int p4), .val (.int p5), .val (.int (4 : Int32)), .unset, .unset, .unset, .unset, .unset, .unset, .unset, .unset, .unset, .unset] [(.int (0 : Int32)), (.int (0 : Int32)), (.ref b4), (.ref b4)])
        refine Go.ist X4 hx hZ e4 N g_b4 A_b4 ⟨by decide, by decide⟩ (hb hby at_79) ?_
        intro T6 h6 L6 X6 N e6 W6 A_b4
        have K := K.wr W6 (Or.inr s_b4)
        have Z0 := Nat.le_trans Z0 (Keep.of_wr W6).1
        have A_b4 : AI Z h6 b4 .int 4 (w0_7 p2 p3 p4 p5 nn) := A_b4
        show Go p e below W T6 (mkF m 80 #[.val (.int p1), .val (.int p2), .val (.int p3), .val (.int p4), .val (.int p5), .val (.int (4 : Int32)), .unset, .unset, .unset, .unset, .unset, .unset, .unset, .unset, .unset, .unset] [(.ref b4)])
        refine Go.of (fun _ k => XS.dup X6.here hx rfl (hb hby at_80) rfl rfl k) ?_
        show Go p e below W T6 (mkF m 81 #[.val (.int p1), .val (.int p2), .val (.int p3), .val (.int p4), .val (.int p5), .val (.int (4 : Int32)), .unset, .unset, .unset, .unset, .unset, .unset, .unset, .unset, .unset, .unset] [(.ref b4), (.ref b4)])
        refine Go.of (fun _ k => XS.iconst X6.here hx rfl (hb hby at_81) k) ?_
        show Go p e below W T6 (mkF m 82 #[.val (.int p1), .val (.int p2), .val (.int p3), .val (.int p4), .val (.int p5), .val (.int (4 : Int32)), .unset, .unset, .unset, .unset, .unset, .unset, .unset, .unset, .unset, .unset] [(.int (1 : Int32)), (.ref b4), (.ref b4)])
        refine Go.of (fun _ k => XS.iconst X6.here hx rfl (hb hby at_82) k) ?_
        show Go p e below W T6 (mkF m 83 #[.val (.int p1), .val (.int p2), .val (.int p3), .val (.int p4), .val (.int p5), .val (.int (4 : Int32)), .unset, .unset, .unset, .unset, .unset, .unset, .unset, .unset, .unset, .unset] [(.int (1 : Int32)), (.int (1 : Int32)), (.ref b4), (.ref b4)])
        refine Go.ist X6 hx hZ e6 N g_b4 A_b4 ⟨by decide, by decide⟩ (hb hby at_83) ?_
        intro T8 h8 L8 X8 N e8 W8 A_b4
        have K := K.wr W8 (Or.inr s_b4)
        have Z0 := Nat.le_trans Z0 (Keep.of_wr W8).1
        have A_b4 : AI Z h8 b4 .int 4 (w0_9 p2 p3 p4 p5 nn) := A_b4
        show Go p e below W T8 (mkF m 84 #[.val (.int p1), .val (.int p2), .val (.int p3), .val (.int p4), .val (.int p5), .val (.int (4 : Int32)), .unset, .unset, .unset, .unset, .unset, .unset, .unset, .unset, .unset, .unset] [(.ref b4)])
        refine Go.of (fun _ k => XS.dup X8.here hx rfl (hb hby at_84) rfl rfl k) ?_
        show Go p e below W T8 (mkF m 85 #[.val (.int p1), .val (.int p2), .val (.int p3), .val (.int p4), .val (.int p5), .val (.int (4 : Int32)), .unset, .unset, .unset, .unset, .unset, .unset, .unset, .unset, .unset, .unset] [(.ref b4), (.ref b4)])
        refine Go.of (fun _ k => XS.iconst X8.here hx rfl (hb hby at_85) k) ?_
        show Go p e below W T8 (mkF m 86 #[.val (.int p1), .val (.int p2), .val (.int p3), .val (.int p4), .val (.int p5), .val (.int (4 : Int32)), .unset, .unset, .unset, .unset, .unset, .unset, .unset, .unset, .unset, .unset] [(.int (2 : Int32)), (.ref b4), (.ref b4)])
        refine Go.of (fun _ k => XS.iconst X8.here hx rfl (hb hby at_86) k) ?_
        show Go p e below W T8 (mkF m 87 #[.val (.int p1), .val (.int p2), .val (.int p3), .val (.int p4), .val (.int p5), .val (.int (4 : Int32)), .unset, .unset, .unset, .unset, .unset, .unset, .unset, .unset, .unset, .unset] [(.int (2 : Int32)), (.int (2 : Int32)), (.ref b4), (.ref b4)])
        refine Go.ist X8 hx hZ e8 N g_b4 A_b4 ⟨by decide, by decide⟩ (hb hby at_87) ?_
        intro T10 h10 L10 X10 N e10 W10 A_b4
        have K := K.wr W10 (Or.inr s_b4)
        have Z0 := Nat.le_trans Z0 (Keep.of_wr W10).1
        have A_b4 : AI Z h10 b4 .int 4 (w0_11 p2 p3 p4 p5 nn) := A_b4
        show Go p e below W T10 (mkF m 88 #[.val (.int p1), .val (.int p2), .val (.int p3), .val (.int p4), .val (.int p5), .val (.int (4 : Int32)), .unset, .unset, .unset, .unset, .unset, .unset, .unset, .unset, .unset, .unset] [(.ref b4)])
        refine Go.of (fun _ k => XS.dup X10.here hx rfl (hb hby at_88) rfl rfl k) ?_
        show Go p e below W T10 (mkF m 89 #[.val (.int p1), .val (.int p2), .val (.int p3), .val (.int p4), .val (.int p5), .val (.int (4 : Int32)), .unset, .unset, .unset, .unset, .unset, .unset, .unset, .unset, .unset, .unset] [(.ref b4), (.ref b4)])
        refine Go.of (fun _ k => XS.iconst X10.here hx rfl (hb hby at_89) k) ?_
        show Go p e below W T10 (mkF m 90 #[.val (.int p1), .val (.int p2), .val (.int p3), .val (.int p4), .val (.int p5), .val (.int (4 : Int32)), .unset, .unset, .unset, .unset, .unset, .unset, .unset, .unset, .unset, .unset] [(.int (3 : Int32)), (.ref b4), (.ref b4)])
        refine Go.of (fun _ k => XS.iconst X10.here hx rfl (hb hby at_90) k) ?_
        show Go p e below W T10 (mkF m 91 #[.val (.int p1), .val (.int p2), .val (.int p3), .val (.int p4), .val (.int p5), .val (.int (4 : Int32)), .unset, .unset, .unset, .unset, .unset, .unset, .unset, .unset, .unset, .unset] [(.int (3 : Int32)), (.int (3 : Int32)), (.ref b4), (.ref b4)])
        refine Go.ist X10 hx hZ e10 N g_b4 A_b4 ⟨by decide, by decide⟩ (hb hby at_91) ?_
        intro T12 h12 L12 X12 N e12 W12 A_b4
        have K := K.wr W12 (Or.inr s_b4)
        have Z0 := Nat.le_trans Z0 (Keep.of_wr W12).1
        have A_b4 : AI Z h12 b4 .int 4 (w0_13 p2 p3 p4 p5 nn) := A_b4
        show Go p e below W T12 (mkF m 92 #[.val (.int p1), .val (.int p2), .val (.int p3), .val (.int p4), .val (.int p5), .val (.int (4 : Int32)), .unset, .unset, .unset, .unset, .unset, .unset, .unset, .unset, .unset, .unset] [(.ref b4)])
        refine Go.of (fun _ k => XS.astore X12.here hx rfl (hb hby at_92) rfl rfl (l' := #[.val (.int p1), .val (.int p2), .val (.int p3), .val (.int p4), .val (.int p5), .val (.int (4 : Int32)), .val (.ref b4), .unset, .unset, .unset, .unset, .unset, .unset, .unset, .unset, .unset]) rfl k) ?_
        show Go p e below W T12 (mkF m 94 #[.val (.int p1), .val (.int p2), .val (.int p3), .val (.int p4), .val (.int p5), .val (.int (4 : Int32)), .val (.ref b4), .unset, .unset, .unset, .unset, .unset, .unset, .unset, .unset, .unset] [])
        refine Go.of (fun _ k => XS.aload X12.here hx rfl (hb hby at_94) rfl rfl k) ?_
        show Go p e below W T12 (mkF m 96 #[.val (.int p1), .val (.int p2), .val (.int p3), .val (.int p4), .val (.int p5), .val (.int (4 : Int32)), .val (.ref b4), .unset, .unset, .unset, .unset, .unset, .unset, .unset, .unset, .unset] [(.ref b4)])
        refine Go.of (fun _ k => XS.iloadN X12.here hx rfl (hb hby at_96) rfl k) ?_
        show Go p e below W T12 (mkF m 97 #[.val (.int p1), .val (.int p2), .val (.int p3), .val (.int p4), .val (.int p5), .val (.int (4 : Int32)), .val (.ref b4), .unset, .unset, .unset, .unset, .unset, .unset, .unset, .unset, .unset] [(.int p3), (.ref b4)])
        refine Go.of (fun _ k => XS.iload X12.here hx rfl (hb hby at_97) rfl k) ?_
        show Go p e below W T12 (mkF m 99 #[.val (.int p1), .val (.int p2), .val (.int p3), .val (.int p4), .val (.int p5), .val (.int (4 : Int32)), .val (.ref b4), .unset, .unset, .unset, .unset, .unset, .unset, .unset, .unset, .unset] [(.int (4 : Int32)), (.int p3), (.ref b4)])
        refine Go.callP X12 hx hZ hown (hw _ (List.mem_of_getElem? (i := 1) rfl)) (hw _ (List.mem_of_getElem? (i := 2) rfl)) (hw _ (List.mem_of_getElem? (i := 3) rfl)) (hw _ (List.mem_of_getElem? (i := 4) rfl)) (by decide) e12 (rm1 l Z a0 hw [] p3 (4 : Int32) h12 (by decide)) (V := 1) (by decide) (by decide) rfl rfl (by decide) (by decide) (by rw [hml]; rfl) (argsL := [(.int p3), (.int (4 : Int32))]) (rest := [(.ref b4)]) rfl (lenOf pd__II_I rfl) rfl (Nat.le_of_ble_eq_true rfl) (hb hby at_99) ?_
        intro T14 X14 e14
        show Go p e below W T14 (mkF m 102 #[.val (.int p1), .val (.int p2), .val (.int p3), .val (.int p4), .val (.int p5), .val (.int (4 : Int32)), .val (.ref b4), .unset, .unset, .unset, .unset, .unset, .unset, .unset, .unset, .unset] [(.int (f1 p3 (4 : Int32))), (.ref b4)])
        refine Go.of (fun _ k => XS.iloadN X14.here hx rfl (hb hby at_102) rfl k) ?_
        show Go p e below W T14 (mkF m 103 #[.val (.int p1), .val (.int p2), .val (.int p3), .val (.int p4), .val (.int p5), .val (.int (4 : Int32)), .val (.ref b4), .unset, .unset, .unset, .unset, .unset, .unset, .unset, .unset, .unset] [(.int p3), (.int (f1 p3 (4 : Int32))), (.ref b4)])
        refine Go.of (fun _ k => XS.iload X14.here hx rfl (hb hby at_103) rfl k) ?_
        show Go p e below W T14 (mkF m 105 #[.val (.int p1), .val (.int p2), .val (.int p3), .val (.int p4), .val (.int p5), .val (.int (4 : Int32)), .val (.ref b4), .unset, .unset, .unset, .unset, .unset, .unset, .unset, .unset, .unset] [(.int (4 : Int32)), (.int p3), (.int (f1 p3 (4 : Int32))), (.ref b4)])
        refine Go.callP X14 hx hZ hown (hw _ (List.mem_of_getElem? (i := 5) rfl)) (hw _ (List.mem_of_getElem? (i := 6) rfl)) (hw _ (List.mem_of_getElem? (i := 3) rfl)) (hw _ (List.mem_of_getElem? (i := 7) rfl)) (by decide) e14 (rm2 l Z a0 hw [] p3 (4 : Int32) h12 (by decide)) (V := 2) (by decide) (by decide) rfl rfl (by decide) (by decide) (by rw [hml]; rfl) (argsL := [(.int p3), (.int (4 : Int32))]) (rest := [(.int (f1 p3 (4 : Int32))), (.ref b4)]) rfl (lenOf pd__II_I rfl) rfl (Nat.le_of_ble_eq_true rfl) (hb hby at_105) ?_
        intro T15 X15 e15
        show Go p e below W T15 (mkF m 108 #[.val (.int p1), .val (.int p2), .val (.int p3), .val (.int p4), .val (.int p5), .val (.int (4 : Int32)), .val (.ref b4), .unset, .unset, .unset, .unset, .unset, .unset, .unset, .unset, .unset] [(.int (f2 p3 (4 : Int32))), (.int (f1 p3 (4 : Int32))), (.ref b4)])
        refine Go.callS X15 hx hZ hown (hw _ (List.mem_of_getElem? (i := 8) rfl)) (hw _ (List.mem_of_getElem? (i := 9) rfl)) (hw _ (List.mem_of_getElem? (i := 3) rfl)) (hw _ (List.mem_of_getElem? (i := 10) rfl)) (by decide) e15 (rm3 l Z a0 hw [] b4 (f1 p3 (4 : Int32)) (f2 p3 (4 : Int32)) (w0_13 p2 p3 p4 p5 nn) (4 : Nat) h12 n0 Z0 A_b4 g_b4 (own_lo4 _) (own_hi4 _)) (V := 0) (by decide) (by decide) (by decide) (by decide) (by rw [hml]; rfl) (argsL := [(.ref b4), (.int (f1 p3 (4 : Int32))), (.int (f2 p3 (4 : Int32)))]) (rest := []) rfl (lenOf pd___III_V rfl) rfl (Nat.le_of_ble_eq_true rfl) (hb hby at_108) ?_
        rintro T16 _ M16 ⟨rfl, N16, K16, A_b4⟩ X16
        obtain ⟨L16, zq16⟩ : ∃ z, z = L12 ++ M16 := ⟨_, rfl⟩
        have N := Fr.app N N16
        rw [← zq16] at X16 N
        have K := K.trans K16 (by
          intro x hx
          simp only [List.mem_cons, List.not_mem_nil, or_false] at hx
          rcases hx with rfl
          · exact Or.inr s_b4)
        have Z0 := Nat.le_trans Z0 K16.1
        show Go p e below W T16 (mkF m 111 #[.val (.int p1), .val (.int p2), .val (.int p3), .val (.int p4), .val (.int p5), .val (.int (4 : Int32)), .val (.ref b4), .unset, .unset, .unset, .unset, .unset, .unset, .unset, .unset, .unset] [])
        refine Go.of (fun _ k => XS.aload X16.here hx rfl (hb hby at_111) rfl rfl k) ?_
        show Go p e below W T16 (mkF m 113 #[.val (.int p1), .val (.int p2), .val (.int p3), .val (.int p4), .val (.int p5), .val (.int (4 : Int32)), .val (.ref b4), .unset, .unset, .unset, .unset, .unset, .unset, .unset, .unset, .unset] [(.ref b4)])
        refine Go.of (fun _ k => XS.iloadN X16.here hx rfl (hb hby at_113) rfl k) ?_
        show Go p e below W T16 (mkF m 114 #[.val (.int p1), .val (.int p2), .val (.int p3), .val (.int p4), .val (.int p5), .val (.int (4 : Int32)), .val (.ref b4), .unset, .unset, .unset, .unset, .unset, .unset, .unset, .unset, .unset] [(.int p4), (.ref b4)])
        refine Go.of (fun _ k => XS.iload X16.here hx rfl (hb hby at_114) rfl k) ?_
        show Go p e below W T16 (mkF m 116 #[.val (.int p1), .val (.int p2), .val (.int p3), .val (.int p4), .val (.int p5), .val (.int (4 : Int32)), .val (.ref b4), .unset, .unset, .unset, .unset, .unset, .unset, .unset, .unset, .unset] [(.int (4 : Int32)), (.int p4), (.ref b4)])
        refine Go.callP X16 hx hZ hown (hw _ (List.mem_of_getElem? (i := 1) rfl)) (hw _ (List.mem_of_getElem? (i := 2) rfl)) (hw _ (List.mem_of_getElem? (i := 3) rfl)) (hw _ (List.mem_of_getElem? (i := 4) rfl)) (by decide) rfl (rm1 l Z a0 hw [] p4 (4 : Int32) T16.heap (by decide)) (V := 1) (by decide) (by decide) rfl rfl (by decide) (by decide) (by rw [hml]; rfl) (argsL := [(.int p4), (.int (4 : Int32))]) (rest := [(.ref b4)]) rfl (lenOf pd__II_I rfl) rfl (Nat.le_of_ble_eq_true rfl) (hb hby at_116) ?_
        intro T17 X17 e17
        show Go p e below W T17 (mkF m 119 #[.val (.int p1), .val (.int p2), .val (.int p3), .val (.int p4), .val (.int p5), .val (.int (4 : Int32)), .val (.ref b4), .unset, .unset, .unset, .unset, .unset, .unset, .unset, .unset, .unset] [(.int (f1 p4 (4 : Int32))), (.ref b4)])
        refine Go.of (fun _ k => XS.iloadN X17.here hx rfl (hb hby at_119) rfl k) ?_
        show Go p e below W T17 (mkF m 120 #[.val (.int p1), .val (.int p2), .val (.int p3), .val (.int p4), .val (.int p5), .val (.int (4 : Int32)), .val (.ref b4), .unset, .unset, .unset, .unset, .unset, .unset, .unset, .unset, .unset] [(.int p4), (.int (f1 p4 (4 : Int32))), (.ref b4)])
        refine Go.of (fun _ k => XS.iload X17.here hx rfl (hb hby at_120) rfl k) ?_
        show Go p e below W T17 (mkF m 122 #[.val (.int p1), .val (.int p2), .val (.int p3), .val (.int p4), .val (.int p5), .val (.int (4 : Int32)), .val (.ref b4), .unset, .unset, .unset, .unset, .unset, .unset, .unset, .unset, .unset] [(.int (4 : Int32)), (.int p4), (.int (f1 p4 (4 : Int32))), (.ref b4)])
        refine Go.callP X17 hx hZ hown (hw _ (List.mem_of_getElem? (i := 5) rfl)) (hw _ (List.mem_of_getElem? (i := 6) rfl)) (hw _ (List.mem_of_getElem? (i := 3) rfl)) (hw _ (List.mem_of_getElem? (i := 7) rfl)) (by decide) e17 (rm2 l Z a0 hw [] p4 (4 : Int32) T16.heap (by decide)) (V := 2) (by decide) (by decide) rfl rfl (by decide) (by decide) (by rw [hml]; rfl) (argsL := [(.int p4), (.int (4 : Int32))]) (rest := [(.int (f1 p4 (4 : Int32))), (.ref b4)]) rfl (lenOf pd__II_I rfl) rfl (Nat.le_of_ble_eq_true rfl) (hb hby at_122) ?_
        intro T18 X18 e18
        show Go p e below W T18 (mkF m 125 #[.val (.int p1), .val (.int p2), .val (.int p3), .val (.int p4), .val (.int p5), .val (.int (4 : Int32)), .val (.ref b4), .unset, .unset, .unset, .unset, .unset, .unset, .unset, .unset, .unset] [(.int (f2 p4 (4 : Int32))), (.int (f1 p4 (4 : Int32))), (.ref b4)])
        refine Go.callS X18 hx hZ hown (hw _ (List.mem_of_getElem? (i := 8) rfl)) (hw _ (List.mem_of_getElem? (i := 9) rfl)) (hw _ (List.mem_of_getElem? (i := 3) rfl)) (hw _ (List.mem_of_getElem? (i := 10) rfl)) (by decide) e18 (rm3 l Z a0 hw [] b4 (f1 p4 (4 : Int32)) (f2 p4 (4 : Int32)) (f3_a1 (f1 p3 (4 : Int32)) (f2 p3 (4 : Int32)) (w0_13 p2 p3 p4 p5 nn) (4 : Nat)) (4 : Nat) T16.heap n0 Z0 A_b4 g_b4 (own_lo4 _) (own_hi4 _)) (V := 0) (by decide) (by decide) (by decide) (by decide) (by rw [hml]; rfl) (argsL := [(.ref b4), (.int (f1 p4 (4 : Int32))), (.int (f2 p4 (4 : Int32)))]) (rest := []) rfl (lenOf pd___III_V rfl) rfl (Nat.le_of_ble_eq_true rfl) (hb hby at_125) ?_
        rintro T19 _ M19 ⟨rfl, N19, K19, A_b4⟩ X19
        obtain ⟨L19, zq19⟩ : ∃ z, z = L16 ++ M19 := ⟨_, rfl⟩
        have N := Fr.app N N19
        rw [← zq19] at X19 N
        have K := K.trans K19 (by
          intro x hx
          simp only [List.mem_cons, List.not_mem_nil, or_false] at hx
          rcases hx with rfl
          · exact Or.inr s_b4)
        have Z0 := Nat.le_trans Z0 K19.1
        show Go p e below W T19 (mkF m 128 #[.val (.int p1), .val (.int p2), .val (.int p3), .val (.int p4), .val (.int p5), .val (.int (4 : Int32)), .val (.ref b4), .unset, .unset, .unset, .unset, .unset, .unset, .unset, .unset, .unset] [])
        refine Go.of (fun _ k => XS.aload X19.here hx rfl (hb hby at_128) rfl rfl k) ?_
        show Go p e below W T19 (mkF m 130 #[.val (.int p1), .val (.int p2), .val (.int p3), .val (.int p4), .val (.int p5), .val (.int (4 : Int32)), .val (.ref b4), .unset, .unset, .unset, .unset, .unset, .unset, .unset, .unset, .unset] [(.ref b4)])
        refine Go.of (fun _ k => XS.iload X19.here hx rfl (hb hby at_130) rfl k) ?_
        show Go p e below W T19 (mkF m 132 #[.val (.int p1), .val (.int p2), .val (.int p3), .val (.int p4), .val (.int p5), .val (.int (4 : Int32)), .val (.ref b4), .unset, .unset, .unset, .unset, .unset, .unset, .unset, .unset, .unset] [(.int p5), (.ref b4)])
        refine Go.of (fun _ k => XS.iload X19.here hx rfl (hb hby at_132) rfl k) ?_
        show Go p e below W T19 (mkF m 134 #[.val (.int p1), .val (.int p2), .val (.int p3), .val (.int p4), .val (.int p5), .val (.int (4 : Int32)), .val (.ref b4), .unset, .unset, .unset, .unset, .unset, .unset, .unset, .unset, .unset] [(.int (4 : Int32)), (.int p5), (.ref b4)])
        refine Go.callP X19 hx hZ hown (hw _ (List.mem_of_getElem? (i := 1) rfl)) (hw _ (List.mem_of_getElem? (i := 2) rfl)) (hw _ (List.mem_of_getElem? (i := 3) rfl)) (hw _ (List.mem_of_getElem? (i := 4) rfl)) (by decide) rfl (rm1 l Z a0 hw [] p5 (4 : Int32) T19.heap (by decide)) (V := 1) (by decide) (by decide) rfl rfl (by decide) (by decide) (by rw [hml]; rfl) (argsL := [(.int p5), (.int (4 : Int32))]) (rest := [(.ref b4)]) rfl (lenOf pd__II_I rfl) rfl (Nat.le_of_ble_eq_true rfl) (hb hby at_134) ?_
        intro T20 X20 e20
        show Go p e below W T20 (mkF m 137 #[.val (.int p1), .val (.int p2), .val (.int p3), .val (.int p4), .val (.int p5), .val (.int (4 : Int32)), .val (.ref b4), .unset, .unset, .unset, .unset, .unset, .unset, .unset, .unset, .unset] [(.int (f1 p5 (4 : Int32))), (.ref b4)])
        refine Go.of (fun _ k => XS.iload X20.here hx rfl (hb hby at_137) rfl k) ?_
        show Go p e below W T20 (mkF m 139 #[.val (.int p1), .val (.int p2), .val (.int p3), .val (.int p4), .val (.int p5), .val (.int (4 : Int32)), .val (.ref b4), .unset, .unset, .unset, .unset, .unset, .unset, .unset, .unset, .unset] [(.int p5), (.int (f1 p5 (4 : Int32))), (.ref b4)])
        refine Go.of (fun _ k => XS.iload X20.here hx rfl (hb hby at_139) rfl k) ?_
        show Go p e below W T20 (mkF m 141 #[.val (.int p1), .val (.int p2), .val (.int p3), .val (.int p4), .val (.int p5), .val (.int (4 : Int32)), .val (.ref b4), .unset, .unset, .unset, .unset, .unset, .unset, .unset, .unset, .unset] [(.int (4 : Int32)), (.int p5), (.int (f1 p5 (4 : Int32))), (.ref b4)])
        refine Go.callP X20 hx hZ hown (hw _ (List.mem_of_getElem? (i := 5) rfl)) (hw _ (List.mem_of_getElem? (i := 6) rfl)) (hw _ (List.mem_of_getElem? (i := 3) rfl)) (hw _ (List.mem_of_getElem? (i := 7) rfl)) (by decide) e20 (rm2 l Z a0 hw [] p5 (4 : Int32) T19.heap (by decide)) (V := 2) (by decide) (by decide) rfl rfl (by decide) (by decide) (by rw [hml]; rfl) (argsL := [(.int p5), (.int (4 : Int32))]) (rest := [(.int (f1 p5 (4 : Int32))), (.ref b4)]) rfl (lenOf pd__II_I rfl) rfl (Nat.le_of_ble_eq_true rfl) (hb hby at_141) ?_
        intro T21 X21 e21
        show Go p e below W T21 (mkF m 144 #[.val (.int p1), .val (.int p2), .val (.int p3), .val (.int p4), .val (.int p5), .val (.int (4 : Int32)), .val (.ref b4), .unset, .unset, .unset, .unset, .unset, .unset, .unset, .unset, .unset] [(.int (f2 p5 (4 : Int32))), (.int (f1 p5 (4 : Int32))), (.ref b4)])
        refine Go.callS X21 hx hZ hown (hw _ (List.mem_of_getElem? (i := 8) rfl)) (hw _ (List.mem_of_getElem? (i := 9) rfl)) (hw _ (List.mem_of_getElem? (i := 3) rfl)) (hw _ (List.mem_of_getElem? (i := 10) rfl)) (by decide) e21 (rm3 l Z a0 hw [] b4 (f1 p5 (4 : Int32)) (f2 p5 (4 : Int32)) (f3_a1 (f1 p4 (4 : Int32)) (f2 p4 (4 : Int32)) (f3_a1 (f1 p3 (4 : Int32)) (f2 p3 (4 : Int32)) (w0_13 p2 p3 p4 p5 nn) (4 : Nat)) (4 : Nat)) (4 : Nat) T19.heap n0 Z0 A_b4 g_b4 (own_lo4 _) (own_hi4 _)) (V := 0) (by decide) (by decide) (by decide) (by decide) (by rw [hml]; rfl) (argsL := [(.ref b4), (.int (f1 p5 (4 : Int32))), (.int (f2 p5 (4 : Int32)))]) (rest := []) rfl (lenOf pd___III_V rfl) rfl (Nat.le_of_ble_eq_true rfl) (hb hby at_144) ?_
        rintro T22 _ M22 ⟨rfl, N22, K22, A_b4⟩ X22
        obtain ⟨L22, zq22⟩ : ∃ z, z = L19 ++ M22 := ⟨_, rfl⟩
        have N := Fr.app N N22
        rw [← zq22] at X22 N
        have K := K.trans K22 (by
          intro x hx
          simp only [List.mem_cons, List.not_mem_nil, or_false] at hx
          rcases hx with rfl
          · exact Or.inr s_b4)
        have Z0 := Nat.le_trans Z0 K22.1
        show Go p e below W T22 (mkF m 147 #[.val (.int p1), .val (.int p2), .val (.int p3), .val (.int p4), .val (.int p5), .val (.int (4 : Int32)), .val (.ref b4), .unset, .unset, .unset, .unset, .unset, .unset, .unset, .unset, .unset] [])
        refine Go.of (fun _ k => XS.aload X22.here hx rfl (hb hby at_147) rfl rfl k) ?_
        show Go p e below W T22 (mkF m 149 #[.val (.int p1), .val (.int p2), .val (.int p3), .val (.int p4), .val (.int p5), .val (.int (4 : Int32)), .val (.ref b4), .unset, .unset, .unset, .unset, .unset, .unset, .unset, .unset, .unset] [(.ref b4)])
        refine Go.of (fun _ k => XS.iconst X22.here hx rfl (hb hby at_149) k) ?_
        show Go p e below W T22 (mkF m 150 #[.val (.int p1), .val (.int p2), .val (.int p3), .val (.int p4), .val (.int p5), .val (.int (4 : Int32)), .val (.ref b4), .unset, .unset, .unset, .unset, .unset, .unset, .unset, .unset, .unset] [(.int (0 : Int32)), (.ref b4)])
        refine Go.iald X22 hx hZ rfl A_b4 ⟨by decide, by decide⟩ (hb hby at_150) ?_
        show Go p e below W T22 (mkF m 151 #[.val (.int p1), .val (.int p2), .val (.int p3), .val (.int p4), .val (.int p5), .val (.int (4 : Int32)), .val (.ref b4), .unset, .unset, .unset, .unset, .unset, .unset, .unset, .unset, .unset] [(.int ((f3_a1 (f1 p5 (4 : Int32)) (f2 p5 (4 : Int32)) (f3_a1 (f1 p4 (4 : Int32)) (f2 p4 (4 : Int32)) (f3_a1 (f1 p3 (4 : Int32)) (f2 p3 (4 : Int32)) (w0_13 p2 p3 p4 p5 nn) (4 : Nat)) (4 : Nat)) (4 : Nat)) 0))])
        refine Go.of (fun _ k => XS.istore X22.here hx rfl (hb hby at_151) rfl (l' := #[.val (.int p1), .val (.int p2), .val (.int p3), .val (.int p4), .val (.int p5), .val (.int (4 : Int32)), .val (.ref b4), .val (.int (v0_23 p2 p3 p4 p5 nn)), .unset, .unset, .unset, .unset, .unset, .unset, .unset, .unset]) rfl k) ?_
        show Go p e below W T22 (mkF m 153 #[.val (.int p1), .val (.int p2), .val (.int p3), .val (.int p4), .val (.int p5), .val (.int (4 : Int32)), .val (.ref b4), .val (.int (v0_23 p2 p3 p4 p5 nn)), .unset, .unset, .unset, .unset, .unset, .unset, .unset, .unset] [])
        refine Go.of (fun _ k => XS.iload X22.here hx rfl (hb hby at_153) rfl k) ?_
        show Go p e below W T22 (mkF m 155 #[.val (.int p1), .val (.int p2), .val (.int p3), .val (.int p4), .val (.int p5), .val (.int (4 : Int32)), .val (.ref b4), .val (.int (v0_23 p2 p3 p4 p5 nn)), .unset, .unset, .unset, .unset, .unset, .unset, .unset, .unset] [(.int (4 : Int32))])
        refine Go.of (fun _ k => XS.iconst X22.here hx rfl (hb hby at_155) k) ?_
        show Go p e below W T22 (mkF m 156 #[.val (.int p1), .val (.int p2), .val (.int p3), .val (.int p4), .val (.int p5), .val (.int (4 : Int32)), .val (.ref b4), .val (.int (v0_23 p2 p3 p4 p5 nn)), .unset, .unset, .unset, .unset, .unset, .unset, .unset, .unset] [(.int (1 : Int32)), (.int (4 : Int32))])
        refine Go.of (fun _ k => XS.icmpNo X22.here hx rfl (hb hby at_156) rfl (Jvm.Free.XT.ii_le_f (by decide)) k) ?_
        show Go p e below W T22 (mkF m 159 #[.val (.int p1), .val (.int p2), .val (.int p3), .val (.int p4), .val (.int p5), .val (.int (4 : Int32)), .val (.ref b4), .val (.int (v0_23 p2 p3 p4 p5 nn)), .unset, .unset, .unset, .unset, .unset, .unset, .unset, .unset] [])
        refine Go.of (fun _ k => XS.aload X22.here hx rfl (hb hby at_159) rfl rfl k) ?_
        show Go p e below W T22 (mkF m 161 #[.val (.int p1), .val (.int p2), .val (.int p3), .val (.int p4), .val (.int p5), .val (.int (4 : Int32)), .val (.ref b4), .val (.int (v0_23 p2 p3 p4 p5 nn)), .unset, .unset, .unset, .unset, .unset, .unset, .unset, .unset] [(.ref b4)])
        refine Go.of (fun _ k => XS.iconst X22.here hx rfl (hb hby at_161) k) ?_
        show Go p e below W T22 (mkF m 162 #[.val (.int p1), .val (.int p2), .val (.int p3), .val (.int p4), .val (.int p5), .val (.int (4 : Int32)), .val (.ref b4), .val (.int (v0_23 p2 p3 p4 p5 nn)), .unset, .unset, .unset, .unset, .unset, .unset, .unset, .unset] [(.int (1 : Int32)), (.ref b4)])
        refine Go.iald X22 hx hZ rfl A_b4 ⟨by decide, by decide⟩ (hb hby at_162) ?_
        show Go p e below W T22 (mkF m 163 #[.val (.int p1), .val (.int p2), .val (.int p3), .val (.int p4), .val (.int p5), .val (.int (4 : Int32)), .val (.ref b4), .val (.int (v0_23 p2 p3 p4 p5 nn)), .unset, .unset, .unset, .unset, .unset, .unset, .unset, .unset] [(.int ((f3_a1 (f1 p5 (4 : Int32)) (f2 p5 (4 : Int32)) (f3_a1 (f1 p4 (4 : Int32)) (f2 p4 (4 : Int32)) (f3_a1 (f1 p3 (4 : Int32)) (f2 p3 (4 : Int32)) (w0_13 p2 p3 p4 p5 nn) (4 : Nat)) (4 : Nat)) (4 : Nat)) 1))])
        refine Go.of (fun _ k => XS.goto X22.here hx rfl (pc0 := 163) (pc' := 167) rfl (hb hby at_163) (by decide) (by decide) k) ?_
        show Go p e below W T22 (mkF m 167 #[.val (.int p1), .val (.int p2), .val (.int p3), .val (.int p4), .val (.int p5), .val (.int (4 : Int32)), .val (.ref b4), .val (.int (v0_23 p2 p3 p4 p5 nn)), .unset, .unset, .unset, .unset, .unset, .unset, .unset, .unset] [(.int ((f3_a1 (f1 p5 (4 : Int32)) (f2 p5 (4 : Int32)) (f3_a1 (f1 p4 (4 : Int32)) (f2 p4 (4 : Int32)) (f3_a1 (f1 p3 (4 : Int32)) (f2 p3 (4 : Int32)) (w0_13 p2 p3 p4 p5 nn) (4 : Nat)) (4 : Nat)) (4 : Nat)) 1))])
        refine Go.of (fun _ k => XS.istore X22.here hx rfl (hb hby at_167) rfl (l' := #[.val (.int p1), .val (.int p2), .val (.int p3), .val (.int p4), .val (.int p5), .val (.int (4 : Int32)), .val (.ref b4), .val (.int (v0_23 p2 p3 p4 p5 nn)), .val (.int (v0_24 p2 p3 p4 p5 nn)), .unset, .unset, .unset, .unset, .unset, .unset, .unset]) rfl k) ?_
        show Go p e below W T22 (mkF m 169 #[.val (.int p1), .val (.int p2), .val (.int p3), .val (.int p4), .val (.int p5), .val (.int (4 : Int32)), .val (.ref b4), .val (.int (v0_23 p2 p3 p4 p5 nn)), .val (.int (v0_24 p2 p3 p4 p5 nn)), .unset, .unset, .unset, .unset, .unset, .unset, .unset] [])
        refine Go.of (fun _ k => XS.iload X22.here hx rfl (hb hby at_169) rfl k) ?_
        show Go p e below W T22 (mkF m 171 #[.val (.int p1), .val (.int p2), .val (.int p3), .val (.int p4), .val (.int p5), .val (.int (4 : Int32)), .val (.ref b4), .val (.int (v0_23 p2 p3 p4 p5 nn)), .val (.int (v0_24 p2 p3 p4 p5 nn)), .unset, .unset, .unset, .unset, .unset, .unset, .unset] [(.int (4 : Int32))])
        refine Go.of (fun _ k => XS.iconst X22.here hx rfl (hb hby at_171) k) ?_
        show Go p e below W T22 (mkF m 172 #[.val (.int p1), .val (.int p2), .val (.int p3), .val (.int p4), .val (.int p5), .val (.int (4 : Int32)), .val (.ref b4), .val (.int (v0_23 p2 p3 p4 p5 nn)), .val (.int (v0_24 p2 p3 p4 p5 nn)), .unset, .unset, .unset, .unset, .unset, .unset, .unset] [(.int (2 : Int32)), (.int (4 : Int32))])
        refine Go.of (fun _ k => XS.icmpNo X22.here hx rfl (hb hby at_172) rfl (Jvm.Free.XT.ii_le_f (by decide)) k) ?_
        show Go p e below W T22 (mkF m 175 #[.val (.int p1), .val (.int p2), .val (.int p3), .val (.int p4), .val (.int p5), .val (.int (4 : Int32)), .val (.ref b4), .val (.int (v0_23 p2 p3 p4 p5 nn)), .val (.int (v0_24 p2 p3 p4 p5 nn)), .unset, .unset, .unset, .unset, .unset, .unset, .unset] [])
        refine Go.of (fun _ k => XS.aload X22.here hx rfl (hb hby at_175) rfl rfl k) ?_
        show Go p e below W T22 (mkF m 177 #[.val (.int p1), .val (.int p2), .val (.int p3), .val (.int p4), .val (.int p5), .val (.int (4 : Int32)), .val (.ref b4), .val (.int (v0_23 p2 p3 p4 p5 nn)), .val (.int (v0_24 p2 p3 p4 p5 nn)), .unset, .unset, .unset, .unset, .unset, .unset, .unset] [(.ref b4)])
        refine Go.of (fun _ k => XS.iconst X22.here hx rfl (hb hby at_177) k) ?_
        show Go p e below W T22 (mkF m 178 #[.val (.int p1), .val (.int p2), .val (.int p3), .val (.int p4), .val (.int p5), .val (.int (4 : Int32)), .val (.ref b4), .val (.int (v0_23 p2 p3 p4 p5 nn)), .val (.int (v0_24 p2 p3 p4 p5 nn)), .unset, .unset, .unset, .unset, .unset, .unset, .unset] [(.int (2 : Int32)), (.ref b4)])
        refine Go.iald X22 hx hZ rfl A_b4 ⟨by decide, by decide⟩ (hb hby at_178) ?_
        show Go p e below W T22 (mkF m 179 #[.val (.int p1), .val (.int p2), .val (.int p3), .val (.int p4), .val (.int p5), .val (.int (4 : Int32)), .val (.ref b4), .val (.int (v0_23 p2 p3 p4 p5 nn)), .val (.int (v0_24 p2 p3 p4 p5 nn)), .unset, .unset, .unset, .unset, .unset, .unset, .unset] [(.int ((f3_a1 (f1 p5 (4 : Int32)) (f2 p5 (4 : Int32)) (f3_a1 (f1 p4 (4 : Int32)) (f2 p4 (4 : Int32)) (f3_a1 (f1 p3 (4 : Int32)) (f2 p3 (4 : Int32)) (w0_13 p2 p3 p4 p5 nn) (4 : Nat)) (4 : Nat)) (4 : Nat)) 2))])
        refine Go.of (fun _ k => XS.goto X22.here hx rfl (pc0 := 179) (pc' := 183) rfl (hb hby at_179) (by decide) (by decide) k) ?_
        show Go p e below W T22 (mkF m 183 #[.val (.int p1), .val (.int p2), .val (.int p3), .val (.int p4), .val (.int p5), .val (.int (4 : Int32)), .val (.ref b4), .val (.int (v0_23 p2 p3 p4 p5 nn)), .val (.int (v0_24 p2 p3 p4 p5 nn)), .unset, .unset, .unset, .unset, .unset, .unset, .unset] [(.int ((f3_a1 (f1 p5 (4 : Int32)) (f2 p5 (4 : Int32)) (f3_a1 (f1 p4 (4 : Int32)) (f2 p4 (4 : Int32)) (f3_a1 (f1 p3 (4 : Int32)) (f2 p3 (4 : Int32)) (w0_13 p2 p3 p4 p5 nn) (4 : Nat)) (4 : Nat)) (4 : Nat)) 2))])
        refine Go.of (fun _ k => XS.istore X22.here hx rfl (hb hby at_183) rfl (l' := #[.val (.int p1), .val (.int p2), .val (.int p3), .val (.int p4), .val (.int p5), .val (.int (4 : Int32)), .val (.ref b4), .val (.int (v0_23 p2 p3 p4 p5 nn)), .val (.int (v0_24 p2 p3 p4 p5 nn)), .val (.int (v0_25 p2 p3 p4 p5 nn)), .unset, .unset, .unset, .unset, .unset, .unset]) rfl k) ?_
        show Go p e below W T22 (mkF m 185 #[.val (.int p1), .val (.int p2), .val (.int p3), .val (.int p4), .val (.int p5), .val (.int (4 : Int32)), .val (.ref b4), .val (.int (v0_23 p2 p3 p4 p5 nn)), .val (.int (v0_24 p2 p3 p4 p5 nn)), .val (.int (v0_25 p2 p3 p4 p5 nn)), .unset, .unset, .unset, .unset, .unset, .unset] [])
        refine Go.of (fun _ k => XS.iload X22.here hx rfl (hb hby at_185) rfl k) ?_
        show Go p e below W T22 (mkF m 187 #[.val (.int p1), .val (.int p2), .val (.int p3), .val (.int p4), .val (.int p5), .val (.int (4 : Int32)), .val (.ref b4), .val (.int (v0_23 p2 p3 p4 p5 nn)), .val (.int (v0_24 p2 p3 p4 p5 nn)), .val (.int (v0_25 p2 p3 p4 p5 nn)), .unset, .unset, .unset, .unset, .unset, .unset] [(.int (4 : Int32))])
        refine Go.of (fun _ k => XS.iconst X22.here hx rfl (hb hby at_187) k) ?_
        show Go p e below W T22 (mkF m 188 #[.val (.int p1), .val (.int p2), .val (.int p3), .val (.int p4), .val (.int p5), .val (.int (4 : Int32)), .val (.ref b4), .val (.int (v0_23 p2 p3 p4 p5 nn)), .val (.int (v0_24 p2 p3 p4 p5 nn)), .val (.int (v0_25 p2 p3 p4 p5 nn)), .unset, .unset, .unset, .unset, .unset, .unset] [(.int (3 : Int32)), (.int (4 : Int32))])
        refine Go.of (fun _ k => XS.icmpNo X22.here hx rfl (hb hby at_188) rfl (Jvm.Free.XT.ii_le_f (by decide)) k) ?_
        show Go p e below W T22 (mkF m 191 #[.val (.int p1), .val (.int p2), .val (.int p3), .val (.int p4), .val (.int p5), .val (.int (4 : Int32)), .val (.ref b4), .val (.int (v0_23 p2 p3 p4 p5 nn)), .val (.int (v0_24 p2 p3 p4 p5 nn)), .val (.int (v0_25 p2 p3 p4 p5 nn)), .unset, .unset, .unset, .unset, .unset, .unset] [])
        refine Go.of (fun _ k => XS.aload X22.here hx rfl (hb hby at_191) rfl rfl k) ?_
        show Go p e below W T22 (mkF m 193 #[.val (.int p1), .val (.int p2), .val (.int p3), .val (.int p4), .val (.int p5), .val (.int (4 : Int32)), .val (.ref b4), .val (.int (v0_23 p2 p3 p4 p5 nn)), .val (.int (v0_24 p2 p3 p4 p5 nn)), .val (.int (v0_25 p2 p3 p4 p5 nn)), .unset, .unset, .unset, .unset, .unset, .unset] [(.ref b4)])
        refine Go.of (fun _ k => XS.iconst X22.here hx rfl (hb hby at_193) k) ?_
        show Go p e below W T22 (mkF m 194 #[.val (.int p1), .val (.int p2), .val (.int p3), .val (.int p4), .val (.int p5), .val (.int (4 : Int32)), .val (.ref b4), .val (.int (v0_23 p2 p3 p4 p5 nn)), .val (.int (v0_24 p2 p3 p4 p5 nn)), .val (.int (v0_25 p2 p3 p4 p5 nn)), .unset, .unset, .unset, .unset, .unset, .unset] [(.int (3 : Int32)), (.ref b4)])
        refine Go.iald X22 hx hZ rfl A_b4 ⟨by decide, by decide⟩ (hb hby at_194) ?_
        show Go p e below W T22 (mkF m 195 #[.val (.int p1), .val (.int p2), .val (.int p3), .val (.int p4), .val (.int p5), .val (.int (4 : Int32)), .val (.ref b4), .val (.int (v0_23 p2 p3 p4 p5 nn)), .val (.int (v0_24 p2 p3 p4 p5 nn)), .val (.int (v0_25 p2 p3 p4 p5 nn)), .unset, .unset, .unset, .unset, .unset, .unset] [(.int ((f3_a1 (f1 p5 (4 : Int32)) (f2 p5 (4 : Int32)) (f3_a1 (f1 p4 (4 : Int32)) (f2 p4 (4 : Int32)) (f3_a1 (f1 p3 (4 : Int32)) (f2 p3 (4 : Int32)) (w0_13 p2 p3 p4 p5 nn) (4 : Nat)) (4 : Nat)) (4 : Nat)) 3))])
        refine Go.of (fun _ k => XS.goto X22.here hx rfl (pc0 := 195) (pc' := 199) rfl (hb hby at_195) (by decide) (by decide) k) ?_
        show Go p e below W T22 (mkF m 199 #[.val (.int p1), .val (.int p2), .val (.int p3), .val (.int p4), .val (.int p5), .val (.int (4 : Int32)), .val (.ref b4), .val (.int (v0_23 p2 p3 p4 p5 nn)), .val (.int (v0_24 p2 p3 p4 p5 nn)), .val (.int (v0_25 p2 p3 p4 p5 nn)), .unset, .unset, .unset, .unset, .unset, .unset] [(.int ((f3_a1 (f1 p5 (4 : Int32)) (f2 p5 (4 : Int32)) (f3_a1 (f1 p4 (4 : Int32)) (f2 p4 (4 : Int32)) (f3_a1 (f1 p3 (4 : Int32)) (f2 p3 (4 : Int32)) (w0_13 p2 p3 p4 p5 nn) (4 : Nat)) (4 : Nat)) (4 : Nat)) 3))])
        refine Go.of (fun _ k => XS.istore X22.here hx rfl (hb hby at_199) rfl (l' := #[.val (.int p1), .val (.int p2), .val (.int p3), .val (.int p4), .val (.int p5), .val (.int (4 : Int32)), .val (.ref b4), .val (.int (v0_23 p2 p3 p4 p5 nn)), .val (.int (v0_24 p2 p3 p4 p5 nn)), .val (.int (v0_25 p2 p3 p4 p5 nn)), .val (.int (v0_26 p2 p3 p4 p5 nn)), .unset, .unset, .unset, .unset, .unset]) rfl k) ?_
        show Go p e below W T22 (mkF m 201 #[.val (.int p1), .val (.int p2), .val (.int p3), .val (.int p4), .val (.int p5), .val (.int (4 : Int32)), .val (.ref b4), .val (.int (v0_23 p2 p3 p4 p5 nn)), .val (.int (v0_24 p2 p3 p4 p5 nn)), .val (.int (v0_25 p2 p3 p4 p5 nn)), .val (.int (v0_26 p2 p3 p4 p5 nn)), .unset, .unset, .unset, .unset, .unset] [])
        refine Go.of (fun _ k => XS.iloadN X22.here hx rfl (hb hby at_201) rfl k) ?_
        show Go p e below W T22 (mkF m 202 #[.val (.int p1), .val (.int p2), .val (.int p3), .val (.int p4), .val (.int p5), .val (.int (4 : Int32)), .val (.ref b4), .val (.int (v0_23 p2 p3 p4 p5 nn)), .val (.int (v0_24 p2 p3 p4 p5 nn)), .val (.int (v0_25 p2 p3 p4 p5 nn)), .val (.int (v0_26 p2 p3 p4 p5 nn)), .unset, .unset, .unset, .unset, .unset] [(.int p2)])
        refine Go.of (fun _ k => X22.ldcI hx hown (mvT hZ (hw _ (List.mem_of_getElem? (i := 11) rfl))) rfl (hb hby at_202) k) ?_
        show Go p e below W T22 (mkF m 204 #[.val (.int p1), .val (.int p2), .val (.int p3), .val (.int p4), .val (.int p5), .val (.int (4 : Int32)), .val (.ref b4), .val (.int (v0_23 p2 p3 p4 p5 nn)), .val (.int (v0_24 p2 p3 p4 p5 nn)), .val (.int (v0_25 p2 p3 p4 p5 nn)), .val (.int (v0_26 p2 p3 p4 p5 nn)), .unset, .unset, .unset, .unset, .unset] [(.int (2147483647 : Int32)), (.int p2)])
        refine Go.of (fun _ k => XS.iand X22.here hx rfl (hb hby at_204) rfl k) ?_
        show Go p e below W T22 (mkF m 205 #[.val (.int p1), .val (.int p2), .val (.int p3), .val (.int p4), .val (.int p5), .val (.int (4 : Int32)), .val (.ref b4), .val (.int (v0_23 p2 p3 p4 p5 nn)), .val (.int (v0_24 p2 p3 p4 p5 nn)), .val (.int (v0_25 p2 p3 p4 p5 nn)), .val (.int (v0_26 p2 p3 p4 p5 nn)), .unset, .unset, .unset, .unset, .unset] [(.int (p2 &&& (2147483647 : Int32)))])
        refine Go.of (fun _ k => XS.iload X22.here hx rfl (hb hby at_205) rfl k) ?_
        show Go p e below W T22 (mkF m 207 #[.val (.int p1), .val (.int p2), .val (.int p3), .val (.int p4), .val (.int p5), .val (.int (4 : Int32)), .val (.ref b4), .val (.int (v0_23 p2 p3 p4 p5 nn)), .val (.int (v0_24 p2 p3 p4 p5 nn)), .val (.int (v0_25 p2 p3 p4 p5 nn)), .val (.int (v0_26 p2 p3 p4 p5 nn)), .unset, .unset, .unset, .unset, .unset] [(.int (4 : Int32)), (.int (p2 &&& (2147483647 : Int32)))])
        refine Go.of (fun _ k => iremM X22 hx rfl (hb hby at_207) rfl (by decide) k) ?_
        show Go p e below W T22 (mkF m 208 #[.val (.int p1), .val (.int p2), .val (.int p3), .val (.int p4), .val (.int p5), .val (.int (4 : Int32)), .val (.ref b4), .val (.int (v0_23 p2 p3 p4 p5 nn)), .val (.int (v0_24 p2 p3 p4 p5 nn)), .val (.int (v0_25 p2 p3 p4 p5 nn)), .val (.int (v0_26 p2 p3 p4 p5 nn)), .unset, .unset, .unset, .unset, .unset] [(.int ((p2 &&& (2147483647 : Int32)) % (4 : Int32)))])
        refine Go.of (fun _ k => XS.istore X22.here hx rfl (hb hby at_208) rfl (l' := #[.val (.int p1), .val (.int p2), .val (.int p3), .val (.int p4), .val (.int p5), .val (.int (4 : Int32)), .val (.ref b4), .val (.int (v0_23 p2 p3 p4 p5 nn)), .val (.int (v0_24 p2 p3 p4 p5 nn)), .val (.int (v0_25 p2 p3 p4 p5 nn)), .val (.int (v0_26 p2 p3 p4 p5 nn)), .val (.int (v0_27 p2 p3 p4 p5 nn)), .unset, .unset, .unset, .unset]) rfl k) ?_
        show Go p e below W T22 (mkF m 210 #[.val (.int p1), .val (.int p2), .val (.int p3), .val (.int p4), .val (.int p5), .val (.int (4 : Int32)), .val (.ref b4), .val (.int (v0_23 p2 p3 p4 p5 nn)), .val (.int (v0_24 p2 p3 p4 p5 nn)), .val (.int (v0_25 p2 p3 p4 p5 nn)), .val (.int (v0_26 p2 p3 p4 p5 nn)), .val (.int (v0_27 p2 p3 p4 p5 nn)), .unset, .unset, .unset, .unset] [])
        refine Go.of (fun _ k => XS.iload X22.here hx rfl (hb hby at_210) rfl k) ?_
        show Go p e below W T22 (mkF m 212 #[.val (.int p1), .val (.int p2), .val (.int p3), .val (.int p4), .val (.int p5), .val (.int (4 : Int32)), .val (.ref b4), .val (.int (v0_23 p2 p3 p4 p5 nn)), .val (.int (v0_24 p2 p3 p4 p5 nn)), .val (.int (v0_25 p2 p3 p4 p5 nn)), .val (.int (v0_26 p2 p3 p4 p5 nn)), .val (.int (v0_27 p2 p3 p4 p5 nn)), .unset, .unset, .unset, .unset] [(.int (v0_27 p2 p3 p4 p5 nn))])
        refine Go.of (fun _ k => XS.iconst X22.here hx rfl (hb hby at_212) k) ?_
        show Go p e below W T22 (mkF m 213 #[.val (.int p1), .val (.int p2), .val (.int p3), .val (.int p4), .val (.int p5), .val (.int (4 : Int32)), .val (.ref b4), .val (.int (v0_23 p2 p3 p4 p5 nn)), .val (.int (v0_24 p2 p3 p4 p5 nn)), .val (.int (v0_25 p2 p3 p4 p5 nn)), .val (.int (v0_26 p2 p3 p4 p5 nn)), .val (.int (v0_27 p2 p3 p4 p5 nn)), .unset, .unset, .unset, .unset] [(.int (1 : Int32)), (.int (v0_27 p2 p3 p4 p5 nn))])
        refine Go.of (fun _ k => XS.iadd X22.here hx rfl (hb hby at_213) rfl k) ?_
        show Go p e below W T22 (mkF m 214 #[.val (.int p1), .val (.int p2), .val (.int p3), .val (.int p4), .val (.int p5), .val (.int (4 : Int32)), .val (.ref b4), .val (.int (v0_23 p2 p3 p4 p5 nn)), .val (.int (v0_24 p2 p3 p4 p5 nn)), .val (.int (v0_25 p2 p3 p4 p5 nn)), .val (.int (v0_26 p2 p3 p4 p5 nn)), .val (.int (v0_27 p2 p3 p4 p5 nn)), .unset, .unset, .unset, .unset] [(.int ((v0_27 p2 p3 p4 p5 nn) + (1 : Int32)))])
        refine Go.of (fun _ k => XS.iload X22.here hx rfl (hb hby at_214) rfl k) ?_
        show Go p e below W T22 (mkF m 216 #[.val (.int p1), .val (.int p2), .val (.int p3), .val (.int p4), .val (.int p5), .val (.int (4 : Int32)), .val (.ref b4), .val (.int (v0_23 p2 p3 p4 p5 nn)), .val (.int (v0_24 p2 p3 p4 p5 nn)), .val (.int (v0_25 p2 p3 p4 p5 nn)), .val (.int (v0_26 p2 p3 p4 p5 nn)), .val (.int (v0_27 p2 p3 p4 p5 nn)), .unset, .unset, .unset, .unset] [(.int (4 : Int32)), (.int ((v0_27 p2 p3 p4 p5 nn) + (1 : Int32)))])
        refine Go.of (fun _ k => iremM X22 hx rfl (hb hby at_216) rfl (by decide) k) ?_
        show Go p e below W T22 (mkF m 217 #[.val (.int p1), .val (.int p2), .val (.int p3), .val (.int p4), .val (.int p5), .val (.int (4 : Int32)), .val (.ref b4), .val (.int (v0_23 p2 p3 p4 p5 nn)), .val (.int (v0_24 p2 p3 p4 p5 nn)), .val (.int (v0_25 p2 p3 p4 p5 nn)), .val (.int (v0_26 p2 p3 p4 p5 nn)), .val (.int (v0_27 p2 p3 p4 p5 nn)), .unset, .unset, .unset, .unset] [(.int (((v0_27 p2 p3 p4 p5 nn) + (1 : Int32)) % (4 : Int32)))])
        refine Go.of (fun _ k => XS.istore X22.here hx rfl (hb hby at_217) rfl (l' := #[.val (.int p1), .val (.int p2), .val (.int p3), .val (.int p4), .val (.int p5), .val (.int (4 : Int32)), .val (.ref b4), .val (.int (v0_23 p2 p3 p4 p5 nn)), .val (.int (v0_24 p2 p3 p4 p5 nn)), .val (.int (v0_25 p2 p3 p4 p5 nn)), .val (.int (v0_26 p2 p3 p4 p5 nn)), .val (.int (v0_27 p2 p3 p4 p5 nn)), .val (.int (v0_28 p2 p3 p4 p5 nn)), .unset, .unset, .unset]) rfl k) ?_
        show Go p e below W T22 (mkF m 219 #[.val (.int p1), .val (.int p2), .val (.int p3), .val (.int p4), .val (.int p5), .val (.int (4 : Int32)), .val (.ref b4), .val (.int (v0_23 p2 p3 p4 p5 nn)), .val (.int (v0_24 p2 p3 p4 p5 nn)), .val (.int (v0_25 p2 p3 p4 p5 nn)), .val (.int (v0_26 p2 p3 p4 p5 nn)), .val (.int (v0_27 p2 p3 p4 p5 nn)), .val (.int (v0_28 p2 p3 p4 p5 nn)), .unset, .unset, .unset] [])
        refine Go.of (fun _ k => XS.iload X22.here hx rfl (hb hby at_219) rfl k) ?_
        show Go p e below W T22 (mkF m 221 #[.val (.int p1), .val (.int p2), .val (.int p3), .val (.int p4), .val (.int p5), .val (.int (4 : Int32)), .val (.ref b4), .val (.int (v0_23 p2 p3 p4 p5 nn)), .val (.int (v0_24 p2 p3 p4 p5 nn)), .val (.int (v0_25 p2 p3 p4 p5 nn)), .val (.int (v0_26 p2 p3 p4 p5 nn)), .val (.int (v0_27 p2 p3 p4 p5 nn)), .val (.int (v0_28 p2 p3 p4 p5 nn)), .unset, .unset, .unset] [(.int (v0_28 p2 p3 p4 p5 nn))])
        suffices G32 : ∀ T', Stand p l e room_1 s m #[(.int p1), (.int p2), (.int p3), (.int p4), (.int p5)] below meth c T' L22 1 4 → T'.heap = T22.heap → Go p e below W T' (mkF m 261 #[.val (.int p1), .val (.int p2), .val (.int p3), .val (.int p4), .val (.int p5), .val (.int (4 : Int32)), .val (.ref b4), .val (.int (v0_23 p2 p3 p4 p5 nn)), .val (.int (v0_24 p2 p3 p4 p5 nn)), .val (.int (v0_25 p2 p3 p4 p5 nn)), .val (.int (v0_26 p2 p3 p4 p5 nn)), .val (.int (v0_27 p2 p3 p4 p5 nn)), .val (.int (v0_28 p2 p3 p4 p5 nn)), .val (.int (v0_33 p2 p3 p4 p5 nn)), .unset, .unset] []) by
          by_cases c29 : (v0_28 p2 p3 p4 p5 nn) = (0 : Int32)
          · refine Go.of (fun _ k => XS.ifNo X22.here hx rfl (hb hby at_221) rfl (Jvm.Free.XT.i0_ne_f c29) k) ?_
            show Go p e below W T22 (mkF m 224 #[.val (.int p1), .val (.int p2), .val (.int p3), .val (.int p4), .val (.int p5), .val (.int (4 : Int32)), .val (.ref b4), .val (.int (v0_23 p2 p3 p4 p5 nn)), .val (.int (v0_24 p2 p3 p4 p5 nn)), .val (.int (v0_25 p2 p3 p4 p5 nn)), .val (.int (v0_26 p2 p3 p4 p5 nn)), .val (.int (v0_27 p2 p3 p4 p5 nn)), .val (.int (v0_28 p2 p3 p4 p5 nn)), .unset, .unset, .unset] [])
            refine Go.of (fun _ k => XS.iload X22.here hx rfl (hb hby at_224) rfl k) ?_
            show Go p e below W T22 (mkF m 226 #[.val (.int p1), .val (.int p2), .val (.int p3), .val (.int p4), .val (.int p5), .val (.int (4 : Int32)), .val (.ref b4), .val (.int (v0_23 p2 p3 p4 p5 nn)), .val (.int (v0_24 p2 p3 p4 p5 nn)), .val (.int (v0_25 p2 p3 p4 p5 nn)), .val (.int (v0_26 p2 p3 p4 p5 nn)), .val (.int (v0_27 p2 p3 p4 p5 nn)), .val (.int (v0_28 p2 p3 p4 p5 nn)), .unset, .unset, .unset] [(.int (v0_23 p2 p3 p4 p5 nn))])
            refine Go.of (fun _ k => XS.istore X22.here hx rfl (hb hby at_226) rfl (l' := #[.val (.int p1), .val (.int p2), .val (.int p3), .val (.int p4), .val (.int p5), .val (.int (4 : Int32)), .val (.ref b4), .val (.int (v0_23 p2 p3 p4 p5 nn)), .val (.int (v0_24 p2 p3 p4 p5 nn)), .val (.int (v0_25 p2 p3 p4 p5 nn)), .val (.int (v0_26 p2 p3 p4 p5 nn)), .val (.int (v0_27 p2 p3 p4 p5 nn)), .val (.int (v0_28 p2 p3 p4 p5 nn)), .val (.int (v0_23 p2 p3 p4 p5 nn)), .unset, .unset]) rfl k) ?_
            show Go p e below W T22 (mkF m 228 #[.val (.int p1), .val (.int p2), .val (.int p3), .val (.int p4), .val (.int p5), .val (.int (4 : Int32)), .val (.ref b4), .val (.int (v0_23 p2 p3 p4 p5 nn)), .val (.int (v0_24 p2 p3 p4 p5 nn)), .val (.int (v0_25 p2 p3 p4 p5 nn)), .val (.int (v0_26 p2 p3 p4 p5 nn)), .val (.int (v0_27 p2 p3 p4 p5 nn)), .val (.int (v0_28 p2 p3 p4 p5 nn)), .val (.int (v0_23 p2 p3 p4 p5 nn)), .unset, .unset] [])
            refine Go.of (fun _ k => XS.goto X22.here hx rfl (pc0 := 228) (pc' := 261) rfl (hb hby at_228) (by decide) (by decide) k) ?_
            have G32 := G32
            have q_v0_33 : (v0_33 p2 p3 p4 p5 nn) = (v0_23 p2 p3 p4 p5 nn) := by rw [v0_33, if_pos c29]
            rw [q_v0_33] at G32
            exact G32 _ X22 rfl
          · refine Go.of (fun _ k => XS.ifYes X22.here hx rfl (pc0 := 221) (pc' := 231) rfl (hb hby at_221) rfl (Jvm.Free.XT.i0_ne_t c29) (by decide) (by decide) k) ?_
            show Go p e below W T22 (mkF m 231 #[.val (.int p1), .val (.int p2), .val (.int p3), .val (.int p4), .val (.int p5), .val (.int (4 : Int32)), .val (.ref b4), .val (.int (v0_23 p2 p3 p4 p5 nn)), .val (.int (v0_24 p2 p3 p4 p5 nn)), .val (.int (v0_25 p2 p3 p4 p5 nn)), .val (.int (v0_26 p2 p3 p4 p5 nn)), .val (.int (v0_27 p2 p3 p4 p5 nn)), .val (.int (v0_28 p2 p3 p4 p5 nn)), .unset, .unset, .unset] [])
            refine Go.of (fun _ k => XS.iload X22.here hx rfl (hb hby at_231) rfl k) ?_
            show Go p e below W T22 (mkF m 233 #[.val (.int p1), .val (.int p2), .val (.int p3), .val (.int p4), .val (.int p5), .val (.int (4 : Int32)), .val (.ref b4), .val (.int (v0_23 p2 p3 p4 p5 nn)), .val (.int (v0_24 p2 p3 p4 p5 nn)), .val (.int (v0_25 p2 p3 p4 p5 nn)), .val (.int (v0_26 p2 p3 p4 p5 nn)), .val (.int (v0_27 p2 p3 p4 p5 nn)), .val (.int (v0_28 p2 p3 p4 p5 nn)), .unset, .unset, .unset] [(.int (v0_28 p2 p3 p4 p5 nn))])
            refine Go.of (fun _ k => XS.iconst X22.here hx rfl (hb hby at_233) k) ?_
            show Go p e below W T22 (mkF m 234 #[.val (.int p1), .val (.int p2), .val (.int p3), .val (.int p4), .val (.int p5), .val (.int (4 : Int32)), .val (.ref b4), .val (.int (v0_23 p2 p3 p4 p5 nn)), .val (.int (v0_24 p2 p3 p4 p5 nn)), .val (.int (v0_25 p2 p3 p4 p5 nn)), .val (.int (v0_26 p2 p3 p4 p5 nn)), .val (.int (v0_27 p2 p3 p4 p5 nn)), .val (.int (v0_28 p2 p3 p4 p5 nn)), .unset, .unset, .unset] [(.int (1 : Int32)), (.int (v0_28 p2 p3 p4 p5 nn))])
            by_cases c30 : (v0_28 p2 p3 p4 p5 nn) = (1 : Int32)
            · refine Go.of (fun _ k => XS.icmpNo X22.here hx rfl (hb hby at_234) rfl (Jvm.Free.XT.ii_ne_f c30) k) ?_
              show Go p e below W T22 (mkF m 237 #[.val (.int p1), .val (.int p2), .val (.int p3), .val (.int p4), .val (.int p5), .val (.int (4 : Int32)), .val (.ref b4), .val (.int (v0_23 p2 p3 p4 p5 nn)), .val (.int (v0_24 p2 p3 p4 p5 nn)), .val (.int (v0_25 p2 p3 p4 p5 nn)), .val (.int (v0_26 p2 p3 p4 p5 nn)), .val (.int (v0_27 p2 p3 p4 p5 nn)), .val (.int (v0_28 p2 p3 p4 p5 nn)), .unset, .unset, .unset] [])
              refine Go.of (fun _ k => XS.iload X22.here hx rfl (hb hby at_237) rfl k) ?_
              show Go p e below W T22 (mkF m 239 #[.val (.int p1), .val (.int p2), .val (.int p3), .val (.int p4), .val (.int p5), .val (.int (4 : Int32)), .val (.ref b4), .val (.int (v0_23 p2 p3 p4 p5 nn)), .val (.int (v0_24 p2 p3 p4 p5 nn)), .val (.int (v0_25 p2 p3 p4 p5 nn)), .val (.int (v0_26 p2 p3 p4 p5 nn)), .val (.int (v0_27 p2 p3 p4 p5 nn)), .val (.int (v0_28 p2 p3 p4 p5 nn)), .unset, .unset, .unset] [(.int (v0_24 p2 p3 p4 p5 nn))])
              refine Go.of (fun _ k => XS.istore X22.here hx rfl (hb hby at_239) rfl (l' := #[.val (.int p1), .val (.int p2), .val (.int p3), .val (.int p4), .val (.int p5), .val (.int (4 : Int32)), .val (.ref b4), .val (.int (v0_23 p2 p3 p4 p5 nn)), .val (.int (v0_24 p2 p3 p4 p5 nn)), .val (.int (v0_25 p2 p3 p4 p5 nn)), .val (.int (v0_26 p2 p3 p4 p5 nn)), .val (.int (v0_27 p2 p3 p4 p5 nn)), .val (.int (v0_28 p2 p3 p4 p5 nn)), .val (.int (v0_24 p2 p3 p4 p5 nn)), .unset, .unset]) rfl k) ?_
              show Go p e below W T22 (mkF m 241 #[.val (.int p1), .val (.int p2), .val (.int p3), .val (.int p4), .val (.int p5), .val (.int (4 : Int32)), .val (.ref b4), .val (.int (v0_23 p2 p3 p4 p5 nn)), .val (.int (v0_24 p2 p3 p4 p5 nn)), .val (.int (v0_25 p2 p3 p4 p5 nn)), .val (.int (v0_26 p2 p3 p4 p5 nn)), .val (.int (v0_27 p2 p3 p4 p5 nn)), .val (.int (v0_28 p2 p3 p4 p5 nn)), .val (.int (v0_24 p2 p3 p4 p5 nn)), .unset, .unset] [])
              refine Go.of (fun _ k => XS.goto X22.here hx rfl (pc0 := 241) (pc' := 261) rfl (hb hby at_241) (by decide) (by decide) k) ?_
              have G32 := G32
              have q_v0_33 : (v0_33 p2 p3 p4 p5 nn) = (v0_24 p2 p3 p4 p5 nn) := by rw [v0_33, if_neg c29, if_pos c30]
              rw [q_v0_33] at G32
              exact G32 _ X22 rfl
            · refine Go.of (fun _ k => XS.icmpYes X22.here hx rfl (pc0 := 234) (pc' := 244) rfl (hb hby at_234) rfl (Jvm.Free.XT.ii_ne_t c30) (by decide) (by decide) k) ?_
              show Go p e below W T22 (mkF m 244 #[.val (.int p1), .val (.int p2), .val (.int p3), .val (.int p4), .val (.int p5), .val (.int (4 : Int32)), .val (.ref b4), .val (.int (v0_23 p2 p3 p4 p5 nn)), .val (.int (v0_24 p2 p3 p4 p5 nn)), .val (.int (v0_25 p2 p3 p4 p5 nn)), .val (.int (v0_26 p2 p3 p4 p5 nn)), .val (.int (v0_27 p2 p3 p4 p5 nn)), .val (.int (v0_28 p2 p3 p4 p5 nn)), .unset, .unset, .unset] [])
              refine Go.of (fun _ k => XS.iload X22.here hx rfl (hb hby at_244) rfl k) ?_
              show Go p e below W T22 (mkF m 246 #[.val (.int p1), .val (.int p2), .val (.int p3), .val (.int p4), .val (.int p5), .val (.int (4 : Int32)), .val (.ref b4), .val (.int (v0_23 p2 p3 p4 p5 nn)), .val (.int (v0_24 p2 p3 p4 p5 nn)), .val (.int (v0_25 p2 p3 p4 p5 nn)), .val (.int (v0_26 p2 p3 p4 p5 nn)), .val (.int (v0_27 p2 p3 p4 p5 nn)), .val (.int (v0_28 p2 p3 p4 p5 nn)), .unset, .unset, .unset] [(.int (v0_28 p2 p3 p4 p5 nn))])
              refine Go.of (fun _ k => XS.iconst X22.here hx rfl (hb hby at_246) k) ?_
              show Go p e below W T22 (mkF m 247 #[.val (.int p1), .val (.int p2), .val (.int p3), .val (.int p4), .val (.int p5), .val (.int (4 : Int32)), .val (.ref b4), .val (.int (v0_23 p2 p3 p4 p5 nn)), .val (.int (v0_24 p2 p3 p4 p5 nn)), .val (.int (v0_25 p2 p3 p4 p5 nn)), .val (.int (v0_26 p2 p3 p4 p5 nn)), .val (.int (v0_27 p2 p3 p4 p5 nn)), .val (.int (v0_28 p2 p3 p4 p5 nn)), .unset, .unset, .unset] [(.int (2 : Int32)), (.int (v0_28 p2 p3 p4 p5 nn))])
              by_cases c31 : (v0_28 p2 p3 p4 p5 nn) = (2 : Int32)
              · refine Go.of (fun _ k => XS.icmpNo X22.here hx rfl (hb hby at_247) rfl (Jvm.Free.XT.ii_ne_f c31) k) ?_
                show Go p e below W T22 (mkF m 250 #[.val (.int p1), .val (.int p2), .val (.int p3), .val (.int p4), .val (.int p5), .val (.int (4 : Int32)), .val (.ref b4), .val (.int (v0_23 p2 p3 p4 p5 nn)), .val (.int (v0_24 p2 p3 p4 p5 nn)), .val (.int (v0_25 p2 p3 p4 p5 nn)), .val (.int (v0_26 p2 p3 p4 p5 nn)), .val (.int (v0_27 p2 p3 p4 p5 nn)), .val (.int (v0_28 p2 p3 p4 p5 nn)), .unset, .unset, .unset] [])
                refine Go.of (fun _ k => XS.iload X22.here hx rfl (hb hby at_250) rfl k) ?_
                show Go p e below W T22 (mkF m 252 #[.val (.int p1), .val (.int p2), .val (.int p3), .val (.int p4), .val (.int p5), .val (.int (4 : Int32)), .val (.ref b4), .val (.int (v0_23 p2 p3 p4 p5 nn)), .val (.int (v0_24 p2 p3 p4 p5 nn)), .val (.int (v0_25 p2 p3 p4 p5 nn)), .val (.int (v0_26 p2 p3 p4 p5 nn)), .val (.int (v0_27 p2 p3 p4 p5 nn)), .val (.int (v0_28 p2 p3 p4 p5 nn)), .unset, .unset, .unset] [(.int (v0_25 p2 p3 p4 p5 nn))])
                refine Go.of (fun _ k => XS.istore X22.here hx rfl (hb hby at_252) rfl (l' := #[.val (.int p1), .val (.int p2), .val (.int p3), .val (.int p4), .val (.int p5), .val (.int (4 : Int32)), .val (.ref b4), .val (.int (v0_23 p2 p3 p4 p5 nn)), .val (.int (v0_24 p2 p3 p4 p5 nn)), .val (.int (v0_25 p2 p3 p4 p5 nn)), .val (.int (v0_26 p2 p3 p4 p5 nn)), .val (.int (v0_27 p2 p3 p4 p5 nn)), .val (.int (v0_28 p2 p3 p4 p5 nn)), .val (.int (v0_25 p2 p3 p4 p5 nn)), .unset, .unset]) rfl k) ?_
                show Go p e below W T22 (mkF m 254 #[.val (.int p1), .val (.int p2), .val (.int p3), .val (.int p4), .val (.int p5), .val (.int (4 : Int32)), .val (.ref b4), .val (.int (v0_23 p2 p3 p4 p5 nn)), .val (.int (v0_24 p2 p3 p4 p5 nn)), .val (.int (v0_25 p2 p3 p4 p5 nn)), .val (.int (v0_26 p2 p3 p4 p5 nn)), .val (.int (v0_27 p2 p3 p4 p5 nn)), .val (.int (v0_28 p2 p3 p4 p5 nn)), .val (.int (v0_25 p2 p3 p4 p5 nn)), .unset, .unset] [])
                refine Go.of (fun _ k => XS.goto X22.here hx rfl (pc0 := 254) (pc' := 261) rfl (hb hby at_254) (by decide) (by decide) k) ?_
                have G32 := G32
                have q_v0_33 : (v0_33 p2 p3 p4 p5 nn) = (v0_25 p2 p3 p4 p5 nn) := by rw [v0_33, if_neg c29, if_neg c30, if_pos c31]
                rw [q_v0_33] at G32
                exact G32 _ X22 rfl
              · refine Go.of (fun _ k => XS.icmpYes X22.here hx rfl (pc0 := 247) (pc' := 257) rfl (hb hby at_247) rfl (Jvm.Free.XT.ii_ne_t c31) (by decide) (by decide) k) ?_
                show Go p e below W T22 (mkF m 257 #[.val (.int p1), .val (.int p2), .val (.int p3), .val (.int p4), .val (.int p5), .val (.int (4 : Int32)), .val (.ref b4), .val (.int (v0_23 p2 p3 p4 p5 nn)), .val (.int (v0_24 p2 p3 p4 p5 nn)), .val (.int (v0_25 p2 p3 p4 p5 nn)), .val (.int (v0_26 p2 p3 p4 p5 nn)), .val (.int (v0_27 p2 p3 p4 p5 nn)), .val (.int (v0_28 p2 p3 p4 p5 nn)), .unset, .unset, .unset] [])
                refine Go.of (fun _ k => XS.iload X22.here hx rfl (hb hby at_257) rfl k) ?_
                show Go p e below W T22 (mkF m 259 #[.val (.int p1), .val (.int p2), .val (.int p3), .val (.int p4), .val (.int p5), .val (.int (4 : Int32)), .val (.ref b4), .val (.int (v0_23 p2 p3 p4 p5 nn)), .val (.int (v0_24 p2 p3 p4 p5 nn)), .val (.int (v0_25 p2 p3 p4 p5 nn)), .val (.int (v0_26 p2 p3 p4 p5 nn)), .val (.int (v0_27 p2 p3 p4 p5 nn)), .val (.int (v0_28 p2 p3 p4 p5 nn)), .unset, .unset, .unset] [(.int (v0_26 p2 p3 p4 p5 nn))])
                refine Go.of (fun _ k => XS.istore X22.here hx rfl (hb hby at_259) rfl (l' := #[.val (.int p1), .val (.int p2), .val (.int p3), .val (.int p4), .val (.int p5), .val (.int (4 : Int32)), .val (.ref b4), .val (.int (v0_23 p2 p3 p4 p5 nn)), .val (.int (v0_24 p2 p3 p4 p5 nn)), .val (.int (v0_25 p2 p3 p4 p5 nn)), .val (.int (v0_26 p2 p3 p4 p5 nn)), .val (.int (v0_27 p2 p3 p4 p5 nn)), .val (.int (v0_28 p2 p3 p4 p5 nn)), .val (.int (v0_26 p2 p3 p4 p5 nn)), .unset, .unset]) rfl k) ?_
                have G32 := G32
                have q_v0_33 : (v0_33 p2 p3 p4 p5 nn) = (v0_26 p2 p3 p4 p5 nn) := by rw [v0_33, if_neg c29, if_neg c30, if_neg c31]
                rw [q_v0_33] at G32
                exact G32 _ X22 rfl
        intro T32 X32 e32
        show Go p e below W T32 (mkF m 261 #[.val (.int p1), .val (.int p2), .val (.int p3), .val (.int p4), .val (.int p5), .val (.int (4 : Int32)), .val (.ref b4), .val (.int (v0_23 p2 p3 p4 p5 nn)), .val (.int (v0_24 p2 p3 p4 p5 nn)), .val (.int (v0_25 p2 p3 p4 p5 nn)), .val (.int (v0_26 p2 p3 p4 p5 nn)), .val (.int (v0_27 p2 p3 p4 p5 nn)), .val (.int (v0_28 p2 p3 p4 p5 nn)), .val (.int (v0_33 p2 p3 p4 p5 nn)), .unset, .unset] [])
        refine Go.newO X32 hx hZ hown (hw _ (List.mem_of_getElem? (i := 12) rfl)) (hw _ (List.mem_of_getElem? (i := 13) rfl)) (hw _ (List.mem_of_getElem? (i := 14) rfl)) e32 (hb hby at_261) (by decide) (by decide) ?_
        intro T34 h34 b34 zq34 X34 e34 E34 E_b34 D34
        have ne_b4_b34 : b4 ≠ b34 := by rw [zq34]; exact Nat.ne_of_lt A_b4.lt
        have g_b34 : n0 ≤ b34 := by rw [zq34]; exact Z0
        have s_b34 : h0.size ≤ b34 := by rw [zq34]; exact K.1
        have A_b4 := A_b4.ext E34
        have K := K.ext E34
        have Z0 := Nat.le_trans Z0 E34.1
        have F_b34_order : Fld Z h34 b34 "com/example/pilfer/pilfer/Tour" "order" "[I" .null := D34 (Or.inr (hw _ (List.mem_of_getElem? (i := 22) rfl))) (ty := (.array .int)) (by decide)
        have F_b34_position : Fld Z h34 b34 "com/example/pilfer/pilfer/Tour" "position" "[I" .null := D34 (Or.inr (hw _ (List.mem_of_getElem? (i := 24) rfl))) (ty := (.array .int)) (by decide)
        show Go p e below W T34 (mkF m 264 #[.val (.int p1), .val (.int p2), .val (.int p3), .val (.int p4), .val (.int p5), .val (.int (4 : Int32)), .val (.ref b4), .val (.int (v0_23 p2 p3 p4 p5 nn)), .val (.int (v0_24 p2 p3 p4 p5 nn)), .val (.int (v0_25 p2 p3 p4 p5 nn)), .val (.int (v0_26 p2 p3 p4 p5 nn)), .val (.int (v0_27 p2 p3 p4 p5 nn)), .val (.int (v0_28 p2 p3 p4 p5 nn)), .val (.int (v0_33 p2 p3 p4 p5 nn)), .unset, .unset] [(.ref b34)])
        refine Go.of (fun _ k => XS.dup X34.here hx rfl (hb hby at_264) rfl rfl k) ?_
        show Go p e below W T34 (mkF m 265 #[.val (.int p1), .val (.int p2), .val (.int p3), .val (.int p4), .val (.int p5), .val (.int (4 : Int32)), .val (.ref b4), .val (.int (v0_23 p2 p3 p4 p5 nn)), .val (.int (v0_24 p2 p3 p4 p5 nn)), .val (.int (v0_25 p2 p3 p4 p5 nn)), .val (.int (v0_26 p2 p3 p4 p5 nn)), .val (.int (v0_27 p2 p3 p4 p5 nn)), .val (.int (v0_28 p2 p3 p4 p5 nn)), .val (.int (v0_33 p2 p3 p4 p5 nn)), .unset, .unset] [(.ref b34), (.ref b34)])
        refine Go.of (fun _ k => XS.aload X34.here hx rfl (hb hby at_265) rfl rfl k) ?_
        show Go p e below W T34 (mkF m 267 #[.val (.int p1), .val (.int p2), .val (.int p3), .val (.int p4), .val (.int p5), .val (.int (4 : Int32)), .val (.ref b4), .val (.int (v0_23 p2 p3 p4 p5 nn)), .val (.int (v0_24 p2 p3 p4 p5 nn)), .val (.int (v0_25 p2 p3 p4 p5 nn)), .val (.int (v0_26 p2 p3 p4 p5 nn)), .val (.int (v0_27 p2 p3 p4 p5 nn)), .val (.int (v0_28 p2 p3 p4 p5 nn)), .val (.int (v0_33 p2 p3 p4 p5 nn)), .unset, .unset] [(.ref b4), (.ref b34), (.ref b34)])
        refine Go.callI X34 hx hZ rfl hown (hw _ (List.mem_of_getElem? (i := 15) rfl)) (hw _ (List.mem_of_getElem? (i := 16) rfl)) (hw _ (List.mem_of_getElem? (i := 14) rfl)) (hw _ (List.mem_of_getElem? (i := 17) rfl)) (by decide) e34 (rm4 l Z a0 hw [] b34 b4 (f3_a1 (f1 p5 (4 : Int32)) (f2 p5 (4 : Int32)) (f3_a1 (f1 p4 (4 : Int32)) (f2 p4 (4 : Int32)) (f3_a1 (f1 p3 (4 : Int32)) (f2 p3 (4 : Int32)) (w0_13 p2 p3 p4 p5 nn) (4 : Nat)) (4 : Nat)) (4 : Nat)) (4 : Nat) h34 n0 Z0 E_b34 F_b34_order F_b34_position A_b4 g_b34 (Ne.symm ne_b4_b34) (by decide) (own_sw (own_sw (own_sw (own_updin (own_updin (own_updin (own_updin own_zero ⟨by decide, by decide⟩) ⟨by decide, by decide⟩) ⟨by decide, by decide⟩) ⟨by decide, by decide⟩) (own_lo4 _) (own_hi4 _)) (own_lo4 _) (own_hi4 _)) (own_lo4 _) (own_hi4 _))) (V := 1) (by decide) (by decide) (by decide) (by decide) (by rw [hml]; rfl) (argsL := [(.ref b4)]) (rest := [(.ref b34)]) rfl (lenOf pd___I_V rfl) rfl (Nat.le_of_ble_eq_true rfl) (hb hby at_267) ?_
        rintro T35 _ M35 ⟨rfl, N35, K35, F_b34_order⟩ X35
        obtain ⟨L35, zq35⟩ : ∃ z, z = L22 ++ M35 := ⟨_, rfl⟩
        have N := Fr.app N N35
        rw [← zq35] at X35 N
        have A_b4 := A_b4.keep K35 (ninS ne_b4_b34 nin0)
        have E_b34 := E_b34.keep K35
        have K := K.trans K35 (by
          intro x hx
          simp only [List.mem_cons, List.not_mem_nil, or_false] at hx
          rcases hx with rfl
          · exact Or.inr s_b34)
        have Z0 := Nat.le_trans Z0 K35.1
        show Go p e below W T35 (mkF m 270 #[.val (.int p1), .val (.int p2), .val (.int p3), .val (.int p4), .val (.int p5), .val (.int (4 : Int32)), .val (.ref b4), .val (.int (v0_23 p2 p3 p4 p5 nn)), .val (.int (v0_24 p2 p3 p4 p5 nn)), .val (.int (v0_25 p2 p3 p4 p5 nn)), .val (.int (v0_26 p2 p3 p4 p5 nn)), .val (.int (v0_27 p2 p3 p4 p5 nn)), .val (.int (v0_28 p2 p3 p4 p5 nn)), .val (.int (v0_33 p2 p3 p4 p5 nn)), .unset, .unset] [(.ref b34)])
        refine Go.of (fun _ k => XS.astore X35.here hx rfl (hb hby at_270) rfl rfl (l' := #[.val (.int p1), .val (.int p2), .val (.int p3), .val (.int p4), .val (.int p5), .val (.int (4 : Int32)), .val (.ref b4), .val (.int (v0_23 p2 p3 p4 p5 nn)), .val (.int (v0_24 p2 p3 p4 p5 nn)), .val (.int (v0_25 p2 p3 p4 p5 nn)), .val (.int (v0_26 p2 p3 p4 p5 nn)), .val (.int (v0_27 p2 p3 p4 p5 nn)), .val (.int (v0_28 p2 p3 p4 p5 nn)), .val (.int (v0_33 p2 p3 p4 p5 nn)), .val (.ref b34), .unset]) rfl k) ?_
        show Go p e below W T35 (mkF m 272 #[.val (.int p1), .val (.int p2), .val (.int p3), .val (.int p4), .val (.int p5), .val (.int (4 : Int32)), .val (.ref b4), .val (.int (v0_23 p2 p3 p4 p5 nn)), .val (.int (v0_24 p2 p3 p4 p5 nn)), .val (.int (v0_25 p2 p3 p4 p5 nn)), .val (.int (v0_26 p2 p3 p4 p5 nn)), .val (.int (v0_27 p2 p3 p4 p5 nn)), .val (.int (v0_28 p2 p3 p4 p5 nn)), .val (.int (v0_33 p2 p3 p4 p5 nn)), .val (.ref b34), .unset] [])
        refine Go.of (fun _ k => XS.aload X35.here hx rfl (hb hby at_272) rfl rfl k) ?_
        show Go p e below W T35 (mkF m 274 #[.val (.int p1), .val (.int p2), .val (.int p3), .val (.int p4), .val (.int p5), .val (.int (4 : Int32)), .val (.ref b4), .val (.int (v0_23 p2 p3 p4 p5 nn)), .val (.int (v0_24 p2 p3 p4 p5 nn)), .val (.int (v0_25 p2 p3 p4 p5 nn)), .val (.int (v0_26 p2 p3 p4 p5 nn)), .val (.int (v0_27 p2 p3 p4 p5 nn)), .val (.int (v0_28 p2 p3 p4 p5 nn)), .val (.int (v0_33 p2 p3 p4 p5 nn)), .val (.ref b34), .unset] [(.ref b34)])
        refine Go.of (fun _ k => XS.iload X35.here hx rfl (hb hby at_274) rfl k) ?_
        show Go p e below W T35 (mkF m 276 #[.val (.int p1), .val (.int p2), .val (.int p3), .val (.int p4), .val (.int p5), .val (.int (4 : Int32)), .val (.ref b4), .val (.int (v0_23 p2 p3 p4 p5 nn)), .val (.int (v0_24 p2 p3 p4 p5 nn)), .val (.int (v0_25 p2 p3 p4 p5 nn)), .val (.int (v0_26 p2 p3 p4 p5 nn)), .val (.int (v0_27 p2 p3 p4 p5 nn)), .val (.int (v0_28 p2 p3 p4 p5 nn)), .val (.int (v0_33 p2 p3 p4 p5 nn)), .val (.ref b34), .unset] [(.int (v0_27 p2 p3 p4 p5 nn)), (.ref b34)])
        refine Go.callV X35 hx hZ hown (hw _ (List.mem_of_getElem? (i := 25) rfl)) (hw _ (List.mem_of_getElem? (i := 26) rfl)) (hw _ (List.mem_of_getElem? (i := 28) rfl)) (hw _ (List.mem_of_getElem? (i := 27) rfl)) (hw _ (List.mem_of_getElem? (i := 14) rfl)) (hw _ (List.mem_of_getElem? (i := 29) rfl)) (by decide) rfl E_b34 (rm6 l Z a0 hw [] b34 (v0_27 p2 p3 p4 p5 nn) b4 (f3_a1 (f1 p5 (4 : Int32)) (f2 p5 (4 : Int32)) (f3_a1 (f1 p4 (4 : Int32)) (f2 p4 (4 : Int32)) (f3_a1 (f1 p3 (4 : Int32)) (f2 p3 (4 : Int32)) (w0_13 p2 p3 p4 p5 nn) (4 : Nat)) (4 : Nat)) (4 : Nat)) (4 : Nat) T35.heap F_b34_order A_b4 (by decide) (own_pp4 _)) (V := 0) (by decide) (by decide) (by decide) (by decide) (by rw [hml]; rfl) (argsL := [(.int (v0_27 p2 p3 p4 p5 nn))]) (rest := []) rfl (lenOf pd__I_I rfl) rfl (Nat.le_of_ble_eq_true rfl) (hb hby at_276) ?_
        rintro T36 _ _ ⟨rfl, rfl, e36⟩ X36
        rw [List.append_nil] at X36
        show Go p e below W T36 (mkF m 279 #[.val (.int p1), .val (.int p2), .val (.int p3), .val (.int p4), .val (.int p5), .val (.int (4 : Int32)), .val (.ref b4), .val (.int (v0_23 p2 p3 p4 p5 nn)), .val (.int (v0_24 p2 p3 p4 p5 nn)), .val (.int (v0_25 p2 p3 p4 p5 nn)), .val (.int (v0_26 p2 p3 p4 p5 nn)), .val (.int (v0_27 p2 p3 p4 p5 nn)), .val (.int (v0_28 p2 p3 p4 p5 nn)), .val (.int (v0_33 p2 p3 p4 p5 nn)), .val (.ref b34), .unset] [(.int (f6 (v0_27 p2 p3 p4 p5 nn) (f3_a1 (f1 p5 (4 : Int32)) (f2 p5 (4 : Int32)) (f3_a1 (f1 p4 (4 : Int32)) (f2 p4 (4 : Int32)) (f3_a1 (f1 p3 (4 : Int32)) (f2 p3 (4 : Int32)) (w0_13 p2 p3 p4 p5 nn) (4 : Nat)) (4 : Nat)) (4 : Nat)) (4 : Nat)))])
        refine Go.of (fun _ k => XS.istore X36.here hx rfl (hb hby at_279) rfl (l' := #[.val (.int p1), .val (.int p2), .val (.int p3), .val (.int p4), .val (.int p5), .val (.int (4 : Int32)), .val (.ref b4), .val (.int (v0_23 p2 p3 p4 p5 nn)), .val (.int (v0_24 p2 p3 p4 p5 nn)), .val (.int (v0_25 p2 p3 p4 p5 nn)), .val (.int (v0_26 p2 p3 p4 p5 nn)), .val (.int (v0_27 p2 p3 p4 p5 nn)), .val (.int (v0_28 p2 p3 p4 p5 nn)), .val (.int (v0_33 p2 p3 p4 p5 nn)), .val (.ref b34), .val (.int (v0_37 p2 p3 p4 p5 nn))]) rfl k) ?_
        show Go p e below W T36 (mkF m 281 #[.val (.int p1), .val (.int p2), .val (.int p3), .val (.int p4), .val (.int p5), .val (.int (4 : Int32)), .val (.ref b4), .val (.int (v0_23 p2 p3 p4 p5 nn)), .val (.int (v0_24 p2 p3 p4 p5 nn)), .val (.int (v0_25 p2 p3 p4 p5 nn)), .val (.int (v0_26 p2 p3 p4 p5 nn)), .val (.int (v0_27 p2 p3 p4 p5 nn)), .val (.int (v0_28 p2 p3 p4 p5 nn)), .val (.int (v0_33 p2 p3 p4 p5 nn)), .val (.ref b34), .val (.int (v0_37 p2 p3 p4 p5 nn))] [])
        refine Go.of (fun _ k => XS.iload X36.here hx rfl (hb hby at_281) rfl k) ?_
        show Go p e below W T36 (mkF m 283 #[.val (.int p1), .val (.int p2), .val (.int p3), .val (.int p4), .val (.int p5), .val (.int (4 : Int32)), .val (.ref b4), .val (.int (v0_23 p2 p3 p4 p5 nn)), .val (.int (v0_24 p2 p3 p4 p5 nn)), .val (.int (v0_25 p2 p3 p4 p5 nn)), .val (.int (v0_26 p2 p3 p4 p5 nn)), .val (.int (v0_27 p2 p3 p4 p5 nn)), .val (.int (v0_28 p2 p3 p4 p5 nn)), .val (.int (v0_33 p2 p3 p4 p5 nn)), .val (.ref b34), .val (.int (v0_37 p2 p3 p4 p5 nn))] [(.int (v0_37 p2 p3 p4 p5 nn))])
        refine Go.of (fun _ k => XS.iload X36.here hx rfl (hb hby at_283) rfl k) ?_
        show Go p e below W T36 (mkF m 285 #[.val (.int p1), .val (.int p2), .val (.int p3), .val (.int p4), .val (.int p5), .val (.int (4 : Int32)), .val (.ref b4), .val (.int (v0_23 p2 p3 p4 p5 nn)), .val (.int (v0_24 p2 p3 p4 p5 nn)), .val (.int (v0_25 p2 p3 p4 p5 nn)), .val (.int (v0_26 p2 p3 p4 p5 nn)), .val (.int (v0_27 p2 p3 p4 p5 nn)), .val (.int (v0_28 p2 p3 p4 p5 nn)), .val (.int (v0_33 p2 p3 p4 p5 nn)), .val (.ref b34), .val (.int (v0_37 p2 p3 p4 p5 nn))] [(.int (v0_33 p2 p3 p4 p5 nn)), (.int (v0_37 p2 p3 p4 p5 nn))])
        by_cases c38 : (v0_37 p2 p3 p4 p5 nn) = (v0_33 p2 p3 p4 p5 nn)
        · refine Go.of (fun _ k => XS.icmpNo X36.here hx rfl (hb hby at_285) rfl (Jvm.Free.XT.ii_ne_f c38) k) ?_
          show Go p e below W T36 (mkF m 288 #[.val (.int p1), .val (.int p2), .val (.int p3), .val (.int p4), .val (.int p5), .val (.int (4 : Int32)), .val (.ref b4), .val (.int (v0_23 p2 p3 p4 p5 nn)), .val (.int (v0_24 p2 p3 p4 p5 nn)), .val (.int (v0_25 p2 p3 p4 p5 nn)), .val (.int (v0_26 p2 p3 p4 p5 nn)), .val (.int (v0_27 p2 p3 p4 p5 nn)), .val (.int (v0_28 p2 p3 p4 p5 nn)), .val (.int (v0_33 p2 p3 p4 p5 nn)), .val (.ref b34), .val (.int (v0_37 p2 p3 p4 p5 nn))] [])
          refine Go.of (fun _ k => XS.iconst X36.here hx rfl (hb hby at_288) k) ?_
          show Go p e below W T36 (mkF m 289 #[.val (.int p1), .val (.int p2), .val (.int p3), .val (.int p4), .val (.int p5), .val (.int (4 : Int32)), .val (.ref b4), .val (.int (v0_23 p2 p3 p4 p5 nn)), .val (.int (v0_24 p2 p3 p4 p5 nn)), .val (.int (v0_25 p2 p3 p4 p5 nn)), .val (.int (v0_26 p2 p3 p4 p5 nn)), .val (.int (v0_27 p2 p3 p4 p5 nn)), .val (.int (v0_28 p2 p3 p4 p5 nn)), .val (.int (v0_33 p2 p3 p4 p5 nn)), .val (.ref b34), .val (.int (v0_37 p2 p3 p4 p5 nn))] [(.int (1 : Int32))])
          refine Go.of (fun _ k => XS.goto X36.here hx rfl (pc0 := 289) (pc' := 293) rfl (hb hby at_289) (by decide) (by decide) k) ?_
          show Go p e below W T36 (mkF m 293 #[.val (.int p1), .val (.int p2), .val (.int p3), .val (.int p4), .val (.int p5), .val (.int (4 : Int32)), .val (.ref b4), .val (.int (v0_23 p2 p3 p4 p5 nn)), .val (.int (v0_24 p2 p3 p4 p5 nn)), .val (.int (v0_25 p2 p3 p4 p5 nn)), .val (.int (v0_26 p2 p3 p4 p5 nn)), .val (.int (v0_27 p2 p3 p4 p5 nn)), .val (.int (v0_28 p2 p3 p4 p5 nn)), .val (.int (v0_33 p2 p3 p4 p5 nn)), .val (.ref b34), .val (.int (v0_37 p2 p3 p4 p5 nn))] [(.int (1 : Int32))])
          have u_f0 : (f0 p2 p3 p4 p5 nn) = (1 : Int32) := by rw [f0, if_neg c1, if_neg c2, if_neg c3, if_pos c38]
          have fin : Q0 Z p1 p2 p3 p4 p5 nn h0 n0 (some (.int (f0 p2 p3 p4 p5 nn))) T35.heap L35 := ⟨rfl, N, K⟩
          exact Go.retN X36 hx hret (Or.inl rfl) (hb hby at_293) hlk (Eq.trans rfl u_f0.symm) (fun t ht fe => hW t _ _ _ _ (by rw [ht, e36]; exact fin) fe (by decide) (by decide))
        · refine Go.of (fun _ k => XS.icmpYes X36.here hx rfl (pc0 := 285) (pc' := 292) rfl (hb hby at_285) rfl (Jvm.Free.XT.ii_ne_t c38) (by decide) (by decide) k) ?_
          show Go p e below W T36 (mkF m 292 #[.val (.int p1), .val (.int p2), .val (.int p3), .val (.int p4), .val (.int p5), .val (.int (4 : Int32)), .val (.ref b4), .val (.int (v0_23 p2 p3 p4 p5 nn)), .val (.int (v0_24 p2 p3 p4 p5 nn)), .val (.int (v0_25 p2 p3 p4 p5 nn)), .val (.int (v0_26 p2 p3 p4 p5 nn)), .val (.int (v0_27 p2 p3 p4 p5 nn)), .val (.int (v0_28 p2 p3 p4 p5 nn)), .val (.int (v0_33 p2 p3 p4 p5 nn)), .val (.ref b34), .val (.int (v0_37 p2 p3 p4 p5 nn))] [])
          refine Go.of (fun _ k => XS.iconst X36.here hx rfl (hb hby at_292) k) ?_
          show Go p e below W T36 (mkF m 293 #[.val (.int p1), .val (.int p2), .val (.int p3), .val (.int p4), .val (.int p5), .val (.int (4 : Int32)), .val (.ref b4), .val (.int (v0_23 p2 p3 p4 p5 nn)), .val (.int (v0_24 p2 p3 p4 p5 nn)), .val (.int (v0_25 p2 p3 p4 p5 nn)), .val (.int (v0_26 p2 p3 p4 p5 nn)), .val (.int (v0_27 p2 p3 p4 p5 nn)), .val (.int (v0_28 p2 p3 p4 p5 nn)), .val (.int (v0_33 p2 p3 p4 p5 nn)), .val (.ref b34), .val (.int (v0_37 p2 p3 p4 p5 nn))] [(.int (0 : Int32))])
          have u_f0 : (f0 p2 p3 p4 p5 nn) = (0 : Int32) := by rw [f0, if_neg c1, if_neg c2, if_neg c3, if_neg c38]
          have fin : Q0 Z p1 p2 p3 p4 p5 nn h0 n0 (some (.int (f0 p2 p3 p4 p5 nn))) T35.heap L35 := ⟨rfl, N, K⟩
          exact Go.retN X36 hx hret (Or.inl rfl) (hb hby at_293) hlk (Eq.trans rfl u_f0.symm) (fun t ht fe => hW t _ _ _ _ (by rw [ht, e36]; exact fin) fe (by decide) (by decide))
set_option maxRecDepth 65536 in
set_option maxHeartbeats 40000000 in
theorem comes_1 {Post : Tables → Env → Array Value → State → Outcome → State → Prop} (hpost : ∀ tb e args s v u, (limb_1_1.after args s (.returned v) u = true ∧ limb_1_2.after args s (.returned v) u = true ∧ True) → FrameEnd s (.returned v) u (Jvm.fieldLocs frame_1_writes args s ++ Jvm.arrayLocs frame_1_arrays args s ++ Jvm.staticLocs frame_1_statics s) 16 128 → Post tb e args s (.returned v) u) :
    ArmFor flags0 classFile x code maxLocals ret World_1 tables_1 room_1 Calls_1 rest_1 Pre_1 Post := by
  intro l hfl _ _ p e ha hc hk s m args below hf hA hF happ hP
  obtain ⟨hcalls, hrest, hpre⟩ := hP
  obtain ⟨-, -, -, hnamed, -, -, -, hat⟩ := (Spec.applies_iff hf).mp happ
  obtain ⟨hg, hn⟩ := and_e (Cond.before_iff.mp (show (Jvm.Cond.and given_1 narrow_1).before args s = true from hpre))
  obtain ⟨g0, y0⟩ := and_e hg
  obtain ⟨x0, y1⟩ := and_e y0
  obtain ⟨x1, y2⟩ := and_e y1
  obtain ⟨x2, y3⟩ := and_e y2
  obtain ⟨x3, y4⟩ := and_e y3
  obtain ⟨w0, w1, w2, w3, w4, rfl⟩ : ∃ w0 w1 w2 w3 w4 : Value, args = #[w0, w1, w2, w3, w4] := by
    have hs : args.size = 5 := by simpa [Cond.value, given_1] using g0
    obtain ⟨L⟩ := args
    match L, hs with
    | [w0, w1, w2, w3, w4], _ => exact ⟨w0, w1, w2, w3, w4, rfl⟩
  have hw := fun d (hd : d ∈ tables_1) => atoms_spec (ws := Jvm.Cond.code x code maxLocals ret :: tables_1) hat d (List.mem_cons_of_mem _ hd)
  obtain ⟨i0, ei0⟩ := is_v x0
  obtain rfl : w0 = (.int i0) := Option.some.inj ei0
  obtain ⟨i1, ei1⟩ := is_v x1
  obtain rfl : w1 = (.int i1) := Option.some.inj ei1
  obtain ⟨i2, ei2⟩ := is_v x2
  obtain rfl : w2 = (.int i2) := Option.some.inj ei2
  obtain ⟨i3, ei3⟩ := is_v x3
  obtain rfl : w3 = (.int i3) := Option.some.inj ei3
  obtain ⟨i4, ei4⟩ := is_v y4
  obtain rfl : w4 = (.int i4) := Option.some.inj ei4
  obtain ⟨n, o, h1, h2, h3, _, L, rfl, ⟨rfl, N, -⟩, hq⟩ := rm0 l s _ hw tables_1 i0 i1 i2 i3 i4 ((i0 &&& (3 : Int32)) + (1 : Int32)) s.heap s.heap.size (Nat.le_refl _) rfl (own_nr i0) p e ha hc hk s m _ below hf ((Spec.applies_iff_loose hf).mp happ).1 ⟨rfl, State.Warmed39.refl s, rfl⟩ trivial
  rw [own_law i1 i2 i3 i4 _] at h3 hq
  refine ⟨n, _, h1, h2, h3, hpost _ _ _ _ _ _ ⟨Cond.after_iff.mpr rfl, Cond.after_iff.mpr (eq_i res_at (Term.int_eval (1)) rfl), trivial⟩ ⟨hq.1, hq.2.1, (hq.2.2.sift fun y hy => Or.inr (N y hy)).mono (by decide) (by decide)⟩⟩
theorem main_1_1 : Claimed_1_1 := comes_1 fun _ _ _ _ _ _ h hF => ⟨h.1, hF⟩
theorem main_1_2 : Claimed_1_2 := comes_1 fun _ _ _ _ _ _ h hF => ⟨h.2.1, hF⟩
end Jvm.Pilot.@@N@@
namespace Jvm.Pilot.@@N@@
open Jvm Jvm.ClassFile Sem Op Lib Jvm.Free Jvm.Stand Jvm.Pilot.@@N@@.Jvm.D
/-! MADE BY PROGRAM (witnessworld.py) out of the Statement's table words and the real class files: 9 classes; the members and pool entries that the words name. The judged class is class 1, her method 4. -/
namespace start1
open Jvm.ClassFile
def u (s : String) : CpInfo := .utf8 (stringToUtf16 s)
/-- a pool by its gaps: so many unusable entries, then the entry; so many at the end -/
def gap : Nat → List CpInfo → List CpInfo
  | 0, r => r
  | n + 1, r => .unusable :: gap n r
def poolList (es : List (Nat × CpInfo)) (last : Nat) : List CpInfo := es.foldr (fun e r => gap e.1 (e.2 :: r)) (gap last [])
def pool (es : List (Nat × CpInfo)) (last : Nat) : Array CpInfo := ⟨poolList es last⟩
def fileOf (pool : Array CpInfo) (this : Nat) (attrs : Array Attribute := #[]) (ms : Array MethodInfo := #[]) (fl : Nat := 33) (sup : Nat := 0) (ifs : Array Nat := #[]) (fds : Array FieldInfo := #[]) : ClassFile where
  minorVersion := 0
  majorVersion := 65
  constantPool := pool
  accessFlags := fl
  thisClass := this
  superClass := sup
  interfaces := ifs
  fields := fds
  methods := ms
  attributes := attrs
def plain (name : String) (sup : Option ClassId) : Class where
  name := name
  kind := .ordinary
  loader := none
  accessFlags := 33
  super := sup
  interfaces := #[]
  cf := none
  fields := #[]
  methods := #[]
  instanceTypes := #[]
  staticTypes := #[]
  resolved := #[]
  callSites := []
  init := .initialized
  statics := none
  mirror := none

def pool0 : Array CpInfo := pool [(5, u "<init>"), (0, u "()V"), (1, .class_ 10), (1, u "java/lang/Object")] 113

def k0c0 : Code := { maxStack := 0, maxLocals := 1, code := object_method_1_code, exceptionTable := #[], attributes := #[] }
def k0m0 : Method := { name := "<init>", desc := "()V", sig := { parameters := [], returnType := none }, accessFlags := 1, code := some k0c0 }
/-- java/lang/Object -/
def k0 : Class := { plain "java/lang/Object" none with
  accessFlags := 33
  interfaces := #[]
  cf := some (fileOf pool0 8 #[] #[{ accessFlags := 1, nameIndex := 5, descriptorIndex := 6, attributes := #[] }] 33 0 #[] #[])
  fields := #[]
  methods := #[k0m0]
  instanceTypes := #[]
  staticTypes := #[]
  resolved := Array.replicate 124 none
  statics := none }

def pool1 : Array CpInfo := pool [(2, .class_ 4), (1, u "java/lang/Object"), (0, u "<init>"), (0, u "()V"), (0, .methodref 8 9), (0, .class_ 10), (0, .nameAndType 11 12), (0, u "com/example/pilfer/pilfer/TourNextPinLaw"), (0, u "lo"), (0, u "(II)I"), (0, .methodref 8 14), (0, .nameAndType 15 12), (0, u "hi"), (0, .methodref 8 17), (0, .nameAndType 18 19), (0, u "swap"), (0, u "([III)V"), (0, .integer 2147483647), (0, .class_ 22), (0, u "com/example/pilfer/pilfer/Tour"), (0, .methodref 21 24), (0, .nameAndType 5 25), (0, u "([I)V"), (0, .methodref 21 27), (0, .nameAndType 28 29), (0, u "next"), (0, u "(I)I"), (2, u "law"), (0, u "(IIIII)Z")] 5

def k1m0 : Method := { name := "<init>", desc := "()V", sig := { parameters := [], returnType := none }, accessFlags := 1, code := none }
def k1c1 : Code := { maxStack := 4, maxLocals := 4, code := method_2_code, exceptionTable := #[], attributes := #[] }
def k1m1 : Method := { name := "swap", desc := "([III)V", sig := { parameters := [(.array .int), .int, .int], returnType := none }, accessFlags := 10, code := some k1c1 }
def k1c2 : Code := { maxStack := 2, maxLocals := 2, code := method_3_code, exceptionTable := #[], attributes := #[] }
def k1m2 : Method := { name := "lo", desc := "(II)I", sig := { parameters := [.int, .int], returnType := some .int }, accessFlags := 10, code := some k1c2 }
def k1c3 : Code := { maxStack := 2, maxLocals := 2, code := method_4_code, exceptionTable := #[], attributes := #[] }
def k1m3 : Method := { name := "hi", desc := "(II)I", sig := { parameters := [.int, .int], returnType := some .int }, accessFlags := 10, code := some k1c3 }
def k1c4 : Code := { maxStack := 4, maxLocals := 16, code := code, exceptionTable := #[], attributes := #[] }
def k1m4 : Method := { name := "law", desc := "(IIIII)Z", sig := { parameters := [.int, .int, .int, .int, .int], returnType := some .boolean }, accessFlags := 9, code := some k1c4 }
/-- com/example/pilfer/pilfer/TourNextPinLaw -/
def k1 : Class := { plain "com/example/pilfer/pilfer/TourNextPinLaw" (some 0) with
  accessFlags := 49
  interfaces := #[]
  cf := some (fileOf pool1 8 #[] #[{ accessFlags := 1, nameIndex := 5, descriptorIndex := 6, attributes := #[] }, { accessFlags := 10, nameIndex := 18, descriptorIndex := 19, attributes := #[] }, { accessFlags := 10, nameIndex := 11, descriptorIndex := 12, attributes := #[] }, { accessFlags := 10, nameIndex := 15, descriptorIndex := 12, attributes := #[] }, { accessFlags := 9, nameIndex := 32, descriptorIndex := 33, attributes := #[] }] 49 2 #[] #[])
  fields := #[]
  methods := #[k1m0, k1m1, k1m2, k1m3, k1m4]
  instanceTypes := #[]
  staticTypes := #[]
  resolved := Array.replicate 39 none
  statics := none }

def pool2 : Array CpInfo := pool [(1, .methodref 2 3), (0, .class_ 4), (0, .nameAndType 5 6), (0, u "java/lang/Object"), (0, u "<init>"), (0, u "()V"), (0, .fieldref 8 9), (0, .class_ 10), (0, .nameAndType 11 12), (0, u "com/example/pilfer/pilfer/Tour"), (0, u "order"), (0, u "[I"), (0, .fieldref 8 14), (0, .nameAndType 15 12), (0, u "position"), (2, u "([I)V"), (25, u "(I)I"), (0, u "next")] 12

def k2c0 : Code := { maxStack := 3, maxLocals := 3, code := prog_24_method_1_code, exceptionTable := #[], attributes := #[] }
def k2m0 : Method := { name := "<init>", desc := "([I)V", sig := { parameters := [(.array .int)], returnType := none }, accessFlags := 0, code := some k2c0 }
def k2c1 : Code := { maxStack := 3, maxLocals := 2, code := prog_24_method_5_code, exceptionTable := #[], attributes := #[] }
def k2m1 : Method := { name := "next", desc := "(I)I", sig := { parameters := [.int], returnType := some .int }, accessFlags := 0, code := some k2c1 }
/-- com/example/pilfer/pilfer/Tour -/
def k2 : Class := { plain "com/example/pilfer/pilfer/Tour" (some 0) with
  accessFlags := 48
  interfaces := #[]
  cf := some (fileOf pool2 8 #[] #[{ accessFlags := 0, nameIndex := 5, descriptorIndex := 18, attributes := #[] }, { accessFlags := 0, nameIndex := 45, descriptorIndex := 44, attributes := #[] }] 48 2 #[] #[{ accessFlags := 18, nameIndex := 11, descriptorIndex := 12, attributes := #[] }, { accessFlags := 18, nameIndex := 15, descriptorIndex := 12, attributes := #[] }])
  fields := #[{ name := "order", type := (.array .int), accessFlags := 18, slot := 0, constantValue := 0 }, { name := "position", type := (.array .int), accessFlags := 18, slot := 1, constantValue := 0 }]
  methods := #[k2m0, k2m1]
  instanceTypes := #[(.array .int), (.array .int)]
  staticTypes := #[]
  resolved := Array.replicate 58 none
  statics := none }

def pool3 : Array CpInfo := pool [(1, u "java/lang/Cloneable"), (0, .class_ 1), (0, u "java/lang/Object"), (0, .class_ 3)] 3

/-- java/lang/Cloneable -/
def k3 : Class := { plain "java/lang/Cloneable" (some 0) with
  accessFlags := 1537
  interfaces := #[]
  cf := some (fileOf pool3 2 #[] #[] 1537 4 #[] #[])
  fields := #[]
  methods := #[]
  instanceTypes := #[]
  staticTypes := #[]
  resolved := Array.replicate 8 none
  statics := none }

def pool4 : Array CpInfo := pool [(1, u "java/io/Serializable"), (0, .class_ 1), (0, u "java/lang/Object"), (0, .class_ 3)] 3

/-- java/io/Serializable -/
def k4 : Class := { plain "java/io/Serializable" (some 0) with
  accessFlags := 1537
  interfaces := #[]
  cf := some (fileOf pool4 2 #[] #[] 1537 4 #[] #[])
  fields := #[]
  methods := #[]
  instanceTypes := #[]
  staticTypes := #[]
  resolved := Array.replicate 8 none
  statics := none }

/-- the primitive byte -/
def k5 : Class := { plain "byte" none with kind := .primitive 'B', accessFlags := 0x411 }
/-- [B -/
def k6 : Class := { plain "[B" (some 0) with kind := .array 5 .byte, interfaces := #[3, 4], accessFlags := 1041 }

/-- the primitive int -/
def k7 : Class := { plain "int" none with kind := .primitive 'I', accessFlags := 0x411 }
/-- [I -/
def k8 : Class := { plain "[I" (some 0) with kind := .array 7 .int, interfaces := #[3, 4], accessFlags := 1041 }

def heap : Heap := #[]
def classes : Array Class := #[k0, k1, k2, k3, k4, k5, k6, k7, k8]
def interned : List (Array UInt16 × Addr) := []
def slotsUsed : Nat := 0
def theMethod : MethodId := ⟨1, 4⟩
def args0 : Array Value := #[.int 5, .int 6, .int 7, .int 8, .int 9]
def aboutOver (below : List Frame) : State where
  vm := { classes := classes, interned := interned.toArray }
  heap := heap
  slotsUsed := slotsUsed
  threads := #[{ frames := .invoking theMethod args0 :: below }]
def below0 : List Frame := [.native { method := ⟨0, 0⟩, args := #[] }]
def about1 : State := aboutOver below0
def p0 : Program := .bare "" "" ""
def e0 : Env := launch0.env 0 0 0
theorem w_frames : about1.frames = Frame.invoking theMethod args0 :: below0 := rfl
set_option maxRecDepth 65536 in
theorem w_args : argsFit about1.vm theMethod args0 = true := by decide +kernel
set_option maxRecDepth 65536 in
theorem w_heap : heapFits about1 = true := by decide +kernel
set_option maxRecDepth 65536 in
theorem w_runnable : about1.curStatus? = some .runnable := by decide +kernel
set_option maxRecDepth 65536 in
theorem w_alone : about1.alone = true := by decide +kernel
set_option maxRecDepth 65536 in
theorem w_named : about1.methodNamed? x = some theMethod := by decide +kernel
set_option maxRecDepth 65536 in
theorem w_hears : about1.hears theMethod below0 = true := by decide +kernel
set_option maxRecDepth 65536 in
theorem w_ripe : about1.ripe theMethod args0 below0 = true := by decide +kernel
theorem w_running : about1.status = .running := rfl
set_option maxRecDepth 65536 in
theorem w_room : about1.hasRoom e0.platform room_1 = true :=
  launch0.hasRoom_least _ room_1 (by decide +kernel) (by decide +kernel) (by decide +kernel) (by decide +kernel) (by decide +kernel) (by decide +kernel)
theorem allAtoms_all (ts : List Jvm.Cond) (a : Array Jvm.Value) (st : Jvm.State) : (allAtoms ts).before a st = ts.all (fun c => c.before a st) := by
  induction ts with
  | nil => rfl
  | cons c t ih =>
    show (Jvm.Cond.and c (allAtoms t)).before a st = _
    rw [Jvm.Cond.before_and, ih, List.all_cons]
def words1 : List Jvm.Cond := Jvm.Cond.code x code maxLocals ret :: tables_1
/-- a 'code' word, met by the world's own term for the bytes: nothing is compared byte by byte -/
theorem code_word {y : MethodName} {bytes : ByteArray} {mx : Nat} {rt : Option FieldType} {a : Array Value} {s : State} {m : MethodId} {meth : Method} {c : Code} (h1 : s.methodNamed? y = some m) (h2 : s.vm.method? m = some meth) (h3 : meth.code = some c) (h4 : c.code = bytes)
    (h5 : (c.maxLocals == mx && c.exceptionTable.isEmpty && decide (c.maxStack ≤ mostOperands) && decide (meth.sig.returnType = rt) && !meth.locks && decide (parseMethodDescriptor y.desc = some meth.sig)) = true) : (Jvm.Cond.code y bytes mx rt).before a s = true := by
  simp only [Bool.and_eq_true, beq_iff_eq, Bool.not_eq_true', decide_eq_true_eq] at h5
  obtain ⟨⟨⟨⟨⟨g1, g2⟩, g3⟩, g4⟩, g5⟩, g6⟩ := h5
  simp [Cond.before, Cond.holds, Cond.value, h1, h2, h3, h4, g1, g2, g3, g4, g5, g6]
def isCode : Jvm.Cond → Bool
  | .code _ _ _ _ => true
  | _ => false
theorem all_split {L : List Jvm.Cond} {P : Jvm.Cond → Bool} (h1 : L.all (fun c => isCode c || P c) = true) (h2 : ∀ c ∈ L.filter isCode, P c = true) : L.all P = true := by
  refine List.all_eq_true.mpr fun c hc => ?_
  have h := List.all_eq_true.mp h1 c hc
  rcases Bool.eq_false_or_eq_true (isCode c) with hi | hi
  · exact h2 c (List.mem_filter.mpr ⟨hc, hi⟩)
  · simpa [hi] using h
set_option maxRecDepth 65536 in
theorem w_c0 : (Jvm.Cond.code x code maxLocals ret).before args0 about1 = true := code_word (m := ⟨1, 4⟩) (meth := k1m4) (c := k1c4) (by decide +kernel) rfl rfl rfl (by decide +kernel)
set_option maxRecDepth 65536 in
theorem w_c1 : (Jvm.Cond.code ({ cls := "com/example/pilfer/pilfer/TourNextPinLaw", name := "lo", desc := "(II)I" } : Jvm.MethodName) method_3_code (2 : Nat) (Option.some Jvm.ClassFile.FieldType.int)).before args0 about1 = true := code_word (m := ⟨1, 2⟩) (meth := k1m2) (c := k1c2) (by decide +kernel) rfl rfl rfl (by decide +kernel)
set_option maxRecDepth 65536 in
theorem w_c2 : (Jvm.Cond.code ({ cls := "com/example/pilfer/pilfer/TourNextPinLaw", name := "hi", desc := "(II)I" } : Jvm.MethodName) method_4_code (2 : Nat) (Option.some Jvm.ClassFile.FieldType.int)).before args0 about1 = true := code_word (m := ⟨1, 3⟩) (meth := k1m3) (c := k1c3) (by decide +kernel) rfl rfl rfl (by decide +kernel)
set_option maxRecDepth 65536 in
theorem w_c3 : (Jvm.Cond.code ({ cls := "com/example/pilfer/pilfer/TourNextPinLaw", name := "swap", desc := "([III)V" } : Jvm.MethodName) method_2_code (4 : Nat) (Option.none : Option Jvm.ClassFile.FieldType)).before args0 about1 = true := code_word (m := ⟨1, 1⟩) (meth := k1m1) (c := k1c1) (by decide +kernel) rfl rfl rfl (by decide +kernel)
set_option maxRecDepth 65536 in
theorem w_c4 : (Jvm.Cond.code ({ cls := "com/example/pilfer/pilfer/Tour", name := "<init>", desc := "([I)V" } : Jvm.MethodName) prog_24_method_1_code (3 : Nat) (Option.none : Option Jvm.ClassFile.FieldType)).before args0 about1 = true := code_word (m := ⟨2, 0⟩) (meth := k2m0) (c := k2c0) (by decide +kernel) rfl rfl rfl (by decide +kernel)
set_option maxRecDepth 65536 in
theorem w_c5 : (Jvm.Cond.code ({ cls := "java/lang/Object", name := "<init>", desc := "()V" } : Jvm.MethodName) object_method_1_code (1 : Nat) (Option.none : Option Jvm.ClassFile.FieldType)).before args0 about1 = true := code_word (m := ⟨0, 0⟩) (meth := k0m0) (c := k0c0) (by decide +kernel) rfl rfl rfl (by decide +kernel)
set_option maxRecDepth 65536 in
theorem w_c6 : (Jvm.Cond.code ({ cls := "com/example/pilfer/pilfer/Tour", name := "next", desc := "(I)I" } : Jvm.MethodName) prog_24_method_5_code (2 : Nat) (Option.some Jvm.ClassFile.FieldType.int)).before args0 about1 = true := code_word (m := ⟨2, 1⟩) (meth := k2m1) (c := k2c1) (by decide +kernel) rfl rfl rfl (by decide +kernel)
def codes1 : List Jvm.Cond := [Jvm.Cond.code x code maxLocals ret, Jvm.Cond.code ({ cls := "com/example/pilfer/pilfer/TourNextPinLaw", name := "lo", desc := "(II)I" } : Jvm.MethodName) method_3_code (2 : Nat) (Option.some Jvm.ClassFile.FieldType.int), Jvm.Cond.code ({ cls := "com/example/pilfer/pilfer/TourNextPinLaw", name := "hi", desc := "(II)I" } : Jvm.MethodName) method_4_code (2 : Nat) (Option.some Jvm.ClassFile.FieldType.int), Jvm.Cond.code ({ cls := "com/example/pilfer/pilfer/TourNextPinLaw", name := "swap", desc := "([III)V" } : Jvm.MethodName) method_2_code (4 : Nat) (Option.none : Option Jvm.ClassFile.FieldType), Jvm.Cond.code ({ cls := "com/example/pilfer/pilfer/Tour", name := "<init>", desc := "([I)V" } : Jvm.MethodName) prog_24_method_1_code (3 : Nat) (Option.none : Option Jvm.ClassFile.FieldType), Jvm.Cond.code ({ cls := "java/lang/Object", name := "<init>", desc := "()V" } : Jvm.MethodName) object_method_1_code (1 : Nat) (Option.none : Option Jvm.ClassFile.FieldType), Jvm.Cond.code ({ cls := "com/example/pilfer/pilfer/Tour", name := "next", desc := "(I)I" } : Jvm.MethodName) prog_24_method_5_code (2 : Nat) (Option.some Jvm.ClassFile.FieldType.int)]
set_option maxRecDepth 65536 in
theorem codes_eq : words1.filter isCode = codes1 := rfl
theorem w_codes : ∀ c ∈ words1.filter isCode, c.before args0 about1 = true := by
  rw [codes_eq]
  intro c hc
  simp only [codes1, List.mem_cons, List.not_mem_nil, or_false] at hc
  rcases hc with rfl | rfl | rfl | rfl | rfl | rfl | rfl
  · exact w_c0
  · exact w_c1
  · exact w_c2
  · exact w_c3
  · exact w_c4
  · exact w_c5
  · exact w_c6
set_option maxRecDepth 65536 in
theorem w_t1 : (words1.take 24).all (fun c => isCode c || c.before args0 about1) = true := by decide +kernel
set_option maxRecDepth 65536 in
theorem w_t2 : (words1.drop 24).all (fun c => isCode c || c.before args0 about1) = true := by decide +kernel
theorem w_tables : (allAtoms (Jvm.Cond.code x code maxLocals ret :: tables_1)).before args0 about1 = true := by
  rw [allAtoms_all]
  show words1.all (fun c => c.before args0 about1) = true
  refine all_split ?_ w_codes
  rw [← List.take_append_drop 24 words1, List.all_append, w_t1, w_t2]
  rfl
set_option maxRecDepth 65536 in
theorem w_case : (Jvm.Cond.and given_1 narrow_1).before args0 about1 = true := by decide +kernel
theorem w_applies : (headSpec (Jvm.Cond.code x code maxLocals ret :: tables_1) room_1).applies x e0.platform about1 = true :=
  (Spec.applies_iff w_frames).mpr ⟨w_running, w_runnable, w_alone, w_named, w_hears, w_ripe, w_room, w_tables⟩
theorem atStart : AtStart classFile x code maxLocals ret World_1 tables_1 room_1 Calls_1 rest_1 Pre_1 launch0 p0 e0 about1 theMethod args0 below0 :=
  ⟨lists_1, trivial, launch0.admits_env _ _ _, launch0.least_env, fairChoices_fair.cas, fairChoices_fair.clock, w_frames, w_args, w_heap, w_applies, trivial, trivial, w_case⟩
end start1
theorem witness_1 : WitnessClaimed_1 := ⟨start1.p0, start1.e0, start1.about1, start1.theMethod, start1.args0, start1.below0, start1.atStart⟩
end Jvm.Pilot.@@N@@
