import JvmDerived
import JvmDerived.Pilot.@@N@@Statement
import JvmDerived.Pilot.@@N@@Code
set_option linter.unusedVariables false
set_option linter.unusedSimpArgs false
namespace Jvm.Pilot.@@N@@
open Jvm Jvm.ClassFile Sem Op Lib Jvm.Free Jvm.Stand Jvm.LawKit Jvm.RoadKit Bundle Jvm.Pilot.@@N@@.Jvm.D
section OwnKit
variable {p : Program} {l : Launch} {e : Env} {R : Room} {s : State} {m : MethodId} {args : Array Value} {below : List Frame} {meth : Method} {c : Code} {T : State} {locs : List Loc} {cells slots : Nat} {Z : State} {a0 : Array Value} {h : Heap} {W : State → Outcome → Prop}
/-- what a walk owes from a frame on -/
def Go (p : Program) (e : Env) (below : List Frame) (W : State → Outcome → Prop) (T : State) (g : JFrame) : Prop := ∃ t o, Steps p.tables e below (T.setTop g) t ∧ t.status = .running ∧ Ended t below o ∧ W t o
theorem Go.of {T T' : State} {g g' : JFrame} (q : ∀ t, Steps p.tables e below (T'.setTop g') t → Steps p.tables e below (T.setTop g) t) (k : Go p e below W T' g') : Go p e below W T g := by
  obtain ⟨t, o, h1, h2⟩ := k
  exact ⟨t, o, q t h1, h2⟩
theorem Go.ret (X : Stand p l e R s m args below meth c T locs cells slots) {g : JFrame} {v : Option Value} (hv : meth.sig.returnType = none → v = none) (hk : meth.locks = false)
    (st : ∀ fs, (∀ (f : JFrame) (acts : List Action), f.method = m → f.locked = none → f.entered = [] → (doReturn e (T.setTop f) acts v).1 = T.setFrames fs) → Steps p.tables e below (T.setTop g) (T.setFrames fs))
    (hq : ∀ t : State, t.heap = T.heap → FrameEnd s (.returned v) t locs cells slots → W t (.returned v)) : Go p e below W T g := by
  obtain ⟨fs, hr, hrun, hended, hW, hsame⟩ := X.leave (v := v) hv hk
  exact ⟨_, _, st fs hr, hrun, hended, hq _ rfl ⟨⟨_, rfl⟩, hW, hsame⟩⟩
/-- ireturn of a boolean, byte, char, short -/
theorem Go.retN (X : Stand p l e R s m args below meth c T locs cells slots) (hx : p.tables.exec = Jvm.exec) {pc : Nat} {Ls : Array Slot} {z w : Int32} {t : FieldType} {rest : List Value} (hret : meth.sig.returnType = some t) (ht : t = .boolean ∨ t = .byte ∨ t = .char ∨ t = .short) (hd : decode c.code pc = .ok (.ireturn, 1)) (hk : meth.locks = false) (hn : nar t z = w)
    (hq : ∀ t : State, t.heap = T.heap → FrameEnd s (.returned (some (.int w))) t locs cells slots → W t (.returned (some (.int w)))) : Go p e below W T (mkF m pc Ls (.int z :: rest)) := by
  subst hn
  exact Go.ret X (fun q => by rw [hret] at q; cases q) hk (fun fs hr => Jvm.RoadKit.retN X hx hret ht hd hr) hq
theorem Go.retI (X : Stand p l e R s m args below meth c T locs cells slots) (hx : p.tables.exec = Jvm.exec) {pc : Nat} {Ls : Array Slot} {z w : Int32} {rest : List Value} (hret : meth.sig.returnType = some .int) (hd : decode c.code pc = .ok (.ireturn, 1)) (hk : meth.locks = false) (hn : z = w)
    (hq : ∀ t : State, t.heap = T.heap → FrameEnd s (.returned (some (.int w))) t locs cells slots → W t (.returned (some (.int w)))) : Go p e below W T (mkF m pc Ls (.int z :: rest)) := by
  subst hn
  exact Go.ret X (fun q => by rw [hret] at q; cases q) hk (fun fs hr => retOut X hx hret rfl (Or.inl ⟨rfl, Or.inl rfl, z, rfl⟩) hd hr) hq
theorem Go.retJ (X : Stand p l e R s m args below meth c T locs cells slots) (hx : p.tables.exec = Jvm.exec) {pc : Nat} {Ls : Array Slot} {z w : Int64} {rest : List Value} (hret : meth.sig.returnType = some .long) (hd : decode c.code pc = .ok (.lreturn, 1)) (hk : meth.locks = false) (hn : z = w)
    (hq : ∀ t : State, t.heap = T.heap → FrameEnd s (.returned (some (.long w))) t locs cells slots → W t (.returned (some (.long w)))) : Go p e below W T (mkF m pc Ls (.long z :: rest)) := by
  subst hn
  exact Go.ret X (fun q => by rw [hret] at q; cases q) hk (fun fs hr => retOut X hx hret rfl (Or.inr (Or.inl ⟨rfl, rfl, z, rfl⟩)) hd hr) hq
theorem Go.retA (X : Stand p l e R s m args below meth c T locs cells slots) (hx : p.tables.exec = Jvm.exec) {pc : Nat} {Ls : Array Slot} {t : FieldType} {a : Addr} {rest : List Value} (hret : meth.sig.returnType = some t) (ht : t.isReference = true) (hnr : narrow t (.ref a) = .ref a) (hd : decode c.code pc = .ok (.areturn, 1)) (hk : meth.locks = false)
    (hq : ∀ t : State, t.heap = T.heap → FrameEnd s (.returned (some (.ref a))) t locs cells slots → W t (.returned (some (.ref a)))) : Go p e below W T (mkF m pc Ls (.ref a :: rest)) :=
  Go.ret X (fun q => by rw [hret] at q; cases q) hk (fun fs hr => retOut X hx hret hnr (Or.inr (Or.inr (Or.inr (Or.inr ⟨rfl, ht, rfl⟩)))) hd hr) hq
theorem Go.retV (X : Stand p l e R s m args below meth c T locs cells slots) (hx : p.tables.exec = Jvm.exec) {pc : Nat} {Ls : Array Slot} (hret : meth.sig.returnType = none) (hd : decode c.code pc = .ok (.return_, 1)) (hk : meth.locks = false)
    (hq : ∀ t : State, t.heap = T.heap → FrameEnd s (.returned none) t locs cells slots → W t (.returned none)) : Go p e below W T (mkF m pc Ls []) :=
  Go.ret X (fun _ => rfl) hk (fun fs hr => X.returnOut hx hret hd hr) hq
/-- a body's contract out of its walk -/
theorem own_body {y : MethodName} {bytes : ByteArray} {maxL : Nat} {ret : Option FieldType} {ws : List Jvm.Cond} {rm : Room} {as' : Array Value} {Q : Option Value → Heap → List Loc → Prop} {Ls : Array Slot} (hpn : plainFor y = true) (hef : ∀ m, entryFrame m as' maxL = mkF m 0 Ls [])
    (walk : ∀ (p : Program) (e : Env) (s : State) (m : MethodId) (below : List Frame) (meth : Method) (c : Code) (T : State) (W : State → Outcome → Prop), Stand p l e rm s m as' below meth c T [] 0 0 → p.tables.exec = Jvm.exec → c.code = bytes → c.maxLocals = maxL → meth.sig.returnType = ret → meth.locks = false → s.vm.findClass y.cls = some m.cls → meth.name = y.name → Z.Warmed39 s.vm → T.heap = h →
      (∀ (t : State) v L cells slots, Q v t.heap L → FrameEnd s (.returned v) t L cells slots → cells ≤ rm.cells → slots ≤ rm.slots → W t (.returned v)) → Go p e below W T (mkF m 0 Ls [])) :
    MetFree l y (head1 (Jvm.Cond.code y bytes maxL ret :: ws) rm) (fun a U => a = as' ∧ Z.Warmed39 U.vm ∧ U.heap = h) (fun _ _ _ _ _ => True) (fun _ U o U' => ∃ v L, o = .returned v ∧ Q v U'.heap L ∧ FrameEnd U o U' L rm.cells rm.slots) := by
  refine MetFree.of_bodySF hpn hisR ?_
  intro p e s m args below meth c s₁ Bd hml hP hK
  obtain ⟨rfl, hZ, hh⟩ := hP
  obtain ⟨t, o, h1, h2, h3, h4⟩ := walk p e s m below meth c s₁ (fun t o => ∃ v L, o = .returned v ∧ Q v t.heap L ∧ FrameEnd s o t L rm.cells rm.slots) (Stand.of_body Bd) Bd.exec Bd.bytes hml Bd.returns (BodyLoose.notSynchronized Bd) (findClass_of_methodNamed Bd.named) (name_of_methodNamed Bd.named Bd.method).1 hZ (by rw [← hh, Bd.state]; rfl)
    (fun t v L cells slots hQ hF hc hs => ⟨v, L, rfl, hQ, hF.1, hF.2.1, hF.2.2.mono hc hs⟩)
  exact ⟨t, o, castTop (hef m) h1, h2, h3, h4⟩
/-- a contract, written short -/
abbrev Con (l : Launch) (Z : State) (y : MethodName) (bytes : ByteArray) (maxL : Nat) (ret : Option FieldType) (ws : List Jvm.Cond) (rm : Room) (as' : Array Value) (h : Heap) (Q : Option Value → Heap → List Loc → Prop) : Prop :=
  MetFree l y (head1 (Jvm.Cond.code y bytes maxL ret :: ws) rm) (fun a U => a = as' ∧ Z.Warmed39 U.vm ∧ U.heap = h) (fun _ _ _ _ _ => True) (fun _ U o U' => ∃ v L, o = .returned v ∧ Q v U'.heap L ∧ FrameEnd U o U' L rm.cells rm.slots)
/-- what a callee that leaves the heap as it is says -/
def PQ (w : Value) (h0 : Heap) (v : Option Value) (h : Heap) (L : List Loc) : Prop := v = some w ∧ L = [] ∧ h = h0
theorem Go.callS (X : Stand p l e R s m args below meth c T locs cells slots) (hx : p.tables.exec = Jvm.exec) (hZ : Z.Warmed39 s.vm) {own : String} {index : Nat} {y : MethodName} {bytes : ByteArray} {maxL : Nat} {ret : Option FieldType} {rm : Room} {as' : Array Value} {Q : Option Value → Heap → List Loc → Prop} (hown : s.vm.findClass own = some m.cls)
    (w1 : (Jvm.Cond.methodLink own index y).before a0 Z = true) (w2 : (Jvm.Cond.static y).before a0 Z = true) (w3 : (Jvm.Cond.initialized y.cls).before a0 Z = true) (w4 : (Jvm.Cond.code y bytes maxL ret).before a0 Z = true) (hy : y.cls ≠ "java/lang/invoke/MethodHandle" ∧ y.cls ≠ "java/lang/invoke/VarHandle") (eT : T.heap = h)
    (hM : Con l Z y bytes maxL ret [] rm as' h Q) {V : Nat} (hf : rm.frames + 1 ≤ R.frames) (hl : V + (maxL + 11) + rm.locals ≤ R.locals) (hc : cells + rm.cells ≤ R.cells) (hs : slots + rm.slots ≤ R.slots)
    {pc : Nat} {Ls : Array Slot} {st : List Value} (hsize : Ls.size = c.maxLocals) {argsL rest : List Value} (has : argsL.toArray = as') (hlen : ∀ sig, parseMethodDescriptor y.desc = some sig → argsL.length = sig.parameters.length) (hstack : st = argsL.reverse ++ rest) (hV : (rest.map fun v => v.category).sum ≤ V) (hd : decode c.code pc = .ok (.invokestatic index, 3))
    (K : ∀ T' v L, Q v T'.heap L → Stand p l e R s m args below meth c T' (locs ++ L) (cells + rm.cells) (slots + rm.slots) → Go p e below W T' (mkF m (pc + 3) Ls (v.toList ++ rest))) : Go p e below W T (mkF m pc Ls st) := by
  obtain ⟨v, vm₁, ⟨T', L', k', n'⟩, -, X', ⟨L, hQ, e1, e2, e3⟩, st'⟩ := Jvm.LawKit.callS X hx hown (mvT hZ w1) (mvT hZ w2) (mvT hZ w3) (mvT hZ w4) hy (backOf (W := V) hM hZ w4 w3 hf hl) (g := mkF m pc Ls st) rfl hsize hlen hstack (by show 2 * 0 + _ ≤ _; omega) hd (fun _ _ => ⟨has, eT, hc, hs⟩)
  dsimp only [Pt.U, Pt.locs, Pt.cells, Pt.slots] at X' e1 e2 e3 st' hQ
  subst e1 e2 e3
  exact Go.of st' (K _ _ _ hQ X')
theorem Go.callP (X : Stand p l e R s m args below meth c T locs cells slots) (hx : p.tables.exec = Jvm.exec) (hZ : Z.Warmed39 s.vm) {own : String} {index : Nat} {y : MethodName} {bytes : ByteArray} {maxL : Nat} {ret : Option FieldType} {rm : Room} {as' : Array Value} {w : Value} (hown : s.vm.findClass own = some m.cls)
    (w1 : (Jvm.Cond.methodLink own index y).before a0 Z = true) (w2 : (Jvm.Cond.static y).before a0 Z = true) (w3 : (Jvm.Cond.initialized y.cls).before a0 Z = true) (w4 : (Jvm.Cond.code y bytes maxL ret).before a0 Z = true) (hy : y.cls ≠ "java/lang/invoke/MethodHandle" ∧ y.cls ≠ "java/lang/invoke/VarHandle") (eT : T.heap = h)
    (hM : Con l Z y bytes maxL ret [] rm as' h (PQ w h)) {V : Nat} (hf : rm.frames + 1 ≤ R.frames) (hl : V + (maxL + 11) + rm.locals ≤ R.locals) (z1 : rm.cells = 0) (z2 : rm.slots = 0) (hc : cells ≤ R.cells) (hs : slots ≤ R.slots)
    {pc : Nat} {Ls : Array Slot} {st : List Value} (hsize : Ls.size = c.maxLocals) {argsL rest : List Value} (has : argsL.toArray = as') (hlen : ∀ sig, parseMethodDescriptor y.desc = some sig → argsL.length = sig.parameters.length) (hstack : st = argsL.reverse ++ rest) (hV : (rest.map fun v => v.category).sum ≤ V) (hd : decode c.code pc = .ok (.invokestatic index, 3))
    (K : ∀ T', Stand p l e R s m args below meth c T' locs cells slots → T'.heap = h → Go p e below W T' (mkF m (pc + 3) Ls (w :: rest))) : Go p e below W T (mkF m pc Ls st) := by
  refine Go.callS X hx hZ hown w1 w2 w3 w4 hy eT hM hf hl (by rw [z1]; exact hc) (by rw [z2]; exact hs) hsize has hlen hstack hV hd ?_
  rintro T' v L ⟨rfl, rfl, h3⟩ X'
  rw [z1, z2, List.append_nil] at X'
  exact K T' X' h3
end OwnKit
section OwnHeap
variable {p : Program} {l : Launch} {e : Env} {R : Room} {s : State} {m : MethodId} {args : Array Value} {below : List Frame} {meth : Method} {c : Code} {T : State} {locs : List Loc} {cells slots : Nat} {Z : State} {a0 : Array Value} {h h' : Heap} {W : State → Outcome → Prop}
/-- an array: its kind, its length, the ints in its places -/
def AI (Z : State) (h : Heap) (a : Addr) (ty : FieldType) (n : Nat) (f : Nat → Int32) : Prop := ∃ cl : Cell, Arr Z h a cl ty ∧ cl.slots.size = n ∧ n < 2 ^ 31 ∧ ∀ j, j < n → cl.slots[j]? = some (.int (f j)) ∧ fits ty (.int (f j)) = true
theorem AI.lt {a : Addr} {ty : FieldType} {n : Nat} {f : Nat → Int32} (A : AI Z h a ty n f) : a < h.size := by obtain ⟨cl, A, -⟩ := A; exact A.lt
theorem AI.small {a : Addr} {ty : FieldType} {n : Nat} {f : Nat → Int32} (A : AI Z h a ty n f) : n < 2 ^ 31 := by obtain ⟨cl, -, -, h, -⟩ := A; exact h
theorem AI.ext {a : Addr} {ty : FieldType} {n : Nat} {f : Nat → Int32} (A : AI Z h a ty n f) (E : Ext h h') : AI Z h' a ty n f := by obtain ⟨cl, A, r⟩ := A; exact ⟨cl, A.ext E, r⟩
theorem AI.other {a b : Addr} {ty : FieldType} {n sl : Nat} {f : Nat → Int32} {v : Value} (A : AI Z h b ty n f) (W : Wr h h' a sl v) (q : b ≠ a) : AI Z h' b ty n f := by obtain ⟨cl, A, r⟩ := A; exact ⟨cl, A.other W q, r⟩
theorem AI.keep {a : Addr} {ty : FieldType} {n : Nat} {f : Nat → Int32} {ws : List Addr} (A : AI Z h a ty n f) (K : Keep h h' ws) (q : a ∉ ws) : AI Z h' a ty n f := by obtain ⟨cl, A, r⟩ := A; exact ⟨cl, ⟨K.2.1 a cl A.1 q, A.2⟩, r⟩
theorem AI.congr {a : Addr} {ty : FieldType} {n : Nat} {f g : Nat → Int32} (A : AI Z h a ty n f) (q : ∀ j, j < n → f j = g j) : AI Z h a ty n g := by obtain ⟨cl, A, r1, r2, r3⟩ := A; exact ⟨cl, A, r1, r2, fun j hj => by rw [← q j hj]; exact r3 j hj⟩
def upd (f : Nat → Int32) (i : Nat) (x : Int32) : Nat → Int32 := fun j => if j = i then x else f j
theorem AI.set {a : Addr} {ty : FieldType} {n i : Nat} {f : Nat → Int32} {x : Int32} (A : AI Z h a ty n f) (W : Wr h h' a i (.int x)) (hv : fits ty (.int x) = true) : AI Z h' a ty n (upd f i x) := by
  obtain ⟨cl, A, r1, r2, r3⟩ := A
  refine ⟨_, A.same W, by rw [sz_set]; exact r1, r2, fun j hj => ?_⟩
  simp only [Cell.setSlot, upd]
  by_cases q : j = i
  · subst q; rw [if_pos rfl]; exact ⟨by simp [r1, hj], hv⟩
  · rw [if_neg q, Array.getElem?_setIfInBounds_ne (Ne.symm q)]; exact r3 j hj
/-- a place within the length -/
def PV (h0 : Heap) (v : Option Value) (h : Heap) (L : List Loc) : Prop := v = none ∧ L = [] ∧ h = h0
def inb (j : Int32) (n : Nat) : Prop := ¬ j < 0 ∧ j.toNatClampNeg < n
theorem inb.no {cl : Cell} {j : Int32} {n : Nat} (q : inb j n) (r : cl.slots.size = n) : ¬ (j < 0 ∨ cl.slots.size ≤ j.toNatClampNeg) := by rw [r]; exact fun z => z.elim q.1 (fun z => absurd q.2 (Nat.not_lt.mpr z))
theorem Go.alen (X : Stand p l e R s m args below meth c T locs cells slots) (hx : p.tables.exec = Jvm.exec) (hZ : Z.Warmed39 s.vm) (eT : T.heap = h) {a : Addr} {ty : FieldType} {n : Nat} {f : Nat → Int32} (A : AI Z h a ty n f) {pc : Nat} {Ls : Array Slot} {st : List Value} (hd : decode c.code pc = .ok (.arraylength, 1))
    (K : Go p e below W T (mkF m (pc + 1) Ls (.int n.toInt32 :: st))) : Go p e below W T (mkF m pc Ls (.ref a :: st)) := by
  obtain ⟨cl, A, r1, -⟩ := A
  subst r1
  exact Go.of (fun t k => X.arraylength hx (by rw [eT]; exact A.1) (State.isArrayOf_alike hZ.alike A.2.1) (g := mkF m pc Ls (.ref a :: st)) rfl rfl hd t k) K
theorem Go.iald (X : Stand p l e R s m args below meth c T locs cells slots) (hx : p.tables.exec = Jvm.exec) (hZ : Z.Warmed39 s.vm) (eT : T.heap = h) {a : Addr} {n : Nat} {f : Nat → Int32} (A : AI Z h a .int n f) {j : Int32} (hj : inb j n) {pc : Nat} {Ls : Array Slot} {st : List Value} (hd : decode c.code pc = .ok (.iaload, 1))
    (K : Go p e below W T (mkF m (pc + 1) Ls (.int (f j.toNatClampNeg) :: st))) : Go p e below W T (mkF m pc Ls (.int j :: .ref a :: st)) := by
  obtain ⟨cl, A, r1, -, r3⟩ := A
  exact Go.of (fun t k => X.iaload hx (j := j) (v := .int (f j.toNatClampNeg)) (by rw [eT]; exact A.1) (State.isArrayOf_alike hZ.alike A.2.1) A.2.2 (hj.no r1) (r3 _ hj.2).1 (g := mkF m pc Ls (.int j :: .ref a :: st)) rfl rfl hd t k) K
theorem Go.cald (X : Stand p l e R s m args below meth c T locs cells slots) (hx : p.tables.exec = Jvm.exec) (hZ : Z.Warmed39 s.vm) (eT : T.heap = h) {a : Addr} {n : Nat} {f : Nat → Int32} (A : AI Z h a .char n f) {j : Int32} (hj : inb j n) {pc : Nat} {Ls : Array Slot} {st : List Value} (hd : decode c.code pc = .ok (.caload, 1))
    (K : Go p e below W T (mkF m (pc + 1) Ls (.int (f j.toNatClampNeg) :: st))) : Go p e below W T (mkF m pc Ls (.int j :: .ref a :: st)) := by
  obtain ⟨cl, A, r1, -, r3⟩ := A
  exact Go.of (fun t k => X.caload hx (j := j) (v := .int (f j.toNatClampNeg)) (by rw [eT]; exact A.1) (State.isArrayOf_alike hZ.alike A.2.1) A.2.2 (hj.no r1) (r3 _ hj.2).1 (g := mkF m pc Ls (.int j :: .ref a :: st)) rfl rfl hd t k) K
theorem Go.bald (X : Stand p l e R s m args below meth c T locs cells slots) (hx : p.tables.exec = Jvm.exec) (hZ : Z.Warmed39 s.vm) (eT : T.heap = h) {a : Addr} {n : Nat} {f : Nat → Int32} (A : AI Z h a .byte n f) {j : Int32} (hj : inb j n) {pc : Nat} {Ls : Array Slot} {st : List Value} (hd : decode c.code pc = .ok (.baload, 1))
    (K : Go p e below W T (mkF m (pc + 1) Ls (.int (f j.toNatClampNeg) :: st))) : Go p e below W T (mkF m pc Ls (.int j :: .ref a :: st)) := by
  obtain ⟨cl, A, r1, -, r3⟩ := A
  exact Go.of (fun t k => X.baloadBytes hx (j := j) (v := .int (f j.toNatClampNeg)) (by rw [eT]; exact A.1) (State.isArrayOf_alike hZ.alike A.2.1) A.2.2 (hj.no r1) (r3 _ hj.2).1 (g := mkF m pc Ls (.int j :: .ref a :: st)) rfl rfl hd t k) K
theorem Go.zald (X : Stand p l e R s m args below meth c T locs cells slots) (hx : p.tables.exec = Jvm.exec) (hZ : Z.Warmed39 s.vm) (eT : T.heap = h) {a : Addr} {n : Nat} {f : Nat → Int32} (A : AI Z h a .boolean n f) {j : Int32} (hj : inb j n) {pc : Nat} {Ls : Array Slot} {st : List Value} (hd : decode c.code pc = .ok (.baload, 1))
    (K : Go p e below W T (mkF m (pc + 1) Ls (.int (f j.toNatClampNeg) :: st))) : Go p e below W T (mkF m pc Ls (.int j :: .ref a :: st)) := by
  obtain ⟨cl, A, r1, -, r3⟩ := A
  exact Go.of (fun t k => X.baloadBooleans hx (j := j) (v := .int (f j.toNatClampNeg)) (by rw [eT]; exact A.1) (State.isArrayOf_alike hZ.alike A.2.1) A.2.2 (hj.no r1) (r3 _ hj.2).1 (g := mkF m pc Ls (.int j :: .ref a :: st)) rfl rfl hd t k) K
theorem Go.ist (X : Stand p l e R s m args below meth c T locs cells slots) (hx : p.tables.exec = Jvm.exec) (hZ : Z.Warmed39 s.vm) (eT : T.heap = h) {n0 : Nat} (N : Fr n0 locs) {a : Addr} (ga : n0 ≤ a) {n : Nat} {f : Nat → Int32} (A : AI Z h a .int n f) {j x : Int32} (hj : inb j n) {pc : Nat} {Ls : Array Slot} {st : List Value} (hd : decode c.code pc = .ok (.iastore, 1))
    (K : ∀ T' h' L', Stand p l e R s m args below meth c T' L' cells slots → Fr n0 L' → T'.heap = h' → Wr h h' a j.toNatClampNeg (.int x) → AI Z h' a .int n (upd f j.toNatClampNeg x) → Go p e below W T' (mkF m (pc + 1) Ls st)) : Go p e below W T (mkF m pc Ls (.int x :: .int j :: .ref a :: st)) := by
  obtain ⟨cl, A', r1, r2, r3⟩ := id A
  obtain ⟨T', h', X', e', W', st'⟩ := stI X hx hZ eT A' (j := j) (hj.no r1) (g := mkF m pc Ls (.int x :: .int j :: .ref a :: st)) rfl rfl hd
  exact Go.of st' (K _ _ _ X' (Fr.snoc X' N ga) e' W' (A.set W' rfl))
theorem Go.bst (X : Stand p l e R s m args below meth c T locs cells slots) (hx : p.tables.exec = Jvm.exec) (hZ : Z.Warmed39 s.vm) (eT : T.heap = h) {n0 : Nat} (N : Fr n0 locs) {a : Addr} (ga : n0 ≤ a) {n : Nat} {f : Nat → Int32} (A : AI Z h a .byte n f) {j x : Int32} (hj : inb j n) {pc : Nat} {Ls : Array Slot} {st : List Value} (hd : decode c.code pc = .ok (.bastore, 1))
    (K : ∀ T' h' L', Stand p l e R s m args below meth c T' L' cells slots → Fr n0 L' → T'.heap = h' → Wr h h' a j.toNatClampNeg (.int (nar .byte x)) → AI Z h' a .byte n (upd f j.toNatClampNeg (nar .byte x)) → Go p e below W T' (mkF m (pc + 1) Ls st)) : Go p e below W T (mkF m pc Ls (.int x :: .int j :: .ref a :: st)) := by
  obtain ⟨cl, A', r1, r2, r3⟩ := id A
  obtain ⟨T', h', X', e', W', st'⟩ := stB X hx hZ eT A' (j := j) (hj.no r1) (g := mkF m pc Ls (.int x :: .int j :: .ref a :: st)) rfl rfl hd
  exact Go.of st' (K _ _ _ X' (Fr.snoc X' N ga) e' W' (A.set W' (fits_nar_byte _)))
theorem Go.zst (X : Stand p l e R s m args below meth c T locs cells slots) (hx : p.tables.exec = Jvm.exec) (hZ : Z.Warmed39 s.vm) (eT : T.heap = h) {n0 : Nat} (N : Fr n0 locs) {a : Addr} (ga : n0 ≤ a) {n : Nat} {f : Nat → Int32} (A : AI Z h a .boolean n f) {j x : Int32} (hj : inb j n) {pc : Nat} {Ls : Array Slot} {st : List Value} (hd : decode c.code pc = .ok (.bastore, 1))
    (K : ∀ T' h' L', Stand p l e R s m args below meth c T' L' cells slots → Fr n0 L' → T'.heap = h' → Wr h h' a j.toNatClampNeg (.int (nar .boolean x)) → AI Z h' a .boolean n (upd f j.toNatClampNeg (nar .boolean x)) → Go p e below W T' (mkF m (pc + 1) Ls st)) : Go p e below W T (mkF m pc Ls (.int x :: .int j :: .ref a :: st)) := by
  obtain ⟨cl, A', r1, r2, r3⟩ := id A
  obtain ⟨T', h', X', e', W', st'⟩ := stZ X hx hZ eT A' (j := j) (hj.no r1) (g := mkF m pc Ls (.int x :: .int j :: .ref a :: st)) rfl rfl hd
  exact Go.of st' (K _ _ _ X' (Fr.snoc X' N ga) e' W' (A.set W' (fits_nar_bool _)))
theorem Go.cst (X : Stand p l e R s m args below meth c T locs cells slots) (hx : p.tables.exec = Jvm.exec) (hZ : Z.Warmed39 s.vm) (eT : T.heap = h) {n0 : Nat} (N : Fr n0 locs) {a : Addr} (ga : n0 ≤ a) {n : Nat} {f : Nat → Int32} (A : AI Z h a .char n f) {j x : Int32} (hj : inb j n) {pc : Nat} {Ls : Array Slot} {st : List Value} (hd : decode c.code pc = .ok (.castore, 1))
    (K : ∀ T' h' L', Stand p l e R s m args below meth c T' L' cells slots → Fr n0 L' → T'.heap = h' → Wr h h' a j.toNatClampNeg (.int (nar .char x)) → AI Z h' a .char n (upd f j.toNatClampNeg (nar .char x)) → Go p e below W T' (mkF m (pc + 1) Ls st)) : Go p e below W T (mkF m pc Ls (.int x :: .int j :: .ref a :: st)) := by
  obtain ⟨cl, A', r1, r2, r3⟩ := id A
  obtain ⟨T', h', X', e', W', st'⟩ := stC X hx hZ eT A' (j := j) (hj.no r1) (g := mkF m pc Ls (.int x :: .int j :: .ref a :: st)) rfl rfl hd
  exact Go.of st' (K _ _ _ X' (Fr.snoc X' N ga) e' W' (A.set W' (fits_nar_char _)))
theorem AI.new {b cA : Nat} {ty : FieldType} {n : Int32} (A : Arr Z h b (newA cA ty n) ty) (hd : defaultValue ty = .int 0) (hf : fits ty (.int 0) = true) : AI Z h b ty n.toNatClampNeg (fun _ => 0) := by
  refine ⟨_, A, sz_new _ _ _, ?_, fun j hj => ?_⟩
  · show n.toInt.toNat < 2 ^ 31
    have := n.toInt_lt; omega
  · exact ⟨by simp [newA, hj, hd], hf⟩
theorem Go.newA (X : Stand p l e R s m args below meth c T locs cells slots) (hx : p.tables.exec = Jvm.exec) (hZ : Z.Warmed39 s.vm) {aty : ArrayType} (w : (Jvm.Cond.arrayClass (newarray.typeOf aty)).before a0 Z = true) (hdef : defaultValue (newarray.typeOf aty) = .int 0) (hft : fits (newarray.typeOf aty) (.int 0) = true) {ad : String} (had : "[" ++ (newarray.typeOf aty).toString = ad) (eT : T.heap = h) {pc : Nat} {Ls : Array Slot} {n : Int32} {st : List Value} (hd : decode c.code pc = .ok (.newarray aty, 2))
    (hn : ¬ n < 0) {cap : Nat} (hcap : n.toNatClampNeg ≤ cap) (hb : cap * 8 ≤ 536870912) (hc : cells + 1 ≤ R.cells) (hl : slots + cap ≤ R.slots)
    (K : ∀ T' h' b, b = h.size → Stand p l e R s m args below meth c T' locs (cells + 1) (slots + cap) → T'.heap = h' → Ext h h' → Exa Z h' b ad → AI Z h' b (newarray.typeOf aty) n.toNatClampNeg (fun _ => 0) → Go p e below W T' (mkF m (pc + 2) Ls (.ref b :: st))) : Go p e below W T (mkF m pc Ls (.int n :: st)) := by
  obtain ⟨T', h', cA, X', e', E', A', B', st'⟩ := newPE X hx hZ w eT (g := mkF m pc Ls (.int n :: st)) rfl hd rfl hn hcap hb hc hl had
  exact Go.of st' (K _ _ _ rfl X' e' E' B' (AI.new A' hdef hft))
theorem Go.newO (X : Stand p l e R s m args below meth c T locs cells slots) (hx : p.tables.exec = Jvm.exec) (hZ : Z.Warmed39 s.vm) {own C : String} {index n : Nat} (hown : s.vm.findClass own = some m.cls) (w : (Jvm.Cond.classLink own index C).before a0 Z = true) (wi : (Jvm.Cond.instantiable C n).before a0 Z = true) (wz : (Jvm.Cond.initialized C).before a0 Z = true) (eT : T.heap = h)
    {pc : Nat} {Ls : Array Slot} {st : List Value} (hd : decode c.code pc = .ok (.new index, 3)) (hc : cells + 1 ≤ R.cells) (hl : slots + n ≤ R.slots)
    (K : ∀ T' h' b, b = h.size → Stand p l e R s m args below meth c T' locs (cells + 1) (slots + n) → T'.heap = h' → Ext h h' → Exa Z h' b C → (∀ {O nm d : String} {ty : FieldType}, Laid Z a0 C O nm d → parseFieldDescriptor d = some ty → Fld Z h' b O nm d (defaultValue ty)) → Go p e below W T' (mkF m (pc + 3) Ls (.ref b :: st))) : Go p e below W T (mkF m pc Ls st) := by
  obtain ⟨T', h', X', e', E', A', D', -, st'⟩ := Jvm.RoadKit.newO X hx hZ hown w wi wz eT (g := mkF m pc Ls st) rfl hd hc hl
  exact Go.of st' (K _ _ _ rfl X' e' E' A' D')
theorem Go.getF (X : Stand p l e R s m args below meth c T locs cells slots) (hx : p.tables.exec = Jvm.exec) (hZ : Z.Warmed39 s.vm) {own O n d : String} {index : Nat} (hown : s.vm.findClass own = some m.cls) (w : (Jvm.Cond.fieldLink own index O n d).before a0 Z = true) (eT : T.heap = h) {a : Addr} {v : Value} (F : Fld Z h a O n d v)
    {pc : Nat} {Ls : Array Slot} {st : List Value} (hd : decode c.code pc = .ok (.getfield index, 3)) (K : ∀ T', Stand p l e R s m args below meth c T' locs cells slots → T'.heap = h → Go p e below W T' (mkF m (pc + 3) Ls (v :: st))) : Go p e below W T (mkF m pc Ls (.ref a :: st)) := by
  obtain ⟨T', X', e', st'⟩ := Jvm.RoadKit.getF X hx hZ hown (host := "") (Or.inl w) Via.refl eT F (g := mkF m pc Ls (.ref a :: st)) rfl rfl hd
  exact Go.of st' (K _ X' e')
theorem Go.putF (X : Stand p l e R s m args below meth c T locs cells slots) (hx : p.tables.exec = Jvm.exec) (hZ : Z.Warmed39 s.vm) {own O n d C : String} {index kk : Nat} {ty : FieldType} (hown : s.vm.findClass own = some m.cls) (w : (Jvm.Cond.fieldLink own index O n d).before a0 Z = true) (eT : T.heap = h) {n0 : Nat} (N : Fr n0 locs) {a : Addr} (ga : n0 ≤ a) {v old : Value} (F : Fld Z h a O n d old) (E : Exa Z h a C)
    (L : (Jvm.Cond.lays C O n d).before a0 Z = true ∨ ((Jvm.Cond.laysFinal C O n d).before a0 Z = true ∧ own = O ∧ meth.name = "<init>")) (wi : (Jvm.Cond.instantiable C kk).before a0 Z = true) (hty : parseFieldDescriptor d = some ty) {v' : Value} (hn : narrow ty v = v') (hf : fits ty v' = true)
    {pc : Nat} {Ls : Array Slot} {st : List Value} (hd : decode c.code pc = .ok (.putfield index, 3)) (K : ∀ T' h' L', Stand p l e R s m args below meth c T' L' cells slots → Fr n0 L' → T'.heap = h' → Wr h h' a (Jvm.RoadKit.slotOf Z O n d) v' → Fld Z h' a O n d v' → Go p e below W T' (mkF m (pc + 3) Ls st)) : Go p e below W T (mkF m pc Ls (v :: .ref a :: st)) := by
  obtain ⟨T', h', X', e', W', st'⟩ := putFN X hx hZ hown w Via.refl eT F E L wi hty hn hf (g := mkF m pc Ls (v :: .ref a :: st)) rfl rfl hd
  exact Go.of st' (K _ _ _ X' (Fr.snoc X' N ga) e' W' (F.same W'))
theorem Go.initO (X : Stand p l e R s m args below meth c T locs cells slots) (hx : p.tables.exec = Jvm.exec) (hZ : Z.Warmed39 s.vm) {own : String} {idx : Nat} (hown : s.vm.findClass own = some m.cls) (w1 : (Jvm.Cond.methodLink own idx Lib.objectInit).before a0 Z = true) (w2 : (Jvm.Cond.instanceMethod Lib.objectInit).before a0 Z = true)
    (w3 : (Jvm.Cond.code Lib.objectInit Jvm.LibCode.Object.Init0.code 1 none).before a0 Z = true) (eT : T.heap = h) {pc : Nat} {Ls : Array Slot} {st : List Value} (hsize : Ls.size = c.maxLocals) {a : Addr} (hd : decode c.code pc = .ok (.invokespecial idx, 3)) (hf : 1 ≤ R.frames) {V : Nat} (hV : (st.map fun v => v.category).sum ≤ V) (hl : V + 12 ≤ R.locals)
    (K : ∀ T', Stand p l e R s m args below meth c T' locs cells slots → T'.heap = h → Go p e below W T' (mkF m (pc + 3) Ls st)) : Go p e below W T (mkF m pc Ls (.ref a :: st)) := by
  obtain ⟨T', X', e', st'⟩ := Jvm.RoadKit.initO X hx hZ hown w1 w2 w3 eT (g := mkF m pc Ls (.ref a :: st)) rfl hsize rfl hd hf (W := V) (by show 2 * 0 + _ ≤ _; omega) hl
  exact Go.of st' (K _ X' e')
/-- a constructor by its contract -/
theorem Go.callI (X : Stand p l e R s m args below meth c T locs cells slots) (hx : p.tables.exec = Jvm.exec) (hZ : Z.Warmed39 s.vm) {own : String} {index : Nat} {y : MethodName} {bytes : ByteArray} {maxL : Nat} {rm : Room} {as' : Array Value} {Q : Option Value → Heap → List Loc → Prop} (hy1 : y.name = "<init>") (hown : s.vm.findClass own = some m.cls)
    (w1 : (Jvm.Cond.methodLink own index y).before a0 Z = true) (w2 : (Jvm.Cond.instanceMethod y).before a0 Z = true) (w3 : (Jvm.Cond.initialized y.cls).before a0 Z = true) (w4 : (Jvm.Cond.code y bytes maxL none).before a0 Z = true) (hy : y.cls ≠ "java/lang/invoke/MethodHandle" ∧ y.cls ≠ "java/lang/invoke/VarHandle") (eT : T.heap = h)
    (hM : Con l Z y bytes maxL none [] rm as' h Q) {V : Nat} (hf : rm.frames + 1 ≤ R.frames) (hl : V + (maxL + 11) + rm.locals ≤ R.locals) (hc : cells + rm.cells ≤ R.cells) (hs : slots + rm.slots ≤ R.slots)
    {pc : Nat} {Ls : Array Slot} {st : List Value} (hsize : Ls.size = c.maxLocals) {a : Addr} {argsL rest : List Value} (has : (.ref a :: argsL).toArray = as') (hlen : ∀ sig, parseMethodDescriptor y.desc = some sig → argsL.length = sig.parameters.length) (hstack : st = argsL.reverse ++ .ref a :: rest) (hV : (rest.map fun v => v.category).sum ≤ V) (hd : decode c.code pc = .ok (.invokespecial index, 3))
    (K : ∀ T' v L, Q v T'.heap L → Stand p l e R s m args below meth c T' (locs ++ L) (cells + rm.cells) (slots + rm.slots) → Go p e below W T' (mkF m (pc + 3) Ls (v.toList ++ rest))) : Go p e below W T (mkF m pc Ls st) := by
  obtain ⟨v, vm₁, ⟨T', L', k', n'⟩, -, X', ⟨L, hQ, e1, e2, e3⟩, st'⟩ := X.specialBack hx hy1 hown (mvT hZ w1) (mvT hZ w2) (mvT hZ w4) hy (backOf (W := V) hM hZ w4 w3 hf hl) (g := mkF m pc Ls st) rfl hsize (Steps.refl _) hlen hstack (by show 2 * 0 + _ ≤ _; omega) hd (fun _ _ => ⟨has, eT, hc, hs⟩)
  dsimp only [Pt.U, Pt.locs, Pt.cells, Pt.slots] at X' e1 e2 e3 st' hQ
  subst e1 e2 e3
  exact Go.of (fun _ k => st'.trans k) (K _ _ _ hQ X')
/-- an instance method by the contract of the body that the receiver's class selects -/
theorem Go.callV (X : Stand p l e R s m args below meth c T locs cells slots) (hx : p.tables.exec = Jvm.exec) (hZ : Z.Warmed39 s.vm) {own C : String} {index : Nat} {y : MethodName} {bytes : ByteArray} {maxL : Nat} {ret : Option FieldType} {rm : Room} {as' : Array Value} {Q : Option Value → Heap → List Loc → Prop} (hown : s.vm.findClass own = some m.cls)
    (w1 : (Jvm.Cond.methodLink own index y).before a0 Z = true) (w5 : (Jvm.Cond.declares y).before a0 Z = true) (w6 : (Jvm.Cond.selects C y y).before a0 Z = true) (w2 : (Jvm.Cond.instanceMethod y).before a0 Z = true) (w3 : (Jvm.Cond.initialized y.cls).before a0 Z = true) (w4 : (Jvm.Cond.code y bytes maxL ret).before a0 Z = true) (hy : y.cls ≠ "java/lang/invoke/MethodHandle" ∧ y.cls ≠ "java/lang/invoke/VarHandle") (eT : T.heap = h)
    {a : Addr} (E : Exa Z h a C) (hM : Con l Z y bytes maxL ret [] rm as' h Q) {V : Nat} (hf : rm.frames + 1 ≤ R.frames) (hl : V + (maxL + 11) + rm.locals ≤ R.locals) (hc : cells + rm.cells ≤ R.cells) (hs : slots + rm.slots ≤ R.slots)
    {pc : Nat} {Ls : Array Slot} {st : List Value} (hsize : Ls.size = c.maxLocals) {argsL rest : List Value} (has : (.ref a :: argsL).toArray = as') (hlen : ∀ sig, parseMethodDescriptor y.desc = some sig → argsL.length = sig.parameters.length) (hstack : st = argsL.reverse ++ .ref a :: rest) (hV : (rest.map fun v => v.category).sum ≤ V) (hd : decode c.code pc = .ok (.invokevirtual index, 3))
    (K : ∀ T' v L, Q v T'.heap L → Stand p l e R s m args below meth c T' (locs ++ L) (cells + rm.cells) (slots + rm.slots) → Go p e below W T' (mkF m (pc + 3) Ls (v.toList ++ rest))) : Go p e below W T (mkF m pc Ls st) := by
  obtain ⟨cq, kq, qa, qb, qc⟩ := isOf hZ eT E
  obtain ⟨v, vm₁, ⟨T', L', k', n'⟩, -, X', ⟨L, hQ, e1, e2, e3⟩, st'⟩ := X.virtualBack hx hown (mvT hZ w1) (mvT hZ w5) (notFace_of_selects (args := #[]) (mvT hZ w6)) (mvT hZ w6) (mvT hZ w2) hy (backOf (W := V) hM hZ w4 w3 hf hl) qa qc (g := mkF m pc Ls st) rfl hsize (Steps.refl _) hlen hstack (by show 2 * 0 + _ ≤ _; omega) hd (fun _ _ => ⟨has, eT, hc, hs⟩)
  dsimp only [Pt.U, Pt.locs, Pt.cells, Pt.slots] at X' e1 e2 e3 st' hQ
  subst e1 e2 e3
  exact Go.of (fun _ k => st'.trans k) (K _ _ _ hQ X')
end OwnHeap
section OwnMore
variable {p : Program} {l : Launch} {e : Env} {R : Room} {s : State} {m : MethodId} {args : Array Value} {below : List Frame} {meth : Method} {c : Code} {T : State} {locs : List Loc} {cells slots : Nat} {Z : State} {a0 : Array Value} {h h' : Heap} {W : State → Outcome → Prop}
/-- the model's own selection picks a private method itself -/
theorem own_selects {y : MethodName} {n : Nat} (hy : y.cls ≠ "java/lang/invoke/MethodHandle" ∧ y.cls ≠ "java/lang/invoke/VarHandle") (hins : (Jvm.Cond.instantiable y.cls n).before args s = true) (hpriv : (Jvm.Cond.privateMethod y).before args s = true) (hinst : (Jvm.Cond.instanceMethod y).before args s = true) :
    (Jvm.Cond.selects y.cls y y).before args s = true := by
  obtain ⟨c, k, hc, hk, -, hniab, -, -⟩ := Cond.instantiable_spec hins
  have hni : k.isInterface = false := (Bool.or_eq_false_iff.mp hniab).1
  obtain ⟨mk, methM, hnamed, hmethM, -, -⟩ := Cond.instanceMethod_spec hinst
  have hfound : s.methodFound? y.cls y.name y.desc = some mk := State.methodFound?_of_named hnamed hy
  have hcls : mk.cls = c := Option.some.inj ((findClass_of_methodNamed hnamed).symm.trans hc)
  have hsel : selectMethod {} s.vm c mk = .method mk := selectMethod_private hmethM (Cond.privateMethod_at hpriv mk methM hnamed hmethM)
  simp only [Cond.before, Cond.holds, Cond.value, hc, hfound, hnamed, hsel, hcls, hk]
  simp; exact hni
theorem Go.callPr (X : Stand p l e R s m args below meth c T locs cells slots) (hx : p.tables.exec = Jvm.exec) (hZ : Z.Warmed39 s.vm) {own : String} {index kk : Nat} {y : MethodName} {bytes : ByteArray} {maxL : Nat} {ret : Option FieldType} {rm : Room} {as' : Array Value} {Q : Option Value → Heap → List Loc → Prop} (hown : s.vm.findClass own = some m.cls)
    (w1 : (Jvm.Cond.methodLink own index y).before a0 Z = true) (w5 : (Jvm.Cond.instantiable y.cls kk).before a0 Z = true) (w6 : (Jvm.Cond.privateMethod y).before a0 Z = true) (w2 : (Jvm.Cond.instanceMethod y).before a0 Z = true) (w3 : (Jvm.Cond.initialized y.cls).before a0 Z = true) (w4 : (Jvm.Cond.code y bytes maxL ret).before a0 Z = true) (hy : y.cls ≠ "java/lang/invoke/MethodHandle" ∧ y.cls ≠ "java/lang/invoke/VarHandle") (eT : T.heap = h)
    {a : Addr} {C : String} (E : Exa Z h a C) (hM : Con l Z y bytes maxL ret [] rm as' h Q) {V : Nat} (hf : rm.frames + 1 ≤ R.frames) (hl : V + (maxL + 11) + rm.locals ≤ R.locals) (hc : cells + rm.cells ≤ R.cells) (hs : slots + rm.slots ≤ R.slots)
    {pc : Nat} {Ls : Array Slot} {st : List Value} (hsize : Ls.size = c.maxLocals) {argsL rest : List Value} (has : (.ref a :: argsL).toArray = as') (hlen : ∀ sig, parseMethodDescriptor y.desc = some sig → argsL.length = sig.parameters.length) (hstack : st = argsL.reverse ++ .ref a :: rest) (hV : (rest.map fun v => v.category).sum ≤ V) (hd : decode c.code pc = .ok (.invokevirtual index, 3))
    (K : ∀ T' v L, Q v T'.heap L → Stand p l e R s m args below meth c T' (locs ++ L) (cells + rm.cells) (slots + rm.slots) → Go p e below W T' (mkF m (pc + 3) Ls (v.toList ++ rest))) : Go p e below W T (mkF m pc Ls st) := by
  obtain ⟨cq, q1, q2⟩ := E.cell
  obtain ⟨v, vm₁, ⟨T', L', k', n'⟩, -, X', ⟨L, hQ, e1, e2, e3⟩, st'⟩ := X.privateBack hx hown (mvT hZ w1) (mvT hZ w2) (own_selects hy (mvT hZ w5) (mvP hZ w6) (mvT hZ w2)) (Cond.privateMethod_at (mvP hZ w6 (args := #[]))) (mvT hZ w4) hy (backOf (W := V) hM hZ w4 w3 hf hl) (g := mkF m pc Ls st) rfl hsize (Steps.refl _) (a := a) (by rw [eT]; exact q1) q2 hlen hstack (by show 2 * 0 + _ ≤ _; omega) hd (fun _ _ => ⟨has, eT, hc, hs⟩)
  dsimp only [Pt.U, Pt.locs, Pt.cells, Pt.slots] at X' e1 e2 e3 st' hQ
  subst e1 e2 e3
  exact Go.of (fun _ k => st'.trans k) (K _ _ _ hQ X')
theorem Go.clone (X : Stand p l e R s m args below meth c T locs cells slots) (hx : p.tables.exec = Jvm.exec) (hZ : Z.Warmed39 s.vm) {own ad : String} {index : Nat} (hown : s.vm.findClass own = some m.cls)
    (w1 : (Jvm.Cond.methodLink own index ⟨ad, "clone", "()Ljava/lang/Object;"⟩).before a0 Z = true) (w2 : (Jvm.Cond.sameMethod ad "java/lang/Object" "clone" "()Ljava/lang/Object;").before a0 Z = true) (w3 : (Jvm.Cond.native ⟨"java/lang/Object", "clone", "()Ljava/lang/Object;"⟩).before a0 Z = true)
    (w4 : (Jvm.Cond.instanceMethod ⟨"java/lang/Object", "clone", "()Ljava/lang/Object;"⟩).before a0 Z = true) (w5 : (Jvm.Cond.selects ad ⟨ad, "clone", "()Ljava/lang/Object;"⟩ ⟨"java/lang/Object", "clone", "()Ljava/lang/Object;"⟩).before a0 Z = true) (w6 : (Jvm.Cond.castable ad "java/lang/Cloneable").before a0 Z = true)
    (eT : T.heap = h) {a : Addr} {ty : FieldType} {n : Nat} {f : Nat → Int32} (A : AI Z h a ty n f) (E : Exa Z h a ad) {pc : Nat} {Ls : Array Slot} {st : List Value} (hsize : Ls.size = c.maxLocals) (hd : decode c.code pc = .ok (.invokevirtual index, 3))
    (hf : 1 ≤ R.frames) {V cap : Nat} (hV : (st.map fun v => v.category).sum ≤ V) (hl : V + 14 ≤ R.locals) (hcap : n ≤ cap) (hc : cells + 1 ≤ R.cells) (hsl : slots + cap ≤ R.slots)
    (K : ∀ T' h' b, b = h.size → Stand p l e R s m args below meth c T' locs (cells + 1) (slots + cap) → T'.heap = h' → Ext h h' → Exa Z h' b ad → AI Z h' b ty n f → Go p e below W T' (mkF m (pc + 3) Ls (.ref b :: st))) : Go p e below W T (mkF m pc Ls (.ref a :: st)) := by
  obtain ⟨cl, A', r1, r2, r3⟩ := id A
  have FC : FitC Z cl := fitC_of A' fun i hi v hv => by rw [(r3 i (r1 ▸ hi)).1] at hv; cases hv; exact (r3 i (r1 ▸ hi)).2
  obtain ⟨T', h', X', e', ex, B', E', st'⟩ := cloneA X hx hZ hown w1 w2 w3 w4 w5 w6 eT A' E FC (g := mkF m pc Ls (.ref a :: st)) rfl hsize rfl hd hf (W := V) (by show 2 * 0 + _ ≤ _; omega) hl (by rw [r1]; exact hcap) hc hsl
  exact Go.of st' (K _ _ _ rfl X' e' ex E' ⟨cloneOf cl, B', r1, r2, r3⟩)
theorem Go.cast (X : Stand p l e R s m args below meth c T locs cells slots) (hx : p.tables.exec = Jvm.exec) (hZ : Z.Warmed39 s.vm) {own C : String} {index : Nat} (hown : s.vm.findClass own = some m.cls) (w : (Jvm.Cond.classLink own index C).before a0 Z = true) (eT : T.heap = h) {a : Addr} (E : Exa Z h a C)
    {pc : Nat} {Ls : Array Slot} {st : List Value} (hd : decode c.code pc = .ok (.checkcast index, 3)) (K : ∀ T', Stand p l e R s m args below meth c T' locs cells slots → T'.heap = h → Go p e below W T' (mkF m (pc + 3) Ls (.ref a :: st))) : Go p e below W T (mkF m pc Ls (.ref a :: st)) := by
  obtain ⟨T', X', e', st'⟩ := castY X hx hZ hown w eT (Ins.self E) (g := mkF m pc Ls (.ref a :: st)) rfl rfl hd
  exact Go.of st' (K _ X' e')
theorem AI.arv {a : Addr} {ty : FieldType} {n : Nat} {f : Nat → Int32} (A : AI Z h a ty n f) : ∃ k, Arv Z h a k ty (Int32.ofNat n) ((List.range n).map fun j => .int (f j)) (.int 0) := by
  obtain ⟨cl, A, r1, r2, r3⟩ := A
  have e1 : (Int32.ofNat n).toInt = n := Int32.toInt_ofNat_of_lt (by omega)
  have e2 : (Int32.ofNat n).toNatClampNeg = n := by rw [Int32.toNatClampNeg, e1]; rfl
  have e3 : ∀ k, k < n → ((List.range n).map fun j => Value.int (f j)).getD k (.int 0) = .int (f k) := fun k hk => by simp [List.getD_eq_getElem?_getD, hk]
  refine ⟨cl.cls, cl, A, rfl, by rw [e2]; exact r1, ?_, fun k hk => ?_, fun k hk => ?_⟩
  · rw [Int32.lt_iff_toInt_lt, e1, show (0 : Int32).toInt = 0 from rfl]; omega
  · rw [e3 k (r1 ▸ hk)]; exact (r3 k (r1 ▸ hk)).1
  · rw [e3 k (r1 ▸ hk)]; exact (r3 k (r1 ▸ hk)).2
theorem AI.of_arv {a : Addr} {k : ClassId} {ty : FieldType} {n : Nat} {z : Int32} {vs : List Value} {d : Value} {f : Nat → Int32} (A : Arv Z h a k ty z vs d) (hz : z.toNatClampNeg = n) (hn : n < 2 ^ 31) (q : ∀ j, j < n → vs.getD j d = .int (f j)) : AI Z h a ty n f := by
  obtain ⟨cl, A, -, S, -, H, G⟩ := A
  rw [hz] at S
  exact ⟨cl, A, S, hn, fun j hj => by rw [← q j hj]; exact ⟨H j (by omega), G j (by omega)⟩⟩
/-- what a copy of nn places from sp on to dp leaves -/
def cpf (f g : Nat → Int32) (sp dp nn : Nat) : Nat → Int32 := fun j => if dp ≤ j ∧ j < dp + nn then f (sp + (j - dp)) else g j
theorem Go.acopy (X : Stand p l e R s m args below meth c T locs cells slots) (hx : p.tables.exec = Jvm.exec) (hZ : Z.Warmed39 s.vm) {own : String} {index : Nat} (hown : s.vm.findClass own = some m.cls)
    (w1 : (Jvm.Cond.methodLink own index Jvm.Stand.acN).before a0 Z = true) (w2 : (Jvm.Cond.native Jvm.Stand.acN).before a0 Z = true) (w3 : (Jvm.Cond.static Jvm.Stand.acN).before a0 Z = true) (w4 : (Jvm.Cond.initialized "java/lang/System").before a0 Z = true) (eT : T.heap = h)
    {a b : Addr} {ty : FieldType} {n n' : Nat} {f g : Nat → Int32} (A : AI Z h a ty n f) (B : AI Z h b ty n' g) (hty : refKind ty = false) {sp dp nn : Int32} (h1 : ¬ sp < 0) (h2 : ¬ dp < 0) (h3 : ¬ nn < 0) (h4 : sp.toNatClampNeg + nn.toNatClampNeg ≤ n) (h5 : dp.toNatClampNeg + nn.toNatClampNeg ≤ n')
    {n0 : Nat} (N : Fr n0 locs) (gb : n0 ≤ b) {pc : Nat} {Ls : Array Slot} {st : List Value} (hsize : Ls.size = c.maxLocals) (hd : decode c.code pc = .ok (.invokestatic index, 3)) (hf : 1 ≤ R.frames) {V : Nat} (hV : (st.map fun v => v.category).sum ≤ V) (hlo : V + (nativeFrameWords "java/lang/System" "arraycopy" 5 + 11) ≤ R.locals)
    (K : ∀ T' h' L', Stand p l e R s m args below meth c T' L' cells slots → Fr n0 L' → T'.heap = h' → Keep h h' [b] → AI Z h' b ty n' (cpf f g sp.toNatClampNeg dp.toNatClampNeg nn.toNatClampNeg) → Go p e below W T' (mkF m (pc + 3) Ls st)) : Go p e below W T (mkF m pc Ls (.int nn :: .int dp :: .ref b :: .int sp :: .ref a :: st)) := by
  obtain ⟨ka, Va⟩ := A.arv
  obtain ⟨kb, Vb⟩ := B.arv
  have na := A.small
  have nb := B.small
  have ea : (Int32.ofNat n).toNatClampNeg = n := by rw [Int32.toNatClampNeg, Int32.toInt_ofNat_of_lt (by omega)]; rfl
  have eb : (Int32.ofNat n').toNatClampNeg = n' := by rw [Int32.toNatClampNeg, Int32.toInt_ofNat_of_lt (by omega)]; rfl
  obtain ⟨T', h', L', X', e', N', K', V', st'⟩ := cpA X hx hZ hown w1 w2 w3 w4 eT Va Vb (Or.inl ⟨rfl, hty⟩) h1 h2 h3 (by rw [ea]; exact h4) (by rw [eb]; exact h5) rfl (by simpa using h5) N gb (g := mkF m pc Ls (.int nn :: .int dp :: .ref b :: .int sp :: .ref a :: st)) rfl hsize rfl hd hf (W := V) (by show 2 * 0 + _ ≤ _; omega) hlo
  refine Go.of st' (K _ _ _ X' N' e' K' (AI.of_arv V' eb nb fun j hj => ?_))
  have l1 : (((List.range n').map fun j => Value.int (g j)).take dp.toNatClampNeg).length = dp.toNatClampNeg := by rw [List.length_take]; simp; omega
  simp only [List.getD_eq_getElem?_getD, cpf]
  by_cases c1 : j < dp.toNatClampNeg
  · rw [if_neg (by omega), List.append_assoc, List.getElem?_append_left (by omega), List.getElem?_take_of_lt c1]
    simp [hj]
  · by_cases c2 : j < dp.toNatClampNeg + nn.toNatClampNeg
    · rw [if_pos ⟨by omega, c2⟩, List.getElem?_append_left (by rw [List.length_append, l1]; simp; omega), List.getElem?_append_right (by omega), l1]
      have q1 : j - dp.toNatClampNeg < nn.toNatClampNeg := by omega
      have q2 : sp.toNatClampNeg + (j - dp.toNatClampNeg) < n := by omega
      simp [q1, q2]
    · rw [if_neg (by omega), List.getElem?_append_right (by rw [List.length_append, l1]; simp; omega), List.length_append, l1, List.getElem?_drop]
      simp only [List.length_map, List.length_range]
      rw [show dp.toNatClampNeg + nn.toNatClampNeg + (j - (dp.toNatClampNeg + nn.toNatClampNeg)) = j by omega]
      simp [hj]
end OwnMore
section OwnNats
theorem own_toInt {n : Nat} (h : n < 2147483648) : (Int32.ofNat n).toInt = n := Int32.toInt_ofNat_of_lt (by omega)
theorem own_lt {i n : Nat} (h : i < n) (hn : n < 2147483648) : Int32.ofNat i < Int32.ofNat n := by
  rw [Int32.lt_iff_toInt_lt, own_toInt (by omega), own_toInt (by omega)]
  omega
theorem own_nlt {i n : Nat} (h : n ≤ i) (hn : i < 2147483648) : ¬ Int32.ofNat i < Int32.ofNat n := by
  rw [Int32.lt_iff_toInt_lt, own_toInt (by omega), own_toInt (by omega)]
  omega
theorem own_nn {n : Nat} (hn : n < 2147483648) : ¬ Int32.ofNat n < 0 := by
  rw [Int32.lt_iff_toInt_lt, own_toInt hn, show (0 : Int32).toInt = 0 from rfl]
  omega
theorem own_n32 {n : Nat} (hn : n < 2147483648) : (Int32.ofNat n).toNatClampNeg = n := by
  rw [Int32.toNatClampNeg, own_toInt hn]; rfl
theorem own_one (i : Nat) : Int32.ofNat i + (1 : Int32) = Int32.ofNat (i + 1) := (Int32.ofNat_add i 1).symm
theorem own_inbN {i n : Nat} (h : i < n) (hn : n ≤ 2147483648) : inb (Int32.ofNat i) n := ⟨own_nn (by omega), by rw [own_n32 (by omega)]; exact h⟩
theorem own_back {x : Int32} (h : ¬ x < 0) : Int32.ofNat x.toNatClampNeg = x := (back32 h).1
end OwnNats

def own_sm (x : Int32) : Prop := 0 ≤ x.toInt ∧ x.toInt ≤ 10
def own_Q (a b x : Int32) (k : Int) : Prop := 0 ≤ a.toInt ∧ b.toInt ≤ 3 ∧ x.toInt = a.toInt + k ∧ 0 ≤ k
theorem own_up {a : Int32} (h : a.toInt ≤ 1000) : (a + 1).toInt = a.toInt + 1 := by
  have e : ((a + 1).toInt - (a.toInt + 1)) % 4294967296 = 0 := c_iadd a 1
  have r1 := rng32 a
  have r2 := rng32 (a + 1)
  omega
theorem own_inr {x : Int32} {n : Nat} (h0 : 0 ≤ x.toInt) (h1 : x.toInt < n) : inb x n := by
  refine ⟨?_, ?_⟩
  · rw [Int32.lt_iff_toInt_lt, show (0 : Int32).toInt = 0 from rfl]; omega
  · show x.toInt.toNat < n
    omega
theorem own_qs {a b x : Int32} {k : Int} (h : own_Q a b x k) (c : x < b) : own_Q a b (x + 1) (k + 1) := by
  obtain ⟨h1, h2, h3, h4⟩ := h
  rw [Int32.lt_iff_toInt_lt] at c
  exact ⟨h1, h2, by rw [own_up (by omega)]; omega, by omega⟩
theorem own_qin {a b x : Int32} {k : Int} (h : own_Q a b x k) (c : x < b) : inb x 64 := by
  obtain ⟨h1, h2, h3, h4⟩ := h
  rw [Int32.lt_iff_toInt_lt] at c
  exact own_inr (by omega) (by omega)
theorem own_qstop {a b x : Int32} (h : own_Q a b x (0 + 1 + 1 + 1)) : ¬ x < b := by
  obtain ⟨h1, h2, h3, h4⟩ := h
  rw [Int32.lt_iff_toInt_lt]; omega
theorem own_ha {x : Int32} (h : own_sm x) : ¬ ((x ^^^ (x + (1 : Int32))) &&& ((1 : Int32) ^^^ (x + (1 : Int32)))) < (0 : Int32) := by
  obtain ⟨h1, h2⟩ := h
  refine Jvm.Free.XT.addOk32 ⟨?_, ?_⟩
  · rw [show (1 : Int32).toInt = 1 from rfl]; omega
  · rw [show (1 : Int32).toInt = 1 from rfl]; omega
theorem own_il {x : Int32} (h : own_sm x) : inb x 64 := own_inr h.1 (by have := h.2; omega)
theorem pd__II_I : parseMethodDescriptor "(II)I" = some ⟨[.int, .int], some .int⟩ := by decide +kernel
theorem pd__I_V : parseMethodDescriptor "(I)V" = some ⟨[.int], none⟩ := by decide +kernel
theorem pd___V : parseMethodDescriptor "()V" = some ⟨[], none⟩ := by decide +kernel
theorem pd__C_Lcom_example_tok6_tok6_TextBuffer_ : parseMethodDescriptor "(C)Lcom/example/tok6/tok6/TextBuffer;" = some ⟨[.char], some (.object "com/example/tok6/tok6/TextBuffer")⟩ := by decide +kernel
theorem pd__IIIIC_I : parseMethodDescriptor "(IIIIC)I" = some ⟨[.int, .int, .int, .int, .char], some .int⟩ := by decide +kernel
theorem d1_0 : decode prog_17_method_1_code 0 = .ok (.aload_n 0, 1) := by decide +kernel
theorem d1_1 : decode prog_17_method_1_code 1 = .ok (.invokespecial 3, 3) := by decide +kernel
theorem d1_4 : decode prog_17_method_1_code 4 = .ok (.aload_n 0, 1) := by decide +kernel
theorem d1_5 : decode prog_17_method_1_code 5 = .ok (.bipush 64, 2) := by decide +kernel
theorem d1_7 : decode prog_17_method_1_code 7 = .ok (.newarray .char, 2) := by decide +kernel
theorem d1_9 : decode prog_17_method_1_code 9 = .ok (.putfield 9, 3) := by decide +kernel
theorem d1_12 : decode prog_17_method_1_code 12 = .ok (.return_, 1) := by decide +kernel
theorem pn_1 : plainFor (⟨"com/example/tok6/tok6/TextBuffer", "<init>", "()V"⟩ : MethodName) = true := plainFor_of_name (by show plainName "com/example/tok6/tok6/TextBuffer" = true; first | (simp [plainName, overriddenIn]; done) | decide +kernel)
theorem ef_1 (m : MethodId) (a1 : Addr) : entryFrame m #[(.ref a1)] 1 = mkF m 0 #[.val (.ref a1)] [] := by first | (simp [entryFrame, mkF, argsToLocals, Value.category]; done) | rfl
def w1_3 : Nat → Int32 := fun _ => 0
def f1_nu : Nat → Int32 := w1_3
def Q1 (Z : State) (a1 : Addr) (h0 : Heap) (n0 : Nat) (v : Option Value) (h : Heap) (L : List Loc) : Prop := ∃ nu : Addr, v = none ∧ Fr n0 L ∧ Keep h0 h [a1] ∧ h0.size ≤ nu ∧ Fld Z h a1 "com/example/tok6/tok6/TextBuffer" "units" "[C" (.ref nu) ∧ Fld Z h a1 "com/example/tok6/tok6/TextBuffer" "length" "I" (.int (0 : Int32)) ∧ AI Z h nu .char 64 f1_nu
theorem d5_0 : decode jdk_29_method_24_code 0 = .ok (.iload_n 0, 1) := by decide +kernel
theorem d5_1 : decode jdk_29_method_24_code 1 = .ok (.iload_n 1, 1) := by decide +kernel
theorem d5_2 : decode jdk_29_method_24_code 2 = .ok (.iadd, 1) := by decide +kernel
theorem d5_3 : decode jdk_29_method_24_code 3 = .ok (.istore_n 2, 1) := by decide +kernel
theorem d5_4 : decode jdk_29_method_24_code 4 = .ok (.iload_n 0, 1) := by decide +kernel
theorem d5_5 : decode jdk_29_method_24_code 5 = .ok (.iload_n 2, 1) := by decide +kernel
theorem d5_6 : decode jdk_29_method_24_code 6 = .ok (.ixor, 1) := by decide +kernel
theorem d5_7 : decode jdk_29_method_24_code 7 = .ok (.iload_n 1, 1) := by decide +kernel
theorem d5_8 : decode jdk_29_method_24_code 8 = .ok (.iload_n 2, 1) := by decide +kernel
theorem d5_9 : decode jdk_29_method_24_code 9 = .ok (.ixor, 1) := by decide +kernel
theorem d5_10 : decode jdk_29_method_24_code 10 = .ok (.iand, 1) := by decide +kernel
theorem d5_11 : decode jdk_29_method_24_code 11 = .ok (.ifCond .ge 13, 3) := by decide +kernel
theorem d5_24 : decode jdk_29_method_24_code 24 = .ok (.iload_n 2, 1) := by decide +kernel
theorem d5_25 : decode jdk_29_method_24_code 25 = .ok (.ireturn, 1) := by decide +kernel
theorem pn_5 : plainFor (⟨"java/lang/Math", "addExact", "(II)I"⟩ : MethodName) = true := Jvm.Free.JP.mathPlain rfl (by decide +kernel)
theorem ef_5 (m : MethodId) (p1 : Int32) (p2 : Int32) : entryFrame m #[(.int p1), (.int p2)] 3 = mkF m 0 #[.val (.int p1), .val (.int p2), .unset] [] := by first | (simp [entryFrame, mkF, argsToLocals, Value.category]; done) | rfl
def v5_1 (p1 : Int32) (p2 : Int32) : Int32 := (p1 + p2)
def f5 (p1 : Int32) (p2 : Int32) : Int32 := (v5_1 p1 p2)
theorem d4_0 : decode prog_17_method_15_code 0 = .ok (.aload_n 0, 1) := by decide +kernel
theorem d4_1 : decode prog_17_method_15_code 1 = .ok (.getfield 19, 3) := by decide +kernel
theorem d4_4 : decode prog_17_method_15_code 4 = .ok (.iload_n 1, 1) := by decide +kernel
theorem d4_5 : decode prog_17_method_15_code 5 = .ok (.invokestatic 61, 3) := by decide +kernel
theorem d4_8 : decode prog_17_method_15_code 8 = .ok (.istore_n 2, 1) := by decide +kernel
theorem d4_9 : decode prog_17_method_15_code 9 = .ok (.iload_n 2, 1) := by decide +kernel
theorem d4_10 : decode prog_17_method_15_code 10 = .ok (.aload_n 0, 1) := by decide +kernel
theorem d4_11 : decode prog_17_method_15_code 11 = .ok (.getfield 9, 3) := by decide +kernel
theorem d4_14 : decode prog_17_method_15_code 14 = .ok (.arraylength, 1) := by decide +kernel
theorem d4_15 : decode prog_17_method_15_code 15 = .ok (.if_icmp .le 51, 3) := by decide +kernel
theorem d4_66 : decode prog_17_method_15_code 66 = .ok (.return_, 1) := by decide +kernel
theorem pn_4 : plainFor (⟨"com/example/tok6/tok6/TextBuffer", "ensureRoom", "(I)V"⟩ : MethodName) = true := plainFor_of_name (by show plainName "com/example/tok6/tok6/TextBuffer" = true; first | (simp [plainName, overriddenIn]; done) | decide +kernel)
theorem ef_4 (m : MethodId) (a1 : Addr) (p2 : Int32) : entryFrame m #[(.ref a1), (.int p2)] 3 = mkF m 0 #[.val (.ref a1), .val (.int p2), .unset] [] := by first | (simp [entryFrame, mkF, argsToLocals, Value.category]; done) | rfl
def v4_3 (p2 : Int32) (ln : Int32) (fu : Nat → Int32) : Int32 := (f5 ln p2)
theorem d3_0 : decode prog_17_method_2_code 0 = .ok (.aload_n 0, 1) := by decide +kernel
theorem d3_1 : decode prog_17_method_2_code 1 = .ok (.iconst 1, 1) := by decide +kernel
theorem d3_2 : decode prog_17_method_2_code 2 = .ok (.invokevirtual 15, 3) := by decide +kernel
theorem d3_5 : decode prog_17_method_2_code 5 = .ok (.aload_n 0, 1) := by decide +kernel
theorem d3_6 : decode prog_17_method_2_code 6 = .ok (.getfield 9, 3) := by decide +kernel
theorem d3_9 : decode prog_17_method_2_code 9 = .ok (.aload_n 0, 1) := by decide +kernel
theorem d3_10 : decode prog_17_method_2_code 10 = .ok (.dup, 1) := by decide +kernel
theorem d3_11 : decode prog_17_method_2_code 11 = .ok (.getfield 19, 3) := by decide +kernel
theorem d3_14 : decode prog_17_method_2_code 14 = .ok (.dup_x1, 1) := by decide +kernel
theorem d3_15 : decode prog_17_method_2_code 15 = .ok (.iconst 1, 1) := by decide +kernel
theorem d3_16 : decode prog_17_method_2_code 16 = .ok (.iadd, 1) := by decide +kernel
theorem d3_17 : decode prog_17_method_2_code 17 = .ok (.putfield 19, 3) := by decide +kernel
theorem d3_20 : decode prog_17_method_2_code 20 = .ok (.iload_n 1, 1) := by decide +kernel
theorem d3_21 : decode prog_17_method_2_code 21 = .ok (.castore, 1) := by decide +kernel
theorem d3_22 : decode prog_17_method_2_code 22 = .ok (.aload_n 0, 1) := by decide +kernel
theorem d3_23 : decode prog_17_method_2_code 23 = .ok (.areturn, 1) := by decide +kernel
theorem pn_3 : plainFor (⟨"com/example/tok6/tok6/TextBuffer", "append", "(C)Lcom/example/tok6/tok6/TextBuffer;"⟩ : MethodName) = true := plainFor_of_name (by show plainName "com/example/tok6/tok6/TextBuffer" = true; first | (simp [plainName, overriddenIn]; done) | decide +kernel)
theorem ef_3 (m : MethodId) (a1 : Addr) (p2 : Int32) : entryFrame m #[(.ref a1), (.int p2)] 2 = mkF m 0 #[.val (.ref a1), .val (.int p2)] [] := by first | (simp [entryFrame, mkF, argsToLocals, Value.category]; done) | rfl
def v3_5 (p2 : Int32) (ln : Int32) (fu : Nat → Int32) : Int32 := (ln + (1 : Int32))
def w3_7 (p2 : Int32) (ln : Int32) (fu : Nat → Int32) : Nat → Int32 := upd fu (ln).toNatClampNeg (nar .char p2)
def f3_length (p2 : Int32) (ln : Int32) (fu : Nat → Int32) : Int32 := (v3_5 p2 ln fu)
def f3_au (p2 : Int32) (ln : Int32) (fu : Nat → Int32) : Nat → Int32 := (w3_7 p2 ln fu)
def Q3 (Z : State) (a1 : Addr) (p2 : Int32) (ln : Int32) (au : Addr) (fu : Nat → Int32) (h0 : Heap) (n0 : Nat) (v : Option Value) (h : Heap) (L : List Loc) : Prop := v = some (.ref a1) ∧ Fr n0 L ∧ Keep h0 h [a1, au] ∧ Fld Z h a1 "com/example/tok6/tok6/TextBuffer" "length" "I" (.int (f3_length p2 ln fu)) ∧ Fld Z h a1 "com/example/tok6/tok6/TextBuffer" "units" "[C" (.ref au) ∧ AI Z h au .char 64 (f3_au p2 ln fu)
theorem d6_0 : decode prog_17_method_12_code 0 = .ok (.iconst 0, 1) := by decide +kernel
theorem d6_1 : decode prog_17_method_12_code 1 = .ok (.istore_n 3, 1) := by decide +kernel
theorem d6_2 : decode prog_17_method_12_code 2 = .ok (.iload_n 1, 1) := by decide +kernel
theorem d6_3 : decode prog_17_method_12_code 3 = .ok (.istore 4, 2) := by decide +kernel
theorem d6_5 : decode prog_17_method_12_code 5 = .ok (.iload 4, 2) := by decide +kernel
theorem d6_7 : decode prog_17_method_12_code 7 = .ok (.iload_n 2, 1) := by decide +kernel
theorem d6_8 : decode prog_17_method_12_code 8 = .ok (.if_icmp .ge 22, 3) := by decide +kernel
theorem d6_11 : decode prog_17_method_12_code 11 = .ok (.ldc 57, 2) := by decide +kernel
theorem d6_13 : decode prog_17_method_12_code 13 = .ok (.iload_n 3, 1) := by decide +kernel
theorem d6_14 : decode prog_17_method_12_code 14 = .ok (.imul, 1) := by decide +kernel
theorem d6_15 : decode prog_17_method_12_code 15 = .ok (.aload_n 0, 1) := by decide +kernel
theorem d6_16 : decode prog_17_method_12_code 16 = .ok (.getfield 9, 3) := by decide +kernel
theorem d6_19 : decode prog_17_method_12_code 19 = .ok (.iload 4, 2) := by decide +kernel
theorem d6_21 : decode prog_17_method_12_code 21 = .ok (.caload, 1) := by decide +kernel
theorem d6_22 : decode prog_17_method_12_code 22 = .ok (.iadd, 1) := by decide +kernel
theorem d6_23 : decode prog_17_method_12_code 23 = .ok (.istore_n 3, 1) := by decide +kernel
theorem d6_24 : decode prog_17_method_12_code 24 = .ok (.iinc 4 1, 3) := by decide +kernel
theorem d6_27 : decode prog_17_method_12_code 27 = .ok (.goto (-22), 3) := by decide +kernel
theorem d6_30 : decode prog_17_method_12_code 30 = .ok (.iload_n 3, 1) := by decide +kernel
theorem d6_31 : decode prog_17_method_12_code 31 = .ok (.ldc 58, 2) := by decide +kernel
theorem d6_33 : decode prog_17_method_12_code 33 = .ok (.imul, 1) := by decide +kernel
theorem d6_34 : decode prog_17_method_12_code 34 = .ok (.istore_n 3, 1) := by decide +kernel
theorem d6_35 : decode prog_17_method_12_code 35 = .ok (.iload_n 3, 1) := by decide +kernel
theorem d6_36 : decode prog_17_method_12_code 36 = .ok (.iload_n 3, 1) := by decide +kernel
theorem d6_37 : decode prog_17_method_12_code 37 = .ok (.bipush 16, 2) := by decide +kernel
theorem d6_39 : decode prog_17_method_12_code 39 = .ok (.iushr, 1) := by decide +kernel
theorem d6_40 : decode prog_17_method_12_code 40 = .ok (.ixor, 1) := by decide +kernel
theorem d6_41 : decode prog_17_method_12_code 41 = .ok (.ireturn, 1) := by decide +kernel
theorem pn_6 : plainFor (⟨"com/example/tok6/tok6/TextBuffer", "hash", "(II)I"⟩ : MethodName) = true := plainFor_of_name (by show plainName "com/example/tok6/tok6/TextBuffer" = true; first | (simp [plainName, overriddenIn]; done) | decide +kernel)
theorem ef_6 (m : MethodId) (a1 : Addr) (p2 : Int32) (p3 : Int32) : entryFrame m #[(.ref a1), (.int p2), (.int p3)] 5 = mkF m 0 #[.val (.ref a1), .val (.int p2), .val (.int p3), .unset, .unset] [] := by first | (simp [entryFrame, mkF, argsToLocals, Value.category]; done) | rfl
def v6_2 (p2 : Int32) (p3 : Int32) (fu : Nat → Int32) : Int32 := ((0 : Int32) * (-1640531527 : Int32))
def v6_4 (p2 : Int32) (p3 : Int32) (fu : Nat → Int32) : Int32 := (((16777619 : Int32) * (0 : Int32)) + (fu (p2).toNatClampNeg))
def v6_5 (p2 : Int32) (p3 : Int32) (fu : Nat → Int32) : Int32 := (p2 + (1 : Int32))
def v6_7 (p2 : Int32) (p3 : Int32) (fu : Nat → Int32) : Int32 := ((v6_4 p2 p3 fu) * (-1640531527 : Int32))
def v6_9 (p2 : Int32) (p3 : Int32) (fu : Nat → Int32) : Int32 := (((16777619 : Int32) * (v6_4 p2 p3 fu)) + (fu (v6_5 p2 p3 fu).toNatClampNeg))
def v6_10 (p2 : Int32) (p3 : Int32) (fu : Nat → Int32) : Int32 := ((v6_5 p2 p3 fu) + (1 : Int32))
def v6_12 (p2 : Int32) (p3 : Int32) (fu : Nat → Int32) : Int32 := ((v6_9 p2 p3 fu) * (-1640531527 : Int32))
def v6_14 (p2 : Int32) (p3 : Int32) (fu : Nat → Int32) : Int32 := (((16777619 : Int32) * (v6_9 p2 p3 fu)) + (fu (v6_10 p2 p3 fu).toNatClampNeg))
def v6_15 (p2 : Int32) (p3 : Int32) (fu : Nat → Int32) : Int32 := ((v6_10 p2 p3 fu) + (1 : Int32))
def v6_16 (p2 : Int32) (p3 : Int32) (fu : Nat → Int32) : Int32 := ((v6_14 p2 p3 fu) * (-1640531527 : Int32))
def f6 (p2 : Int32) (p3 : Int32) (fu : Nat → Int32) : Int32 := (if p2 < p3 then (if (v6_5 p2 p3 fu) < p3 then (if (v6_10 p2 p3 fu) < p3 then ((v6_16 p2 p3 fu) ^^^ (((v6_16 p2 p3 fu).toUInt32 >>> ((16 : Int32) &&& 31).toUInt32).toInt32)) else ((v6_12 p2 p3 fu) ^^^ (((v6_12 p2 p3 fu).toUInt32 >>> ((16 : Int32) &&& 31).toUInt32).toInt32))) else ((v6_7 p2 p3 fu) ^^^ (((v6_7 p2 p3 fu).toUInt32 >>> ((16 : Int32) &&& 31).toUInt32).toInt32))) else ((v6_2 p2 p3 fu) ^^^ (((v6_2 p2 p3 fu).toUInt32 >>> ((16 : Int32) &&& 31).toUInt32).toInt32)))
theorem d7_0 : decode method_2_code 0 = .ok (.iload_n 1, 1) := by decide +kernel
theorem d7_1 : decode method_2_code 1 = .ok (.iload_n 3, 1) := by decide +kernel
theorem d7_2 : decode method_2_code 2 = .ok (.if_icmp .gt 16, 3) := by decide +kernel
theorem d7_5 : decode method_2_code 5 = .ok (.iload_n 3, 1) := by decide +kernel
theorem d7_6 : decode method_2_code 6 = .ok (.iload_n 2, 1) := by decide +kernel
theorem d7_7 : decode method_2_code 7 = .ok (.if_icmp .ge 11, 3) := by decide +kernel
theorem d7_10 : decode method_2_code 10 = .ok (.ldc 7, 2) := by decide +kernel
theorem d7_12 : decode method_2_code 12 = .ok (.iload_n 0, 1) := by decide +kernel
theorem d7_13 : decode method_2_code 13 = .ok (.imul, 1) := by decide +kernel
theorem d7_14 : decode method_2_code 14 = .ok (.iload 4, 2) := by decide +kernel
theorem d7_16 : decode method_2_code 16 = .ok (.iadd, 1) := by decide +kernel
theorem d7_17 : decode method_2_code 17 = .ok (.ireturn, 1) := by decide +kernel
theorem d7_18 : decode method_2_code 18 = .ok (.iload_n 0, 1) := by decide +kernel
theorem d7_19 : decode method_2_code 19 = .ok (.ireturn, 1) := by decide +kernel
theorem pn_7 : plainFor (⟨"com/example/tok6/tok6/TextBufferHashPinLaw", "step", "(IIIIC)I"⟩ : MethodName) = true := plainFor_of_name (by show plainName "com/example/tok6/tok6/TextBufferHashPinLaw" = true; first | (simp [plainName, overriddenIn]; done) | decide +kernel)
theorem ef_7 (m : MethodId) (p1 : Int32) (p2 : Int32) (p3 : Int32) (p4 : Int32) (p5 : Int32) : entryFrame m #[(.int p1), (.int p2), (.int p3), (.int p4), (.int p5)] 5 = mkF m 0 #[.val (.int p1), .val (.int p2), .val (.int p3), .val (.int p4), .val (.int p5)] [] := by first | (simp [entryFrame, mkF, argsToLocals, Value.category]; done) | rfl
def f7 (p1 : Int32) (p2 : Int32) (p3 : Int32) (p4 : Int32) (p5 : Int32) : Int32 := (if p4 < p2 then p1 else (if p4 < p3 then (((16777619 : Int32) * p1) + p5) else p1))
theorem pn_0 : plainFor x = true := plainFor_of_name (by show plainName "com/example/tok6/tok6/TextBufferHashPinLaw" = true; first | (simp [plainName, overriddenIn]; done) | decide +kernel)
theorem ef_0 (m : MethodId) (p1 : Int32) (p2 : Int32) (p3 : Int32) (p4 : Int32) (p5 : Int32) : entryFrame m #[(.int p1), (.int p2), (.int p3), (.int p4), (.int p5)] maxLocals = mkF m 0 #[.val (.int p1), .val (.int p2), .val (.int p3), .val (.int p4), .val (.int p5), .unset, .unset, .unset, .unset, .unset, .unset, .unset, .unset, .unset] [] := by first | (simp [entryFrame, mkF, argsToLocals, Value.category, maxLocals]; done) | rfl
def v0_1 (p1 : Int32) (p2 : Int32) (p3 : Int32) (p4 : Int32) (p5 : Int32) : Int32 := (p1.toUInt32.toUInt16.toUInt32.toInt32)
def v0_2 (p1 : Int32) (p2 : Int32) (p3 : Int32) (p4 : Int32) (p5 : Int32) : Int32 := (p2.toUInt32.toUInt16.toUInt32.toInt32)
def v0_3 (p1 : Int32) (p2 : Int32) (p3 : Int32) (p4 : Int32) (p5 : Int32) : Int32 := (p3.toUInt32.toUInt16.toUInt32.toInt32)
def v0_4 (p1 : Int32) (p2 : Int32) (p3 : Int32) (p4 : Int32) (p5 : Int32) : Int32 := ((p4 &&& (2147483647 : Int32)) % (4 : Int32))
def v0_5 (p1 : Int32) (p2 : Int32) (p3 : Int32) (p4 : Int32) (p5 : Int32) : Int32 := ((p5 &&& (2147483647 : Int32)) % (4 : Int32))
def v0_12 (p1 : Int32) (p2 : Int32) (p3 : Int32) (p4 : Int32) (p5 : Int32) : Int32 := (f6 (v0_4 p1 p2 p3 p4 p5) (v0_5 p1 p2 p3 p4 p5) (f3_au (v0_3 p1 p2 p3 p4 p5) (f3_length (v0_2 p1 p2 p3 p4 p5) (f3_length (v0_1 p1 p2 p3 p4 p5) (0 : Int32) f1_nu) (f3_au (v0_1 p1 p2 p3 p4 p5) (0 : Int32) f1_nu)) (f3_au (v0_2 p1 p2 p3 p4 p5) (f3_length (v0_1 p1 p2 p3 p4 p5) (0 : Int32) f1_nu) (f3_au (v0_1 p1 p2 p3 p4 p5) (0 : Int32) f1_nu))))
def v0_14 (p1 : Int32) (p2 : Int32) (p3 : Int32) (p4 : Int32) (p5 : Int32) : Int32 := (f7 (0 : Int32) (v0_4 p1 p2 p3 p4 p5) (v0_5 p1 p2 p3 p4 p5) (0 : Int32) (v0_1 p1 p2 p3 p4 p5))
def v0_16 (p1 : Int32) (p2 : Int32) (p3 : Int32) (p4 : Int32) (p5 : Int32) : Int32 := (f7 (v0_14 p1 p2 p3 p4 p5) (v0_4 p1 p2 p3 p4 p5) (v0_5 p1 p2 p3 p4 p5) (1 : Int32) (v0_2 p1 p2 p3 p4 p5))
def v0_18 (p1 : Int32) (p2 : Int32) (p3 : Int32) (p4 : Int32) (p5 : Int32) : Int32 := (f7 (v0_16 p1 p2 p3 p4 p5) (v0_4 p1 p2 p3 p4 p5) (v0_5 p1 p2 p3 p4 p5) (2 : Int32) (v0_3 p1 p2 p3 p4 p5))
def v0_19 (p1 : Int32) (p2 : Int32) (p3 : Int32) (p4 : Int32) (p5 : Int32) : Int32 := ((v0_18 p1 p2 p3 p4 p5) * (-1640531527 : Int32))
def v0_20 (p1 : Int32) (p2 : Int32) (p3 : Int32) (p4 : Int32) (p5 : Int32) : Int32 := ((v0_19 p1 p2 p3 p4 p5) ^^^ (((v0_19 p1 p2 p3 p4 p5).toUInt32 >>> ((16 : Int32) &&& 31).toUInt32).toInt32))
def f0 (p1 : Int32) (p2 : Int32) (p3 : Int32) (p4 : Int32) (p5 : Int32) : Int32 := (if (v0_12 p1 p2 p3 p4 p5) = (v0_20 p1 p2 p3 p4 p5) then (1 : Int32) else (0 : Int32))
def Q0 (Z : State) (p1 : Int32) (p2 : Int32) (p3 : Int32) (p4 : Int32) (p5 : Int32) (h0 : Heap) (n0 : Nat) (v : Option Value) (h : Heap) (L : List Loc) : Prop := v = some (.int (f0 p1 p2 p3 p4 p5)) ∧ Fr n0 L ∧ Keep h0 h []
theorem own_hc {x : Int32} (h : own_sm x) : ¬ (64 : Int32) < (f5 x (1 : Int32)) := by
  obtain ⟨h1, h2⟩ := h
  rw [f5, v5_1, Int32.lt_iff_toInt_lt, own_up (by omega), show (64 : Int32).toInt = 64 from rfl]; omega
theorem own_sm0 : own_sm 0 := ⟨by decide, by decide⟩
theorem own_sm1 {x : Int32} {f : Nat → Int32} : own_sm (f3_length x 0 f) := ⟨by rw [f3_length, v3_5]; decide, by rw [f3_length, v3_5]; decide⟩
theorem own_sm2 {x y : Int32} {f g : Nat → Int32} : own_sm (f3_length x (f3_length y 0 f) g) := ⟨by rw [f3_length, v3_5, f3_length, v3_5]; decide, by rw [f3_length, v3_5, f3_length, v3_5]; decide⟩
theorem own_m4 (x : Int32) : 0 ≤ ((x &&& (2147483647 : Int32)) % (4 : Int32)).toInt ∧ ((x &&& (2147483647 : Int32)) % (4 : Int32)).toInt ≤ 3 := by
  have a1 : (x &&& 2147483647).toInt = x.toInt % (2 ^ 31 : Nat) := c_mask x 2147483647 31 (by decide) (by decide)
  have m1 : ((x &&& 2147483647) % 4).toInt = (x &&& 2147483647).toInt % 4 := (c_irem (x &&& 2147483647) 4 4 rfl).1 (by omega)
  omega
theorem own_hq (p1 p2 p3 p4 p5 : Int32) : own_Q (v0_4 p1 p2 p3 p4 p5) (v0_5 p1 p2 p3 p4 p5) (v0_4 p1 p2 p3 p4 p5) 0 := ⟨(own_m4 p4).1, (own_m4 p5).2, by omega, by omega⟩
theorem own_nc (x : Int32) : nar .char (x.toUInt32.toUInt16.toUInt32.toInt32) = x.toUInt32.toUInt16.toUInt32.toInt32 := Value.int.inj (Jvm.Free.XT.narrow_c x)
theorem own_cs {x : Int32} {b : Nat} (h0 : 0 ≤ x.toInt) (h1 : x.toInt ≤ b) (hb : b < 2147483648) : ∃ i : Fin (b + 1), x = Int32.ofNat i.val := by
  refine ⟨⟨x.toInt.toNat, by omega⟩, ?_⟩
  apply Int32.toInt_inj.mp
  show x.toInt = (Int32.ofNat x.toInt.toNat).toInt
  rw [own_toInt (by omega)]; omega
def own_c (u0 u1 u2 : Int32) : Nat → Int32 := upd (upd (upd (fun _ => 0) 0 u0) 1 u1) 2 u2
def own_x (h : Int32) : Int32 := (h * (-1640531527 : Int32)) ^^^ (((h * (-1640531527 : Int32)).toUInt32 >>> ((16 : Int32) &&& 31).toUInt32).toInt32)
theorem own_core (u0 u1 u2 : Int32) : ∀ a : Fin 4, ∀ b : Fin 4, f6 (Int32.ofNat a.val) (Int32.ofNat b.val) (own_c u0 u1 u2) = own_x (f7 (f7 (f7 0 (Int32.ofNat a.val) (Int32.ofNat b.val) 0 u0) (Int32.ofNat a.val) (Int32.ofNat b.val) 1 u1) (Int32.ofNat a.val) (Int32.ofNat b.val) 2 u2) := by
  rintro ⟨a, ha⟩ ⟨b, hb⟩
  match a, ha, b, hb with
  | 0, _, 0, _ => rfl
  | 0, _, 1, _ => rfl
  | 0, _, 2, _ => rfl
  | 0, _, 3, _ => rfl
  | 1, _, 0, _ => rfl
  | 1, _, 1, _ => rfl
  | 1, _, 2, _ => rfl
  | 1, _, 3, _ => rfl
  | 2, _, 0, _ => rfl
  | 2, _, 1, _ => rfl
  | 2, _, 2, _ => rfl
  | 2, _, 3, _ => rfl
  | 3, _, 0, _ => rfl
  | 3, _, 1, _ => rfl
  | 3, _, 2, _ => rfl
  | 3, _, 3, _ => rfl
theorem own_law (p1 p2 p3 p4 p5 : Int32) : f0 p1 p2 p3 p4 p5 = 1 := by
  obtain ⟨a, ea⟩ := own_cs (b := 3) (own_m4 p4).1 (own_m4 p4).2 (by decide)
  obtain ⟨b, eb⟩ := own_cs (b := 3) (own_m4 p5).1 (own_m4 p5).2 (by decide)
  have ha : v0_4 p1 p2 p3 p4 p5 = Int32.ofNat a.val := ea
  have hb : v0_5 p1 p2 p3 p4 p5 = Int32.ofNat b.val := eb
  have k := own_core (v0_1 p1 p2 p3 p4 p5) (v0_2 p1 p2 p3 p4 p5) (v0_3 p1 p2 p3 p4 p5) a b
  have hcnt : (f3_au (v0_3 p1 p2 p3 p4 p5) (f3_length (v0_2 p1 p2 p3 p4 p5) (f3_length (v0_1 p1 p2 p3 p4 p5) (0 : Int32) f1_nu) (f3_au (v0_1 p1 p2 p3 p4 p5) (0 : Int32) f1_nu)) (f3_au (v0_2 p1 p2 p3 p4 p5) (f3_length (v0_1 p1 p2 p3 p4 p5) (0 : Int32) f1_nu) (f3_au (v0_1 p1 p2 p3 p4 p5) (0 : Int32) f1_nu))) = own_c (v0_1 p1 p2 p3 p4 p5) (v0_2 p1 p2 p3 p4 p5) (v0_3 p1 p2 p3 p4 p5) := by
    have n1 : nar .char (v0_1 p1 p2 p3 p4 p5) = v0_1 p1 p2 p3 p4 p5 := own_nc p1
    have n2 : nar .char (v0_2 p1 p2 p3 p4 p5) = v0_2 p1 p2 p3 p4 p5 := own_nc p2
    have n3 : nar .char (v0_3 p1 p2 p3 p4 p5) = v0_3 p1 p2 p3 p4 p5 := own_nc p3
    simp only [f3_au, w3_7, n1, n2, n3]
    rfl
  have e1 : v0_12 p1 p2 p3 p4 p5 = own_x (v0_18 p1 p2 p3 p4 p5) := by
    rw [v0_12, hcnt, v0_18, v0_16, v0_14, ha, hb]; exact k
  have e2 : v0_20 p1 p2 p3 p4 p5 = own_x (v0_18 p1 p2 p3 p4 p5) := rfl
  rw [f0, e1, e2, if_pos rfl]
set_option maxRecDepth 65536 in
set_option maxHeartbeats 40000000 in
theorem rm1 (l : Launch) (Z : State) (a0 : Array Value) (hw : ∀ d ∈ tables_1, d.before a0 Z = true) (ws : List Jvm.Cond) (a1 : Addr) (h0 : Heap) (n0 : Nat) (Z0 : n0 ≤ h0.size) (E_a1 : Exa Z h0 a1 "com/example/tok6/tok6/TextBuffer") (F_a1_units : Fld Z h0 a1 "com/example/tok6/tok6/TextBuffer" "units" "[C" .null) (F_a1_length : Fld Z h0 a1 "com/example/tok6/tok6/TextBuffer" "length" "I" (.int (0 : Int32))) (g_a1 : n0 ≤ a1) :
    Con l Z (⟨"com/example/tok6/tok6/TextBuffer", "<init>", "()V"⟩ : MethodName) prog_17_method_1_code 1 none ws ({ frames := 1, cells := 1, slots := 64, locals := 12 } : Room) #[(.ref a1)] h0 (Q1 Z a1 h0 n0) := by
  refine own_body pn_1 (fun m => ef_1 m a1) ?_
  intro p e s m below meth c T0 W X0 hx hby hml hret hlk hown hnm hZ e0 hW
  have K : Keep h0 h0 [a1] := Keep.refl _ _
  have N := Fr.nil n0
  show Go p e below W T0 (mkF m 0 #[.val (.ref a1)] [])
  refine Go.of (fun _ k => XS.aloadN X0.here hx rfl (hb hby d1_0) rfl rfl k) ?_
  show Go p e below W T0 (mkF m 1 #[.val (.ref a1)] [(.ref a1)])
  refine Go.initO X0 hx hZ hown (hw _ (List.mem_of_getElem? (i := 7) rfl)) (hw _ (List.mem_of_getElem? (i := 8) rfl)) (hw _ (List.mem_of_getElem? (i := 9) rfl)) e0 (by rw [hml]; rfl) (hb hby d1_1) (by decide) (V := 0) (Nat.le_of_ble_eq_true rfl) (by decide) ?_
  intro T1 X1 e1
  show Go p e below W T1 (mkF m 4 #[.val (.ref a1)] [])
  refine Go.of (fun _ k => XS.aloadN X1.here hx rfl (hb hby d1_4) rfl rfl k) ?_
  show Go p e below W T1 (mkF m 5 #[.val (.ref a1)] [(.ref a1)])
  refine Go.of (fun _ k => XS.bipush X1.here hx rfl (hb hby d1_5) k) ?_
  show Go p e below W T1 (mkF m 7 #[.val (.ref a1)] [(.int (64 : Int32)), (.ref a1)])
  refine Go.newA X1 hx hZ (hw _ (List.mem_of_getElem? (i := 10) rfl)) rfl rfl rfl e1 (hb hby d1_7) (by decide) (cap := 64) (by decide) (by decide) (by decide) (by decide) ?_
  intro T2 h2 b2 zq2 X2 e2 E2 E_b2 A_b2
  have ne_a1_b2 : a1 ≠ b2 := by rw [zq2]; exact Nat.ne_of_lt E_a1.lt
  have g_b2 : n0 ≤ b2 := by rw [zq2]; exact Z0
  have s_b2 : h0.size ≤ b2 := by rw [zq2]; exact K.1
  have E_a1 := E_a1.ext E2
  have F_a1_units := F_a1_units.ext E2
  have F_a1_length := F_a1_length.ext E2
  have K := K.ext E2
  have Z0 := Nat.le_trans Z0 E2.1
  have A_b2 : AI Z h2 b2 .char 64 w1_3 := A_b2
  show Go p e below W T2 (mkF m 9 #[.val (.ref a1)] [(.ref b2), (.ref a1)])
  refine Go.putF X2 hx hZ hown (hw _ (List.mem_of_getElem? (i := 11) rfl)) e2 N g_a1 F_a1_units E_a1 (Or.inl (hw _ (List.mem_of_getElem? (i := 12) rfl))) (hw _ (List.mem_of_getElem? (i := 2) rfl)) (ty := (.array .char)) (by decide) (v' := (.ref b2)) rfl rfl (hb hby d1_9) ?_
  intro T4 h4 L4 X4 N e4 W4 F_a1_units
  have E_a1 := E_a1.wr W4
  have F_a1_length := F_a1_length.other W4 (Or.inr (slot_ne (Or.inl (hw _ (List.mem_of_getElem? (i := 23) rfl))) (Or.inl (hw _ (List.mem_of_getElem? (i := 12) rfl))) (by decide) (t := .int) (t' := (.array .char)) (by decide) (by decide)))
  have A_b2 := A_b2.other W4 (Ne.symm ne_a1_b2)
  have K := K.wr W4 (Or.inl (List.mem_of_getElem? (i := 0) rfl))
  have Z0 := Nat.le_trans Z0 (Keep.of_wr W4).1
  show Go p e below W T4 (mkF m 12 #[.val (.ref a1)] [])
  have u_f1_nu : f1_nu = w1_3 := by rw [f1_nu]
  have fin : Q1 Z a1 h0 n0 (none) h4 L4 := ⟨b2, rfl, N, K, s_b2, F_a1_units, F_a1_length, (by rw [u_f1_nu]; exact A_b2)⟩
  exact Go.retV X4 hx hret (hb hby d1_12) hlk (fun t ht fe => hW t _ _ _ _ (by rw [ht, e4]; exact fin) fe (by decide) (by decide))
set_option maxRecDepth 65536 in
set_option maxHeartbeats 40000000 in
theorem rm5 (l : Launch) (Z : State) (a0 : Array Value) (hw : ∀ d ∈ tables_1, d.before a0 Z = true) (ws : List Jvm.Cond) (p1 : Int32) (p2 : Int32) (h0 : Heap) (hc11 : ¬ ((p1 ^^^ (p1 + p2)) &&& (p2 ^^^ (p1 + p2))) < (0 : Int32)) :
    Con l Z (⟨"java/lang/Math", "addExact", "(II)I"⟩ : MethodName) jdk_29_method_24_code 3 (some .int) ws ({ frames := 0, cells := 0, slots := 0, locals := 0 } : Room) #[(.int p1), (.int p2)] h0 (PQ (.int (f5 p1 p2)) h0) := by
  refine own_body pn_5 (fun m => ef_5 m p1 p2) ?_
  intro p e s m below meth c T0 W X0 hx hby hml hret hlk hown hnm hZ e0 hW
  show Go p e below W T0 (mkF m 0 #[.val (.int p1), .val (.int p2), .unset] [])
  refine Go.of (fun _ k => XS.iloadN X0.here hx rfl (hb hby d5_0) rfl k) ?_
  show Go p e below W T0 (mkF m 1 #[.val (.int p1), .val (.int p2), .unset] [(.int p1)])
  refine Go.of (fun _ k => XS.iloadN X0.here hx rfl (hb hby d5_1) rfl k) ?_
  show Go p e below W T0 (mkF m 2 #[.val (.int p1), .val (.int p2), .unset] [(.int p2), (.int p1)])
  refine Go.of (fun _ k => XS.iadd X0.here hx rfl (hb hby d5_2) rfl k) ?_
  show Go p e below W T0 (mkF m 3 #[.val (.int p1), .val (.int p2), .unset] [(.int (p1 + p2))])
  refine Go.of (fun _ k => XS.istoreN X0.here hx rfl (hb hby d5_3) rfl (l' := #[.val (.int p1), .val (.int p2), .val (.int (v5_1 p1 p2))]) rfl k) ?_
  show Go p e below W T0 (mkF m 4 #[.val (.int p1), .val (.int p2), .val (.int (v5_1 p1 p2))] [])
  refine Go.of (fun _ k => XS.iloadN X0.here hx rfl (hb hby d5_4) rfl k) ?_
  show Go p e below W T0 (mkF m 5 #[.val (.int p1), .val (.int p2), .val (.int (v5_1 p1 p2))] [(.int p1)])
  refine Go.of (fun _ k => XS.iloadN X0.here hx rfl (hb hby d5_5) rfl k) ?_
  show Go p e below W T0 (mkF m 6 #[.val (.int p1), .val (.int p2), .val (.int (v5_1 p1 p2))] [(.int (v5_1 p1 p2)), (.int p1)])
  refine Go.of (fun _ k => XS.ixor X0.here hx rfl (hb hby d5_6) rfl k) ?_
  show Go p e below W T0 (mkF m 7 #[.val (.int p1), .val (.int p2), .val (.int (v5_1 p1 p2))] [(.int (p1 ^^^ (v5_1 p1 p2)))])
  refine Go.of (fun _ k => XS.iloadN X0.here hx rfl (hb hby d5_7) rfl k) ?_
  show Go p e below W T0 (mkF m 8 #[.val (.int p1), .val (.int p2), .val (.int (v5_1 p1 p2))] [(.int p2), (.int (p1 ^^^ (v5_1 p1 p2)))])
  refine Go.of (fun _ k => XS.iloadN X0.here hx rfl (hb hby d5_8) rfl k) ?_
  show Go p e below W T0 (mkF m 9 #[.val (.int p1), .val (.int p2), .val (.int (v5_1 p1 p2))] [(.int (v5_1 p1 p2)), (.int p2), (.int (p1 ^^^ (v5_1 p1 p2)))])
  refine Go.of (fun _ k => XS.ixor X0.here hx rfl (hb hby d5_9) rfl k) ?_
  show Go p e below W T0 (mkF m 10 #[.val (.int p1), .val (.int p2), .val (.int (v5_1 p1 p2))] [(.int (p2 ^^^ (v5_1 p1 p2))), (.int (p1 ^^^ (v5_1 p1 p2)))])
  refine Go.of (fun _ k => XS.iand X0.here hx rfl (hb hby d5_10) rfl k) ?_
  show Go p e below W T0 (mkF m 11 #[.val (.int p1), .val (.int p2), .val (.int (v5_1 p1 p2))] [(.int ((p1 ^^^ (v5_1 p1 p2)) &&& (p2 ^^^ (v5_1 p1 p2))))])
  refine Go.of (fun _ k => XS.ifYes X0.here hx rfl (pc0 := 11) (pc' := 24) rfl (hb hby d5_11) rfl (Jvm.Free.XT.i0_ge_t hc11) (by decide) (by decide) k) ?_
  show Go p e below W T0 (mkF m 24 #[.val (.int p1), .val (.int p2), .val (.int (v5_1 p1 p2))] [])
  refine Go.of (fun _ k => XS.iloadN X0.here hx rfl (hb hby d5_24) rfl k) ?_
  show Go p e below W T0 (mkF m 25 #[.val (.int p1), .val (.int p2), .val (.int (v5_1 p1 p2))] [(.int (v5_1 p1 p2))])
  have q : (f5 p1 p2) = (v5_1 p1 p2) := by rw [f5]
  exact Go.retI X0 hx hret (hb hby d5_25) hlk q.symm (fun t ht fe => hW t _ _ _ _ ⟨rfl, rfl, ht.trans e0⟩ fe (by decide) (by decide))
set_option maxRecDepth 65536 in
set_option maxHeartbeats 40000000 in
theorem rm4 (l : Launch) (Z : State) (a0 : Array Value) (hw : ∀ d ∈ tables_1, d.before a0 Z = true) (ws : List Jvm.Cond) (a1 : Addr) (p2 : Int32) (ln : Int32) (au : Addr) (fu : Nat → Int32) (h0 : Heap) (F_a1_length : Fld Z h0 a1 "com/example/tok6/tok6/TextBuffer" "length" "I" (.int ln)) (F_a1_units : Fld Z h0 a1 "com/example/tok6/tok6/TextBuffer" "units" "[C" (.ref au)) (A_au : AI Z h0 au .char 64 fu) (ha : ¬ ((ln ^^^ (ln + p2)) &&& (p2 ^^^ (ln + p2))) < (0 : Int32)) (hc : ¬ (64 : Int32) < (f5 ln p2)) :
    Con l Z (⟨"com/example/tok6/tok6/TextBuffer", "ensureRoom", "(I)V"⟩ : MethodName) prog_17_method_15_code 3 none ws ({ frames := 1, cells := 0, slots := 0, locals := 14 } : Room) #[(.ref a1), (.int p2)] h0 (PV h0) := by
  refine own_body pn_4 (fun m => ef_4 m a1 p2) ?_
  intro p e s m below meth c T0 W X0 hx hby hml hret hlk hown hnm hZ e0 hW
  show Go p e below W T0 (mkF m 0 #[.val (.ref a1), .val (.int p2), .unset] [])
  refine Go.of (fun _ k => XS.aloadN X0.here hx rfl (hb hby d4_0) rfl rfl k) ?_
  show Go p e below W T0 (mkF m 1 #[.val (.ref a1), .val (.int p2), .unset] [(.ref a1)])
  refine Go.getF X0 hx hZ hown (hw _ (List.mem_of_getElem? (i := 22) rfl)) e0 F_a1_length (hb hby d4_1) ?_
  intro T1 X1 e1
  show Go p e below W T1 (mkF m 4 #[.val (.ref a1), .val (.int p2), .unset] [(.int ln)])
  refine Go.of (fun _ k => XS.iloadN X1.here hx rfl (hb hby d4_4) rfl k) ?_
  show Go p e below W T1 (mkF m 5 #[.val (.ref a1), .val (.int p2), .unset] [(.int p2), (.int ln)])
  refine Go.callP X1 hx hZ hown (hw _ (List.mem_of_getElem? (i := 24) rfl)) (hw _ (List.mem_of_getElem? (i := 25) rfl)) (hw _ (List.mem_of_getElem? (i := 26) rfl)) (hw _ (List.mem_of_getElem? (i := 27) rfl)) (by decide) e1 (rm5 l Z a0 hw [] ln p2 h0 ha) (V := 0) (by decide) (by decide) rfl rfl (by decide) (by decide) (by rw [hml]; rfl) (argsL := [(.int ln), (.int p2)]) (rest := []) rfl (lenOf pd__II_I rfl) rfl (Nat.le_of_ble_eq_true rfl) (hb hby d4_5) ?_
  intro T2 X2 e2
  show Go p e below W T2 (mkF m 8 #[.val (.ref a1), .val (.int p2), .unset] [(.int (f5 ln p2))])
  refine Go.of (fun _ k => XS.istoreN X2.here hx rfl (hb hby d4_8) rfl (l' := #[.val (.ref a1), .val (.int p2), .val (.int (v4_3 p2 ln fu))]) rfl k) ?_
  show Go p e below W T2 (mkF m 9 #[.val (.ref a1), .val (.int p2), .val (.int (v4_3 p2 ln fu))] [])
  refine Go.of (fun _ k => XS.iloadN X2.here hx rfl (hb hby d4_9) rfl k) ?_
  show Go p e below W T2 (mkF m 10 #[.val (.ref a1), .val (.int p2), .val (.int (v4_3 p2 ln fu))] [(.int (v4_3 p2 ln fu))])
  refine Go.of (fun _ k => XS.aloadN X2.here hx rfl (hb hby d4_10) rfl rfl k) ?_
  show Go p e below W T2 (mkF m 11 #[.val (.ref a1), .val (.int p2), .val (.int (v4_3 p2 ln fu))] [(.ref a1), (.int (v4_3 p2 ln fu))])
  refine Go.getF X2 hx hZ hown (hw _ (List.mem_of_getElem? (i := 11) rfl)) e2 F_a1_units (hb hby d4_11) ?_
  intro T4 X4 e4
  show Go p e below W T4 (mkF m 14 #[.val (.ref a1), .val (.int p2), .val (.int (v4_3 p2 ln fu))] [(.ref au), (.int (v4_3 p2 ln fu))])
  refine Go.alen X4 hx hZ e4 A_au (hb hby d4_14) ?_
  show Go p e below W T4 (mkF m 15 #[.val (.ref a1), .val (.int p2), .val (.int (v4_3 p2 ln fu))] [(.int (64 : Int32)), (.int (v4_3 p2 ln fu))])
  refine Go.of (fun _ k => XS.icmpYes X4.here hx rfl (pc0 := 15) (pc' := 66) rfl (hb hby d4_15) rfl (Jvm.Free.XT.ii_le_t hc) (by decide) (by decide) k) ?_
  show Go p e below W T4 (mkF m 66 #[.val (.ref a1), .val (.int p2), .val (.int (v4_3 p2 ln fu))] [])
  exact Go.retV X4 hx hret (hb hby d4_66) hlk (fun t ht fe => hW t _ _ _ _ ⟨rfl, rfl, ht.trans e4⟩ fe (by decide) (by decide))
set_option maxRecDepth 65536 in
set_option maxHeartbeats 40000000 in
theorem rm3 (l : Launch) (Z : State) (a0 : Array Value) (hw : ∀ d ∈ tables_1, d.before a0 Z = true) (ws : List Jvm.Cond) (a1 : Addr) (p2 : Int32) (ln : Int32) (au : Addr) (fu : Nat → Int32) (h0 : Heap) (n0 : Nat) (Z0 : n0 ≤ h0.size) (E_a1 : Exa Z h0 a1 "com/example/tok6/tok6/TextBuffer") (F_a1_length : Fld Z h0 a1 "com/example/tok6/tok6/TextBuffer" "length" "I" (.int ln)) (F_a1_units : Fld Z h0 a1 "com/example/tok6/tok6/TextBuffer" "units" "[C" (.ref au)) (A_au : AI Z h0 au .char 64 fu) (g_a1 : n0 ≤ a1) (g_au : n0 ≤ au) (ne_a1_au : a1 ≠ au) (hl : own_sm ln) :
    Con l Z (⟨"com/example/tok6/tok6/TextBuffer", "append", "(C)Lcom/example/tok6/tok6/TextBuffer;"⟩ : MethodName) prog_17_method_2_code 2 (some (.object "com/example/tok6/tok6/TextBuffer")) ws ({ frames := 2, cells := 0, slots := 0, locals := 28 } : Room) #[(.ref a1), (.int p2)] h0 (Q3 Z a1 p2 ln au fu h0 n0) := by
  refine own_body pn_3 (fun m => ef_3 m a1 p2) ?_
  intro p e s m below meth c T0 W X0 hx hby hml hret hlk hown hnm hZ e0 hW
  have K : Keep h0 h0 [a1, au] := Keep.refl _ _
  have N := Fr.nil n0
  show Go p e below W T0 (mkF m 0 #[.val (.ref a1), .val (.int p2)] [])
  refine Go.of (fun _ k => XS.aloadN X0.here hx rfl (hb hby d3_0) rfl rfl k) ?_
  show Go p e below W T0 (mkF m 1 #[.val (.ref a1), .val (.int p2)] [(.ref a1)])
  refine Go.of (fun _ k => XS.iconst X0.here hx rfl (hb hby d3_1) k) ?_
  show Go p e below W T0 (mkF m 2 #[.val (.ref a1), .val (.int p2)] [(.int (1 : Int32)), (.ref a1)])
  refine Go.callPr X0 hx hZ hown (hw _ (List.mem_of_getElem? (i := 18) rfl)) (hw _ (List.mem_of_getElem? (i := 2) rfl)) (hw _ (List.mem_of_getElem? (i := 20) rfl)) (hw _ (List.mem_of_getElem? (i := 19) rfl)) (hw _ (List.mem_of_getElem? (i := 3) rfl)) (hw _ (List.mem_of_getElem? (i := 21) rfl)) (by decide) e0 E_a1 (rm4 l Z a0 hw [] a1 (1 : Int32) ln au fu h0 F_a1_length F_a1_units A_au (own_ha hl) (own_hc hl)) (V := 0) (by decide) (by decide) (by decide) (by decide) (by rw [hml]; rfl) (argsL := [(.int (1 : Int32))]) (rest := []) rfl (lenOf pd__I_V rfl) rfl (Nat.le_of_ble_eq_true rfl) (hb hby d3_2) ?_
  rintro T1 _ _ ⟨rfl, rfl, e1⟩ X1
  rw [List.append_nil] at X1
  show Go p e below W T1 (mkF m 5 #[.val (.ref a1), .val (.int p2)] [])
  refine Go.of (fun _ k => XS.aloadN X1.here hx rfl (hb hby d3_5) rfl rfl k) ?_
  show Go p e below W T1 (mkF m 6 #[.val (.ref a1), .val (.int p2)] [(.ref a1)])
  refine Go.getF X1 hx hZ hown (hw _ (List.mem_of_getElem? (i := 11) rfl)) e1 F_a1_units (hb hby d3_6) ?_
  intro T2 X2 e2
  show Go p e below W T2 (mkF m 9 #[.val (.ref a1), .val (.int p2)] [(.ref au)])
  refine Go.of (fun _ k => XS.aloadN X2.here hx rfl (hb hby d3_9) rfl rfl k) ?_
  show Go p e below W T2 (mkF m 10 #[.val (.ref a1), .val (.int p2)] [(.ref a1), (.ref au)])
  refine Go.of (fun _ k => XS.dup X2.here hx rfl (hb hby d3_10) rfl rfl k) ?_
  show Go p e below W T2 (mkF m 11 #[.val (.ref a1), .val (.int p2)] [(.ref a1), (.ref a1), (.ref au)])
  refine Go.getF X2 hx hZ hown (hw _ (List.mem_of_getElem? (i := 22) rfl)) e2 F_a1_length (hb hby d3_11) ?_
  intro T3 X3 e3
  show Go p e below W T3 (mkF m 14 #[.val (.ref a1), .val (.int p2)] [(.int ln), (.ref a1), (.ref au)])
  refine Go.of (fun _ k => XS.dupX1 X3.here hx rfl (hb hby d3_14) rfl rfl rfl k) ?_
  show Go p e below W T3 (mkF m 15 #[.val (.ref a1), .val (.int p2)] [(.int ln), (.ref a1), (.int ln), (.ref au)])
  refine Go.of (fun _ k => XS.iconst X3.here hx rfl (hb hby d3_15) k) ?_
  show Go p e below W T3 (mkF m 16 #[.val (.ref a1), .val (.int p2)] [(.int (1 : Int32)), (.int ln), (.ref a1), (.int ln), (.ref au)])
  refine Go.of (fun _ k => XS.iadd X3.here hx rfl (hb hby d3_16) rfl k) ?_
  show Go p e below W T3 (mkF m 17 #[.val (.ref a1), .val (.int p2)] [(.int (ln + (1 : Int32))), (.ref a1), (.int ln), (.ref au)])
  refine Go.putF X3 hx hZ hown (hw _ (List.mem_of_getElem? (i := 22) rfl)) e3 N g_a1 F_a1_length E_a1 (Or.inl (hw _ (List.mem_of_getElem? (i := 23) rfl))) (hw _ (List.mem_of_getElem? (i := 2) rfl)) (ty := .int) (by decide) (v' := (.int (v3_5 p2 ln fu))) rfl rfl (hb hby d3_17) ?_
  intro T4 h4 L4 X4 N e4 W4 F_a1_length
  have E_a1 := E_a1.wr W4
  have F_a1_units := F_a1_units.other W4 (Or.inr (slot_ne (Or.inl (hw _ (List.mem_of_getElem? (i := 12) rfl))) (Or.inl (hw _ (List.mem_of_getElem? (i := 23) rfl))) (by decide) (t := (.array .char)) (t' := .int) (by decide) (by decide)))
  have A_au := A_au.other W4 (Ne.symm ne_a1_au)
  have K := K.wr W4 (Or.inl (List.mem_of_getElem? (i := 0) rfl))
  have Z0 := Nat.le_trans Z0 (Keep.of_wr W4).1
  show Go p e below W T4 (mkF m 20 #[.val (.ref a1), .val (.int p2)] [(.int ln), (.ref au)])
  refine Go.of (fun _ k => XS.iloadN X4.here hx rfl (hb hby d3_20) rfl k) ?_
  show Go p e below W T4 (mkF m 21 #[.val (.ref a1), .val (.int p2)] [(.int p2), (.int ln), (.ref au)])
  refine Go.cst X4 hx hZ e4 N g_au A_au (own_il hl) (hb hby d3_21) ?_
  intro T6 h6 L6 X6 N e6 W6 A_au
  have E_a1 := E_a1.wr W6
  have F_a1_length := F_a1_length.other W6 (Or.inl ne_a1_au)
  have F_a1_units := F_a1_units.other W6 (Or.inl ne_a1_au)
  have K := K.wr W6 (Or.inl (List.mem_of_getElem? (i := 1) rfl))
  have Z0 := Nat.le_trans Z0 (Keep.of_wr W6).1
  have A_au : AI Z h6 au .char 64 (w3_7 p2 ln fu) := A_au
  show Go p e below W T6 (mkF m 22 #[.val (.ref a1), .val (.int p2)] [])
  refine Go.of (fun _ k => XS.aloadN X6.here hx rfl (hb hby d3_22) rfl rfl k) ?_
  show Go p e below W T6 (mkF m 23 #[.val (.ref a1), .val (.int p2)] [(.ref a1)])
  have u_f3_length : (f3_length p2 ln fu) = (v3_5 p2 ln fu) := by rw [f3_length]
  have u_f3_au : (f3_au p2 ln fu) = (w3_7 p2 ln fu) := by rw [f3_au]
  have fin : Q3 Z a1 p2 ln au fu h0 n0 (some (.ref a1)) h6 L6 := ⟨rfl, N, K, (by rw [u_f3_length]; exact F_a1_length), F_a1_units, (by rw [u_f3_au]; exact A_au)⟩
  exact Go.retA X6 hx hret rfl rfl (hb hby d3_23) hlk (fun t ht fe => hW t _ _ _ _ (by rw [ht, e6]; exact fin) fe (by decide) (by decide))
set_option maxRecDepth 65536 in
set_option maxHeartbeats 40000000 in
theorem rm6 (l : Launch) (Z : State) (a0 : Array Value) (hw : ∀ d ∈ tables_1, d.before a0 Z = true) (ws : List Jvm.Cond) (a1 : Addr) (p2 : Int32) (p3 : Int32) (au : Addr) (fu : Nat → Int32) (h0 : Heap) (F_a1_units : Fld Z h0 a1 "com/example/tok6/tok6/TextBuffer" "units" "[C" (.ref au)) (A_au : AI Z h0 au .char 64 fu) (hq : own_Q p2 p3 p2 0) :
    Con l Z (⟨"com/example/tok6/tok6/TextBuffer", "hash", "(II)I"⟩ : MethodName) prog_17_method_12_code 5 (some .int) ws ({ frames := 0, cells := 0, slots := 0, locals := 0 } : Room) #[(.ref a1), (.int p2), (.int p3)] h0 (PQ (.int (f6 p2 p3 fu)) h0) := by
  refine own_body pn_6 (fun m => ef_6 m a1 p2 p3) ?_
  intro p e s m below meth c T0 W X0 hx hby hml hret hlk hown hnm hZ e0 hW
  show Go p e below W T0 (mkF m 0 #[.val (.ref a1), .val (.int p2), .val (.int p3), .unset, .unset] [])
  refine Go.of (fun _ k => XS.iconst X0.here hx rfl (hb hby d6_0) k) ?_
  show Go p e below W T0 (mkF m 1 #[.val (.ref a1), .val (.int p2), .val (.int p3), .unset, .unset] [(.int (0 : Int32))])
  refine Go.of (fun _ k => XS.istoreN X0.here hx rfl (hb hby d6_1) rfl (l' := #[.val (.ref a1), .val (.int p2), .val (.int p3), .val (.int (0 : Int32)), .unset]) rfl k) ?_
  show Go p e below W T0 (mkF m 2 #[.val (.ref a1), .val (.int p2), .val (.int p3), .val (.int (0 : Int32)), .unset] [])
  refine Go.of (fun _ k => XS.iloadN X0.here hx rfl (hb hby d6_2) rfl k) ?_
  show Go p e below W T0 (mkF m 3 #[.val (.ref a1), .val (.int p2), .val (.int p3), .val (.int (0 : Int32)), .unset] [(.int p2)])
  refine Go.of (fun _ k => XS.istore X0.here hx rfl (hb hby d6_3) rfl (l' := #[.val (.ref a1), .val (.int p2), .val (.int p3), .val (.int (0 : Int32)), .val (.int p2)]) rfl k) ?_
  show Go p e below W T0 (mkF m 5 #[.val (.ref a1), .val (.int p2), .val (.int p3), .val (.int (0 : Int32)), .val (.int p2)] [])
  refine Go.of (fun _ k => XS.iload X0.here hx rfl (hb hby d6_5) rfl k) ?_
  show Go p e below W T0 (mkF m 7 #[.val (.ref a1), .val (.int p2), .val (.int p3), .val (.int (0 : Int32)), .val (.int p2)] [(.int p2)])
  refine Go.of (fun _ k => XS.iloadN X0.here hx rfl (hb hby d6_7) rfl k) ?_
  show Go p e below W T0 (mkF m 8 #[.val (.ref a1), .val (.int p2), .val (.int p3), .val (.int (0 : Int32)), .val (.int p2)] [(.int p3), (.int p2)])
  by_cases c1 : p2 < p3
  · refine Go.of (fun _ k => XS.icmpNo X0.here hx rfl (hb hby d6_8) rfl (Jvm.Free.XT.ii_ge_f c1) k) ?_
    show Go p e below W T0 (mkF m 11 #[.val (.ref a1), .val (.int p2), .val (.int p3), .val (.int (0 : Int32)), .val (.int p2)] [])
    refine Go.of (fun _ k => X0.ldcI hx hown (mvT hZ (hw _ (List.mem_of_getElem? (i := 39) rfl))) rfl (hb hby d6_11) k) ?_
    show Go p e below W T0 (mkF m 13 #[.val (.ref a1), .val (.int p2), .val (.int p3), .val (.int (0 : Int32)), .val (.int p2)] [(.int (16777619 : Int32))])
    refine Go.of (fun _ k => XS.iloadN X0.here hx rfl (hb hby d6_13) rfl k) ?_
    show Go p e below W T0 (mkF m 14 #[.val (.ref a1), .val (.int p2), .val (.int p3), .val (.int (0 : Int32)), .val (.int p2)] [(.int (0 : Int32)), (.int (16777619 : Int32))])
    refine Go.of (fun _ k => XS.imul X0.here hx rfl (hb hby d6_14) rfl k) ?_
    show Go p e below W T0 (mkF m 15 #[.val (.ref a1), .val (.int p2), .val (.int p3), .val (.int (0 : Int32)), .val (.int p2)] [(.int ((16777619 : Int32) * (0 : Int32)))])
    refine Go.of (fun _ k => XS.aloadN X0.here hx rfl (hb hby d6_15) rfl rfl k) ?_
    show Go p e below W T0 (mkF m 16 #[.val (.ref a1), .val (.int p2), .val (.int p3), .val (.int (0 : Int32)), .val (.int p2)] [(.ref a1), (.int ((16777619 : Int32) * (0 : Int32)))])
    refine Go.getF X0 hx hZ hown (hw _ (List.mem_of_getElem? (i := 11) rfl)) e0 F_a1_units (hb hby d6_16) ?_
    intro T3 X3 e3
    show Go p e below W T3 (mkF m 19 #[.val (.ref a1), .val (.int p2), .val (.int p3), .val (.int (0 : Int32)), .val (.int p2)] [(.ref au), (.int ((16777619 : Int32) * (0 : Int32)))])
    refine Go.of (fun _ k => XS.iload X3.here hx rfl (hb hby d6_19) rfl k) ?_
    show Go p e below W T3 (mkF m 21 #[.val (.ref a1), .val (.int p2), .val (.int p3), .val (.int (0 : Int32)), .val (.int p2)] [(.int p2), (.ref au), (.int ((16777619 : Int32) * (0 : Int32)))])
    refine Go.cald X3 hx hZ e3 A_au (own_qin hq c1) (hb hby d6_21) ?_
    show Go p e below W T3 (mkF m 22 #[.val (.ref a1), .val (.int p2), .val (.int p3), .val (.int (0 : Int32)), .val (.int p2)] [(.int (fu (p2).toNatClampNeg)), (.int ((16777619 : Int32) * (0 : Int32)))])
    refine Go.of (fun _ k => XS.iadd X3.here hx rfl (hb hby d6_22) rfl k) ?_
    show Go p e below W T3 (mkF m 23 #[.val (.ref a1), .val (.int p2), .val (.int p3), .val (.int (0 : Int32)), .val (.int p2)] [(.int (((16777619 : Int32) * (0 : Int32)) + (fu (p2).toNatClampNeg)))])
    refine Go.of (fun _ k => XS.istoreN X3.here hx rfl (hb hby d6_23) rfl (l' := #[.val (.ref a1), .val (.int p2), .val (.int p3), .val (.int (v6_4 p2 p3 fu)), .val (.int p2)]) rfl k) ?_
    show Go p e below W T3 (mkF m 24 #[.val (.ref a1), .val (.int p2), .val (.int p3), .val (.int (v6_4 p2 p3 fu)), .val (.int p2)] [])
    refine Go.of (fun _ k => XS.iinc X3.here hx rfl (hb hby d6_24) rfl (l' := #[.val (.ref a1), .val (.int p2), .val (.int p3), .val (.int (v6_4 p2 p3 fu)), .val (.int (v6_5 p2 p3 fu))]) rfl k) ?_
    show Go p e below W T3 (mkF m 27 #[.val (.ref a1), .val (.int p2), .val (.int p3), .val (.int (v6_4 p2 p3 fu)), .val (.int (v6_5 p2 p3 fu))] [])
    refine Go.of (fun _ k => XS.goto X3.here hx rfl (pc0 := 27) (pc' := 5) rfl (hb hby d6_27) (by decide) (by decide) k) ?_
    show Go p e below W T3 (mkF m 5 #[.val (.ref a1), .val (.int p2), .val (.int p3), .val (.int (v6_4 p2 p3 fu)), .val (.int (v6_5 p2 p3 fu))] [])
    refine Go.of (fun _ k => XS.iload X3.here hx rfl (hb hby d6_5) rfl k) ?_
    show Go p e below W T3 (mkF m 7 #[.val (.ref a1), .val (.int p2), .val (.int p3), .val (.int (v6_4 p2 p3 fu)), .val (.int (v6_5 p2 p3 fu))] [(.int (v6_5 p2 p3 fu))])
    refine Go.of (fun _ k => XS.iloadN X3.here hx rfl (hb hby d6_7) rfl k) ?_
    show Go p e below W T3 (mkF m 8 #[.val (.ref a1), .val (.int p2), .val (.int p3), .val (.int (v6_4 p2 p3 fu)), .val (.int (v6_5 p2 p3 fu))] [(.int p3), (.int (v6_5 p2 p3 fu))])
    by_cases c6 : (v6_5 p2 p3 fu) < p3
    · refine Go.of (fun _ k => XS.icmpNo X3.here hx rfl (hb hby d6_8) rfl (Jvm.Free.XT.ii_ge_f c6) k) ?_
      show Go p e below W T3 (mkF m 11 #[.val (.ref a1), .val (.int p2), .val (.int p3), .val (.int (v6_4 p2 p3 fu)), .val (.int (v6_5 p2 p3 fu))] [])
      refine Go.of (fun _ k => X3.ldcI hx hown (mvT hZ (hw _ (List.mem_of_getElem? (i := 39) rfl))) rfl (hb hby d6_11) k) ?_
      show Go p e below W T3 (mkF m 13 #[.val (.ref a1), .val (.int p2), .val (.int p3), .val (.int (v6_4 p2 p3 fu)), .val (.int (v6_5 p2 p3 fu))] [(.int (16777619 : Int32))])
      refine Go.of (fun _ k => XS.iloadN X3.here hx rfl (hb hby d6_13) rfl k) ?_
      show Go p e below W T3 (mkF m 14 #[.val (.ref a1), .val (.int p2), .val (.int p3), .val (.int (v6_4 p2 p3 fu)), .val (.int (v6_5 p2 p3 fu))] [(.int (v6_4 p2 p3 fu)), (.int (16777619 : Int32))])
      refine Go.of (fun _ k => XS.imul X3.here hx rfl (hb hby d6_14) rfl k) ?_
      show Go p e below W T3 (mkF m 15 #[.val (.ref a1), .val (.int p2), .val (.int p3), .val (.int (v6_4 p2 p3 fu)), .val (.int (v6_5 p2 p3 fu))] [(.int ((16777619 : Int32) * (v6_4 p2 p3 fu)))])
      refine Go.of (fun _ k => XS.aloadN X3.here hx rfl (hb hby d6_15) rfl rfl k) ?_
      show Go p e below W T3 (mkF m 16 #[.val (.ref a1), .val (.int p2), .val (.int p3), .val (.int (v6_4 p2 p3 fu)), .val (.int (v6_5 p2 p3 fu))] [(.ref a1), (.int ((16777619 : Int32) * (v6_4 p2 p3 fu)))])
      refine Go.getF X3 hx hZ hown (hw _ (List.mem_of_getElem? (i := 11) rfl)) e3 F_a1_units (hb hby d6_16) ?_
      intro T8 X8 e8
      show Go p e below W T8 (mkF m 19 #[.val (.ref a1), .val (.int p2), .val (.int p3), .val (.int (v6_4 p2 p3 fu)), .val (.int (v6_5 p2 p3 fu))] [(.ref au), (.int ((16777619 : Int32) * (v6_4 p2 p3 fu)))])
      refine Go.of (fun _ k => XS.iload X8.here hx rfl (hb hby d6_19) rfl k) ?_
      show Go p e below W T8 (mkF m 21 #[.val (.ref a1), .val (.int p2), .val (.int p3), .val (.int (v6_4 p2 p3 fu)), .val (.int (v6_5 p2 p3 fu))] [(.int (v6_5 p2 p3 fu)), (.ref au), (.int ((16777619 : Int32) * (v6_4 p2 p3 fu)))])
      refine Go.cald X8 hx hZ e8 A_au (own_qin (own_qs hq c1) c6) (hb hby d6_21) ?_
      show Go p e below W T8 (mkF m 22 #[.val (.ref a1), .val (.int p2), .val (.int p3), .val (.int (v6_4 p2 p3 fu)), .val (.int (v6_5 p2 p3 fu))] [(.int (fu (v6_5 p2 p3 fu).toNatClampNeg)), (.int ((16777619 : Int32) * (v6_4 p2 p3 fu)))])
      refine Go.of (fun _ k => XS.iadd X8.here hx rfl (hb hby d6_22) rfl k) ?_
      show Go p e below W T8 (mkF m 23 #[.val (.ref a1), .val (.int p2), .val (.int p3), .val (.int (v6_4 p2 p3 fu)), .val (.int (v6_5 p2 p3 fu))] [(.int (((16777619 : Int32) * (v6_4 p2 p3 fu)) + (fu (v6_5 p2 p3 fu).toNatClampNeg)))])
      refine Go.of (fun _ k => XS.istoreN X8.here hx rfl (hb hby d6_23) rfl (l' := #[.val (.ref a1), .val (.int p2), .val (.int p3), .val (.int (v6_9 p2 p3 fu)), .val (.int (v6_5 p2 p3 fu))]) rfl k) ?_
      show Go p e below W T8 (mkF m 24 #[.val (.ref a1), .val (.int p2), .val (.int p3), .val (.int (v6_9 p2 p3 fu)), .val (.int (v6_5 p2 p3 fu))] [])
      refine Go.of (fun _ k => XS.iinc X8.here hx rfl (hb hby d6_24) rfl (l' := #[.val (.ref a1), .val (.int p2), .val (.int p3), .val (.int (v6_9 p2 p3 fu)), .val (.int (v6_10 p2 p3 fu))]) rfl k) ?_
      show Go p e below W T8 (mkF m 27 #[.val (.ref a1), .val (.int p2), .val (.int p3), .val (.int (v6_9 p2 p3 fu)), .val (.int (v6_10 p2 p3 fu))] [])
      refine Go.of (fun _ k => XS.goto X8.here hx rfl (pc0 := 27) (pc' := 5) rfl (hb hby d6_27) (by decide) (by decide) k) ?_
      show Go p e below W T8 (mkF m 5 #[.val (.ref a1), .val (.int p2), .val (.int p3), .val (.int (v6_9 p2 p3 fu)), .val (.int (v6_10 p2 p3 fu))] [])
      refine Go.of (fun _ k => XS.iload X8.here hx rfl (hb hby d6_5) rfl k) ?_
      show Go p e below W T8 (mkF m 7 #[.val (.ref a1), .val (.int p2), .val (.int p3), .val (.int (v6_9 p2 p3 fu)), .val (.int (v6_10 p2 p3 fu))] [(.int (v6_10 p2 p3 fu))])
      refine Go.of (fun _ k => XS.iloadN X8.here hx rfl (hb hby d6_7) rfl k) ?_
      show Go p e below W T8 (mkF m 8 #[.val (.ref a1), .val (.int p2), .val (.int p3), .val (.int (v6_9 p2 p3 fu)), .val (.int (v6_10 p2 p3 fu))] [(.int p3), (.int (v6_10 p2 p3 fu))])
      by_cases c11 : (v6_10 p2 p3 fu) < p3
      · refine Go.of (fun _ k => XS.icmpNo X8.here hx rfl (hb hby d6_8) rfl (Jvm.Free.XT.ii_ge_f c11) k) ?_
        show Go p e below W T8 (mkF m 11 #[.val (.ref a1), .val (.int p2), .val (.int p3), .val (.int (v6_9 p2 p3 fu)), .val (.int (v6_10 p2 p3 fu))] [])
        refine Go.of (fun _ k => X8.ldcI hx hown (mvT hZ (hw _ (List.mem_of_getElem? (i := 39) rfl))) rfl (hb hby d6_11) k) ?_
        show Go p e below W T8 (mkF m 13 #[.val (.ref a1), .val (.int p2), .val (.int p3), .val (.int (v6_9 p2 p3 fu)), .val (.int (v6_10 p2 p3 fu))] [(.int (16777619 : Int32))])
        refine Go.of (fun _ k => XS.iloadN X8.here hx rfl (hb hby d6_13) rfl k) ?_
        show Go p e below W T8 (mkF m 14 #[.val (.ref a1), .val (.int p2), .val (.int p3), .val (.int (v6_9 p2 p3 fu)), .val (.int (v6_10 p2 p3 fu))] [(.int (v6_9 p2 p3 fu)), (.int (16777619 : Int32))])
        refine Go.of (fun _ k => XS.imul X8.here hx rfl (hb hby d6_14) rfl k) ?_
        show Go p e below W T8 (mkF m 15 #[.val (.ref a1), .val (.int p2), .val (.int p3), .val (.int (v6_9 p2 p3 fu)), .val (.int (v6_10 p2 p3 fu))] [(.int ((16777619 : Int32) * (v6_9 p2 p3 fu)))])
        refine Go.of (fun _ k => XS.aloadN X8.here hx rfl (hb hby d6_15) rfl rfl k) ?_
        show Go p e below W T8 (mkF m 16 #[.val (.ref a1), .val (.int p2), .val (.int p3), .val (.int (v6_9 p2 p3 fu)), .val (.int (v6_10 p2 p3 fu))] [(.ref a1), (.int ((16777619 : Int32) * (v6_9 p2 p3 fu)))])
        refine Go.getF X8 hx hZ hown (hw _ (List.mem_of_getElem? (i := 11) rfl)) e8 F_a1_units (hb hby d6_16) ?_
        intro T13 X13 e13
        show Go p e below W T13 (mkF m 19 #[.val (.ref a1), .val (.int p2), .val (.int p3), .val (.int (v6_9 p2 p3 fu)), .val (.int (v6_10 p2 p3 fu))] [(.ref au), (.int ((16777619 : Int32) * (v6_9 p2 p3 fu)))])
        refine Go.of (fun _ k => XS.iload X13.here hx rfl (hb hby d6_19) rfl k) ?_
        show Go p e below W T13 (mkF m 21 #[.val (.ref a1), .val (.int p2), .val (.int p3), .val (.int (v6_9 p2 p3 fu)), .val (.int (v6_10 p2 p3 fu))] [(.int (v6_10 p2 p3 fu)), (.ref au), (.int ((16777619 : Int32) * (v6_9 p2 p3 fu)))])
        refine Go.cald X13 hx hZ e13 A_au (own_qin (own_qs (own_qs hq c1) c6) c11) (hb hby d6_21) ?_
        show Go p e below W T13 (mkF m 22 #[.val (.ref a1), .val (.int p2), .val (.int p3), .val (.int (v6_9 p2 p3 fu)), .val (.int (v6_10 p2 p3 fu))] [(.int (fu (v6_10 p2 p3 fu).toNatClampNeg)), (.int ((16777619 : Int32) * (v6_9 p2 p3 fu)))])
        refine Go.of (fun _ k => XS.iadd X13.here hx rfl (hb hby d6_22) rfl k) ?_
        show Go p e below W T13 (mkF m 23 #[.val (.ref a1), .val (.int p2), .val (.int p3), .val (.int (v6_9 p2 p3 fu)), .val (.int (v6_10 p2 p3 fu))] [(.int (((16777619 : Int32) * (v6_9 p2 p3 fu)) + (fu (v6_10 p2 p3 fu).toNatClampNeg)))])
        refine Go.of (fun _ k => XS.istoreN X13.here hx rfl (hb hby d6_23) rfl (l' := #[.val (.ref a1), .val (.int p2), .val (.int p3), .val (.int (v6_14 p2 p3 fu)), .val (.int (v6_10 p2 p3 fu))]) rfl k) ?_
        show Go p e below W T13 (mkF m 24 #[.val (.ref a1), .val (.int p2), .val (.int p3), .val (.int (v6_14 p2 p3 fu)), .val (.int (v6_10 p2 p3 fu))] [])
        refine Go.of (fun _ k => XS.iinc X13.here hx rfl (hb hby d6_24) rfl (l' := #[.val (.ref a1), .val (.int p2), .val (.int p3), .val (.int (v6_14 p2 p3 fu)), .val (.int (v6_15 p2 p3 fu))]) rfl k) ?_
        show Go p e below W T13 (mkF m 27 #[.val (.ref a1), .val (.int p2), .val (.int p3), .val (.int (v6_14 p2 p3 fu)), .val (.int (v6_15 p2 p3 fu))] [])
        refine Go.of (fun _ k => XS.goto X13.here hx rfl (pc0 := 27) (pc' := 5) rfl (hb hby d6_27) (by decide) (by decide) k) ?_
        show Go p e below W T13 (mkF m 5 #[.val (.ref a1), .val (.int p2), .val (.int p3), .val (.int (v6_14 p2 p3 fu)), .val (.int (v6_15 p2 p3 fu))] [])
        refine Go.of (fun _ k => XS.iload X13.here hx rfl (hb hby d6_5) rfl k) ?_
        show Go p e below W T13 (mkF m 7 #[.val (.ref a1), .val (.int p2), .val (.int p3), .val (.int (v6_14 p2 p3 fu)), .val (.int (v6_15 p2 p3 fu))] [(.int (v6_15 p2 p3 fu))])
        refine Go.of (fun _ k => XS.iloadN X13.here hx rfl (hb hby d6_7) rfl k) ?_
        show Go p e below W T13 (mkF m 8 #[.val (.ref a1), .val (.int p2), .val (.int p3), .val (.int (v6_14 p2 p3 fu)), .val (.int (v6_15 p2 p3 fu))] [(.int p3), (.int (v6_15 p2 p3 fu))])
        refine Go.of (fun _ k => XS.icmpYes X13.here hx rfl (pc0 := 8) (pc' := 30) rfl (hb hby d6_8) rfl (Jvm.Free.XT.ii_ge_t (own_qstop (own_qs (own_qs (own_qs hq c1) c6) c11))) (by decide) (by decide) k) ?_
        show Go p e below W T13 (mkF m 30 #[.val (.ref a1), .val (.int p2), .val (.int p3), .val (.int (v6_14 p2 p3 fu)), .val (.int (v6_15 p2 p3 fu))] [])
        refine Go.of (fun _ k => XS.iloadN X13.here hx rfl (hb hby d6_30) rfl k) ?_
        show Go p e below W T13 (mkF m 31 #[.val (.ref a1), .val (.int p2), .val (.int p3), .val (.int (v6_14 p2 p3 fu)), .val (.int (v6_15 p2 p3 fu))] [(.int (v6_14 p2 p3 fu))])
        refine Go.of (fun _ k => X13.ldcI hx hown (mvT hZ (hw _ (List.mem_of_getElem? (i := 33) rfl))) rfl (hb hby d6_31) k) ?_
        show Go p e below W T13 (mkF m 33 #[.val (.ref a1), .val (.int p2), .val (.int p3), .val (.int (v6_14 p2 p3 fu)), .val (.int (v6_15 p2 p3 fu))] [(.int (-1640531527 : Int32)), (.int (v6_14 p2 p3 fu))])
        refine Go.of (fun _ k => XS.imul X13.here hx rfl (hb hby d6_33) rfl k) ?_
        show Go p e below W T13 (mkF m 34 #[.val (.ref a1), .val (.int p2), .val (.int p3), .val (.int (v6_14 p2 p3 fu)), .val (.int (v6_15 p2 p3 fu))] [(.int ((v6_14 p2 p3 fu) * (-1640531527 : Int32)))])
        refine Go.of (fun _ k => XS.istoreN X13.here hx rfl (hb hby d6_34) rfl (l' := #[.val (.ref a1), .val (.int p2), .val (.int p3), .val (.int (v6_16 p2 p3 fu)), .val (.int (v6_15 p2 p3 fu))]) rfl k) ?_
        show Go p e below W T13 (mkF m 35 #[.val (.ref a1), .val (.int p2), .val (.int p3), .val (.int (v6_16 p2 p3 fu)), .val (.int (v6_15 p2 p3 fu))] [])
        refine Go.of (fun _ k => XS.iloadN X13.here hx rfl (hb hby d6_35) rfl k) ?_
        show Go p e below W T13 (mkF m 36 #[.val (.ref a1), .val (.int p2), .val (.int p3), .val (.int (v6_16 p2 p3 fu)), .val (.int (v6_15 p2 p3 fu))] [(.int (v6_16 p2 p3 fu))])
        refine Go.of (fun _ k => XS.iloadN X13.here hx rfl (hb hby d6_36) rfl k) ?_
        show Go p e below W T13 (mkF m 37 #[.val (.ref a1), .val (.int p2), .val (.int p3), .val (.int (v6_16 p2 p3 fu)), .val (.int (v6_15 p2 p3 fu))] [(.int (v6_16 p2 p3 fu)), (.int (v6_16 p2 p3 fu))])
        refine Go.of (fun _ k => XS.bipush X13.here hx rfl (hb hby d6_37) k) ?_
        show Go p e below W T13 (mkF m 39 #[.val (.ref a1), .val (.int p2), .val (.int p3), .val (.int (v6_16 p2 p3 fu)), .val (.int (v6_15 p2 p3 fu))] [(.int (16 : Int32)), (.int (v6_16 p2 p3 fu)), (.int (v6_16 p2 p3 fu))])
        refine Go.of (fun _ k => XS.iushr X13.here hx rfl (hb hby d6_39) rfl k) ?_
        show Go p e below W T13 (mkF m 40 #[.val (.ref a1), .val (.int p2), .val (.int p3), .val (.int (v6_16 p2 p3 fu)), .val (.int (v6_15 p2 p3 fu))] [(.int (((v6_16 p2 p3 fu).toUInt32 >>> ((16 : Int32) &&& 31).toUInt32).toInt32)), (.int (v6_16 p2 p3 fu))])
        refine Go.of (fun _ k => XS.ixor X13.here hx rfl (hb hby d6_40) rfl k) ?_
        show Go p e below W T13 (mkF m 41 #[.val (.ref a1), .val (.int p2), .val (.int p3), .val (.int (v6_16 p2 p3 fu)), .val (.int (v6_15 p2 p3 fu))] [(.int ((v6_16 p2 p3 fu) ^^^ (((v6_16 p2 p3 fu).toUInt32 >>> ((16 : Int32) &&& 31).toUInt32).toInt32)))])
        have u_f6 : (f6 p2 p3 fu) = ((v6_16 p2 p3 fu) ^^^ (((v6_16 p2 p3 fu).toUInt32 >>> ((16 : Int32) &&& 31).toUInt32).toInt32)) := by rw [f6, if_pos c1, if_pos c6, if_pos c11]
        exact Go.retI X13 hx hret (hb hby d6_41) hlk u_f6.symm (fun t ht fe => hW t _ _ _ _ ⟨rfl, rfl, ht.trans e13⟩ fe (by decide) (by decide))
      · refine Go.of (fun _ k => XS.icmpYes X8.here hx rfl (pc0 := 8) (pc' := 30) rfl (hb hby d6_8) rfl (Jvm.Free.XT.ii_ge_t c11) (by decide) (by decide) k) ?_
        show Go p e below W T8 (mkF m 30 #[.val (.ref a1), .val (.int p2), .val (.int p3), .val (.int (v6_9 p2 p3 fu)), .val (.int (v6_10 p2 p3 fu))] [])
        refine Go.of (fun _ k => XS.iloadN X8.here hx rfl (hb hby d6_30) rfl k) ?_
        show Go p e below W T8 (mkF m 31 #[.val (.ref a1), .val (.int p2), .val (.int p3), .val (.int (v6_9 p2 p3 fu)), .val (.int (v6_10 p2 p3 fu))] [(.int (v6_9 p2 p3 fu))])
        refine Go.of (fun _ k => X8.ldcI hx hown (mvT hZ (hw _ (List.mem_of_getElem? (i := 33) rfl))) rfl (hb hby d6_31) k) ?_
        show Go p e below W T8 (mkF m 33 #[.val (.ref a1), .val (.int p2), .val (.int p3), .val (.int (v6_9 p2 p3 fu)), .val (.int (v6_10 p2 p3 fu))] [(.int (-1640531527 : Int32)), (.int (v6_9 p2 p3 fu))])
        refine Go.of (fun _ k => XS.imul X8.here hx rfl (hb hby d6_33) rfl k) ?_
        show Go p e below W T8 (mkF m 34 #[.val (.ref a1), .val (.int p2), .val (.int p3), .val (.int (v6_9 p2 p3 fu)), .val (.int (v6_10 p2 p3 fu))] [(.int ((v6_9 p2 p3 fu) * (-1640531527 : Int32)))])
        refine Go.of (fun _ k => XS.istoreN X8.here hx rfl (hb hby d6_34) rfl (l' := #[.val (.ref a1), .val (.int p2), .val (.int p3), .val (.int (v6_12 p2 p3 fu)), .val (.int (v6_10 p2 p3 fu))]) rfl k) ?_
        show Go p e below W T8 (mkF m 35 #[.val (.ref a1), .val (.int p2), .val (.int p3), .val (.int (v6_12 p2 p3 fu)), .val (.int (v6_10 p2 p3 fu))] [])
        refine Go.of (fun _ k => XS.iloadN X8.here hx rfl (hb hby d6_35) rfl k) ?_
        show Go p e below W T8 (mkF m 36 #[.val (.ref a1), .val (.int p2), .val (.int p3), .val (.int (v6_12 p2 p3 fu)), .val (.int (v6_10 p2 p3 fu))] [(.int (v6_12 p2 p3 fu))])
        refine Go.of (fun _ k => XS.iloadN X8.here hx rfl (hb hby d6_36) rfl k) ?_
        show Go p e below W T8 (mkF m 37 #[.val (.ref a1), .val (.int p2), .val (.int p3), .val (.int (v6_12 p2 p3 fu)), .val (.int (v6_10 p2 p3 fu))] [(.int (v6_12 p2 p3 fu)), (.int (v6_12 p2 p3 fu))])
        refine Go.of (fun _ k => XS.bipush X8.here hx rfl (hb hby d6_37) k) ?_
        show Go p e below W T8 (mkF m 39 #[.val (.ref a1), .val (.int p2), .val (.int p3), .val (.int (v6_12 p2 p3 fu)), .val (.int (v6_10 p2 p3 fu))] [(.int (16 : Int32)), (.int (v6_12 p2 p3 fu)), (.int (v6_12 p2 p3 fu))])
        refine Go.of (fun _ k => XS.iushr X8.here hx rfl (hb hby d6_39) rfl k) ?_
        show Go p e below W T8 (mkF m 40 #[.val (.ref a1), .val (.int p2), .val (.int p3), .val (.int (v6_12 p2 p3 fu)), .val (.int (v6_10 p2 p3 fu))] [(.int (((v6_12 p2 p3 fu).toUInt32 >>> ((16 : Int32) &&& 31).toUInt32).toInt32)), (.int (v6_12 p2 p3 fu))])
        refine Go.of (fun _ k => XS.ixor X8.here hx rfl (hb hby d6_40) rfl k) ?_
        show Go p e below W T8 (mkF m 41 #[.val (.ref a1), .val (.int p2), .val (.int p3), .val (.int (v6_12 p2 p3 fu)), .val (.int (v6_10 p2 p3 fu))] [(.int ((v6_12 p2 p3 fu) ^^^ (((v6_12 p2 p3 fu).toUInt32 >>> ((16 : Int32) &&& 31).toUInt32).toInt32)))])
        have u_f6 : (f6 p2 p3 fu) = ((v6_12 p2 p3 fu) ^^^ (((v6_12 p2 p3 fu).toUInt32 >>> ((16 : Int32) &&& 31).toUInt32).toInt32)) := by rw [f6, if_pos c1, if_pos c6, if_neg c11]
        exact Go.retI X8 hx hret (hb hby d6_41) hlk u_f6.symm (fun t ht fe => hW t _ _ _ _ ⟨rfl, rfl, ht.trans e8⟩ fe (by decide) (by decide))
    · refine Go.of (fun _ k => XS.icmpYes X3.here hx rfl (pc0 := 8) (pc' := 30) rfl (hb hby d6_8) rfl (Jvm.Free.XT.ii_ge_t c6) (by decide) (by decide) k) ?_
      show Go p e below W T3 (mkF m 30 #[.val (.ref a1), .val (.int p2), .val (.int p3), .val (.int (v6_4 p2 p3 fu)), .val (.int (v6_5 p2 p3 fu))] [])
      refine Go.of (fun _ k => XS.iloadN X3.here hx rfl (hb hby d6_30) rfl k) ?_
      show Go p e below W T3 (mkF m 31 #[.val (.ref a1), .val (.int p2), .val (.int p3), .val (.int (v6_4 p2 p3 fu)), .val (.int (v6_5 p2 p3 fu))] [(.int (v6_4 p2 p3 fu))])
      refine Go.of (fun _ k => X3.ldcI hx hown (mvT hZ (hw _ (List.mem_of_getElem? (i := 33) rfl))) rfl (hb hby d6_31) k) ?_
      show Go p e below W T3 (mkF m 33 #[.val (.ref a1), .val (.int p2), .val (.int p3), .val (.int (v6_4 p2 p3 fu)), .val (.int (v6_5 p2 p3 fu))] [(.int (-1640531527 : Int32)), (.int (v6_4 p2 p3 fu))])
      refine Go.of (fun _ k => XS.imul X3.here hx rfl (hb hby d6_33) rfl k) ?_
      show Go p e below W T3 (mkF m 34 #[.val (.ref a1), .val (.int p2), .val (.int p3), .val (.int (v6_4 p2 p3 fu)), .val (.int (v6_5 p2 p3 fu))] [(.int ((v6_4 p2 p3 fu) * (-1640531527 : Int32)))])
      refine Go.of (fun _ k => XS.istoreN X3.here hx rfl (hb hby d6_34) rfl (l' := #[.val (.ref a1), .val (.int p2), .val (.int p3), .val (.int (v6_7 p2 p3 fu)), .val (.int (v6_5 p2 p3 fu))]) rfl k) ?_
      show Go p e below W T3 (mkF m 35 #[.val (.ref a1), .val (.int p2), .val (.int p3), .val (.int (v6_7 p2 p3 fu)), .val (.int (v6_5 p2 p3 fu))] [])
      refine Go.of (fun _ k => XS.iloadN X3.here hx rfl (hb hby d6_35) rfl k) ?_
      show Go p e below W T3 (mkF m 36 #[.val (.ref a1), .val (.int p2), .val (.int p3), .val (.int (v6_7 p2 p3 fu)), .val (.int (v6_5 p2 p3 fu))] [(.int (v6_7 p2 p3 fu))])
      refine Go.of (fun _ k => XS.iloadN X3.here hx rfl (hb hby d6_36) rfl k) ?_
      show Go p e below W T3 (mkF m 37 #[.val (.ref a1), .val (.int p2), .val (.int p3), .val (.int (v6_7 p2 p3 fu)), .val (.int (v6_5 p2 p3 fu))] [(.int (v6_7 p2 p3 fu)), (.int (v6_7 p2 p3 fu))])
      refine Go.of (fun _ k => XS.bipush X3.here hx rfl (hb hby d6_37) k) ?_
      show Go p e below W T3 (mkF m 39 #[.val (.ref a1), .val (.int p2), .val (.int p3), .val (.int (v6_7 p2 p3 fu)), .val (.int (v6_5 p2 p3 fu))] [(.int (16 : Int32)), (.int (v6_7 p2 p3 fu)), (.int (v6_7 p2 p3 fu))])
      refine Go.of (fun _ k => XS.iushr X3.here hx rfl (hb hby d6_39) rfl k) ?_
      show Go p e below W T3 (mkF m 40 #[.val (.ref a1), .val (.int p2), .val (.int p3), .val (.int (v6_7 p2 p3 fu)), .val (.int (v6_5 p2 p3 fu))] [(.int (((v6_7 p2 p3 fu).toUInt32 >>> ((16 : Int32) &&& 31).toUInt32).toInt32)), (.int (v6_7 p2 p3 fu))])
      refine Go.of (fun _ k => XS.ixor X3.here hx rfl (hb hby d6_40) rfl k) ?_
      show Go p e below W T3 (mkF m 41 #[.val (.ref a1), .val (.int p2), .val (.int p3), .val (.int (v6_7 p2 p3 fu)), .val (.int (v6_5 p2 p3 fu))] [(.int ((v6_7 p2 p3 fu) ^^^ (((v6_7 p2 p3 fu).toUInt32 >>> ((16 : Int32) &&& 31).toUInt32).toInt32)))])
      have u_f6 : (f6 p2 p3 fu) = ((v6_7 p2 p3 fu) ^^^ (((v6_7 p2 p3 fu).toUInt32 >>> ((16 : Int32) &&& 31).toUInt32).toInt32)) := by rw [f6, if_pos c1, if_neg c6]
      exact Go.retI X3 hx hret (hb hby d6_41) hlk u_f6.symm (fun t ht fe => hW t _ _ _ _ ⟨rfl, rfl, ht.trans e3⟩ fe (by decide) (by decide))
  · refine Go.of (fun _ k => XS.icmpYes X0.here hx rfl (pc0 := 8) (pc' := 30) rfl (hb hby d6_8) rfl (Jvm.Free.XT.ii_ge_t c1) (by decide) (by decide) k) ?_
    show Go p e below W T0 (mkF m 30 #[.val (.ref a1), .val (.int p2), .val (.int p3), .val (.int (0 : Int32)), .val (.int p2)] [])
    refine Go.of (fun _ k => XS.iloadN X0.here hx rfl (hb hby d6_30) rfl k) ?_
    show Go p e below W T0 (mkF m 31 #[.val (.ref a1), .val (.int p2), .val (.int p3), .val (.int (0 : Int32)), .val (.int p2)] [(.int (0 : Int32))])
    refine Go.of (fun _ k => X0.ldcI hx hown (mvT hZ (hw _ (List.mem_of_getElem? (i := 33) rfl))) rfl (hb hby d6_31) k) ?_
    show Go p e below W T0 (mkF m 33 #[.val (.ref a1), .val (.int p2), .val (.int p3), .val (.int (0 : Int32)), .val (.int p2)] [(.int (-1640531527 : Int32)), (.int (0 : Int32))])
    refine Go.of (fun _ k => XS.imul X0.here hx rfl (hb hby d6_33) rfl k) ?_
    show Go p e below W T0 (mkF m 34 #[.val (.ref a1), .val (.int p2), .val (.int p3), .val (.int (0 : Int32)), .val (.int p2)] [(.int ((0 : Int32) * (-1640531527 : Int32)))])
    refine Go.of (fun _ k => XS.istoreN X0.here hx rfl (hb hby d6_34) rfl (l' := #[.val (.ref a1), .val (.int p2), .val (.int p3), .val (.int (v6_2 p2 p3 fu)), .val (.int p2)]) rfl k) ?_
    show Go p e below W T0 (mkF m 35 #[.val (.ref a1), .val (.int p2), .val (.int p3), .val (.int (v6_2 p2 p3 fu)), .val (.int p2)] [])
    refine Go.of (fun _ k => XS.iloadN X0.here hx rfl (hb hby d6_35) rfl k) ?_
    show Go p e below W T0 (mkF m 36 #[.val (.ref a1), .val (.int p2), .val (.int p3), .val (.int (v6_2 p2 p3 fu)), .val (.int p2)] [(.int (v6_2 p2 p3 fu))])
    refine Go.of (fun _ k => XS.iloadN X0.here hx rfl (hb hby d6_36) rfl k) ?_
    show Go p e below W T0 (mkF m 37 #[.val (.ref a1), .val (.int p2), .val (.int p3), .val (.int (v6_2 p2 p3 fu)), .val (.int p2)] [(.int (v6_2 p2 p3 fu)), (.int (v6_2 p2 p3 fu))])
    refine Go.of (fun _ k => XS.bipush X0.here hx rfl (hb hby d6_37) k) ?_
    show Go p e below W T0 (mkF m 39 #[.val (.ref a1), .val (.int p2), .val (.int p3), .val (.int (v6_2 p2 p3 fu)), .val (.int p2)] [(.int (16 : Int32)), (.int (v6_2 p2 p3 fu)), (.int (v6_2 p2 p3 fu))])
    refine Go.of (fun _ k => XS.iushr X0.here hx rfl (hb hby d6_39) rfl k) ?_
    show Go p e below W T0 (mkF m 40 #[.val (.ref a1), .val (.int p2), .val (.int p3), .val (.int (v6_2 p2 p3 fu)), .val (.int p2)] [(.int (((v6_2 p2 p3 fu).toUInt32 >>> ((16 : Int32) &&& 31).toUInt32).toInt32)), (.int (v6_2 p2 p3 fu))])
    refine Go.of (fun _ k => XS.ixor X0.here hx rfl (hb hby d6_40) rfl k) ?_
    show Go p e below W T0 (mkF m 41 #[.val (.ref a1), .val (.int p2), .val (.int p3), .val (.int (v6_2 p2 p3 fu)), .val (.int p2)] [(.int ((v6_2 p2 p3 fu) ^^^ (((v6_2 p2 p3 fu).toUInt32 >>> ((16 : Int32) &&& 31).toUInt32).toInt32)))])
    have u_f6 : (f6 p2 p3 fu) = ((v6_2 p2 p3 fu) ^^^ (((v6_2 p2 p3 fu).toUInt32 >>> ((16 : Int32) &&& 31).toUInt32).toInt32)) := by rw [f6, if_neg c1]
    exact Go.retI X0 hx hret (hb hby d6_41) hlk u_f6.symm (fun t ht fe => hW t _ _ _ _ ⟨rfl, rfl, ht.trans e0⟩ fe (by decide) (by decide))
set_option maxRecDepth 65536 in
set_option maxHeartbeats 40000000 in
theorem rm7 (l : Launch) (Z : State) (a0 : Array Value) (hw : ∀ d ∈ tables_1, d.before a0 Z = true) (ws : List Jvm.Cond) (p1 : Int32) (p2 : Int32) (p3 : Int32) (p4 : Int32) (p5 : Int32) (h0 : Heap) :
    Con l Z (⟨"com/example/tok6/tok6/TextBufferHashPinLaw", "step", "(IIIIC)I"⟩ : MethodName) method_2_code 5 (some .int) ws ({ frames := 0, cells := 0, slots := 0, locals := 0 } : Room) #[(.int p1), (.int p2), (.int p3), (.int p4), (.int p5)] h0 (PQ (.int (f7 p1 p2 p3 p4 p5)) h0) := by
  refine own_body pn_7 (fun m => ef_7 m p1 p2 p3 p4 p5) ?_
  intro p e s m below meth c T0 W X0 hx hby hml hret hlk hown hnm hZ e0 hW
  show Go p e below W T0 (mkF m 0 #[.val (.int p1), .val (.int p2), .val (.int p3), .val (.int p4), .val (.int p5)] [])
  refine Go.of (fun _ k => XS.iloadN X0.here hx rfl (hb hby d7_0) rfl k) ?_
  show Go p e below W T0 (mkF m 1 #[.val (.int p1), .val (.int p2), .val (.int p3), .val (.int p4), .val (.int p5)] [(.int p2)])
  refine Go.of (fun _ k => XS.iloadN X0.here hx rfl (hb hby d7_1) rfl k) ?_
  show Go p e below W T0 (mkF m 2 #[.val (.int p1), .val (.int p2), .val (.int p3), .val (.int p4), .val (.int p5)] [(.int p4), (.int p2)])
  by_cases c1 : p4 < p2
  · refine Go.of (fun _ k => XS.icmpYes X0.here hx rfl (pc0 := 2) (pc' := 18) rfl (hb hby d7_2) rfl (Jvm.Free.XT.ii_gt_t c1) (by decide) (by decide) k) ?_
    show Go p e below W T0 (mkF m 18 #[.val (.int p1), .val (.int p2), .val (.int p3), .val (.int p4), .val (.int p5)] [])
    refine Go.of (fun _ k => XS.iloadN X0.here hx rfl (hb hby d7_18) rfl k) ?_
    show Go p e below W T0 (mkF m 19 #[.val (.int p1), .val (.int p2), .val (.int p3), .val (.int p4), .val (.int p5)] [(.int p1)])
    have q : (f7 p1 p2 p3 p4 p5) = p1 := by rw [f7, if_pos c1]
    exact Go.retI X0 hx hret (hb hby d7_19) hlk q.symm (fun t ht fe => hW t _ _ _ _ ⟨rfl, rfl, ht.trans e0⟩ fe (by decide) (by decide))
  · refine Go.of (fun _ k => XS.icmpNo X0.here hx rfl (hb hby d7_2) rfl (Jvm.Free.XT.ii_gt_f c1) k) ?_
    show Go p e below W T0 (mkF m 5 #[.val (.int p1), .val (.int p2), .val (.int p3), .val (.int p4), .val (.int p5)] [])
    refine Go.of (fun _ k => XS.iloadN X0.here hx rfl (hb hby d7_5) rfl k) ?_
    show Go p e below W T0 (mkF m 6 #[.val (.int p1), .val (.int p2), .val (.int p3), .val (.int p4), .val (.int p5)] [(.int p4)])
    refine Go.of (fun _ k => XS.iloadN X0.here hx rfl (hb hby d7_6) rfl k) ?_
    show Go p e below W T0 (mkF m 7 #[.val (.int p1), .val (.int p2), .val (.int p3), .val (.int p4), .val (.int p5)] [(.int p3), (.int p4)])
    by_cases c2 : p4 < p3
    · refine Go.of (fun _ k => XS.icmpNo X0.here hx rfl (hb hby d7_7) rfl (Jvm.Free.XT.ii_ge_f c2) k) ?_
      show Go p e below W T0 (mkF m 10 #[.val (.int p1), .val (.int p2), .val (.int p3), .val (.int p4), .val (.int p5)] [])
      refine Go.of (fun _ k => X0.ldcI hx hown (mvT hZ (hw _ (List.mem_of_getElem? (i := 40) rfl))) rfl (hb hby d7_10) k) ?_
      show Go p e below W T0 (mkF m 12 #[.val (.int p1), .val (.int p2), .val (.int p3), .val (.int p4), .val (.int p5)] [(.int (16777619 : Int32))])
      refine Go.of (fun _ k => XS.iloadN X0.here hx rfl (hb hby d7_12) rfl k) ?_
      show Go p e below W T0 (mkF m 13 #[.val (.int p1), .val (.int p2), .val (.int p3), .val (.int p4), .val (.int p5)] [(.int p1), (.int (16777619 : Int32))])
      refine Go.of (fun _ k => XS.imul X0.here hx rfl (hb hby d7_13) rfl k) ?_
      show Go p e below W T0 (mkF m 14 #[.val (.int p1), .val (.int p2), .val (.int p3), .val (.int p4), .val (.int p5)] [(.int ((16777619 : Int32) * p1))])
      refine Go.of (fun _ k => XS.iload X0.here hx rfl (hb hby d7_14) rfl k) ?_
      show Go p e below W T0 (mkF m 16 #[.val (.int p1), .val (.int p2), .val (.int p3), .val (.int p4), .val (.int p5)] [(.int p5), (.int ((16777619 : Int32) * p1))])
      refine Go.of (fun _ k => XS.iadd X0.here hx rfl (hb hby d7_16) rfl k) ?_
      show Go p e below W T0 (mkF m 17 #[.val (.int p1), .val (.int p2), .val (.int p3), .val (.int p4), .val (.int p5)] [(.int (((16777619 : Int32) * p1) + p5))])
      have q : (f7 p1 p2 p3 p4 p5) = (((16777619 : Int32) * p1) + p5) := by rw [f7, if_neg c1, if_pos c2]
      exact Go.retI X0 hx hret (hb hby d7_17) hlk q.symm (fun t ht fe => hW t _ _ _ _ ⟨rfl, rfl, ht.trans e0⟩ fe (by decide) (by decide))
    · refine Go.of (fun _ k => XS.icmpYes X0.here hx rfl (pc0 := 7) (pc' := 18) rfl (hb hby d7_7) rfl (Jvm.Free.XT.ii_ge_t c2) (by decide) (by decide) k) ?_
      show Go p e below W T0 (mkF m 18 #[.val (.int p1), .val (.int p2), .val (.int p3), .val (.int p4), .val (.int p5)] [])
      refine Go.of (fun _ k => XS.iloadN X0.here hx rfl (hb hby d7_18) rfl k) ?_
      show Go p e below W T0 (mkF m 19 #[.val (.int p1), .val (.int p2), .val (.int p3), .val (.int p4), .val (.int p5)] [(.int p1)])
      have q : (f7 p1 p2 p3 p4 p5) = p1 := by rw [f7, if_neg c1, if_neg c2]
      exact Go.retI X0 hx hret (hb hby d7_19) hlk q.symm (fun t ht fe => hW t _ _ _ _ ⟨rfl, rfl, ht.trans e0⟩ fe (by decide) (by decide))
set_option maxRecDepth 65536 in
set_option maxHeartbeats 40000000 in
theorem rm0 (l : Launch) (Z : State) (a0 : Array Value) (hw : ∀ d ∈ tables_1, d.before a0 Z = true) (ws : List Jvm.Cond) (p1 : Int32) (p2 : Int32) (p3 : Int32) (p4 : Int32) (p5 : Int32) (h0 : Heap) (n0 : Nat) (Z0 : n0 ≤ h0.size) :
    Con l Z x code maxLocals ret ws room_1 #[(.int p1), (.int p2), (.int p3), (.int p4), (.int p5)] h0 (Q0 Z p1 p2 p3 p4 p5 h0 n0) := by
  refine own_body pn_0 (fun m => ef_0 m p1 p2 p3 p4 p5) ?_
  intro p e s m below meth c T0 W X0 hx hby hml hret hlk hown hnm hZ e0 hW
  have K : Keep h0 h0 [] := Keep.refl _ _
  have N := Fr.nil n0
  show Go p e below W T0 (mkF m 0 #[.val (.int p1), .val (.int p2), .val (.int p3), .val (.int p4), .val (.int p5), .unset, .unset, .unset, .unset, .unset, .unset, .unset, .unset, .unset] [])
  refine Go.of (fun _ k => XS.iloadN X0.here hx rfl (hb hby at_0) rfl k) ?_
  show Go p e below W T0 (mkF m 1 #[.val (.int p1), .val (.int p2), .val (.int p3), .val (.int p4), .val (.int p5), .unset, .unset, .unset, .unset, .unset, .unset, .unset, .unset, .unset] [(.int p1)])
  refine Go.of (fun _ k => XS.i2c X0.here hx rfl (hb hby at_1) rfl k) ?_
  show Go p e below W T0 (mkF m 2 #[.val (.int p1), .val (.int p2), .val (.int p3), .val (.int p4), .val (.int p5), .unset, .unset, .unset, .unset, .unset, .unset, .unset, .unset, .unset] [(.int (p1.toUInt32.toUInt16.toUInt32.toInt32))])
  refine Go.of (fun _ k => XS.istore X0.here hx rfl (hb hby at_2) rfl (l' := #[.val (.int p1), .val (.int p2), .val (.int p3), .val (.int p4), .val (.int p5), .val (.int (v0_1 p1 p2 p3 p4 p5)), .unset, .unset, .unset, .unset, .unset, .unset, .unset, .unset]) rfl k) ?_
  show Go p e below W T0 (mkF m 4 #[.val (.int p1), .val (.int p2), .val (.int p3), .val (.int p4), .val (.int p5), .val (.int (v0_1 p1 p2 p3 p4 p5)), .unset, .unset, .unset, .unset, .unset, .unset, .unset, .unset] [])
  refine Go.of (fun _ k => XS.iloadN X0.here hx rfl (hb hby at_4) rfl k) ?_
  show Go p e below W T0 (mkF m 5 #[.val (.int p1), .val (.int p2), .val (.int p3), .val (.int p4), .val (.int p5), .val (.int (v0_1 p1 p2 p3 p4 p5)), .unset, .unset, .unset, .unset, .unset, .unset, .unset, .unset] [(.int p2)])
  refine Go.of (fun _ k => XS.i2c X0.here hx rfl (hb hby at_5) rfl k) ?_
  show Go p e below W T0 (mkF m 6 #[.val (.int p1), .val (.int p2), .val (.int p3), .val (.int p4), .val (.int p5), .val (.int (v0_1 p1 p2 p3 p4 p5)), .unset, .unset, .unset, .unset, .unset, .unset, .unset, .unset] [(.int (p2.toUInt32.toUInt16.toUInt32.toInt32))])
  refine Go.of (fun _ k => XS.istore X0.here hx rfl (hb hby at_6) rfl (l' := #[.val (.int p1), .val (.int p2), .val (.int p3), .val (.int p4), .val (.int p5), .val (.int (v0_1 p1 p2 p3 p4 p5)), .val (.int (v0_2 p1 p2 p3 p4 p5)), .unset, .unset, .unset, .unset, .unset, .unset, .unset]) rfl k) ?_
  show Go p e below W T0 (mkF m 8 #[.val (.int p1), .val (.int p2), .val (.int p3), .val (.int p4), .val (.int p5), .val (.int (v0_1 p1 p2 p3 p4 p5)), .val (.int (v0_2 p1 p2 p3 p4 p5)), .unset, .unset, .unset, .unset, .unset, .unset, .unset] [])
  refine Go.of (fun _ k => XS.iloadN X0.here hx rfl (hb hby at_8) rfl k) ?_
  show Go p e below W T0 (mkF m 9 #[.val (.int p1), .val (.int p2), .val (.int p3), .val (.int p4), .val (.int p5), .val (.int (v0_1 p1 p2 p3 p4 p5)), .val (.int (v0_2 p1 p2 p3 p4 p5)), .unset, .unset, .unset, .unset, .unset, .unset, .unset] [(.int p3)])
  refine Go.of (fun _ k => XS.i2c X0.here hx rfl (hb hby at_9) rfl k) ?_
  show Go p e below W T0 (mkF m 10 #[.val (.int p1), .val (.int p2), .val (.int p3), .val (.int p4), .val (.int p5), .val (.int (v0_1 p1 p2 p3 p4 p5)), .val (.int (v0_2 p1 p2 p3 p4 p5)), .unset, .unset, .unset, .unset, .unset, .unset, .unset] [(.int (p3.toUInt32.toUInt16.toUInt32.toInt32))])
  refine Go.of (fun _ k => XS.istore X0.here hx rfl (hb hby at_10) rfl (l' := #[.val (.int p1), .val (.int p2), .val (.int p3), .val (.int p4), .val (.int p5), .val (.int (v0_1 p1 p2 p3 p4 p5)), .val (.int (v0_2 p1 p2 p3 p4 p5)), .val (.int (v0_3 p1 p2 p3 p4 p5)), .unset, .unset, .unset, .unset, .unset, .unset]) rfl k) ?_
  show Go p e below W T0 (mkF m 12 #[.val (.int p1), .val (.int p2), .val (.int p3), .val (.int p4), .val (.int p5), .val (.int (v0_1 p1 p2 p3 p4 p5)), .val (.int (v0_2 p1 p2 p3 p4 p5)), .val (.int (v0_3 p1 p2 p3 p4 p5)), .unset, .unset, .unset, .unset, .unset, .unset] [])
  refine Go.of (fun _ k => XS.iloadN X0.here hx rfl (hb hby at_12) rfl k) ?_
  show Go p e below W T0 (mkF m 13 #[.val (.int p1), .val (.int p2), .val (.int p3), .val (.int p4), .val (.int p5), .val (.int (v0_1 p1 p2 p3 p4 p5)), .val (.int (v0_2 p1 p2 p3 p4 p5)), .val (.int (v0_3 p1 p2 p3 p4 p5)), .unset, .unset, .unset, .unset, .unset, .unset] [(.int p4)])
  refine Go.of (fun _ k => X0.ldcI hx hown (mvT hZ (hw _ (List.mem_of_getElem? (i := 0) rfl))) rfl (hb hby at_13) k) ?_
  show Go p e below W T0 (mkF m 15 #[.val (.int p1), .val (.int p2), .val (.int p3), .val (.int p4), .val (.int p5), .val (.int (v0_1 p1 p2 p3 p4 p5)), .val (.int (v0_2 p1 p2 p3 p4 p5)), .val (.int (v0_3 p1 p2 p3 p4 p5)), .unset, .unset, .unset, .unset, .unset, .unset] [(.int (2147483647 : Int32)), (.int p4)])
  refine Go.of (fun _ k => XS.iand X0.here hx rfl (hb hby at_15) rfl k) ?_
  show Go p e below W T0 (mkF m 16 #[.val (.int p1), .val (.int p2), .val (.int p3), .val (.int p4), .val (.int p5), .val (.int (v0_1 p1 p2 p3 p4 p5)), .val (.int (v0_2 p1 p2 p3 p4 p5)), .val (.int (v0_3 p1 p2 p3 p4 p5)), .unset, .unset, .unset, .unset, .unset, .unset] [(.int (p4 &&& (2147483647 : Int32)))])
  refine Go.of (fun _ k => XS.iconst X0.here hx rfl (hb hby at_16) k) ?_
  show Go p e below W T0 (mkF m 17 #[.val (.int p1), .val (.int p2), .val (.int p3), .val (.int p4), .val (.int p5), .val (.int (v0_1 p1 p2 p3 p4 p5)), .val (.int (v0_2 p1 p2 p3 p4 p5)), .val (.int (v0_3 p1 p2 p3 p4 p5)), .unset, .unset, .unset, .unset, .unset, .unset] [(.int (4 : Int32)), (.int (p4 &&& (2147483647 : Int32)))])
  refine Go.of (fun _ k => iremM X0 hx rfl (hb hby at_17) rfl (by decide) k) ?_
  show Go p e below W T0 (mkF m 18 #[.val (.int p1), .val (.int p2), .val (.int p3), .val (.int p4), .val (.int p5), .val (.int (v0_1 p1 p2 p3 p4 p5)), .val (.int (v0_2 p1 p2 p3 p4 p5)), .val (.int (v0_3 p1 p2 p3 p4 p5)), .unset, .unset, .unset, .unset, .unset, .unset] [(.int ((p4 &&& (2147483647 : Int32)) % (4 : Int32)))])
  refine Go.of (fun _ k => XS.istore X0.here hx rfl (hb hby at_18) rfl (l' := #[.val (.int p1), .val (.int p2), .val (.int p3), .val (.int p4), .val (.int p5), .val (.int (v0_1 p1 p2 p3 p4 p5)), .val (.int (v0_2 p1 p2 p3 p4 p5)), .val (.int (v0_3 p1 p2 p3 p4 p5)), .val (.int (v0_4 p1 p2 p3 p4 p5)), .unset, .unset, .unset, .unset, .unset]) rfl k) ?_
  show Go p e below W T0 (mkF m 20 #[.val (.int p1), .val (.int p2), .val (.int p3), .val (.int p4), .val (.int p5), .val (.int (v0_1 p1 p2 p3 p4 p5)), .val (.int (v0_2 p1 p2 p3 p4 p5)), .val (.int (v0_3 p1 p2 p3 p4 p5)), .val (.int (v0_4 p1 p2 p3 p4 p5)), .unset, .unset, .unset, .unset, .unset] [])
  refine Go.of (fun _ k => XS.iload X0.here hx rfl (hb hby at_20) rfl k) ?_
  show Go p e below W T0 (mkF m 22 #[.val (.int p1), .val (.int p2), .val (.int p3), .val (.int p4), .val (.int p5), .val (.int (v0_1 p1 p2 p3 p4 p5)), .val (.int (v0_2 p1 p2 p3 p4 p5)), .val (.int (v0_3 p1 p2 p3 p4 p5)), .val (.int (v0_4 p1 p2 p3 p4 p5)), .unset, .unset, .unset, .unset, .unset] [(.int p5)])
  refine Go.of (fun _ k => X0.ldcI hx hown (mvT hZ (hw _ (List.mem_of_getElem? (i := 0) rfl))) rfl (hb hby at_22) k) ?_
  show Go p e below W T0 (mkF m 24 #[.val (.int p1), .val (.int p2), .val (.int p3), .val (.int p4), .val (.int p5), .val (.int (v0_1 p1 p2 p3 p4 p5)), .val (.int (v0_2 p1 p2 p3 p4 p5)), .val (.int (v0_3 p1 p2 p3 p4 p5)), .val (.int (v0_4 p1 p2 p3 p4 p5)), .unset, .unset, .unset, .unset, .unset] [(.int (2147483647 : Int32)), (.int p5)])
  refine Go.of (fun _ k => XS.iand X0.here hx rfl (hb hby at_24) rfl k) ?_
  show Go p e below W T0 (mkF m 25 #[.val (.int p1), .val (.int p2), .val (.int p3), .val (.int p4), .val (.int p5), .val (.int (v0_1 p1 p2 p3 p4 p5)), .val (.int (v0_2 p1 p2 p3 p4 p5)), .val (.int (v0_3 p1 p2 p3 p4 p5)), .val (.int (v0_4 p1 p2 p3 p4 p5)), .unset, .unset, .unset, .unset, .unset] [(.int (p5 &&& (2147483647 : Int32)))])
  refine Go.of (fun _ k => XS.iconst X0.here hx rfl (hb hby at_25) k) ?_
  show Go p e below W T0 (mkF m 26 #[.val (.int p1), .val (.int p2), .val (.int p3), .val (.int p4), .val (.int p5), .val (.int (v0_1 p1 p2 p3 p4 p5)), .val (.int (v0_2 p1 p2 p3 p4 p5)), .val (.int (v0_3 p1 p2 p3 p4 p5)), .val (.int (v0_4 p1 p2 p3 p4 p5)), .unset, .unset, .unset, .unset, .unset] [(.int (4 : Int32)), (.int (p5 &&& (2147483647 : Int32)))])
  refine Go.of (fun _ k => iremM X0 hx rfl (hb hby at_26) rfl (by decide) k) ?_
  show Go p e below W T0 (mkF m 27 #[.val (.int p1), .val (.int p2), .val (.int p3), .val (.int p4), .val (.int p5), .val (.int (v0_1 p1 p2 p3 p4 p5)), .val (.int (v0_2 p1 p2 p3 p4 p5)), .val (.int (v0_3 p1 p2 p3 p4 p5)), .val (.int (v0_4 p1 p2 p3 p4 p5)), .unset, .unset, .unset, .unset, .unset] [(.int ((p5 &&& (2147483647 : Int32)) % (4 : Int32)))])
  refine Go.of (fun _ k => XS.istore X0.here hx rfl (hb hby at_27) rfl (l' := #[.val (.int p1), .val (.int p2), .val (.int p3), .val (.int p4), .val (.int p5), .val (.int (v0_1 p1 p2 p3 p4 p5)), .val (.int (v0_2 p1 p2 p3 p4 p5)), .val (.int (v0_3 p1 p2 p3 p4 p5)), .val (.int (v0_4 p1 p2 p3 p4 p5)), .val (.int (v0_5 p1 p2 p3 p4 p5)), .unset, .unset, .unset, .unset]) rfl k) ?_
  show Go p e below W T0 (mkF m 29 #[.val (.int p1), .val (.int p2), .val (.int p3), .val (.int p4), .val (.int p5), .val (.int (v0_1 p1 p2 p3 p4 p5)), .val (.int (v0_2 p1 p2 p3 p4 p5)), .val (.int (v0_3 p1 p2 p3 p4 p5)), .val (.int (v0_4 p1 p2 p3 p4 p5)), .val (.int (v0_5 p1 p2 p3 p4 p5)), .unset, .unset, .unset, .unset] [])
  refine Go.newO X0 hx hZ hown (hw _ (List.mem_of_getElem? (i := 1) rfl)) (hw _ (List.mem_of_getElem? (i := 2) rfl)) (hw _ (List.mem_of_getElem? (i := 3) rfl)) e0 (hb hby at_29) (by decide) (by decide) ?_
  intro T6 h6 b6 zq6 X6 e6 E6 E_b6 D6
  have g_b6 : n0 ≤ b6 := by rw [zq6]; exact Z0
  have s_b6 : h0.size ≤ b6 := by rw [zq6]; exact K.1
  have K := K.ext E6
  have Z0 := Nat.le_trans Z0 E6.1
  have F_b6_units : Fld Z h6 b6 "com/example/tok6/tok6/TextBuffer" "units" "[C" .null := D6 (Or.inl (hw _ (List.mem_of_getElem? (i := 12) rfl))) (ty := (.array .char)) (by decide)
  have F_b6_length : Fld Z h6 b6 "com/example/tok6/tok6/TextBuffer" "length" "I" (.int (0 : Int32)) := D6 (Or.inl (hw _ (List.mem_of_getElem? (i := 23) rfl))) (ty := .int) (by decide)
  show Go p e below W T6 (mkF m 32 #[.val (.int p1), .val (.int p2), .val (.int p3), .val (.int p4), .val (.int p5), .val (.int (v0_1 p1 p2 p3 p4 p5)), .val (.int (v0_2 p1 p2 p3 p4 p5)), .val (.int (v0_3 p1 p2 p3 p4 p5)), .val (.int (v0_4 p1 p2 p3 p4 p5)), .val (.int (v0_5 p1 p2 p3 p4 p5)), .unset, .unset, .unset, .unset] [(.ref b6)])
  refine Go.of (fun _ k => XS.dup X6.here hx rfl (hb hby at_32) rfl rfl k) ?_
  show Go p e below W T6 (mkF m 33 #[.val (.int p1), .val (.int p2), .val (.int p3), .val (.int p4), .val (.int p5), .val (.int (v0_1 p1 p2 p3 p4 p5)), .val (.int (v0_2 p1 p2 p3 p4 p5)), .val (.int (v0_3 p1 p2 p3 p4 p5)), .val (.int (v0_4 p1 p2 p3 p4 p5)), .val (.int (v0_5 p1 p2 p3 p4 p5)), .unset, .unset, .unset, .unset] [(.ref b6), (.ref b6)])
  refine Go.callI X6 hx hZ rfl hown (hw _ (List.mem_of_getElem? (i := 4) rfl)) (hw _ (List.mem_of_getElem? (i := 5) rfl)) (hw _ (List.mem_of_getElem? (i := 3) rfl)) (hw _ (List.mem_of_getElem? (i := 6) rfl)) (by decide) e6 (rm1 l Z a0 hw [] b6 h6 n0 Z0 E_b6 F_b6_units F_b6_length g_b6) (V := 1) (by decide) (by decide) (by decide) (by decide) (by rw [hml]; rfl) (argsL := []) (rest := [(.ref b6)]) rfl (lenOf pd___V rfl) rfl (Nat.le_of_ble_eq_true rfl) (hb hby at_33) ?_
  rintro T7 _ M7 ⟨b7, rfl, N7, K7, s_b7, F_b6_units, F_b6_length, A_b7⟩ X7
  obtain ⟨L7, zq7⟩ : ∃ z, z = [] ++ M7 := ⟨_, rfl⟩
  have N := Fr.app N N7
  rw [← zq7] at X7 N
  have ne_b6_b7 : b6 ≠ b7 := Nat.ne_of_lt (Nat.lt_of_lt_of_le E_b6.lt s_b7)
  have g_b7 : n0 ≤ b7 := Nat.le_trans Z0 s_b7
  have s_b7 : h0.size ≤ b7 := Nat.le_trans K.1 s_b7
  have E_b6 := E_b6.keep K7
  have K := K.trans K7 (by
    intro x hx
    simp only [List.mem_cons, List.not_mem_nil, or_false] at hx
    rcases hx with rfl
    · exact Or.inr s_b6)
  have Z0 := Nat.le_trans Z0 K7.1
  show Go p e below W T7 (mkF m 36 #[.val (.int p1), .val (.int p2), .val (.int p3), .val (.int p4), .val (.int p5), .val (.int (v0_1 p1 p2 p3 p4 p5)), .val (.int (v0_2 p1 p2 p3 p4 p5)), .val (.int (v0_3 p1 p2 p3 p4 p5)), .val (.int (v0_4 p1 p2 p3 p4 p5)), .val (.int (v0_5 p1 p2 p3 p4 p5)), .unset, .unset, .unset, .unset] [(.ref b6)])
  refine Go.of (fun _ k => XS.astore X7.here hx rfl (hb hby at_36) rfl rfl (l' := #[.val (.int p1), .val (.int p2), .val (.int p3), .val (.int p4), .val (.int p5), .val (.int (v0_1 p1 p2 p3 p4 p5)), .val (.int (v0_2 p1 p2 p3 p4 p5)), .val (.int (v0_3 p1 p2 p3 p4 p5)), .val (.int (v0_4 p1 p2 p3 p4 p5)), .val (.int (v0_5 p1 p2 p3 p4 p5)), .val (.ref b6), .unset, .unset, .unset]) rfl k) ?_
  show Go p e below W T7 (mkF m 38 #[.val (.int p1), .val (.int p2), .val (.int p3), .val (.int p4), .val (.int p5), .val (.int (v0_1 p1 p2 p3 p4 p5)), .val (.int (v0_2 p1 p2 p3 p4 p5)), .val (.int (v0_3 p1 p2 p3 p4 p5)), .val (.int (v0_4 p1 p2 p3 p4 p5)), .val (.int (v0_5 p1 p2 p3 p4 p5)), .val (.ref b6), .unset, .unset, .unset] [])
  refine Go.of (fun _ k => XS.aload X7.here hx rfl (hb hby at_38) rfl rfl k) ?_
  show Go p e below W T7 (mkF m 40 #[.val (.int p1), .val (.int p2), .val (.int p3), .val (.int p4), .val (.int p5), .val (.int (v0_1 p1 p2 p3 p4 p5)), .val (.int (v0_2 p1 p2 p3 p4 p5)), .val (.int (v0_3 p1 p2 p3 p4 p5)), .val (.int (v0_4 p1 p2 p3 p4 p5)), .val (.int (v0_5 p1 p2 p3 p4 p5)), .val (.ref b6), .unset, .unset, .unset] [(.ref b6)])
  refine Go.of (fun _ k => XS.iload X7.here hx rfl (hb hby at_40) rfl k) ?_
  show Go p e below W T7 (mkF m 42 #[.val (.int p1), .val (.int p2), .val (.int p3), .val (.int p4), .val (.int p5), .val (.int (v0_1 p1 p2 p3 p4 p5)), .val (.int (v0_2 p1 p2 p3 p4 p5)), .val (.int (v0_3 p1 p2 p3 p4 p5)), .val (.int (v0_4 p1 p2 p3 p4 p5)), .val (.int (v0_5 p1 p2 p3 p4 p5)), .val (.ref b6), .unset, .unset, .unset] [(.int (v0_1 p1 p2 p3 p4 p5)), (.ref b6)])
  refine Go.callV X7 hx hZ hown (hw _ (List.mem_of_getElem? (i := 13) rfl)) (hw _ (List.mem_of_getElem? (i := 14) rfl)) (hw _ (List.mem_of_getElem? (i := 16) rfl)) (hw _ (List.mem_of_getElem? (i := 15) rfl)) (hw _ (List.mem_of_getElem? (i := 3) rfl)) (hw _ (List.mem_of_getElem? (i := 17) rfl)) (by decide) rfl E_b6 (rm3 l Z a0 hw [] b6 (v0_1 p1 p2 p3 p4 p5) (0 : Int32) b7 f1_nu T7.heap n0 Z0 E_b6 F_b6_length F_b6_units A_b7 g_b6 g_b7 ne_b6_b7 own_sm0) (V := 0) (by decide) (by decide) (by decide) (by decide) (by rw [hml]; rfl) (argsL := [(.int (v0_1 p1 p2 p3 p4 p5))]) (rest := []) rfl (lenOf pd__C_Lcom_example_tok6_tok6_TextBuffer_ rfl) rfl (Nat.le_of_ble_eq_true rfl) (hb hby at_42) ?_
  rintro T8 _ M8 ⟨rfl, N8, K8, F_b6_length, F_b6_units, A_b7⟩ X8
  obtain ⟨L8, zq8⟩ : ∃ z, z = L7 ++ M8 := ⟨_, rfl⟩
  have N := Fr.app N N8
  rw [← zq8] at X8 N
  have E_b6 := E_b6.keep K8
  have K := K.trans K8 (by
    intro x hx
    simp only [List.mem_cons, List.not_mem_nil, or_false] at hx
    rcases hx with rfl | rfl
    · exact Or.inr s_b6
    · exact Or.inr s_b7)
  have Z0 := Nat.le_trans Z0 K8.1
  show Go p e below W T8 (mkF m 45 #[.val (.int p1), .val (.int p2), .val (.int p3), .val (.int p4), .val (.int p5), .val (.int (v0_1 p1 p2 p3 p4 p5)), .val (.int (v0_2 p1 p2 p3 p4 p5)), .val (.int (v0_3 p1 p2 p3 p4 p5)), .val (.int (v0_4 p1 p2 p3 p4 p5)), .val (.int (v0_5 p1 p2 p3 p4 p5)), .val (.ref b6), .unset, .unset, .unset] [(.ref b6)])
  refine Go.of (fun _ k => XS.pop X8.here hx rfl (hb hby at_45) rfl rfl k) ?_
  show Go p e below W T8 (mkF m 46 #[.val (.int p1), .val (.int p2), .val (.int p3), .val (.int p4), .val (.int p5), .val (.int (v0_1 p1 p2 p3 p4 p5)), .val (.int (v0_2 p1 p2 p3 p4 p5)), .val (.int (v0_3 p1 p2 p3 p4 p5)), .val (.int (v0_4 p1 p2 p3 p4 p5)), .val (.int (v0_5 p1 p2 p3 p4 p5)), .val (.ref b6), .unset, .unset, .unset] [])
  refine Go.of (fun _ k => XS.aload X8.here hx rfl (hb hby at_46) rfl rfl k) ?_
  show Go p e below W T8 (mkF m 48 #[.val (.int p1), .val (.int p2), .val (.int p3), .val (.int p4), .val (.int p5), .val (.int (v0_1 p1 p2 p3 p4 p5)), .val (.int (v0_2 p1 p2 p3 p4 p5)), .val (.int (v0_3 p1 p2 p3 p4 p5)), .val (.int (v0_4 p1 p2 p3 p4 p5)), .val (.int (v0_5 p1 p2 p3 p4 p5)), .val (.ref b6), .unset, .unset, .unset] [(.ref b6)])
  refine Go.of (fun _ k => XS.iload X8.here hx rfl (hb hby at_48) rfl k) ?_
  show Go p e below W T8 (mkF m 50 #[.val (.int p1), .val (.int p2), .val (.int p3), .val (.int p4), .val (.int p5), .val (.int (v0_1 p1 p2 p3 p4 p5)), .val (.int (v0_2 p1 p2 p3 p4 p5)), .val (.int (v0_3 p1 p2 p3 p4 p5)), .val (.int (v0_4 p1 p2 p3 p4 p5)), .val (.int (v0_5 p1 p2 p3 p4 p5)), .val (.ref b6), .unset, .unset, .unset] [(.int (v0_2 p1 p2 p3 p4 p5)), (.ref b6)])
  refine Go.callV X8 hx hZ hown (hw _ (List.mem_of_getElem? (i := 13) rfl)) (hw _ (List.mem_of_getElem? (i := 14) rfl)) (hw _ (List.mem_of_getElem? (i := 16) rfl)) (hw _ (List.mem_of_getElem? (i := 15) rfl)) (hw _ (List.mem_of_getElem? (i := 3) rfl)) (hw _ (List.mem_of_getElem? (i := 17) rfl)) (by decide) rfl E_b6 (rm3 l Z a0 hw [] b6 (v0_2 p1 p2 p3 p4 p5) (f3_length (v0_1 p1 p2 p3 p4 p5) (0 : Int32) f1_nu) b7 (f3_au (v0_1 p1 p2 p3 p4 p5) (0 : Int32) f1_nu) T8.heap n0 Z0 E_b6 F_b6_length F_b6_units A_b7 g_b6 g_b7 ne_b6_b7 own_sm1) (V := 0) (by decide) (by decide) (by decide) (by decide) (by rw [hml]; rfl) (argsL := [(.int (v0_2 p1 p2 p3 p4 p5))]) (rest := []) rfl (lenOf pd__C_Lcom_example_tok6_tok6_TextBuffer_ rfl) rfl (Nat.le_of_ble_eq_true rfl) (hb hby at_50) ?_
  rintro T9 _ M9 ⟨rfl, N9, K9, F_b6_length, F_b6_units, A_b7⟩ X9
  obtain ⟨L9, zq9⟩ : ∃ z, z = L8 ++ M9 := ⟨_, rfl⟩
  have N := Fr.app N N9
  rw [← zq9] at X9 N
  have E_b6 := E_b6.keep K9
  have K := K.trans K9 (by
    intro x hx
    simp only [List.mem_cons, List.not_mem_nil, or_false] at hx
    rcases hx with rfl | rfl
    · exact Or.inr s_b6
    · exact Or.inr s_b7)
  have Z0 := Nat.le_trans Z0 K9.1
  show Go p e below W T9 (mkF m 53 #[.val (.int p1), .val (.int p2), .val (.int p3), .val (.int p4), .val (.int p5), .val (.int (v0_1 p1 p2 p3 p4 p5)), .val (.int (v0_2 p1 p2 p3 p4 p5)), .val (.int (v0_3 p1 p2 p3 p4 p5)), .val (.int (v0_4 p1 p2 p3 p4 p5)), .val (.int (v0_5 p1 p2 p3 p4 p5)), .val (.ref b6), .unset, .unset, .unset] [(.ref b6)])
  refine Go.of (fun _ k => XS.pop X9.here hx rfl (hb hby at_53) rfl rfl k) ?_
  show Go p e below W T9 (mkF m 54 #[.val (.int p1), .val (.int p2), .val (.int p3), .val (.int p4), .val (.int p5), .val (.int (v0_1 p1 p2 p3 p4 p5)), .val (.int (v0_2 p1 p2 p3 p4 p5)), .val (.int (v0_3 p1 p2 p3 p4 p5)), .val (.int (v0_4 p1 p2 p3 p4 p5)), .val (.int (v0_5 p1 p2 p3 p4 p5)), .val (.ref b6), .unset, .unset, .unset] [])
  refine Go.of (fun _ k => XS.aload X9.here hx rfl (hb hby at_54) rfl rfl k) ?_
  show Go p e below W T9 (mkF m 56 #[.val (.int p1), .val (.int p2), .val (.int p3), .val (.int p4), .val (.int p5), .val (.int (v0_1 p1 p2 p3 p4 p5)), .val (.int (v0_2 p1 p2 p3 p4 p5)), .val (.int (v0_3 p1 p2 p3 p4 p5)), .val (.int (v0_4 p1 p2 p3 p4 p5)), .val (.int (v0_5 p1 p2 p3 p4 p5)), .val (.ref b6), .unset, .unset, .unset] [(.ref b6)])
  refine Go.of (fun _ k => XS.iload X9.here hx rfl (hb hby at_56) rfl k) ?_
  show Go p e below W T9 (mkF m 58 #[.val (.int p1), .val (.int p2), .val (.int p3), .val (.int p4), .val (.int p5), .val (.int (v0_1 p1 p2 p3 p4 p5)), .val (.int (v0_2 p1 p2 p3 p4 p5)), .val (.int (v0_3 p1 p2 p3 p4 p5)), .val (.int (v0_4 p1 p2 p3 p4 p5)), .val (.int (v0_5 p1 p2 p3 p4 p5)), .val (.ref b6), .unset, .unset, .unset] [(.int (v0_3 p1 p2 p3 p4 p5)), (.ref b6)])
  refine Go.callV X9 hx hZ hown (hw _ (List.mem_of_getElem? (i := 13) rfl)) (hw _ (List.mem_of_getElem? (i := 14) rfl)) (hw _ (List.mem_of_getElem? (i := 16) rfl)) (hw _ (List.mem_of_getElem? (i := 15) rfl)) (hw _ (List.mem_of_getElem? (i := 3) rfl)) (hw _ (List.mem_of_getElem? (i := 17) rfl)) (by decide) rfl E_b6 (rm3 l Z a0 hw [] b6 (v0_3 p1 p2 p3 p4 p5) (f3_length (v0_2 p1 p2 p3 p4 p5) (f3_length (v0_1 p1 p2 p3 p4 p5) (0 : Int32) f1_nu) (f3_au (v0_1 p1 p2 p3 p4 p5) (0 : Int32) f1_nu)) b7 (f3_au (v0_2 p1 p2 p3 p4 p5) (f3_length (v0_1 p1 p2 p3 p4 p5) (0 : Int32) f1_nu) (f3_au (v0_1 p1 p2 p3 p4 p5) (0 : Int32) f1_nu)) T9.heap n0 Z0 E_b6 F_b6_length F_b6_units A_b7 g_b6 g_b7 ne_b6_b7 own_sm2) (V := 0) (by decide) (by decide) (by decide) (by decide) (by rw [hml]; rfl) (argsL := [(.int (v0_3 p1 p2 p3 p4 p5))]) (rest := []) rfl (lenOf pd__C_Lcom_example_tok6_tok6_TextBuffer_ rfl) rfl (Nat.le_of_ble_eq_true rfl) (hb hby at_58) ?_
  rintro T10 _ M10 ⟨rfl, N10, K10, F_b6_length, F_b6_units, A_b7⟩ X10
  obtain ⟨L10, zq10⟩ : ∃ z, z = L9 ++ M10 := ⟨_, rfl⟩
  have N := Fr.app N N10
  rw [← zq10] at X10 N
  have E_b6 := E_b6.keep K10
  have K := K.trans K10 (by
    intro x hx
    simp only [List.mem_cons, List.not_mem_nil, or_false] at hx
    rcases hx with rfl | rfl
    · exact Or.inr s_b6
    · exact Or.inr s_b7)
  have Z0 := Nat.le_trans Z0 K10.1
  show Go p e below W T10 (mkF m 61 #[.val (.int p1), .val (.int p2), .val (.int p3), .val (.int p4), .val (.int p5), .val (.int (v0_1 p1 p2 p3 p4 p5)), .val (.int (v0_2 p1 p2 p3 p4 p5)), .val (.int (v0_3 p1 p2 p3 p4 p5)), .val (.int (v0_4 p1 p2 p3 p4 p5)), .val (.int (v0_5 p1 p2 p3 p4 p5)), .val (.ref b6), .unset, .unset, .unset] [(.ref b6)])
  refine Go.of (fun _ k => XS.pop X10.here hx rfl (hb hby at_61) rfl rfl k) ?_
  show Go p e below W T10 (mkF m 62 #[.val (.int p1), .val (.int p2), .val (.int p3), .val (.int p4), .val (.int p5), .val (.int (v0_1 p1 p2 p3 p4 p5)), .val (.int (v0_2 p1 p2 p3 p4 p5)), .val (.int (v0_3 p1 p2 p3 p4 p5)), .val (.int (v0_4 p1 p2 p3 p4 p5)), .val (.int (v0_5 p1 p2 p3 p4 p5)), .val (.ref b6), .unset, .unset, .unset] [])
  refine Go.of (fun _ k => XS.aload X10.here hx rfl (hb hby at_62) rfl rfl k) ?_
  show Go p e below W T10 (mkF m 64 #[.val (.int p1), .val (.int p2), .val (.int p3), .val (.int p4), .val (.int p5), .val (.int (v0_1 p1 p2 p3 p4 p5)), .val (.int (v0_2 p1 p2 p3 p4 p5)), .val (.int (v0_3 p1 p2 p3 p4 p5)), .val (.int (v0_4 p1 p2 p3 p4 p5)), .val (.int (v0_5 p1 p2 p3 p4 p5)), .val (.ref b6), .unset, .unset, .unset] [(.ref b6)])
  refine Go.of (fun _ k => XS.iload X10.here hx rfl (hb hby at_64) rfl k) ?_
  show Go p e below W T10 (mkF m 66 #[.val (.int p1), .val (.int p2), .val (.int p3), .val (.int p4), .val (.int p5), .val (.int (v0_1 p1 p2 p3 p4 p5)), .val (.int (v0_2 p1 p2 p3 p4 p5)), .val (.int (v0_3 p1 p2 p3 p4 p5)), .val (.int (v0_4 p1 p2 p3 p4 p5)), .val (.int (v0_5 p1 p2 p3 p4 p5)), .val (.ref b6), .unset, .unset, .unset] [(.int (v0_4 p1 p2 p3 p4 p5)), (.ref b6)])
  refine Go.of (fun _ k => XS.iload X10.here hx rfl (hb hby at_66) rfl k) ?_
  show Go p e below W T10 (mkF m 68 #[.val (.int p1), .val (.int p2), .val (.int p3), .val (.int p4), .val (.int p5), .val (.int (v0_1 p1 p2 p3 p4 p5)), .val (.int (v0_2 p1 p2 p3 p4 p5)), .val (.int (v0_3 p1 p2 p3 p4 p5)), .val (.int (v0_4 p1 p2 p3 p4 p5)), .val (.int (v0_5 p1 p2 p3 p4 p5)), .val (.ref b6), .unset, .unset, .unset] [(.int (v0_5 p1 p2 p3 p4 p5)), (.int (v0_4 p1 p2 p3 p4 p5)), (.ref b6)])
  refine Go.callV X10 hx hZ hown (hw _ (List.mem_of_getElem? (i := 28) rfl)) (hw _ (List.mem_of_getElem? (i := 29) rfl)) (hw _ (List.mem_of_getElem? (i := 31) rfl)) (hw _ (List.mem_of_getElem? (i := 30) rfl)) (hw _ (List.mem_of_getElem? (i := 3) rfl)) (hw _ (List.mem_of_getElem? (i := 32) rfl)) (by decide) rfl E_b6 (rm6 l Z a0 hw [] b6 (v0_4 p1 p2 p3 p4 p5) (v0_5 p1 p2 p3 p4 p5) b7 (f3_au (v0_3 p1 p2 p3 p4 p5) (f3_length (v0_2 p1 p2 p3 p4 p5) (f3_length (v0_1 p1 p2 p3 p4 p5) (0 : Int32) f1_nu) (f3_au (v0_1 p1 p2 p3 p4 p5) (0 : Int32) f1_nu)) (f3_au (v0_2 p1 p2 p3 p4 p5) (f3_length (v0_1 p1 p2 p3 p4 p5) (0 : Int32) f1_nu) (f3_au (v0_1 p1 p2 p3 p4 p5) (0 : Int32) f1_nu))) T10.heap F_b6_units A_b7 (own_hq p1 p2 p3 p4 p5)) (V := 0) (by decide) (by decide) (by decide) (by decide) (by rw [hml]; rfl) (argsL := [(.int (v0_4 p1 p2 p3 p4 p5)), (.int (v0_5 p1 p2 p3 p4 p5))]) (rest := []) rfl (lenOf pd__II_I rfl) rfl (Nat.le_of_ble_eq_true rfl) (hb hby at_68) ?_
  rintro T11 _ _ ⟨rfl, rfl, e11⟩ X11
  rw [List.append_nil] at X11
  show Go p e below W T11 (mkF m 71 #[.val (.int p1), .val (.int p2), .val (.int p3), .val (.int p4), .val (.int p5), .val (.int (v0_1 p1 p2 p3 p4 p5)), .val (.int (v0_2 p1 p2 p3 p4 p5)), .val (.int (v0_3 p1 p2 p3 p4 p5)), .val (.int (v0_4 p1 p2 p3 p4 p5)), .val (.int (v0_5 p1 p2 p3 p4 p5)), .val (.ref b6), .unset, .unset, .unset] [(.int (f6 (v0_4 p1 p2 p3 p4 p5) (v0_5 p1 p2 p3 p4 p5) (f3_au (v0_3 p1 p2 p3 p4 p5) (f3_length (v0_2 p1 p2 p3 p4 p5) (f3_length (v0_1 p1 p2 p3 p4 p5) (0 : Int32) f1_nu) (f3_au (v0_1 p1 p2 p3 p4 p5) (0 : Int32) f1_nu)) (f3_au (v0_2 p1 p2 p3 p4 p5) (f3_length (v0_1 p1 p2 p3 p4 p5) (0 : Int32) f1_nu) (f3_au (v0_1 p1 p2 p3 p4 p5) (0 : Int32) f1_nu)))))])
  refine Go.of (fun _ k => XS.istore X11.here hx rfl (hb hby at_71) rfl (l' := #[.val (.int p1), .val (.int p2), .val (.int p3), .val (.int p4), .val (.int p5), .val (.int (v0_1 p1 p2 p3 p4 p5)), .val (.int (v0_2 p1 p2 p3 p4 p5)), .val (.int (v0_3 p1 p2 p3 p4 p5)), .val (.int (v0_4 p1 p2 p3 p4 p5)), .val (.int (v0_5 p1 p2 p3 p4 p5)), .val (.ref b6), .val (.int (v0_12 p1 p2 p3 p4 p5)), .unset, .unset]) rfl k) ?_
  show Go p e below W T11 (mkF m 73 #[.val (.int p1), .val (.int p2), .val (.int p3), .val (.int p4), .val (.int p5), .val (.int (v0_1 p1 p2 p3 p4 p5)), .val (.int (v0_2 p1 p2 p3 p4 p5)), .val (.int (v0_3 p1 p2 p3 p4 p5)), .val (.int (v0_4 p1 p2 p3 p4 p5)), .val (.int (v0_5 p1 p2 p3 p4 p5)), .val (.ref b6), .val (.int (v0_12 p1 p2 p3 p4 p5)), .unset, .unset] [])
  refine Go.of (fun _ k => XS.iconst X11.here hx rfl (hb hby at_73) k) ?_
  show Go p e below W T11 (mkF m 74 #[.val (.int p1), .val (.int p2), .val (.int p3), .val (.int p4), .val (.int p5), .val (.int (v0_1 p1 p2 p3 p4 p5)), .val (.int (v0_2 p1 p2 p3 p4 p5)), .val (.int (v0_3 p1 p2 p3 p4 p5)), .val (.int (v0_4 p1 p2 p3 p4 p5)), .val (.int (v0_5 p1 p2 p3 p4 p5)), .val (.ref b6), .val (.int (v0_12 p1 p2 p3 p4 p5)), .unset, .unset] [(.int (0 : Int32))])
  refine Go.of (fun _ k => XS.istore X11.here hx rfl (hb hby at_74) rfl (l' := #[.val (.int p1), .val (.int p2), .val (.int p3), .val (.int p4), .val (.int p5), .val (.int (v0_1 p1 p2 p3 p4 p5)), .val (.int (v0_2 p1 p2 p3 p4 p5)), .val (.int (v0_3 p1 p2 p3 p4 p5)), .val (.int (v0_4 p1 p2 p3 p4 p5)), .val (.int (v0_5 p1 p2 p3 p4 p5)), .val (.ref b6), .val (.int (v0_12 p1 p2 p3 p4 p5)), .val (.int (0 : Int32)), .unset]) rfl k) ?_
  show Go p e below W T11 (mkF m 76 #[.val (.int p1), .val (.int p2), .val (.int p3), .val (.int p4), .val (.int p5), .val (.int (v0_1 p1 p2 p3 p4 p5)), .val (.int (v0_2 p1 p2 p3 p4 p5)), .val (.int (v0_3 p1 p2 p3 p4 p5)), .val (.int (v0_4 p1 p2 p3 p4 p5)), .val (.int (v0_5 p1 p2 p3 p4 p5)), .val (.ref b6), .val (.int (v0_12 p1 p2 p3 p4 p5)), .val (.int (0 : Int32)), .unset] [])
  refine Go.of (fun _ k => XS.iload X11.here hx rfl (hb hby at_76) rfl k) ?_
  show Go p e below W T11 (mkF m 78 #[.val (.int p1), .val (.int p2), .val (.int p3), .val (.int p4), .val (.int p5), .val (.int (v0_1 p1 p2 p3 p4 p5)), .val (.int (v0_2 p1 p2 p3 p4 p5)), .val (.int (v0_3 p1 p2 p3 p4 p5)), .val (.int (v0_4 p1 p2 p3 p4 p5)), .val (.int (v0_5 p1 p2 p3 p4 p5)), .val (.ref b6), .val (.int (v0_12 p1 p2 p3 p4 p5)), .val (.int (0 : Int32)), .unset] [(.int (0 : Int32))])
  refine Go.of (fun _ k => XS.iload X11.here hx rfl (hb hby at_78) rfl k) ?_
  show Go p e below W T11 (mkF m 80 #[.val (.int p1), .val (.int p2), .val (.int p3), .val (.int p4), .val (.int p5), .val (.int (v0_1 p1 p2 p3 p4 p5)), .val (.int (v0_2 p1 p2 p3 p4 p5)), .val (.int (v0_3 p1 p2 p3 p4 p5)), .val (.int (v0_4 p1 p2 p3 p4 p5)), .val (.int (v0_5 p1 p2 p3 p4 p5)), .val (.ref b6), .val (.int (v0_12 p1 p2 p3 p4 p5)), .val (.int (0 : Int32)), .unset] [(.int (v0_4 p1 p2 p3 p4 p5)), (.int (0 : Int32))])
  refine Go.of (fun _ k => XS.iload X11.here hx rfl (hb hby at_80) rfl k) ?_
  show Go p e below W T11 (mkF m 82 #[.val (.int p1), .val (.int p2), .val (.int p3), .val (.int p4), .val (.int p5), .val (.int (v0_1 p1 p2 p3 p4 p5)), .val (.int (v0_2 p1 p2 p3 p4 p5)), .val (.int (v0_3 p1 p2 p3 p4 p5)), .val (.int (v0_4 p1 p2 p3 p4 p5)), .val (.int (v0_5 p1 p2 p3 p4 p5)), .val (.ref b6), .val (.int (v0_12 p1 p2 p3 p4 p5)), .val (.int (0 : Int32)), .unset] [(.int (v0_5 p1 p2 p3 p4 p5)), (.int (v0_4 p1 p2 p3 p4 p5)), (.int (0 : Int32))])
  refine Go.of (fun _ k => XS.iconst X11.here hx rfl (hb hby at_82) k) ?_
  show Go p e below W T11 (mkF m 83 #[.val (.int p1), .val (.int p2), .val (.int p3), .val (.int p4), .val (.int p5), .val (.int (v0_1 p1 p2 p3 p4 p5)), .val (.int (v0_2 p1 p2 p3 p4 p5)), .val (.int (v0_3 p1 p2 p3 p4 p5)), .val (.int (v0_4 p1 p2 p3 p4 p5)), .val (.int (v0_5 p1 p2 p3 p4 p5)), .val (.ref b6), .val (.int (v0_12 p1 p2 p3 p4 p5)), .val (.int (0 : Int32)), .unset] [(.int (0 : Int32)), (.int (v0_5 p1 p2 p3 p4 p5)), (.int (v0_4 p1 p2 p3 p4 p5)), (.int (0 : Int32))])
  refine Go.of (fun _ k => XS.iload X11.here hx rfl (hb hby at_83) rfl k) ?_
  show Go p e below W T11 (mkF m 85 #[.val (.int p1), .val (.int p2), .val (.int p3), .val (.int p4), .val (.int p5), .val (.int (v0_1 p1 p2 p3 p4 p5)), .val (.int (v0_2 p1 p2 p3 p4 p5)), .val (.int (v0_3 p1 p2 p3 p4 p5)), .val (.int (v0_4 p1 p2 p3 p4 p5)), .val (.int (v0_5 p1 p2 p3 p4 p5)), .val (.ref b6), .val (.int (v0_12 p1 p2 p3 p4 p5)), .val (.int (0 : Int32)), .unset] [(.int (v0_1 p1 p2 p3 p4 p5)), (.int (0 : Int32)), (.int (v0_5 p1 p2 p3 p4 p5)), (.int (v0_4 p1 p2 p3 p4 p5)), (.int (0 : Int32))])
  refine Go.callP X11 hx hZ hown (hw _ (List.mem_of_getElem? (i := 34) rfl)) (hw _ (List.mem_of_getElem? (i := 35) rfl)) (hw _ (List.mem_of_getElem? (i := 36) rfl)) (hw _ (List.mem_of_getElem? (i := 37) rfl)) (by decide) e11 (rm7 l Z a0 hw [] (0 : Int32) (v0_4 p1 p2 p3 p4 p5) (v0_5 p1 p2 p3 p4 p5) (0 : Int32) (v0_1 p1 p2 p3 p4 p5) T10.heap) (V := 0) (by decide) (by decide) rfl rfl (by decide) (by decide) (by rw [hml]; rfl) (argsL := [(.int (0 : Int32)), (.int (v0_4 p1 p2 p3 p4 p5)), (.int (v0_5 p1 p2 p3 p4 p5)), (.int (0 : Int32)), (.int (v0_1 p1 p2 p3 p4 p5))]) (rest := []) rfl (lenOf pd__IIIIC_I rfl) rfl (Nat.le_of_ble_eq_true rfl) (hb hby at_85) ?_
  intro T13 X13 e13
  show Go p e below W T13 (mkF m 88 #[.val (.int p1), .val (.int p2), .val (.int p3), .val (.int p4), .val (.int p5), .val (.int (v0_1 p1 p2 p3 p4 p5)), .val (.int (v0_2 p1 p2 p3 p4 p5)), .val (.int (v0_3 p1 p2 p3 p4 p5)), .val (.int (v0_4 p1 p2 p3 p4 p5)), .val (.int (v0_5 p1 p2 p3 p4 p5)), .val (.ref b6), .val (.int (v0_12 p1 p2 p3 p4 p5)), .val (.int (0 : Int32)), .unset] [(.int (f7 (0 : Int32) (v0_4 p1 p2 p3 p4 p5) (v0_5 p1 p2 p3 p4 p5) (0 : Int32) (v0_1 p1 p2 p3 p4 p5)))])
  refine Go.of (fun _ k => XS.istore X13.here hx rfl (hb hby at_88) rfl (l' := #[.val (.int p1), .val (.int p2), .val (.int p3), .val (.int p4), .val (.int p5), .val (.int (v0_1 p1 p2 p3 p4 p5)), .val (.int (v0_2 p1 p2 p3 p4 p5)), .val (.int (v0_3 p1 p2 p3 p4 p5)), .val (.int (v0_4 p1 p2 p3 p4 p5)), .val (.int (v0_5 p1 p2 p3 p4 p5)), .val (.ref b6), .val (.int (v0_12 p1 p2 p3 p4 p5)), .val (.int (v0_14 p1 p2 p3 p4 p5)), .unset]) rfl k) ?_
  show Go p e below W T13 (mkF m 90 #[.val (.int p1), .val (.int p2), .val (.int p3), .val (.int p4), .val (.int p5), .val (.int (v0_1 p1 p2 p3 p4 p5)), .val (.int (v0_2 p1 p2 p3 p4 p5)), .val (.int (v0_3 p1 p2 p3 p4 p5)), .val (.int (v0_4 p1 p2 p3 p4 p5)), .val (.int (v0_5 p1 p2 p3 p4 p5)), .val (.ref b6), .val (.int (v0_12 p1 p2 p3 p4 p5)), .val (.int (v0_14 p1 p2 p3 p4 p5)), .unset] [])
  refine Go.of (fun _ k => XS.iload X13.here hx rfl (hb hby at_90) rfl k) ?_
  show Go p e below W T13 (mkF m 92 #[.val (.int p1), .val (.int p2), .val (.int p3), .val (.int p4), .val (.int p5), .val (.int (v0_1 p1 p2 p3 p4 p5)), .val (.int (v0_2 p1 p2 p3 p4 p5)), .val (.int (v0_3 p1 p2 p3 p4 p5)), .val (.int (v0_4 p1 p2 p3 p4 p5)), .val (.int (v0_5 p1 p2 p3 p4 p5)), .val (.ref b6), .val (.int (v0_12 p1 p2 p3 p4 p5)), .val (.int (v0_14 p1 p2 p3 p4 p5)), .unset] [(.int (v0_14 p1 p2 p3 p4 p5))])
  refine Go.of (fun _ k => XS.iload X13.here hx rfl (hb hby at_92) rfl k) ?_
  show Go p e below W T13 (mkF m 94 #[.val (.int p1), .val (.int p2), .val (.int p3), .val (.int p4), .val (.int p5), .val (.int (v0_1 p1 p2 p3 p4 p5)), .val (.int (v0_2 p1 p2 p3 p4 p5)), .val (.int (v0_3 p1 p2 p3 p4 p5)), .val (.int (v0_4 p1 p2 p3 p4 p5)), .val (.int (v0_5 p1 p2 p3 p4 p5)), .val (.ref b6), .val (.int (v0_12 p1 p2 p3 p4 p5)), .val (.int (v0_14 p1 p2 p3 p4 p5)), .unset] [(.int (v0_4 p1 p2 p3 p4 p5)), (.int (v0_14 p1 p2 p3 p4 p5))])
  refine Go.of (fun _ k => XS.iload X13.here hx rfl (hb hby at_94) rfl k) ?_
  show Go p e below W T13 (mkF m 96 #[.val (.int p1), .val (.int p2), .val (.int p3), .val (.int p4), .val (.int p5), .val (.int (v0_1 p1 p2 p3 p4 p5)), .val (.int (v0_2 p1 p2 p3 p4 p5)), .val (.int (v0_3 p1 p2 p3 p4 p5)), .val (.int (v0_4 p1 p2 p3 p4 p5)), .val (.int (v0_5 p1 p2 p3 p4 p5)), .val (.ref b6), .val (.int (v0_12 p1 p2 p3 p4 p5)), .val (.int (v0_14 p1 p2 p3 p4 p5)), .unset] [(.int (v0_5 p1 p2 p3 p4 p5)), (.int (v0_4 p1 p2 p3 p4 p5)), (.int (v0_14 p1 p2 p3 p4 p5))])
  refine Go.of (fun _ k => XS.iconst X13.here hx rfl (hb hby at_96) k) ?_
  show Go p e below W T13 (mkF m 97 #[.val (.int p1), .val (.int p2), .val (.int p3), .val (.int p4), .val (.int p5), .val (.int (v0_1 p1 p2 p3 p4 p5)), .val (.int (v0_2 p1 p2 p3 p4 p5)), .val (.int (v0_3 p1 p2 p3 p4 p5)), .val (.int (v0_4 p1 p2 p3 p4 p5)), .val (.int (v0_5 p1 p2 p3 p4 p5)), .val (.ref b6), .val (.int (v0_12 p1 p2 p3 p4 p5)), .val (.int (v0_14 p1 p2 p3 p4 p5)), .unset] [(.int (1 : Int32)), (.int (v0_5 p1 p2 p3 p4 p5)), (.int (v0_4 p1 p2 p3 p4 p5)), (.int (v0_14 p1 p2 p3 p4 p5))])
  refine Go.of (fun _ k => XS.iload X13.here hx rfl (hb hby at_97) rfl k) ?_
  show Go p e below W T13 (mkF m 99 #[.val (.int p1), .val (.int p2), .val (.int p3), .val (.int p4), .val (.int p5), .val (.int (v0_1 p1 p2 p3 p4 p5)), .val (.int (v0_2 p1 p2 p3 p4 p5)), .val (.int (v0_3 p1 p2 p3 p4 p5)), .val (.int (v0_4 p1 p2 p3 p4 p5)), .val (.int (v0_5 p1 p2 p3 p4 p5)), .val (.ref b6), .val (.int (v0_12 p1 p2 p3 p4 p5)), .val (.int (v0_14 p1 p2 p3 p4 p5)), .unset] [(.int (v0_2 p1 p2 p3 p4 p5)), (.int (1 : Int32)), (.int (v0_5 p1 p2 p3 p4 p5)), (.int (v0_4 p1 p2 p3 p4 p5)), (.int (v0_14 p1 p2 p3 p4 p5))])
  refine Go.callP X13 hx hZ hown (hw _ (List.mem_of_getElem? (i := 34) rfl)) (hw _ (List.mem_of_getElem? (i := 35) rfl)) (hw _ (List.mem_of_getElem? (i := 36) rfl)) (hw _ (List.mem_of_getElem? (i := 37) rfl)) (by decide) e13 (rm7 l Z a0 hw [] (v0_14 p1 p2 p3 p4 p5) (v0_4 p1 p2 p3 p4 p5) (v0_5 p1 p2 p3 p4 p5) (1 : Int32) (v0_2 p1 p2 p3 p4 p5) T10.heap) (V := 0) (by decide) (by decide) rfl rfl (by decide) (by decide) (by rw [hml]; rfl) (argsL := [(.int (v0_14 p1 p2 p3 p4 p5)), (.int (v0_4 p1 p2 p3 p4 p5)), (.int (v0_5 p1 p2 p3 p4 p5)), (.int (1 : Int32)), (.int (v0_2 p1 p2 p3 p4 p5))]) (rest := []) rfl (lenOf pd__IIIIC_I rfl) rfl (Nat.le_of_ble_eq_true rfl) (hb hby at_99) ?_
  intro T15 X15 e15
  show Go p e below W T15 (mkF m 102 #[.val (.int p1), .val (.int p2), .val (.int p3), .val (.int p4), .val (.int p5), .val (.int (v0_1 p1 p2 p3 p4 p5)), .val (.int (v0_2 p1 p2 p3 p4 p5)), .val (.int (v0_3 p1 p2 p3 p4 p5)), .val (.int (v0_4 p1 p2 p3 p4 p5)), .val (.int (v0_5 p1 p2 p3 p4 p5)), .val (.ref b6), .val (.int (v0_12 p1 p2 p3 p4 p5)), .val (.int (v0_14 p1 p2 p3 p4 p5)), .unset] [(.int (f7 (v0_14 p1 p2 p3 p4 p5) (v0_4 p1 p2 p3 p4 p5) (v0_5 p1 p2 p3 p4 p5) (1 : Int32) (v0_2 p1 p2 p3 p4 p5)))])
  refine Go.of (fun _ k => XS.istore X15.here hx rfl (hb hby at_102) rfl (l' := #[.val (.int p1), .val (.int p2), .val (.int p3), .val (.int p4), .val (.int p5), .val (.int (v0_1 p1 p2 p3 p4 p5)), .val (.int (v0_2 p1 p2 p3 p4 p5)), .val (.int (v0_3 p1 p2 p3 p4 p5)), .val (.int (v0_4 p1 p2 p3 p4 p5)), .val (.int (v0_5 p1 p2 p3 p4 p5)), .val (.ref b6), .val (.int (v0_12 p1 p2 p3 p4 p5)), .val (.int (v0_16 p1 p2 p3 p4 p5)), .unset]) rfl k) ?_
  show Go p e below W T15 (mkF m 104 #[.val (.int p1), .val (.int p2), .val (.int p3), .val (.int p4), .val (.int p5), .val (.int (v0_1 p1 p2 p3 p4 p5)), .val (.int (v0_2 p1 p2 p3 p4 p5)), .val (.int (v0_3 p1 p2 p3 p4 p5)), .val (.int (v0_4 p1 p2 p3 p4 p5)), .val (.int (v0_5 p1 p2 p3 p4 p5)), .val (.ref b6), .val (.int (v0_12 p1 p2 p3 p4 p5)), .val (.int (v0_16 p1 p2 p3 p4 p5)), .unset] [])
  refine Go.of (fun _ k => XS.iload X15.here hx rfl (hb hby at_104) rfl k) ?_
  show Go p e below W T15 (mkF m 106 #[.val (.int p1), .val (.int p2), .val (.int p3), .val (.int p4), .val (.int p5), .val (.int (v0_1 p1 p2 p3 p4 p5)), .val (.int (v0_2 p1 p2 p3 p4 p5)), .val (.int (v0_3 p1 p2 p3 p4 p5)), .val (.int (v0_4 p1 p2 p3 p4 p5)), .val (.int (v0_5 p1 p2 p3 p4 p5)), .val (.ref b6), .val (.int (v0_12 p1 p2 p3 p4 p5)), .val (.int (v0_16 p1 p2 p3 p4 p5)), .unset] [(.int (v0_16 p1 p2 p3 p4 p5))])
  refine Go.of (fun _ k => XS.iload X15.here hx rfl (hb hby at_106) rfl k) ?_
  show Go p e below W T15 (mkF m 108 #[.val (.int p1), .val (.int p2), .val (.int p3), .val (.int p4), .val (.int p5), .val (.int (v0_1 p1 p2 p3 p4 p5)), .val (.int (v0_2 p1 p2 p3 p4 p5)), .val (.int (v0_3 p1 p2 p3 p4 p5)), .val (.int (v0_4 p1 p2 p3 p4 p5)), .val (.int (v0_5 p1 p2 p3 p4 p5)), .val (.ref b6), .val (.int (v0_12 p1 p2 p3 p4 p5)), .val (.int (v0_16 p1 p2 p3 p4 p5)), .unset] [(.int (v0_4 p1 p2 p3 p4 p5)), (.int (v0_16 p1 p2 p3 p4 p5))])
  refine Go.of (fun _ k => XS.iload X15.here hx rfl (hb hby at_108) rfl k) ?_
  show Go p e below W T15 (mkF m 110 #[.val (.int p1), .val (.int p2), .val (.int p3), .val (.int p4), .val (.int p5), .val (.int (v0_1 p1 p2 p3 p4 p5)), .val (.int (v0_2 p1 p2 p3 p4 p5)), .val (.int (v0_3 p1 p2 p3 p4 p5)), .val (.int (v0_4 p1 p2 p3 p4 p5)), .val (.int (v0_5 p1 p2 p3 p4 p5)), .val (.ref b6), .val (.int (v0_12 p1 p2 p3 p4 p5)), .val (.int (v0_16 p1 p2 p3 p4 p5)), .unset] [(.int (v0_5 p1 p2 p3 p4 p5)), (.int (v0_4 p1 p2 p3 p4 p5)), (.int (v0_16 p1 p2 p3 p4 p5))])
  refine Go.of (fun _ k => XS.iconst X15.here hx rfl (hb hby at_110) k) ?_
  show Go p e below W T15 (mkF m 111 #[.val (.int p1), .val (.int p2), .val (.int p3), .val (.int p4), .val (.int p5), .val (.int (v0_1 p1 p2 p3 p4 p5)), .val (.int (v0_2 p1 p2 p3 p4 p5)), .val (.int (v0_3 p1 p2 p3 p4 p5)), .val (.int (v0_4 p1 p2 p3 p4 p5)), .val (.int (v0_5 p1 p2 p3 p4 p5)), .val (.ref b6), .val (.int (v0_12 p1 p2 p3 p4 p5)), .val (.int (v0_16 p1 p2 p3 p4 p5)), .unset] [(.int (2 : Int32)), (.int (v0_5 p1 p2 p3 p4 p5)), (.int (v0_4 p1 p2 p3 p4 p5)), (.int (v0_16 p1 p2 p3 p4 p5))])
  refine Go.of (fun _ k => XS.iload X15.here hx rfl (hb hby at_111) rfl k) ?_
  show Go p e below W T15 (mkF m 113 #[.val (.int p1), .val (.int p2), .val (.int p3), .val (.int p4), .val (.int p5), .val (.int (v0_1 p1 p2 p3 p4 p5)), .val (.int (v0_2 p1 p2 p3 p4 p5)), .val (.int (v0_3 p1 p2 p3 p4 p5)), .val (.int (v0_4 p1 p2 p3 p4 p5)), .val (.int (v0_5 p1 p2 p3 p4 p5)), .val (.ref b6), .val (.int (v0_12 p1 p2 p3 p4 p5)), .val (.int (v0_16 p1 p2 p3 p4 p5)), .unset] [(.int (v0_3 p1 p2 p3 p4 p5)), (.int (2 : Int32)), (.int (v0_5 p1 p2 p3 p4 p5)), (.int (v0_4 p1 p2 p3 p4 p5)), (.int (v0_16 p1 p2 p3 p4 p5))])
  refine Go.callP X15 hx hZ hown (hw _ (List.mem_of_getElem? (i := 34) rfl)) (hw _ (List.mem_of_getElem? (i := 35) rfl)) (hw _ (List.mem_of_getElem? (i := 36) rfl)) (hw _ (List.mem_of_getElem? (i := 37) rfl)) (by decide) e15 (rm7 l Z a0 hw [] (v0_16 p1 p2 p3 p4 p5) (v0_4 p1 p2 p3 p4 p5) (v0_5 p1 p2 p3 p4 p5) (2 : Int32) (v0_3 p1 p2 p3 p4 p5) T10.heap) (V := 0) (by decide) (by decide) rfl rfl (by decide) (by decide) (by rw [hml]; rfl) (argsL := [(.int (v0_16 p1 p2 p3 p4 p5)), (.int (v0_4 p1 p2 p3 p4 p5)), (.int (v0_5 p1 p2 p3 p4 p5)), (.int (2 : Int32)), (.int (v0_3 p1 p2 p3 p4 p5))]) (rest := []) rfl (lenOf pd__IIIIC_I rfl) rfl (Nat.le_of_ble_eq_true rfl) (hb hby at_113) ?_
  intro T17 X17 e17
  show Go p e below W T17 (mkF m 116 #[.val (.int p1), .val (.int p2), .val (.int p3), .val (.int p4), .val (.int p5), .val (.int (v0_1 p1 p2 p3 p4 p5)), .val (.int (v0_2 p1 p2 p3 p4 p5)), .val (.int (v0_3 p1 p2 p3 p4 p5)), .val (.int (v0_4 p1 p2 p3 p4 p5)), .val (.int (v0_5 p1 p2 p3 p4 p5)), .val (.ref b6), .val (.int (v0_12 p1 p2 p3 p4 p5)), .val (.int (v0_16 p1 p2 p3 p4 p5)), .unset] [(.int (f7 (v0_16 p1 p2 p3 p4 p5) (v0_4 p1 p2 p3 p4 p5) (v0_5 p1 p2 p3 p4 p5) (2 : Int32) (v0_3 p1 p2 p3 p4 p5)))])
  refine Go.of (fun _ k => XS.istore X17.here hx rfl (hb hby at_116) rfl (l' := #[.val (.int p1), .val (.int p2), .val (.int p3), .val (.int p4), .val (.int p5), .val (.int (v0_1 p1 p2 p3 p4 p5)), .val (.int (v0_2 p1 p2 p3 p4 p5)), .val (.int (v0_3 p1 p2 p3 p4 p5)), .val (.int (v0_4 p1 p2 p3 p4 p5)), .val (.int (v0_5 p1 p2 p3 p4 p5)), .val (.ref b6), .val (.int (v0_12 p1 p2 p3 p4 p5)), .val (.int (v0_18 p1 p2 p3 p4 p5)), .unset]) rfl k) ?_
  show Go p e below W T17 (mkF m 118 #[.val (.int p1), .val (.int p2), .val (.int p3), .val (.int p4), .val (.int p5), .val (.int (v0_1 p1 p2 p3 p4 p5)), .val (.int (v0_2 p1 p2 p3 p4 p5)), .val (.int (v0_3 p1 p2 p3 p4 p5)), .val (.int (v0_4 p1 p2 p3 p4 p5)), .val (.int (v0_5 p1 p2 p3 p4 p5)), .val (.ref b6), .val (.int (v0_12 p1 p2 p3 p4 p5)), .val (.int (v0_18 p1 p2 p3 p4 p5)), .unset] [])
  refine Go.of (fun _ k => XS.iload X17.here hx rfl (hb hby at_118) rfl k) ?_
  show Go p e below W T17 (mkF m 120 #[.val (.int p1), .val (.int p2), .val (.int p3), .val (.int p4), .val (.int p5), .val (.int (v0_1 p1 p2 p3 p4 p5)), .val (.int (v0_2 p1 p2 p3 p4 p5)), .val (.int (v0_3 p1 p2 p3 p4 p5)), .val (.int (v0_4 p1 p2 p3 p4 p5)), .val (.int (v0_5 p1 p2 p3 p4 p5)), .val (.ref b6), .val (.int (v0_12 p1 p2 p3 p4 p5)), .val (.int (v0_18 p1 p2 p3 p4 p5)), .unset] [(.int (v0_18 p1 p2 p3 p4 p5))])
  refine Go.of (fun _ k => X17.ldcI hx hown (mvT hZ (hw _ (List.mem_of_getElem? (i := 38) rfl))) rfl (hb hby at_120) k) ?_
  show Go p e below W T17 (mkF m 122 #[.val (.int p1), .val (.int p2), .val (.int p3), .val (.int p4), .val (.int p5), .val (.int (v0_1 p1 p2 p3 p4 p5)), .val (.int (v0_2 p1 p2 p3 p4 p5)), .val (.int (v0_3 p1 p2 p3 p4 p5)), .val (.int (v0_4 p1 p2 p3 p4 p5)), .val (.int (v0_5 p1 p2 p3 p4 p5)), .val (.ref b6), .val (.int (v0_12 p1 p2 p3 p4 p5)), .val (.int (v0_18 p1 p2 p3 p4 p5)), .unset] [(.int (-1640531527 : Int32)), (.int (v0_18 p1 p2 p3 p4 p5))])
  refine Go.of (fun _ k => XS.imul X17.here hx rfl (hb hby at_122) rfl k) ?_
  show Go p e below W T17 (mkF m 123 #[.val (.int p1), .val (.int p2), .val (.int p3), .val (.int p4), .val (.int p5), .val (.int (v0_1 p1 p2 p3 p4 p5)), .val (.int (v0_2 p1 p2 p3 p4 p5)), .val (.int (v0_3 p1 p2 p3 p4 p5)), .val (.int (v0_4 p1 p2 p3 p4 p5)), .val (.int (v0_5 p1 p2 p3 p4 p5)), .val (.ref b6), .val (.int (v0_12 p1 p2 p3 p4 p5)), .val (.int (v0_18 p1 p2 p3 p4 p5)), .unset] [(.int ((v0_18 p1 p2 p3 p4 p5) * (-1640531527 : Int32)))])
  refine Go.of (fun _ k => XS.istore X17.here hx rfl (hb hby at_123) rfl (l' := #[.val (.int p1), .val (.int p2), .val (.int p3), .val (.int p4), .val (.int p5), .val (.int (v0_1 p1 p2 p3 p4 p5)), .val (.int (v0_2 p1 p2 p3 p4 p5)), .val (.int (v0_3 p1 p2 p3 p4 p5)), .val (.int (v0_4 p1 p2 p3 p4 p5)), .val (.int (v0_5 p1 p2 p3 p4 p5)), .val (.ref b6), .val (.int (v0_12 p1 p2 p3 p4 p5)), .val (.int (v0_19 p1 p2 p3 p4 p5)), .unset]) rfl k) ?_
  show Go p e below W T17 (mkF m 125 #[.val (.int p1), .val (.int p2), .val (.int p3), .val (.int p4), .val (.int p5), .val (.int (v0_1 p1 p2 p3 p4 p5)), .val (.int (v0_2 p1 p2 p3 p4 p5)), .val (.int (v0_3 p1 p2 p3 p4 p5)), .val (.int (v0_4 p1 p2 p3 p4 p5)), .val (.int (v0_5 p1 p2 p3 p4 p5)), .val (.ref b6), .val (.int (v0_12 p1 p2 p3 p4 p5)), .val (.int (v0_19 p1 p2 p3 p4 p5)), .unset] [])
  refine Go.of (fun _ k => XS.iload X17.here hx rfl (hb hby at_125) rfl k) ?_
  show Go p e below W T17 (mkF m 127 #[.val (.int p1), .val (.int p2), .val (.int p3), .val (.int p4), .val (.int p5), .val (.int (v0_1 p1 p2 p3 p4 p5)), .val (.int (v0_2 p1 p2 p3 p4 p5)), .val (.int (v0_3 p1 p2 p3 p4 p5)), .val (.int (v0_4 p1 p2 p3 p4 p5)), .val (.int (v0_5 p1 p2 p3 p4 p5)), .val (.ref b6), .val (.int (v0_12 p1 p2 p3 p4 p5)), .val (.int (v0_19 p1 p2 p3 p4 p5)), .unset] [(.int (v0_19 p1 p2 p3 p4 p5))])
  refine Go.of (fun _ k => XS.iload X17.here hx rfl (hb hby at_127) rfl k) ?_
  show Go p e below W T17 (mkF m 129 #[.val (.int p1), .val (.int p2), .val (.int p3), .val (.int p4), .val (.int p5), .val (.int (v0_1 p1 p2 p3 p4 p5)), .val (.int (v0_2 p1 p2 p3 p4 p5)), .val (.int (v0_3 p1 p2 p3 p4 p5)), .val (.int (v0_4 p1 p2 p3 p4 p5)), .val (.int (v0_5 p1 p2 p3 p4 p5)), .val (.ref b6), .val (.int (v0_12 p1 p2 p3 p4 p5)), .val (.int (v0_19 p1 p2 p3 p4 p5)), .unset] [(.int (v0_19 p1 p2 p3 p4 p5)), (.int (v0_19 p1 p2 p3 p4 p5))])
  refine Go.of (fun _ k => XS.bipush X17.here hx rfl (hb hby at_129) k) ?_
  show Go p e below W T17 (mkF m 131 #[.val (.int p1), .val (.int p2), .val (.int p3), .val (.int p4), .val (.int p5), .val (.int (v0_1 p1 p2 p3 p4 p5)), .val (.int (v0_2 p1 p2 p3 p4 p5)), .val (.int (v0_3 p1 p2 p3 p4 p5)), .val (.int (v0_4 p1 p2 p3 p4 p5)), .val (.int (v0_5 p1 p2 p3 p4 p5)), .val (.ref b6), .val (.int (v0_12 p1 p2 p3 p4 p5)), .val (.int (v0_19 p1 p2 p3 p4 p5)), .unset] [(.int (16 : Int32)), (.int (v0_19 p1 p2 p3 p4 p5)), (.int (v0_19 p1 p2 p3 p4 p5))])
  refine Go.of (fun _ k => XS.iushr X17.here hx rfl (hb hby at_131) rfl k) ?_
  show Go p e below W T17 (mkF m 132 #[.val (.int p1), .val (.int p2), .val (.int p3), .val (.int p4), .val (.int p5), .val (.int (v0_1 p1 p2 p3 p4 p5)), .val (.int (v0_2 p1 p2 p3 p4 p5)), .val (.int (v0_3 p1 p2 p3 p4 p5)), .val (.int (v0_4 p1 p2 p3 p4 p5)), .val (.int (v0_5 p1 p2 p3 p4 p5)), .val (.ref b6), .val (.int (v0_12 p1 p2 p3 p4 p5)), .val (.int (v0_19 p1 p2 p3 p4 p5)), .unset] [(.int (((v0_19 p1 p2 p3 p4 p5).toUInt32 >>> ((16 : Int32) &&& 31).toUInt32).toInt32)), (.int (v0_19 p1 p2 p3 p4 p5))])
  refine Go.of (fun _ k => XS.ixor X17.here hx rfl (hb hby at_132) rfl k) ?_
  show Go p e below W T17 (mkF m 133 #[.val (.int p1), .val (.int p2), .val (.int p3), .val (.int p4), .val (.int p5), .val (.int (v0_1 p1 p2 p3 p4 p5)), .val (.int (v0_2 p1 p2 p3 p4 p5)), .val (.int (v0_3 p1 p2 p3 p4 p5)), .val (.int (v0_4 p1 p2 p3 p4 p5)), .val (.int (v0_5 p1 p2 p3 p4 p5)), .val (.ref b6), .val (.int (v0_12 p1 p2 p3 p4 p5)), .val (.int (v0_19 p1 p2 p3 p4 p5)), .unset] [(.int ((v0_19 p1 p2 p3 p4 p5) ^^^ (((v0_19 p1 p2 p3 p4 p5).toUInt32 >>> ((16 : Int32) &&& 31).toUInt32).toInt32)))])
  refine Go.of (fun _ k => XS.istore X17.here hx rfl (hb hby at_133) rfl (l' := #[.val (.int p1), .val (.int p2), .val (.int p3), .val (.int p4), .val (.int p5), .val (.int (v0_1 p1 p2 p3 p4 p5)), .val (.int (v0_2 p1 p2 p3 p4 p5)), .val (.int (v0_3 p1 p2 p3 p4 p5)), .val (.int (v0_4 p1 p2 p3 p4 p5)), .val (.int (v0_5 p1 p2 p3 p4 p5)), .val (.ref b6), .val (.int (v0_12 p1 p2 p3 p4 p5)), .val (.int (v0_19 p1 p2 p3 p4 p5)), .val (.int (v0_20 p1 p2 p3 p4 p5))]) rfl k) ?_
  show Go p e below W T17 (mkF m 135 #[.val (.int p1), .val (.int p2), .val (.int p3), .val (.int p4), .val (.int p5), .val (.int (v0_1 p1 p2 p3 p4 p5)), .val (.int (v0_2 p1 p2 p3 p4 p5)), .val (.int (v0_3 p1 p2 p3 p4 p5)), .val (.int (v0_4 p1 p2 p3 p4 p5)), .val (.int (v0_5 p1 p2 p3 p4 p5)), .val (.ref b6), .val (.int (v0_12 p1 p2 p3 p4 p5)), .val (.int (v0_19 p1 p2 p3 p4 p5)), .val (.int (v0_20 p1 p2 p3 p4 p5))] [])
  refine Go.of (fun _ k => XS.iload X17.here hx rfl (hb hby at_135) rfl k) ?_
  show Go p e below W T17 (mkF m 137 #[.val (.int p1), .val (.int p2), .val (.int p3), .val (.int p4), .val (.int p5), .val (.int (v0_1 p1 p2 p3 p4 p5)), .val (.int (v0_2 p1 p2 p3 p4 p5)), .val (.int (v0_3 p1 p2 p3 p4 p5)), .val (.int (v0_4 p1 p2 p3 p4 p5)), .val (.int (v0_5 p1 p2 p3 p4 p5)), .val (.ref b6), .val (.int (v0_12 p1 p2 p3 p4 p5)), .val (.int (v0_19 p1 p2 p3 p4 p5)), .val (.int (v0_20 p1 p2 p3 p4 p5))] [(.int (v0_12 p1 p2 p3 p4 p5))])
  refine Go.of (fun _ k => XS.iload X17.here hx rfl (hb hby at_137) rfl k) ?_
  show Go p e below W T17 (mkF m 139 #[.val (.int p1), .val (.int p2), .val (.int p3), .val (.int p4), .val (.int p5), .val (.int (v0_1 p1 p2 p3 p4 p5)), .val (.int (v0_2 p1 p2 p3 p4 p5)), .val (.int (v0_3 p1 p2 p3 p4 p5)), .val (.int (v0_4 p1 p2 p3 p4 p5)), .val (.int (v0_5 p1 p2 p3 p4 p5)), .val (.ref b6), .val (.int (v0_12 p1 p2 p3 p4 p5)), .val (.int (v0_19 p1 p2 p3 p4 p5)), .val (.int (v0_20 p1 p2 p3 p4 p5))] [(.int (v0_20 p1 p2 p3 p4 p5)), (.int (v0_12 p1 p2 p3 p4 p5))])
  by_cases c21 : (v0_12 p1 p2 p3 p4 p5) = (v0_20 p1 p2 p3 p4 p5)
  · refine Go.of (fun _ k => XS.icmpNo X17.here hx rfl (hb hby at_139) rfl (Jvm.Free.XT.ii_ne_f c21) k) ?_
    show Go p e below W T17 (mkF m 142 #[.val (.int p1), .val (.int p2), .val (.int p3), .val (.int p4), .val (.int p5), .val (.int (v0_1 p1 p2 p3 p4 p5)), .val (.int (v0_2 p1 p2 p3 p4 p5)), .val (.int (v0_3 p1 p2 p3 p4 p5)), .val (.int (v0_4 p1 p2 p3 p4 p5)), .val (.int (v0_5 p1 p2 p3 p4 p5)), .val (.ref b6), .val (.int (v0_12 p1 p2 p3 p4 p5)), .val (.int (v0_19 p1 p2 p3 p4 p5)), .val (.int (v0_20 p1 p2 p3 p4 p5))] [])
    refine Go.of (fun _ k => XS.iconst X17.here hx rfl (hb hby at_142) k) ?_
    show Go p e below W T17 (mkF m 143 #[.val (.int p1), .val (.int p2), .val (.int p3), .val (.int p4), .val (.int p5), .val (.int (v0_1 p1 p2 p3 p4 p5)), .val (.int (v0_2 p1 p2 p3 p4 p5)), .val (.int (v0_3 p1 p2 p3 p4 p5)), .val (.int (v0_4 p1 p2 p3 p4 p5)), .val (.int (v0_5 p1 p2 p3 p4 p5)), .val (.ref b6), .val (.int (v0_12 p1 p2 p3 p4 p5)), .val (.int (v0_19 p1 p2 p3 p4 p5)), .val (.int (v0_20 p1 p2 p3 p4 p5))] [(.int (1 : Int32))])
    refine Go.of (fun _ k => XS.goto X17.here hx rfl (pc0 := 143) (pc' := 147) rfl (hb hby at_143) (by decide) (by decide) k) ?_
    show Go p e below W T17 (mkF m 147 #[.val (.int p1), .val (.int p2), .val (.int p3), .val (.int p4), .val (.int p5), .val (.int (v0_1 p1 p2 p3 p4 p5)), .val (.int (v0_2 p1 p2 p3 p4 p5)), .val (.int (v0_3 p1 p2 p3 p4 p5)), .val (.int (v0_4 p1 p2 p3 p4 p5)), .val (.int (v0_5 p1 p2 p3 p4 p5)), .val (.ref b6), .val (.int (v0_12 p1 p2 p3 p4 p5)), .val (.int (v0_19 p1 p2 p3 p4 p5)), .val (.int (v0_20 p1 p2 p3 p4 p5))] [(.int (1 : Int32))])
    have u_f0 : (f0 p1 p2 p3 p4 p5) = (1 : Int32) := by rw [f0, if_pos c21]
    have fin : Q0 Z p1 p2 p3 p4 p5 h0 n0 (some (.int (f0 p1 p2 p3 p4 p5))) T10.heap L10 := ⟨rfl, N, K⟩
    exact Go.retN X17 hx hret (Or.inl rfl) (hb hby at_147) hlk (Eq.trans rfl u_f0.symm) (fun t ht fe => hW t _ _ _ _ (by rw [ht, e17]; exact fin) fe (by decide) (by decide))
  · refine Go.of (fun _ k => XS.icmpYes X17.here hx rfl (pc0 := 139) (pc' := 146) rfl (hb hby at_139) rfl (Jvm.Free.XT.ii_ne_t c21) (by decide) (by decide) k) ?_
    show Go p e below W T17 (mkF m 146 #[.val (.int p1), .val (.int p2), .val (.int p3), .val (.int p4), .val (.int p5), .val (.int (v0_1 p1 p2 p3 p4 p5)), .val (.int (v0_2 p1 p2 p3 p4 p5)), .val (.int (v0_3 p1 p2 p3 p4 p5)), .val (.int (v0_4 p1 p2 p3 p4 p5)), .val (.int (v0_5 p1 p2 p3 p4 p5)), .val (.ref b6), .val (.int (v0_12 p1 p2 p3 p4 p5)), .val (.int (v0_19 p1 p2 p3 p4 p5)), .val (.int (v0_20 p1 p2 p3 p4 p5))] [])
    refine Go.of (fun _ k => XS.iconst X17.here hx rfl (hb hby at_146) k) ?_
    show Go p e below W T17 (mkF m 147 #[.val (.int p1), .val (.int p2), .val (.int p3), .val (.int p4), .val (.int p5), .val (.int (v0_1 p1 p2 p3 p4 p5)), .val (.int (v0_2 p1 p2 p3 p4 p5)), .val (.int (v0_3 p1 p2 p3 p4 p5)), .val (.int (v0_4 p1 p2 p3 p4 p5)), .val (.int (v0_5 p1 p2 p3 p4 p5)), .val (.ref b6), .val (.int (v0_12 p1 p2 p3 p4 p5)), .val (.int (v0_19 p1 p2 p3 p4 p5)), .val (.int (v0_20 p1 p2 p3 p4 p5))] [(.int (0 : Int32))])
    have u_f0 : (f0 p1 p2 p3 p4 p5) = (0 : Int32) := by rw [f0, if_neg c21]
    have fin : Q0 Z p1 p2 p3 p4 p5 h0 n0 (some (.int (f0 p1 p2 p3 p4 p5))) T10.heap L10 := ⟨rfl, N, K⟩
    exact Go.retN X17 hx hret (Or.inl rfl) (hb hby at_147) hlk (Eq.trans rfl u_f0.symm) (fun t ht fe => hW t _ _ _ _ (by rw [ht, e17]; exact fin) fe (by decide) (by decide))
set_option maxRecDepth 65536 in
set_option maxHeartbeats 40000000 in
theorem comes_1 {Post : Tables → Env → Array Value → State → Outcome → State → Prop} (hpost : ∀ tb e args s v u, (limb_1_1.after args s (.returned v) u = true ∧ limb_1_2.after args s (.returned v) u = true ∧ True) → FrameEnd s (.returned v) u (Jvm.fieldLocs frame_1_writes args s ++ Jvm.arrayLocs frame_1_arrays args s ++ Jvm.staticLocs frame_1_statics s) 16 256 → Post tb e args s (.returned v) u) :
    ArmFor flags0 classFile x code maxLocals ret World_1 tables_1 room_1 Calls_1 rest_1 Pre_1 Post := by
  intro l hfl _ _ p e ha hc hk s m args below hf hA hF happ hP
  obtain ⟨hcalls, hrest, hpre⟩ := hP
  obtain ⟨-, -, -, hnamed, -, -, -, hat⟩ := (Spec.applies_iff hf).mp happ
  obtain ⟨hg, hn⟩ := and_e (Cond.before_iff.mp (show (Jvm.Cond.and given_1 narrow_1).before args s = true from hpre))
  obtain ⟨g0, y0⟩ := and_e hg
  obtain ⟨x0, y1⟩ := and_e y0
  obtain ⟨x1, y2⟩ := and_e y1
  obtain ⟨x2, y3⟩ := and_e y2
  obtain ⟨x3, y4⟩ := and_e y3
  obtain ⟨w0, w1, w2, w3, w4, rfl⟩ : ∃ w0 w1 w2 w3 w4 : Value, args = #[w0, w1, w2, w3, w4] := by
    have hs : args.size = 5 := by simpa [Cond.value, given_1] using g0
    obtain ⟨L⟩ := args
    match L, hs with
    | [w0, w1, w2, w3, w4], _ => exact ⟨w0, w1, w2, w3, w4, rfl⟩
  have hw := fun d (hd : d ∈ tables_1) => atoms_spec (ws := Jvm.Cond.code x code maxLocals ret :: tables_1) hat d (List.mem_cons_of_mem _ hd)
  obtain ⟨i0, ei0⟩ := is_v x0
  obtain rfl : w0 = (.int i0) := Option.some.inj ei0
  obtain ⟨i1, ei1⟩ := is_v x1
  obtain rfl : w1 = (.int i1) := Option.some.inj ei1
  obtain ⟨i2, ei2⟩ := is_v x2
  obtain rfl : w2 = (.int i2) := Option.some.inj ei2
  obtain ⟨i3, ei3⟩ := is_v x3
  obtain rfl : w3 = (.int i3) := Option.some.inj ei3
  obtain ⟨i4, ei4⟩ := is_v y4
  obtain rfl : w4 = (.int i4) := Option.some.inj ei4
  obtain ⟨n, o, h1, h2, h3, _, L, rfl, ⟨rfl, N, -⟩, hq⟩ := rm0 l s _ hw tables_1 i0 i1 i2 i3 i4 s.heap s.heap.size (Nat.le_refl _) p e ha hc hk s m _ below hf ((Spec.applies_iff_loose hf).mp happ).1 ⟨rfl, State.Warmed39.refl s, rfl⟩ trivial
  rw [own_law i0 i1 i2 i3 i4] at h3 hq
  refine ⟨n, _, h1, h2, h3, hpost _ _ _ _ _ _ ⟨Cond.after_iff.mpr rfl, Cond.after_iff.mpr (eq_i res_at (Term.int_eval (1)) rfl), trivial⟩ ⟨hq.1, hq.2.1, (hq.2.2.sift fun y hy => Or.inr (N y hy)).mono (by decide) (by decide)⟩⟩
theorem main_1_1 : Claimed_1_1 := comes_1 fun _ _ _ _ _ _ h hF => ⟨h.1, hF⟩
theorem main_1_2 : Claimed_1_2 := comes_1 fun _ _ _ _ _ _ h hF => ⟨h.2.1, hF⟩
end Jvm.Pilot.@@N@@
namespace Jvm.Pilot.@@N@@
open Jvm Jvm.ClassFile Sem Op Lib Jvm.Free Jvm.Stand Jvm.Pilot.@@N@@.Jvm.D
/-! MADE BY PROGRAM (witnessworld.py) out of the Statement's table words and the real class files: 13 classes; the members and pool entries that the words name. The judged class is class 1, her method 2. -/
namespace start1
open Jvm.ClassFile
def u (s : String) : CpInfo := .utf8 (stringToUtf16 s)
/-- a pool by its gaps: so many unusable entries, then the entry; so many at the end -/
def gap : Nat → List CpInfo → List CpInfo
  | 0, r => r
  | n + 1, r => .unusable :: gap n r
def poolList (es : List (Nat × CpInfo)) (last : Nat) : List CpInfo := es.foldr (fun e r => gap e.1 (e.2 :: r)) (gap last [])
def pool (es : List (Nat × CpInfo)) (last : Nat) : Array CpInfo := ⟨poolList es last⟩
def fileOf (pool : Array CpInfo) (this : Nat) (attrs : Array Attribute := #[]) (ms : Array MethodInfo := #[]) (fl : Nat := 33) (sup : Nat := 0) (ifs : Array Nat := #[]) (fds : Array FieldInfo := #[]) : ClassFile where
  minorVersion := 0
  majorVersion := 65
  constantPool := pool
  accessFlags := fl
  thisClass := this
  superClass := sup
  interfaces := ifs
  fields := fds
  methods := ms
  attributes := attrs
def plain (name : String) (sup : Option ClassId) : Class where
  name := name
  kind := .ordinary
  loader := none
  accessFlags := 33
  super := sup
  interfaces := #[]
  cf := none
  fields := #[]
  methods := #[]
  instanceTypes := #[]
  staticTypes := #[]
  resolved := #[]
  callSites := []
  init := .initialized
  statics := none
  mirror := none

def pool0 : Array CpInfo := pool [(5, u "<init>"), (0, u "()V"), (1, .class_ 10), (1, u "java/lang/Object")] 113

def k0c0 : Code := { maxStack := 0, maxLocals := 1, code := object_method_1_code, exceptionTable := #[], attributes := #[] }
def k0m0 : Method := { name := "<init>", desc := "()V", sig := { parameters := [], returnType := none }, accessFlags := 1, code := some k0c0 }
/-- java/lang/Object -/
def k0 : Class := { plain "java/lang/Object" none with
  accessFlags := 33
  interfaces := #[]
  cf := some (fileOf pool0 8 #[] #[{ accessFlags := 1, nameIndex := 5, descriptorIndex := 6, attributes := #[] }] 33 0 #[] #[])
  fields := #[]
  methods := #[k0m0]
  instanceTypes := #[]
  staticTypes := #[]
  resolved := Array.replicate 124 none
  statics := none }

def pool1 : Array CpInfo := pool [(2, .class_ 4), (0, .nameAndType 5 6), (0, u "java/lang/Object"), (0, u "<init>"), (0, u "()V"), (0, .integer 16777619), (0, .integer 2147483647), (0, .class_ 10), (0, u "com/example/tok6/tok6/TextBuffer"), (0, .methodref 9 3), (0, .methodref 9 13), (0, .nameAndType 14 15), (0, u "append"), (0, u "(C)Lcom/example/tok6/tok6/TextBuffer;"), (0, .methodref 9 17), (0, .nameAndType 18 19), (0, u "hash"), (0, u "(II)I"), (0, .methodref 21 22), (0, .class_ 23), (0, .nameAndType 24 25), (0, u "com/example/tok6/tok6/TextBufferHashPinLaw"), (0, u "step"), (0, u "(IIIIC)I"), (0, .integer 2654435769), (3, u "law"), (0, u "(IIIII)Z")] 2

def k1m0 : Method := { name := "<init>", desc := "()V", sig := { parameters := [], returnType := none }, accessFlags := 1, code := none }
def k1c1 : Code := { maxStack := 2, maxLocals := 5, code := method_2_code, exceptionTable := #[], attributes := #[] }
def k1m1 : Method := { name := "step", desc := "(IIIIC)I", sig := { parameters := [.int, .int, .int, .int, .char], returnType := some .int }, accessFlags := 10, code := some k1c1 }
def k1c2 : Code := { maxStack := 5, maxLocals := 14, code := code, exceptionTable := #[], attributes := #[] }
def k1m2 : Method := { name := "law", desc := "(IIIII)Z", sig := { parameters := [.int, .int, .int, .int, .int], returnType := some .boolean }, accessFlags := 9, code := some k1c2 }
/-- com/example/tok6/tok6/TextBufferHashPinLaw -/
def k1 : Class := { plain "com/example/tok6/tok6/TextBufferHashPinLaw" (some 0) with
  accessFlags := 49
  interfaces := #[]
  cf := some (fileOf pool1 21 #[] #[{ accessFlags := 1, nameIndex := 5, descriptorIndex := 6, attributes := #[] }, { accessFlags := 10, nameIndex := 24, descriptorIndex := 25, attributes := #[] }, { accessFlags := 9, nameIndex := 30, descriptorIndex := 31, attributes := #[] }] 49 2 #[] #[])
  fields := #[]
  methods := #[k1m0, k1m1, k1m2]
  instanceTypes := #[]
  staticTypes := #[]
  resolved := Array.replicate 34 none
  statics := none }

def pool2 : Array CpInfo := pool [(2, .class_ 4), (1, u "java/lang/CharSequence"), (42, .class_ 48), (0, u "java/lang/CharSequence$1CodePointIterator"), (10, .class_ 60), (0, u "java/lang/CharSequence$1CharIterator"), (5, .class_ 67), (0, u "java/lang/Object")] 63

/-- java/lang/CharSequence -/
def k2 : Class := { plain "java/lang/CharSequence" (some 0) with
  accessFlags := 1537
  interfaces := #[]
  cf := some (fileOf pool2 2 #[.nestMembers #[47, 59]] #[] 1537 66 #[] #[])
  fields := #[]
  methods := #[]
  instanceTypes := #[]
  staticTypes := #[]
  resolved := Array.replicate 131 none
  statics := none }

def pool3 : Array CpInfo := pool [(3, .methodref 4 5), (0, .class_ 6), (0, .nameAndType 7 8), (0, u "java/lang/Object"), (0, u "<init>"), (0, u "()V"), (0, .fieldref 10 11), (0, .class_ 12), (0, .nameAndType 13 14), (0, u "com/example/tok6/tok6/TextBuffer"), (0, u "units"), (0, u "[C"), (0, .methodref 10 16), (0, .nameAndType 17 18), (0, u "ensureRoom"), (0, u "(I)V"), (0, .fieldref 10 20), (0, .nameAndType 21 22), (0, u "length"), (0, u "I"), (7, .class_ 32), (1, u "java/lang/CharSequence"), (24, .integer 16777619), (0, .integer 2654435769), (2, .methodref 62 63), (0, .class_ 64), (0, .nameAndType 65 66), (0, u "java/lang/Math"), (0, u "addExact"), (0, u "(II)I"), (0, .integer 2147483639), (7, .long 2), (1, .long 2147483639), (14, u "MAX_SIZE"), (3, u "append"), (0, u "(C)Lcom/example/tok6/tok6/TextBuffer;"), (8, u "hash")] 6

def k3c0 : Code := { maxStack := 2, maxLocals := 1, code := prog_17_method_1_code, exceptionTable := #[], attributes := #[] }
def k3m0 : Method := { name := "<init>", desc := "()V", sig := { parameters := [], returnType := none }, accessFlags := 0, code := some k3c0 }
def k3c1 : Code := { maxStack := 5, maxLocals := 2, code := prog_17_method_2_code, exceptionTable := #[], attributes := #[] }
def k3m1 : Method := { name := "append", desc := "(C)Lcom/example/tok6/tok6/TextBuffer;", sig := { parameters := [.char], returnType := some (.object "com/example/tok6/tok6/TextBuffer") }, accessFlags := 0, code := some k3c1 }
def k3c2 : Code := { maxStack := 3, maxLocals := 5, code := prog_17_method_12_code, exceptionTable := #[], attributes := #[] }
def k3m2 : Method := { name := "hash", desc := "(II)I", sig := { parameters := [.int, .int], returnType := some .int }, accessFlags := 0, code := some k3c2 }
def k3c3 : Code := { maxStack := 7, maxLocals := 3, code := prog_17_method_15_code, exceptionTable := #[], attributes := #[] }
def k3m3 : Method := { name := "ensureRoom", desc := "(I)V", sig := { parameters := [.int], returnType := none }, accessFlags := 2, code := some k3c3 }
/-- com/example/tok6/tok6/TextBuffer -/
def k3 : Class := { plain "com/example/tok6/tok6/TextBuffer" (some 0) with
  accessFlags := 48
  interfaces := #[2]
  cf := some (fileOf pool3 10 #[] #[{ accessFlags := 0, nameIndex := 7, descriptorIndex := 8, attributes := #[] }, { accessFlags := 0, nameIndex := 96, descriptorIndex := 97, attributes := #[] }, { accessFlags := 0, nameIndex := 106, descriptorIndex := 66, attributes := #[] }, { accessFlags := 2, nameIndex := 17, descriptorIndex := 18, attributes := #[] }] 48 4 #[30] #[{ accessFlags := 26, nameIndex := 92, descriptorIndex := 22, attributes := #[] }, { accessFlags := 2, nameIndex := 13, descriptorIndex := 14, attributes := #[] }, { accessFlags := 2, nameIndex := 21, descriptorIndex := 22, attributes := #[] }])
  fields := #[{ name := "MAX_SIZE", type := .int, accessFlags := 26, slot := 0, constantValue := 0 }, { name := "units", type := (.array .char), accessFlags := 2, slot := 0, constantValue := 0 }, { name := "length", type := .int, accessFlags := 2, slot := 1, constantValue := 0 }]
  methods := #[k3m0, k3m1, k3m2, k3m3]
  instanceTypes := #[(.array .char), .int]
  staticTypes := #[.int]
  resolved := Array.replicate 113 none
  statics := none }

def pool4 : Array CpInfo := pool [(1, .class_ 2), (0, u "java/lang/Math"), (1, .class_ 6), (1, u "java/lang/Object"), (0, u "<init>"), (0, u "()V"), (89, .class_ 100), (1, u "java/lang/Math$RandomNumberGeneratorHolder"), (71, u "negativeZeroFloatBits"), (0, u "J"), (2, u "negativeZeroDoubleBits"), (68, u "$assertionsDisabled"), (0, u "Z"), (88, u "(II)I"), (2, u "twoToTheDoubleScaleDown"), (0, u "D"), (4, u "twoToTheDoubleScaleUp"), (9, u "E"), (3, u "PI"), (2, u "TAU"), (2, u "DEGREES_TO_RADIANS"), (0, u "RADIANS_TO_DEGREES"), (27, u "addExact")] 66

def k4m0 : Method := { name := "<init>", desc := "()V", sig := { parameters := [], returnType := none }, accessFlags := 2, code := none }
def k4c1 : Code := { maxStack := 3, maxLocals := 3, code := jdk_29_method_24_code, exceptionTable := #[], attributes := #[] }
def k4m1 : Method := { name := "addExact", desc := "(II)I", sig := { parameters := [.int, .int], returnType := some .int }, accessFlags := 9, code := some k4c1 }
/-- java/lang/Math -/
def k4 : Class := { plain "java/lang/Math" (some 0) with
  accessFlags := 49
  interfaces := #[]
  cf := some (fileOf pool4 1 #[.nestMembers #[98]] #[{ accessFlags := 2, nameIndex := 7, descriptorIndex := 8, attributes := #[] }, { accessFlags := 9, nameIndex := 393, descriptorIndex := 335, attributes := #[] }] 49 4 #[] #[{ accessFlags := 25, nameIndex := 354, descriptorIndex := 339, attributes := #[] }, { accessFlags := 25, nameIndex := 358, descriptorIndex := 339, attributes := #[] }, { accessFlags := 25, nameIndex := 361, descriptorIndex := 339, attributes := #[] }, { accessFlags := 26, nameIndex := 364, descriptorIndex := 339, attributes := #[] }, { accessFlags := 26, nameIndex := 365, descriptorIndex := 339, attributes := #[] }, { accessFlags := 26, nameIndex := 172, descriptorIndex := 173, attributes := #[] }, { accessFlags := 26, nameIndex := 176, descriptorIndex := 173, attributes := #[] }, { accessFlags := 8, nameIndex := 344, descriptorIndex := 339, attributes := #[] }, { accessFlags := 8, nameIndex := 338, descriptorIndex := 339, attributes := #[] }, { accessFlags := 4120, nameIndex := 245, descriptorIndex := 246, attributes := #[] }])
  fields := #[{ name := "E", type := .double, accessFlags := 25, slot := 0, constantValue := 0 }, { name := "PI", type := .double, accessFlags := 25, slot := 1, constantValue := 0 }, { name := "TAU", type := .double, accessFlags := 25, slot := 2, constantValue := 0 }, { name := "DEGREES_TO_RADIANS", type := .double, accessFlags := 26, slot := 3, constantValue := 0 }, { name := "RADIANS_TO_DEGREES", type := .double, accessFlags := 26, slot := 4, constantValue := 0 }, { name := "negativeZeroFloatBits", type := .long, accessFlags := 26, slot := 5, constantValue := 0 }, { name := "negativeZeroDoubleBits", type := .long, accessFlags := 26, slot := 6, constantValue := 0 }, { name := "twoToTheDoubleScaleUp", type := .double, accessFlags := 8, slot := 7, constantValue := 0 }, { name := "twoToTheDoubleScaleDown", type := .double, accessFlags := 8, slot := 8, constantValue := 0 }, { name := "$assertionsDisabled", type := .boolean, accessFlags := 4120, slot := 9, constantValue := 0 }]
  methods := #[k4m0, k4m1]
  instanceTypes := #[]
  staticTypes := #[.double, .double, .double, .double, .double, .long, .long, .double, .double, .boolean]
  resolved := Array.replicate 460 none
  statics := none }

def pool5 : Array CpInfo := pool [(1, u "java/lang/Cloneable"), (0, .class_ 1), (0, u "java/lang/Object"), (0, .class_ 3)] 3

/-- java/lang/Cloneable -/
def k5 : Class := { plain "java/lang/Cloneable" (some 0) with
  accessFlags := 1537
  interfaces := #[]
  cf := some (fileOf pool5 2 #[] #[] 1537 4 #[] #[])
  fields := #[]
  methods := #[]
  instanceTypes := #[]
  staticTypes := #[]
  resolved := Array.replicate 8 none
  statics := none }

def pool6 : Array CpInfo := pool [(1, u "java/io/Serializable"), (0, .class_ 1), (0, u "java/lang/Object"), (0, .class_ 3)] 3

/-- java/io/Serializable -/
def k6 : Class := { plain "java/io/Serializable" (some 0) with
  accessFlags := 1537
  interfaces := #[]
  cf := some (fileOf pool6 2 #[] #[] 1537 4 #[] #[])
  fields := #[]
  methods := #[]
  instanceTypes := #[]
  staticTypes := #[]
  resolved := Array.replicate 8 none
  statics := none }

/-- the primitive byte -/
def k7 : Class := { plain "byte" none with kind := .primitive 'B', accessFlags := 0x411 }
/-- [B -/
def k8 : Class := { plain "[B" (some 0) with kind := .array 7 .byte, interfaces := #[5, 6], accessFlags := 1041 }

/-- the primitive char -/
def k9 : Class := { plain "char" none with kind := .primitive 'C', accessFlags := 0x411 }
/-- [C -/
def k10 : Class := { plain "[C" (some 0) with kind := .array 9 .char, interfaces := #[5, 6], accessFlags := 1041 }

/-- the primitive int -/
def k11 : Class := { plain "int" none with kind := .primitive 'I', accessFlags := 0x411 }
/-- [I -/
def k12 : Class := { plain "[I" (some 0) with kind := .array 11 .int, interfaces := #[5, 6], accessFlags := 1041 }

def heap : Heap := #[]
def classes : Array Class := #[k0, k1, k2, k3, k4, k5, k6, k7, k8, k9, k10, k11, k12]
def interned : List (Array UInt16 × Addr) := []
def slotsUsed : Nat := 0
def theMethod : MethodId := ⟨1, 2⟩
def args0 : Array Value := #[.int 65, .int 66, .int 67, .int 0, .int 3]
def aboutOver (below : List Frame) : State where
  vm := { classes := classes, interned := interned.toArray }
  heap := heap
  slotsUsed := slotsUsed
  threads := #[{ frames := .invoking theMethod args0 :: below }]
def below0 : List Frame := [.native { method := ⟨0, 0⟩, args := #[] }]
def about1 : State := aboutOver below0
def p0 : Program := .bare "" "" ""
def e0 : Env := launch0.env 0 0 0
theorem w_frames : about1.frames = Frame.invoking theMethod args0 :: below0 := rfl
set_option maxRecDepth 65536 in
theorem w_args : argsFit about1.vm theMethod args0 = true := by decide +kernel
set_option maxRecDepth 65536 in
theorem w_heap : heapFits about1 = true := by decide +kernel
set_option maxRecDepth 65536 in
theorem w_runnable : about1.curStatus? = some .runnable := by decide +kernel
set_option maxRecDepth 65536 in
theorem w_alone : about1.alone = true := by decide +kernel
set_option maxRecDepth 65536 in
theorem w_named : about1.methodNamed? x = some theMethod := by decide +kernel
set_option maxRecDepth 65536 in
theorem w_hears : about1.hears theMethod below0 = true := by decide +kernel
set_option maxRecDepth 65536 in
theorem w_ripe : about1.ripe theMethod args0 below0 = true := by decide +kernel
theorem w_running : about1.status = .running := rfl
set_option maxRecDepth 65536 in
theorem w_room : about1.hasRoom e0.platform room_1 = true :=
  launch0.hasRoom_least _ room_1 (by decide +kernel) (by decide +kernel) (by decide +kernel) (by decide +kernel) (by decide +kernel) (by decide +kernel)
theorem allAtoms_all (ts : List Jvm.Cond) (a : Array Jvm.Value) (st : Jvm.State) : (allAtoms ts).before a st = ts.all (fun c => c.before a st) := by
  induction ts with
  | nil => rfl
  | cons c t ih =>
    show (Jvm.Cond.and c (allAtoms t)).before a st = _
    rw [Jvm.Cond.before_and, ih, List.all_cons]
def words1 : List Jvm.Cond := Jvm.Cond.code x code maxLocals ret :: tables_1
/-- a 'code' word, met by the world's own term for the bytes: nothing is compared byte by byte -/
theorem code_word {y : MethodName} {bytes : ByteArray} {mx : Nat} {rt : Option FieldType} {a : Array Value} {s : State} {m : MethodId} {meth : Method} {c : Code} (h1 : s.methodNamed? y = some m) (h2 : s.vm.method? m = some meth) (h3 : meth.code = some c) (h4 : c.code = bytes)
    (h5 : (c.maxLocals == mx && c.exceptionTable.isEmpty && decide (c.maxStack ≤ mostOperands) && decide (meth.sig.returnType = rt) && !meth.locks && decide (parseMethodDescriptor y.desc = some meth.sig)) = true) : (Jvm.Cond.code y bytes mx rt).before a s = true := by
  simp only [Bool.and_eq_true, beq_iff_eq, Bool.not_eq_true', decide_eq_true_eq] at h5
  obtain ⟨⟨⟨⟨⟨g1, g2⟩, g3⟩, g4⟩, g5⟩, g6⟩ := h5
  simp [Cond.before, Cond.holds, Cond.value, h1, h2, h3, h4, g1, g2, g3, g4, g5, g6]
def isCode : Jvm.Cond → Bool
  | .code _ _ _ _ => true
  | _ => false
theorem all_split {L : List Jvm.Cond} {P : Jvm.Cond → Bool} (h1 : L.all (fun c => isCode c || P c) = true) (h2 : ∀ c ∈ L.filter isCode, P c = true) : L.all P = true := by
  refine List.all_eq_true.mpr fun c hc => ?_
  have h := List.all_eq_true.mp h1 c hc
  rcases Bool.eq_false_or_eq_true (isCode c) with hi | hi
  · exact h2 c (List.mem_filter.mpr ⟨hc, hi⟩)
  · simpa [hi] using h
set_option maxRecDepth 65536 in
theorem w_c0 : (Jvm.Cond.code x code maxLocals ret).before args0 about1 = true := code_word (m := ⟨1, 2⟩) (meth := k1m2) (c := k1c2) (by decide +kernel) rfl rfl rfl (by decide +kernel)
set_option maxRecDepth 65536 in
theorem w_c1 : (Jvm.Cond.code ({ cls := "com/example/tok6/tok6/TextBuffer", name := "<init>", desc := "()V" } : Jvm.MethodName) prog_17_method_1_code (1 : Nat) (Option.none : Option Jvm.ClassFile.FieldType)).before args0 about1 = true := code_word (m := ⟨3, 0⟩) (meth := k3m0) (c := k3c0) (by decide +kernel) rfl rfl rfl (by decide +kernel)
set_option maxRecDepth 65536 in
theorem w_c2 : (Jvm.Cond.code ({ cls := "java/lang/Object", name := "<init>", desc := "()V" } : Jvm.MethodName) object_method_1_code (1 : Nat) (Option.none : Option Jvm.ClassFile.FieldType)).before args0 about1 = true := code_word (m := ⟨0, 0⟩) (meth := k0m0) (c := k0c0) (by decide +kernel) rfl rfl rfl (by decide +kernel)
set_option maxRecDepth 65536 in
theorem w_c3 : (Jvm.Cond.code ({ cls := "com/example/tok6/tok6/TextBuffer", name := "append", desc := "(C)Lcom/example/tok6/tok6/TextBuffer;" } : Jvm.MethodName) prog_17_method_2_code (2 : Nat) (Option.some (Jvm.ClassFile.FieldType.object "com/example/tok6/tok6/TextBuffer"))).before args0 about1 = true := code_word (m := ⟨3, 1⟩) (meth := k3m1) (c := k3c1) (by decide +kernel) rfl rfl rfl (by decide +kernel)
set_option maxRecDepth 65536 in
theorem w_c4 : (Jvm.Cond.code ({ cls := "com/example/tok6/tok6/TextBuffer", name := "ensureRoom", desc := "(I)V" } : Jvm.MethodName) prog_17_method_15_code (3 : Nat) (Option.none : Option Jvm.ClassFile.FieldType)).before args0 about1 = true := code_word (m := ⟨3, 3⟩) (meth := k3m3) (c := k3c3) (by decide +kernel) rfl rfl rfl (by decide +kernel)
set_option maxRecDepth 65536 in
theorem w_c5 : (Jvm.Cond.code ({ cls := "java/lang/Math", name := "addExact", desc := "(II)I" } : Jvm.MethodName) jdk_29_method_24_code (3 : Nat) (Option.some Jvm.ClassFile.FieldType.int)).before args0 about1 = true := code_word (m := ⟨4, 1⟩) (meth := k4m1) (c := k4c1) (by decide +kernel) rfl rfl rfl (by decide +kernel)
set_option maxRecDepth 65536 in
theorem w_c6 : (Jvm.Cond.code ({ cls := "com/example/tok6/tok6/TextBuffer", name := "hash", desc := "(II)I" } : Jvm.MethodName) prog_17_method_12_code (5 : Nat) (Option.some Jvm.ClassFile.FieldType.int)).before args0 about1 = true := code_word (m := ⟨3, 2⟩) (meth := k3m2) (c := k3c2) (by decide +kernel) rfl rfl rfl (by decide +kernel)
set_option maxRecDepth 65536 in
theorem w_c7 : (Jvm.Cond.code ({ cls := "com/example/tok6/tok6/TextBufferHashPinLaw", name := "step", desc := "(IIIIC)I" } : Jvm.MethodName) method_2_code (5 : Nat) (Option.some Jvm.ClassFile.FieldType.int)).before args0 about1 = true := code_word (m := ⟨1, 1⟩) (meth := k1m1) (c := k1c1) (by decide +kernel) rfl rfl rfl (by decide +kernel)
def codes1 : List Jvm.Cond := [Jvm.Cond.code x code maxLocals ret, Jvm.Cond.code ({ cls := "com/example/tok6/tok6/TextBuffer", name := "<init>", desc := "()V" } : Jvm.MethodName) prog_17_method_1_code (1 : Nat) (Option.none : Option Jvm.ClassFile.FieldType), Jvm.Cond.code ({ cls := "java/lang/Object", name := "<init>", desc := "()V" } : Jvm.MethodName) object_method_1_code (1 : Nat) (Option.none : Option Jvm.ClassFile.FieldType), Jvm.Cond.code ({ cls := "com/example/tok6/tok6/TextBuffer", name := "append", desc := "(C)Lcom/example/tok6/tok6/TextBuffer;" } : Jvm.MethodName) prog_17_method_2_code (2 : Nat) (Option.some (Jvm.ClassFile.FieldType.object "com/example/tok6/tok6/TextBuffer")), Jvm.Cond.code ({ cls := "com/example/tok6/tok6/TextBuffer", name := "ensureRoom", desc := "(I)V" } : Jvm.MethodName) prog_17_method_15_code (3 : Nat) (Option.none : Option Jvm.ClassFile.FieldType), Jvm.Cond.code ({ cls := "java/lang/Math", name := "addExact", desc := "(II)I" } : Jvm.MethodName) jdk_29_method_24_code (3 : Nat) (Option.some Jvm.ClassFile.FieldType.int), Jvm.Cond.code ({ cls := "com/example/tok6/tok6/TextBuffer", name := "hash", desc := "(II)I" } : Jvm.MethodName) prog_17_method_12_code (5 : Nat) (Option.some Jvm.ClassFile.FieldType.int), Jvm.Cond.code ({ cls := "com/example/tok6/tok6/TextBufferHashPinLaw", name := "step", desc := "(IIIIC)I" } : Jvm.MethodName) method_2_code (5 : Nat) (Option.some Jvm.ClassFile.FieldType.int)]
set_option maxRecDepth 65536 in
theorem codes_eq : words1.filter isCode = codes1 := rfl
theorem w_codes : ∀ c ∈ words1.filter isCode, c.before args0 about1 = true := by
  rw [codes_eq]
  intro c hc
  simp only [codes1, List.mem_cons, List.not_mem_nil, or_false] at hc
  rcases hc with rfl | rfl | rfl | rfl | rfl | rfl | rfl | rfl
  · exact w_c0
  · exact w_c1
  · exact w_c2
  · exact w_c3
  · exact w_c4
  · exact w_c5
  · exact w_c6
  · exact w_c7
set_option maxRecDepth 65536 in
theorem w_t1 : (words1.take 24).all (fun c => isCode c || c.before args0 about1) = true := by decide +kernel
set_option maxRecDepth 65536 in
theorem w_t2 : (words1.drop 24).all (fun c => isCode c || c.before args0 about1) = true := by decide +kernel
theorem w_tables : (allAtoms (Jvm.Cond.code x code maxLocals ret :: tables_1)).before args0 about1 = true := by
  rw [allAtoms_all]
  show words1.all (fun c => c.before args0 about1) = true
  refine all_split ?_ w_codes
  rw [← List.take_append_drop 24 words1, List.all_append, w_t1, w_t2]
  rfl
set_option maxRecDepth 65536 in
theorem w_case : (Jvm.Cond.and given_1 narrow_1).before args0 about1 = true := by decide +kernel
theorem w_applies : (headSpec (Jvm.Cond.code x code maxLocals ret :: tables_1) room_1).applies x e0.platform about1 = true :=
  (Spec.applies_iff w_frames).mpr ⟨w_running, w_runnable, w_alone, w_named, w_hears, w_ripe, w_room, w_tables⟩
theorem atStart : AtStart classFile x code maxLocals ret World_1 tables_1 room_1 Calls_1 rest_1 Pre_1 launch0 p0 e0 about1 theMethod args0 below0 :=
  ⟨lists_1, trivial, launch0.admits_env _ _ _, launch0.least_env, fairChoices_fair.cas, fairChoices_fair.clock, w_frames, w_args, w_heap, w_applies, trivial, trivial, w_case⟩
end start1
theorem witness_1 : WitnessClaimed_1 := ⟨start1.p0, start1.e0, start1.about1, start1.theMethod, start1.args0, start1.below0, start1.atStart⟩
end Jvm.Pilot.@@N@@
