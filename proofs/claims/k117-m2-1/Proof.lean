import JvmDerived
import JvmDerived.Pilot.@@N@@Statement
import JvmDerived.Pilot.@@N@@Code
set_option linter.unusedVariables false
set_option linter.unusedSimpArgs false
namespace Jvm.Pilot.@@N@@
open Jvm Jvm.ClassFile Sem Op Lib Jvm.Free Jvm.Stand Jvm.LawKit Jvm.RoadKit Bundle Jvm.Pilot.@@N@@.Jvm.D
section OwnKit
variable {p : Program} {l : Launch} {e : Env} {R : Room} {s : State} {m : MethodId} {args : Array Value} {below : List Frame} {meth : Method} {c : Code} {T : State} {locs : List Loc} {cells slots : Nat} {Z : State} {a0 : Array Value} {h : Heap} {W : State → Outcome → Prop}
/-- what a walk owes from a frame on -/
def Go (p : Program) (e : Env) (below : List Frame) (W : State → Outcome → Prop) (T : State) (g : JFrame) : Prop := ∃ t o, Steps p.tables e below (T.setTop g) t ∧ t.status = .running ∧ Ended t below o ∧ W t o
theorem Go.of {T T' : State} {g g' : JFrame} (q : ∀ t, Steps p.tables e below (T'.setTop g') t → Steps p.tables e below (T.setTop g) t) (k : Go p e below W T' g') : Go p e below W T g := by
  obtain ⟨t, o, h1, h2⟩ := k
  exact ⟨t, o, q t h1, h2⟩
theorem Go.ret (X : Stand p l e R s m args below meth c T locs cells slots) {g : JFrame} {v : Option Value} (hv : meth.sig.returnType = none → v = none) (hk : meth.locks = false)
    (st : ∀ fs, (∀ (f : JFrame) (acts : List Action), f.method = m → f.locked = none → f.entered = [] → (doReturn e (T.setTop f) acts v).1 = T.setFrames fs) → Steps p.tables e below (T.setTop g) (T.setFrames fs))
    (hq : ∀ t : State, t.heap = T.heap → FrameEnd s (.returned v) t locs cells slots → W t (.returned v)) : Go p e below W T g := by
  obtain ⟨fs, hr, hrun, hended, hW, hsame⟩ := X.leave (v := v) hv hk
  exact ⟨_, _, st fs hr, hrun, hended, hq _ rfl ⟨⟨_, rfl⟩, hW, hsame⟩⟩
/-- ireturn of a boolean, byte, char, short -/
theorem Go.retN (X : Stand p l e R s m args below meth c T locs cells slots) (hx : p.tables.exec = Jvm.exec) {pc : Nat} {Ls : Array Slot} {z w : Int32} {t : FieldType} {rest : List Value} (hret : meth.sig.returnType = some t) (ht : t = .boolean ∨ t = .byte ∨ t = .char ∨ t = .short) (hd : decode c.code pc = .ok (.ireturn, 1)) (hk : meth.locks = false) (hn : nar t z = w)
    (hq : ∀ t : State, t.heap = T.heap → FrameEnd s (.returned (some (.int w))) t locs cells slots → W t (.returned (some (.int w)))) : Go p e below W T (mkF m pc Ls (.int z :: rest)) := by
  subst hn
  exact Go.ret X (fun q => by rw [hret] at q; cases q) hk (fun fs hr => Jvm.RoadKit.retN X hx hret ht hd hr) hq
theorem Go.retI (X : Stand p l e R s m args below meth c T locs cells slots) (hx : p.tables.exec = Jvm.exec) {pc : Nat} {Ls : Array Slot} {z w : Int32} {rest : List Value} (hret : meth.sig.returnType = some .int) (hd : decode c.code pc = .ok (.ireturn, 1)) (hk : meth.locks = false) (hn : z = w)
    (hq : ∀ t : State, t.heap = T.heap → FrameEnd s (.returned (some (.int w))) t locs cells slots → W t (.returned (some (.int w)))) : Go p e below W T (mkF m pc Ls (.int z :: rest)) := by
  subst hn
  exact Go.ret X (fun q => by rw [hret] at q; cases q) hk (fun fs hr => retOut X hx hret rfl (Or.inl ⟨rfl, Or.inl rfl, z, rfl⟩) hd hr) hq
theorem Go.retJ (X : Stand p l e R s m args below meth c T locs cells slots) (hx : p.tables.exec = Jvm.exec) {pc : Nat} {Ls : Array Slot} {z w : Int64} {rest : List Value} (hret : meth.sig.returnType = some .long) (hd : decode c.code pc = .ok (.lreturn, 1)) (hk : meth.locks = false) (hn : z = w)
    (hq : ∀ t : State, t.heap = T.heap → FrameEnd s (.returned (some (.long w))) t locs cells slots → W t (.returned (some (.long w)))) : Go p e below W T (mkF m pc Ls (.long z :: rest)) := by
  subst hn
  exact Go.ret X (fun q => by rw [hret] at q; cases q) hk (fun fs hr => retOut X hx hret rfl (Or.inr (Or.inl ⟨rfl, rfl, z, rfl⟩)) hd hr) hq
theorem Go.retA (X : Stand p l e R s m args below meth c T locs cells slots) (hx : p.tables.exec = Jvm.exec) {pc : Nat} {Ls : Array Slot} {t : FieldType} {a : Addr} {rest : List Value} (hret : meth.sig.returnType = some t) (ht : t.isReference = true) (hnr : narrow t (.ref a) = .ref a) (hd : decode c.code pc = .ok (.areturn, 1)) (hk : meth.locks = false)
    (hq : ∀ t : State, t.heap = T.heap → FrameEnd s (.returned (some (.ref a))) t locs cells slots → W t (.returned (some (.ref a)))) : Go p e below W T (mkF m pc Ls (.ref a :: rest)) :=
  Go.ret X (fun q => by rw [hret] at q; cases q) hk (fun fs hr => retOut X hx hret hnr (Or.inr (Or.inr (Or.inr (Or.inr ⟨rfl, ht, rfl⟩)))) hd hr) hq
theorem Go.retV (X : Stand p l e R s m args below meth c T locs cells slots) (hx : p.tables.exec = Jvm.exec) {pc : Nat} {Ls : Array Slot} (hret : meth.sig.returnType = none) (hd : decode c.code pc = .ok (.return_, 1)) (hk : meth.locks = false)
    (hq : ∀ t : State, t.heap = T.heap → FrameEnd s (.returned none) t locs cells slots → W t (.returned none)) : Go p e below W T (mkF m pc Ls []) :=
  Go.ret X (fun _ => rfl) hk (fun fs hr => X.returnOut hx hret hd hr) hq
/-- a body's contract out of its walk -/
theorem own_body {y : MethodName} {bytes : ByteArray} {maxL : Nat} {ret : Option FieldType} {ws : List Jvm.Cond} {rm : Room} {as' : Array Value} {Q : Option Value → Heap → List Loc → Prop} {Ls : Array Slot} (hpn : plainFor y = true) (hef : ∀ m, entryFrame m as' maxL = mkF m 0 Ls [])
    (walk : ∀ (p : Program) (e : Env) (s : State) (m : MethodId) (below : List Frame) (meth : Method) (c : Code) (T : State) (W : State → Outcome → Prop), Stand p l e rm s m as' below meth c T [] 0 0 → p.tables.exec = Jvm.exec → c.code = bytes → c.maxLocals = maxL → meth.sig.returnType = ret → meth.locks = false → s.vm.findClass y.cls = some m.cls → meth.name = y.name → Z.Warmed39 s.vm → T.heap = h →
      (∀ (t : State) v L cells slots, Q v t.heap L → FrameEnd s (.returned v) t L cells slots → cells ≤ rm.cells → slots ≤ rm.slots → W t (.returned v)) → Go p e below W T (mkF m 0 Ls [])) :
    MetFree l y (head1 (Jvm.Cond.code y bytes maxL ret :: ws) rm) (fun a U => a = as' ∧ Z.Warmed39 U.vm ∧ U.heap = h) (fun _ _ _ _ _ => True) (fun _ U o U' => ∃ v L, o = .returned v ∧ Q v U'.heap L ∧ FrameEnd U o U' L rm.cells rm.slots) := by
  refine MetFree.of_bodySF hpn hisR ?_
  intro p e s m args below meth c s₁ Bd hml hP hK
  obtain ⟨rfl, hZ, hh⟩ := hP
  obtain ⟨t, o, h1, h2, h3, h4⟩ := walk p e s m below meth c s₁ (fun t o => ∃ v L, o = .returned v ∧ Q v t.heap L ∧ FrameEnd s o t L rm.cells rm.slots) (Stand.of_body Bd) Bd.exec Bd.bytes hml Bd.returns (BodyLoose.notSynchronized Bd) (findClass_of_methodNamed Bd.named) (name_of_methodNamed Bd.named Bd.method).1 hZ (by rw [← hh, Bd.state]; rfl)
    (fun t v L cells slots hQ hF hc hs => ⟨v, L, rfl, hQ, hF.1, hF.2.1, hF.2.2.mono hc hs⟩)
  exact ⟨t, o, castTop (hef m) h1, h2, h3, h4⟩
/-- a contract, written short -/
abbrev Con (l : Launch) (Z : State) (y : MethodName) (bytes : ByteArray) (maxL : Nat) (ret : Option FieldType) (ws : List Jvm.Cond) (rm : Room) (as' : Array Value) (h : Heap) (Q : Option Value → Heap → List Loc → Prop) : Prop :=
  MetFree l y (head1 (Jvm.Cond.code y bytes maxL ret :: ws) rm) (fun a U => a = as' ∧ Z.Warmed39 U.vm ∧ U.heap = h) (fun _ _ _ _ _ => True) (fun _ U o U' => ∃ v L, o = .returned v ∧ Q v U'.heap L ∧ FrameEnd U o U' L rm.cells rm.slots)
/-- what a callee that leaves the heap as it is says -/
def PQ (w : Value) (h0 : Heap) (v : Option Value) (h : Heap) (L : List Loc) : Prop := v = some w ∧ L = [] ∧ h = h0
theorem Go.callS (X : Stand p l e R s m args below meth c T locs cells slots) (hx : p.tables.exec = Jvm.exec) (hZ : Z.Warmed39 s.vm) {own : String} {index : Nat} {y : MethodName} {bytes : ByteArray} {maxL : Nat} {ret : Option FieldType} {rm : Room} {as' : Array Value} {Q : Option Value → Heap → List Loc → Prop} (hown : s.vm.findClass own = some m.cls)
    (w1 : (Jvm.Cond.methodLink own index y).before a0 Z = true) (w2 : (Jvm.Cond.static y).before a0 Z = true) (w3 : (Jvm.Cond.initialized y.cls).before a0 Z = true) (w4 : (Jvm.Cond.code y bytes maxL ret).before a0 Z = true) (hy : y.cls ≠ "java/lang/invoke/MethodHandle" ∧ y.cls ≠ "java/lang/invoke/VarHandle") (eT : T.heap = h)
    (hM : Con l Z y bytes maxL ret [] rm as' h Q) {V : Nat} (hf : rm.frames + 1 ≤ R.frames) (hl : V + (maxL + 11) + rm.locals ≤ R.locals) (hc : cells + rm.cells ≤ R.cells) (hs : slots + rm.slots ≤ R.slots)
    {pc : Nat} {Ls : Array Slot} {st : List Value} (hsize : Ls.size = c.maxLocals) {argsL rest : List Value} (has : argsL.toArray = as') (hlen : ∀ sig, parseMethodDescriptor y.desc = some sig → argsL.length = sig.parameters.length) (hstack : st = argsL.reverse ++ rest) (hV : (rest.map fun v => v.category).sum ≤ V) (hd : decode c.code pc = .ok (.invokestatic index, 3))
    (K : ∀ T' v L, Q v T'.heap L → Stand p l e R s m args below meth c T' (locs ++ L) (cells + rm.cells) (slots + rm.slots) → Go p e below W T' (mkF m (pc + 3) Ls (v.toList ++ rest))) : Go p e below W T (mkF m pc Ls st) := by
  obtain ⟨v, vm₁, ⟨T', L', k', n'⟩, -, X', ⟨L, hQ, e1, e2, e3⟩, st'⟩ := Jvm.LawKit.callS X hx hown (mvT hZ w1) (mvT hZ w2) (mvT hZ w3) (mvT hZ w4) hy (backOf (W := V) hM hZ w4 w3 hf hl) (g := mkF m pc Ls st) rfl hsize hlen hstack (by show 2 * 0 + _ ≤ _; omega) hd (fun _ _ => ⟨has, eT, hc, hs⟩)
  dsimp only [Pt.U, Pt.locs, Pt.cells, Pt.slots] at X' e1 e2 e3 st' hQ
  subst e1 e2 e3
  exact Go.of st' (K _ _ _ hQ X')
theorem Go.callP (X : Stand p l e R s m args below meth c T locs cells slots) (hx : p.tables.exec = Jvm.exec) (hZ : Z.Warmed39 s.vm) {own : String} {index : Nat} {y : MethodName} {bytes : ByteArray} {maxL : Nat} {ret : Option FieldType} {rm : Room} {as' : Array Value} {w : Value} (hown : s.vm.findClass own = some m.cls)
    (w1 : (Jvm.Cond.methodLink own index y).before a0 Z = true) (w2 : (Jvm.Cond.static y).before a0 Z = true) (w3 : (Jvm.Cond.initialized y.cls).before a0 Z = true) (w4 : (Jvm.Cond.code y bytes maxL ret).before a0 Z = true) (hy : y.cls ≠ "java/lang/invoke/MethodHandle" ∧ y.cls ≠ "java/lang/invoke/VarHandle") (eT : T.heap = h)
    (hM : Con l Z y bytes maxL ret [] rm as' h (PQ w h)) {V : Nat} (hf : rm.frames + 1 ≤ R.frames) (hl : V + (maxL + 11) + rm.locals ≤ R.locals) (z1 : rm.cells = 0) (z2 : rm.slots = 0) (hc : cells ≤ R.cells) (hs : slots ≤ R.slots)
    {pc : Nat} {Ls : Array Slot} {st : List Value} (hsize : Ls.size = c.maxLocals) {argsL rest : List Value} (has : argsL.toArray = as') (hlen : ∀ sig, parseMethodDescriptor y.desc = some sig → argsL.length = sig.parameters.length) (hstack : st = argsL.reverse ++ rest) (hV : (rest.map fun v => v.category).sum ≤ V) (hd : decode c.code pc = .ok (.invokestatic index, 3))
    (K : ∀ T', Stand p l e R s m args below meth c T' locs cells slots → T'.heap = h → Go p e below W T' (mkF m (pc + 3) Ls (w :: rest))) : Go p e below W T (mkF m pc Ls st) := by
  refine Go.callS X hx hZ hown w1 w2 w3 w4 hy eT hM hf hl (by rw [z1]; exact hc) (by rw [z2]; exact hs) hsize has hlen hstack hV hd ?_
  rintro T' v L ⟨rfl, rfl, h3⟩ X'
  rw [z1, z2, List.append_nil] at X'
  exact K T' X' h3
end OwnKit
section OwnHeap
variable {p : Program} {l : Launch} {e : Env} {R : Room} {s : State} {m : MethodId} {args : Array Value} {below : List Frame} {meth : Method} {c : Code} {T : State} {locs : List Loc} {cells slots : Nat} {Z : State} {a0 : Array Value} {h h' : Heap} {W : State → Outcome → Prop}
/-- an array: its kind, its length, the ints in its places -/
def AI (Z : State) (h : Heap) (a : Addr) (ty : FieldType) (n : Nat) (f : Nat → Int32) : Prop := ∃ cl : Cell, Arr Z h a cl ty ∧ cl.slots.size = n ∧ n < 2 ^ 31 ∧ ∀ j, j < n → cl.slots[j]? = some (.int (f j)) ∧ fits ty (.int (f j)) = true
theorem AI.lt {a : Addr} {ty : FieldType} {n : Nat} {f : Nat → Int32} (A : AI Z h a ty n f) : a < h.size := by obtain ⟨cl, A, -⟩ := A; exact A.lt
theorem AI.small {a : Addr} {ty : FieldType} {n : Nat} {f : Nat → Int32} (A : AI Z h a ty n f) : n < 2 ^ 31 := by obtain ⟨cl, -, -, h, -⟩ := A; exact h
theorem AI.ext {a : Addr} {ty : FieldType} {n : Nat} {f : Nat → Int32} (A : AI Z h a ty n f) (E : Ext h h') : AI Z h' a ty n f := by obtain ⟨cl, A, r⟩ := A; exact ⟨cl, A.ext E, r⟩
theorem AI.other {a b : Addr} {ty : FieldType} {n sl : Nat} {f : Nat → Int32} {v : Value} (A : AI Z h b ty n f) (W : Wr h h' a sl v) (q : b ≠ a) : AI Z h' b ty n f := by obtain ⟨cl, A, r⟩ := A; exact ⟨cl, A.other W q, r⟩
theorem AI.keep {a : Addr} {ty : FieldType} {n : Nat} {f : Nat → Int32} {ws : List Addr} (A : AI Z h a ty n f) (K : Keep h h' ws) (q : a ∉ ws) : AI Z h' a ty n f := by obtain ⟨cl, A, r⟩ := A; exact ⟨cl, ⟨K.2.1 a cl A.1 q, A.2⟩, r⟩
theorem AI.congr {a : Addr} {ty : FieldType} {n : Nat} {f g : Nat → Int32} (A : AI Z h a ty n f) (q : ∀ j, j < n → f j = g j) : AI Z h a ty n g := by obtain ⟨cl, A, r1, r2, r3⟩ := A; exact ⟨cl, A, r1, r2, fun j hj => by rw [← q j hj]; exact r3 j hj⟩
def upd (f : Nat → Int32) (i : Nat) (x : Int32) : Nat → Int32 := fun j => if j = i then x else f j
theorem AI.set {a : Addr} {ty : FieldType} {n i : Nat} {f : Nat → Int32} {x : Int32} (A : AI Z h a ty n f) (W : Wr h h' a i (.int x)) (hv : fits ty (.int x) = true) : AI Z h' a ty n (upd f i x) := by
  obtain ⟨cl, A, r1, r2, r3⟩ := A
  refine ⟨_, A.same W, by rw [sz_set]; exact r1, r2, fun j hj => ?_⟩
  simp only [Cell.setSlot, upd]
  by_cases q : j = i
  · subst q; rw [if_pos rfl]; exact ⟨by simp [r1, hj], hv⟩
  · rw [if_neg q, Array.getElem?_setIfInBounds_ne (Ne.symm q)]; exact r3 j hj
/-- a place within the length -/
def PV (h0 : Heap) (v : Option Value) (h : Heap) (L : List Loc) : Prop := v = none ∧ L = [] ∧ h = h0
def inb (j : Int32) (n : Nat) : Prop := ¬ j < 0 ∧ j.toNatClampNeg < n
theorem inb.no {cl : Cell} {j : Int32} {n : Nat} (q : inb j n) (r : cl.slots.size = n) : ¬ (j < 0 ∨ cl.slots.size ≤ j.toNatClampNeg) := by rw [r]; exact fun z => z.elim q.1 (fun z => absurd q.2 (Nat.not_lt.mpr z))
theorem Go.alen (X : Stand p l e R s m args below meth c T locs cells slots) (hx : p.tables.exec = Jvm.exec) (hZ : Z.Warmed39 s.vm) (eT : T.heap = h) {a : Addr} {ty : FieldType} {n : Nat} {f : Nat → Int32} (A : AI Z h a ty n f) {pc : Nat} {Ls : Array Slot} {st : List Value} (hd : decode c.code pc = .ok (.arraylength, 1))
    (K : Go p e below W T (mkF m (pc + 1) Ls (.int n.toInt32 :: st))) : Go p e below W T (mkF m pc Ls (.ref a :: st)) := by
  obtain ⟨cl, A, r1, -⟩ := A
  subst r1
  exact Go.of (fun t k => X.arraylength hx (by rw [eT]; exact A.1) (State.isArrayOf_alike hZ.alike A.2.1) (g := mkF m pc Ls (.ref a :: st)) rfl rfl hd t k) K
theorem Go.iald (X : Stand p l e R s m args below meth c T locs cells slots) (hx : p.tables.exec = Jvm.exec) (hZ : Z.Warmed39 s.vm) (eT : T.heap = h) {a : Addr} {n : Nat} {f : Nat → Int32} (A : AI Z h a .int n f) {j : Int32} (hj : inb j n) {pc : Nat} {Ls : Array Slot} {st : List Value} (hd : decode c.code pc = .ok (.iaload, 1))
    (K : Go p e below W T (mkF m (pc + 1) Ls (.int (f j.toNatClampNeg) :: st))) : Go p e below W T (mkF m pc Ls (.int j :: .ref a :: st)) := by
  obtain ⟨cl, A, r1, -, r3⟩ := A
  exact Go.of (fun t k => X.iaload hx (j := j) (v := .int (f j.toNatClampNeg)) (by rw [eT]; exact A.1) (State.isArrayOf_alike hZ.alike A.2.1) A.2.2 (hj.no r1) (r3 _ hj.2).1 (g := mkF m pc Ls (.int j :: .ref a :: st)) rfl rfl hd t k) K
theorem Go.cald (X : Stand p l e R s m args below meth c T locs cells slots) (hx : p.tables.exec = Jvm.exec) (hZ : Z.Warmed39 s.vm) (eT : T.heap = h) {a : Addr} {n : Nat} {f : Nat → Int32} (A : AI Z h a .char n f) {j : Int32} (hj : inb j n) {pc : Nat} {Ls : Array Slot} {st : List Value} (hd : decode c.code pc = .ok (.caload, 1))
    (K : Go p e below W T (mkF m (pc + 1) Ls (.int (f j.toNatClampNeg) :: st))) : Go p e below W T (mkF m pc Ls (.int j :: .ref a :: st)) := by
  obtain ⟨cl, A, r1, -, r3⟩ := A
  exact Go.of (fun t k => X.caload hx (j := j) (v := .int (f j.toNatClampNeg)) (by rw [eT]; exact A.1) (State.isArrayOf_alike hZ.alike A.2.1) A.2.2 (hj.no r1) (r3 _ hj.2).1 (g := mkF m pc Ls (.int j :: .ref a :: st)) rfl rfl hd t k) K
theorem Go.bald (X : Stand p l e R s m args below meth c T locs cells slots) (hx : p.tables.exec = Jvm.exec) (hZ : Z.Warmed39 s.vm) (eT : T.heap = h) {a : Addr} {n : Nat} {f : Nat → Int32} (A : AI Z h a .byte n f) {j : Int32} (hj : inb j n) {pc : Nat} {Ls : Array Slot} {st : List Value} (hd : decode c.code pc = .ok (.baload, 1))
    (K : Go p e below W T (mkF m (pc + 1) Ls (.int (f j.toNatClampNeg) :: st))) : Go p e below W T (mkF m pc Ls (.int j :: .ref a :: st)) := by
  obtain ⟨cl, A, r1, -, r3⟩ := A
  exact Go.of (fun t k => X.baloadBytes hx (j := j) (v := .int (f j.toNatClampNeg)) (by rw [eT]; exact A.1) (State.isArrayOf_alike hZ.alike A.2.1) A.2.2 (hj.no r1) (r3 _ hj.2).1 (g := mkF m pc Ls (.int j :: .ref a :: st)) rfl rfl hd t k) K
theorem Go.zald (X : Stand p l e R s m args below meth c T locs cells slots) (hx : p.tables.exec = Jvm.exec) (hZ : Z.Warmed39 s.vm) (eT : T.heap = h) {a : Addr} {n : Nat} {f : Nat → Int32} (A : AI Z h a .boolean n f) {j : Int32} (hj : inb j n) {pc : Nat} {Ls : Array Slot} {st : List Value} (hd : decode c.code pc = .ok (.baload, 1))
    (K : Go p e below W T (mkF m (pc + 1) Ls (.int (f j.toNatClampNeg) :: st))) : Go p e below W T (mkF m pc Ls (.int j :: .ref a :: st)) := by
  obtain ⟨cl, A, r1, -, r3⟩ := A
  exact Go.of (fun t k => X.baloadBooleans hx (j := j) (v := .int (f j.toNatClampNeg)) (by rw [eT]; exact A.1) (State.isArrayOf_alike hZ.alike A.2.1) A.2.2 (hj.no r1) (r3 _ hj.2).1 (g := mkF m pc Ls (.int j :: .ref a :: st)) rfl rfl hd t k) K
theorem Go.ist (X : Stand p l e R s m args below meth c T locs cells slots) (hx : p.tables.exec = Jvm.exec) (hZ : Z.Warmed39 s.vm) (eT : T.heap = h) {n0 : Nat} (N : Fr n0 locs) {a : Addr} (ga : n0 ≤ a) {n : Nat} {f : Nat → Int32} (A : AI Z h a .int n f) {j x : Int32} (hj : inb j n) {pc : Nat} {Ls : Array Slot} {st : List Value} (hd : decode c.code pc = .ok (.iastore, 1))
    (K : ∀ T' h' L', Stand p l e R s m args below meth c T' L' cells slots → Fr n0 L' → T'.heap = h' → Wr h h' a j.toNatClampNeg (.int x) → AI Z h' a .int n (upd f j.toNatClampNeg x) → Go p e below W T' (mkF m (pc + 1) Ls st)) : Go p e below W T (mkF m pc Ls (.int x :: .int j :: .ref a :: st)) := by
  obtain ⟨cl, A', r1, r2, r3⟩ := id A
  obtain ⟨T', h', X', e', W', st'⟩ := stI X hx hZ eT A' (j := j) (hj.no r1) (g := mkF m pc Ls (.int x :: .int j :: .ref a :: st)) rfl rfl hd
  exact Go.of st' (K _ _ _ X' (Fr.snoc X' N ga) e' W' (A.set W' rfl))
theorem Go.bst (X : Stand p l e R s m args below meth c T locs cells slots) (hx : p.tables.exec = Jvm.exec) (hZ : Z.Warmed39 s.vm) (eT : T.heap = h) {n0 : Nat} (N : Fr n0 locs) {a : Addr} (ga : n0 ≤ a) {n : Nat} {f : Nat → Int32} (A : AI Z h a .byte n f) {j x : Int32} (hj : inb j n) {pc : Nat} {Ls : Array Slot} {st : List Value} (hd : decode c.code pc = .ok (.bastore, 1))
    (K : ∀ T' h' L', Stand p l e R s m args below meth c T' L' cells slots → Fr n0 L' → T'.heap = h' → Wr h h' a j.toNatClampNeg (.int (nar .byte x)) → AI Z h' a .byte n (upd f j.toNatClampNeg (nar .byte x)) → Go p e below W T' (mkF m (pc + 1) Ls st)) : Go p e below W T (mkF m pc Ls (.int x :: .int j :: .ref a :: st)) := by
  obtain ⟨cl, A', r1, r2, r3⟩ := id A
  obtain ⟨T', h', X', e', W', st'⟩ := stB X hx hZ eT A' (j := j) (hj.no r1) (g := mkF m pc Ls (.int x :: .int j :: .ref a :: st)) rfl rfl hd
  exact Go.of st' (K _ _ _ X' (Fr.snoc X' N ga) e' W' (A.set W' (fits_nar_byte _)))
theorem Go.zst (X : Stand p l e R s m args below meth c T locs cells slots) (hx : p.tables.exec = Jvm.exec) (hZ : Z.Warmed39 s.vm) (eT : T.heap = h) {n0 : Nat} (N : Fr n0 locs) {a : Addr} (ga : n0 ≤ a) {n : Nat} {f : Nat → Int32} (A : AI Z h a .boolean n f) {j x : Int32} (hj : inb j n) {pc : Nat} {Ls : Array Slot} {st : List Value} (hd : decode c.code pc = .ok (.bastore, 1))
    (K : ∀ T' h' L', Stand p l e R s m args below meth c T' L' cells slots → Fr n0 L' → T'.heap = h' → Wr h h' a j.toNatClampNeg (.int (nar .boolean x)) → AI Z h' a .boolean n (upd f j.toNatClampNeg (nar .boolean x)) → Go p e below W T' (mkF m (pc + 1) Ls st)) : Go p e below W T (mkF m pc Ls (.int x :: .int j :: .ref a :: st)) := by
  obtain ⟨cl, A', r1, r2, r3⟩ := id A
  obtain ⟨T', h', X', e', W', st'⟩ := stZ X hx hZ eT A' (j := j) (hj.no r1) (g := mkF m pc Ls (.int x :: .int j :: .ref a :: st)) rfl rfl hd
  exact Go.of st' (K _ _ _ X' (Fr.snoc X' N ga) e' W' (A.set W' (fits_nar_bool _)))
theorem Go.cst (X : Stand p l e R s m args below meth c T locs cells slots) (hx : p.tables.exec = Jvm.exec) (hZ : Z.Warmed39 s.vm) (eT : T.heap = h) {n0 : Nat} (N : Fr n0 locs) {a : Addr} (ga : n0 ≤ a) {n : Nat} {f : Nat → Int32} (A : AI Z h a .char n f) {j x : Int32} (hj : inb j n) {pc : Nat} {Ls : Array Slot} {st : List Value} (hd : decode c.code pc = .ok (.castore, 1))
    (K : ∀ T' h' L', Stand p l e R s m args below meth c T' L' cells slots → Fr n0 L' → T'.heap = h' → Wr h h' a j.toNatClampNeg (.int (nar .char x)) → AI Z h' a .char n (upd f j.toNatClampNeg (nar .char x)) → Go p e below W T' (mkF m (pc + 1) Ls st)) : Go p e below W T (mkF m pc Ls (.int x :: .int j :: .ref a :: st)) := by
  obtain ⟨cl, A', r1, r2, r3⟩ := id A
  obtain ⟨T', h', X', e', W', st'⟩ := stC X hx hZ eT A' (j := j) (hj.no r1) (g := mkF m pc Ls (.int x :: .int j :: .ref a :: st)) rfl rfl hd
  exact Go.of st' (K _ _ _ X' (Fr.snoc X' N ga) e' W' (A.set W' (fits_nar_char _)))
theorem AI.new {b cA : Nat} {ty : FieldType} {n : Int32} (A : Arr Z h b (newA cA ty n) ty) (hd : defaultValue ty = .int 0) (hf : fits ty (.int 0) = true) : AI Z h b ty n.toNatClampNeg (fun _ => 0) := by
  refine ⟨_, A, sz_new _ _ _, ?_, fun j hj => ?_⟩
  · show n.toInt.toNat < 2 ^ 31
    have := n.toInt_lt; omega
  · exact ⟨by simp [newA, hj, hd], hf⟩
theorem Go.newA (X : Stand p l e R s m args below meth c T locs cells slots) (hx : p.tables.exec = Jvm.exec) (hZ : Z.Warmed39 s.vm) {aty : ArrayType} (w : (Jvm.Cond.arrayClass (newarray.typeOf aty)).before a0 Z = true) (hdef : defaultValue (newarray.typeOf aty) = .int 0) (hft : fits (newarray.typeOf aty) (.int 0) = true) {ad : String} (had : "[" ++ (newarray.typeOf aty).toString = ad) (eT : T.heap = h) {pc : Nat} {Ls : Array Slot} {n : Int32} {st : List Value} (hd : decode c.code pc = .ok (.newarray aty, 2))
    (hn : ¬ n < 0) {cap : Nat} (hcap : n.toNatClampNeg ≤ cap) (hb : cap * 8 ≤ 536870912) (hc : cells + 1 ≤ R.cells) (hl : slots + cap ≤ R.slots)
    (K : ∀ T' h' b, b = h.size → Stand p l e R s m args below meth c T' locs (cells + 1) (slots + cap) → T'.heap = h' → Ext h h' → Exa Z h' b ad → AI Z h' b (newarray.typeOf aty) n.toNatClampNeg (fun _ => 0) → Go p e below W T' (mkF m (pc + 2) Ls (.ref b :: st))) : Go p e below W T (mkF m pc Ls (.int n :: st)) := by
  obtain ⟨T', h', cA, X', e', E', A', B', st'⟩ := newPE X hx hZ w eT (g := mkF m pc Ls (.int n :: st)) rfl hd rfl hn hcap hb hc hl had
  exact Go.of st' (K _ _ _ rfl X' e' E' B' (AI.new A' hdef hft))
theorem Go.newO (X : Stand p l e R s m args below meth c T locs cells slots) (hx : p.tables.exec = Jvm.exec) (hZ : Z.Warmed39 s.vm) {own C : String} {index n : Nat} (hown : s.vm.findClass own = some m.cls) (w : (Jvm.Cond.classLink own index C).before a0 Z = true) (wi : (Jvm.Cond.instantiable C n).before a0 Z = true) (wz : (Jvm.Cond.initialized C).before a0 Z = true) (eT : T.heap = h)
    {pc : Nat} {Ls : Array Slot} {st : List Value} (hd : decode c.code pc = .ok (.new index, 3)) (hc : cells + 1 ≤ R.cells) (hl : slots + n ≤ R.slots)
    (K : ∀ T' h' b, b = h.size → Stand p l e R s m args below meth c T' locs (cells + 1) (slots + n) → T'.heap = h' → Ext h h' → Exa Z h' b C → (∀ {O nm d : String} {ty : FieldType}, Laid Z a0 C O nm d → parseFieldDescriptor d = some ty → Fld Z h' b O nm d (defaultValue ty)) → Go p e below W T' (mkF m (pc + 3) Ls (.ref b :: st))) : Go p e below W T (mkF m pc Ls st) := by
  obtain ⟨T', h', X', e', E', A', D', -, st'⟩ := Jvm.RoadKit.newO X hx hZ hown w wi wz eT (g := mkF m pc Ls st) rfl hd hc hl
  exact Go.of st' (K _ _ _ rfl X' e' E' A' D')
theorem Go.getF (X : Stand p l e R s m args below meth c T locs cells slots) (hx : p.tables.exec = Jvm.exec) (hZ : Z.Warmed39 s.vm) {own O n d : String} {index : Nat} (hown : s.vm.findClass own = some m.cls) (w : (Jvm.Cond.fieldLink own index O n d).before a0 Z = true) (eT : T.heap = h) {a : Addr} {v : Value} (F : Fld Z h a O n d v)
    {pc : Nat} {Ls : Array Slot} {st : List Value} (hd : decode c.code pc = .ok (.getfield index, 3)) (K : ∀ T', Stand p l e R s m args below meth c T' locs cells slots → T'.heap = h → Go p e below W T' (mkF m (pc + 3) Ls (v :: st))) : Go p e below W T (mkF m pc Ls (.ref a :: st)) := by
  obtain ⟨T', X', e', st'⟩ := Jvm.RoadKit.getF X hx hZ hown (host := "") (Or.inl w) Via.refl eT F (g := mkF m pc Ls (.ref a :: st)) rfl rfl hd
  exact Go.of st' (K _ X' e')
theorem Go.putF (X : Stand p l e R s m args below meth c T locs cells slots) (hx : p.tables.exec = Jvm.exec) (hZ : Z.Warmed39 s.vm) {own O n d C : String} {index kk : Nat} {ty : FieldType} (hown : s.vm.findClass own = some m.cls) (w : (Jvm.Cond.fieldLink own index O n d).before a0 Z = true) (eT : T.heap = h) {n0 : Nat} (N : Fr n0 locs) {a : Addr} (ga : n0 ≤ a) {v old : Value} (F : Fld Z h a O n d old) (E : Exa Z h a C)
    (L : (Jvm.Cond.lays C O n d).before a0 Z = true ∨ ((Jvm.Cond.laysFinal C O n d).before a0 Z = true ∧ own = O ∧ meth.name = "<init>")) (wi : (Jvm.Cond.instantiable C kk).before a0 Z = true) (hty : parseFieldDescriptor d = some ty) {v' : Value} (hn : narrow ty v = v') (hf : fits ty v' = true)
    {pc : Nat} {Ls : Array Slot} {st : List Value} (hd : decode c.code pc = .ok (.putfield index, 3)) (K : ∀ T' h' L', Stand p l e R s m args below meth c T' L' cells slots → Fr n0 L' → T'.heap = h' → Wr h h' a (Jvm.RoadKit.slotOf Z O n d) v' → Fld Z h' a O n d v' → Go p e below W T' (mkF m (pc + 3) Ls st)) : Go p e below W T (mkF m pc Ls (v :: .ref a :: st)) := by
  obtain ⟨T', h', X', e', W', st'⟩ := putFN X hx hZ hown w Via.refl eT F E L wi hty hn hf (g := mkF m pc Ls (v :: .ref a :: st)) rfl rfl hd
  exact Go.of st' (K _ _ _ X' (Fr.snoc X' N ga) e' W' (F.same W'))
theorem Go.initO (X : Stand p l e R s m args below meth c T locs cells slots) (hx : p.tables.exec = Jvm.exec) (hZ : Z.Warmed39 s.vm) {own : String} {idx : Nat} (hown : s.vm.findClass own = some m.cls) (w1 : (Jvm.Cond.methodLink own idx Lib.objectInit).before a0 Z = true) (w2 : (Jvm.Cond.instanceMethod Lib.objectInit).before a0 Z = true)
    (w3 : (Jvm.Cond.code Lib.objectInit Jvm.LibCode.Object.Init0.code 1 none).before a0 Z = true) (eT : T.heap = h) {pc : Nat} {Ls : Array Slot} {st : List Value} (hsize : Ls.size = c.maxLocals) {a : Addr} (hd : decode c.code pc = .ok (.invokespecial idx, 3)) (hf : 1 ≤ R.frames) {V : Nat} (hV : (st.map fun v => v.category).sum ≤ V) (hl : V + 12 ≤ R.locals)
    (K : ∀ T', Stand p l e R s m args below meth c T' locs cells slots → T'.heap = h → Go p e below W T' (mkF m (pc + 3) Ls st)) : Go p e below W T (mkF m pc Ls (.ref a :: st)) := by
  obtain ⟨T', X', e', st'⟩ := Jvm.RoadKit.initO X hx hZ hown w1 w2 w3 eT (g := mkF m pc Ls (.ref a :: st)) rfl hsize rfl hd hf (W := V) (by show 2 * 0 + _ ≤ _; omega) hl
  exact Go.of st' (K _ X' e')
/-- a constructor by its contract -/
theorem Go.callI (X : Stand p l e R s m args below meth c T locs cells slots) (hx : p.tables.exec = Jvm.exec) (hZ : Z.Warmed39 s.vm) {own : String} {index : Nat} {y : MethodName} {bytes : ByteArray} {maxL : Nat} {rm : Room} {as' : Array Value} {Q : Option Value → Heap → List Loc → Prop} (hy1 : y.name = "<init>") (hown : s.vm.findClass own = some m.cls)
    (w1 : (Jvm.Cond.methodLink own index y).before a0 Z = true) (w2 : (Jvm.Cond.instanceMethod y).before a0 Z = true) (w3 : (Jvm.Cond.initialized y.cls).before a0 Z = true) (w4 : (Jvm.Cond.code y bytes maxL none).before a0 Z = true) (hy : y.cls ≠ "java/lang/invoke/MethodHandle" ∧ y.cls ≠ "java/lang/invoke/VarHandle") (eT : T.heap = h)
    (hM : Con l Z y bytes maxL none [] rm as' h Q) {V : Nat} (hf : rm.frames + 1 ≤ R.frames) (hl : V + (maxL + 11) + rm.locals ≤ R.locals) (hc : cells + rm.cells ≤ R.cells) (hs : slots + rm.slots ≤ R.slots)
    {pc : Nat} {Ls : Array Slot} {st : List Value} (hsize : Ls.size = c.maxLocals) {a : Addr} {argsL rest : List Value} (has : (.ref a :: argsL).toArray = as') (hlen : ∀ sig, parseMethodDescriptor y.desc = some sig → argsL.length = sig.parameters.length) (hstack : st = argsL.reverse ++ .ref a :: rest) (hV : (rest.map fun v => v.category).sum ≤ V) (hd : decode c.code pc = .ok (.invokespecial index, 3))
    (K : ∀ T' v L, Q v T'.heap L → Stand p l e R s m args below meth c T' (locs ++ L) (cells + rm.cells) (slots + rm.slots) → Go p e below W T' (mkF m (pc + 3) Ls (v.toList ++ rest))) : Go p e below W T (mkF m pc Ls st) := by
  obtain ⟨v, vm₁, ⟨T', L', k', n'⟩, -, X', ⟨L, hQ, e1, e2, e3⟩, st'⟩ := X.specialBack hx hy1 hown (mvT hZ w1) (mvT hZ w2) (mvT hZ w4) hy (backOf (W := V) hM hZ w4 w3 hf hl) (g := mkF m pc Ls st) rfl hsize (Steps.refl _) hlen hstack (by show 2 * 0 + _ ≤ _; omega) hd (fun _ _ => ⟨has, eT, hc, hs⟩)
  dsimp only [Pt.U, Pt.locs, Pt.cells, Pt.slots] at X' e1 e2 e3 st' hQ
  subst e1 e2 e3
  exact Go.of (fun _ k => st'.trans k) (K _ _ _ hQ X')
/-- an instance method by the contract of the body that the receiver's class selects -/
theorem Go.callV (X : Stand p l e R s m args below meth c T locs cells slots) (hx : p.tables.exec = Jvm.exec) (hZ : Z.Warmed39 s.vm) {own C : String} {index : Nat} {y : MethodName} {bytes : ByteArray} {maxL : Nat} {ret : Option FieldType} {rm : Room} {as' : Array Value} {Q : Option Value → Heap → List Loc → Prop} (hown : s.vm.findClass own = some m.cls)
    (w1 : (Jvm.Cond.methodLink own index y).before a0 Z = true) (w5 : (Jvm.Cond.declares y).before a0 Z = true) (w6 : (Jvm.Cond.selects C y y).before a0 Z = true) (w2 : (Jvm.Cond.instanceMethod y).before a0 Z = true) (w3 : (Jvm.Cond.initialized y.cls).before a0 Z = true) (w4 : (Jvm.Cond.code y bytes maxL ret).before a0 Z = true) (hy : y.cls ≠ "java/lang/invoke/MethodHandle" ∧ y.cls ≠ "java/lang/invoke/VarHandle") (eT : T.heap = h)
    {a : Addr} (E : Exa Z h a C) (hM : Con l Z y bytes maxL ret [] rm as' h Q) {V : Nat} (hf : rm.frames + 1 ≤ R.frames) (hl : V + (maxL + 11) + rm.locals ≤ R.locals) (hc : cells + rm.cells ≤ R.cells) (hs : slots + rm.slots ≤ R.slots)
    {pc : Nat} {Ls : Array Slot} {st : List Value} (hsize : Ls.size = c.maxLocals) {argsL rest : List Value} (has : (.ref a :: argsL).toArray = as') (hlen : ∀ sig, parseMethodDescriptor y.desc = some sig → argsL.length = sig.parameters.length) (hstack : st = argsL.reverse ++ .ref a :: rest) (hV : (rest.map fun v => v.category).sum ≤ V) (hd : decode c.code pc = .ok (.invokevirtual index, 3))
    (K : ∀ T' v L, Q v T'.heap L → Stand p l e R s m args below meth c T' (locs ++ L) (cells + rm.cells) (slots + rm.slots) → Go p e below W T' (mkF m (pc + 3) Ls (v.toList ++ rest))) : Go p e below W T (mkF m pc Ls st) := by
  obtain ⟨cq, kq, qa, qb, qc⟩ := isOf hZ eT E
  obtain ⟨v, vm₁, ⟨T', L', k', n'⟩, -, X', ⟨L, hQ, e1, e2, e3⟩, st'⟩ := X.virtualBack hx hown (mvT hZ w1) (mvT hZ w5) (notFace_of_selects (args := #[]) (mvT hZ w6)) (mvT hZ w6) (mvT hZ w2) hy (backOf (W := V) hM hZ w4 w3 hf hl) qa qc (g := mkF m pc Ls st) rfl hsize (Steps.refl _) hlen hstack (by show 2 * 0 + _ ≤ _; omega) hd (fun _ _ => ⟨has, eT, hc, hs⟩)
  dsimp only [Pt.U, Pt.locs, Pt.cells, Pt.slots] at X' e1 e2 e3 st' hQ
  subst e1 e2 e3
  exact Go.of (fun _ k => st'.trans k) (K _ _ _ hQ X')
end OwnHeap
theorem pd___V : parseMethodDescriptor "()V" = some ⟨[], none⟩ := by decide +kernel
theorem pd___I : parseMethodDescriptor "()I" = some ⟨[], some .int⟩ := by decide +kernel
theorem pd__J_Z : parseMethodDescriptor "(J)Z" = some ⟨[.long], some .boolean⟩ := by decide +kernel
theorem pd__JI_V : parseMethodDescriptor "(JI)V" = some ⟨[.long, .int], none⟩ := by decide +kernel
theorem pd__ILcom_example_elect_elect_election_View_J_V : parseMethodDescriptor "(ILcom/example/elect/elect/election/View;J)V" = some ⟨[.int, (.object "com/example/elect/elect/election/View"), .long], none⟩ := by decide +kernel
theorem pd__J_J : parseMethodDescriptor "(J)J" = some ⟨[.long], some .long⟩ := by decide +kernel
theorem d2_0 : decode jdk_30_method_1_code 0 = .ok (.aload_n 0, 1) := by decide +kernel
theorem d2_1 : decode jdk_30_method_1_code 1 = .ok (.invokespecial 1, 3) := by decide +kernel
theorem d2_4 : decode jdk_30_method_1_code 4 = .ok (.return_, 1) := by decide +kernel
theorem pn_2 : plainFor (⟨"java/lang/Record", "<init>", "()V"⟩ : MethodName) = true := plainFor_of_name (by show plainName "java/lang/Record" = true; first | (simp [plainName, overriddenIn]; done) | decide +kernel)
theorem ef_2 (m : MethodId) (a1 : Addr) : entryFrame m #[(.ref a1)] 1 = mkF m 0 #[.val (.ref a1)] [] := by first | (simp [entryFrame, mkF, argsToLocals, Value.category]; done) | rfl
theorem d1_0 : decode prog_11_method_1_code 0 = .ok (.aload_n 0, 1) := by decide +kernel
theorem d1_1 : decode prog_11_method_1_code 1 = .ok (.invokespecial 1, 3) := by decide +kernel
theorem d1_4 : decode prog_11_method_1_code 4 = .ok (.aload_n 0, 1) := by decide +kernel
theorem d1_5 : decode prog_11_method_1_code 5 = .ok (.lload_n 1, 1) := by decide +kernel
theorem d1_6 : decode prog_11_method_1_code 6 = .ok (.putfield 7, 3) := by decide +kernel
theorem d1_9 : decode prog_11_method_1_code 9 = .ok (.aload_n 0, 1) := by decide +kernel
theorem d1_10 : decode prog_11_method_1_code 10 = .ok (.iload_n 3, 1) := by decide +kernel
theorem d1_11 : decode prog_11_method_1_code 11 = .ok (.putfield 13, 3) := by decide +kernel
theorem d1_14 : decode prog_11_method_1_code 14 = .ok (.return_, 1) := by decide +kernel
theorem pn_1 : plainFor (⟨"com/example/elect/elect/election/View", "<init>", "(JI)V"⟩ : MethodName) = true := plainFor_of_name (by show plainName "com/example/elect/elect/election/View" = true; first | (simp [plainName, overriddenIn]; done) | decide +kernel)
theorem ef_1 (m : MethodId) (a1 : Addr) (q2 : Int64) (p3 : Int32) : entryFrame m #[(.ref a1), (.long q2), (.int p3)] 4 = mkF m 0 #[.val (.ref a1), .val (.long q2), .second, .val (.int p3)] [] := by first | (simp [entryFrame, mkF, argsToLocals, Value.category]; done) | rfl
def Q1 (Z : State) (a1 : Addr) (q2 : Int64) (p3 : Int32) (h0 : Heap) (n0 : Nat) (v : Option Value) (h : Heap) (L : List Loc) : Prop := v = none ∧ Fr n0 L ∧ Keep h0 h [a1] ∧ Fld Z h a1 "com/example/elect/elect/election/View" "term" "J" (.long q2) ∧ Fld Z h a1 "com/example/elect/elect/election/View" "leader" "I" (.int p3)
theorem d4_0 : decode prog_9_method_1_code 0 = .ok (.aload_n 0, 1) := by decide +kernel
theorem d4_1 : decode prog_9_method_1_code 1 = .ok (.invokespecial 1, 3) := by decide +kernel
theorem d4_4 : decode prog_9_method_1_code 4 = .ok (.aload_n 0, 1) := by decide +kernel
theorem d4_5 : decode prog_9_method_1_code 5 = .ok (.iload_n 1, 1) := by decide +kernel
theorem d4_6 : decode prog_9_method_1_code 6 = .ok (.putfield 7, 3) := by decide +kernel
theorem d4_9 : decode prog_9_method_1_code 9 = .ok (.aload_n 0, 1) := by decide +kernel
theorem d4_10 : decode prog_9_method_1_code 10 = .ok (.aload_n 2, 1) := by decide +kernel
theorem d4_11 : decode prog_9_method_1_code 11 = .ok (.putfield 13, 3) := by decide +kernel
theorem d4_14 : decode prog_9_method_1_code 14 = .ok (.aload_n 0, 1) := by decide +kernel
theorem d4_15 : decode prog_9_method_1_code 15 = .ok (.lload_n 3, 1) := by decide +kernel
theorem d4_16 : decode prog_9_method_1_code 16 = .ok (.putfield 17, 3) := by decide +kernel
theorem d4_19 : decode prog_9_method_1_code 19 = .ok (.return_, 1) := by decide +kernel
theorem pn_4 : plainFor (⟨"com/example/elect/elect/election/Standing", "<init>", "(ILcom/example/elect/elect/election/View;J)V"⟩ : MethodName) = true := plainFor_of_name (by show plainName "com/example/elect/elect/election/Standing" = true; first | (simp [plainName, overriddenIn]; done) | decide +kernel)
theorem ef_4 (m : MethodId) (a1 : Addr) (p2 : Int32) (a3 : Addr) (q4 : Int64) : entryFrame m #[(.ref a1), (.int p2), (.ref a3), (.long q4)] 5 = mkF m 0 #[.val (.ref a1), .val (.int p2), .val (.ref a3), .val (.long q4), .second] [] := by first | (simp [entryFrame, mkF, argsToLocals, Value.category]; done) | rfl
def Q4 (Z : State) (a1 : Addr) (p2 : Int32) (a3 : Addr) (q4 : Int64) (h0 : Heap) (n0 : Nat) (v : Option Value) (h : Heap) (L : List Loc) : Prop := v = none ∧ Fr n0 L ∧ Keep h0 h [a1] ∧ Fld Z h a1 "com/example/elect/elect/election/Standing" "self" "I" (.int p2) ∧ Fld Z h a1 "com/example/elect/elect/election/Standing" "view" "Lcom/example/elect/elect/election/View;" (.ref a3) ∧ Fld Z h a1 "com/example/elect/elect/election/Standing" "leadsUntil" "J" (.long q4)
theorem d7_0 : decode prog_11_method_6_code 0 = .ok (.aload_n 0, 1) := by decide +kernel
theorem d7_1 : decode prog_11_method_6_code 1 = .ok (.getfield 13, 3) := by decide +kernel
theorem d7_4 : decode prog_11_method_6_code 4 = .ok (.ireturn, 1) := by decide +kernel
theorem pn_7 : plainFor (⟨"com/example/elect/elect/election/View", "leader", "()I"⟩ : MethodName) = true := plainFor_of_name (by show plainName "com/example/elect/elect/election/View" = true; first | (simp [plainName, overriddenIn]; done) | decide +kernel)
theorem ef_7 (m : MethodId) (a1 : Addr) : entryFrame m #[(.ref a1)] 1 = mkF m 0 #[.val (.ref a1)] [] := by first | (simp [entryFrame, mkF, argsToLocals, Value.category]; done) | rfl
def f7 (ld : Int32) : Int32 := ld
theorem d6_0 : decode prog_9_method_3_code 0 = .ok (.aload_n 0, 1) := by decide +kernel
theorem d6_1 : decode prog_9_method_3_code 1 = .ok (.getfield 13, 3) := by decide +kernel
theorem d6_4 : decode prog_9_method_3_code 4 = .ok (.invokevirtual 37, 3) := by decide +kernel
theorem d6_7 : decode prog_9_method_3_code 7 = .ok (.aload_n 0, 1) := by decide +kernel
theorem d6_8 : decode prog_9_method_3_code 8 = .ok (.getfield 7, 3) := by decide +kernel
theorem d6_11 : decode prog_9_method_3_code 11 = .ok (.if_icmp .ne 16, 3) := by decide +kernel
theorem d6_14 : decode prog_9_method_3_code 14 = .ok (.lload_n 1, 1) := by decide +kernel
theorem d6_15 : decode prog_9_method_3_code 15 = .ok (.aload_n 0, 1) := by decide +kernel
theorem d6_16 : decode prog_9_method_3_code 16 = .ok (.getfield 17, 3) := by decide +kernel
theorem d6_19 : decode prog_9_method_3_code 19 = .ok (.lcmp, 1) := by decide +kernel
theorem d6_20 : decode prog_9_method_3_code 20 = .ok (.ifCond .ge 7, 3) := by decide +kernel
theorem d6_23 : decode prog_9_method_3_code 23 = .ok (.iconst 1, 1) := by decide +kernel
theorem d6_24 : decode prog_9_method_3_code 24 = .ok (.goto 4, 3) := by decide +kernel
theorem d6_27 : decode prog_9_method_3_code 27 = .ok (.iconst 0, 1) := by decide +kernel
theorem d6_28 : decode prog_9_method_3_code 28 = .ok (.ireturn, 1) := by decide +kernel
theorem pn_6 : plainFor (⟨"com/example/elect/elect/election/Standing", "leadsAt", "(J)Z"⟩ : MethodName) = true := plainFor_of_name (by show plainName "com/example/elect/elect/election/Standing" = true; first | (simp [plainName, overriddenIn]; done) | decide +kernel)
theorem ef_6 (m : MethodId) (a1 : Addr) (q2 : Int64) : entryFrame m #[(.ref a1), (.long q2)] 3 = mkF m 0 #[.val (.ref a1), .val (.long q2), .second] [] := by first | (simp [entryFrame, mkF, argsToLocals, Value.category]; done) | rfl
def f6 (q2 : Int64) (ld : Int32) (sf : Int32) (lu : Int64) : Int32 := (if (f7 ld) = sf then (if q2 < lu then (1 : Int32) else (0 : Int32)) else (0 : Int32))
theorem d5_0 : decode prog_9_method_4_code 0 = .ok (.aload_n 0, 1) := by decide +kernel
theorem d5_1 : decode prog_9_method_4_code 1 = .ok (.lload_n 1, 1) := by decide +kernel
theorem d5_2 : decode prog_9_method_4_code 2 = .ok (.invokevirtual 41, 3) := by decide +kernel
theorem d5_5 : decode prog_9_method_4_code 5 = .ok (.ifCond .eq 12, 3) := by decide +kernel
theorem d5_8 : decode prog_9_method_4_code 8 = .ok (.aload_n 0, 1) := by decide +kernel
theorem d5_9 : decode prog_9_method_4_code 9 = .ok (.getfield 17, 3) := by decide +kernel
theorem d5_12 : decode prog_9_method_4_code 12 = .ok (.lload_n 1, 1) := by decide +kernel
theorem d5_13 : decode prog_9_method_4_code 13 = .ok (.lsub, 1) := by decide +kernel
theorem d5_14 : decode prog_9_method_4_code 14 = .ok (.goto 4, 3) := by decide +kernel
theorem d5_17 : decode prog_9_method_4_code 17 = .ok (.lconst 0, 1) := by decide +kernel
theorem d5_18 : decode prog_9_method_4_code 18 = .ok (.lreturn, 1) := by decide +kernel
theorem pn_5 : plainFor (⟨"com/example/elect/elect/election/Standing", "leadsForAt", "(J)J"⟩ : MethodName) = true := plainFor_of_name (by show plainName "com/example/elect/elect/election/Standing" = true; first | (simp [plainName, overriddenIn]; done) | decide +kernel)
theorem ef_5 (m : MethodId) (a1 : Addr) (q2 : Int64) : entryFrame m #[(.ref a1), (.long q2)] 3 = mkF m 0 #[.val (.ref a1), .val (.long q2), .second] [] := by first | (simp [entryFrame, mkF, argsToLocals, Value.category]; done) | rfl
def f5 (q2 : Int64) (ld : Int32) (sf : Int32) (lu : Int64) : Int64 := (if (f6 q2 ld sf lu) = (0 : Int32) then (0 : Int64) else (lu - q2))
theorem pn_0 : plainFor x = true := plainFor_of_name (by show plainName "com/example/elect/elect/election/StandingLeadsForAtPinLaw" = true; first | (simp [plainName, overriddenIn]; done) | decide +kernel)
theorem ef_0 (m : MethodId) (p1 : Int32) (p2 : Int32) (q3 : Int64) (q4 : Int64) (q5 : Int64) (p6 : Int32) : entryFrame m #[(.int p1), (.int p2), (.long q3), (.long q4), (.long q5), (.int p6)] maxLocals = mkF m 0 #[.val (.int p1), .val (.int p2), .val (.long q3), .second, .val (.long q4), .second, .val (.long q5), .second, .val (.int p6), .unset, .unset, .unset, .unset, .unset, .unset, .unset, .unset] [] := by first | (simp [entryFrame, mkF, argsToLocals, Value.category, maxLocals]; done) | rfl
def v0_3 (p1 : Int32) (p2 : Int32) (q3 : Int64) (q4 : Int64) (q5 : Int64) (p6 : Int32) : Int32 := (if (p6 &&& (1 : Int32)) = (0 : Int32) then p2 else p1)
def v0_5 (p1 : Int32) (p2 : Int32) (q3 : Int64) (q4 : Int64) (q5 : Int64) (p6 : Int32) : Int64 := ((q4 + (((p6 >>> ((2 : Int32) &&& 31)) &&& (3 : Int32)).toInt64)) - (2 : Int64))
def v0_7 (p1 : Int32) (p2 : Int32) (q3 : Int64) (q4 : Int64) (q5 : Int64) (p6 : Int32) : Int64 := (if (p6 &&& (2 : Int32)) = (0 : Int32) then q5 else (v0_5 p1 p2 q3 q4 q5 p6))
def v0_13 (p1 : Int32) (p2 : Int32) (q3 : Int64) (q4 : Int64) (q5 : Int64) (p6 : Int32) : Int64 := (f5 (v0_7 p1 p2 q3 q4 q5 p6) (v0_3 p1 p2 q3 q4 q5 p6) p1 q4)
def v0_17 (p1 : Int32) (p2 : Int32) (q3 : Int64) (q4 : Int64) (q5 : Int64) (p6 : Int32) : Int32 := (if (v0_3 p1 p2 q3 q4 q5 p6) = p1 then (if (v0_7 p1 p2 q3 q4 q5 p6) < q4 then (1 : Int32) else (0 : Int32)) else (0 : Int32))
def f0 (p1 : Int32) (p2 : Int32) (q3 : Int64) (q4 : Int64) (q5 : Int64) (p6 : Int32) : Int32 := (if (v0_17 p1 p2 q3 q4 q5 p6) = (0 : Int32) then (if (v0_13 p1 p2 q3 q4 q5 p6) = (0 : Int64) then (1 : Int32) else (0 : Int32)) else (if (v0_13 p1 p2 q3 q4 q5 p6) = (q4 - (v0_7 p1 p2 q3 q4 q5 p6)) then (if (v0_13 p1 p2 q3 q4 q5 p6) = (0 : Int64) then (0 : Int32) else (if ((v0_13 p1 p2 q3 q4 q5 p6) + (v0_7 p1 p2 q3 q4 q5 p6)) = q4 then (1 : Int32) else (0 : Int32))) else (0 : Int32)))
def Q0 (Z : State) (p1 : Int32) (p2 : Int32) (q3 : Int64) (q4 : Int64) (q5 : Int64) (p6 : Int32) (h0 : Heap) (n0 : Nat) (v : Option Value) (h : Heap) (L : List Loc) : Prop := v = some (.int (f0 p1 p2 q3 q4 q5 p6)) ∧ Fr n0 L ∧ Keep h0 h []
theorem own_law (p1 p2 : Int32) (q3 q4 q5 : Int64) (p6 : Int32) : f0 p1 p2 q3 q4 q5 p6 = 1 := by
  have e13 : v0_13 p1 p2 q3 q4 q5 p6 = f5 (v0_7 p1 p2 q3 q4 q5 p6) (v0_3 p1 p2 q3 q4 q5 p6) p1 q4 := rfl
  rw [f0, e13, v0_17]
  generalize v0_7 p1 p2 q3 q4 q5 p6 = now
  generalize v0_3 p1 p2 q3 q4 q5 p6 = ld
  simp only [f5, f6, f7]
  by_cases h1 : ld = p1
  · by_cases h2 : now < q4
    · have d : ¬ (1 : Int32) = 0 := by decide
      have e2 : q4 - now + now = q4 := Int64.sub_add_cancel q4 now
      have e3 : ¬ q4 - now = 0 := fun q => by
        rw [q, Int64.zero_add] at e2
        rw [e2] at h2
        exact Int64.lt_irrefl h2
      simp only [if_pos h1, if_pos h2, if_neg d, if_true, if_neg e3, if_pos e2]
    · simp only [if_pos h1, if_neg h2, if_true]
  · simp [h1]
set_option maxRecDepth 65536 in
set_option maxHeartbeats 40000000 in
theorem rm2 (l : Launch) (Z : State) (a0 : Array Value) (hw : ∀ d ∈ tables_1, d.before a0 Z = true) (ws : List Jvm.Cond) (a1 : Addr) (h0 : Heap) :
    Con l Z (⟨"java/lang/Record", "<init>", "()V"⟩ : MethodName) jdk_30_method_1_code 1 none ws ({ frames := 1, cells := 0, slots := 0, locals := 12 } : Room) #[(.ref a1)] h0 (PV h0) := by
  refine own_body pn_2 (fun m => ef_2 m a1) ?_
  intro p e s m below meth c T0 W X0 hx hby hml hret hlk hown hnm hZ e0 hW
  show Go p e below W T0 (mkF m 0 #[.val (.ref a1)] [])
  refine Go.of (fun _ k => XS.aloadN X0.here hx rfl (hb hby d2_0) rfl rfl k) ?_
  show Go p e below W T0 (mkF m 1 #[.val (.ref a1)] [(.ref a1)])
  refine Go.initO X0 hx hZ hown (hw _ (List.mem_of_getElem? (i := 12) rfl)) (hw _ (List.mem_of_getElem? (i := 13) rfl)) (hw _ (List.mem_of_getElem? (i := 14) rfl)) e0 (by rw [hml]; rfl) (hb hby d2_1) (by decide) (V := 0) (Nat.le_of_ble_eq_true rfl) (by decide) ?_
  intro T1 X1 e1
  show Go p e below W T1 (mkF m 4 #[.val (.ref a1)] [])
  exact Go.retV X1 hx hret (hb hby d2_4) hlk (fun t ht fe => hW t _ _ _ _ ⟨rfl, rfl, ht.trans e1⟩ fe (by decide) (by decide))
set_option maxRecDepth 65536 in
set_option maxHeartbeats 40000000 in
theorem rm1 (l : Launch) (Z : State) (a0 : Array Value) (hw : ∀ d ∈ tables_1, d.before a0 Z = true) (ws : List Jvm.Cond) (a1 : Addr) (q2 : Int64) (p3 : Int32) (h0 : Heap) (n0 : Nat) (Z0 : n0 ≤ h0.size) (E_a1 : Exa Z h0 a1 "com/example/elect/elect/election/View") (F_a1_term : Fld Z h0 a1 "com/example/elect/elect/election/View" "term" "J" (.long (0 : Int64))) (F_a1_leader : Fld Z h0 a1 "com/example/elect/elect/election/View" "leader" "I" (.int (0 : Int32))) (g_a1 : n0 ≤ a1) :
    Con l Z (⟨"com/example/elect/elect/election/View", "<init>", "(JI)V"⟩ : MethodName) prog_11_method_1_code 4 none ws ({ frames := 2, cells := 0, slots := 0, locals := 24 } : Room) #[(.ref a1), (.long q2), (.int p3)] h0 (Q1 Z a1 q2 p3 h0 n0) := by
  refine own_body pn_1 (fun m => ef_1 m a1 q2 p3) ?_
  intro p e s m below meth c T0 W X0 hx hby hml hret hlk hown hnm hZ e0 hW
  have K : Keep h0 h0 [a1] := Keep.refl _ _
  have N := Fr.nil n0
  show Go p e below W T0 (mkF m 0 #[.val (.ref a1), .val (.long q2), .second, .val (.int p3)] [])
  refine Go.of (fun _ k => XS.aloadN X0.here hx rfl (hb hby d1_0) rfl rfl k) ?_
  show Go p e below W T0 (mkF m 1 #[.val (.ref a1), .val (.long q2), .second, .val (.int p3)] [(.ref a1)])
  refine Go.callI X0 hx hZ rfl hown (hw _ (List.mem_of_getElem? (i := 7) rfl)) (hw _ (List.mem_of_getElem? (i := 8) rfl)) (hw _ (List.mem_of_getElem? (i := 10) rfl)) (hw _ (List.mem_of_getElem? (i := 11) rfl)) (by decide) e0 (rm2 l Z a0 hw [] a1 h0) (V := 0) (by decide) (by decide) (by decide) (by decide) (by rw [hml]; rfl) (argsL := []) (rest := []) rfl (lenOf pd___V rfl) rfl (Nat.le_of_ble_eq_true rfl) (hb hby d1_1) ?_
  rintro T1 _ _ ⟨rfl, rfl, e1⟩ X1
  rw [List.append_nil] at X1
  show Go p e below W T1 (mkF m 4 #[.val (.ref a1), .val (.long q2), .second, .val (.int p3)] [])
  refine Go.of (fun _ k => XS.aloadN X1.here hx rfl (hb hby d1_4) rfl rfl k) ?_
  show Go p e below W T1 (mkF m 5 #[.val (.ref a1), .val (.long q2), .second, .val (.int p3)] [(.ref a1)])
  refine Go.of (fun _ k => XS.lloadN X1.here hx rfl (hb hby d1_5) rfl k) ?_
  show Go p e below W T1 (mkF m 6 #[.val (.ref a1), .val (.long q2), .second, .val (.int p3)] [(.long q2), (.ref a1)])
  refine Go.putF X1 hx hZ hown (hw _ (List.mem_of_getElem? (i := 15) rfl)) e1 N g_a1 F_a1_term E_a1 (Or.inr ⟨(hw _ (List.mem_of_getElem? (i := 16) rfl)), rfl, hnm⟩) (hw _ (List.mem_of_getElem? (i := 2) rfl)) (ty := .long) (by decide) (v' := (.long q2)) rfl rfl (hb hby d1_6) ?_
  intro T2 h2 L2 X2 N e2 W2 F_a1_term
  have E_a1 := E_a1.wr W2
  have F_a1_leader := F_a1_leader.other W2 (Or.inr (slot_ne (Or.inr (hw _ (List.mem_of_getElem? (i := 18) rfl))) (Or.inr (hw _ (List.mem_of_getElem? (i := 16) rfl))) (by decide) (t := .int) (t' := .long) (by decide) (by decide)))
  have K := K.wr W2 (Or.inl (List.mem_of_getElem? (i := 0) rfl))
  have Z0 := Nat.le_trans Z0 (Keep.of_wr W2).1
  show Go p e below W T2 (mkF m 9 #[.val (.ref a1), .val (.long q2), .second, .val (.int p3)] [])
  refine Go.of (fun _ k => XS.aloadN X2.here hx rfl (hb hby d1_9) rfl rfl k) ?_
  show Go p e below W T2 (mkF m 10 #[.val (.ref a1), .val (.long q2), .second, .val (.int p3)] [(.ref a1)])
  refine Go.of (fun _ k => XS.iloadN X2.here hx rfl (hb hby d1_10) rfl k) ?_
  show Go p e below W T2 (mkF m 11 #[.val (.ref a1), .val (.long q2), .second, .val (.int p3)] [(.int p3), (.ref a1)])
  refine Go.putF X2 hx hZ hown (hw _ (List.mem_of_getElem? (i := 17) rfl)) e2 N g_a1 F_a1_leader E_a1 (Or.inr ⟨(hw _ (List.mem_of_getElem? (i := 18) rfl)), rfl, hnm⟩) (hw _ (List.mem_of_getElem? (i := 2) rfl)) (ty := .int) (by decide) (v' := (.int p3)) rfl rfl (hb hby d1_11) ?_
  intro T3 h3 L3 X3 N e3 W3 F_a1_leader
  have E_a1 := E_a1.wr W3
  have F_a1_term := F_a1_term.other W3 (Or.inr (slot_ne (Or.inr (hw _ (List.mem_of_getElem? (i := 16) rfl))) (Or.inr (hw _ (List.mem_of_getElem? (i := 18) rfl))) (by decide) (t := .long) (t' := .int) (by decide) (by decide)))
  have K := K.wr W3 (Or.inl (List.mem_of_getElem? (i := 0) rfl))
  have Z0 := Nat.le_trans Z0 (Keep.of_wr W3).1
  show Go p e below W T3 (mkF m 14 #[.val (.ref a1), .val (.long q2), .second, .val (.int p3)] [])
  have fin : Q1 Z a1 q2 p3 h0 n0 (none) h3 L3 := ⟨rfl, N, K, F_a1_term, F_a1_leader⟩
  exact Go.retV X3 hx hret (hb hby d1_14) hlk (fun t ht fe => hW t _ _ _ _ (by rw [ht, e3]; exact fin) fe (by decide) (by decide))
set_option maxRecDepth 65536 in
set_option maxHeartbeats 40000000 in
theorem rm4 (l : Launch) (Z : State) (a0 : Array Value) (hw : ∀ d ∈ tables_1, d.before a0 Z = true) (ws : List Jvm.Cond) (a1 : Addr) (p2 : Int32) (a3 : Addr) (q4 : Int64) (h0 : Heap) (n0 : Nat) (Z0 : n0 ≤ h0.size) (E_a1 : Exa Z h0 a1 "com/example/elect/elect/election/Standing") (F_a1_self : Fld Z h0 a1 "com/example/elect/elect/election/Standing" "self" "I" (.int (0 : Int32))) (F_a1_view : Fld Z h0 a1 "com/example/elect/elect/election/Standing" "view" "Lcom/example/elect/elect/election/View;" .null) (F_a1_leadsUntil : Fld Z h0 a1 "com/example/elect/elect/election/Standing" "leadsUntil" "J" (.long (0 : Int64))) (g_a1 : n0 ≤ a1) :
    Con l Z (⟨"com/example/elect/elect/election/Standing", "<init>", "(ILcom/example/elect/elect/election/View;J)V"⟩ : MethodName) prog_9_method_1_code 5 none ws ({ frames := 2, cells := 0, slots := 0, locals := 24 } : Room) #[(.ref a1), (.int p2), (.ref a3), (.long q4)] h0 (Q4 Z a1 p2 a3 q4 h0 n0) := by
  refine own_body pn_4 (fun m => ef_4 m a1 p2 a3 q4) ?_
  intro p e s m below meth c T0 W X0 hx hby hml hret hlk hown hnm hZ e0 hW
  have K : Keep h0 h0 [a1] := Keep.refl _ _
  have N := Fr.nil n0
  show Go p e below W T0 (mkF m 0 #[.val (.ref a1), .val (.int p2), .val (.ref a3), .val (.long q4), .second] [])
  refine Go.of (fun _ k => XS.aloadN X0.here hx rfl (hb hby d4_0) rfl rfl k) ?_
  show Go p e below W T0 (mkF m 1 #[.val (.ref a1), .val (.int p2), .val (.ref a3), .val (.long q4), .second] [(.ref a1)])
  refine Go.callI X0 hx hZ rfl hown (hw _ (List.mem_of_getElem? (i := 25) rfl)) (hw _ (List.mem_of_getElem? (i := 8) rfl)) (hw _ (List.mem_of_getElem? (i := 10) rfl)) (hw _ (List.mem_of_getElem? (i := 11) rfl)) (by decide) e0 (rm2 l Z a0 hw [] a1 h0) (V := 0) (by decide) (by decide) (by decide) (by decide) (by rw [hml]; rfl) (argsL := []) (rest := []) rfl (lenOf pd___V rfl) rfl (Nat.le_of_ble_eq_true rfl) (hb hby d4_1) ?_
  rintro T1 _ _ ⟨rfl, rfl, e1⟩ X1
  rw [List.append_nil] at X1
  show Go p e below W T1 (mkF m 4 #[.val (.ref a1), .val (.int p2), .val (.ref a3), .val (.long q4), .second] [])
  refine Go.of (fun _ k => XS.aloadN X1.here hx rfl (hb hby d4_4) rfl rfl k) ?_
  show Go p e below W T1 (mkF m 5 #[.val (.ref a1), .val (.int p2), .val (.ref a3), .val (.long q4), .second] [(.ref a1)])
  refine Go.of (fun _ k => XS.iloadN X1.here hx rfl (hb hby d4_5) rfl k) ?_
  show Go p e below W T1 (mkF m 6 #[.val (.ref a1), .val (.int p2), .val (.ref a3), .val (.long q4), .second] [(.int p2), (.ref a1)])
  refine Go.putF X1 hx hZ hown (hw _ (List.mem_of_getElem? (i := 26) rfl)) e1 N g_a1 F_a1_self E_a1 (Or.inr ⟨(hw _ (List.mem_of_getElem? (i := 27) rfl)), rfl, hnm⟩) (hw _ (List.mem_of_getElem? (i := 20) rfl)) (ty := .int) (by decide) (v' := (.int p2)) rfl rfl (hb hby d4_6) ?_
  intro T2 h2 L2 X2 N e2 W2 F_a1_self
  have E_a1 := E_a1.wr W2
  have F_a1_view := F_a1_view.other W2 (Or.inr (slot_ne (Or.inr (hw _ (List.mem_of_getElem? (i := 29) rfl))) (Or.inr (hw _ (List.mem_of_getElem? (i := 27) rfl))) (by decide) (t := (.object "com/example/elect/elect/election/View")) (t' := .int) (by decide) (by decide)))
  have F_a1_leadsUntil := F_a1_leadsUntil.other W2 (Or.inr (slot_ne (Or.inr (hw _ (List.mem_of_getElem? (i := 31) rfl))) (Or.inr (hw _ (List.mem_of_getElem? (i := 27) rfl))) (by decide) (t := .long) (t' := .int) (by decide) (by decide)))
  have K := K.wr W2 (Or.inl (List.mem_of_getElem? (i := 0) rfl))
  have Z0 := Nat.le_trans Z0 (Keep.of_wr W2).1
  show Go p e below W T2 (mkF m 9 #[.val (.ref a1), .val (.int p2), .val (.ref a3), .val (.long q4), .second] [])
  refine Go.of (fun _ k => XS.aloadN X2.here hx rfl (hb hby d4_9) rfl rfl k) ?_
  show Go p e below W T2 (mkF m 10 #[.val (.ref a1), .val (.int p2), .val (.ref a3), .val (.long q4), .second] [(.ref a1)])
  refine Go.of (fun _ k => XS.aloadN X2.here hx rfl (hb hby d4_10) rfl rfl k) ?_
  show Go p e below W T2 (mkF m 11 #[.val (.ref a1), .val (.int p2), .val (.ref a3), .val (.long q4), .second] [(.ref a3), (.ref a1)])
  refine Go.putF X2 hx hZ hown (hw _ (List.mem_of_getElem? (i := 28) rfl)) e2 N g_a1 F_a1_view E_a1 (Or.inr ⟨(hw _ (List.mem_of_getElem? (i := 29) rfl)), rfl, hnm⟩) (hw _ (List.mem_of_getElem? (i := 20) rfl)) (ty := (.object "com/example/elect/elect/election/View")) (by decide) (v' := (.ref a3)) rfl rfl (hb hby d4_11) ?_
  intro T3 h3 L3 X3 N e3 W3 F_a1_view
  have E_a1 := E_a1.wr W3
  have F_a1_self := F_a1_self.other W3 (Or.inr (slot_ne (Or.inr (hw _ (List.mem_of_getElem? (i := 27) rfl))) (Or.inr (hw _ (List.mem_of_getElem? (i := 29) rfl))) (by decide) (t := .int) (t' := (.object "com/example/elect/elect/election/View")) (by decide) (by decide)))
  have F_a1_leadsUntil := F_a1_leadsUntil.other W3 (Or.inr (slot_ne (Or.inr (hw _ (List.mem_of_getElem? (i := 31) rfl))) (Or.inr (hw _ (List.mem_of_getElem? (i := 29) rfl))) (by decide) (t := .long) (t' := (.object "com/example/elect/elect/election/View")) (by decide) (by decide)))
  have K := K.wr W3 (Or.inl (List.mem_of_getElem? (i := 0) rfl))
  have Z0 := Nat.le_trans Z0 (Keep.of_wr W3).1
  show Go p e below W T3 (mkF m 14 #[.val (.ref a1), .val (.int p2), .val (.ref a3), .val (.long q4), .second] [])
  refine Go.of (fun _ k => XS.aloadN X3.here hx rfl (hb hby d4_14) rfl rfl k) ?_
  show Go p e below W T3 (mkF m 15 #[.val (.ref a1), .val (.int p2), .val (.ref a3), .val (.long q4), .second] [(.ref a1)])
  refine Go.of (fun _ k => XS.lloadN X3.here hx rfl (hb hby d4_15) rfl k) ?_
  show Go p e below W T3 (mkF m 16 #[.val (.ref a1), .val (.int p2), .val (.ref a3), .val (.long q4), .second] [(.long q4), (.ref a1)])
  refine Go.putF X3 hx hZ hown (hw _ (List.mem_of_getElem? (i := 30) rfl)) e3 N g_a1 F_a1_leadsUntil E_a1 (Or.inr ⟨(hw _ (List.mem_of_getElem? (i := 31) rfl)), rfl, hnm⟩) (hw _ (List.mem_of_getElem? (i := 20) rfl)) (ty := .long) (by decide) (v' := (.long q4)) rfl rfl (hb hby d4_16) ?_
  intro T4 h4 L4 X4 N e4 W4 F_a1_leadsUntil
  have E_a1 := E_a1.wr W4
  have F_a1_self := F_a1_self.other W4 (Or.inr (slot_ne (Or.inr (hw _ (List.mem_of_getElem? (i := 27) rfl))) (Or.inr (hw _ (List.mem_of_getElem? (i := 31) rfl))) (by decide) (t := .int) (t' := .long) (by decide) (by decide)))
  have F_a1_view := F_a1_view.other W4 (Or.inr (slot_ne (Or.inr (hw _ (List.mem_of_getElem? (i := 29) rfl))) (Or.inr (hw _ (List.mem_of_getElem? (i := 31) rfl))) (by decide) (t := (.object "com/example/elect/elect/election/View")) (t' := .long) (by decide) (by decide)))
  have K := K.wr W4 (Or.inl (List.mem_of_getElem? (i := 0) rfl))
  have Z0 := Nat.le_trans Z0 (Keep.of_wr W4).1
  show Go p e below W T4 (mkF m 19 #[.val (.ref a1), .val (.int p2), .val (.ref a3), .val (.long q4), .second] [])
  have fin : Q4 Z a1 p2 a3 q4 h0 n0 (none) h4 L4 := ⟨rfl, N, K, F_a1_self, F_a1_view, F_a1_leadsUntil⟩
  exact Go.retV X4 hx hret (hb hby d4_19) hlk (fun t ht fe => hW t _ _ _ _ (by rw [ht, e4]; exact fin) fe (by decide) (by decide))
set_option maxRecDepth 65536 in
set_option maxHeartbeats 40000000 in
theorem rm7 (l : Launch) (Z : State) (a0 : Array Value) (hw : ∀ d ∈ tables_1, d.before a0 Z = true) (ws : List Jvm.Cond) (a1 : Addr) (ld : Int32) (h0 : Heap) (F_a1_leader : Fld Z h0 a1 "com/example/elect/elect/election/View" "leader" "I" (.int ld)) :
    Con l Z (⟨"com/example/elect/elect/election/View", "leader", "()I"⟩ : MethodName) prog_11_method_6_code 1 (some .int) ws ({ frames := 0, cells := 0, slots := 0, locals := 0 } : Room) #[(.ref a1)] h0 (PQ (.int (f7 ld)) h0) := by
  refine own_body pn_7 (fun m => ef_7 m a1) ?_
  intro p e s m below meth c T0 W X0 hx hby hml hret hlk hown hnm hZ e0 hW
  show Go p e below W T0 (mkF m 0 #[.val (.ref a1)] [])
  refine Go.of (fun _ k => XS.aloadN X0.here hx rfl (hb hby d7_0) rfl rfl k) ?_
  show Go p e below W T0 (mkF m 1 #[.val (.ref a1)] [(.ref a1)])
  refine Go.getF X0 hx hZ hown (hw _ (List.mem_of_getElem? (i := 17) rfl)) e0 F_a1_leader (hb hby d7_1) ?_
  intro T1 X1 e1
  show Go p e below W T1 (mkF m 4 #[.val (.ref a1)] [(.int ld)])
  have u_f7 : (f7 ld) = ld := by rw [f7]
  exact Go.retI X1 hx hret (hb hby d7_4) hlk u_f7.symm (fun t ht fe => hW t _ _ _ _ ⟨rfl, rfl, ht.trans e1⟩ fe (by decide) (by decide))
set_option maxRecDepth 65536 in
set_option maxHeartbeats 40000000 in
theorem rm6 (l : Launch) (Z : State) (a0 : Array Value) (hw : ∀ d ∈ tables_1, d.before a0 Z = true) (ws : List Jvm.Cond) (a1 : Addr) (q2 : Int64) (vw : Addr) (ld : Int32) (sf : Int32) (lu : Int64) (h0 : Heap) (F_a1_view : Fld Z h0 a1 "com/example/elect/elect/election/Standing" "view" "Lcom/example/elect/elect/election/View;" (.ref vw)) (E_vw : Exa Z h0 vw "com/example/elect/elect/election/View") (F_vw_leader : Fld Z h0 vw "com/example/elect/elect/election/View" "leader" "I" (.int ld)) (F_a1_self : Fld Z h0 a1 "com/example/elect/elect/election/Standing" "self" "I" (.int sf)) (F_a1_leadsUntil : Fld Z h0 a1 "com/example/elect/elect/election/Standing" "leadsUntil" "J" (.long lu)) :
    Con l Z (⟨"com/example/elect/elect/election/Standing", "leadsAt", "(J)Z"⟩ : MethodName) prog_9_method_3_code 3 (some .boolean) ws ({ frames := 1, cells := 0, slots := 0, locals := 12 } : Room) #[(.ref a1), (.long q2)] h0 (PQ (.int (f6 q2 ld sf lu)) h0) := by
  refine own_body pn_6 (fun m => ef_6 m a1 q2) ?_
  intro p e s m below meth c T0 W X0 hx hby hml hret hlk hown hnm hZ e0 hW
  show Go p e below W T0 (mkF m 0 #[.val (.ref a1), .val (.long q2), .second] [])
  refine Go.of (fun _ k => XS.aloadN X0.here hx rfl (hb hby d6_0) rfl rfl k) ?_
  show Go p e below W T0 (mkF m 1 #[.val (.ref a1), .val (.long q2), .second] [(.ref a1)])
  refine Go.getF X0 hx hZ hown (hw _ (List.mem_of_getElem? (i := 28) rfl)) e0 F_a1_view (hb hby d6_1) ?_
  intro T1 X1 e1
  show Go p e below W T1 (mkF m 4 #[.val (.ref a1), .val (.long q2), .second] [(.ref vw)])
  refine Go.callV X1 hx hZ hown (hw _ (List.mem_of_getElem? (i := 42) rfl)) (hw _ (List.mem_of_getElem? (i := 43) rfl)) (hw _ (List.mem_of_getElem? (i := 45) rfl)) (hw _ (List.mem_of_getElem? (i := 44) rfl)) (hw _ (List.mem_of_getElem? (i := 3) rfl)) (hw _ (List.mem_of_getElem? (i := 46) rfl)) (by decide) e1 E_vw (rm7 l Z a0 hw [] vw ld h0 F_vw_leader) (V := 0) (by decide) (by decide) (by decide) (by decide) (by rw [hml]; rfl) (argsL := []) (rest := []) rfl (lenOf pd___I rfl) rfl (Nat.le_of_ble_eq_true rfl) (hb hby d6_4) ?_
  rintro T2 _ _ ⟨rfl, rfl, e2⟩ X2
  rw [List.append_nil] at X2
  show Go p e below W T2 (mkF m 7 #[.val (.ref a1), .val (.long q2), .second] [(.int (f7 ld))])
  refine Go.of (fun _ k => XS.aloadN X2.here hx rfl (hb hby d6_7) rfl rfl k) ?_
  show Go p e below W T2 (mkF m 8 #[.val (.ref a1), .val (.long q2), .second] [(.ref a1), (.int (f7 ld))])
  refine Go.getF X2 hx hZ hown (hw _ (List.mem_of_getElem? (i := 26) rfl)) e2 F_a1_self (hb hby d6_8) ?_
  intro T3 X3 e3
  show Go p e below W T3 (mkF m 11 #[.val (.ref a1), .val (.long q2), .second] [(.int sf), (.int (f7 ld))])
  by_cases c4 : (f7 ld) = sf
  · refine Go.of (fun _ k => XS.icmpNo X3.here hx rfl (hb hby d6_11) rfl (Jvm.Free.XT.ii_ne_f c4) k) ?_
    show Go p e below W T3 (mkF m 14 #[.val (.ref a1), .val (.long q2), .second] [])
    refine Go.of (fun _ k => XS.lloadN X3.here hx rfl (hb hby d6_14) rfl k) ?_
    show Go p e below W T3 (mkF m 15 #[.val (.ref a1), .val (.long q2), .second] [(.long q2)])
    refine Go.of (fun _ k => XS.aloadN X3.here hx rfl (hb hby d6_15) rfl rfl k) ?_
    show Go p e below W T3 (mkF m 16 #[.val (.ref a1), .val (.long q2), .second] [(.ref a1), (.long q2)])
    refine Go.getF X3 hx hZ hown (hw _ (List.mem_of_getElem? (i := 30) rfl)) e3 F_a1_leadsUntil (hb hby d6_16) ?_
    intro T5 X5 e5
    show Go p e below W T5 (mkF m 19 #[.val (.ref a1), .val (.long q2), .second] [(.long lu), (.long q2)])
    refine Go.of (fun _ k => XS.lcmp X5.here hx rfl (hb hby d6_19) rfl k) ?_
    show Go p e below W T5 (mkF m 20 #[.val (.ref a1), .val (.long q2), .second] [(.int (Jvm.Free.XT.cmpL q2 lu))])
    by_cases c6 : q2 < lu
    · refine Go.of (fun _ k => XS.ifNo X5.here hx rfl (hb hby d6_20) rfl (Jvm.Free.XT.ll_ge_f c6) k) ?_
      show Go p e below W T5 (mkF m 23 #[.val (.ref a1), .val (.long q2), .second] [])
      refine Go.of (fun _ k => XS.iconst X5.here hx rfl (hb hby d6_23) k) ?_
      show Go p e below W T5 (mkF m 24 #[.val (.ref a1), .val (.long q2), .second] [(.int (1 : Int32))])
      refine Go.of (fun _ k => XS.goto X5.here hx rfl (pc0 := 24) (pc' := 28) rfl (hb hby d6_24) (by decide) (by decide) k) ?_
      show Go p e below W T5 (mkF m 28 #[.val (.ref a1), .val (.long q2), .second] [(.int (1 : Int32))])
      have u_f6 : (f6 q2 ld sf lu) = (1 : Int32) := by rw [f6, if_pos c4, if_pos c6]
      exact Go.retN X5 hx hret (Or.inl rfl) (hb hby d6_28) hlk (Eq.trans rfl u_f6.symm) (fun t ht fe => hW t _ _ _ _ ⟨rfl, rfl, ht.trans e5⟩ fe (by decide) (by decide))
    · refine Go.of (fun _ k => XS.ifYes X5.here hx rfl (pc0 := 20) (pc' := 27) rfl (hb hby d6_20) rfl (Jvm.Free.XT.ll_ge_t c6) (by decide) (by decide) k) ?_
      show Go p e below W T5 (mkF m 27 #[.val (.ref a1), .val (.long q2), .second] [])
      refine Go.of (fun _ k => XS.iconst X5.here hx rfl (hb hby d6_27) k) ?_
      show Go p e below W T5 (mkF m 28 #[.val (.ref a1), .val (.long q2), .second] [(.int (0 : Int32))])
      have u_f6 : (f6 q2 ld sf lu) = (0 : Int32) := by rw [f6, if_pos c4, if_neg c6]
      exact Go.retN X5 hx hret (Or.inl rfl) (hb hby d6_28) hlk (Eq.trans rfl u_f6.symm) (fun t ht fe => hW t _ _ _ _ ⟨rfl, rfl, ht.trans e5⟩ fe (by decide) (by decide))
  · refine Go.of (fun _ k => XS.icmpYes X3.here hx rfl (pc0 := 11) (pc' := 27) rfl (hb hby d6_11) rfl (Jvm.Free.XT.ii_ne_t c4) (by decide) (by decide) k) ?_
    show Go p e below W T3 (mkF m 27 #[.val (.ref a1), .val (.long q2), .second] [])
    refine Go.of (fun _ k => XS.iconst X3.here hx rfl (hb hby d6_27) k) ?_
    show Go p e below W T3 (mkF m 28 #[.val (.ref a1), .val (.long q2), .second] [(.int (0 : Int32))])
    have u_f6 : (f6 q2 ld sf lu) = (0 : Int32) := by rw [f6, if_neg c4]
    exact Go.retN X3 hx hret (Or.inl rfl) (hb hby d6_28) hlk (Eq.trans rfl u_f6.symm) (fun t ht fe => hW t _ _ _ _ ⟨rfl, rfl, ht.trans e3⟩ fe (by decide) (by decide))
set_option maxRecDepth 65536 in
set_option maxHeartbeats 40000000 in
theorem rm5 (l : Launch) (Z : State) (a0 : Array Value) (hw : ∀ d ∈ tables_1, d.before a0 Z = true) (ws : List Jvm.Cond) (a1 : Addr) (q2 : Int64) (vw : Addr) (ld : Int32) (sf : Int32) (lu : Int64) (h0 : Heap) (E_a1 : Exa Z h0 a1 "com/example/elect/elect/election/Standing") (F_a1_view : Fld Z h0 a1 "com/example/elect/elect/election/Standing" "view" "Lcom/example/elect/elect/election/View;" (.ref vw)) (E_vw : Exa Z h0 vw "com/example/elect/elect/election/View") (F_vw_leader : Fld Z h0 vw "com/example/elect/elect/election/View" "leader" "I" (.int ld)) (F_a1_self : Fld Z h0 a1 "com/example/elect/elect/election/Standing" "self" "I" (.int sf)) (F_a1_leadsUntil : Fld Z h0 a1 "com/example/elect/elect/election/Standing" "leadsUntil" "J" (.long lu)) :
    Con l Z (⟨"com/example/elect/elect/election/Standing", "leadsForAt", "(J)J"⟩ : MethodName) prog_9_method_4_code 3 (some .long) ws ({ frames := 2, cells := 0, slots := 0, locals := 26 } : Room) #[(.ref a1), (.long q2)] h0 (PQ (.long (f5 q2 ld sf lu)) h0) := by
  refine own_body pn_5 (fun m => ef_5 m a1 q2) ?_
  intro p e s m below meth c T0 W X0 hx hby hml hret hlk hown hnm hZ e0 hW
  show Go p e below W T0 (mkF m 0 #[.val (.ref a1), .val (.long q2), .second] [])
  refine Go.of (fun _ k => XS.aloadN X0.here hx rfl (hb hby d5_0) rfl rfl k) ?_
  show Go p e below W T0 (mkF m 1 #[.val (.ref a1), .val (.long q2), .second] [(.ref a1)])
  refine Go.of (fun _ k => XS.lloadN X0.here hx rfl (hb hby d5_1) rfl k) ?_
  show Go p e below W T0 (mkF m 2 #[.val (.ref a1), .val (.long q2), .second] [(.long q2), (.ref a1)])
  refine Go.callV X0 hx hZ hown (hw _ (List.mem_of_getElem? (i := 37) rfl)) (hw _ (List.mem_of_getElem? (i := 38) rfl)) (hw _ (List.mem_of_getElem? (i := 40) rfl)) (hw _ (List.mem_of_getElem? (i := 39) rfl)) (hw _ (List.mem_of_getElem? (i := 21) rfl)) (hw _ (List.mem_of_getElem? (i := 41) rfl)) (by decide) e0 E_a1 (rm6 l Z a0 hw [] a1 q2 vw ld sf lu h0 F_a1_view E_vw F_vw_leader F_a1_self F_a1_leadsUntil) (V := 0) (by decide) (by decide) (by decide) (by decide) (by rw [hml]; rfl) (argsL := [(.long q2)]) (rest := []) rfl (lenOf pd__J_Z rfl) rfl (Nat.le_of_ble_eq_true rfl) (hb hby d5_2) ?_
  rintro T1 _ _ ⟨rfl, rfl, e1⟩ X1
  rw [List.append_nil] at X1
  show Go p e below W T1 (mkF m 5 #[.val (.ref a1), .val (.long q2), .second] [(.int (f6 q2 ld sf lu))])
  by_cases c2 : (f6 q2 ld sf lu) = (0 : Int32)
  · refine Go.of (fun _ k => XS.ifYes X1.here hx rfl (pc0 := 5) (pc' := 17) rfl (hb hby d5_5) rfl (Jvm.Free.XT.i0_eq_t c2) (by decide) (by decide) k) ?_
    show Go p e below W T1 (mkF m 17 #[.val (.ref a1), .val (.long q2), .second] [])
    refine Go.of (fun _ k => XS.lconst X1.here hx rfl (hb hby d5_17) k) ?_
    show Go p e below W T1 (mkF m 18 #[.val (.ref a1), .val (.long q2), .second] [(.long (0 : Int64))])
    have u_f5 : (f5 q2 ld sf lu) = (0 : Int64) := by rw [f5, if_pos c2]
    exact Go.retJ X1 hx hret (hb hby d5_18) hlk u_f5.symm (fun t ht fe => hW t _ _ _ _ ⟨rfl, rfl, ht.trans e1⟩ fe (by decide) (by decide))
  · refine Go.of (fun _ k => XS.ifNo X1.here hx rfl (hb hby d5_5) rfl (Jvm.Free.XT.i0_eq_f c2) k) ?_
    show Go p e below W T1 (mkF m 8 #[.val (.ref a1), .val (.long q2), .second] [])
    refine Go.of (fun _ k => XS.aloadN X1.here hx rfl (hb hby d5_8) rfl rfl k) ?_
    show Go p e below W T1 (mkF m 9 #[.val (.ref a1), .val (.long q2), .second] [(.ref a1)])
    refine Go.getF X1 hx hZ hown (hw _ (List.mem_of_getElem? (i := 30) rfl)) e1 F_a1_leadsUntil (hb hby d5_9) ?_
    intro T3 X3 e3
    show Go p e below W T3 (mkF m 12 #[.val (.ref a1), .val (.long q2), .second] [(.long lu)])
    refine Go.of (fun _ k => XS.lloadN X3.here hx rfl (hb hby d5_12) rfl k) ?_
    show Go p e below W T3 (mkF m 13 #[.val (.ref a1), .val (.long q2), .second] [(.long q2), (.long lu)])
    refine Go.of (fun _ k => XS.lsub X3.here hx rfl (hb hby d5_13) rfl k) ?_
    show Go p e below W T3 (mkF m 14 #[.val (.ref a1), .val (.long q2), .second] [(.long (lu - q2))])
    refine Go.of (fun _ k => XS.goto X3.here hx rfl (pc0 := 14) (pc' := 18) rfl (hb hby d5_14) (by decide) (by decide) k) ?_
    show Go p e below W T3 (mkF m 18 #[.val (.ref a1), .val (.long q2), .second] [(.long (lu - q2))])
    have u_f5 : (f5 q2 ld sf lu) = (lu - q2) := by rw [f5, if_neg c2]
    exact Go.retJ X3 hx hret (hb hby d5_18) hlk u_f5.symm (fun t ht fe => hW t _ _ _ _ ⟨rfl, rfl, ht.trans e3⟩ fe (by decide) (by decide))
set_option maxRecDepth 65536 in
set_option maxHeartbeats 40000000 in
theorem rm0 (l : Launch) (Z : State) (a0 : Array Value) (hw : ∀ d ∈ tables_1, d.before a0 Z = true) (ws : List Jvm.Cond) (p1 : Int32) (p2 : Int32) (q3 : Int64) (q4 : Int64) (q5 : Int64) (p6 : Int32) (h0 : Heap) (n0 : Nat) (Z0 : n0 ≤ h0.size) :
    Con l Z x code maxLocals ret ws room_1 #[(.int p1), (.int p2), (.long q3), (.long q4), (.long q5), (.int p6)] h0 (Q0 Z p1 p2 q3 q4 q5 p6 h0 n0) := by
  refine own_body pn_0 (fun m => ef_0 m p1 p2 q3 q4 q5 p6) ?_
  intro p e s m below meth c T0 W X0 hx hby hml hret hlk hown hnm hZ e0 hW
  have K : Keep h0 h0 [] := Keep.refl _ _
  have N := Fr.nil n0
  show Go p e below W T0 (mkF m 0 #[.val (.int p1), .val (.int p2), .val (.long q3), .second, .val (.long q4), .second, .val (.long q5), .second, .val (.int p6), .unset, .unset, .unset, .unset, .unset, .unset, .unset, .unset] [])
  refine Go.of (fun _ k => XS.iload X0.here hx rfl (hb hby at_0) rfl k) ?_
  show Go p e below W T0 (mkF m 2 #[.val (.int p1), .val (.int p2), .val (.long q3), .second, .val (.long q4), .second, .val (.long q5), .second, .val (.int p6), .unset, .unset, .unset, .unset, .unset, .unset, .unset, .unset] [(.int p6)])
  refine Go.of (fun _ k => XS.iconst X0.here hx rfl (hb hby at_2) k) ?_
  show Go p e below W T0 (mkF m 3 #[.val (.int p1), .val (.int p2), .val (.long q3), .second, .val (.long q4), .second, .val (.long q5), .second, .val (.int p6), .unset, .unset, .unset, .unset, .unset, .unset, .unset, .unset] [(.int (1 : Int32)), (.int p6)])
  refine Go.of (fun _ k => XS.iand X0.here hx rfl (hb hby at_3) rfl k) ?_
  show Go p e below W T0 (mkF m 4 #[.val (.int p1), .val (.int p2), .val (.long q3), .second, .val (.long q4), .second, .val (.long q5), .second, .val (.int p6), .unset, .unset, .unset, .unset, .unset, .unset, .unset, .unset] [(.int (p6 &&& (1 : Int32)))])
  suffices G2 : ∀ T', Stand p l e room_1 s m #[(.int p1), (.int p2), (.long q3), (.long q4), (.long q5), (.int p6)] below meth c T' [] 0 0 → T'.heap = h0 → Go p e below W T' (mkF m 12 #[.val (.int p1), .val (.int p2), .val (.long q3), .second, .val (.long q4), .second, .val (.long q5), .second, .val (.int p6), .unset, .unset, .unset, .unset, .unset, .unset, .unset, .unset] [(.int (v0_3 p1 p2 q3 q4 q5 p6))]) by
    by_cases c1 : (p6 &&& (1 : Int32)) = (0 : Int32)
    · refine Go.of (fun _ k => XS.ifYes X0.here hx rfl (pc0 := 4) (pc' := 11) rfl (hb hby at_4) rfl (Jvm.Free.XT.i0_eq_t c1) (by decide) (by decide) k) ?_
      show Go p e below W T0 (mkF m 11 #[.val (.int p1), .val (.int p2), .val (.long q3), .second, .val (.long q4), .second, .val (.long q5), .second, .val (.int p6), .unset, .unset, .unset, .unset, .unset, .unset, .unset, .unset] [])
      refine Go.of (fun _ k => XS.iloadN X0.here hx rfl (hb hby at_11) rfl k) ?_
      have G2 := G2
      have q_v0_3 : (v0_3 p1 p2 q3 q4 q5 p6) = p2 := by rw [v0_3, if_pos c1]
      rw [q_v0_3] at G2
      exact G2 _ X0 e0
    · refine Go.of (fun _ k => XS.ifNo X0.here hx rfl (hb hby at_4) rfl (Jvm.Free.XT.i0_eq_f c1) k) ?_
      show Go p e below W T0 (mkF m 7 #[.val (.int p1), .val (.int p2), .val (.long q3), .second, .val (.long q4), .second, .val (.long q5), .second, .val (.int p6), .unset, .unset, .unset, .unset, .unset, .unset, .unset, .unset] [])
      refine Go.of (fun _ k => XS.iloadN X0.here hx rfl (hb hby at_7) rfl k) ?_
      show Go p e below W T0 (mkF m 8 #[.val (.int p1), .val (.int p2), .val (.long q3), .second, .val (.long q4), .second, .val (.long q5), .second, .val (.int p6), .unset, .unset, .unset, .unset, .unset, .unset, .unset, .unset] [(.int p1)])
      refine Go.of (fun _ k => XS.goto X0.here hx rfl (pc0 := 8) (pc' := 12) rfl (hb hby at_8) (by decide) (by decide) k) ?_
      have G2 := G2
      have q_v0_3 : (v0_3 p1 p2 q3 q4 q5 p6) = p1 := by rw [v0_3, if_neg c1]
      rw [q_v0_3] at G2
      exact G2 _ X0 e0
  intro T2 X2 e2
  show Go p e below W T2 (mkF m 12 #[.val (.int p1), .val (.int p2), .val (.long q3), .second, .val (.long q4), .second, .val (.long q5), .second, .val (.int p6), .unset, .unset, .unset, .unset, .unset, .unset, .unset, .unset] [(.int (v0_3 p1 p2 q3 q4 q5 p6))])
  refine Go.of (fun _ k => XS.istore X2.here hx rfl (hb hby at_12) rfl (l' := #[.val (.int p1), .val (.int p2), .val (.long q3), .second, .val (.long q4), .second, .val (.long q5), .second, .val (.int p6), .val (.int (v0_3 p1 p2 q3 q4 q5 p6)), .unset, .unset, .unset, .unset, .unset, .unset, .unset]) rfl k) ?_
  show Go p e below W T2 (mkF m 14 #[.val (.int p1), .val (.int p2), .val (.long q3), .second, .val (.long q4), .second, .val (.long q5), .second, .val (.int p6), .val (.int (v0_3 p1 p2 q3 q4 q5 p6)), .unset, .unset, .unset, .unset, .unset, .unset, .unset] [])
  refine Go.of (fun _ k => XS.lload X2.here hx rfl (hb hby at_14) rfl k) ?_
  show Go p e below W T2 (mkF m 16 #[.val (.int p1), .val (.int p2), .val (.long q3), .second, .val (.long q4), .second, .val (.long q5), .second, .val (.int p6), .val (.int (v0_3 p1 p2 q3 q4 q5 p6)), .unset, .unset, .unset, .unset, .unset, .unset, .unset] [(.long q5)])
  refine Go.of (fun _ k => XS.lstore X2.here hx rfl (hb hby at_16) rfl (l' := #[.val (.int p1), .val (.int p2), .val (.long q3), .second, .val (.long q4), .second, .val (.long q5), .second, .val (.int p6), .val (.int (v0_3 p1 p2 q3 q4 q5 p6)), .val (.long q5), .second, .unset, .unset, .unset, .unset, .unset]) rfl k) ?_
  show Go p e below W T2 (mkF m 18 #[.val (.int p1), .val (.int p2), .val (.long q3), .second, .val (.long q4), .second, .val (.long q5), .second, .val (.int p6), .val (.int (v0_3 p1 p2 q3 q4 q5 p6)), .val (.long q5), .second, .unset, .unset, .unset, .unset, .unset] [])
  refine Go.of (fun _ k => XS.iload X2.here hx rfl (hb hby at_18) rfl k) ?_
  show Go p e below W T2 (mkF m 20 #[.val (.int p1), .val (.int p2), .val (.long q3), .second, .val (.long q4), .second, .val (.long q5), .second, .val (.int p6), .val (.int (v0_3 p1 p2 q3 q4 q5 p6)), .val (.long q5), .second, .unset, .unset, .unset, .unset, .unset] [(.int p6)])
  refine Go.of (fun _ k => XS.iconst X2.here hx rfl (hb hby at_20) k) ?_
  show Go p e below W T2 (mkF m 21 #[.val (.int p1), .val (.int p2), .val (.long q3), .second, .val (.long q4), .second, .val (.long q5), .second, .val (.int p6), .val (.int (v0_3 p1 p2 q3 q4 q5 p6)), .val (.long q5), .second, .unset, .unset, .unset, .unset, .unset] [(.int (2 : Int32)), (.int p6)])
  refine Go.of (fun _ k => XS.iand X2.here hx rfl (hb hby at_21) rfl k) ?_
  show Go p e below W T2 (mkF m 22 #[.val (.int p1), .val (.int p2), .val (.long q3), .second, .val (.long q4), .second, .val (.long q5), .second, .val (.int p6), .val (.int (v0_3 p1 p2 q3 q4 q5 p6)), .val (.long q5), .second, .unset, .unset, .unset, .unset, .unset] [(.int (p6 &&& (2 : Int32)))])
  suffices G6 : ∀ T', Stand p l e room_1 s m #[(.int p1), (.int p2), (.long q3), (.long q4), (.long q5), (.int p6)] below meth c T' [] 0 0 → T'.heap = h0 → Go p e below W T' (mkF m 41 #[.val (.int p1), .val (.int p2), .val (.long q3), .second, .val (.long q4), .second, .val (.long q5), .second, .val (.int p6), .val (.int (v0_3 p1 p2 q3 q4 q5 p6)), .val (.long (v0_7 p1 p2 q3 q4 q5 p6)), .second, .unset, .unset, .unset, .unset, .unset] []) by
    by_cases c4 : (p6 &&& (2 : Int32)) = (0 : Int32)
    · refine Go.of (fun _ k => XS.ifYes X2.here hx rfl (pc0 := 22) (pc' := 41) rfl (hb hby at_22) rfl (Jvm.Free.XT.i0_eq_t c4) (by decide) (by decide) k) ?_
      have G6 := G6
      have q_v0_7 : (v0_7 p1 p2 q3 q4 q5 p6) = q5 := by rw [v0_7, if_pos c4]
      rw [q_v0_7] at G6
      exact G6 _ X2 e2
    · refine Go.of (fun _ k => XS.ifNo X2.here hx rfl (hb hby at_22) rfl (Jvm.Free.XT.i0_eq_f c4) k) ?_
      show Go p e below W T2 (mkF m 25 #[.val (.int p1), .val (.int p2), .val (.long q3), .second, .val (.long q4), .second, .val (.long q5), .second, .val (.int p6), .val (.int (v0_3 p1 p2 q3 q4 q5 p6)), .val (.long q5), .second, .unset, .unset, .unset, .unset, .unset] [])
      refine Go.of (fun _ k => XS.lload X2.here hx rfl (hb hby at_25) rfl k) ?_
      show Go p e below W T2 (mkF m 27 #[.val (.int p1), .val (.int p2), .val (.long q3), .second, .val (.long q4), .second, .val (.long q5), .second, .val (.int p6), .val (.int (v0_3 p1 p2 q3 q4 q5 p6)), .val (.long q5), .second, .unset, .unset, .unset, .unset, .unset] [(.long q4)])
      refine Go.of (fun _ k => XS.iload X2.here hx rfl (hb hby at_27) rfl k) ?_
      show Go p e below W T2 (mkF m 29 #[.val (.int p1), .val (.int p2), .val (.long q3), .second, .val (.long q4), .second, .val (.long q5), .second, .val (.int p6), .val (.int (v0_3 p1 p2 q3 q4 q5 p6)), .val (.long q5), .second, .unset, .unset, .unset, .unset, .unset] [(.int p6), (.long q4)])
      refine Go.of (fun _ k => XS.iconst X2.here hx rfl (hb hby at_29) k) ?_
      show Go p e below W T2 (mkF m 30 #[.val (.int p1), .val (.int p2), .val (.long q3), .second, .val (.long q4), .second, .val (.long q5), .second, .val (.int p6), .val (.int (v0_3 p1 p2 q3 q4 q5 p6)), .val (.long q5), .second, .unset, .unset, .unset, .unset, .unset] [(.int (2 : Int32)), (.int p6), (.long q4)])
      refine Go.of (fun _ k => XS.ishr X2.here hx rfl (hb hby at_30) rfl k) ?_
      show Go p e below W T2 (mkF m 31 #[.val (.int p1), .val (.int p2), .val (.long q3), .second, .val (.long q4), .second, .val (.long q5), .second, .val (.int p6), .val (.int (v0_3 p1 p2 q3 q4 q5 p6)), .val (.long q5), .second, .unset, .unset, .unset, .unset, .unset] [(.int (p6 >>> ((2 : Int32) &&& 31))), (.long q4)])
      refine Go.of (fun _ k => XS.iconst X2.here hx rfl (hb hby at_31) k) ?_
      show Go p e below W T2 (mkF m 32 #[.val (.int p1), .val (.int p2), .val (.long q3), .second, .val (.long q4), .second, .val (.long q5), .second, .val (.int p6), .val (.int (v0_3 p1 p2 q3 q4 q5 p6)), .val (.long q5), .second, .unset, .unset, .unset, .unset, .unset] [(.int (3 : Int32)), (.int (p6 >>> ((2 : Int32) &&& 31))), (.long q4)])
      refine Go.of (fun _ k => XS.iand X2.here hx rfl (hb hby at_32) rfl k) ?_
      show Go p e below W T2 (mkF m 33 #[.val (.int p1), .val (.int p2), .val (.long q3), .second, .val (.long q4), .second, .val (.long q5), .second, .val (.int p6), .val (.int (v0_3 p1 p2 q3 q4 q5 p6)), .val (.long q5), .second, .unset, .unset, .unset, .unset, .unset] [(.int ((p6 >>> ((2 : Int32) &&& 31)) &&& (3 : Int32))), (.long q4)])
      refine Go.of (fun _ k => XS.i2l X2.here hx rfl (hb hby at_33) rfl k) ?_
      show Go p e below W T2 (mkF m 34 #[.val (.int p1), .val (.int p2), .val (.long q3), .second, .val (.long q4), .second, .val (.long q5), .second, .val (.int p6), .val (.int (v0_3 p1 p2 q3 q4 q5 p6)), .val (.long q5), .second, .unset, .unset, .unset, .unset, .unset] [(.long (((p6 >>> ((2 : Int32) &&& 31)) &&& (3 : Int32)).toInt64)), (.long q4)])
      refine Go.of (fun _ k => XS.ladd X2.here hx rfl (hb hby at_34) rfl k) ?_
      show Go p e below W T2 (mkF m 35 #[.val (.int p1), .val (.int p2), .val (.long q3), .second, .val (.long q4), .second, .val (.long q5), .second, .val (.int p6), .val (.int (v0_3 p1 p2 q3 q4 q5 p6)), .val (.long q5), .second, .unset, .unset, .unset, .unset, .unset] [(.long (q4 + (((p6 >>> ((2 : Int32) &&& 31)) &&& (3 : Int32)).toInt64)))])
      refine Go.of (fun _ k => X2.ldc2J hx hown (mvT hZ (hw _ (List.mem_of_getElem? (i := 0) rfl))) rfl (hb hby at_35) k) ?_
      show Go p e below W T2 (mkF m 38 #[.val (.int p1), .val (.int p2), .val (.long q3), .second, .val (.long q4), .second, .val (.long q5), .second, .val (.int p6), .val (.int (v0_3 p1 p2 q3 q4 q5 p6)), .val (.long q5), .second, .unset, .unset, .unset, .unset, .unset] [(.long (2 : Int64)), (.long (q4 + (((p6 >>> ((2 : Int32) &&& 31)) &&& (3 : Int32)).toInt64)))])
      refine Go.of (fun _ k => XS.lsub X2.here hx rfl (hb hby at_38) rfl k) ?_
      show Go p e below W T2 (mkF m 39 #[.val (.int p1), .val (.int p2), .val (.long q3), .second, .val (.long q4), .second, .val (.long q5), .second, .val (.int p6), .val (.int (v0_3 p1 p2 q3 q4 q5 p6)), .val (.long q5), .second, .unset, .unset, .unset, .unset, .unset] [(.long ((q4 + (((p6 >>> ((2 : Int32) &&& 31)) &&& (3 : Int32)).toInt64)) - (2 : Int64)))])
      refine Go.of (fun _ k => XS.lstore X2.here hx rfl (hb hby at_39) rfl (l' := #[.val (.int p1), .val (.int p2), .val (.long q3), .second, .val (.long q4), .second, .val (.long q5), .second, .val (.int p6), .val (.int (v0_3 p1 p2 q3 q4 q5 p6)), .val (.long (v0_5 p1 p2 q3 q4 q5 p6)), .second, .unset, .unset, .unset, .unset, .unset]) rfl k) ?_
      have G6 := G6
      have q_v0_7 : (v0_7 p1 p2 q3 q4 q5 p6) = (v0_5 p1 p2 q3 q4 q5 p6) := by rw [v0_7, if_neg c4]
      rw [q_v0_7] at G6
      exact G6 _ X2 e2
  intro T6 X6 e6
  show Go p e below W T6 (mkF m 41 #[.val (.int p1), .val (.int p2), .val (.long q3), .second, .val (.long q4), .second, .val (.long q5), .second, .val (.int p6), .val (.int (v0_3 p1 p2 q3 q4 q5 p6)), .val (.long (v0_7 p1 p2 q3 q4 q5 p6)), .second, .unset, .unset, .unset, .unset, .unset] [])
  refine Go.newO X6 hx hZ hown (hw _ (List.mem_of_getElem? (i := 1) rfl)) (hw _ (List.mem_of_getElem? (i := 2) rfl)) (hw _ (List.mem_of_getElem? (i := 3) rfl)) e6 (hb hby at_41) (by decide) (by decide) ?_
  intro T8 h8 b8 zq8 X8 e8 E8 E_b8 D8
  have g_b8 : n0 ≤ b8 := by rw [zq8]; exact Z0
  have s_b8 : h0.size ≤ b8 := by rw [zq8]; exact K.1
  have K := K.ext E8
  have Z0 := Nat.le_trans Z0 E8.1
  have F_b8_term : Fld Z h8 b8 "com/example/elect/elect/election/View" "term" "J" (.long (0 : Int64)) := D8 (Or.inr (hw _ (List.mem_of_getElem? (i := 16) rfl))) (ty := .long) (by decide)
  have F_b8_leader : Fld Z h8 b8 "com/example/elect/elect/election/View" "leader" "I" (.int (0 : Int32)) := D8 (Or.inr (hw _ (List.mem_of_getElem? (i := 18) rfl))) (ty := .int) (by decide)
  show Go p e below W T8 (mkF m 44 #[.val (.int p1), .val (.int p2), .val (.long q3), .second, .val (.long q4), .second, .val (.long q5), .second, .val (.int p6), .val (.int (v0_3 p1 p2 q3 q4 q5 p6)), .val (.long (v0_7 p1 p2 q3 q4 q5 p6)), .second, .unset, .unset, .unset, .unset, .unset] [(.ref b8)])
  refine Go.of (fun _ k => XS.dup X8.here hx rfl (hb hby at_44) rfl rfl k) ?_
  show Go p e below W T8 (mkF m 45 #[.val (.int p1), .val (.int p2), .val (.long q3), .second, .val (.long q4), .second, .val (.long q5), .second, .val (.int p6), .val (.int (v0_3 p1 p2 q3 q4 q5 p6)), .val (.long (v0_7 p1 p2 q3 q4 q5 p6)), .second, .unset, .unset, .unset, .unset, .unset] [(.ref b8), (.ref b8)])
  refine Go.of (fun _ k => XS.lloadN X8.here hx rfl (hb hby at_45) rfl k) ?_
  show Go p e below W T8 (mkF m 46 #[.val (.int p1), .val (.int p2), .val (.long q3), .second, .val (.long q4), .second, .val (.long q5), .second, .val (.int p6), .val (.int (v0_3 p1 p2 q3 q4 q5 p6)), .val (.long (v0_7 p1 p2 q3 q4 q5 p6)), .second, .unset, .unset, .unset, .unset, .unset] [(.long q3), (.ref b8), (.ref b8)])
  refine Go.of (fun _ k => XS.iload X8.here hx rfl (hb hby at_46) rfl k) ?_
  show Go p e below W T8 (mkF m 48 #[.val (.int p1), .val (.int p2), .val (.long q3), .second, .val (.long q4), .second, .val (.long q5), .second, .val (.int p6), .val (.int (v0_3 p1 p2 q3 q4 q5 p6)), .val (.long (v0_7 p1 p2 q3 q4 q5 p6)), .second, .unset, .unset, .unset, .unset, .unset] [(.int (v0_3 p1 p2 q3 q4 q5 p6)), (.long q3), (.ref b8), (.ref b8)])
  refine Go.callI X8 hx hZ rfl hown (hw _ (List.mem_of_getElem? (i := 4) rfl)) (hw _ (List.mem_of_getElem? (i := 5) rfl)) (hw _ (List.mem_of_getElem? (i := 3) rfl)) (hw _ (List.mem_of_getElem? (i := 6) rfl)) (by decide) e8 (rm1 l Z a0 hw [] b8 q3 (v0_3 p1 p2 q3 q4 q5 p6) h8 n0 Z0 E_b8 F_b8_term F_b8_leader g_b8) (V := 1) (by decide) (by decide) (by decide) (by decide) (by rw [hml]; rfl) (argsL := [(.long q3), (.int (v0_3 p1 p2 q3 q4 q5 p6))]) (rest := [(.ref b8)]) rfl (lenOf pd__JI_V rfl) rfl (Nat.le_of_ble_eq_true rfl) (hb hby at_48) ?_
  rintro T9 _ M9 ⟨rfl, N9, K9, F_b8_term, F_b8_leader⟩ X9
  obtain ⟨L9, zq9⟩ : ∃ z, z = [] ++ M9 := ⟨_, rfl⟩
  have N := Fr.app N N9
  rw [← zq9] at X9 N
  have E_b8 := E_b8.keep K9
  have K := K.trans K9 (by
    intro x hx
    simp only [List.mem_cons, List.not_mem_nil, or_false] at hx
    rcases hx with rfl
    · exact Or.inr s_b8)
  have Z0 := Nat.le_trans Z0 K9.1
  show Go p e below W T9 (mkF m 51 #[.val (.int p1), .val (.int p2), .val (.long q3), .second, .val (.long q4), .second, .val (.long q5), .second, .val (.int p6), .val (.int (v0_3 p1 p2 q3 q4 q5 p6)), .val (.long (v0_7 p1 p2 q3 q4 q5 p6)), .second, .unset, .unset, .unset, .unset, .unset] [(.ref b8)])
  refine Go.of (fun _ k => XS.astore X9.here hx rfl (hb hby at_51) rfl rfl (l' := #[.val (.int p1), .val (.int p2), .val (.long q3), .second, .val (.long q4), .second, .val (.long q5), .second, .val (.int p6), .val (.int (v0_3 p1 p2 q3 q4 q5 p6)), .val (.long (v0_7 p1 p2 q3 q4 q5 p6)), .second, .val (.ref b8), .unset, .unset, .unset, .unset]) rfl k) ?_
  show Go p e below W T9 (mkF m 53 #[.val (.int p1), .val (.int p2), .val (.long q3), .second, .val (.long q4), .second, .val (.long q5), .second, .val (.int p6), .val (.int (v0_3 p1 p2 q3 q4 q5 p6)), .val (.long (v0_7 p1 p2 q3 q4 q5 p6)), .second, .val (.ref b8), .unset, .unset, .unset, .unset] [])
  refine Go.newO X9 hx hZ hown (hw _ (List.mem_of_getElem? (i := 19) rfl)) (hw _ (List.mem_of_getElem? (i := 20) rfl)) (hw _ (List.mem_of_getElem? (i := 21) rfl)) rfl (hb hby at_53) (by decide) (by decide) ?_
  intro T10 h10 b10 zq10 X10 e10 E10 E_b10 D10
  have ne_b8_b10 : b8 ≠ b10 := by rw [zq10]; exact Nat.ne_of_lt E_b8.lt
  have g_b10 : n0 ≤ b10 := by rw [zq10]; exact Z0
  have s_b10 : h0.size ≤ b10 := by rw [zq10]; exact K.1
  have E_b8 := E_b8.ext E10
  have F_b8_term := F_b8_term.ext E10
  have F_b8_leader := F_b8_leader.ext E10
  have K := K.ext E10
  have Z0 := Nat.le_trans Z0 E10.1
  have F_b10_self : Fld Z h10 b10 "com/example/elect/elect/election/Standing" "self" "I" (.int (0 : Int32)) := D10 (Or.inr (hw _ (List.mem_of_getElem? (i := 27) rfl))) (ty := .int) (by decide)
  have F_b10_view : Fld Z h10 b10 "com/example/elect/elect/election/Standing" "view" "Lcom/example/elect/elect/election/View;" .null := D10 (Or.inr (hw _ (List.mem_of_getElem? (i := 29) rfl))) (ty := (.object "com/example/elect/elect/election/View")) (by decide)
  have F_b10_leadsUntil : Fld Z h10 b10 "com/example/elect/elect/election/Standing" "leadsUntil" "J" (.long (0 : Int64)) := D10 (Or.inr (hw _ (List.mem_of_getElem? (i := 31) rfl))) (ty := .long) (by decide)
  show Go p e below W T10 (mkF m 56 #[.val (.int p1), .val (.int p2), .val (.long q3), .second, .val (.long q4), .second, .val (.long q5), .second, .val (.int p6), .val (.int (v0_3 p1 p2 q3 q4 q5 p6)), .val (.long (v0_7 p1 p2 q3 q4 q5 p6)), .second, .val (.ref b8), .unset, .unset, .unset, .unset] [(.ref b10)])
  refine Go.of (fun _ k => XS.dup X10.here hx rfl (hb hby at_56) rfl rfl k) ?_
  show Go p e below W T10 (mkF m 57 #[.val (.int p1), .val (.int p2), .val (.long q3), .second, .val (.long q4), .second, .val (.long q5), .second, .val (.int p6), .val (.int (v0_3 p1 p2 q3 q4 q5 p6)), .val (.long (v0_7 p1 p2 q3 q4 q5 p6)), .second, .val (.ref b8), .unset, .unset, .unset, .unset] [(.ref b10), (.ref b10)])
  refine Go.of (fun _ k => XS.iloadN X10.here hx rfl (hb hby at_57) rfl k) ?_
  show Go p e below W T10 (mkF m 58 #[.val (.int p1), .val (.int p2), .val (.long q3), .second, .val (.long q4), .second, .val (.long q5), .second, .val (.int p6), .val (.int (v0_3 p1 p2 q3 q4 q5 p6)), .val (.long (v0_7 p1 p2 q3 q4 q5 p6)), .second, .val (.ref b8), .unset, .unset, .unset, .unset] [(.int p1), (.ref b10), (.ref b10)])
  refine Go.of (fun _ k => XS.aload X10.here hx rfl (hb hby at_58) rfl rfl k) ?_
  show Go p e below W T10 (mkF m 60 #[.val (.int p1), .val (.int p2), .val (.long q3), .second, .val (.long q4), .second, .val (.long q5), .second, .val (.int p6), .val (.int (v0_3 p1 p2 q3 q4 q5 p6)), .val (.long (v0_7 p1 p2 q3 q4 q5 p6)), .second, .val (.ref b8), .unset, .unset, .unset, .unset] [(.ref b8), (.int p1), (.ref b10), (.ref b10)])
  refine Go.of (fun _ k => XS.lload X10.here hx rfl (hb hby at_60) rfl k) ?_
  show Go p e below W T10 (mkF m 62 #[.val (.int p1), .val (.int p2), .val (.long q3), .second, .val (.long q4), .second, .val (.long q5), .second, .val (.int p6), .val (.int (v0_3 p1 p2 q3 q4 q5 p6)), .val (.long (v0_7 p1 p2 q3 q4 q5 p6)), .second, .val (.ref b8), .unset, .unset, .unset, .unset] [(.long q4), (.ref b8), (.int p1), (.ref b10), (.ref b10)])
  refine Go.callI X10 hx hZ rfl hown (hw _ (List.mem_of_getElem? (i := 22) rfl)) (hw _ (List.mem_of_getElem? (i := 23) rfl)) (hw _ (List.mem_of_getElem? (i := 21) rfl)) (hw _ (List.mem_of_getElem? (i := 24) rfl)) (by decide) e10 (rm4 l Z a0 hw [] b10 p1 b8 q4 h10 n0 Z0 E_b10 F_b10_self F_b10_view F_b10_leadsUntil g_b10) (V := 1) (by decide) (by decide) (by decide) (by decide) (by rw [hml]; rfl) (argsL := [(.int p1), (.ref b8), (.long q4)]) (rest := [(.ref b10)]) rfl (lenOf pd__ILcom_example_elect_elect_election_View_J_V rfl) rfl (Nat.le_of_ble_eq_true rfl) (hb hby at_62) ?_
  rintro T11 _ M11 ⟨rfl, N11, K11, F_b10_self, F_b10_view, F_b10_leadsUntil⟩ X11
  obtain ⟨L11, zq11⟩ : ∃ z, z = L9 ++ M11 := ⟨_, rfl⟩
  have N := Fr.app N N11
  rw [← zq11] at X11 N
  have E_b8 := E_b8.keep K11
  have F_b8_term := F_b8_term.keep K11 (ninS ne_b8_b10 nin0)
  have F_b8_leader := F_b8_leader.keep K11 (ninS ne_b8_b10 nin0)
  have E_b10 := E_b10.keep K11
  have K := K.trans K11 (by
    intro x hx
    simp only [List.mem_cons, List.not_mem_nil, or_false] at hx
    rcases hx with rfl
    · exact Or.inr s_b10)
  have Z0 := Nat.le_trans Z0 K11.1
  show Go p e below W T11 (mkF m 65 #[.val (.int p1), .val (.int p2), .val (.long q3), .second, .val (.long q4), .second, .val (.long q5), .second, .val (.int p6), .val (.int (v0_3 p1 p2 q3 q4 q5 p6)), .val (.long (v0_7 p1 p2 q3 q4 q5 p6)), .second, .val (.ref b8), .unset, .unset, .unset, .unset] [(.ref b10)])
  refine Go.of (fun _ k => XS.astore X11.here hx rfl (hb hby at_65) rfl rfl (l' := #[.val (.int p1), .val (.int p2), .val (.long q3), .second, .val (.long q4), .second, .val (.long q5), .second, .val (.int p6), .val (.int (v0_3 p1 p2 q3 q4 q5 p6)), .val (.long (v0_7 p1 p2 q3 q4 q5 p6)), .second, .val (.ref b8), .val (.ref b10), .unset, .unset, .unset]) rfl k) ?_
  show Go p e below W T11 (mkF m 67 #[.val (.int p1), .val (.int p2), .val (.long q3), .second, .val (.long q4), .second, .val (.long q5), .second, .val (.int p6), .val (.int (v0_3 p1 p2 q3 q4 q5 p6)), .val (.long (v0_7 p1 p2 q3 q4 q5 p6)), .second, .val (.ref b8), .val (.ref b10), .unset, .unset, .unset] [])
  refine Go.of (fun _ k => XS.aload X11.here hx rfl (hb hby at_67) rfl rfl k) ?_
  show Go p e below W T11 (mkF m 69 #[.val (.int p1), .val (.int p2), .val (.long q3), .second, .val (.long q4), .second, .val (.long q5), .second, .val (.int p6), .val (.int (v0_3 p1 p2 q3 q4 q5 p6)), .val (.long (v0_7 p1 p2 q3 q4 q5 p6)), .second, .val (.ref b8), .val (.ref b10), .unset, .unset, .unset] [(.ref b10)])
  refine Go.of (fun _ k => XS.lload X11.here hx rfl (hb hby at_69) rfl k) ?_
  show Go p e below W T11 (mkF m 71 #[.val (.int p1), .val (.int p2), .val (.long q3), .second, .val (.long q4), .second, .val (.long q5), .second, .val (.int p6), .val (.int (v0_3 p1 p2 q3 q4 q5 p6)), .val (.long (v0_7 p1 p2 q3 q4 q5 p6)), .second, .val (.ref b8), .val (.ref b10), .unset, .unset, .unset] [(.long (v0_7 p1 p2 q3 q4 q5 p6)), (.ref b10)])
  refine Go.callV X11 hx hZ hown (hw _ (List.mem_of_getElem? (i := 32) rfl)) (hw _ (List.mem_of_getElem? (i := 33) rfl)) (hw _ (List.mem_of_getElem? (i := 35) rfl)) (hw _ (List.mem_of_getElem? (i := 34) rfl)) (hw _ (List.mem_of_getElem? (i := 21) rfl)) (hw _ (List.mem_of_getElem? (i := 36) rfl)) (by decide) rfl E_b10 (rm5 l Z a0 hw [] b10 (v0_7 p1 p2 q3 q4 q5 p6) b8 (v0_3 p1 p2 q3 q4 q5 p6) p1 q4 T11.heap E_b10 F_b10_view E_b8 F_b8_leader F_b10_self F_b10_leadsUntil) (V := 0) (by decide) (by decide) (by decide) (by decide) (by rw [hml]; rfl) (argsL := [(.long (v0_7 p1 p2 q3 q4 q5 p6))]) (rest := []) rfl (lenOf pd__J_J rfl) rfl (Nat.le_of_ble_eq_true rfl) (hb hby at_71) ?_
  rintro T12 _ _ ⟨rfl, rfl, e12⟩ X12
  rw [List.append_nil] at X12
  show Go p e below W T12 (mkF m 74 #[.val (.int p1), .val (.int p2), .val (.long q3), .second, .val (.long q4), .second, .val (.long q5), .second, .val (.int p6), .val (.int (v0_3 p1 p2 q3 q4 q5 p6)), .val (.long (v0_7 p1 p2 q3 q4 q5 p6)), .second, .val (.ref b8), .val (.ref b10), .unset, .unset, .unset] [(.long (f5 (v0_7 p1 p2 q3 q4 q5 p6) (v0_3 p1 p2 q3 q4 q5 p6) p1 q4))])
  refine Go.of (fun _ k => XS.lstore X12.here hx rfl (hb hby at_74) rfl (l' := #[.val (.int p1), .val (.int p2), .val (.long q3), .second, .val (.long q4), .second, .val (.long q5), .second, .val (.int p6), .val (.int (v0_3 p1 p2 q3 q4 q5 p6)), .val (.long (v0_7 p1 p2 q3 q4 q5 p6)), .second, .val (.ref b8), .val (.ref b10), .val (.long (v0_13 p1 p2 q3 q4 q5 p6)), .second, .unset]) rfl k) ?_
  show Go p e below W T12 (mkF m 76 #[.val (.int p1), .val (.int p2), .val (.long q3), .second, .val (.long q4), .second, .val (.long q5), .second, .val (.int p6), .val (.int (v0_3 p1 p2 q3 q4 q5 p6)), .val (.long (v0_7 p1 p2 q3 q4 q5 p6)), .second, .val (.ref b8), .val (.ref b10), .val (.long (v0_13 p1 p2 q3 q4 q5 p6)), .second, .unset] [])
  refine Go.of (fun _ k => XS.iload X12.here hx rfl (hb hby at_76) rfl k) ?_
  show Go p e below W T12 (mkF m 78 #[.val (.int p1), .val (.int p2), .val (.long q3), .second, .val (.long q4), .second, .val (.long q5), .second, .val (.int p6), .val (.int (v0_3 p1 p2 q3 q4 q5 p6)), .val (.long (v0_7 p1 p2 q3 q4 q5 p6)), .second, .val (.ref b8), .val (.ref b10), .val (.long (v0_13 p1 p2 q3 q4 q5 p6)), .second, .unset] [(.int (v0_3 p1 p2 q3 q4 q5 p6))])
  refine Go.of (fun _ k => XS.iloadN X12.here hx rfl (hb hby at_78) rfl k) ?_
  show Go p e below W T12 (mkF m 79 #[.val (.int p1), .val (.int p2), .val (.long q3), .second, .val (.long q4), .second, .val (.long q5), .second, .val (.int p6), .val (.int (v0_3 p1 p2 q3 q4 q5 p6)), .val (.long (v0_7 p1 p2 q3 q4 q5 p6)), .second, .val (.ref b8), .val (.ref b10), .val (.long (v0_13 p1 p2 q3 q4 q5 p6)), .second, .unset] [(.int p1), (.int (v0_3 p1 p2 q3 q4 q5 p6))])
  suffices G16 : ∀ T', Stand p l e room_1 s m #[(.int p1), (.int p2), (.long q3), (.long q4), (.long q5), (.int p6)] below meth c T' L11 2 5 → T'.heap = T11.heap → Go p e below W T' (mkF m 95 #[.val (.int p1), .val (.int p2), .val (.long q3), .second, .val (.long q4), .second, .val (.long q5), .second, .val (.int p6), .val (.int (v0_3 p1 p2 q3 q4 q5 p6)), .val (.long (v0_7 p1 p2 q3 q4 q5 p6)), .second, .val (.ref b8), .val (.ref b10), .val (.long (v0_13 p1 p2 q3 q4 q5 p6)), .second, .unset] [(.int (v0_17 p1 p2 q3 q4 q5 p6))]) by
    by_cases c14 : (v0_3 p1 p2 q3 q4 q5 p6) = p1
    · refine Go.of (fun _ k => XS.icmpNo X12.here hx rfl (hb hby at_79) rfl (Jvm.Free.XT.ii_ne_f c14) k) ?_
      show Go p e below W T12 (mkF m 82 #[.val (.int p1), .val (.int p2), .val (.long q3), .second, .val (.long q4), .second, .val (.long q5), .second, .val (.int p6), .val (.int (v0_3 p1 p2 q3 q4 q5 p6)), .val (.long (v0_7 p1 p2 q3 q4 q5 p6)), .second, .val (.ref b8), .val (.ref b10), .val (.long (v0_13 p1 p2 q3 q4 q5 p6)), .second, .unset] [])
      refine Go.of (fun _ k => XS.lload X12.here hx rfl (hb hby at_82) rfl k) ?_
      show Go p e below W T12 (mkF m 84 #[.val (.int p1), .val (.int p2), .val (.long q3), .second, .val (.long q4), .second, .val (.long q5), .second, .val (.int p6), .val (.int (v0_3 p1 p2 q3 q4 q5 p6)), .val (.long (v0_7 p1 p2 q3 q4 q5 p6)), .second, .val (.ref b8), .val (.ref b10), .val (.long (v0_13 p1 p2 q3 q4 q5 p6)), .second, .unset] [(.long (v0_7 p1 p2 q3 q4 q5 p6))])
      refine Go.of (fun _ k => XS.lload X12.here hx rfl (hb hby at_84) rfl k) ?_
      show Go p e below W T12 (mkF m 86 #[.val (.int p1), .val (.int p2), .val (.long q3), .second, .val (.long q4), .second, .val (.long q5), .second, .val (.int p6), .val (.int (v0_3 p1 p2 q3 q4 q5 p6)), .val (.long (v0_7 p1 p2 q3 q4 q5 p6)), .second, .val (.ref b8), .val (.ref b10), .val (.long (v0_13 p1 p2 q3 q4 q5 p6)), .second, .unset] [(.long q4), (.long (v0_7 p1 p2 q3 q4 q5 p6))])
      refine Go.of (fun _ k => XS.lcmp X12.here hx rfl (hb hby at_86) rfl k) ?_
      show Go p e below W T12 (mkF m 87 #[.val (.int p1), .val (.int p2), .val (.long q3), .second, .val (.long q4), .second, .val (.long q5), .second, .val (.int p6), .val (.int (v0_3 p1 p2 q3 q4 q5 p6)), .val (.long (v0_7 p1 p2 q3 q4 q5 p6)), .second, .val (.ref b8), .val (.ref b10), .val (.long (v0_13 p1 p2 q3 q4 q5 p6)), .second, .unset] [(.int (Jvm.Free.XT.cmpL (v0_7 p1 p2 q3 q4 q5 p6) q4))])
      by_cases c15 : (v0_7 p1 p2 q3 q4 q5 p6) < q4
      · refine Go.of (fun _ k => XS.ifNo X12.here hx rfl (hb hby at_87) rfl (Jvm.Free.XT.ll_ge_f c15) k) ?_
        show Go p e below W T12 (mkF m 90 #[.val (.int p1), .val (.int p2), .val (.long q3), .second, .val (.long q4), .second, .val (.long q5), .second, .val (.int p6), .val (.int (v0_3 p1 p2 q3 q4 q5 p6)), .val (.long (v0_7 p1 p2 q3 q4 q5 p6)), .second, .val (.ref b8), .val (.ref b10), .val (.long (v0_13 p1 p2 q3 q4 q5 p6)), .second, .unset] [])
        refine Go.of (fun _ k => XS.iconst X12.here hx rfl (hb hby at_90) k) ?_
        show Go p e below W T12 (mkF m 91 #[.val (.int p1), .val (.int p2), .val (.long q3), .second, .val (.long q4), .second, .val (.long q5), .second, .val (.int p6), .val (.int (v0_3 p1 p2 q3 q4 q5 p6)), .val (.long (v0_7 p1 p2 q3 q4 q5 p6)), .second, .val (.ref b8), .val (.ref b10), .val (.long (v0_13 p1 p2 q3 q4 q5 p6)), .second, .unset] [(.int (1 : Int32))])
        refine Go.of (fun _ k => XS.goto X12.here hx rfl (pc0 := 91) (pc' := 95) rfl (hb hby at_91) (by decide) (by decide) k) ?_
        have G16 := G16
        have q_v0_17 : (v0_17 p1 p2 q3 q4 q5 p6) = (1 : Int32) := by rw [v0_17, if_pos c14, if_pos c15]
        rw [q_v0_17] at G16
        exact G16 _ X12 e12
      · refine Go.of (fun _ k => XS.ifYes X12.here hx rfl (pc0 := 87) (pc' := 94) rfl (hb hby at_87) rfl (Jvm.Free.XT.ll_ge_t c15) (by decide) (by decide) k) ?_
        show Go p e below W T12 (mkF m 94 #[.val (.int p1), .val (.int p2), .val (.long q3), .second, .val (.long q4), .second, .val (.long q5), .second, .val (.int p6), .val (.int (v0_3 p1 p2 q3 q4 q5 p6)), .val (.long (v0_7 p1 p2 q3 q4 q5 p6)), .second, .val (.ref b8), .val (.ref b10), .val (.long (v0_13 p1 p2 q3 q4 q5 p6)), .second, .unset] [])
        refine Go.of (fun _ k => XS.iconst X12.here hx rfl (hb hby at_94) k) ?_
        have G16 := G16
        have q_v0_17 : (v0_17 p1 p2 q3 q4 q5 p6) = (0 : Int32) := by rw [v0_17, if_pos c14, if_neg c15]
        rw [q_v0_17] at G16
        exact G16 _ X12 e12
    · refine Go.of (fun _ k => XS.icmpYes X12.here hx rfl (pc0 := 79) (pc' := 94) rfl (hb hby at_79) rfl (Jvm.Free.XT.ii_ne_t c14) (by decide) (by decide) k) ?_
      show Go p e below W T12 (mkF m 94 #[.val (.int p1), .val (.int p2), .val (.long q3), .second, .val (.long q4), .second, .val (.long q5), .second, .val (.int p6), .val (.int (v0_3 p1 p2 q3 q4 q5 p6)), .val (.long (v0_7 p1 p2 q3 q4 q5 p6)), .second, .val (.ref b8), .val (.ref b10), .val (.long (v0_13 p1 p2 q3 q4 q5 p6)), .second, .unset] [])
      refine Go.of (fun _ k => XS.iconst X12.here hx rfl (hb hby at_94) k) ?_
      have G16 := G16
      have q_v0_17 : (v0_17 p1 p2 q3 q4 q5 p6) = (0 : Int32) := by rw [v0_17, if_neg c14]
      rw [q_v0_17] at G16
      exact G16 _ X12 e12
  intro T16 X16 e16
  show Go p e below W T16 (mkF m 95 #[.val (.int p1), .val (.int p2), .val (.long q3), .second, .val (.long q4), .second, .val (.long q5), .second, .val (.int p6), .val (.int (v0_3 p1 p2 q3 q4 q5 p6)), .val (.long (v0_7 p1 p2 q3 q4 q5 p6)), .second, .val (.ref b8), .val (.ref b10), .val (.long (v0_13 p1 p2 q3 q4 q5 p6)), .second, .unset] [(.int (v0_17 p1 p2 q3 q4 q5 p6))])
  refine Go.of (fun _ k => XS.istore X16.here hx rfl (hb hby at_95) rfl (l' := #[.val (.int p1), .val (.int p2), .val (.long q3), .second, .val (.long q4), .second, .val (.long q5), .second, .val (.int p6), .val (.int (v0_3 p1 p2 q3 q4 q5 p6)), .val (.long (v0_7 p1 p2 q3 q4 q5 p6)), .second, .val (.ref b8), .val (.ref b10), .val (.long (v0_13 p1 p2 q3 q4 q5 p6)), .second, .val (.int (v0_17 p1 p2 q3 q4 q5 p6))]) rfl k) ?_
  show Go p e below W T16 (mkF m 97 #[.val (.int p1), .val (.int p2), .val (.long q3), .second, .val (.long q4), .second, .val (.long q5), .second, .val (.int p6), .val (.int (v0_3 p1 p2 q3 q4 q5 p6)), .val (.long (v0_7 p1 p2 q3 q4 q5 p6)), .second, .val (.ref b8), .val (.ref b10), .val (.long (v0_13 p1 p2 q3 q4 q5 p6)), .second, .val (.int (v0_17 p1 p2 q3 q4 q5 p6))] [])
  refine Go.of (fun _ k => XS.iload X16.here hx rfl (hb hby at_97) rfl k) ?_
  show Go p e below W T16 (mkF m 99 #[.val (.int p1), .val (.int p2), .val (.long q3), .second, .val (.long q4), .second, .val (.long q5), .second, .val (.int p6), .val (.int (v0_3 p1 p2 q3 q4 q5 p6)), .val (.long (v0_7 p1 p2 q3 q4 q5 p6)), .second, .val (.ref b8), .val (.ref b10), .val (.long (v0_13 p1 p2 q3 q4 q5 p6)), .second, .val (.int (v0_17 p1 p2 q3 q4 q5 p6))] [(.int (v0_17 p1 p2 q3 q4 q5 p6))])
  by_cases c18 : (v0_17 p1 p2 q3 q4 q5 p6) = (0 : Int32)
  · refine Go.of (fun _ k => XS.ifYes X16.here hx rfl (pc0 := 99) (pc' := 137) rfl (hb hby at_99) rfl (Jvm.Free.XT.i0_eq_t c18) (by decide) (by decide) k) ?_
    show Go p e below W T16 (mkF m 137 #[.val (.int p1), .val (.int p2), .val (.long q3), .second, .val (.long q4), .second, .val (.long q5), .second, .val (.int p6), .val (.int (v0_3 p1 p2 q3 q4 q5 p6)), .val (.long (v0_7 p1 p2 q3 q4 q5 p6)), .second, .val (.ref b8), .val (.ref b10), .val (.long (v0_13 p1 p2 q3 q4 q5 p6)), .second, .val (.int (v0_17 p1 p2 q3 q4 q5 p6))] [])
    refine Go.of (fun _ k => XS.lload X16.here hx rfl (hb hby at_137) rfl k) ?_
    show Go p e below W T16 (mkF m 139 #[.val (.int p1), .val (.int p2), .val (.long q3), .second, .val (.long q4), .second, .val (.long q5), .second, .val (.int p6), .val (.int (v0_3 p1 p2 q3 q4 q5 p6)), .val (.long (v0_7 p1 p2 q3 q4 q5 p6)), .second, .val (.ref b8), .val (.ref b10), .val (.long (v0_13 p1 p2 q3 q4 q5 p6)), .second, .val (.int (v0_17 p1 p2 q3 q4 q5 p6))] [(.long (v0_13 p1 p2 q3 q4 q5 p6))])
    refine Go.of (fun _ k => XS.lconst X16.here hx rfl (hb hby at_139) k) ?_
    show Go p e below W T16 (mkF m 140 #[.val (.int p1), .val (.int p2), .val (.long q3), .second, .val (.long q4), .second, .val (.long q5), .second, .val (.int p6), .val (.int (v0_3 p1 p2 q3 q4 q5 p6)), .val (.long (v0_7 p1 p2 q3 q4 q5 p6)), .second, .val (.ref b8), .val (.ref b10), .val (.long (v0_13 p1 p2 q3 q4 q5 p6)), .second, .val (.int (v0_17 p1 p2 q3 q4 q5 p6))] [(.long (0 : Int64)), (.long (v0_13 p1 p2 q3 q4 q5 p6))])
    refine Go.of (fun _ k => XS.lcmp X16.here hx rfl (hb hby at_140) rfl k) ?_
    show Go p e below W T16 (mkF m 141 #[.val (.int p1), .val (.int p2), .val (.long q3), .second, .val (.long q4), .second, .val (.long q5), .second, .val (.int p6), .val (.int (v0_3 p1 p2 q3 q4 q5 p6)), .val (.long (v0_7 p1 p2 q3 q4 q5 p6)), .second, .val (.ref b8), .val (.ref b10), .val (.long (v0_13 p1 p2 q3 q4 q5 p6)), .second, .val (.int (v0_17 p1 p2 q3 q4 q5 p6))] [(.int (Jvm.Free.XT.cmpL (v0_13 p1 p2 q3 q4 q5 p6) (0 : Int64)))])
    by_cases c19 : (v0_13 p1 p2 q3 q4 q5 p6) = (0 : Int64)
    · refine Go.of (fun _ k => XS.ifNo X16.here hx rfl (hb hby at_141) rfl (Jvm.Free.XT.ll_ne_f c19) k) ?_
      show Go p e below W T16 (mkF m 144 #[.val (.int p1), .val (.int p2), .val (.long q3), .second, .val (.long q4), .second, .val (.long q5), .second, .val (.int p6), .val (.int (v0_3 p1 p2 q3 q4 q5 p6)), .val (.long (v0_7 p1 p2 q3 q4 q5 p6)), .second, .val (.ref b8), .val (.ref b10), .val (.long (v0_13 p1 p2 q3 q4 q5 p6)), .second, .val (.int (v0_17 p1 p2 q3 q4 q5 p6))] [])
      refine Go.of (fun _ k => XS.iconst X16.here hx rfl (hb hby at_144) k) ?_
      show Go p e below W T16 (mkF m 145 #[.val (.int p1), .val (.int p2), .val (.long q3), .second, .val (.long q4), .second, .val (.long q5), .second, .val (.int p6), .val (.int (v0_3 p1 p2 q3 q4 q5 p6)), .val (.long (v0_7 p1 p2 q3 q4 q5 p6)), .second, .val (.ref b8), .val (.ref b10), .val (.long (v0_13 p1 p2 q3 q4 q5 p6)), .second, .val (.int (v0_17 p1 p2 q3 q4 q5 p6))] [(.int (1 : Int32))])
      refine Go.of (fun _ k => XS.goto X16.here hx rfl (pc0 := 145) (pc' := 149) rfl (hb hby at_145) (by decide) (by decide) k) ?_
      show Go p e below W T16 (mkF m 149 #[.val (.int p1), .val (.int p2), .val (.long q3), .second, .val (.long q4), .second, .val (.long q5), .second, .val (.int p6), .val (.int (v0_3 p1 p2 q3 q4 q5 p6)), .val (.long (v0_7 p1 p2 q3 q4 q5 p6)), .second, .val (.ref b8), .val (.ref b10), .val (.long (v0_13 p1 p2 q3 q4 q5 p6)), .second, .val (.int (v0_17 p1 p2 q3 q4 q5 p6))] [(.int (1 : Int32))])
      have u_f0 : (f0 p1 p2 q3 q4 q5 p6) = (1 : Int32) := by rw [f0, if_pos c18, if_pos c19]
      have fin : Q0 Z p1 p2 q3 q4 q5 p6 h0 n0 (some (.int (f0 p1 p2 q3 q4 q5 p6))) T11.heap L11 := ⟨rfl, N, K⟩
      exact Go.retN X16 hx hret (Or.inl rfl) (hb hby at_149) hlk (Eq.trans rfl u_f0.symm) (fun t ht fe => hW t _ _ _ _ (by rw [ht, e16]; exact fin) fe (by decide) (by decide))
    · refine Go.of (fun _ k => XS.ifYes X16.here hx rfl (pc0 := 141) (pc' := 148) rfl (hb hby at_141) rfl (Jvm.Free.XT.ll_ne_t c19) (by decide) (by decide) k) ?_
      show Go p e below W T16 (mkF m 148 #[.val (.int p1), .val (.int p2), .val (.long q3), .second, .val (.long q4), .second, .val (.long q5), .second, .val (.int p6), .val (.int (v0_3 p1 p2 q3 q4 q5 p6)), .val (.long (v0_7 p1 p2 q3 q4 q5 p6)), .second, .val (.ref b8), .val (.ref b10), .val (.long (v0_13 p1 p2 q3 q4 q5 p6)), .second, .val (.int (v0_17 p1 p2 q3 q4 q5 p6))] [])
      refine Go.of (fun _ k => XS.iconst X16.here hx rfl (hb hby at_148) k) ?_
      show Go p e below W T16 (mkF m 149 #[.val (.int p1), .val (.int p2), .val (.long q3), .second, .val (.long q4), .second, .val (.long q5), .second, .val (.int p6), .val (.int (v0_3 p1 p2 q3 q4 q5 p6)), .val (.long (v0_7 p1 p2 q3 q4 q5 p6)), .second, .val (.ref b8), .val (.ref b10), .val (.long (v0_13 p1 p2 q3 q4 q5 p6)), .second, .val (.int (v0_17 p1 p2 q3 q4 q5 p6))] [(.int (0 : Int32))])
      have u_f0 : (f0 p1 p2 q3 q4 q5 p6) = (0 : Int32) := by rw [f0, if_pos c18, if_neg c19]
      have fin : Q0 Z p1 p2 q3 q4 q5 p6 h0 n0 (some (.int (f0 p1 p2 q3 q4 q5 p6))) T11.heap L11 := ⟨rfl, N, K⟩
      exact Go.retN X16 hx hret (Or.inl rfl) (hb hby at_149) hlk (Eq.trans rfl u_f0.symm) (fun t ht fe => hW t _ _ _ _ (by rw [ht, e16]; exact fin) fe (by decide) (by decide))
  · refine Go.of (fun _ k => XS.ifNo X16.here hx rfl (hb hby at_99) rfl (Jvm.Free.XT.i0_eq_f c18) k) ?_
    show Go p e below W T16 (mkF m 102 #[.val (.int p1), .val (.int p2), .val (.long q3), .second, .val (.long q4), .second, .val (.long q5), .second, .val (.int p6), .val (.int (v0_3 p1 p2 q3 q4 q5 p6)), .val (.long (v0_7 p1 p2 q3 q4 q5 p6)), .second, .val (.ref b8), .val (.ref b10), .val (.long (v0_13 p1 p2 q3 q4 q5 p6)), .second, .val (.int (v0_17 p1 p2 q3 q4 q5 p6))] [])
    refine Go.of (fun _ k => XS.lload X16.here hx rfl (hb hby at_102) rfl k) ?_
    show Go p e below W T16 (mkF m 104 #[.val (.int p1), .val (.int p2), .val (.long q3), .second, .val (.long q4), .second, .val (.long q5), .second, .val (.int p6), .val (.int (v0_3 p1 p2 q3 q4 q5 p6)), .val (.long (v0_7 p1 p2 q3 q4 q5 p6)), .second, .val (.ref b8), .val (.ref b10), .val (.long (v0_13 p1 p2 q3 q4 q5 p6)), .second, .val (.int (v0_17 p1 p2 q3 q4 q5 p6))] [(.long (v0_13 p1 p2 q3 q4 q5 p6))])
    refine Go.of (fun _ k => XS.lload X16.here hx rfl (hb hby at_104) rfl k) ?_
    show Go p e below W T16 (mkF m 106 #[.val (.int p1), .val (.int p2), .val (.long q3), .second, .val (.long q4), .second, .val (.long q5), .second, .val (.int p6), .val (.int (v0_3 p1 p2 q3 q4 q5 p6)), .val (.long (v0_7 p1 p2 q3 q4 q5 p6)), .second, .val (.ref b8), .val (.ref b10), .val (.long (v0_13 p1 p2 q3 q4 q5 p6)), .second, .val (.int (v0_17 p1 p2 q3 q4 q5 p6))] [(.long q4), (.long (v0_13 p1 p2 q3 q4 q5 p6))])
    refine Go.of (fun _ k => XS.lload X16.here hx rfl (hb hby at_106) rfl k) ?_
    show Go p e below W T16 (mkF m 108 #[.val (.int p1), .val (.int p2), .val (.long q3), .second, .val (.long q4), .second, .val (.long q5), .second, .val (.int p6), .val (.int (v0_3 p1 p2 q3 q4 q5 p6)), .val (.long (v0_7 p1 p2 q3 q4 q5 p6)), .second, .val (.ref b8), .val (.ref b10), .val (.long (v0_13 p1 p2 q3 q4 q5 p6)), .second, .val (.int (v0_17 p1 p2 q3 q4 q5 p6))] [(.long (v0_7 p1 p2 q3 q4 q5 p6)), (.long q4), (.long (v0_13 p1 p2 q3 q4 q5 p6))])
    refine Go.of (fun _ k => XS.lsub X16.here hx rfl (hb hby at_108) rfl k) ?_
    show Go p e below W T16 (mkF m 109 #[.val (.int p1), .val (.int p2), .val (.long q3), .second, .val (.long q4), .second, .val (.long q5), .second, .val (.int p6), .val (.int (v0_3 p1 p2 q3 q4 q5 p6)), .val (.long (v0_7 p1 p2 q3 q4 q5 p6)), .second, .val (.ref b8), .val (.ref b10), .val (.long (v0_13 p1 p2 q3 q4 q5 p6)), .second, .val (.int (v0_17 p1 p2 q3 q4 q5 p6))] [(.long (q4 - (v0_7 p1 p2 q3 q4 q5 p6))), (.long (v0_13 p1 p2 q3 q4 q5 p6))])
    refine Go.of (fun _ k => XS.lcmp X16.here hx rfl (hb hby at_109) rfl k) ?_
    show Go p e below W T16 (mkF m 110 #[.val (.int p1), .val (.int p2), .val (.long q3), .second, .val (.long q4), .second, .val (.long q5), .second, .val (.int p6), .val (.int (v0_3 p1 p2 q3 q4 q5 p6)), .val (.long (v0_7 p1 p2 q3 q4 q5 p6)), .second, .val (.ref b8), .val (.ref b10), .val (.long (v0_13 p1 p2 q3 q4 q5 p6)), .second, .val (.int (v0_17 p1 p2 q3 q4 q5 p6))] [(.int (Jvm.Free.XT.cmpL (v0_13 p1 p2 q3 q4 q5 p6) (q4 - (v0_7 p1 p2 q3 q4 q5 p6))))])
    by_cases c20 : (v0_13 p1 p2 q3 q4 q5 p6) = (q4 - (v0_7 p1 p2 q3 q4 q5 p6))
    · refine Go.of (fun _ k => XS.ifNo X16.here hx rfl (hb hby at_110) rfl (Jvm.Free.XT.ll_ne_f c20) k) ?_
      show Go p e below W T16 (mkF m 113 #[.val (.int p1), .val (.int p2), .val (.long q3), .second, .val (.long q4), .second, .val (.long q5), .second, .val (.int p6), .val (.int (v0_3 p1 p2 q3 q4 q5 p6)), .val (.long (v0_7 p1 p2 q3 q4 q5 p6)), .second, .val (.ref b8), .val (.ref b10), .val (.long (v0_13 p1 p2 q3 q4 q5 p6)), .second, .val (.int (v0_17 p1 p2 q3 q4 q5 p6))] [])
      refine Go.of (fun _ k => XS.lload X16.here hx rfl (hb hby at_113) rfl k) ?_
      show Go p e below W T16 (mkF m 115 #[.val (.int p1), .val (.int p2), .val (.long q3), .second, .val (.long q4), .second, .val (.long q5), .second, .val (.int p6), .val (.int (v0_3 p1 p2 q3 q4 q5 p6)), .val (.long (v0_7 p1 p2 q3 q4 q5 p6)), .second, .val (.ref b8), .val (.ref b10), .val (.long (v0_13 p1 p2 q3 q4 q5 p6)), .second, .val (.int (v0_17 p1 p2 q3 q4 q5 p6))] [(.long (v0_13 p1 p2 q3 q4 q5 p6))])
      refine Go.of (fun _ k => XS.lconst X16.here hx rfl (hb hby at_115) k) ?_
      show Go p e below W T16 (mkF m 116 #[.val (.int p1), .val (.int p2), .val (.long q3), .second, .val (.long q4), .second, .val (.long q5), .second, .val (.int p6), .val (.int (v0_3 p1 p2 q3 q4 q5 p6)), .val (.long (v0_7 p1 p2 q3 q4 q5 p6)), .second, .val (.ref b8), .val (.ref b10), .val (.long (v0_13 p1 p2 q3 q4 q5 p6)), .second, .val (.int (v0_17 p1 p2 q3 q4 q5 p6))] [(.long (0 : Int64)), (.long (v0_13 p1 p2 q3 q4 q5 p6))])
      refine Go.of (fun _ k => XS.lcmp X16.here hx rfl (hb hby at_116) rfl k) ?_
      show Go p e below W T16 (mkF m 117 #[.val (.int p1), .val (.int p2), .val (.long q3), .second, .val (.long q4), .second, .val (.long q5), .second, .val (.int p6), .val (.int (v0_3 p1 p2 q3 q4 q5 p6)), .val (.long (v0_7 p1 p2 q3 q4 q5 p6)), .second, .val (.ref b8), .val (.ref b10), .val (.long (v0_13 p1 p2 q3 q4 q5 p6)), .second, .val (.int (v0_17 p1 p2 q3 q4 q5 p6))] [(.int (Jvm.Free.XT.cmpL (v0_13 p1 p2 q3 q4 q5 p6) (0 : Int64)))])
      by_cases c21 : (v0_13 p1 p2 q3 q4 q5 p6) = (0 : Int64)
      · refine Go.of (fun _ k => XS.ifYes X16.here hx rfl (pc0 := 117) (pc' := 135) rfl (hb hby at_117) rfl (Jvm.Free.XT.ll_eq_t c21) (by decide) (by decide) k) ?_
        show Go p e below W T16 (mkF m 135 #[.val (.int p1), .val (.int p2), .val (.long q3), .second, .val (.long q4), .second, .val (.long q5), .second, .val (.int p6), .val (.int (v0_3 p1 p2 q3 q4 q5 p6)), .val (.long (v0_7 p1 p2 q3 q4 q5 p6)), .second, .val (.ref b8), .val (.ref b10), .val (.long (v0_13 p1 p2 q3 q4 q5 p6)), .second, .val (.int (v0_17 p1 p2 q3 q4 q5 p6))] [])
        refine Go.of (fun _ k => XS.iconst X16.here hx rfl (hb hby at_135) k) ?_
        show Go p e below W T16 (mkF m 136 #[.val (.int p1), .val (.int p2), .val (.long q3), .second, .val (.long q4), .second, .val (.long q5), .second, .val (.int p6), .val (.int (v0_3 p1 p2 q3 q4 q5 p6)), .val (.long (v0_7 p1 p2 q3 q4 q5 p6)), .second, .val (.ref b8), .val (.ref b10), .val (.long (v0_13 p1 p2 q3 q4 q5 p6)), .second, .val (.int (v0_17 p1 p2 q3 q4 q5 p6))] [(.int (0 : Int32))])
        have u_f0 : (f0 p1 p2 q3 q4 q5 p6) = (0 : Int32) := by rw [f0, if_neg c18, if_pos c20, if_pos c21]
        have fin : Q0 Z p1 p2 q3 q4 q5 p6 h0 n0 (some (.int (f0 p1 p2 q3 q4 q5 p6))) T11.heap L11 := ⟨rfl, N, K⟩
        exact Go.retN X16 hx hret (Or.inl rfl) (hb hby at_136) hlk (Eq.trans rfl u_f0.symm) (fun t ht fe => hW t _ _ _ _ (by rw [ht, e16]; exact fin) fe (by decide) (by decide))
      · refine Go.of (fun _ k => XS.ifNo X16.here hx rfl (hb hby at_117) rfl (Jvm.Free.XT.ll_eq_f c21) k) ?_
        show Go p e below W T16 (mkF m 120 #[.val (.int p1), .val (.int p2), .val (.long q3), .second, .val (.long q4), .second, .val (.long q5), .second, .val (.int p6), .val (.int (v0_3 p1 p2 q3 q4 q5 p6)), .val (.long (v0_7 p1 p2 q3 q4 q5 p6)), .second, .val (.ref b8), .val (.ref b10), .val (.long (v0_13 p1 p2 q3 q4 q5 p6)), .second, .val (.int (v0_17 p1 p2 q3 q4 q5 p6))] [])
        refine Go.of (fun _ k => XS.lload X16.here hx rfl (hb hby at_120) rfl k) ?_
        show Go p e below W T16 (mkF m 122 #[.val (.int p1), .val (.int p2), .val (.long q3), .second, .val (.long q4), .second, .val (.long q5), .second, .val (.int p6), .val (.int (v0_3 p1 p2 q3 q4 q5 p6)), .val (.long (v0_7 p1 p2 q3 q4 q5 p6)), .second, .val (.ref b8), .val (.ref b10), .val (.long (v0_13 p1 p2 q3 q4 q5 p6)), .second, .val (.int (v0_17 p1 p2 q3 q4 q5 p6))] [(.long (v0_13 p1 p2 q3 q4 q5 p6))])
        refine Go.of (fun _ k => XS.lload X16.here hx rfl (hb hby at_122) rfl k) ?_
        show Go p e below W T16 (mkF m 124 #[.val (.int p1), .val (.int p2), .val (.long q3), .second, .val (.long q4), .second, .val (.long q5), .second, .val (.int p6), .val (.int (v0_3 p1 p2 q3 q4 q5 p6)), .val (.long (v0_7 p1 p2 q3 q4 q5 p6)), .second, .val (.ref b8), .val (.ref b10), .val (.long (v0_13 p1 p2 q3 q4 q5 p6)), .second, .val (.int (v0_17 p1 p2 q3 q4 q5 p6))] [(.long (v0_7 p1 p2 q3 q4 q5 p6)), (.long (v0_13 p1 p2 q3 q4 q5 p6))])
        refine Go.of (fun _ k => XS.ladd X16.here hx rfl (hb hby at_124) rfl k) ?_
        show Go p e below W T16 (mkF m 125 #[.val (.int p1), .val (.int p2), .val (.long q3), .second, .val (.long q4), .second, .val (.long q5), .second, .val (.int p6), .val (.int (v0_3 p1 p2 q3 q4 q5 p6)), .val (.long (v0_7 p1 p2 q3 q4 q5 p6)), .second, .val (.ref b8), .val (.ref b10), .val (.long (v0_13 p1 p2 q3 q4 q5 p6)), .second, .val (.int (v0_17 p1 p2 q3 q4 q5 p6))] [(.long ((v0_13 p1 p2 q3 q4 q5 p6) + (v0_7 p1 p2 q3 q4 q5 p6)))])
        refine Go.of (fun _ k => XS.lload X16.here hx rfl (hb hby at_125) rfl k) ?_
        show Go p e below W T16 (mkF m 127 #[.val (.int p1), .val (.int p2), .val (.long q3), .second, .val (.long q4), .second, .val (.long q5), .second, .val (.int p6), .val (.int (v0_3 p1 p2 q3 q4 q5 p6)), .val (.long (v0_7 p1 p2 q3 q4 q5 p6)), .second, .val (.ref b8), .val (.ref b10), .val (.long (v0_13 p1 p2 q3 q4 q5 p6)), .second, .val (.int (v0_17 p1 p2 q3 q4 q5 p6))] [(.long q4), (.long ((v0_13 p1 p2 q3 q4 q5 p6) + (v0_7 p1 p2 q3 q4 q5 p6)))])
        refine Go.of (fun _ k => XS.lcmp X16.here hx rfl (hb hby at_127) rfl k) ?_
        show Go p e below W T16 (mkF m 128 #[.val (.int p1), .val (.int p2), .val (.long q3), .second, .val (.long q4), .second, .val (.long q5), .second, .val (.int p6), .val (.int (v0_3 p1 p2 q3 q4 q5 p6)), .val (.long (v0_7 p1 p2 q3 q4 q5 p6)), .second, .val (.ref b8), .val (.ref b10), .val (.long (v0_13 p1 p2 q3 q4 q5 p6)), .second, .val (.int (v0_17 p1 p2 q3 q4 q5 p6))] [(.int (Jvm.Free.XT.cmpL ((v0_13 p1 p2 q3 q4 q5 p6) + (v0_7 p1 p2 q3 q4 q5 p6)) q4))])
        by_cases c22 : ((v0_13 p1 p2 q3 q4 q5 p6) + (v0_7 p1 p2 q3 q4 q5 p6)) = q4
        · refine Go.of (fun _ k => XS.ifNo X16.here hx rfl (hb hby at_128) rfl (Jvm.Free.XT.ll_ne_f c22) k) ?_
          show Go p e below W T16 (mkF m 131 #[.val (.int p1), .val (.int p2), .val (.long q3), .second, .val (.long q4), .second, .val (.long q5), .second, .val (.int p6), .val (.int (v0_3 p1 p2 q3 q4 q5 p6)), .val (.long (v0_7 p1 p2 q3 q4 q5 p6)), .second, .val (.ref b8), .val (.ref b10), .val (.long (v0_13 p1 p2 q3 q4 q5 p6)), .second, .val (.int (v0_17 p1 p2 q3 q4 q5 p6))] [])
          refine Go.of (fun _ k => XS.iconst X16.here hx rfl (hb hby at_131) k) ?_
          show Go p e below W T16 (mkF m 132 #[.val (.int p1), .val (.int p2), .val (.long q3), .second, .val (.long q4), .second, .val (.long q5), .second, .val (.int p6), .val (.int (v0_3 p1 p2 q3 q4 q5 p6)), .val (.long (v0_7 p1 p2 q3 q4 q5 p6)), .second, .val (.ref b8), .val (.ref b10), .val (.long (v0_13 p1 p2 q3 q4 q5 p6)), .second, .val (.int (v0_17 p1 p2 q3 q4 q5 p6))] [(.int (1 : Int32))])
          refine Go.of (fun _ k => XS.goto X16.here hx rfl (pc0 := 132) (pc' := 136) rfl (hb hby at_132) (by decide) (by decide) k) ?_
          show Go p e below W T16 (mkF m 136 #[.val (.int p1), .val (.int p2), .val (.long q3), .second, .val (.long q4), .second, .val (.long q5), .second, .val (.int p6), .val (.int (v0_3 p1 p2 q3 q4 q5 p6)), .val (.long (v0_7 p1 p2 q3 q4 q5 p6)), .second, .val (.ref b8), .val (.ref b10), .val (.long (v0_13 p1 p2 q3 q4 q5 p6)), .second, .val (.int (v0_17 p1 p2 q3 q4 q5 p6))] [(.int (1 : Int32))])
          have u_f0 : (f0 p1 p2 q3 q4 q5 p6) = (1 : Int32) := by rw [f0, if_neg c18, if_pos c20, if_neg c21, if_pos c22]
          have fin : Q0 Z p1 p2 q3 q4 q5 p6 h0 n0 (some (.int (f0 p1 p2 q3 q4 q5 p6))) T11.heap L11 := ⟨rfl, N, K⟩
          exact Go.retN X16 hx hret (Or.inl rfl) (hb hby at_136) hlk (Eq.trans rfl u_f0.symm) (fun t ht fe => hW t _ _ _ _ (by rw [ht, e16]; exact fin) fe (by decide) (by decide))
        · refine Go.of (fun _ k => XS.ifYes X16.here hx rfl (pc0 := 128) (pc' := 135) rfl (hb hby at_128) rfl (Jvm.Free.XT.ll_ne_t c22) (by decide) (by decide) k) ?_
          show Go p e below W T16 (mkF m 135 #[.val (.int p1), .val (.int p2), .val (.long q3), .second, .val (.long q4), .second, .val (.long q5), .second, .val (.int p6), .val (.int (v0_3 p1 p2 q3 q4 q5 p6)), .val (.long (v0_7 p1 p2 q3 q4 q5 p6)), .second, .val (.ref b8), .val (.ref b10), .val (.long (v0_13 p1 p2 q3 q4 q5 p6)), .second, .val (.int (v0_17 p1 p2 q3 q4 q5 p6))] [])
          refine Go.of (fun _ k => XS.iconst X16.here hx rfl (hb hby at_135) k) ?_
          show Go p e below W T16 (mkF m 136 #[.val (.int p1), .val (.int p2), .val (.long q3), .second, .val (.long q4), .second, .val (.long q5), .second, .val (.int p6), .val (.int (v0_3 p1 p2 q3 q4 q5 p6)), .val (.long (v0_7 p1 p2 q3 q4 q5 p6)), .second, .val (.ref b8), .val (.ref b10), .val (.long (v0_13 p1 p2 q3 q4 q5 p6)), .second, .val (.int (v0_17 p1 p2 q3 q4 q5 p6))] [(.int (0 : Int32))])
          have u_f0 : (f0 p1 p2 q3 q4 q5 p6) = (0 : Int32) := by rw [f0, if_neg c18, if_pos c20, if_neg c21, if_neg c22]
          have fin : Q0 Z p1 p2 q3 q4 q5 p6 h0 n0 (some (.int (f0 p1 p2 q3 q4 q5 p6))) T11.heap L11 := ⟨rfl, N, K⟩
          exact Go.retN X16 hx hret (Or.inl rfl) (hb hby at_136) hlk (Eq.trans rfl u_f0.symm) (fun t ht fe => hW t _ _ _ _ (by rw [ht, e16]; exact fin) fe (by decide) (by decide))
    · refine Go.of (fun _ k => XS.ifYes X16.here hx rfl (pc0 := 110) (pc' := 135) rfl (hb hby at_110) rfl (Jvm.Free.XT.ll_ne_t c20) (by decide) (by decide) k) ?_
      show Go p e below W T16 (mkF m 135 #[.val (.int p1), .val (.int p2), .val (.long q3), .second, .val (.long q4), .second, .val (.long q5), .second, .val (.int p6), .val (.int (v0_3 p1 p2 q3 q4 q5 p6)), .val (.long (v0_7 p1 p2 q3 q4 q5 p6)), .second, .val (.ref b8), .val (.ref b10), .val (.long (v0_13 p1 p2 q3 q4 q5 p6)), .second, .val (.int (v0_17 p1 p2 q3 q4 q5 p6))] [])
      refine Go.of (fun _ k => XS.iconst X16.here hx rfl (hb hby at_135) k) ?_
      show Go p e below W T16 (mkF m 136 #[.val (.int p1), .val (.int p2), .val (.long q3), .second, .val (.long q4), .second, .val (.long q5), .second, .val (.int p6), .val (.int (v0_3 p1 p2 q3 q4 q5 p6)), .val (.long (v0_7 p1 p2 q3 q4 q5 p6)), .second, .val (.ref b8), .val (.ref b10), .val (.long (v0_13 p1 p2 q3 q4 q5 p6)), .second, .val (.int (v0_17 p1 p2 q3 q4 q5 p6))] [(.int (0 : Int32))])
      have u_f0 : (f0 p1 p2 q3 q4 q5 p6) = (0 : Int32) := by rw [f0, if_neg c18, if_neg c20]
      have fin : Q0 Z p1 p2 q3 q4 q5 p6 h0 n0 (some (.int (f0 p1 p2 q3 q4 q5 p6))) T11.heap L11 := ⟨rfl, N, K⟩
      exact Go.retN X16 hx hret (Or.inl rfl) (hb hby at_136) hlk (Eq.trans rfl u_f0.symm) (fun t ht fe => hW t _ _ _ _ (by rw [ht, e16]; exact fin) fe (by decide) (by decide))
set_option maxRecDepth 65536 in
set_option maxHeartbeats 40000000 in
theorem comes_1 {Post : Tables → Env → Array Value → State → Outcome → State → Prop} (hpost : ∀ tb e args s v u, (limb_1_1.after args s (.returned v) u = true ∧ limb_1_2.after args s (.returned v) u = true ∧ True) → FrameEnd s (.returned v) u (Jvm.fieldLocs frame_1_writes args s ++ Jvm.arrayLocs frame_1_arrays args s ++ Jvm.staticLocs frame_1_statics s) 16 128 → Post tb e args s (.returned v) u) :
    ArmFor flags0 classFile x code maxLocals ret World_1 tables_1 room_1 Calls_1 rest_1 Pre_1 Post := by
  intro l hfl _ _ p e ha hc hk s m args below hf hA hF happ hP
  obtain ⟨hcalls, hrest, hpre⟩ := hP
  obtain ⟨-, -, -, hnamed, -, -, -, hat⟩ := (Spec.applies_iff hf).mp happ
  obtain ⟨hg, hn⟩ := and_e (Cond.before_iff.mp (show (Jvm.Cond.and given_1 narrow_1).before args s = true from hpre))
  obtain ⟨g0, y0⟩ := and_e hg
  obtain ⟨x0, y1⟩ := and_e y0
  obtain ⟨x1, y2⟩ := and_e y1
  obtain ⟨x2, y3⟩ := and_e y2
  obtain ⟨x3, y4⟩ := and_e y3
  obtain ⟨x4, y5⟩ := and_e y4
  obtain ⟨w0, w1, w2, w3, w4, w5, rfl⟩ : ∃ w0 w1 w2 w3 w4 w5 : Value, args = #[w0, w1, w2, w3, w4, w5] := by
    have hs : args.size = 6 := by simpa [Cond.value, given_1] using g0
    obtain ⟨L⟩ := args
    match L, hs with
    | [w0, w1, w2, w3, w4, w5], _ => exact ⟨w0, w1, w2, w3, w4, w5, rfl⟩
  have hw := fun d (hd : d ∈ tables_1) => atoms_spec (ws := Jvm.Cond.code x code maxLocals ret :: tables_1) hat d (List.mem_cons_of_mem _ hd)
  obtain ⟨i0, ei0⟩ := is_v x0
  obtain rfl : w0 = (.int i0) := Option.some.inj ei0
  obtain ⟨i1, ei1⟩ := is_v x1
  obtain rfl : w1 = (.int i1) := Option.some.inj ei1
  obtain ⟨i2, ei2⟩ := isL_v x2
  obtain rfl : w2 = (.long i2) := Option.some.inj ei2
  obtain ⟨i3, ei3⟩ := isL_v x3
  obtain rfl : w3 = (.long i3) := Option.some.inj ei3
  obtain ⟨i4, ei4⟩ := isL_v x4
  obtain rfl : w4 = (.long i4) := Option.some.inj ei4
  obtain ⟨i5, ei5⟩ := is_v y5
  obtain rfl : w5 = (.int i5) := Option.some.inj ei5
  obtain ⟨n, o, h1, h2, h3, _, L, rfl, ⟨rfl, N, -⟩, hq⟩ := rm0 l s _ hw tables_1 i0 i1 i2 i3 i4 i5 s.heap s.heap.size (Nat.le_refl _) p e ha hc hk s m _ below hf ((Spec.applies_iff_loose hf).mp happ).1 ⟨rfl, State.Warmed39.refl s, rfl⟩ trivial
  rw [own_law i0 i1 i2 i3 i4 i5] at h3 hq
  refine ⟨n, _, h1, h2, h3, hpost _ _ _ _ _ _ ⟨Cond.after_iff.mpr rfl, Cond.after_iff.mpr (eq_i res_at (Term.int_eval (1)) rfl), trivial⟩ ⟨hq.1, hq.2.1, (hq.2.2.sift fun y hy => Or.inr (N y hy)).mono (by decide) (by decide)⟩⟩
theorem main_1_1 : Claimed_1_1 := comes_1 fun _ _ _ _ _ _ h hF => ⟨h.1, hF⟩
theorem main_1_2 : Claimed_1_2 := comes_1 fun _ _ _ _ _ _ h hF => ⟨h.2.1, hF⟩
end Jvm.Pilot.@@N@@
namespace Jvm.Pilot.@@N@@
open Jvm Jvm.ClassFile Sem Op Lib Jvm.Free Jvm.Stand Jvm.Pilot.@@N@@.Jvm.D
/-! MADE BY PROGRAM (witnessworld.py) out of the Statement's table words and the real class files: 11 classes; the members and pool entries that the words name. The judged class is class 1, her method 1. -/
namespace start1
open Jvm.ClassFile
def u (s : String) : CpInfo := .utf8 (stringToUtf16 s)
/-- a pool by its gaps: so many unusable entries, then the entry; so many at the end -/
def gap : Nat → List CpInfo → List CpInfo
  | 0, r => r
  | n + 1, r => .unusable :: gap n r
def poolList (es : List (Nat × CpInfo)) (last : Nat) : List CpInfo := es.foldr (fun e r => gap e.1 (e.2 :: r)) (gap last [])
def pool (es : List (Nat × CpInfo)) (last : Nat) : Array CpInfo := ⟨poolList es last⟩
def fileOf (pool : Array CpInfo) (this : Nat) (attrs : Array Attribute := #[]) (ms : Array MethodInfo := #[]) (fl : Nat := 33) (sup : Nat := 0) (ifs : Array Nat := #[]) (fds : Array FieldInfo := #[]) : ClassFile where
  minorVersion := 0
  majorVersion := 65
  constantPool := pool
  accessFlags := fl
  thisClass := this
  superClass := sup
  interfaces := ifs
  fields := fds
  methods := ms
  attributes := attrs
def plain (name : String) (sup : Option ClassId) : Class where
  name := name
  kind := .ordinary
  loader := none
  accessFlags := 33
  super := sup
  interfaces := #[]
  cf := none
  fields := #[]
  methods := #[]
  instanceTypes := #[]
  staticTypes := #[]
  resolved := #[]
  callSites := []
  init := .initialized
  statics := none
  mirror := none

def pool0 : Array CpInfo := pool [(5, u "<init>"), (0, u "()V"), (1, .class_ 10), (1, u "java/lang/Object")] 113

def k0c0 : Code := { maxStack := 0, maxLocals := 1, code := object_method_1_code, exceptionTable := #[], attributes := #[] }
def k0m0 : Method := { name := "<init>", desc := "()V", sig := { parameters := [], returnType := none }, accessFlags := 1, code := some k0c0 }
/-- java/lang/Object -/
def k0 : Class := { plain "java/lang/Object" none with
  accessFlags := 33
  interfaces := #[]
  cf := some (fileOf pool0 8 #[] #[{ accessFlags := 1, nameIndex := 5, descriptorIndex := 6, attributes := #[] }] 33 0 #[] #[])
  fields := #[]
  methods := #[k0m0]
  instanceTypes := #[]
  staticTypes := #[]
  resolved := Array.replicate 124 none
  statics := none }

def pool1 : Array CpInfo := pool [(2, .class_ 4), (1, u "java/lang/Object"), (0, u "<init>"), (0, u "()V"), (0, .long 2), (1, .class_ 10), (0, u "com/example/elect/elect/election/View"), (0, .methodref 9 12), (0, .nameAndType 5 13), (0, u "(JI)V"), (0, .class_ 15), (0, u "com/example/elect/elect/election/Standing"), (0, .methodref 14 17), (0, .nameAndType 5 18), (0, u "(ILcom/example/elect/elect/election/View;J)V"), (0, .methodref 14 20), (0, .nameAndType 21 22), (0, u "leadsForAt"), (0, u "(J)J"), (0, .class_ 24), (0, u "com/example/elect/elect/election/StandingLeadsForAtPinLaw"), (2, u "law"), (0, u "(IIJJJI)Z")] 3

def k1m0 : Method := { name := "<init>", desc := "()V", sig := { parameters := [], returnType := none }, accessFlags := 1, code := none }
def k1c1 : Code := { maxStack := 6, maxLocals := 17, code := code, exceptionTable := #[], attributes := #[] }
def k1m1 : Method := { name := "law", desc := "(IIJJJI)Z", sig := { parameters := [.int, .int, .long, .long, .long, .int], returnType := some .boolean }, accessFlags := 9, code := some k1c1 }
/-- com/example/elect/elect/election/StandingLeadsForAtPinLaw -/
def k1 : Class := { plain "com/example/elect/elect/election/StandingLeadsForAtPinLaw" (some 0) with
  accessFlags := 49
  interfaces := #[]
  cf := some (fileOf pool1 23 #[] #[{ accessFlags := 1, nameIndex := 5, descriptorIndex := 6, attributes := #[] }, { accessFlags := 9, nameIndex := 27, descriptorIndex := 28, attributes := #[] }] 49 2 #[] #[])
  fields := #[]
  methods := #[k1m0, k1m1]
  instanceTypes := #[]
  staticTypes := #[]
  resolved := Array.replicate 32 none
  statics := none }

def pool2 : Array CpInfo := pool [(1, .methodref 2 3), (0, .class_ 4), (0, .nameAndType 5 6), (0, u "java/lang/Object"), (0, u "<init>"), (0, u "()V"), (0, .class_ 8), (0, u "java/lang/Record")] 13

def k2c0 : Code := { maxStack := 1, maxLocals := 1, code := jdk_30_method_1_code, exceptionTable := #[], attributes := #[] }
def k2m0 : Method := { name := "<init>", desc := "()V", sig := { parameters := [], returnType := none }, accessFlags := 4, code := some k2c0 }
/-- java/lang/Record -/
def k2 : Class := { plain "java/lang/Record" (some 0) with
  accessFlags := 1057
  interfaces := #[]
  cf := some (fileOf pool2 7 #[] #[{ accessFlags := 4, nameIndex := 5, descriptorIndex := 6, attributes := #[] }] 1057 2 #[] #[])
  fields := #[]
  methods := #[k2m0]
  instanceTypes := #[]
  staticTypes := #[]
  resolved := Array.replicate 22 none
  statics := none }

def pool3 : Array CpInfo := pool [(1, .methodref 2 3), (0, .class_ 4), (0, .nameAndType 5 6), (0, u "java/lang/Record"), (0, u "<init>"), (0, u "()V"), (0, .fieldref 8 9), (0, .class_ 10), (0, .nameAndType 11 12), (0, u "com/example/elect/elect/election/View"), (0, u "term"), (0, u "J"), (0, .fieldref 8 14), (0, .nameAndType 15 16), (0, u "leader"), (0, u "I"), (14, u "(JI)V"), (2, u "START"), (0, u "Lcom/example/elect/elect/election/View;"), (0, u "NO_LEADER"), (6, u "()I")] 24

def k3c0 : Code := { maxStack := 3, maxLocals := 4, code := prog_11_method_1_code, exceptionTable := #[], attributes := #[] }
def k3m0 : Method := { name := "<init>", desc := "(JI)V", sig := { parameters := [.long, .int], returnType := none }, accessFlags := 1, code := some k3c0 }
def k3c1 : Code := { maxStack := 1, maxLocals := 1, code := prog_11_method_6_code, exceptionTable := #[], attributes := #[] }
def k3m1 : Method := { name := "leader", desc := "()I", sig := { parameters := [], returnType := some .int }, accessFlags := 1, code := some k3c1 }
/-- com/example/elect/elect/election/View -/
def k3 : Class := { plain "com/example/elect/elect/election/View" (some 2) with
  accessFlags := 49
  interfaces := #[]
  cf := some (fileOf pool3 8 #[] #[{ accessFlags := 1, nameIndex := 5, descriptorIndex := 31, attributes := #[] }, { accessFlags := 1, nameIndex := 15, descriptorIndex := 43, attributes := #[] }] 49 2 #[] #[{ accessFlags := 18, nameIndex := 11, descriptorIndex := 12, attributes := #[] }, { accessFlags := 18, nameIndex := 15, descriptorIndex := 16, attributes := #[] }, { accessFlags := 25, nameIndex := 36, descriptorIndex := 16, attributes := #[] }, { accessFlags := 25, nameIndex := 34, descriptorIndex := 35, attributes := #[] }])
  fields := #[{ name := "term", type := .long, accessFlags := 18, slot := 0, constantValue := 0 }, { name := "leader", type := .int, accessFlags := 18, slot := 1, constantValue := 0 }, { name := "NO_LEADER", type := .int, accessFlags := 25, slot := 0, constantValue := 0 }, { name := "START", type := (.object "com/example/elect/elect/election/View"), accessFlags := 25, slot := 1, constantValue := 0 }]
  methods := #[k3m0, k3m1]
  instanceTypes := #[.long, .int]
  staticTypes := #[.int, (.object "com/example/elect/elect/election/View")]
  resolved := Array.replicate 68 none
  statics := none }

def pool4 : Array CpInfo := pool [(1, .methodref 2 3), (0, .class_ 4), (0, .nameAndType 5 6), (0, u "java/lang/Record"), (0, u "<init>"), (0, u "()V"), (0, .fieldref 8 9), (0, .class_ 10), (0, .nameAndType 11 12), (0, u "com/example/elect/elect/election/Standing"), (0, u "self"), (0, u "I"), (0, .fieldref 8 14), (0, .nameAndType 15 16), (0, u "view"), (0, u "Lcom/example/elect/elect/election/View;"), (0, .fieldref 8 18), (0, .nameAndType 19 20), (0, u "leadsUntil"), (0, u "J"), (0, .class_ 22), (0, u "com/example/elect/elect/election/View"), (13, u "(ILcom/example/elect/elect/election/View;J)V"), (0, .methodref 21 38), (0, .nameAndType 39 40), (0, u "leader"), (0, u "()I"), (0, .methodref 8 42), (0, .nameAndType 43 44), (0, u "leadsAt"), (0, u "(J)Z"), (18, u "leadsForAt"), (0, u "(J)J")] 27

def k4c0 : Code := { maxStack := 3, maxLocals := 5, code := prog_9_method_1_code, exceptionTable := #[], attributes := #[] }
def k4m0 : Method := { name := "<init>", desc := "(ILcom/example/elect/elect/election/View;J)V", sig := { parameters := [.int, (.object "com/example/elect/elect/election/View"), .long], returnType := none }, accessFlags := 1, code := some k4c0 }
def k4c1 : Code := { maxStack := 4, maxLocals := 3, code := prog_9_method_3_code, exceptionTable := #[], attributes := #[] }
def k4m1 : Method := { name := "leadsAt", desc := "(J)Z", sig := { parameters := [.long], returnType := some .boolean }, accessFlags := 1, code := some k4c1 }
def k4c2 : Code := { maxStack := 4, maxLocals := 3, code := prog_9_method_4_code, exceptionTable := #[], attributes := #[] }
def k4m2 : Method := { name := "leadsForAt", desc := "(J)J", sig := { parameters := [.long], returnType := some .long }, accessFlags := 1, code := some k4c2 }
/-- com/example/elect/elect/election/Standing -/
def k4 : Class := { plain "com/example/elect/elect/election/Standing" (some 2) with
  accessFlags := 49
  interfaces := #[]
  cf := some (fileOf pool4 8 #[] #[{ accessFlags := 1, nameIndex := 5, descriptorIndex := 36, attributes := #[] }, { accessFlags := 1, nameIndex := 43, descriptorIndex := 44, attributes := #[] }, { accessFlags := 1, nameIndex := 63, descriptorIndex := 64, attributes := #[] }] 49 2 #[] #[{ accessFlags := 18, nameIndex := 11, descriptorIndex := 12, attributes := #[] }, { accessFlags := 18, nameIndex := 15, descriptorIndex := 16, attributes := #[] }, { accessFlags := 18, nameIndex := 19, descriptorIndex := 20, attributes := #[] }])
  fields := #[{ name := "self", type := .int, accessFlags := 18, slot := 0, constantValue := 0 }, { name := "view", type := (.object "com/example/elect/elect/election/View"), accessFlags := 18, slot := 1, constantValue := 0 }, { name := "leadsUntil", type := .long, accessFlags := 18, slot := 2, constantValue := 0 }]
  methods := #[k4m0, k4m1, k4m2]
  instanceTypes := #[.int, (.object "com/example/elect/elect/election/View"), .long]
  staticTypes := #[]
  resolved := Array.replicate 92 none
  statics := none }

def pool5 : Array CpInfo := pool [(1, u "java/lang/Cloneable"), (0, .class_ 1), (0, u "java/lang/Object"), (0, .class_ 3)] 3

/-- java/lang/Cloneable -/
def k5 : Class := { plain "java/lang/Cloneable" (some 0) with
  accessFlags := 1537
  interfaces := #[]
  cf := some (fileOf pool5 2 #[] #[] 1537 4 #[] #[])
  fields := #[]
  methods := #[]
  instanceTypes := #[]
  staticTypes := #[]
  resolved := Array.replicate 8 none
  statics := none }

def pool6 : Array CpInfo := pool [(1, u "java/io/Serializable"), (0, .class_ 1), (0, u "java/lang/Object"), (0, .class_ 3)] 3

/-- java/io/Serializable -/
def k6 : Class := { plain "java/io/Serializable" (some 0) with
  accessFlags := 1537
  interfaces := #[]
  cf := some (fileOf pool6 2 #[] #[] 1537 4 #[] #[])
  fields := #[]
  methods := #[]
  instanceTypes := #[]
  staticTypes := #[]
  resolved := Array.replicate 8 none
  statics := none }

/-- the primitive byte -/
def k7 : Class := { plain "byte" none with kind := .primitive 'B', accessFlags := 0x411 }
/-- [B -/
def k8 : Class := { plain "[B" (some 0) with kind := .array 7 .byte, interfaces := #[5, 6], accessFlags := 1041 }

/-- the primitive int -/
def k9 : Class := { plain "int" none with kind := .primitive 'I', accessFlags := 0x411 }
/-- [I -/
def k10 : Class := { plain "[I" (some 0) with kind := .array 9 .int, interfaces := #[5, 6], accessFlags := 1041 }

def heap : Heap := #[]
def classes : Array Class := #[k0, k1, k2, k3, k4, k5, k6, k7, k8, k9, k10]
def interned : List (Array UInt16 × Addr) := []
def slotsUsed : Nat := 0
def theMethod : MethodId := ⟨1, 1⟩
def args0 : Array Value := #[.int 5, .int 6, .long 7, .long 1, .long 3, .int 3]
def aboutOver (below : List Frame) : State where
  vm := { classes := classes, interned := interned.toArray }
  heap := heap
  slotsUsed := slotsUsed
  threads := #[{ frames := .invoking theMethod args0 :: below }]
def below0 : List Frame := [.native { method := ⟨0, 0⟩, args := #[] }]
def about1 : State := aboutOver below0
def p0 : Program := .bare "" "" ""
def e0 : Env := launch0.env 0 0 0
theorem w_frames : about1.frames = Frame.invoking theMethod args0 :: below0 := rfl
set_option maxRecDepth 65536 in
theorem w_args : argsFit about1.vm theMethod args0 = true := by decide +kernel
set_option maxRecDepth 65536 in
theorem w_heap : heapFits about1 = true := by decide +kernel
set_option maxRecDepth 65536 in
theorem w_runnable : about1.curStatus? = some .runnable := by decide +kernel
set_option maxRecDepth 65536 in
theorem w_alone : about1.alone = true := by decide +kernel
set_option maxRecDepth 65536 in
theorem w_named : about1.methodNamed? x = some theMethod := by decide +kernel
set_option maxRecDepth 65536 in
theorem w_hears : about1.hears theMethod below0 = true := by decide +kernel
set_option maxRecDepth 65536 in
theorem w_ripe : about1.ripe theMethod args0 below0 = true := by decide +kernel
theorem w_running : about1.status = .running := rfl
set_option maxRecDepth 65536 in
theorem w_room : about1.hasRoom e0.platform room_1 = true :=
  launch0.hasRoom_least _ room_1 (by decide +kernel) (by decide +kernel) (by decide +kernel) (by decide +kernel) (by decide +kernel) (by decide +kernel)
theorem allAtoms_all (ts : List Jvm.Cond) (a : Array Jvm.Value) (st : Jvm.State) : (allAtoms ts).before a st = ts.all (fun c => c.before a st) := by
  induction ts with
  | nil => rfl
  | cons c t ih =>
    show (Jvm.Cond.and c (allAtoms t)).before a st = _
    rw [Jvm.Cond.before_and, ih, List.all_cons]
def words1 : List Jvm.Cond := Jvm.Cond.code x code maxLocals ret :: tables_1
/-- a 'code' word, met by the world's own term for the bytes: nothing is compared byte by byte -/
theorem code_word {y : MethodName} {bytes : ByteArray} {mx : Nat} {rt : Option FieldType} {a : Array Value} {s : State} {m : MethodId} {meth : Method} {c : Code} (h1 : s.methodNamed? y = some m) (h2 : s.vm.method? m = some meth) (h3 : meth.code = some c) (h4 : c.code = bytes)
    (h5 : (c.maxLocals == mx && c.exceptionTable.isEmpty && decide (c.maxStack ≤ mostOperands) && decide (meth.sig.returnType = rt) && !meth.locks && decide (parseMethodDescriptor y.desc = some meth.sig)) = true) : (Jvm.Cond.code y bytes mx rt).before a s = true := by
  simp only [Bool.and_eq_true, beq_iff_eq, Bool.not_eq_true', decide_eq_true_eq] at h5
  obtain ⟨⟨⟨⟨⟨g1, g2⟩, g3⟩, g4⟩, g5⟩, g6⟩ := h5
  simp [Cond.before, Cond.holds, Cond.value, h1, h2, h3, h4, g1, g2, g3, g4, g5, g6]
def isCode : Jvm.Cond → Bool
  | .code _ _ _ _ => true
  | _ => false
theorem all_split {L : List Jvm.Cond} {P : Jvm.Cond → Bool} (h1 : L.all (fun c => isCode c || P c) = true) (h2 : ∀ c ∈ L.filter isCode, P c = true) : L.all P = true := by
  refine List.all_eq_true.mpr fun c hc => ?_
  have h := List.all_eq_true.mp h1 c hc
  rcases Bool.eq_false_or_eq_true (isCode c) with hi | hi
  · exact h2 c (List.mem_filter.mpr ⟨hc, hi⟩)
  · simpa [hi] using h
set_option maxRecDepth 65536 in
theorem w_c0 : (Jvm.Cond.code x code maxLocals ret).before args0 about1 = true := code_word (m := ⟨1, 1⟩) (meth := k1m1) (c := k1c1) (by decide +kernel) rfl rfl rfl (by decide +kernel)
set_option maxRecDepth 65536 in
theorem w_c1 : (Jvm.Cond.code ({ cls := "com/example/elect/elect/election/View", name := "<init>", desc := "(JI)V" } : Jvm.MethodName) prog_11_method_1_code (4 : Nat) (Option.none : Option Jvm.ClassFile.FieldType)).before args0 about1 = true := code_word (m := ⟨3, 0⟩) (meth := k3m0) (c := k3c0) (by decide +kernel) rfl rfl rfl (by decide +kernel)
set_option maxRecDepth 65536 in
theorem w_c2 : (Jvm.Cond.code ({ cls := "java/lang/Record", name := "<init>", desc := "()V" } : Jvm.MethodName) jdk_30_method_1_code (1 : Nat) (Option.none : Option Jvm.ClassFile.FieldType)).before args0 about1 = true := code_word (m := ⟨2, 0⟩) (meth := k2m0) (c := k2c0) (by decide +kernel) rfl rfl rfl (by decide +kernel)
set_option maxRecDepth 65536 in
theorem w_c3 : (Jvm.Cond.code ({ cls := "java/lang/Object", name := "<init>", desc := "()V" } : Jvm.MethodName) object_method_1_code (1 : Nat) (Option.none : Option Jvm.ClassFile.FieldType)).before args0 about1 = true := code_word (m := ⟨0, 0⟩) (meth := k0m0) (c := k0c0) (by decide +kernel) rfl rfl rfl (by decide +kernel)
set_option maxRecDepth 65536 in
theorem w_c4 : (Jvm.Cond.code ({ cls := "com/example/elect/elect/election/Standing", name := "<init>", desc := "(ILcom/example/elect/elect/election/View;J)V" } : Jvm.MethodName) prog_9_method_1_code (5 : Nat) (Option.none : Option Jvm.ClassFile.FieldType)).before args0 about1 = true := code_word (m := ⟨4, 0⟩) (meth := k4m0) (c := k4c0) (by decide +kernel) rfl rfl rfl (by decide +kernel)
set_option maxRecDepth 65536 in
theorem w_c5 : (Jvm.Cond.code ({ cls := "com/example/elect/elect/election/Standing", name := "leadsForAt", desc := "(J)J" } : Jvm.MethodName) prog_9_method_4_code (3 : Nat) (Option.some Jvm.ClassFile.FieldType.long)).before args0 about1 = true := code_word (m := ⟨4, 2⟩) (meth := k4m2) (c := k4c2) (by decide +kernel) rfl rfl rfl (by decide +kernel)
set_option maxRecDepth 65536 in
theorem w_c6 : (Jvm.Cond.code ({ cls := "com/example/elect/elect/election/Standing", name := "leadsAt", desc := "(J)Z" } : Jvm.MethodName) prog_9_method_3_code (3 : Nat) (Option.some Jvm.ClassFile.FieldType.boolean)).before args0 about1 = true := code_word (m := ⟨4, 1⟩) (meth := k4m1) (c := k4c1) (by decide +kernel) rfl rfl rfl (by decide +kernel)
set_option maxRecDepth 65536 in
theorem w_c7 : (Jvm.Cond.code ({ cls := "com/example/elect/elect/election/View", name := "leader", desc := "()I" } : Jvm.MethodName) prog_11_method_6_code (1 : Nat) (Option.some Jvm.ClassFile.FieldType.int)).before args0 about1 = true := code_word (m := ⟨3, 1⟩) (meth := k3m1) (c := k3c1) (by decide +kernel) rfl rfl rfl (by decide +kernel)
def codes1 : List Jvm.Cond := [Jvm.Cond.code x code maxLocals ret, Jvm.Cond.code ({ cls := "com/example/elect/elect/election/View", name := "<init>", desc := "(JI)V" } : Jvm.MethodName) prog_11_method_1_code (4 : Nat) (Option.none : Option Jvm.ClassFile.FieldType), Jvm.Cond.code ({ cls := "java/lang/Record", name := "<init>", desc := "()V" } : Jvm.MethodName) jdk_30_method_1_code (1 : Nat) (Option.none : Option Jvm.ClassFile.FieldType), Jvm.Cond.code ({ cls := "java/lang/Object", name := "<init>", desc := "()V" } : Jvm.MethodName) object_method_1_code (1 : Nat) (Option.none : Option Jvm.ClassFile.FieldType), Jvm.Cond.code ({ cls := "com/example/elect/elect/election/Standing", name := "<init>", desc := "(ILcom/example/elect/elect/election/View;J)V" } : Jvm.MethodName) prog_9_method_1_code (5 : Nat) (Option.none : Option Jvm.ClassFile.FieldType), Jvm.Cond.code ({ cls := "com/example/elect/elect/election/Standing", name := "leadsForAt", desc := "(J)J" } : Jvm.MethodName) prog_9_method_4_code (3 : Nat) (Option.some Jvm.ClassFile.FieldType.long), Jvm.Cond.code ({ cls := "com/example/elect/elect/election/Standing", name := "leadsAt", desc := "(J)Z" } : Jvm.MethodName) prog_9_method_3_code (3 : Nat) (Option.some Jvm.ClassFile.FieldType.boolean), Jvm.Cond.code ({ cls := "com/example/elect/elect/election/View", name := "leader", desc := "()I" } : Jvm.MethodName) prog_11_method_6_code (1 : Nat) (Option.some Jvm.ClassFile.FieldType.int)]
set_option maxRecDepth 65536 in
theorem codes_eq : words1.filter isCode = codes1 := rfl
theorem w_codes : ∀ c ∈ words1.filter isCode, c.before args0 about1 = true := by
  rw [codes_eq]
  intro c hc
  simp only [codes1, List.mem_cons, List.not_mem_nil, or_false] at hc
  rcases hc with rfl | rfl | rfl | rfl | rfl | rfl | rfl | rfl
  · exact w_c0
  · exact w_c1
  · exact w_c2
  · exact w_c3
  · exact w_c4
  · exact w_c5
  · exact w_c6
  · exact w_c7
set_option maxRecDepth 65536 in
theorem w_t1 : (words1.take 24).all (fun c => isCode c || c.before args0 about1) = true := by decide +kernel
set_option maxRecDepth 65536 in
theorem w_t2 : (words1.drop 24).all (fun c => isCode c || c.before args0 about1) = true := by decide +kernel
theorem w_tables : (allAtoms (Jvm.Cond.code x code maxLocals ret :: tables_1)).before args0 about1 = true := by
  rw [allAtoms_all]
  show words1.all (fun c => c.before args0 about1) = true
  refine all_split ?_ w_codes
  rw [← List.take_append_drop 24 words1, List.all_append, w_t1, w_t2]
  rfl
set_option maxRecDepth 65536 in
theorem w_case : (Jvm.Cond.and given_1 narrow_1).before args0 about1 = true := by decide +kernel
theorem w_applies : (headSpec (Jvm.Cond.code x code maxLocals ret :: tables_1) room_1).applies x e0.platform about1 = true :=
  (Spec.applies_iff w_frames).mpr ⟨w_running, w_runnable, w_alone, w_named, w_hears, w_ripe, w_room, w_tables⟩
theorem atStart : AtStart classFile x code maxLocals ret World_1 tables_1 room_1 Calls_1 rest_1 Pre_1 launch0 p0 e0 about1 theMethod args0 below0 :=
  ⟨lists_1, trivial, launch0.admits_env _ _ _, launch0.least_env, fairChoices_fair.cas, fairChoices_fair.clock, w_frames, w_args, w_heap, w_applies, trivial, trivial, w_case⟩
end start1
theorem witness_1 : WitnessClaimed_1 := ⟨start1.p0, start1.e0, start1.about1, start1.theMethod, start1.args0, start1.below0, start1.atStart⟩
end Jvm.Pilot.@@N@@
