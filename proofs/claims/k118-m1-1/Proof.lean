import JvmDerived
import JvmDerived.Pilot.@@N@@Statement
import JvmDerived.Pilot.@@N@@Code
set_option linter.unusedVariables false
set_option linter.unusedSimpArgs false
namespace Jvm.Pilot.@@N@@
open Jvm Jvm.ClassFile Sem Op Lib Jvm.Free Jvm.Stand Jvm.LawKit Jvm.RoadKit Bundle Jvm.Pilot.@@N@@.Jvm.D
section OwnKit
variable {p : Program} {l : Launch} {e : Env} {R : Room} {s : State} {m : MethodId} {args : Array Value} {below : List Frame} {meth : Method} {c : Code} {T : State} {locs : List Loc} {cells slots : Nat} {Z : State} {a0 : Array Value} {h : Heap} {W : State → Outcome → Prop}
/-- what a walk owes from a frame on -/
def Go (p : Program) (e : Env) (below : List Frame) (W : State → Outcome → Prop) (T : State) (g : JFrame) : Prop := ∃ t o, Steps p.tables e below (T.setTop g) t ∧ t.status = .running ∧ Ended t below o ∧ W t o
theorem Go.of {T T' : State} {g g' : JFrame} (q : ∀ t, Steps p.tables e below (T'.setTop g') t → Steps p.tables e below (T.setTop g) t) (k : Go p e below W T' g') : Go p e below W T g := by
  obtain ⟨t, o, h1, h2⟩ := k
  exact ⟨t, o, q t h1, h2⟩
theorem Go.ret (X : Stand p l e R s m args below meth c T locs cells slots) {g : JFrame} {v : Option Value} (hv : meth.sig.returnType = none → v = none) (hk : meth.locks = false)
    (st : ∀ fs, (∀ (f : JFrame) (acts : List Action), f.method = m → f.locked = none → f.entered = [] → (doReturn e (T.setTop f) acts v).1 = T.setFrames fs) → Steps p.tables e below (T.setTop g) (T.setFrames fs))
    (hq : ∀ t : State, t.heap = T.heap → FrameEnd s (.returned v) t locs cells slots → W t (.returned v)) : Go p e below W T g := by
  obtain ⟨fs, hr, hrun, hended, hW, hsame⟩ := X.leave (v := v) hv hk
  exact ⟨_, _, st fs hr, hrun, hended, hq _ rfl ⟨⟨_, rfl⟩, hW, hsame⟩⟩
/-- ireturn of a boolean, byte, char, short -/
theorem Go.retN (X : Stand p l e R s m args below meth c T locs cells slots) (hx : p.tables.exec = Jvm.exec) {pc : Nat} {Ls : Array Slot} {z w : Int32} {t : FieldType} {rest : List Value} (hret : meth.sig.returnType = some t) (ht : t = .boolean ∨ t = .byte ∨ t = .char ∨ t = .short) (hd : decode c.code pc = .ok (.ireturn, 1)) (hk : meth.locks = false) (hn : nar t z = w)
    (hq : ∀ t : State, t.heap = T.heap → FrameEnd s (.returned (some (.int w))) t locs cells slots → W t (.returned (some (.int w)))) : Go p e below W T (mkF m pc Ls (.int z :: rest)) := by
  subst hn
  exact Go.ret X (fun q => by rw [hret] at q; cases q) hk (fun fs hr => Jvm.RoadKit.retN X hx hret ht hd hr) hq
theorem Go.retI (X : Stand p l e R s m args below meth c T locs cells slots) (hx : p.tables.exec = Jvm.exec) {pc : Nat} {Ls : Array Slot} {z w : Int32} {rest : List Value} (hret : meth.sig.returnType = some .int) (hd : decode c.code pc = .ok (.ireturn, 1)) (hk : meth.locks = false) (hn : z = w)
    (hq : ∀ t : State, t.heap = T.heap → FrameEnd s (.returned (some (.int w))) t locs cells slots → W t (.returned (some (.int w)))) : Go p e below W T (mkF m pc Ls (.int z :: rest)) := by
  subst hn
  exact Go.ret X (fun q => by rw [hret] at q; cases q) hk (fun fs hr => retOut X hx hret rfl (Or.inl ⟨rfl, Or.inl rfl, z, rfl⟩) hd hr) hq
theorem Go.retJ (X : Stand p l e R s m args below meth c T locs cells slots) (hx : p.tables.exec = Jvm.exec) {pc : Nat} {Ls : Array Slot} {z w : Int64} {rest : List Value} (hret : meth.sig.returnType = some .long) (hd : decode c.code pc = .ok (.lreturn, 1)) (hk : meth.locks = false) (hn : z = w)
    (hq : ∀ t : State, t.heap = T.heap → FrameEnd s (.returned (some (.long w))) t locs cells slots → W t (.returned (some (.long w)))) : Go p e below W T (mkF m pc Ls (.long z :: rest)) := by
  subst hn
  exact Go.ret X (fun q => by rw [hret] at q; cases q) hk (fun fs hr => retOut X hx hret rfl (Or.inr (Or.inl ⟨rfl, rfl, z, rfl⟩)) hd hr) hq
theorem Go.retA (X : Stand p l e R s m args below meth c T locs cells slots) (hx : p.tables.exec = Jvm.exec) {pc : Nat} {Ls : Array Slot} {t : FieldType} {a : Addr} {rest : List Value} (hret : meth.sig.returnType = some t) (ht : t.isReference = true) (hnr : narrow t (.ref a) = .ref a) (hd : decode c.code pc = .ok (.areturn, 1)) (hk : meth.locks = false)
    (hq : ∀ t : State, t.heap = T.heap → FrameEnd s (.returned (some (.ref a))) t locs cells slots → W t (.returned (some (.ref a)))) : Go p e below W T (mkF m pc Ls (.ref a :: rest)) :=
  Go.ret X (fun q => by rw [hret] at q; cases q) hk (fun fs hr => retOut X hx hret hnr (Or.inr (Or.inr (Or.inr (Or.inr ⟨rfl, ht, rfl⟩)))) hd hr) hq
theorem Go.retV (X : Stand p l e R s m args below meth c T locs cells slots) (hx : p.tables.exec = Jvm.exec) {pc : Nat} {Ls : Array Slot} (hret : meth.sig.returnType = none) (hd : decode c.code pc = .ok (.return_, 1)) (hk : meth.locks = false)
    (hq : ∀ t : State, t.heap = T.heap → FrameEnd s (.returned none) t locs cells slots → W t (.returned none)) : Go p e below W T (mkF m pc Ls []) :=
  Go.ret X (fun _ => rfl) hk (fun fs hr => X.returnOut hx hret hd hr) hq
/-- a body's contract out of its walk -/
theorem own_body {y : MethodName} {bytes : ByteArray} {maxL : Nat} {ret : Option FieldType} {ws : List Jvm.Cond} {rm : Room} {as' : Array Value} {Q : Option Value → Heap → List Loc → Prop} {Ls : Array Slot} (hpn : plainFor y = true) (hef : ∀ m, entryFrame m as' maxL = mkF m 0 Ls [])
    (walk : ∀ (p : Program) (e : Env) (s : State) (m : MethodId) (below : List Frame) (meth : Method) (c : Code) (T : State) (W : State → Outcome → Prop), Stand p l e rm s m as' below meth c T [] 0 0 → p.tables.exec = Jvm.exec → c.code = bytes → c.maxLocals = maxL → meth.sig.returnType = ret → meth.locks = false → s.vm.findClass y.cls = some m.cls → meth.name = y.name → Z.Warmed39 s.vm → T.heap = h →
      (∀ (t : State) v L cells slots, Q v t.heap L → FrameEnd s (.returned v) t L cells slots → cells ≤ rm.cells → slots ≤ rm.slots → W t (.returned v)) → Go p e below W T (mkF m 0 Ls [])) :
    MetFree l y (head1 (Jvm.Cond.code y bytes maxL ret :: ws) rm) (fun a U => a = as' ∧ Z.Warmed39 U.vm ∧ U.heap = h) (fun _ _ _ _ _ => True) (fun _ U o U' => ∃ v L, o = .returned v ∧ Q v U'.heap L ∧ FrameEnd U o U' L rm.cells rm.slots) := by
  refine MetFree.of_bodySF hpn hisR ?_
  intro p e s m args below meth c s₁ Bd hml hP hK
  obtain ⟨rfl, hZ, hh⟩ := hP
  obtain ⟨t, o, h1, h2, h3, h4⟩ := walk p e s m below meth c s₁ (fun t o => ∃ v L, o = .returned v ∧ Q v t.heap L ∧ FrameEnd s o t L rm.cells rm.slots) (Stand.of_body Bd) Bd.exec Bd.bytes hml Bd.returns (BodyLoose.notSynchronized Bd) (findClass_of_methodNamed Bd.named) (name_of_methodNamed Bd.named Bd.method).1 hZ (by rw [← hh, Bd.state]; rfl)
    (fun t v L cells slots hQ hF hc hs => ⟨v, L, rfl, hQ, hF.1, hF.2.1, hF.2.2.mono hc hs⟩)
  exact ⟨t, o, castTop (hef m) h1, h2, h3, h4⟩
/-- a contract, written short -/
abbrev Con (l : Launch) (Z : State) (y : MethodName) (bytes : ByteArray) (maxL : Nat) (ret : Option FieldType) (ws : List Jvm.Cond) (rm : Room) (as' : Array Value) (h : Heap) (Q : Option Value → Heap → List Loc → Prop) : Prop :=
  MetFree l y (head1 (Jvm.Cond.code y bytes maxL ret :: ws) rm) (fun a U => a = as' ∧ Z.Warmed39 U.vm ∧ U.heap = h) (fun _ _ _ _ _ => True) (fun _ U o U' => ∃ v L, o = .returned v ∧ Q v U'.heap L ∧ FrameEnd U o U' L rm.cells rm.slots)
/-- what a callee that leaves the heap as it is says -/
def PQ (w : Value) (h0 : Heap) (v : Option Value) (h : Heap) (L : List Loc) : Prop := v = some w ∧ L = [] ∧ h = h0
theorem Go.callS (X : Stand p l e R s m args below meth c T locs cells slots) (hx : p.tables.exec = Jvm.exec) (hZ : Z.Warmed39 s.vm) {own : String} {index : Nat} {y : MethodName} {bytes : ByteArray} {maxL : Nat} {ret : Option FieldType} {rm : Room} {as' : Array Value} {Q : Option Value → Heap → List Loc → Prop} (hown : s.vm.findClass own = some m.cls)
    (w1 : (Jvm.Cond.methodLink own index y).before a0 Z = true) (w2 : (Jvm.Cond.static y).before a0 Z = true) (w3 : (Jvm.Cond.initialized y.cls).before a0 Z = true) (w4 : (Jvm.Cond.code y bytes maxL ret).before a0 Z = true) (hy : y.cls ≠ "java/lang/invoke/MethodHandle" ∧ y.cls ≠ "java/lang/invoke/VarHandle") (eT : T.heap = h)
    (hM : Con l Z y bytes maxL ret [] rm as' h Q) {V : Nat} (hf : rm.frames + 1 ≤ R.frames) (hl : V + (maxL + 11) + rm.locals ≤ R.locals) (hc : cells + rm.cells ≤ R.cells) (hs : slots + rm.slots ≤ R.slots)
    {pc : Nat} {Ls : Array Slot} {st : List Value} (hsize : Ls.size = c.maxLocals) {argsL rest : List Value} (has : argsL.toArray = as') (hlen : ∀ sig, parseMethodDescriptor y.desc = some sig → argsL.length = sig.parameters.length) (hstack : st = argsL.reverse ++ rest) (hV : (rest.map fun v => v.category).sum ≤ V) (hd : decode c.code pc = .ok (.invokestatic index, 3))
    (K : ∀ T' v L, Q v T'.heap L → Stand p l e R s m args below meth c T' (locs ++ L) (cells + rm.cells) (slots + rm.slots) → Go p e below W T' (mkF m (pc + 3) Ls (v.toList ++ rest))) : Go p e below W T (mkF m pc Ls st) := by
  obtain ⟨v, vm₁, ⟨T', L', k', n'⟩, -, X', ⟨L, hQ, e1, e2, e3⟩, st'⟩ := Jvm.LawKit.callS X hx hown (mvT hZ w1) (mvT hZ w2) (mvT hZ w3) (mvT hZ w4) hy (backOf (W := V) hM hZ w4 w3 hf hl) (g := mkF m pc Ls st) rfl hsize hlen hstack (by show 2 * 0 + _ ≤ _; omega) hd (fun _ _ => ⟨has, eT, hc, hs⟩)
  dsimp only [Pt.U, Pt.locs, Pt.cells, Pt.slots] at X' e1 e2 e3 st' hQ
  subst e1 e2 e3
  exact Go.of st' (K _ _ _ hQ X')
theorem Go.callP (X : Stand p l e R s m args below meth c T locs cells slots) (hx : p.tables.exec = Jvm.exec) (hZ : Z.Warmed39 s.vm) {own : String} {index : Nat} {y : MethodName} {bytes : ByteArray} {maxL : Nat} {ret : Option FieldType} {rm : Room} {as' : Array Value} {w : Value} (hown : s.vm.findClass own = some m.cls)
    (w1 : (Jvm.Cond.methodLink own index y).before a0 Z = true) (w2 : (Jvm.Cond.static y).before a0 Z = true) (w3 : (Jvm.Cond.initialized y.cls).before a0 Z = true) (w4 : (Jvm.Cond.code y bytes maxL ret).before a0 Z = true) (hy : y.cls ≠ "java/lang/invoke/MethodHandle" ∧ y.cls ≠ "java/lang/invoke/VarHandle") (eT : T.heap = h)
    (hM : Con l Z y bytes maxL ret [] rm as' h (PQ w h)) {V : Nat} (hf : rm.frames + 1 ≤ R.frames) (hl : V + (maxL + 11) + rm.locals ≤ R.locals) (z1 : rm.cells = 0) (z2 : rm.slots = 0) (hc : cells ≤ R.cells) (hs : slots ≤ R.slots)
    {pc : Nat} {Ls : Array Slot} {st : List Value} (hsize : Ls.size = c.maxLocals) {argsL rest : List Value} (has : argsL.toArray = as') (hlen : ∀ sig, parseMethodDescriptor y.desc = some sig → argsL.length = sig.parameters.length) (hstack : st = argsL.reverse ++ rest) (hV : (rest.map fun v => v.category).sum ≤ V) (hd : decode c.code pc = .ok (.invokestatic index, 3))
    (K : ∀ T', Stand p l e R s m args below meth c T' locs cells slots → T'.heap = h → Go p e below W T' (mkF m (pc + 3) Ls (w :: rest))) : Go p e below W T (mkF m pc Ls st) := by
  refine Go.callS X hx hZ hown w1 w2 w3 w4 hy eT hM hf hl (by rw [z1]; exact hc) (by rw [z2]; exact hs) hsize has hlen hstack hV hd ?_
  rintro T' v L ⟨rfl, rfl, h3⟩ X'
  rw [z1, z2, List.append_nil] at X'
  exact K T' X' h3
end OwnKit
section OwnHeap
variable {p : Program} {l : Launch} {e : Env} {R : Room} {s : State} {m : MethodId} {args : Array Value} {below : List Frame} {meth : Method} {c : Code} {T : State} {locs : List Loc} {cells slots : Nat} {Z : State} {a0 : Array Value} {h h' : Heap} {W : State → Outcome → Prop}
/-- an array: its kind, its length, the ints in its places -/
def AI (Z : State) (h : Heap) (a : Addr) (ty : FieldType) (n : Nat) (f : Nat → Int32) : Prop := ∃ cl : Cell, Arr Z h a cl ty ∧ cl.slots.size = n ∧ n < 2 ^ 31 ∧ ∀ j, j < n → cl.slots[j]? = some (.int (f j)) ∧ fits ty (.int (f j)) = true
theorem AI.lt {a : Addr} {ty : FieldType} {n : Nat} {f : Nat → Int32} (A : AI Z h a ty n f) : a < h.size := by obtain ⟨cl, A, -⟩ := A; exact A.lt
theorem AI.small {a : Addr} {ty : FieldType} {n : Nat} {f : Nat → Int32} (A : AI Z h a ty n f) : n < 2 ^ 31 := by obtain ⟨cl, -, -, h, -⟩ := A; exact h
theorem AI.ext {a : Addr} {ty : FieldType} {n : Nat} {f : Nat → Int32} (A : AI Z h a ty n f) (E : Ext h h') : AI Z h' a ty n f := by obtain ⟨cl, A, r⟩ := A; exact ⟨cl, A.ext E, r⟩
theorem AI.other {a b : Addr} {ty : FieldType} {n sl : Nat} {f : Nat → Int32} {v : Value} (A : AI Z h b ty n f) (W : Wr h h' a sl v) (q : b ≠ a) : AI Z h' b ty n f := by obtain ⟨cl, A, r⟩ := A; exact ⟨cl, A.other W q, r⟩
theorem AI.keep {a : Addr} {ty : FieldType} {n : Nat} {f : Nat → Int32} {ws : List Addr} (A : AI Z h a ty n f) (K : Keep h h' ws) (q : a ∉ ws) : AI Z h' a ty n f := by obtain ⟨cl, A, r⟩ := A; exact ⟨cl, ⟨K.2.1 a cl A.1 q, A.2⟩, r⟩
theorem AI.congr {a : Addr} {ty : FieldType} {n : Nat} {f g : Nat → Int32} (A : AI Z h a ty n f) (q : ∀ j, j < n → f j = g j) : AI Z h a ty n g := by obtain ⟨cl, A, r1, r2, r3⟩ := A; exact ⟨cl, A, r1, r2, fun j hj => by rw [← q j hj]; exact r3 j hj⟩
def upd (f : Nat → Int32) (i : Nat) (x : Int32) : Nat → Int32 := fun j => if j = i then x else f j
theorem AI.set {a : Addr} {ty : FieldType} {n i : Nat} {f : Nat → Int32} {x : Int32} (A : AI Z h a ty n f) (W : Wr h h' a i (.int x)) (hv : fits ty (.int x) = true) : AI Z h' a ty n (upd f i x) := by
  obtain ⟨cl, A, r1, r2, r3⟩ := A
  refine ⟨_, A.same W, by rw [sz_set]; exact r1, r2, fun j hj => ?_⟩
  simp only [Cell.setSlot, upd]
  by_cases q : j = i
  · subst q; rw [if_pos rfl]; exact ⟨by simp [r1, hj], hv⟩
  · rw [if_neg q, Array.getElem?_setIfInBounds_ne (Ne.symm q)]; exact r3 j hj
/-- a place within the length -/
def PV (h0 : Heap) (v : Option Value) (h : Heap) (L : List Loc) : Prop := v = none ∧ L = [] ∧ h = h0
def inb (j : Int32) (n : Nat) : Prop := ¬ j < 0 ∧ j.toNatClampNeg < n
theorem inb.no {cl : Cell} {j : Int32} {n : Nat} (q : inb j n) (r : cl.slots.size = n) : ¬ (j < 0 ∨ cl.slots.size ≤ j.toNatClampNeg) := by rw [r]; exact fun z => z.elim q.1 (fun z => absurd q.2 (Nat.not_lt.mpr z))
theorem Go.alen (X : Stand p l e R s m args below meth c T locs cells slots) (hx : p.tables.exec = Jvm.exec) (hZ : Z.Warmed39 s.vm) (eT : T.heap = h) {a : Addr} {ty : FieldType} {n : Nat} {f : Nat → Int32} (A : AI Z h a ty n f) {pc : Nat} {Ls : Array Slot} {st : List Value} (hd : decode c.code pc = .ok (.arraylength, 1))
    (K : Go p e below W T (mkF m (pc + 1) Ls (.int n.toInt32 :: st))) : Go p e below W T (mkF m pc Ls (.ref a :: st)) := by
  obtain ⟨cl, A, r1, -⟩ := A
  subst r1
  exact Go.of (fun t k => X.arraylength hx (by rw [eT]; exact A.1) (State.isArrayOf_alike hZ.alike A.2.1) (g := mkF m pc Ls (.ref a :: st)) rfl rfl hd t k) K
theorem Go.iald (X : Stand p l e R s m args below meth c T locs cells slots) (hx : p.tables.exec = Jvm.exec) (hZ : Z.Warmed39 s.vm) (eT : T.heap = h) {a : Addr} {n : Nat} {f : Nat → Int32} (A : AI Z h a .int n f) {j : Int32} (hj : inb j n) {pc : Nat} {Ls : Array Slot} {st : List Value} (hd : decode c.code pc = .ok (.iaload, 1))
    (K : Go p e below W T (mkF m (pc + 1) Ls (.int (f j.toNatClampNeg) :: st))) : Go p e below W T (mkF m pc Ls (.int j :: .ref a :: st)) := by
  obtain ⟨cl, A, r1, -, r3⟩ := A
  exact Go.of (fun t k => X.iaload hx (j := j) (v := .int (f j.toNatClampNeg)) (by rw [eT]; exact A.1) (State.isArrayOf_alike hZ.alike A.2.1) A.2.2 (hj.no r1) (r3 _ hj.2).1 (g := mkF m pc Ls (.int j :: .ref a :: st)) rfl rfl hd t k) K
theorem Go.cald (X : Stand p l e R s m args below meth c T locs cells slots) (hx : p.tables.exec = Jvm.exec) (hZ : Z.Warmed39 s.vm) (eT : T.heap = h) {a : Addr} {n : Nat} {f : Nat → Int32} (A : AI Z h a .char n f) {j : Int32} (hj : inb j n) {pc : Nat} {Ls : Array Slot} {st : List Value} (hd : decode c.code pc = .ok (.caload, 1))
    (K : Go p e below W T (mkF m (pc + 1) Ls (.int (f j.toNatClampNeg) :: st))) : Go p e below W T (mkF m pc Ls (.int j :: .ref a :: st)) := by
  obtain ⟨cl, A, r1, -, r3⟩ := A
  exact Go.of (fun t k => X.caload hx (j := j) (v := .int (f j.toNatClampNeg)) (by rw [eT]; exact A.1) (State.isArrayOf_alike hZ.alike A.2.1) A.2.2 (hj.no r1) (r3 _ hj.2).1 (g := mkF m pc Ls (.int j :: .ref a :: st)) rfl rfl hd t k) K
theorem Go.bald (X : Stand p l e R s m args below meth c T locs cells slots) (hx : p.tables.exec = Jvm.exec) (hZ : Z.Warmed39 s.vm) (eT : T.heap = h) {a : Addr} {n : Nat} {f : Nat → Int32} (A : AI Z h a .byte n f) {j : Int32} (hj : inb j n) {pc : Nat} {Ls : Array Slot} {st : List Value} (hd : decode c.code pc = .ok (.baload, 1))
    (K : Go p e below W T (mkF m (pc + 1) Ls (.int (f j.toNatClampNeg) :: st))) : Go p e below W T (mkF m pc Ls (.int j :: .ref a :: st)) := by
  obtain ⟨cl, A, r1, -, r3⟩ := A
  exact Go.of (fun t k => X.baloadBytes hx (j := j) (v := .int (f j.toNatClampNeg)) (by rw [eT]; exact A.1) (State.isArrayOf_alike hZ.alike A.2.1) A.2.2 (hj.no r1) (r3 _ hj.2).1 (g := mkF m pc Ls (.int j :: .ref a :: st)) rfl rfl hd t k) K
theorem Go.zald (X : Stand p l e R s m args below meth c T locs cells slots) (hx : p.tables.exec = Jvm.exec) (hZ : Z.Warmed39 s.vm) (eT : T.heap = h) {a : Addr} {n : Nat} {f : Nat → Int32} (A : AI Z h a .boolean n f) {j : Int32} (hj : inb j n) {pc : Nat} {Ls : Array Slot} {st : List Value} (hd : decode c.code pc = .ok (.baload, 1))
    (K : Go p e below W T (mkF m (pc + 1) Ls (.int (f j.toNatClampNeg) :: st))) : Go p e below W T (mkF m pc Ls (.int j :: .ref a :: st)) := by
  obtain ⟨cl, A, r1, -, r3⟩ := A
  exact Go.of (fun t k => X.baloadBooleans hx (j := j) (v := .int (f j.toNatClampNeg)) (by rw [eT]; exact A.1) (State.isArrayOf_alike hZ.alike A.2.1) A.2.2 (hj.no r1) (r3 _ hj.2).1 (g := mkF m pc Ls (.int j :: .ref a :: st)) rfl rfl hd t k) K
theorem Go.ist (X : Stand p l e R s m args below meth c T locs cells slots) (hx : p.tables.exec = Jvm.exec) (hZ : Z.Warmed39 s.vm) (eT : T.heap = h) {n0 : Nat} (N : Fr n0 locs) {a : Addr} (ga : n0 ≤ a) {n : Nat} {f : Nat → Int32} (A : AI Z h a .int n f) {j x : Int32} (hj : inb j n) {pc : Nat} {Ls : Array Slot} {st : List Value} (hd : decode c.code pc = .ok (.iastore, 1))
    (K : ∀ T' h' L', Stand p l e R s m args below meth c T' L' cells slots → Fr n0 L' → T'.heap = h' → Wr h h' a j.toNatClampNeg (.int x) → AI Z h' a .int n (upd f j.toNatClampNeg x) → Go p e below W T' (mkF m (pc + 1) Ls st)) : Go p e below W T (mkF m pc Ls (.int x :: .int j :: .ref a :: st)) := by
  obtain ⟨cl, A', r1, r2, r3⟩ := id A
  obtain ⟨T', h', X', e', W', st'⟩ := stI X hx hZ eT A' (j := j) (hj.no r1) (g := mkF m pc Ls (.int x :: .int j :: .ref a :: st)) rfl rfl hd
  exact Go.of st' (K _ _ _ X' (Fr.snoc X' N ga) e' W' (A.set W' rfl))
theorem Go.bst (X : Stand p l e R s m args below meth c T locs cells slots) (hx : p.tables.exec = Jvm.exec) (hZ : Z.Warmed39 s.vm) (eT : T.heap = h) {n0 : Nat} (N : Fr n0 locs) {a : Addr} (ga : n0 ≤ a) {n : Nat} {f : Nat → Int32} (A : AI Z h a .byte n f) {j x : Int32} (hj : inb j n) {pc : Nat} {Ls : Array Slot} {st : List Value} (hd : decode c.code pc = .ok (.bastore, 1))
    (K : ∀ T' h' L', Stand p l e R s m args below meth c T' L' cells slots → Fr n0 L' → T'.heap = h' → Wr h h' a j.toNatClampNeg (.int (nar .byte x)) → AI Z h' a .byte n (upd f j.toNatClampNeg (nar .byte x)) → Go p e below W T' (mkF m (pc + 1) Ls st)) : Go p e below W T (mkF m pc Ls (.int x :: .int j :: .ref a :: st)) := by
  obtain ⟨cl, A', r1, r2, r3⟩ := id A
  obtain ⟨T', h', X', e', W', st'⟩ := stB X hx hZ eT A' (j := j) (hj.no r1) (g := mkF m pc Ls (.int x :: .int j :: .ref a :: st)) rfl rfl hd
  exact Go.of st' (K _ _ _ X' (Fr.snoc X' N ga) e' W' (A.set W' (fits_nar_byte _)))
theorem Go.zst (X : Stand p l e R s m args below meth c T locs cells slots) (hx : p.tables.exec = Jvm.exec) (hZ : Z.Warmed39 s.vm) (eT : T.heap = h) {n0 : Nat} (N : Fr n0 locs) {a : Addr} (ga : n0 ≤ a) {n : Nat} {f : Nat → Int32} (A : AI Z h a .boolean n f) {j x : Int32} (hj : inb j n) {pc : Nat} {Ls : Array Slot} {st : List Value} (hd : decode c.code pc = .ok (.bastore, 1))
    (K : ∀ T' h' L', Stand p l e R s m args below meth c T' L' cells slots → Fr n0 L' → T'.heap = h' → Wr h h' a j.toNatClampNeg (.int (nar .boolean x)) → AI Z h' a .boolean n (upd f j.toNatClampNeg (nar .boolean x)) → Go p e below W T' (mkF m (pc + 1) Ls st)) : Go p e below W T (mkF m pc Ls (.int x :: .int j :: .ref a :: st)) := by
  obtain ⟨cl, A', r1, r2, r3⟩ := id A
  obtain ⟨T', h', X', e', W', st'⟩ := stZ X hx hZ eT A' (j := j) (hj.no r1) (g := mkF m pc Ls (.int x :: .int j :: .ref a :: st)) rfl rfl hd
  exact Go.of st' (K _ _ _ X' (Fr.snoc X' N ga) e' W' (A.set W' (fits_nar_bool _)))
theorem Go.cst (X : Stand p l e R s m args below meth c T locs cells slots) (hx : p.tables.exec = Jvm.exec) (hZ : Z.Warmed39 s.vm) (eT : T.heap = h) {n0 : Nat} (N : Fr n0 locs) {a : Addr} (ga : n0 ≤ a) {n : Nat} {f : Nat → Int32} (A : AI Z h a .char n f) {j x : Int32} (hj : inb j n) {pc : Nat} {Ls : Array Slot} {st : List Value} (hd : decode c.code pc = .ok (.castore, 1))
    (K : ∀ T' h' L', Stand p l e R s m args below meth c T' L' cells slots → Fr n0 L' → T'.heap = h' → Wr h h' a j.toNatClampNeg (.int (nar .char x)) → AI Z h' a .char n (upd f j.toNatClampNeg (nar .char x)) → Go p e below W T' (mkF m (pc + 1) Ls st)) : Go p e below W T (mkF m pc Ls (.int x :: .int j :: .ref a :: st)) := by
  obtain ⟨cl, A', r1, r2, r3⟩ := id A
  obtain ⟨T', h', X', e', W', st'⟩ := stC X hx hZ eT A' (j := j) (hj.no r1) (g := mkF m pc Ls (.int x :: .int j :: .ref a :: st)) rfl rfl hd
  exact Go.of st' (K _ _ _ X' (Fr.snoc X' N ga) e' W' (A.set W' (fits_nar_char _)))
theorem AI.new {b cA : Nat} {ty : FieldType} {n : Int32} (A : Arr Z h b (newA cA ty n) ty) (hd : defaultValue ty = .int 0) (hf : fits ty (.int 0) = true) : AI Z h b ty n.toNatClampNeg (fun _ => 0) := by
  refine ⟨_, A, sz_new _ _ _, ?_, fun j hj => ?_⟩
  · show n.toInt.toNat < 2 ^ 31
    have := n.toInt_lt; omega
  · exact ⟨by simp [newA, hj, hd], hf⟩
theorem Go.newA (X : Stand p l e R s m args below meth c T locs cells slots) (hx : p.tables.exec = Jvm.exec) (hZ : Z.Warmed39 s.vm) {aty : ArrayType} (w : (Jvm.Cond.arrayClass (newarray.typeOf aty)).before a0 Z = true) (hdef : defaultValue (newarray.typeOf aty) = .int 0) (hft : fits (newarray.typeOf aty) (.int 0) = true) {ad : String} (had : "[" ++ (newarray.typeOf aty).toString = ad) (eT : T.heap = h) {pc : Nat} {Ls : Array Slot} {n : Int32} {st : List Value} (hd : decode c.code pc = .ok (.newarray aty, 2))
    (hn : ¬ n < 0) {cap : Nat} (hcap : n.toNatClampNeg ≤ cap) (hb : cap * 8 ≤ 536870912) (hc : cells + 1 ≤ R.cells) (hl : slots + cap ≤ R.slots)
    (K : ∀ T' h' b, b = h.size → Stand p l e R s m args below meth c T' locs (cells + 1) (slots + cap) → T'.heap = h' → Ext h h' → Exa Z h' b ad → AI Z h' b (newarray.typeOf aty) n.toNatClampNeg (fun _ => 0) → Go p e below W T' (mkF m (pc + 2) Ls (.ref b :: st))) : Go p e below W T (mkF m pc Ls (.int n :: st)) := by
  obtain ⟨T', h', cA, X', e', E', A', B', st'⟩ := newPE X hx hZ w eT (g := mkF m pc Ls (.int n :: st)) rfl hd rfl hn hcap hb hc hl had
  exact Go.of st' (K _ _ _ rfl X' e' E' B' (AI.new A' hdef hft))
theorem Go.newO (X : Stand p l e R s m args below meth c T locs cells slots) (hx : p.tables.exec = Jvm.exec) (hZ : Z.Warmed39 s.vm) {own C : String} {index n : Nat} (hown : s.vm.findClass own = some m.cls) (w : (Jvm.Cond.classLink own index C).before a0 Z = true) (wi : (Jvm.Cond.instantiable C n).before a0 Z = true) (wz : (Jvm.Cond.initialized C).before a0 Z = true) (eT : T.heap = h)
    {pc : Nat} {Ls : Array Slot} {st : List Value} (hd : decode c.code pc = .ok (.new index, 3)) (hc : cells + 1 ≤ R.cells) (hl : slots + n ≤ R.slots)
    (K : ∀ T' h' b, b = h.size → Stand p l e R s m args below meth c T' locs (cells + 1) (slots + n) → T'.heap = h' → Ext h h' → Exa Z h' b C → (∀ {O nm d : String} {ty : FieldType}, Laid Z a0 C O nm d → parseFieldDescriptor d = some ty → Fld Z h' b O nm d (defaultValue ty)) → Go p e below W T' (mkF m (pc + 3) Ls (.ref b :: st))) : Go p e below W T (mkF m pc Ls st) := by
  obtain ⟨T', h', X', e', E', A', D', -, st'⟩ := Jvm.RoadKit.newO X hx hZ hown w wi wz eT (g := mkF m pc Ls st) rfl hd hc hl
  exact Go.of st' (K _ _ _ rfl X' e' E' A' D')
theorem Go.getF (X : Stand p l e R s m args below meth c T locs cells slots) (hx : p.tables.exec = Jvm.exec) (hZ : Z.Warmed39 s.vm) {own O n d : String} {index : Nat} (hown : s.vm.findClass own = some m.cls) (w : (Jvm.Cond.fieldLink own index O n d).before a0 Z = true) (eT : T.heap = h) {a : Addr} {v : Value} (F : Fld Z h a O n d v)
    {pc : Nat} {Ls : Array Slot} {st : List Value} (hd : decode c.code pc = .ok (.getfield index, 3)) (K : ∀ T', Stand p l e R s m args below meth c T' locs cells slots → T'.heap = h → Go p e below W T' (mkF m (pc + 3) Ls (v :: st))) : Go p e below W T (mkF m pc Ls (.ref a :: st)) := by
  obtain ⟨T', X', e', st'⟩ := Jvm.RoadKit.getF X hx hZ hown (host := "") (Or.inl w) Via.refl eT F (g := mkF m pc Ls (.ref a :: st)) rfl rfl hd
  exact Go.of st' (K _ X' e')
theorem Go.putF (X : Stand p l e R s m args below meth c T locs cells slots) (hx : p.tables.exec = Jvm.exec) (hZ : Z.Warmed39 s.vm) {own O n d C : String} {index kk : Nat} {ty : FieldType} (hown : s.vm.findClass own = some m.cls) (w : (Jvm.Cond.fieldLink own index O n d).before a0 Z = true) (eT : T.heap = h) {n0 : Nat} (N : Fr n0 locs) {a : Addr} (ga : n0 ≤ a) {v old : Value} (F : Fld Z h a O n d old) (E : Exa Z h a C)
    (L : (Jvm.Cond.lays C O n d).before a0 Z = true ∨ ((Jvm.Cond.laysFinal C O n d).before a0 Z = true ∧ own = O ∧ meth.name = "<init>")) (wi : (Jvm.Cond.instantiable C kk).before a0 Z = true) (hty : parseFieldDescriptor d = some ty) {v' : Value} (hn : narrow ty v = v') (hf : fits ty v' = true)
    {pc : Nat} {Ls : Array Slot} {st : List Value} (hd : decode c.code pc = .ok (.putfield index, 3)) (K : ∀ T' h' L', Stand p l e R s m args below meth c T' L' cells slots → Fr n0 L' → T'.heap = h' → Wr h h' a (Jvm.RoadKit.slotOf Z O n d) v' → Fld Z h' a O n d v' → Go p e below W T' (mkF m (pc + 3) Ls st)) : Go p e below W T (mkF m pc Ls (v :: .ref a :: st)) := by
  obtain ⟨T', h', X', e', W', st'⟩ := putFN X hx hZ hown w Via.refl eT F E L wi hty hn hf (g := mkF m pc Ls (v :: .ref a :: st)) rfl rfl hd
  exact Go.of st' (K _ _ _ X' (Fr.snoc X' N ga) e' W' (F.same W'))
theorem Go.initO (X : Stand p l e R s m args below meth c T locs cells slots) (hx : p.tables.exec = Jvm.exec) (hZ : Z.Warmed39 s.vm) {own : String} {idx : Nat} (hown : s.vm.findClass own = some m.cls) (w1 : (Jvm.Cond.methodLink own idx Lib.objectInit).before a0 Z = true) (w2 : (Jvm.Cond.instanceMethod Lib.objectInit).before a0 Z = true)
    (w3 : (Jvm.Cond.code Lib.objectInit Jvm.LibCode.Object.Init0.code 1 none).before a0 Z = true) (eT : T.heap = h) {pc : Nat} {Ls : Array Slot} {st : List Value} (hsize : Ls.size = c.maxLocals) {a : Addr} (hd : decode c.code pc = .ok (.invokespecial idx, 3)) (hf : 1 ≤ R.frames) {V : Nat} (hV : (st.map fun v => v.category).sum ≤ V) (hl : V + 12 ≤ R.locals)
    (K : ∀ T', Stand p l e R s m args below meth c T' locs cells slots → T'.heap = h → Go p e below W T' (mkF m (pc + 3) Ls st)) : Go p e below W T (mkF m pc Ls (.ref a :: st)) := by
  obtain ⟨T', X', e', st'⟩ := Jvm.RoadKit.initO X hx hZ hown w1 w2 w3 eT (g := mkF m pc Ls (.ref a :: st)) rfl hsize rfl hd hf (W := V) (by show 2 * 0 + _ ≤ _; omega) hl
  exact Go.of st' (K _ X' e')
/-- a constructor by its contract -/
theorem Go.callI (X : Stand p l e R s m args below meth c T locs cells slots) (hx : p.tables.exec = Jvm.exec) (hZ : Z.Warmed39 s.vm) {own : String} {index : Nat} {y : MethodName} {bytes : ByteArray} {maxL : Nat} {rm : Room} {as' : Array Value} {Q : Option Value → Heap → List Loc → Prop} (hy1 : y.name = "<init>") (hown : s.vm.findClass own = some m.cls)
    (w1 : (Jvm.Cond.methodLink own index y).before a0 Z = true) (w2 : (Jvm.Cond.instanceMethod y).before a0 Z = true) (w3 : (Jvm.Cond.initialized y.cls).before a0 Z = true) (w4 : (Jvm.Cond.code y bytes maxL none).before a0 Z = true) (hy : y.cls ≠ "java/lang/invoke/MethodHandle" ∧ y.cls ≠ "java/lang/invoke/VarHandle") (eT : T.heap = h)
    (hM : Con l Z y bytes maxL none [] rm as' h Q) {V : Nat} (hf : rm.frames + 1 ≤ R.frames) (hl : V + (maxL + 11) + rm.locals ≤ R.locals) (hc : cells + rm.cells ≤ R.cells) (hs : slots + rm.slots ≤ R.slots)
    {pc : Nat} {Ls : Array Slot} {st : List Value} (hsize : Ls.size = c.maxLocals) {a : Addr} {argsL rest : List Value} (has : (.ref a :: argsL).toArray = as') (hlen : ∀ sig, parseMethodDescriptor y.desc = some sig → argsL.length = sig.parameters.length) (hstack : st = argsL.reverse ++ .ref a :: rest) (hV : (rest.map fun v => v.category).sum ≤ V) (hd : decode c.code pc = .ok (.invokespecial index, 3))
    (K : ∀ T' v L, Q v T'.heap L → Stand p l e R s m args below meth c T' (locs ++ L) (cells + rm.cells) (slots + rm.slots) → Go p e below W T' (mkF m (pc + 3) Ls (v.toList ++ rest))) : Go p e below W T (mkF m pc Ls st) := by
  obtain ⟨v, vm₁, ⟨T', L', k', n'⟩, -, X', ⟨L, hQ, e1, e2, e3⟩, st'⟩ := X.specialBack hx hy1 hown (mvT hZ w1) (mvT hZ w2) (mvT hZ w4) hy (backOf (W := V) hM hZ w4 w3 hf hl) (g := mkF m pc Ls st) rfl hsize (Steps.refl _) hlen hstack (by show 2 * 0 + _ ≤ _; omega) hd (fun _ _ => ⟨has, eT, hc, hs⟩)
  dsimp only [Pt.U, Pt.locs, Pt.cells, Pt.slots] at X' e1 e2 e3 st' hQ
  subst e1 e2 e3
  exact Go.of (fun _ k => st'.trans k) (K _ _ _ hQ X')
/-- an instance method by the contract of the body that the receiver's class selects -/
theorem Go.callV (X : Stand p l e R s m args below meth c T locs cells slots) (hx : p.tables.exec = Jvm.exec) (hZ : Z.Warmed39 s.vm) {own C : String} {index : Nat} {y : MethodName} {bytes : ByteArray} {maxL : Nat} {ret : Option FieldType} {rm : Room} {as' : Array Value} {Q : Option Value → Heap → List Loc → Prop} (hown : s.vm.findClass own = some m.cls)
    (w1 : (Jvm.Cond.methodLink own index y).before a0 Z = true) (w5 : (Jvm.Cond.declares y).before a0 Z = true) (w6 : (Jvm.Cond.selects C y y).before a0 Z = true) (w2 : (Jvm.Cond.instanceMethod y).before a0 Z = true) (w3 : (Jvm.Cond.initialized y.cls).before a0 Z = true) (w4 : (Jvm.Cond.code y bytes maxL ret).before a0 Z = true) (hy : y.cls ≠ "java/lang/invoke/MethodHandle" ∧ y.cls ≠ "java/lang/invoke/VarHandle") (eT : T.heap = h)
    {a : Addr} (E : Exa Z h a C) (hM : Con l Z y bytes maxL ret [] rm as' h Q) {V : Nat} (hf : rm.frames + 1 ≤ R.frames) (hl : V + (maxL + 11) + rm.locals ≤ R.locals) (hc : cells + rm.cells ≤ R.cells) (hs : slots + rm.slots ≤ R.slots)
    {pc : Nat} {Ls : Array Slot} {st : List Value} (hsize : Ls.size = c.maxLocals) {argsL rest : List Value} (has : (.ref a :: argsL).toArray = as') (hlen : ∀ sig, parseMethodDescriptor y.desc = some sig → argsL.length = sig.parameters.length) (hstack : st = argsL.reverse ++ .ref a :: rest) (hV : (rest.map fun v => v.category).sum ≤ V) (hd : decode c.code pc = .ok (.invokevirtual index, 3))
    (K : ∀ T' v L, Q v T'.heap L → Stand p l e R s m args below meth c T' (locs ++ L) (cells + rm.cells) (slots + rm.slots) → Go p e below W T' (mkF m (pc + 3) Ls (v.toList ++ rest))) : Go p e below W T (mkF m pc Ls st) := by
  obtain ⟨cq, kq, qa, qb, qc⟩ := isOf hZ eT E
  obtain ⟨v, vm₁, ⟨T', L', k', n'⟩, -, X', ⟨L, hQ, e1, e2, e3⟩, st'⟩ := X.virtualBack hx hown (mvT hZ w1) (mvT hZ w5) (notFace_of_selects (args := #[]) (mvT hZ w6)) (mvT hZ w6) (mvT hZ w2) hy (backOf (W := V) hM hZ w4 w3 hf hl) qa qc (g := mkF m pc Ls st) rfl hsize (Steps.refl _) hlen hstack (by show 2 * 0 + _ ≤ _; omega) hd (fun _ _ => ⟨has, eT, hc, hs⟩)
  dsimp only [Pt.U, Pt.locs, Pt.cells, Pt.slots] at X' e1 e2 e3 st' hQ
  subst e1 e2 e3
  exact Go.of (fun _ k => st'.trans k) (K _ _ _ hQ X')
end OwnHeap
theorem pd__I_Z : parseMethodDescriptor "(I)Z" = some ⟨[.int], some .boolean⟩ := by decide +kernel
theorem d1_0 : decode prog_27_method_2_code 0 = .ok (.iload_n 0, 1) := by decide +kernel
theorem d1_1 : decode prog_27_method_2_code 1 = .ok (.bipush 48, 2) := by decide +kernel
theorem d1_3 : decode prog_27_method_2_code 3 = .ok (.if_icmp .lt 9, 3) := by decide +kernel
theorem d1_6 : decode prog_27_method_2_code 6 = .ok (.iload_n 0, 1) := by decide +kernel
theorem d1_7 : decode prog_27_method_2_code 7 = .ok (.bipush 57, 2) := by decide +kernel
theorem d1_9 : decode prog_27_method_2_code 9 = .ok (.if_icmp .le 27, 3) := by decide +kernel
theorem d1_12 : decode prog_27_method_2_code 12 = .ok (.iload_n 0, 1) := by decide +kernel
theorem d1_13 : decode prog_27_method_2_code 13 = .ok (.bipush 65, 2) := by decide +kernel
theorem d1_15 : decode prog_27_method_2_code 15 = .ok (.if_icmp .lt 9, 3) := by decide +kernel
theorem d1_18 : decode prog_27_method_2_code 18 = .ok (.iload_n 0, 1) := by decide +kernel
theorem d1_19 : decode prog_27_method_2_code 19 = .ok (.bipush 90, 2) := by decide +kernel
theorem d1_21 : decode prog_27_method_2_code 21 = .ok (.if_icmp .le 15, 3) := by decide +kernel
theorem d1_24 : decode prog_27_method_2_code 24 = .ok (.iload_n 0, 1) := by decide +kernel
theorem d1_25 : decode prog_27_method_2_code 25 = .ok (.bipush 97, 2) := by decide +kernel
theorem d1_27 : decode prog_27_method_2_code 27 = .ok (.if_icmp .lt 13, 3) := by decide +kernel
theorem d1_30 : decode prog_27_method_2_code 30 = .ok (.iload_n 0, 1) := by decide +kernel
theorem d1_31 : decode prog_27_method_2_code 31 = .ok (.bipush 122, 2) := by decide +kernel
theorem d1_33 : decode prog_27_method_2_code 33 = .ok (.if_icmp .gt 7, 3) := by decide +kernel
theorem d1_36 : decode prog_27_method_2_code 36 = .ok (.iconst 1, 1) := by decide +kernel
theorem d1_37 : decode prog_27_method_2_code 37 = .ok (.goto 4, 3) := by decide +kernel
theorem d1_40 : decode prog_27_method_2_code 40 = .ok (.iconst 0, 1) := by decide +kernel
theorem d1_41 : decode prog_27_method_2_code 41 = .ok (.ireturn, 1) := by decide +kernel
theorem pn_1 : plainFor (⟨"com/example/classmark/classmark/read/RecordStructure", "isTagCharacter", "(I)Z"⟩ : MethodName) = true := plainFor_of_name (by show plainName "com/example/classmark/classmark/read/RecordStructure" = true; first | (simp [plainName, overriddenIn]; done) | decide +kernel)
theorem ef_1 (m : MethodId) (p1 : Int32) : entryFrame m #[(.int p1)] 1 = mkF m 0 #[.val (.int p1)] [] := by first | (simp [entryFrame, mkF, argsToLocals, Value.category]; done) | rfl
def f1_24 (p1 : Int32) : Int32 := (if p1 < (97 : Int32) then (0 : Int32) else (if (122 : Int32) < p1 then (0 : Int32) else (1 : Int32)))
def f1_12 (p1 : Int32) : Int32 := (if p1 < (65 : Int32) then (f1_24 p1) else (if (90 : Int32) < p1 then (f1_24 p1) else (1 : Int32)))
def f1 (p1 : Int32) : Int32 := (if p1 < (48 : Int32) then (f1_12 p1) else (if (57 : Int32) < p1 then (f1_12 p1) else (1 : Int32)))
theorem pn_0 : plainFor x = true := plainFor_of_name (by show plainName "com/example/classmark/classmark/read/RecordStructureIsTagCharacterPinLaw" = true; first | (simp [plainName, overriddenIn]; done) | decide +kernel)
theorem ef_0 (m : MethodId) (p1 : Int32) (p2 : Int32) : entryFrame m #[(.int p1), (.int p2)] maxLocals = mkF m 0 #[.val (.int p1), .val (.int p2), .unset, .unset, .unset, .unset, .unset, .unset, .unset, .unset, .unset, .unset] [] := by first | (simp [entryFrame, mkF, argsToLocals, Value.category, maxLocals]; done) | rfl
def v0_1 (p1 : Int32) (p2 : Int32) : Int64 := ((p1.toInt64) - (48 : Int64))
def v0_5 (p1 : Int32) (p2 : Int32) : Int32 := (if (v0_1 p1 p2) < (0 : Int64) then (0 : Int32) else (if (v0_1 p1 p2) < (10 : Int64) then (1 : Int32) else (0 : Int32)))
def v0_6 (p1 : Int32) (p2 : Int32) : Int64 := (((p1 ||| (32 : Int32)).toInt64) - (97 : Int64))
def v0_10 (p1 : Int32) (p2 : Int32) : Int32 := (if (v0_6 p1 p2) < (0 : Int64) then (0 : Int32) else (if (v0_6 p1 p2) < (26 : Int64) then (1 : Int32) else (0 : Int32)))
def v0_15 (p1 : Int32) (p2 : Int32) : Int32 := (if (v0_5 p1 p2) = (0 : Int32) then (if (v0_10 p1 p2) = (0 : Int32) then (0 : Int32) else (1 : Int32)) else (1 : Int32))
def v0_18 (p1 : Int32) (p2 : Int32) : Int32 := (if (f1 p1) = (v0_15 p1 p2) then (1 : Int32) else (0 : Int32))
def w0_20 (p1 : Int32) (p2 : Int32) : Nat → Int32 := fun _ => 0
def w0_22 (p1 : Int32) (p2 : Int32) : Nat → Int32 := upd (w0_20 p1 p2) 0 (47 : Int32)
def w0_24 (p1 : Int32) (p2 : Int32) : Nat → Int32 := upd (w0_22 p1 p2) 1 (48 : Int32)
def w0_26 (p1 : Int32) (p2 : Int32) : Nat → Int32 := upd (w0_24 p1 p2) 2 (57 : Int32)
def w0_28 (p1 : Int32) (p2 : Int32) : Nat → Int32 := upd (w0_26 p1 p2) 3 (58 : Int32)
def w0_30 (p1 : Int32) (p2 : Int32) : Nat → Int32 := upd (w0_28 p1 p2) 4 (64 : Int32)
def w0_32 (p1 : Int32) (p2 : Int32) : Nat → Int32 := upd (w0_30 p1 p2) 5 (65 : Int32)
def w0_34 (p1 : Int32) (p2 : Int32) : Nat → Int32 := upd (w0_32 p1 p2) 6 (90 : Int32)
def w0_36 (p1 : Int32) (p2 : Int32) : Nat → Int32 := upd (w0_34 p1 p2) 7 (91 : Int32)
def w0_38 (p1 : Int32) (p2 : Int32) : Nat → Int32 := upd (w0_36 p1 p2) 8 (96 : Int32)
def w0_40 (p1 : Int32) (p2 : Int32) : Nat → Int32 := upd (w0_38 p1 p2) 9 (97 : Int32)
def w0_42 (p1 : Int32) (p2 : Int32) : Nat → Int32 := upd (w0_40 p1 p2) 10 (122 : Int32)
def w0_44 (p1 : Int32) (p2 : Int32) : Nat → Int32 := upd (w0_42 p1 p2) 11 (123 : Int32)
def w0_46 (p1 : Int32) (p2 : Int32) : Nat → Int32 := upd (w0_44 p1 p2) 12 (0 : Int32)
def w0_48 (p1 : Int32) (p2 : Int32) : Nat → Int32 := upd (w0_46 p1 p2) 13 (255 : Int32)
def w0_50 (p1 : Int32) (p2 : Int32) : Nat → Int32 := upd (w0_48 p1 p2) 14 (-1 : Int32)
def w0_52 (p1 : Int32) (p2 : Int32) : Nat → Int32 := upd (w0_50 p1 p2) 15 (-2147483648 : Int32)
def w0_54 (p1 : Int32) (p2 : Int32) : Nat → Int32 := fun _ => 0
def w0_56 (p1 : Int32) (p2 : Int32) : Nat → Int32 := upd (w0_54 p1 p2) 0 (0 : Int32)
def w0_58 (p1 : Int32) (p2 : Int32) : Nat → Int32 := upd (w0_56 p1 p2) 1 (1 : Int32)
def w0_60 (p1 : Int32) (p2 : Int32) : Nat → Int32 := upd (w0_58 p1 p2) 2 (1 : Int32)
def w0_62 (p1 : Int32) (p2 : Int32) : Nat → Int32 := upd (w0_60 p1 p2) 3 (0 : Int32)
def w0_64 (p1 : Int32) (p2 : Int32) : Nat → Int32 := upd (w0_62 p1 p2) 4 (0 : Int32)
def w0_66 (p1 : Int32) (p2 : Int32) : Nat → Int32 := upd (w0_64 p1 p2) 5 (1 : Int32)
def w0_68 (p1 : Int32) (p2 : Int32) : Nat → Int32 := upd (w0_66 p1 p2) 6 (1 : Int32)
def w0_70 (p1 : Int32) (p2 : Int32) : Nat → Int32 := upd (w0_68 p1 p2) 7 (0 : Int32)
def w0_72 (p1 : Int32) (p2 : Int32) : Nat → Int32 := upd (w0_70 p1 p2) 8 (0 : Int32)
def w0_74 (p1 : Int32) (p2 : Int32) : Nat → Int32 := upd (w0_72 p1 p2) 9 (1 : Int32)
def w0_76 (p1 : Int32) (p2 : Int32) : Nat → Int32 := upd (w0_74 p1 p2) 10 (1 : Int32)
def w0_78 (p1 : Int32) (p2 : Int32) : Nat → Int32 := upd (w0_76 p1 p2) 11 (0 : Int32)
def w0_80 (p1 : Int32) (p2 : Int32) : Nat → Int32 := upd (w0_78 p1 p2) 12 (0 : Int32)
def w0_82 (p1 : Int32) (p2 : Int32) : Nat → Int32 := upd (w0_80 p1 p2) 13 (0 : Int32)
def w0_84 (p1 : Int32) (p2 : Int32) : Nat → Int32 := upd (w0_82 p1 p2) 14 (0 : Int32)
def w0_86 (p1 : Int32) (p2 : Int32) : Nat → Int32 := upd (w0_84 p1 p2) 15 (0 : Int32)
def v0_87 (p1 : Int32) (p2 : Int32) : Int32 := (p2 &&& (15 : Int32))
def v0_92 (p1 : Int32) (p2 : Int32) : Int32 := (if (v0_18 p1 p2) = (0 : Int32) then (0 : Int32) else (if (f1 (w0_52 p1 p2 (v0_87 p1 p2).toNatClampNeg)) = (w0_86 p1 p2 (v0_87 p1 p2).toNatClampNeg) then (1 : Int32) else (0 : Int32)))
def f0 (p1 : Int32) (p2 : Int32) : Int32 := (nar .boolean (v0_92 p1 p2))
def Q0 (Z : State) (p1 : Int32) (p2 : Int32) (h0 : Heap) (n0 : Nat) (v : Option Value) (h : Heap) (L : List Loc) : Prop := v = some (.int (f0 p1 p2)) ∧ Fr n0 L ∧ Keep h0 h []
section OwnNums
theorem own_or32N (x : Nat) : x ||| 32 = x + 32 - 32 * ((x / 32) % 2) := by
  have h1 : (x ||| 32) / 64 = x / 64 := by
    have := Nat.or_div_two_pow (a := x) (b := 32) (n := 6)
    simpa using this
  have h2 : (x ||| 32) % 64 = (x % 64) ||| 32 := by
    have := Nat.or_mod_two_pow (a := x) (b := 32) (n := 6)
    simpa using this
  have h3 : ∀ y : Fin 64, (y.val ||| 32) = y.val + 32 - 32 * ((y.val / 32) % 2) := by decide +kernel
  have h4 := h3 ⟨x % 64, Nat.mod_lt _ (by decide)⟩
  simp only at h4
  omega
theorem own_or32 (c : Int32) : (c ||| 32).toInt = c.toInt + 32 - 32 * ((c.toInt / 32) % 2) := by
  have h := own_or32N c.toBitVec.toNat
  have e : (c ||| 32).toBitVec.toNat = c.toBitVec.toNat ||| 32 := by
    rw [Int32.toBitVec_or, BitVec.toNat_or]; rfl
  have r1 : (c ||| 32).toInt = (c ||| 32).toBitVec.toInt := rfl
  have r2 : c.toInt = c.toBitVec.toInt := rfl
  have b := c.toBitVec.isLt
  rw [r1, r2, BitVec.toInt_eq_toNat_cond, BitVec.toInt_eq_toNat_cond, e, h]
  split <;> split <;> omega
end OwnNums

theorem own_inb (x y : Int32) : inb (v0_87 x y) 16 := by
  have a1 : (v0_87 x y).toInt = y.toInt % (2 ^ 4 : Nat) := c_mask y 15 4 (by decide) (by decide)
  refine ⟨?_, ?_⟩
  · rw [Int32.lt_iff_toInt_lt, show (0 : Int32).toInt = 0 from rfl]; omega
  · show (v0_87 x y).toInt.toNat < 16
    omega
theorem own_f1 (c : Int32) : f1 c = if (48 ≤ c.toInt ∧ c.toInt ≤ 57) ∨ (65 ≤ c.toInt ∧ c.toInt ≤ 90) ∨ (97 ≤ c.toInt ∧ c.toInt ≤ 122) then 1 else 0 := by
  simp only [f1, f1_12, f1_24, Int32.lt_iff_toInt_lt, show (48 : Int32).toInt = 48 from rfl, show (57 : Int32).toInt = 57 from rfl, show (65 : Int32).toInt = 65 from rfl, show (90 : Int32).toInt = 90 from rfl, show (97 : Int32).toInt = 97 from rfl, show (122 : Int32).toInt = 122 from rfl]
  generalize c.toInt = n
  repeat' split
  all_goals first | rfl | (exfalso; omega)
def own_a : Nat → Int32 := w0_52 0 0
def own_b : Nat → Int32 := w0_86 0 0
theorem own_wa (x y : Int32) : w0_52 x y = own_a := rfl
theorem own_wb (x y : Int32) : w0_86 x y = own_b := rfl
theorem own_tab : ∀ i : Fin 16, f1 (own_a i.val) = own_b i.val := by decide +kernel
theorem own_law (x y : Int32) : f0 x y = 1 := by
  have a1 : ((v0_1 x y).toInt - (x.toInt64.toInt - 48)) % 18446744073709551616 = 0 := c_lsub x.toInt64 48
  rw [c_i2l] at a1
  have r1 := rng64 (v0_1 x y)
  have rx := rng32 x
  have a6 : ((v0_6 x y).toInt - ((x ||| 32).toInt64.toInt - 97)) % 18446744073709551616 = 0 := c_lsub (x ||| 32).toInt64 97
  rw [c_i2l, own_or32] at a6
  have r6 := rng64 (v0_6 x y)
  have h5 : v0_5 x y = if 48 ≤ x.toInt ∧ x.toInt ≤ 57 then 1 else 0 := by
    simp only [v0_5, Int64.lt_iff_toInt_lt, show (0 : Int64).toInt = 0 from rfl, show (10 : Int64).toInt = 10 from rfl]
    repeat' split
    all_goals first | rfl | (exfalso; omega)
  have h10 : v0_10 x y = if (65 ≤ x.toInt ∧ x.toInt ≤ 90) ∨ (97 ≤ x.toInt ∧ x.toInt ≤ 122) then 1 else 0 := by
    simp only [v0_10, Int64.lt_iff_toInt_lt, show (0 : Int64).toInt = 0 from rfl, show (26 : Int64).toInt = 26 from rfl]
    repeat' split
    all_goals first | rfl | (exfalso; omega)
  have h18 : f1 x = v0_15 x y := by
    rw [own_f1, v0_15, h5, h10]
    by_cases q1 : 48 ≤ x.toInt ∧ x.toInt ≤ 57
    · rw [if_pos (Or.inl q1), if_pos q1]; rfl
    · rw [if_neg q1]
      by_cases q2 : (65 ≤ x.toInt ∧ x.toInt ≤ 90) ∨ (97 ≤ x.toInt ∧ x.toInt ≤ 122)
      · rw [if_pos (Or.inr q2), if_pos q2]; rfl
      · rw [if_neg (fun q => q.elim q1 q2), if_neg q2]; rfl
  have h1 : v0_18 x y = 1 := by rw [v0_18, if_pos h18]
  have h2 : f1 (w0_52 x y (v0_87 x y).toNatClampNeg) = w0_86 x y (v0_87 x y).toNatClampNeg := by
    rw [own_wa, own_wb]; exact own_tab ⟨_, (own_inb x y).2⟩
  have h92 : v0_92 x y = 1 := by rw [v0_92, h1, if_neg (by decide), if_pos h2]
  rw [f0, h92]; rfl
set_option maxRecDepth 65536 in
set_option maxHeartbeats 40000000 in
theorem rm1 (l : Launch) (Z : State) (a0 : Array Value) (hw : ∀ d ∈ tables_1, d.before a0 Z = true) (ws : List Jvm.Cond) (p1 : Int32) (h0 : Heap) :
    Con l Z (⟨"com/example/classmark/classmark/read/RecordStructure", "isTagCharacter", "(I)Z"⟩ : MethodName) prog_27_method_2_code 1 (some .boolean) ws ({ frames := 0, cells := 0, slots := 0, locals := 0 } : Room) #[(.int p1)] h0 (PQ (.int (f1 p1)) h0) := by
  refine own_body pn_1 (fun m => ef_1 m p1) ?_
  intro p e s m below meth c T0 W X0 hx hby hml hret hlk hown hnm hZ e0 hW
  show Go p e below W T0 (mkF m 0 #[.val (.int p1)] [])
  refine Go.of (fun _ k => XS.iloadN X0.here hx rfl (hb hby d1_0) rfl k) ?_
  show Go p e below W T0 (mkF m 1 #[.val (.int p1)] [(.int p1)])
  refine Go.of (fun _ k => XS.bipush X0.here hx rfl (hb hby d1_1) k) ?_
  show Go p e below W T0 (mkF m 3 #[.val (.int p1)] [(.int (48 : Int32)), (.int p1)])
  have J3 : (f1 p1) = (f1_12 p1) → Go p e below W T0 (mkF m 12 #[.val (.int p1)] []) := by
    intro hJ3
    show Go p e below W T0 (mkF m 12 #[.val (.int p1)] [])
    refine Go.of (fun _ k => XS.iloadN X0.here hx rfl (hb hby d1_12) rfl k) ?_
    show Go p e below W T0 (mkF m 13 #[.val (.int p1)] [(.int p1)])
    refine Go.of (fun _ k => XS.bipush X0.here hx rfl (hb hby d1_13) k) ?_
    show Go p e below W T0 (mkF m 15 #[.val (.int p1)] [(.int (65 : Int32)), (.int p1)])
    have J6 : (f1_12 p1) = (f1_24 p1) → Go p e below W T0 (mkF m 24 #[.val (.int p1)] []) := by
      intro hJ6
      show Go p e below W T0 (mkF m 24 #[.val (.int p1)] [])
      refine Go.of (fun _ k => XS.iloadN X0.here hx rfl (hb hby d1_24) rfl k) ?_
      show Go p e below W T0 (mkF m 25 #[.val (.int p1)] [(.int p1)])
      refine Go.of (fun _ k => XS.bipush X0.here hx rfl (hb hby d1_25) k) ?_
      show Go p e below W T0 (mkF m 27 #[.val (.int p1)] [(.int (97 : Int32)), (.int p1)])
      by_cases c7 : p1 < (97 : Int32)
      · refine Go.of (fun _ k => XS.icmpYes X0.here hx rfl (pc0 := 27) (pc' := 40) rfl (hb hby d1_27) rfl (Jvm.Free.XT.ii_lt_t c7) (by decide) (by decide) k) ?_
        show Go p e below W T0 (mkF m 40 #[.val (.int p1)] [])
        refine Go.of (fun _ k => XS.iconst X0.here hx rfl (hb hby d1_40) k) ?_
        show Go p e below W T0 (mkF m 41 #[.val (.int p1)] [(.int (0 : Int32))])
        have q : (f1_24 p1) = (0 : Int32) := by rw [f1_24, if_pos c7]
        replace q : (f1 p1) = (0 : Int32) := (hJ3.trans hJ6).trans q
        exact Go.retN X0 hx hret (Or.inl rfl) (hb hby d1_41) hlk (Eq.trans rfl q.symm) (fun t ht fe => hW t _ _ _ _ ⟨rfl, rfl, ht.trans e0⟩ fe (by decide) (by decide))
      · refine Go.of (fun _ k => XS.icmpNo X0.here hx rfl (hb hby d1_27) rfl (Jvm.Free.XT.ii_lt_f c7) k) ?_
        show Go p e below W T0 (mkF m 30 #[.val (.int p1)] [])
        refine Go.of (fun _ k => XS.iloadN X0.here hx rfl (hb hby d1_30) rfl k) ?_
        show Go p e below W T0 (mkF m 31 #[.val (.int p1)] [(.int p1)])
        refine Go.of (fun _ k => XS.bipush X0.here hx rfl (hb hby d1_31) k) ?_
        show Go p e below W T0 (mkF m 33 #[.val (.int p1)] [(.int (122 : Int32)), (.int p1)])
        by_cases c8 : (122 : Int32) < p1
        · refine Go.of (fun _ k => XS.icmpYes X0.here hx rfl (pc0 := 33) (pc' := 40) rfl (hb hby d1_33) rfl (Jvm.Free.XT.ii_gt_t c8) (by decide) (by decide) k) ?_
          show Go p e below W T0 (mkF m 40 #[.val (.int p1)] [])
          refine Go.of (fun _ k => XS.iconst X0.here hx rfl (hb hby d1_40) k) ?_
          show Go p e below W T0 (mkF m 41 #[.val (.int p1)] [(.int (0 : Int32))])
          have q : (f1_24 p1) = (0 : Int32) := by rw [f1_24, if_neg c7, if_pos c8]
          replace q : (f1 p1) = (0 : Int32) := (hJ3.trans hJ6).trans q
          exact Go.retN X0 hx hret (Or.inl rfl) (hb hby d1_41) hlk (Eq.trans rfl q.symm) (fun t ht fe => hW t _ _ _ _ ⟨rfl, rfl, ht.trans e0⟩ fe (by decide) (by decide))
        · refine Go.of (fun _ k => XS.icmpNo X0.here hx rfl (hb hby d1_33) rfl (Jvm.Free.XT.ii_gt_f c8) k) ?_
          show Go p e below W T0 (mkF m 36 #[.val (.int p1)] [])
          refine Go.of (fun _ k => XS.iconst X0.here hx rfl (hb hby d1_36) k) ?_
          show Go p e below W T0 (mkF m 37 #[.val (.int p1)] [(.int (1 : Int32))])
          refine Go.of (fun _ k => XS.goto X0.here hx rfl (pc0 := 37) (pc' := 41) rfl (hb hby d1_37) (by decide) (by decide) k) ?_
          show Go p e below W T0 (mkF m 41 #[.val (.int p1)] [(.int (1 : Int32))])
          have q : (f1_24 p1) = (1 : Int32) := by rw [f1_24, if_neg c7, if_neg c8]
          replace q : (f1 p1) = (1 : Int32) := (hJ3.trans hJ6).trans q
          exact Go.retN X0 hx hret (Or.inl rfl) (hb hby d1_41) hlk (Eq.trans rfl q.symm) (fun t ht fe => hW t _ _ _ _ ⟨rfl, rfl, ht.trans e0⟩ fe (by decide) (by decide))
    by_cases c4 : p1 < (65 : Int32)
    · refine Go.of (fun _ k => XS.icmpYes X0.here hx rfl (pc0 := 15) (pc' := 24) rfl (hb hby d1_15) rfl (Jvm.Free.XT.ii_lt_t c4) (by decide) (by decide) k) ?_
      exact J6 (by rw [f1_12, if_pos c4])
    · refine Go.of (fun _ k => XS.icmpNo X0.here hx rfl (hb hby d1_15) rfl (Jvm.Free.XT.ii_lt_f c4) k) ?_
      show Go p e below W T0 (mkF m 18 #[.val (.int p1)] [])
      refine Go.of (fun _ k => XS.iloadN X0.here hx rfl (hb hby d1_18) rfl k) ?_
      show Go p e below W T0 (mkF m 19 #[.val (.int p1)] [(.int p1)])
      refine Go.of (fun _ k => XS.bipush X0.here hx rfl (hb hby d1_19) k) ?_
      show Go p e below W T0 (mkF m 21 #[.val (.int p1)] [(.int (90 : Int32)), (.int p1)])
      by_cases c5 : (90 : Int32) < p1
      · refine Go.of (fun _ k => XS.icmpNo X0.here hx rfl (hb hby d1_21) rfl (Jvm.Free.XT.ii_le_f c5) k) ?_
        exact J6 (by rw [f1_12, if_neg c4, if_pos c5])
      · refine Go.of (fun _ k => XS.icmpYes X0.here hx rfl (pc0 := 21) (pc' := 36) rfl (hb hby d1_21) rfl (Jvm.Free.XT.ii_le_t c5) (by decide) (by decide) k) ?_
        show Go p e below W T0 (mkF m 36 #[.val (.int p1)] [])
        refine Go.of (fun _ k => XS.iconst X0.here hx rfl (hb hby d1_36) k) ?_
        show Go p e below W T0 (mkF m 37 #[.val (.int p1)] [(.int (1 : Int32))])
        refine Go.of (fun _ k => XS.goto X0.here hx rfl (pc0 := 37) (pc' := 41) rfl (hb hby d1_37) (by decide) (by decide) k) ?_
        show Go p e below W T0 (mkF m 41 #[.val (.int p1)] [(.int (1 : Int32))])
        have q : (f1_12 p1) = (1 : Int32) := by rw [f1_12, if_neg c4, if_neg c5]
        replace q : (f1 p1) = (1 : Int32) := hJ3.trans q
        exact Go.retN X0 hx hret (Or.inl rfl) (hb hby d1_41) hlk (Eq.trans rfl q.symm) (fun t ht fe => hW t _ _ _ _ ⟨rfl, rfl, ht.trans e0⟩ fe (by decide) (by decide))
  by_cases c1 : p1 < (48 : Int32)
  · refine Go.of (fun _ k => XS.icmpYes X0.here hx rfl (pc0 := 3) (pc' := 12) rfl (hb hby d1_3) rfl (Jvm.Free.XT.ii_lt_t c1) (by decide) (by decide) k) ?_
    exact J3 (by rw [f1, if_pos c1])
  · refine Go.of (fun _ k => XS.icmpNo X0.here hx rfl (hb hby d1_3) rfl (Jvm.Free.XT.ii_lt_f c1) k) ?_
    show Go p e below W T0 (mkF m 6 #[.val (.int p1)] [])
    refine Go.of (fun _ k => XS.iloadN X0.here hx rfl (hb hby d1_6) rfl k) ?_
    show Go p e below W T0 (mkF m 7 #[.val (.int p1)] [(.int p1)])
    refine Go.of (fun _ k => XS.bipush X0.here hx rfl (hb hby d1_7) k) ?_
    show Go p e below W T0 (mkF m 9 #[.val (.int p1)] [(.int (57 : Int32)), (.int p1)])
    by_cases c2 : (57 : Int32) < p1
    · refine Go.of (fun _ k => XS.icmpNo X0.here hx rfl (hb hby d1_9) rfl (Jvm.Free.XT.ii_le_f c2) k) ?_
      exact J3 (by rw [f1, if_neg c1, if_pos c2])
    · refine Go.of (fun _ k => XS.icmpYes X0.here hx rfl (pc0 := 9) (pc' := 36) rfl (hb hby d1_9) rfl (Jvm.Free.XT.ii_le_t c2) (by decide) (by decide) k) ?_
      show Go p e below W T0 (mkF m 36 #[.val (.int p1)] [])
      refine Go.of (fun _ k => XS.iconst X0.here hx rfl (hb hby d1_36) k) ?_
      show Go p e below W T0 (mkF m 37 #[.val (.int p1)] [(.int (1 : Int32))])
      refine Go.of (fun _ k => XS.goto X0.here hx rfl (pc0 := 37) (pc' := 41) rfl (hb hby d1_37) (by decide) (by decide) k) ?_
      show Go p e below W T0 (mkF m 41 #[.val (.int p1)] [(.int (1 : Int32))])
      have q : (f1 p1) = (1 : Int32) := by rw [f1, if_neg c1, if_neg c2]
      exact Go.retN X0 hx hret (Or.inl rfl) (hb hby d1_41) hlk (Eq.trans rfl q.symm) (fun t ht fe => hW t _ _ _ _ ⟨rfl, rfl, ht.trans e0⟩ fe (by decide) (by decide))
set_option maxRecDepth 65536 in
set_option maxHeartbeats 40000000 in
theorem rm0 (l : Launch) (Z : State) (a0 : Array Value) (hw : ∀ d ∈ tables_1, d.before a0 Z = true) (ws : List Jvm.Cond) (p1 : Int32) (p2 : Int32) (h0 : Heap) (n0 : Nat) (Z0 : n0 ≤ h0.size) :
    Con l Z x code maxLocals ret ws room_1 #[(.int p1), (.int p2)] h0 (Q0 Z p1 p2 h0 n0) := by
  refine own_body pn_0 (fun m => ef_0 m p1 p2) ?_
  intro p e s m below meth c T0 W X0 hx hby hml hret hlk hown hnm hZ e0 hW
  have K : Keep h0 h0 [] := Keep.refl _ _
  have N := Fr.nil n0
  show Go p e below W T0 (mkF m 0 #[.val (.int p1), .val (.int p2), .unset, .unset, .unset, .unset, .unset, .unset, .unset, .unset, .unset, .unset] [])
  refine Go.of (fun _ k => XS.iloadN X0.here hx rfl (hb hby at_0) rfl k) ?_
  show Go p e below W T0 (mkF m 1 #[.val (.int p1), .val (.int p2), .unset, .unset, .unset, .unset, .unset, .unset, .unset, .unset, .unset, .unset] [(.int p1)])
  refine Go.of (fun _ k => XS.i2l X0.here hx rfl (hb hby at_1) rfl k) ?_
  show Go p e below W T0 (mkF m 2 #[.val (.int p1), .val (.int p2), .unset, .unset, .unset, .unset, .unset, .unset, .unset, .unset, .unset, .unset] [(.long (p1.toInt64))])
  refine Go.of (fun _ k => X0.ldc2J hx hown (mvT hZ (hw _ (List.mem_of_getElem? (i := 0) rfl))) rfl (hb hby at_2) k) ?_
  show Go p e below W T0 (mkF m 5 #[.val (.int p1), .val (.int p2), .unset, .unset, .unset, .unset, .unset, .unset, .unset, .unset, .unset, .unset] [(.long (48 : Int64)), (.long (p1.toInt64))])
  refine Go.of (fun _ k => XS.lsub X0.here hx rfl (hb hby at_5) rfl k) ?_
  show Go p e below W T0 (mkF m 6 #[.val (.int p1), .val (.int p2), .unset, .unset, .unset, .unset, .unset, .unset, .unset, .unset, .unset, .unset] [(.long ((p1.toInt64) - (48 : Int64)))])
  refine Go.of (fun _ k => XS.lstoreN X0.here hx rfl (hb hby at_6) rfl (l' := #[.val (.int p1), .val (.int p2), .val (.long (v0_1 p1 p2)), .second, .unset, .unset, .unset, .unset, .unset, .unset, .unset, .unset]) rfl k) ?_
  show Go p e below W T0 (mkF m 7 #[.val (.int p1), .val (.int p2), .val (.long (v0_1 p1 p2)), .second, .unset, .unset, .unset, .unset, .unset, .unset, .unset, .unset] [])
  refine Go.of (fun _ k => XS.lloadN X0.here hx rfl (hb hby at_7) rfl k) ?_
  show Go p e below W T0 (mkF m 8 #[.val (.int p1), .val (.int p2), .val (.long (v0_1 p1 p2)), .second, .unset, .unset, .unset, .unset, .unset, .unset, .unset, .unset] [(.long (v0_1 p1 p2))])
  refine Go.of (fun _ k => XS.lconst X0.here hx rfl (hb hby at_8) k) ?_
  show Go p e below W T0 (mkF m 9 #[.val (.int p1), .val (.int p2), .val (.long (v0_1 p1 p2)), .second, .unset, .unset, .unset, .unset, .unset, .unset, .unset, .unset] [(.long (0 : Int64)), (.long (v0_1 p1 p2))])
  refine Go.of (fun _ k => XS.lcmp X0.here hx rfl (hb hby at_9) rfl k) ?_
  show Go p e below W T0 (mkF m 10 #[.val (.int p1), .val (.int p2), .val (.long (v0_1 p1 p2)), .second, .unset, .unset, .unset, .unset, .unset, .unset, .unset, .unset] [(.int (Jvm.Free.XT.cmpL (v0_1 p1 p2) (0 : Int64)))])
  suffices G4 : ∀ T', Stand p l e room_1 s m #[(.int p1), (.int p2)] below meth c T' [] 0 0 → T'.heap = h0 → Go p e below W T' (mkF m 26 #[.val (.int p1), .val (.int p2), .val (.long (v0_1 p1 p2)), .second, .unset, .unset, .unset, .unset, .unset, .unset, .unset, .unset] [(.int (v0_5 p1 p2))]) by
    by_cases c2 : (v0_1 p1 p2) < (0 : Int64)
    · refine Go.of (fun _ k => XS.ifYes X0.here hx rfl (pc0 := 10) (pc' := 25) rfl (hb hby at_10) rfl (Jvm.Free.XT.ll_lt_t c2) (by decide) (by decide) k) ?_
      show Go p e below W T0 (mkF m 25 #[.val (.int p1), .val (.int p2), .val (.long (v0_1 p1 p2)), .second, .unset, .unset, .unset, .unset, .unset, .unset, .unset, .unset] [])
      refine Go.of (fun _ k => XS.iconst X0.here hx rfl (hb hby at_25) k) ?_
      have G4 := G4
      have q_v0_5 : (v0_5 p1 p2) = (0 : Int32) := by rw [v0_5, if_pos c2]
      rw [q_v0_5] at G4
      exact G4 _ X0 e0
    · refine Go.of (fun _ k => XS.ifNo X0.here hx rfl (hb hby at_10) rfl (Jvm.Free.XT.ll_lt_f c2) k) ?_
      show Go p e below W T0 (mkF m 13 #[.val (.int p1), .val (.int p2), .val (.long (v0_1 p1 p2)), .second, .unset, .unset, .unset, .unset, .unset, .unset, .unset, .unset] [])
      refine Go.of (fun _ k => XS.lloadN X0.here hx rfl (hb hby at_13) rfl k) ?_
      show Go p e below W T0 (mkF m 14 #[.val (.int p1), .val (.int p2), .val (.long (v0_1 p1 p2)), .second, .unset, .unset, .unset, .unset, .unset, .unset, .unset, .unset] [(.long (v0_1 p1 p2))])
      refine Go.of (fun _ k => X0.ldc2J hx hown (mvT hZ (hw _ (List.mem_of_getElem? (i := 9) rfl))) rfl (hb hby at_14) k) ?_
      show Go p e below W T0 (mkF m 17 #[.val (.int p1), .val (.int p2), .val (.long (v0_1 p1 p2)), .second, .unset, .unset, .unset, .unset, .unset, .unset, .unset, .unset] [(.long (10 : Int64)), (.long (v0_1 p1 p2))])
      refine Go.of (fun _ k => XS.lcmp X0.here hx rfl (hb hby at_17) rfl k) ?_
      show Go p e below W T0 (mkF m 18 #[.val (.int p1), .val (.int p2), .val (.long (v0_1 p1 p2)), .second, .unset, .unset, .unset, .unset, .unset, .unset, .unset, .unset] [(.int (Jvm.Free.XT.cmpL (v0_1 p1 p2) (10 : Int64)))])
      by_cases c3 : (v0_1 p1 p2) < (10 : Int64)
      · refine Go.of (fun _ k => XS.ifNo X0.here hx rfl (hb hby at_18) rfl (Jvm.Free.XT.ll_ge_f c3) k) ?_
        show Go p e below W T0 (mkF m 21 #[.val (.int p1), .val (.int p2), .val (.long (v0_1 p1 p2)), .second, .unset, .unset, .unset, .unset, .unset, .unset, .unset, .unset] [])
        refine Go.of (fun _ k => XS.iconst X0.here hx rfl (hb hby at_21) k) ?_
        show Go p e below W T0 (mkF m 22 #[.val (.int p1), .val (.int p2), .val (.long (v0_1 p1 p2)), .second, .unset, .unset, .unset, .unset, .unset, .unset, .unset, .unset] [(.int (1 : Int32))])
        refine Go.of (fun _ k => XS.goto X0.here hx rfl (pc0 := 22) (pc' := 26) rfl (hb hby at_22) (by decide) (by decide) k) ?_
        have G4 := G4
        have q_v0_5 : (v0_5 p1 p2) = (1 : Int32) := by rw [v0_5, if_neg c2, if_pos c3]
        rw [q_v0_5] at G4
        exact G4 _ X0 e0
      · refine Go.of (fun _ k => XS.ifYes X0.here hx rfl (pc0 := 18) (pc' := 25) rfl (hb hby at_18) rfl (Jvm.Free.XT.ll_ge_t c3) (by decide) (by decide) k) ?_
        show Go p e below W T0 (mkF m 25 #[.val (.int p1), .val (.int p2), .val (.long (v0_1 p1 p2)), .second, .unset, .unset, .unset, .unset, .unset, .unset, .unset, .unset] [])
        refine Go.of (fun _ k => XS.iconst X0.here hx rfl (hb hby at_25) k) ?_
        have G4 := G4
        have q_v0_5 : (v0_5 p1 p2) = (0 : Int32) := by rw [v0_5, if_neg c2, if_neg c3]
        rw [q_v0_5] at G4
        exact G4 _ X0 e0
  intro T4 X4 e4
  show Go p e below W T4 (mkF m 26 #[.val (.int p1), .val (.int p2), .val (.long (v0_1 p1 p2)), .second, .unset, .unset, .unset, .unset, .unset, .unset, .unset, .unset] [(.int (v0_5 p1 p2))])
  refine Go.of (fun _ k => XS.istore X4.here hx rfl (hb hby at_26) rfl (l' := #[.val (.int p1), .val (.int p2), .val (.long (v0_1 p1 p2)), .second, .val (.int (v0_5 p1 p2)), .unset, .unset, .unset, .unset, .unset, .unset, .unset]) rfl k) ?_
  show Go p e below W T4 (mkF m 28 #[.val (.int p1), .val (.int p2), .val (.long (v0_1 p1 p2)), .second, .val (.int (v0_5 p1 p2)), .unset, .unset, .unset, .unset, .unset, .unset, .unset] [])
  refine Go.of (fun _ k => XS.iloadN X4.here hx rfl (hb hby at_28) rfl k) ?_
  show Go p e below W T4 (mkF m 29 #[.val (.int p1), .val (.int p2), .val (.long (v0_1 p1 p2)), .second, .val (.int (v0_5 p1 p2)), .unset, .unset, .unset, .unset, .unset, .unset, .unset] [(.int p1)])
  refine Go.of (fun _ k => XS.bipush X4.here hx rfl (hb hby at_29) k) ?_
  show Go p e below W T4 (mkF m 31 #[.val (.int p1), .val (.int p2), .val (.long (v0_1 p1 p2)), .second, .val (.int (v0_5 p1 p2)), .unset, .unset, .unset, .unset, .unset, .unset, .unset] [(.int (32 : Int32)), (.int p1)])
  refine Go.of (fun _ k => XS.ior X4.here hx rfl (hb hby at_31) rfl k) ?_
  show Go p e below W T4 (mkF m 32 #[.val (.int p1), .val (.int p2), .val (.long (v0_1 p1 p2)), .second, .val (.int (v0_5 p1 p2)), .unset, .unset, .unset, .unset, .unset, .unset, .unset] [(.int (p1 ||| (32 : Int32)))])
  refine Go.of (fun _ k => XS.i2l X4.here hx rfl (hb hby at_32) rfl k) ?_
  show Go p e below W T4 (mkF m 33 #[.val (.int p1), .val (.int p2), .val (.long (v0_1 p1 p2)), .second, .val (.int (v0_5 p1 p2)), .unset, .unset, .unset, .unset, .unset, .unset, .unset] [(.long ((p1 ||| (32 : Int32)).toInt64))])
  refine Go.of (fun _ k => X4.ldc2J hx hown (mvT hZ (hw _ (List.mem_of_getElem? (i := 1) rfl))) rfl (hb hby at_33) k) ?_
  show Go p e below W T4 (mkF m 36 #[.val (.int p1), .val (.int p2), .val (.long (v0_1 p1 p2)), .second, .val (.int (v0_5 p1 p2)), .unset, .unset, .unset, .unset, .unset, .unset, .unset] [(.long (97 : Int64)), (.long ((p1 ||| (32 : Int32)).toInt64))])
  refine Go.of (fun _ k => XS.lsub X4.here hx rfl (hb hby at_36) rfl k) ?_
  show Go p e below W T4 (mkF m 37 #[.val (.int p1), .val (.int p2), .val (.long (v0_1 p1 p2)), .second, .val (.int (v0_5 p1 p2)), .unset, .unset, .unset, .unset, .unset, .unset, .unset] [(.long (((p1 ||| (32 : Int32)).toInt64) - (97 : Int64)))])
  refine Go.of (fun _ k => XS.lstore X4.here hx rfl (hb hby at_37) rfl (l' := #[.val (.int p1), .val (.int p2), .val (.long (v0_1 p1 p2)), .second, .val (.int (v0_5 p1 p2)), .val (.long (v0_6 p1 p2)), .second, .unset, .unset, .unset, .unset, .unset]) rfl k) ?_
  show Go p e below W T4 (mkF m 39 #[.val (.int p1), .val (.int p2), .val (.long (v0_1 p1 p2)), .second, .val (.int (v0_5 p1 p2)), .val (.long (v0_6 p1 p2)), .second, .unset, .unset, .unset, .unset, .unset] [])
  refine Go.of (fun _ k => XS.lload X4.here hx rfl (hb hby at_39) rfl k) ?_
  show Go p e below W T4 (mkF m 41 #[.val (.int p1), .val (.int p2), .val (.long (v0_1 p1 p2)), .second, .val (.int (v0_5 p1 p2)), .val (.long (v0_6 p1 p2)), .second, .unset, .unset, .unset, .unset, .unset] [(.long (v0_6 p1 p2))])
  refine Go.of (fun _ k => XS.lconst X4.here hx rfl (hb hby at_41) k) ?_
  show Go p e below W T4 (mkF m 42 #[.val (.int p1), .val (.int p2), .val (.long (v0_1 p1 p2)), .second, .val (.int (v0_5 p1 p2)), .val (.long (v0_6 p1 p2)), .second, .unset, .unset, .unset, .unset, .unset] [(.long (0 : Int64)), (.long (v0_6 p1 p2))])
  refine Go.of (fun _ k => XS.lcmp X4.here hx rfl (hb hby at_42) rfl k) ?_
  show Go p e below W T4 (mkF m 43 #[.val (.int p1), .val (.int p2), .val (.long (v0_1 p1 p2)), .second, .val (.int (v0_5 p1 p2)), .val (.long (v0_6 p1 p2)), .second, .unset, .unset, .unset, .unset, .unset] [(.int (Jvm.Free.XT.cmpL (v0_6 p1 p2) (0 : Int64)))])
  suffices G9 : ∀ T', Stand p l e room_1 s m #[(.int p1), (.int p2)] below meth c T' [] 0 0 → T'.heap = h0 → Go p e below W T' (mkF m 60 #[.val (.int p1), .val (.int p2), .val (.long (v0_1 p1 p2)), .second, .val (.int (v0_5 p1 p2)), .val (.long (v0_6 p1 p2)), .second, .unset, .unset, .unset, .unset, .unset] [(.int (v0_10 p1 p2))]) by
    by_cases c7 : (v0_6 p1 p2) < (0 : Int64)
    · refine Go.of (fun _ k => XS.ifYes X4.here hx rfl (pc0 := 43) (pc' := 59) rfl (hb hby at_43) rfl (Jvm.Free.XT.ll_lt_t c7) (by decide) (by decide) k) ?_
      show Go p e below W T4 (mkF m 59 #[.val (.int p1), .val (.int p2), .val (.long (v0_1 p1 p2)), .second, .val (.int (v0_5 p1 p2)), .val (.long (v0_6 p1 p2)), .second, .unset, .unset, .unset, .unset, .unset] [])
      refine Go.of (fun _ k => XS.iconst X4.here hx rfl (hb hby at_59) k) ?_
      have G9 := G9
      have q_v0_10 : (v0_10 p1 p2) = (0 : Int32) := by rw [v0_10, if_pos c7]
      rw [q_v0_10] at G9
      exact G9 _ X4 e4
    · refine Go.of (fun _ k => XS.ifNo X4.here hx rfl (hb hby at_43) rfl (Jvm.Free.XT.ll_lt_f c7) k) ?_
      show Go p e below W T4 (mkF m 46 #[.val (.int p1), .val (.int p2), .val (.long (v0_1 p1 p2)), .second, .val (.int (v0_5 p1 p2)), .val (.long (v0_6 p1 p2)), .second, .unset, .unset, .unset, .unset, .unset] [])
      refine Go.of (fun _ k => XS.lload X4.here hx rfl (hb hby at_46) rfl k) ?_
      show Go p e below W T4 (mkF m 48 #[.val (.int p1), .val (.int p2), .val (.long (v0_1 p1 p2)), .second, .val (.int (v0_5 p1 p2)), .val (.long (v0_6 p1 p2)), .second, .unset, .unset, .unset, .unset, .unset] [(.long (v0_6 p1 p2))])
      refine Go.of (fun _ k => X4.ldc2J hx hown (mvT hZ (hw _ (List.mem_of_getElem? (i := 10) rfl))) rfl (hb hby at_48) k) ?_
      show Go p e below W T4 (mkF m 51 #[.val (.int p1), .val (.int p2), .val (.long (v0_1 p1 p2)), .second, .val (.int (v0_5 p1 p2)), .val (.long (v0_6 p1 p2)), .second, .unset, .unset, .unset, .unset, .unset] [(.long (26 : Int64)), (.long (v0_6 p1 p2))])
      refine Go.of (fun _ k => XS.lcmp X4.here hx rfl (hb hby at_51) rfl k) ?_
      show Go p e below W T4 (mkF m 52 #[.val (.int p1), .val (.int p2), .val (.long (v0_1 p1 p2)), .second, .val (.int (v0_5 p1 p2)), .val (.long (v0_6 p1 p2)), .second, .unset, .unset, .unset, .unset, .unset] [(.int (Jvm.Free.XT.cmpL (v0_6 p1 p2) (26 : Int64)))])
      by_cases c8 : (v0_6 p1 p2) < (26 : Int64)
      · refine Go.of (fun _ k => XS.ifNo X4.here hx rfl (hb hby at_52) rfl (Jvm.Free.XT.ll_ge_f c8) k) ?_
        show Go p e below W T4 (mkF m 55 #[.val (.int p1), .val (.int p2), .val (.long (v0_1 p1 p2)), .second, .val (.int (v0_5 p1 p2)), .val (.long (v0_6 p1 p2)), .second, .unset, .unset, .unset, .unset, .unset] [])
        refine Go.of (fun _ k => XS.iconst X4.here hx rfl (hb hby at_55) k) ?_
        show Go p e below W T4 (mkF m 56 #[.val (.int p1), .val (.int p2), .val (.long (v0_1 p1 p2)), .second, .val (.int (v0_5 p1 p2)), .val (.long (v0_6 p1 p2)), .second, .unset, .unset, .unset, .unset, .unset] [(.int (1 : Int32))])
        refine Go.of (fun _ k => XS.goto X4.here hx rfl (pc0 := 56) (pc' := 60) rfl (hb hby at_56) (by decide) (by decide) k) ?_
        have G9 := G9
        have q_v0_10 : (v0_10 p1 p2) = (1 : Int32) := by rw [v0_10, if_neg c7, if_pos c8]
        rw [q_v0_10] at G9
        exact G9 _ X4 e4
      · refine Go.of (fun _ k => XS.ifYes X4.here hx rfl (pc0 := 52) (pc' := 59) rfl (hb hby at_52) rfl (Jvm.Free.XT.ll_ge_t c8) (by decide) (by decide) k) ?_
        show Go p e below W T4 (mkF m 59 #[.val (.int p1), .val (.int p2), .val (.long (v0_1 p1 p2)), .second, .val (.int (v0_5 p1 p2)), .val (.long (v0_6 p1 p2)), .second, .unset, .unset, .unset, .unset, .unset] [])
        refine Go.of (fun _ k => XS.iconst X4.here hx rfl (hb hby at_59) k) ?_
        have G9 := G9
        have q_v0_10 : (v0_10 p1 p2) = (0 : Int32) := by rw [v0_10, if_neg c7, if_neg c8]
        rw [q_v0_10] at G9
        exact G9 _ X4 e4
  intro T9 X9 e9
  show Go p e below W T9 (mkF m 60 #[.val (.int p1), .val (.int p2), .val (.long (v0_1 p1 p2)), .second, .val (.int (v0_5 p1 p2)), .val (.long (v0_6 p1 p2)), .second, .unset, .unset, .unset, .unset, .unset] [(.int (v0_10 p1 p2))])
  refine Go.of (fun _ k => XS.istore X9.here hx rfl (hb hby at_60) rfl (l' := #[.val (.int p1), .val (.int p2), .val (.long (v0_1 p1 p2)), .second, .val (.int (v0_5 p1 p2)), .val (.long (v0_6 p1 p2)), .second, .val (.int (v0_10 p1 p2)), .unset, .unset, .unset, .unset]) rfl k) ?_
  show Go p e below W T9 (mkF m 62 #[.val (.int p1), .val (.int p2), .val (.long (v0_1 p1 p2)), .second, .val (.int (v0_5 p1 p2)), .val (.long (v0_6 p1 p2)), .second, .val (.int (v0_10 p1 p2)), .unset, .unset, .unset, .unset] [])
  refine Go.of (fun _ k => XS.iloadN X9.here hx rfl (hb hby at_62) rfl k) ?_
  show Go p e below W T9 (mkF m 63 #[.val (.int p1), .val (.int p2), .val (.long (v0_1 p1 p2)), .second, .val (.int (v0_5 p1 p2)), .val (.long (v0_6 p1 p2)), .second, .val (.int (v0_10 p1 p2)), .unset, .unset, .unset, .unset] [(.int p1)])
  refine Go.callP X9 hx hZ hown (hw _ (List.mem_of_getElem? (i := 2) rfl)) (hw _ (List.mem_of_getElem? (i := 3) rfl)) (hw _ (List.mem_of_getElem? (i := 4) rfl)) (hw _ (List.mem_of_getElem? (i := 5) rfl)) (by decide) e9 (rm1 l Z a0 hw [] p1 h0) (V := 0) (by decide) (by decide) rfl rfl (by decide) (by decide) (by rw [hml]; rfl) (argsL := [(.int p1)]) (rest := []) rfl (lenOf pd__I_Z rfl) rfl (Nat.le_of_ble_eq_true rfl) (hb hby at_63) ?_
  intro T11 X11 e11
  show Go p e below W T11 (mkF m 66 #[.val (.int p1), .val (.int p2), .val (.long (v0_1 p1 p2)), .second, .val (.int (v0_5 p1 p2)), .val (.long (v0_6 p1 p2)), .second, .val (.int (v0_10 p1 p2)), .unset, .unset, .unset, .unset] [(.int (f1 p1))])
  refine Go.of (fun _ k => XS.iload X11.here hx rfl (hb hby at_66) rfl k) ?_
  show Go p e below W T11 (mkF m 68 #[.val (.int p1), .val (.int p2), .val (.long (v0_1 p1 p2)), .second, .val (.int (v0_5 p1 p2)), .val (.long (v0_6 p1 p2)), .second, .val (.int (v0_10 p1 p2)), .unset, .unset, .unset, .unset] [(.int (v0_5 p1 p2)), (.int (f1 p1))])
  suffices G14 : ∀ T', Stand p l e room_1 s m #[(.int p1), (.int p2)] below meth c T' [] 0 0 → T'.heap = h0 → Go p e below W T' (mkF m 81 #[.val (.int p1), .val (.int p2), .val (.long (v0_1 p1 p2)), .second, .val (.int (v0_5 p1 p2)), .val (.long (v0_6 p1 p2)), .second, .val (.int (v0_10 p1 p2)), .unset, .unset, .unset, .unset] [(.int (v0_15 p1 p2)), (.int (f1 p1))]) by
    by_cases c12 : (v0_5 p1 p2) = (0 : Int32)
    · refine Go.of (fun _ k => XS.ifNo X11.here hx rfl (hb hby at_68) rfl (Jvm.Free.XT.i0_ne_f c12) k) ?_
      show Go p e below W T11 (mkF m 71 #[.val (.int p1), .val (.int p2), .val (.long (v0_1 p1 p2)), .second, .val (.int (v0_5 p1 p2)), .val (.long (v0_6 p1 p2)), .second, .val (.int (v0_10 p1 p2)), .unset, .unset, .unset, .unset] [(.int (f1 p1))])
      refine Go.of (fun _ k => XS.iload X11.here hx rfl (hb hby at_71) rfl k) ?_
      show Go p e below W T11 (mkF m 73 #[.val (.int p1), .val (.int p2), .val (.long (v0_1 p1 p2)), .second, .val (.int (v0_5 p1 p2)), .val (.long (v0_6 p1 p2)), .second, .val (.int (v0_10 p1 p2)), .unset, .unset, .unset, .unset] [(.int (v0_10 p1 p2)), (.int (f1 p1))])
      by_cases c13 : (v0_10 p1 p2) = (0 : Int32)
      · refine Go.of (fun _ k => XS.ifYes X11.here hx rfl (pc0 := 73) (pc' := 80) rfl (hb hby at_73) rfl (Jvm.Free.XT.i0_eq_t c13) (by decide) (by decide) k) ?_
        show Go p e below W T11 (mkF m 80 #[.val (.int p1), .val (.int p2), .val (.long (v0_1 p1 p2)), .second, .val (.int (v0_5 p1 p2)), .val (.long (v0_6 p1 p2)), .second, .val (.int (v0_10 p1 p2)), .unset, .unset, .unset, .unset] [(.int (f1 p1))])
        refine Go.of (fun _ k => XS.iconst X11.here hx rfl (hb hby at_80) k) ?_
        have G14 := G14
        have q_v0_15 : (v0_15 p1 p2) = (0 : Int32) := by rw [v0_15, if_pos c12, if_pos c13]
        rw [q_v0_15] at G14
        exact G14 _ X11 e11
      · refine Go.of (fun _ k => XS.ifNo X11.here hx rfl (hb hby at_73) rfl (Jvm.Free.XT.i0_eq_f c13) k) ?_
        show Go p e below W T11 (mkF m 76 #[.val (.int p1), .val (.int p2), .val (.long (v0_1 p1 p2)), .second, .val (.int (v0_5 p1 p2)), .val (.long (v0_6 p1 p2)), .second, .val (.int (v0_10 p1 p2)), .unset, .unset, .unset, .unset] [(.int (f1 p1))])
        refine Go.of (fun _ k => XS.iconst X11.here hx rfl (hb hby at_76) k) ?_
        show Go p e below W T11 (mkF m 77 #[.val (.int p1), .val (.int p2), .val (.long (v0_1 p1 p2)), .second, .val (.int (v0_5 p1 p2)), .val (.long (v0_6 p1 p2)), .second, .val (.int (v0_10 p1 p2)), .unset, .unset, .unset, .unset] [(.int (1 : Int32)), (.int (f1 p1))])
        refine Go.of (fun _ k => XS.goto X11.here hx rfl (pc0 := 77) (pc' := 81) rfl (hb hby at_77) (by decide) (by decide) k) ?_
        have G14 := G14
        have q_v0_15 : (v0_15 p1 p2) = (1 : Int32) := by rw [v0_15, if_pos c12, if_neg c13]
        rw [q_v0_15] at G14
        exact G14 _ X11 e11
    · refine Go.of (fun _ k => XS.ifYes X11.here hx rfl (pc0 := 68) (pc' := 76) rfl (hb hby at_68) rfl (Jvm.Free.XT.i0_ne_t c12) (by decide) (by decide) k) ?_
      show Go p e below W T11 (mkF m 76 #[.val (.int p1), .val (.int p2), .val (.long (v0_1 p1 p2)), .second, .val (.int (v0_5 p1 p2)), .val (.long (v0_6 p1 p2)), .second, .val (.int (v0_10 p1 p2)), .unset, .unset, .unset, .unset] [(.int (f1 p1))])
      refine Go.of (fun _ k => XS.iconst X11.here hx rfl (hb hby at_76) k) ?_
      show Go p e below W T11 (mkF m 77 #[.val (.int p1), .val (.int p2), .val (.long (v0_1 p1 p2)), .second, .val (.int (v0_5 p1 p2)), .val (.long (v0_6 p1 p2)), .second, .val (.int (v0_10 p1 p2)), .unset, .unset, .unset, .unset] [(.int (1 : Int32)), (.int (f1 p1))])
      refine Go.of (fun _ k => XS.goto X11.here hx rfl (pc0 := 77) (pc' := 81) rfl (hb hby at_77) (by decide) (by decide) k) ?_
      have G14 := G14
      have q_v0_15 : (v0_15 p1 p2) = (1 : Int32) := by rw [v0_15, if_neg c12]
      rw [q_v0_15] at G14
      exact G14 _ X11 e11
  intro T14 X14 e14
  show Go p e below W T14 (mkF m 81 #[.val (.int p1), .val (.int p2), .val (.long (v0_1 p1 p2)), .second, .val (.int (v0_5 p1 p2)), .val (.long (v0_6 p1 p2)), .second, .val (.int (v0_10 p1 p2)), .unset, .unset, .unset, .unset] [(.int (v0_15 p1 p2)), (.int (f1 p1))])
  suffices G17 : ∀ T', Stand p l e room_1 s m #[(.int p1), (.int p2)] below meth c T' [] 0 0 → T'.heap = h0 → Go p e below W T' (mkF m 89 #[.val (.int p1), .val (.int p2), .val (.long (v0_1 p1 p2)), .second, .val (.int (v0_5 p1 p2)), .val (.long (v0_6 p1 p2)), .second, .val (.int (v0_10 p1 p2)), .unset, .unset, .unset, .unset] [(.int (v0_18 p1 p2))]) by
    by_cases c16 : (f1 p1) = (v0_15 p1 p2)
    · refine Go.of (fun _ k => XS.icmpNo X14.here hx rfl (hb hby at_81) rfl (Jvm.Free.XT.ii_ne_f c16) k) ?_
      show Go p e below W T14 (mkF m 84 #[.val (.int p1), .val (.int p2), .val (.long (v0_1 p1 p2)), .second, .val (.int (v0_5 p1 p2)), .val (.long (v0_6 p1 p2)), .second, .val (.int (v0_10 p1 p2)), .unset, .unset, .unset, .unset] [])
      refine Go.of (fun _ k => XS.iconst X14.here hx rfl (hb hby at_84) k) ?_
      show Go p e below W T14 (mkF m 85 #[.val (.int p1), .val (.int p2), .val (.long (v0_1 p1 p2)), .second, .val (.int (v0_5 p1 p2)), .val (.long (v0_6 p1 p2)), .second, .val (.int (v0_10 p1 p2)), .unset, .unset, .unset, .unset] [(.int (1 : Int32))])
      refine Go.of (fun _ k => XS.goto X14.here hx rfl (pc0 := 85) (pc' := 89) rfl (hb hby at_85) (by decide) (by decide) k) ?_
      have G17 := G17
      have q_v0_18 : (v0_18 p1 p2) = (1 : Int32) := by rw [v0_18, if_pos c16]
      rw [q_v0_18] at G17
      exact G17 _ X14 e14
    · refine Go.of (fun _ k => XS.icmpYes X14.here hx rfl (pc0 := 81) (pc' := 88) rfl (hb hby at_81) rfl (Jvm.Free.XT.ii_ne_t c16) (by decide) (by decide) k) ?_
      show Go p e below W T14 (mkF m 88 #[.val (.int p1), .val (.int p2), .val (.long (v0_1 p1 p2)), .second, .val (.int (v0_5 p1 p2)), .val (.long (v0_6 p1 p2)), .second, .val (.int (v0_10 p1 p2)), .unset, .unset, .unset, .unset] [])
      refine Go.of (fun _ k => XS.iconst X14.here hx rfl (hb hby at_88) k) ?_
      have G17 := G17
      have q_v0_18 : (v0_18 p1 p2) = (0 : Int32) := by rw [v0_18, if_neg c16]
      rw [q_v0_18] at G17
      exact G17 _ X14 e14
  intro T17 X17 e17
  show Go p e below W T17 (mkF m 89 #[.val (.int p1), .val (.int p2), .val (.long (v0_1 p1 p2)), .second, .val (.int (v0_5 p1 p2)), .val (.long (v0_6 p1 p2)), .second, .val (.int (v0_10 p1 p2)), .unset, .unset, .unset, .unset] [(.int (v0_18 p1 p2))])
  refine Go.of (fun _ k => XS.istore X17.here hx rfl (hb hby at_89) rfl (l' := #[.val (.int p1), .val (.int p2), .val (.long (v0_1 p1 p2)), .second, .val (.int (v0_5 p1 p2)), .val (.long (v0_6 p1 p2)), .second, .val (.int (v0_10 p1 p2)), .val (.int (v0_18 p1 p2)), .unset, .unset, .unset]) rfl k) ?_
  show Go p e below W T17 (mkF m 91 #[.val (.int p1), .val (.int p2), .val (.long (v0_1 p1 p2)), .second, .val (.int (v0_5 p1 p2)), .val (.long (v0_6 p1 p2)), .second, .val (.int (v0_10 p1 p2)), .val (.int (v0_18 p1 p2)), .unset, .unset, .unset] [])
  refine Go.of (fun _ k => XS.bipush X17.here hx rfl (hb hby at_91) k) ?_
  show Go p e below W T17 (mkF m 93 #[.val (.int p1), .val (.int p2), .val (.long (v0_1 p1 p2)), .second, .val (.int (v0_5 p1 p2)), .val (.long (v0_6 p1 p2)), .second, .val (.int (v0_10 p1 p2)), .val (.int (v0_18 p1 p2)), .unset, .unset, .unset] [(.int (16 : Int32))])
  refine Go.newA X17 hx hZ (hw _ (List.mem_of_getElem? (i := 6) rfl)) rfl rfl rfl e17 (hb hby at_93) (by decide) (cap := 16) (by decide) (by decide) (by decide) (by decide) ?_
  intro T19 h19 b19 zq19 X19 e19 E19 E_b19 A_b19
  have g_b19 : n0 ≤ b19 := by rw [zq19]; exact Z0
  have s_b19 : h0.size ≤ b19 := by rw [zq19]; exact K.1
  have K := K.ext E19
  have Z0 := Nat.le_trans Z0 E19.1
  have A_b19 : AI Z h19 b19 .int 16 (w0_20 p1 p2) := A_b19
  show Go p e below W T19 (mkF m 95 #[.val (.int p1), .val (.int p2), .val (.long (v0_1 p1 p2)), .second, .val (.int (v0_5 p1 p2)), .val (.long (v0_6 p1 p2)), .second, .val (.int (v0_10 p1 p2)), .val (.int (v0_18 p1 p2)), .unset, .unset, .unset] [(.ref b19)])
  refine Go.of (fun _ k => XS.dup X19.here hx rfl (hb hby at_95) rfl rfl k) ?_
  show Go p e below W T19 (mkF m 96 #[.val (.int p1), .val (.int p2), .val (.long (v0_1 p1 p2)), .second, .val (.int (v0_5 p1 p2)), .val (.long (v0_6 p1 p2)), .second, .val (.int (v0_10 p1 p2)), .val (.int (v0_18 p1 p2)), .unset, .unset, .unset] [(.ref b19), (.ref b19)])
  refine Go.of (fun _ k => XS.iconst X19.here hx rfl (hb hby at_96) k) ?_
  show Go p e below W T19 (mkF m 97 #[.val (.int p1), .val (.int p2), .val (.long (v0_1 p1 p2)), .second, .val (.int (v0_5 p1 p2)), .val (.long (v0_6 p1 p2)), .second, .val (.int (v0_10 p1 p2)), .val (.int (v0_18 p1 p2)), .unset, .unset, .unset] [(.int (0 : Int32)), (.ref b19), (.ref b19)])
  refine Go.of (fun _ k => XS.bipush X19.here hx rfl (hb hby at_97) k) ?_
  show Go p e below W T19 (mkF m 99 #[.val (.int p1), .val (.int p2), .val (.long (v0_1 p1 p2)), .second, .val (.int (v0_5 p1 p2)), .val (.long (v0_6 p1 p2)), .second, .val (.int (v0_10 p1 p2)), .val (.int (v0_18 p1 p2)), .unset, .unset, .unset] [(.int (47 : Int32)), (.int (0 : Int32)), (.ref b19), (.ref b19)])
  refine Go.ist X19 hx hZ e19 N g_b19 A_b19 ⟨by decide, by decide⟩ (hb hby at_99) ?_
  intro T21 h21 L21 X21 N e21 W21 A_b19
  have K := K.wr W21 (Or.inr s_b19)
  have Z0 := Nat.le_trans Z0 (Keep.of_wr W21).1
  have A_b19 : AI Z h21 b19 .int 16 (w0_22 p1 p2) := A_b19
  show Go p e below W T21 (mkF m 100 #[.val (.int p1), .val (.int p2), .val (.long (v0_1 p1 p2)), .second, .val (.int (v0_5 p1 p2)), .val (.long (v0_6 p1 p2)), .second, .val (.int (v0_10 p1 p2)), .val (.int (v0_18 p1 p2)), .unset, .unset, .unset] [(.ref b19)])
  refine Go.of (fun _ k => XS.dup X21.here hx rfl (hb hby at_100) rfl rfl k) ?_
  show Go p e below W T21 (mkF m 101 #[.val (.int p1), .val (.int p2), .val (.long (v0_1 p1 p2)), .second, .val (.int (v0_5 p1 p2)), .val (.long (v0_6 p1 p2)), .second, .val (.int (v0_10 p1 p2)), .val (.int (v0_18 p1 p2)), .unset, .unset, .unset] [(.ref b19), (.ref b19)])
  refine Go.of (fun _ k => XS.iconst X21.here hx rfl (hb hby at_101) k) ?_
  show Go p e below W T21 (mkF m 102 #[.val (.int p1), .val (.int p2), .val (.long (v0_1 p1 p2)), .second, .val (.int (v0_5 p1 p2)), .val (.long (v0_6 p1 p2)), .second, .val (.int (v0_10 p1 p2)), .val (.int (v0_18 p1 p2)), .unset, .unset, .unset] [(.int (1 : Int32)), (.ref b19), (.ref b19)])
  refine Go.of (fun _ k => XS.bipush X21.here hx rfl (hb hby at_102) k) ?_
  show Go p e below W T21 (mkF m 104 #[.val (.int p1), .val (.int p2), .val (.long (v0_1 p1 p2)), .second, .val (.int (v0_5 p1 p2)), .val (.long (v0_6 p1 p2)), .second, .val (.int (v0_10 p1 p2)), .val (.int (v0_18 p1 p2)), .unset, .unset, .unset] [(.int (48 : Int32)), (.int (1 : Int32)), (.ref b19), (.ref b19)])
  refine Go.ist X21 hx hZ e21 N g_b19 A_b19 ⟨by decide, by decide⟩ (hb hby at_104) ?_
  intro T23 h23 L23 X23 N e23 W23 A_b19
  have K := K.wr W23 (Or.inr s_b19)
  have Z0 := Nat.le_trans Z0 (Keep.of_wr W23).1
  have A_b19 : AI Z h23 b19 .int 16 (w0_24 p1 p2) := A_b19
  show Go p e below W T23 (mkF m 105 #[.val (.int p1), .val (.int p2), .val (.long (v0_1 p1 p2)), .second, .val (.int (v0_5 p1 p2)), .val (.long (v0_6 p1 p2)), .second, .val (.int (v0_10 p1 p2)), .val (.int (v0_18 p1 p2)), .unset, .unset, .unset] [(.ref b19)])
  refine Go.of (fun _ k => XS.dup X23.here hx rfl (hb hby at_105) rfl rfl k) ?_
  show Go p e below W T23 (mkF m 106 #[.val (.int p1), .val (.int p2), .val (.long (v0_1 p1 p2)), .second, .val (.int (v0_5 p1 p2)), .val (.long (v0_6 p1 p2)), .second, .val (.int (v0_10 p1 p2)), .val (.int (v0_18 p1 p2)), .unset, .unset, .unset] [(.ref b19), (.ref b19)])
  refine Go.of (fun _ k => XS.iconst X23.here hx rfl (hb hby at_106) k) ?_
  show Go p e below W T23 (mkF m 107 #[.val (.int p1), .val (.int p2), .val (.long (v0_1 p1 p2)), .second, .val (.int (v0_5 p1 p2)), .val (.long (v0_6 p1 p2)), .second, .val (.int (v0_10 p1 p2)), .val (.int (v0_18 p1 p2)), .unset, .unset, .unset] [(.int (2 : Int32)), (.ref b19), (.ref b19)])
  refine Go.of (fun _ k => XS.bipush X23.here hx rfl (hb hby at_107) k) ?_
  show Go p e below W T23 (mkF m 109 #[.val (.int p1), .val (.int p2), .val (.long (v0_1 p1 p2)), .second, .val (.int (v0_5 p1 p2)), .val (.long (v0_6 p1 p2)), .second, .val (.int (v0_10 p1 p2)), .val (.int (v0_18 p1 p2)), .unset, .unset, .unset] [(.int (57 : Int32)), (.int (2 : Int32)), (.ref b19), (.ref b19)])
  refine Go.ist X23 hx hZ e23 N g_b19 A_b19 ⟨by decide, by decide⟩ (hb hby at_109) ?_
  intro T25 h25 L25 X25 N e25 W25 A_b19
  have K := K.wr W25 (Or.inr s_b19)
  have Z0 := Nat.le_trans Z0 (Keep.of_wr W25).1
  have A_b19 : AI Z h25 b19 .int 16 (w0_26 p1 p2) := A_b19
  show Go p e below W T25 (mkF m 110 #[.val (.int p1), .val (.int p2), .val (.long (v0_1 p1 p2)), .second, .val (.int (v0_5 p1 p2)), .val (.long (v0_6 p1 p2)), .second, .val (.int (v0_10 p1 p2)), .val (.int (v0_18 p1 p2)), .unset, .unset, .unset] [(.ref b19)])
  refine Go.of (fun _ k => XS.dup X25.here hx rfl (hb hby at_110) rfl rfl k) ?_
  show Go p e below W T25 (mkF m 111 #[.val (.int p1), .val (.int p2), .val (.long (v0_1 p1 p2)), .second, .val (.int (v0_5 p1 p2)), .val (.long (v0_6 p1 p2)), .second, .val (.int (v0_10 p1 p2)), .val (.int (v0_18 p1 p2)), .unset, .unset, .unset] [(.ref b19), (.ref b19)])
  refine Go.of (fun _ k => XS.iconst X25.here hx rfl (hb hby at_111) k) ?_
  show Go p e below W T25 (mkF m 112 #[.val (.int p1), .val (.int p2), .val (.long (v0_1 p1 p2)), .second, .val (.int (v0_5 p1 p2)), .val (.long (v0_6 p1 p2)), .second, .val (.int (v0_10 p1 p2)), .val (.int (v0_18 p1 p2)), .unset, .unset, .unset] [(.int (3 : Int32)), (.ref b19), (.ref b19)])
  refine Go.of (fun _ k => XS.bipush X25.here hx rfl (hb hby at_112) k) ?_
  show Go p e below W T25 (mkF m 114 #[.val (.int p1), .val (.int p2), .val (.long (v0_1 p1 p2)), .second, .val (.int (v0_5 p1 p2)), .val (.long (v0_6 p1 p2)), .second, .val (.int (v0_10 p1 p2)), .val (.int (v0_18 p1 p2)), .unset, .unset, .unset] [(.int (58 : Int32)), (.int (3 : Int32)), (.ref b19), (.ref b19)])
  refine Go.ist X25 hx hZ e25 N g_b19 A_b19 ⟨by decide, by decide⟩ (hb hby at_114) ?_
  intro T27 h27 L27 X27 N e27 W27 A_b19
  have K := K.wr W27 (Or.inr s_b19)
  have Z0 := Nat.le_trans Z0 (Keep.of_wr W27).1
  have A_b19 : AI Z h27 b19 .int 16 (w0_28 p1 p2) := A_b19
  show Go p e below W T27 (mkF m 115 #[.val (.int p1), .val (.int p2), .val (.long (v0_1 p1 p2)), .second, .val (.int (v0_5 p1 p2)), .val (.long (v0_6 p1 p2)), .second, .val (.int (v0_10 p1 p2)), .val (.int (v0_18 p1 p2)), .unset, .unset, .unset] [(.ref b19)])
  refine Go.of (fun _ k => XS.dup X27.here hx rfl (hb hby at_115) rfl rfl k) ?_
  show Go p e below W T27 (mkF m 116 #[.val (.int p1), .val (.int p2), .val (.long (v0_1 p1 p2)), .second, .val (.int (v0_5 p1 p2)), .val (.long (v0_6 p1 p2)), .second, .val (.int (v0_10 p1 p2)), .val (.int (v0_18 p1 p2)), .unset, .unset, .unset] [(.ref b19), (.ref b19)])
  refine Go.of (fun _ k => XS.iconst X27.here hx rfl (hb hby at_116) k) ?_
  show Go p e below W T27 (mkF m 117 #[.val (.int p1), .val (.int p2), .val (.long (v0_1 p1 p2)), .second, .val (.int (v0_5 p1 p2)), .val (.long (v0_6 p1 p2)), .second, .val (.int (v0_10 p1 p2)), .val (.int (v0_18 p1 p2)), .unset, .unset, .unset] [(.int (4 : Int32)), (.ref b19), (.ref b19)])
  refine Go.of (fun _ k => XS.bipush X27.here hx rfl (hb hby at_117) k) ?_
  show Go p e below W T27 (mkF m 119 #[.val (.int p1), .val (.int p2), .val (.long (v0_1 p1 p2)), .second, .val (.int (v0_5 p1 p2)), .val (.long (v0_6 p1 p2)), .second, .val (.int (v0_10 p1 p2)), .val (.int (v0_18 p1 p2)), .unset, .unset, .unset] [(.int (64 : Int32)), (.int (4 : Int32)), (.ref b19), (.ref b19)])
  refine Go.ist X27 hx hZ e27 N g_b19 A_b19 ⟨by decide, by decide⟩ (hb hby at_119) ?_
  intro T29 h29 L29 X29 N e29 W29 A_b19
  have K := K.wr W29 (Or.inr s_b19)
  have Z0 := Nat.le_trans Z0 (Keep.of_wr W29).1
  have A_b19 : AI Z h29 b19 .int 16 (w0_30 p1 p2) := A_b19
  show Go p e below W T29 (mkF m 120 #[.val (.int p1), .val (.int p2), .val (.long (v0_1 p1 p2)), .second, .val (.int (v0_5 p1 p2)), .val (.long (v0_6 p1 p2)), .second, .val (.int (v0_10 p1 p2)), .val (.int (v0_18 p1 p2)), .unset, .unset, .unset] [(.ref b19)])
  refine Go.of (fun _ k => XS.dup X29.here hx rfl (hb hby at_120) rfl rfl k) ?_
  show Go p e below W T29 (mkF m 121 #[.val (.int p1), .val (.int p2), .val (.long (v0_1 p1 p2)), .second, .val (.int (v0_5 p1 p2)), .val (.long (v0_6 p1 p2)), .second, .val (.int (v0_10 p1 p2)), .val (.int (v0_18 p1 p2)), .unset, .unset, .unset] [(.ref b19), (.ref b19)])
  refine Go.of (fun _ k => XS.iconst X29.here hx rfl (hb hby at_121) k) ?_
  show Go p e below W T29 (mkF m 122 #[.val (.int p1), .val (.int p2), .val (.long (v0_1 p1 p2)), .second, .val (.int (v0_5 p1 p2)), .val (.long (v0_6 p1 p2)), .second, .val (.int (v0_10 p1 p2)), .val (.int (v0_18 p1 p2)), .unset, .unset, .unset] [(.int (5 : Int32)), (.ref b19), (.ref b19)])
  refine Go.of (fun _ k => XS.bipush X29.here hx rfl (hb hby at_122) k) ?_
  show Go p e below W T29 (mkF m 124 #[.val (.int p1), .val (.int p2), .val (.long (v0_1 p1 p2)), .second, .val (.int (v0_5 p1 p2)), .val (.long (v0_6 p1 p2)), .second, .val (.int (v0_10 p1 p2)), .val (.int (v0_18 p1 p2)), .unset, .unset, .unset] [(.int (65 : Int32)), (.int (5 : Int32)), (.ref b19), (.ref b19)])
  refine Go.ist X29 hx hZ e29 N g_b19 A_b19 ⟨by decide, by decide⟩ (hb hby at_124) ?_
  intro T31 h31 L31 X31 N e31 W31 A_b19
  have K := K.wr W31 (Or.inr s_b19)
  have Z0 := Nat.le_trans Z0 (Keep.of_wr W31).1
  have A_b19 : AI Z h31 b19 .int 16 (w0_32 p1 p2) := A_b19
  show Go p e below W T31 (mkF m 125 #[.val (.int p1), .val (.int p2), .val (.long (v0_1 p1 p2)), .second, .val (.int (v0_5 p1 p2)), .val (.long (v0_6 p1 p2)), .second, .val (.int (v0_10 p1 p2)), .val (.int (v0_18 p1 p2)), .unset, .unset, .unset] [(.ref b19)])
  refine Go.of (fun _ k => XS.dup X31.here hx rfl (hb hby at_125) rfl rfl k) ?_
  show Go p e below W T31 (mkF m 126 #[.val (.int p1), .val (.int p2), .val (.long (v0_1 p1 p2)), .second, .val (.int (v0_5 p1 p2)), .val (.long (v0_6 p1 p2)), .second, .val (.int (v0_10 p1 p2)), .val (.int (v0_18 p1 p2)), .unset, .unset, .unset] [(.ref b19), (.ref b19)])
  refine Go.of (fun _ k => XS.bipush X31.here hx rfl (hb hby at_126) k) ?_
  show Go p e below W T31 (mkF m 128 #[.val (.int p1), .val (.int p2), .val (.long (v0_1 p1 p2)), .second, .val (.int (v0_5 p1 p2)), .val (.long (v0_6 p1 p2)), .second, .val (.int (v0_10 p1 p2)), .val (.int (v0_18 p1 p2)), .unset, .unset, .unset] [(.int (6 : Int32)), (.ref b19), (.ref b19)])
  refine Go.of (fun _ k => XS.bipush X31.here hx rfl (hb hby at_128) k) ?_
  show Go p e below W T31 (mkF m 130 #[.val (.int p1), .val (.int p2), .val (.long (v0_1 p1 p2)), .second, .val (.int (v0_5 p1 p2)), .val (.long (v0_6 p1 p2)), .second, .val (.int (v0_10 p1 p2)), .val (.int (v0_18 p1 p2)), .unset, .unset, .unset] [(.int (90 : Int32)), (.int (6 : Int32)), (.ref b19), (.ref b19)])
  refine Go.ist X31 hx hZ e31 N g_b19 A_b19 ⟨by decide, by decide⟩ (hb hby at_130) ?_
  intro T33 h33 L33 X33 N e33 W33 A_b19
  have K := K.wr W33 (Or.inr s_b19)
  have Z0 := Nat.le_trans Z0 (Keep.of_wr W33).1
  have A_b19 : AI Z h33 b19 .int 16 (w0_34 p1 p2) := A_b19
  show Go p e below W T33 (mkF m 131 #[.val (.int p1), .val (.int p2), .val (.long (v0_1 p1 p2)), .second, .val (.int (v0_5 p1 p2)), .val (.long (v0_6 p1 p2)), .second, .val (.int (v0_10 p1 p2)), .val (.int (v0_18 p1 p2)), .unset, .unset, .unset] [(.ref b19)])
  refine Go.of (fun _ k => XS.dup X33.here hx rfl (hb hby at_131) rfl rfl k) ?_
  show Go p e below W T33 (mkF m 132 #[.val (.int p1), .val (.int p2), .val (.long (v0_1 p1 p2)), .second, .val (.int (v0_5 p1 p2)), .val (.long (v0_6 p1 p2)), .second, .val (.int (v0_10 p1 p2)), .val (.int (v0_18 p1 p2)), .unset, .unset, .unset] [(.ref b19), (.ref b19)])
  refine Go.of (fun _ k => XS.bipush X33.here hx rfl (hb hby at_132) k) ?_
  show Go p e below W T33 (mkF m 134 #[.val (.int p1), .val (.int p2), .val (.long (v0_1 p1 p2)), .second, .val (.int (v0_5 p1 p2)), .val (.long (v0_6 p1 p2)), .second, .val (.int (v0_10 p1 p2)), .val (.int (v0_18 p1 p2)), .unset, .unset, .unset] [(.int (7 : Int32)), (.ref b19), (.ref b19)])
  refine Go.of (fun _ k => XS.bipush X33.here hx rfl (hb hby at_134) k) ?_
  show Go p e below W T33 (mkF m 136 #[.val (.int p1), .val (.int p2), .val (.long (v0_1 p1 p2)), .second, .val (.int (v0_5 p1 p2)), .val (.long (v0_6 p1 p2)), .second, .val (.int (v0_10 p1 p2)), .val (.int (v0_18 p1 p2)), .unset, .unset, .unset] [(.int (91 : Int32)), (.int (7 : Int32)), (.ref b19), (.ref b19)])
  refine Go.ist X33 hx hZ e33 N g_b19 A_b19 ⟨by decide, by decide⟩ (hb hby at_136) ?_
  intro T35 h35 L35 X35 N e35 W35 A_b19
  have K := K.wr W35 (Or.inr s_b19)
  have Z0 := Nat.le_trans Z0 (Keep.of_wr W35).1
  have A_b19 : AI Z h35 b19 .int 16 (w0_36 p1 p2) := A_b19
  show Go p e below W T35 (mkF m 137 #[.val (.int p1), .val (.int p2), .val (.long (v0_1 p1 p2)), .second, .val (.int (v0_5 p1 p2)), .val (.long (v0_6 p1 p2)), .second, .val (.int (v0_10 p1 p2)), .val (.int (v0_18 p1 p2)), .unset, .unset, .unset] [(.ref b19)])
  refine Go.of (fun _ k => XS.dup X35.here hx rfl (hb hby at_137) rfl rfl k) ?_
  show Go p e below W T35 (mkF m 138 #[.val (.int p1), .val (.int p2), .val (.long (v0_1 p1 p2)), .second, .val (.int (v0_5 p1 p2)), .val (.long (v0_6 p1 p2)), .second, .val (.int (v0_10 p1 p2)), .val (.int (v0_18 p1 p2)), .unset, .unset, .unset] [(.ref b19), (.ref b19)])
  refine Go.of (fun _ k => XS.bipush X35.here hx rfl (hb hby at_138) k) ?_
  show Go p e below W T35 (mkF m 140 #[.val (.int p1), .val (.int p2), .val (.long (v0_1 p1 p2)), .second, .val (.int (v0_5 p1 p2)), .val (.long (v0_6 p1 p2)), .second, .val (.int (v0_10 p1 p2)), .val (.int (v0_18 p1 p2)), .unset, .unset, .unset] [(.int (8 : Int32)), (.ref b19), (.ref b19)])
  refine Go.of (fun _ k => XS.bipush X35.here hx rfl (hb hby at_140) k) ?_
  show Go p e below W T35 (mkF m 142 #[.val (.int p1), .val (.int p2), .val (.long (v0_1 p1 p2)), .second, .val (.int (v0_5 p1 p2)), .val (.long (v0_6 p1 p2)), .second, .val (.int (v0_10 p1 p2)), .val (.int (v0_18 p1 p2)), .unset, .unset, .unset] [(.int (96 : Int32)), (.int (8 : Int32)), (.ref b19), (.ref b19)])
  refine Go.ist X35 hx hZ e35 N g_b19 A_b19 ⟨by decide, by decide⟩ (hb hby at_142) ?_
  intro T37 h37 L37 X37 N e37 W37 A_b19
  have K := K.wr W37 (Or.inr s_b19)
  have Z0 := Nat.le_trans Z0 (Keep.of_wr W37).1
  have A_b19 : AI Z h37 b19 .int 16 (w0_38 p1 p2) := A_b19
  show Go p e below W T37 (mkF m 143 #[.val (.int p1), .val (.int p2), .val (.long (v0_1 p1 p2)), .second, .val (.int (v0_5 p1 p2)), .val (.long (v0_6 p1 p2)), .second, .val (.int (v0_10 p1 p2)), .val (.int (v0_18 p1 p2)), .unset, .unset, .unset] [(.ref b19)])
  refine Go.of (fun _ k => XS.dup X37.here hx rfl (hb hby at_143) rfl rfl k) ?_
  show Go p e below W T37 (mkF m 144 #[.val (.int p1), .val (.int p2), .val (.long (v0_1 p1 p2)), .second, .val (.int (v0_5 p1 p2)), .val (.long (v0_6 p1 p2)), .second, .val (.int (v0_10 p1 p2)), .val (.int (v0_18 p1 p2)), .unset, .unset, .unset] [(.ref b19), (.ref b19)])
  refine Go.of (fun _ k => XS.bipush X37.here hx rfl (hb hby at_144) k) ?_
  show Go p e below W T37 (mkF m 146 #[.val (.int p1), .val (.int p2), .val (.long (v0_1 p1 p2)), .second, .val (.int (v0_5 p1 p2)), .val (.long (v0_6 p1 p2)), .second, .val (.int (v0_10 p1 p2)), .val (.int (v0_18 p1 p2)), .unset, .unset, .unset] [(.int (9 : Int32)), (.ref b19), (.ref b19)])
  refine Go.of (fun _ k => XS.bipush X37.here hx rfl (hb hby at_146) k) ?_
  show Go p e below W T37 (mkF m 148 #[.val (.int p1), .val (.int p2), .val (.long (v0_1 p1 p2)), .second, .val (.int (v0_5 p1 p2)), .val (.long (v0_6 p1 p2)), .second, .val (.int (v0_10 p1 p2)), .val (.int (v0_18 p1 p2)), .unset, .unset, .unset] [(.int (97 : Int32)), (.int (9 : Int32)), (.ref b19), (.ref b19)])
  refine Go.ist X37 hx hZ e37 N g_b19 A_b19 ⟨by decide, by decide⟩ (hb hby at_148) ?_
  intro T39 h39 L39 X39 N e39 W39 A_b19
  have K := K.wr W39 (Or.inr s_b19)
  have Z0 := Nat.le_trans Z0 (Keep.of_wr W39).1
  have A_b19 : AI Z h39 b19 .int 16 (w0_40 p1 p2) := A_b19
  show Go p e below W T39 (mkF m 149 #[.val (.int p1), .val (.int p2), .val (.long (v0_1 p1 p2)), .second, .val (.int (v0_5 p1 p2)), .val (.long (v0_6 p1 p2)), .second, .val (.int (v0_10 p1 p2)), .val (.int (v0_18 p1 p2)), .unset, .unset, .unset] [(.ref b19)])
  refine Go.of (fun _ k => XS.dup X39.here hx rfl (hb hby at_149) rfl rfl k) ?_
  show Go p e below W T39 (mkF m 150 #[.val (.int p1), .val (.int p2), .val (.long (v0_1 p1 p2)), .second, .val (.int (v0_5 p1 p2)), .val (.long (v0_6 p1 p2)), .second, .val (.int (v0_10 p1 p2)), .val (.int (v0_18 p1 p2)), .unset, .unset, .unset] [(.ref b19), (.ref b19)])
  refine Go.of (fun _ k => XS.bipush X39.here hx rfl (hb hby at_150) k) ?_
  show Go p e below W T39 (mkF m 152 #[.val (.int p1), .val (.int p2), .val (.long (v0_1 p1 p2)), .second, .val (.int (v0_5 p1 p2)), .val (.long (v0_6 p1 p2)), .second, .val (.int (v0_10 p1 p2)), .val (.int (v0_18 p1 p2)), .unset, .unset, .unset] [(.int (10 : Int32)), (.ref b19), (.ref b19)])
  refine Go.of (fun _ k => XS.bipush X39.here hx rfl (hb hby at_152) k) ?_
  show Go p e below W T39 (mkF m 154 #[.val (.int p1), .val (.int p2), .val (.long (v0_1 p1 p2)), .second, .val (.int (v0_5 p1 p2)), .val (.long (v0_6 p1 p2)), .second, .val (.int (v0_10 p1 p2)), .val (.int (v0_18 p1 p2)), .unset, .unset, .unset] [(.int (122 : Int32)), (.int (10 : Int32)), (.ref b19), (.ref b19)])
  refine Go.ist X39 hx hZ e39 N g_b19 A_b19 ⟨by decide, by decide⟩ (hb hby at_154) ?_
  intro T41 h41 L41 X41 N e41 W41 A_b19
  have K := K.wr W41 (Or.inr s_b19)
  have Z0 := Nat.le_trans Z0 (Keep.of_wr W41).1
  have A_b19 : AI Z h41 b19 .int 16 (w0_42 p1 p2) := A_b19
  show Go p e below W T41 (mkF m 155 #[.val (.int p1), .val (.int p2), .val (.long (v0_1 p1 p2)), .second, .val (.int (v0_5 p1 p2)), .val (.long (v0_6 p1 p2)), .second, .val (.int (v0_10 p1 p2)), .val (.int (v0_18 p1 p2)), .unset, .unset, .unset] [(.ref b19)])
  refine Go.of (fun _ k => XS.dup X41.here hx rfl (hb hby at_155) rfl rfl k) ?_
  show Go p e below W T41 (mkF m 156 #[.val (.int p1), .val (.int p2), .val (.long (v0_1 p1 p2)), .second, .val (.int (v0_5 p1 p2)), .val (.long (v0_6 p1 p2)), .second, .val (.int (v0_10 p1 p2)), .val (.int (v0_18 p1 p2)), .unset, .unset, .unset] [(.ref b19), (.ref b19)])
  refine Go.of (fun _ k => XS.bipush X41.here hx rfl (hb hby at_156) k) ?_
  show Go p e below W T41 (mkF m 158 #[.val (.int p1), .val (.int p2), .val (.long (v0_1 p1 p2)), .second, .val (.int (v0_5 p1 p2)), .val (.long (v0_6 p1 p2)), .second, .val (.int (v0_10 p1 p2)), .val (.int (v0_18 p1 p2)), .unset, .unset, .unset] [(.int (11 : Int32)), (.ref b19), (.ref b19)])
  refine Go.of (fun _ k => XS.bipush X41.here hx rfl (hb hby at_158) k) ?_
  show Go p e below W T41 (mkF m 160 #[.val (.int p1), .val (.int p2), .val (.long (v0_1 p1 p2)), .second, .val (.int (v0_5 p1 p2)), .val (.long (v0_6 p1 p2)), .second, .val (.int (v0_10 p1 p2)), .val (.int (v0_18 p1 p2)), .unset, .unset, .unset] [(.int (123 : Int32)), (.int (11 : Int32)), (.ref b19), (.ref b19)])
  refine Go.ist X41 hx hZ e41 N g_b19 A_b19 ⟨by decide, by decide⟩ (hb hby at_160) ?_
  intro T43 h43 L43 X43 N e43 W43 A_b19
  have K := K.wr W43 (Or.inr s_b19)
  have Z0 := Nat.le_trans Z0 (Keep.of_wr W43).1
  have A_b19 : AI Z h43 b19 .int 16 (w0_44 p1 p2) := A_b19
  show Go p e below W T43 (mkF m 161 #[.val (.int p1), .val (.int p2), .val (.long (v0_1 p1 p2)), .second, .val (.int (v0_5 p1 p2)), .val (.long (v0_6 p1 p2)), .second, .val (.int (v0_10 p1 p2)), .val (.int (v0_18 p1 p2)), .unset, .unset, .unset] [(.ref b19)])
  refine Go.of (fun _ k => XS.dup X43.here hx rfl (hb hby at_161) rfl rfl k) ?_
  show Go p e below W T43 (mkF m 162 #[.val (.int p1), .val (.int p2), .val (.long (v0_1 p1 p2)), .second, .val (.int (v0_5 p1 p2)), .val (.long (v0_6 p1 p2)), .second, .val (.int (v0_10 p1 p2)), .val (.int (v0_18 p1 p2)), .unset, .unset, .unset] [(.ref b19), (.ref b19)])
  refine Go.of (fun _ k => XS.bipush X43.here hx rfl (hb hby at_162) k) ?_
  show Go p e below W T43 (mkF m 164 #[.val (.int p1), .val (.int p2), .val (.long (v0_1 p1 p2)), .second, .val (.int (v0_5 p1 p2)), .val (.long (v0_6 p1 p2)), .second, .val (.int (v0_10 p1 p2)), .val (.int (v0_18 p1 p2)), .unset, .unset, .unset] [(.int (12 : Int32)), (.ref b19), (.ref b19)])
  refine Go.of (fun _ k => XS.iconst X43.here hx rfl (hb hby at_164) k) ?_
  show Go p e below W T43 (mkF m 165 #[.val (.int p1), .val (.int p2), .val (.long (v0_1 p1 p2)), .second, .val (.int (v0_5 p1 p2)), .val (.long (v0_6 p1 p2)), .second, .val (.int (v0_10 p1 p2)), .val (.int (v0_18 p1 p2)), .unset, .unset, .unset] [(.int (0 : Int32)), (.int (12 : Int32)), (.ref b19), (.ref b19)])
  refine Go.ist X43 hx hZ e43 N g_b19 A_b19 ⟨by decide, by decide⟩ (hb hby at_165) ?_
  intro T45 h45 L45 X45 N e45 W45 A_b19
  have K := K.wr W45 (Or.inr s_b19)
  have Z0 := Nat.le_trans Z0 (Keep.of_wr W45).1
  have A_b19 : AI Z h45 b19 .int 16 (w0_46 p1 p2) := A_b19
  show Go p e below W T45 (mkF m 166 #[.val (.int p1), .val (.int p2), .val (.long (v0_1 p1 p2)), .second, .val (.int (v0_5 p1 p2)), .val (.long (v0_6 p1 p2)), .second, .val (.int (v0_10 p1 p2)), .val (.int (v0_18 p1 p2)), .unset, .unset, .unset] [(.ref b19)])
  refine Go.of (fun _ k => XS.dup X45.here hx rfl (hb hby at_166) rfl rfl k) ?_
  show Go p e below W T45 (mkF m 167 #[.val (.int p1), .val (.int p2), .val (.long (v0_1 p1 p2)), .second, .val (.int (v0_5 p1 p2)), .val (.long (v0_6 p1 p2)), .second, .val (.int (v0_10 p1 p2)), .val (.int (v0_18 p1 p2)), .unset, .unset, .unset] [(.ref b19), (.ref b19)])
  refine Go.of (fun _ k => XS.bipush X45.here hx rfl (hb hby at_167) k) ?_
  show Go p e below W T45 (mkF m 169 #[.val (.int p1), .val (.int p2), .val (.long (v0_1 p1 p2)), .second, .val (.int (v0_5 p1 p2)), .val (.long (v0_6 p1 p2)), .second, .val (.int (v0_10 p1 p2)), .val (.int (v0_18 p1 p2)), .unset, .unset, .unset] [(.int (13 : Int32)), (.ref b19), (.ref b19)])
  refine Go.of (fun _ k => XS.sipush X45.here hx rfl (hb hby at_169) k) ?_
  show Go p e below W T45 (mkF m 172 #[.val (.int p1), .val (.int p2), .val (.long (v0_1 p1 p2)), .second, .val (.int (v0_5 p1 p2)), .val (.long (v0_6 p1 p2)), .second, .val (.int (v0_10 p1 p2)), .val (.int (v0_18 p1 p2)), .unset, .unset, .unset] [(.int (255 : Int32)), (.int (13 : Int32)), (.ref b19), (.ref b19)])
  refine Go.ist X45 hx hZ e45 N g_b19 A_b19 ⟨by decide, by decide⟩ (hb hby at_172) ?_
  intro T47 h47 L47 X47 N e47 W47 A_b19
  have K := K.wr W47 (Or.inr s_b19)
  have Z0 := Nat.le_trans Z0 (Keep.of_wr W47).1
  have A_b19 : AI Z h47 b19 .int 16 (w0_48 p1 p2) := A_b19
  show Go p e below W T47 (mkF m 173 #[.val (.int p1), .val (.int p2), .val (.long (v0_1 p1 p2)), .second, .val (.int (v0_5 p1 p2)), .val (.long (v0_6 p1 p2)), .second, .val (.int (v0_10 p1 p2)), .val (.int (v0_18 p1 p2)), .unset, .unset, .unset] [(.ref b19)])
  refine Go.of (fun _ k => XS.dup X47.here hx rfl (hb hby at_173) rfl rfl k) ?_
  show Go p e below W T47 (mkF m 174 #[.val (.int p1), .val (.int p2), .val (.long (v0_1 p1 p2)), .second, .val (.int (v0_5 p1 p2)), .val (.long (v0_6 p1 p2)), .second, .val (.int (v0_10 p1 p2)), .val (.int (v0_18 p1 p2)), .unset, .unset, .unset] [(.ref b19), (.ref b19)])
  refine Go.of (fun _ k => XS.bipush X47.here hx rfl (hb hby at_174) k) ?_
  show Go p e below W T47 (mkF m 176 #[.val (.int p1), .val (.int p2), .val (.long (v0_1 p1 p2)), .second, .val (.int (v0_5 p1 p2)), .val (.long (v0_6 p1 p2)), .second, .val (.int (v0_10 p1 p2)), .val (.int (v0_18 p1 p2)), .unset, .unset, .unset] [(.int (14 : Int32)), (.ref b19), (.ref b19)])
  refine Go.of (fun _ k => XS.iconst X47.here hx rfl (hb hby at_176) k) ?_
  show Go p e below W T47 (mkF m 177 #[.val (.int p1), .val (.int p2), .val (.long (v0_1 p1 p2)), .second, .val (.int (v0_5 p1 p2)), .val (.long (v0_6 p1 p2)), .second, .val (.int (v0_10 p1 p2)), .val (.int (v0_18 p1 p2)), .unset, .unset, .unset] [(.int (-1 : Int32)), (.int (14 : Int32)), (.ref b19), (.ref b19)])
  refine Go.ist X47 hx hZ e47 N g_b19 A_b19 ⟨by decide, by decide⟩ (hb hby at_177) ?_
  intro T49 h49 L49 X49 N e49 W49 A_b19
  have K := K.wr W49 (Or.inr s_b19)
  have Z0 := Nat.le_trans Z0 (Keep.of_wr W49).1
  have A_b19 : AI Z h49 b19 .int 16 (w0_50 p1 p2) := A_b19
  show Go p e below W T49 (mkF m 178 #[.val (.int p1), .val (.int p2), .val (.long (v0_1 p1 p2)), .second, .val (.int (v0_5 p1 p2)), .val (.long (v0_6 p1 p2)), .second, .val (.int (v0_10 p1 p2)), .val (.int (v0_18 p1 p2)), .unset, .unset, .unset] [(.ref b19)])
  refine Go.of (fun _ k => XS.dup X49.here hx rfl (hb hby at_178) rfl rfl k) ?_
  show Go p e below W T49 (mkF m 179 #[.val (.int p1), .val (.int p2), .val (.long (v0_1 p1 p2)), .second, .val (.int (v0_5 p1 p2)), .val (.long (v0_6 p1 p2)), .second, .val (.int (v0_10 p1 p2)), .val (.int (v0_18 p1 p2)), .unset, .unset, .unset] [(.ref b19), (.ref b19)])
  refine Go.of (fun _ k => XS.bipush X49.here hx rfl (hb hby at_179) k) ?_
  show Go p e below W T49 (mkF m 181 #[.val (.int p1), .val (.int p2), .val (.long (v0_1 p1 p2)), .second, .val (.int (v0_5 p1 p2)), .val (.long (v0_6 p1 p2)), .second, .val (.int (v0_10 p1 p2)), .val (.int (v0_18 p1 p2)), .unset, .unset, .unset] [(.int (15 : Int32)), (.ref b19), (.ref b19)])
  refine Go.of (fun _ k => X49.ldcI hx hown (mvT hZ (hw _ (List.mem_of_getElem? (i := 7) rfl))) rfl (hb hby at_181) k) ?_
  show Go p e below W T49 (mkF m 183 #[.val (.int p1), .val (.int p2), .val (.long (v0_1 p1 p2)), .second, .val (.int (v0_5 p1 p2)), .val (.long (v0_6 p1 p2)), .second, .val (.int (v0_10 p1 p2)), .val (.int (v0_18 p1 p2)), .unset, .unset, .unset] [(.int (-2147483648 : Int32)), (.int (15 : Int32)), (.ref b19), (.ref b19)])
  refine Go.ist X49 hx hZ e49 N g_b19 A_b19 ⟨by decide, by decide⟩ (hb hby at_183) ?_
  intro T51 h51 L51 X51 N e51 W51 A_b19
  have K := K.wr W51 (Or.inr s_b19)
  have Z0 := Nat.le_trans Z0 (Keep.of_wr W51).1
  have A_b19 : AI Z h51 b19 .int 16 (w0_52 p1 p2) := A_b19
  show Go p e below W T51 (mkF m 184 #[.val (.int p1), .val (.int p2), .val (.long (v0_1 p1 p2)), .second, .val (.int (v0_5 p1 p2)), .val (.long (v0_6 p1 p2)), .second, .val (.int (v0_10 p1 p2)), .val (.int (v0_18 p1 p2)), .unset, .unset, .unset] [(.ref b19)])
  refine Go.of (fun _ k => XS.astore X51.here hx rfl (hb hby at_184) rfl rfl (l' := #[.val (.int p1), .val (.int p2), .val (.long (v0_1 p1 p2)), .second, .val (.int (v0_5 p1 p2)), .val (.long (v0_6 p1 p2)), .second, .val (.int (v0_10 p1 p2)), .val (.int (v0_18 p1 p2)), .val (.ref b19), .unset, .unset]) rfl k) ?_
  show Go p e below W T51 (mkF m 186 #[.val (.int p1), .val (.int p2), .val (.long (v0_1 p1 p2)), .second, .val (.int (v0_5 p1 p2)), .val (.long (v0_6 p1 p2)), .second, .val (.int (v0_10 p1 p2)), .val (.int (v0_18 p1 p2)), .val (.ref b19), .unset, .unset] [])
  refine Go.of (fun _ k => XS.bipush X51.here hx rfl (hb hby at_186) k) ?_
  show Go p e below W T51 (mkF m 188 #[.val (.int p1), .val (.int p2), .val (.long (v0_1 p1 p2)), .second, .val (.int (v0_5 p1 p2)), .val (.long (v0_6 p1 p2)), .second, .val (.int (v0_10 p1 p2)), .val (.int (v0_18 p1 p2)), .val (.ref b19), .unset, .unset] [(.int (16 : Int32))])
  refine Go.newA X51 hx hZ (hw _ (List.mem_of_getElem? (i := 8) rfl)) rfl rfl rfl e51 (hb hby at_188) (by decide) (cap := 16) (by decide) (by decide) (by decide) (by decide) ?_
  intro T53 h53 b53 zq53 X53 e53 E53 E_b53 A_b53
  have ne_b19_b53 : b19 ≠ b53 := by rw [zq53]; exact Nat.ne_of_lt A_b19.lt
  have g_b53 : n0 ≤ b53 := by rw [zq53]; exact Z0
  have s_b53 : h0.size ≤ b53 := by rw [zq53]; exact K.1
  have A_b19 := A_b19.ext E53
  have K := K.ext E53
  have Z0 := Nat.le_trans Z0 E53.1
  have A_b53 : AI Z h53 b53 .boolean 16 (w0_54 p1 p2) := A_b53
  show Go p e below W T53 (mkF m 190 #[.val (.int p1), .val (.int p2), .val (.long (v0_1 p1 p2)), .second, .val (.int (v0_5 p1 p2)), .val (.long (v0_6 p1 p2)), .second, .val (.int (v0_10 p1 p2)), .val (.int (v0_18 p1 p2)), .val (.ref b19), .unset, .unset] [(.ref b53)])
  refine Go.of (fun _ k => XS.dup X53.here hx rfl (hb hby at_190) rfl rfl k) ?_
  show Go p e below W T53 (mkF m 191 #[.val (.int p1), .val (.int p2), .val (.long (v0_1 p1 p2)), .second, .val (.int (v0_5 p1 p2)), .val (.long (v0_6 p1 p2)), .second, .val (.int (v0_10 p1 p2)), .val (.int (v0_18 p1 p2)), .val (.ref b19), .unset, .unset] [(.ref b53), (.ref b53)])
  refine Go.of (fun _ k => XS.iconst X53.here hx rfl (hb hby at_191) k) ?_
  show Go p e below W T53 (mkF m 192 #[.val (.int p1), .val (.int p2), .val (.long (v0_1 p1 p2)), .second, .val (.int (v0_5 p1 p2)), .val (.long (v0_6 p1 p2)), .second, .val (.int (v0_10 p1 p2)), .val (.int (v0_18 p1 p2)), .val (.ref b19), .unset, .unset] [(.int (0 : Int32)), (.ref b53), (.ref b53)])
  refine Go.of (fun _ k => XS.iconst X53.here hx rfl (hb hby at_192) k) ?_
  show Go p e below W T53 (mkF m 193 #[.val (.int p1), .val (.int p2), .val (.long (v0_1 p1 p2)), .second, .val (.int (v0_5 p1 p2)), .val (.long (v0_6 p1 p2)), .second, .val (.int (v0_10 p1 p2)), .val (.int (v0_18 p1 p2)), .val (.ref b19), .unset, .unset] [(.int (0 : Int32)), (.int (0 : Int32)), (.ref b53), (.ref b53)])
  refine Go.zst X53 hx hZ e53 N g_b53 A_b53 ⟨by decide, by decide⟩ (hb hby at_193) ?_
  intro T55 h55 L55 X55 N e55 W55 A_b53
  have A_b19 := A_b19.other W55 ne_b19_b53
  have K := K.wr W55 (Or.inr s_b53)
  have Z0 := Nat.le_trans Z0 (Keep.of_wr W55).1
  have A_b53 : AI Z h55 b53 .boolean 16 (w0_56 p1 p2) := A_b53
  show Go p e below W T55 (mkF m 194 #[.val (.int p1), .val (.int p2), .val (.long (v0_1 p1 p2)), .second, .val (.int (v0_5 p1 p2)), .val (.long (v0_6 p1 p2)), .second, .val (.int (v0_10 p1 p2)), .val (.int (v0_18 p1 p2)), .val (.ref b19), .unset, .unset] [(.ref b53)])
  refine Go.of (fun _ k => XS.dup X55.here hx rfl (hb hby at_194) rfl rfl k) ?_
  show Go p e below W T55 (mkF m 195 #[.val (.int p1), .val (.int p2), .val (.long (v0_1 p1 p2)), .second, .val (.int (v0_5 p1 p2)), .val (.long (v0_6 p1 p2)), .second, .val (.int (v0_10 p1 p2)), .val (.int (v0_18 p1 p2)), .val (.ref b19), .unset, .unset] [(.ref b53), (.ref b53)])
  refine Go.of (fun _ k => XS.iconst X55.here hx rfl (hb hby at_195) k) ?_
  show Go p e below W T55 (mkF m 196 #[.val (.int p1), .val (.int p2), .val (.long (v0_1 p1 p2)), .second, .val (.int (v0_5 p1 p2)), .val (.long (v0_6 p1 p2)), .second, .val (.int (v0_10 p1 p2)), .val (.int (v0_18 p1 p2)), .val (.ref b19), .unset, .unset] [(.int (1 : Int32)), (.ref b53), (.ref b53)])
  refine Go.of (fun _ k => XS.iconst X55.here hx rfl (hb hby at_196) k) ?_
  show Go p e below W T55 (mkF m 197 #[.val (.int p1), .val (.int p2), .val (.long (v0_1 p1 p2)), .second, .val (.int (v0_5 p1 p2)), .val (.long (v0_6 p1 p2)), .second, .val (.int (v0_10 p1 p2)), .val (.int (v0_18 p1 p2)), .val (.ref b19), .unset, .unset] [(.int (1 : Int32)), (.int (1 : Int32)), (.ref b53), (.ref b53)])
  refine Go.zst X55 hx hZ e55 N g_b53 A_b53 ⟨by decide, by decide⟩ (hb hby at_197) ?_
  intro T57 h57 L57 X57 N e57 W57 A_b53
  have A_b19 := A_b19.other W57 ne_b19_b53
  have K := K.wr W57 (Or.inr s_b53)
  have Z0 := Nat.le_trans Z0 (Keep.of_wr W57).1
  have A_b53 : AI Z h57 b53 .boolean 16 (w0_58 p1 p2) := A_b53
  show Go p e below W T57 (mkF m 198 #[.val (.int p1), .val (.int p2), .val (.long (v0_1 p1 p2)), .second, .val (.int (v0_5 p1 p2)), .val (.long (v0_6 p1 p2)), .second, .val (.int (v0_10 p1 p2)), .val (.int (v0_18 p1 p2)), .val (.ref b19), .unset, .unset] [(.ref b53)])
  refine Go.of (fun _ k => XS.dup X57.here hx rfl (hb hby at_198) rfl rfl k) ?_
  show Go p e below W T57 (mkF m 199 #[.val (.int p1), .val (.int p2), .val (.long (v0_1 p1 p2)), .second, .val (.int (v0_5 p1 p2)), .val (.long (v0_6 p1 p2)), .second, .val (.int (v0_10 p1 p2)), .val (.int (v0_18 p1 p2)), .val (.ref b19), .unset, .unset] [(.ref b53), (.ref b53)])
  refine Go.of (fun _ k => XS.iconst X57.here hx rfl (hb hby at_199) k) ?_
  show Go p e below W T57 (mkF m 200 #[.val (.int p1), .val (.int p2), .val (.long (v0_1 p1 p2)), .second, .val (.int (v0_5 p1 p2)), .val (.long (v0_6 p1 p2)), .second, .val (.int (v0_10 p1 p2)), .val (.int (v0_18 p1 p2)), .val (.ref b19), .unset, .unset] [(.int (2 : Int32)), (.ref b53), (.ref b53)])
  refine Go.of (fun _ k => XS.iconst X57.here hx rfl (hb hby at_200) k) ?_
  show Go p e below W T57 (mkF m 201 #[.val (.int p1), .val (.int p2), .val (.long (v0_1 p1 p2)), .second, .val (.int (v0_5 p1 p2)), .val (.long (v0_6 p1 p2)), .second, .val (.int (v0_10 p1 p2)), .val (.int (v0_18 p1 p2)), .val (.ref b19), .unset, .unset] [(.int (1 : Int32)), (.int (2 : Int32)), (.ref b53), (.ref b53)])
  refine Go.zst X57 hx hZ e57 N g_b53 A_b53 ⟨by decide, by decide⟩ (hb hby at_201) ?_
  intro T59 h59 L59 X59 N e59 W59 A_b53
  have A_b19 := A_b19.other W59 ne_b19_b53
  have K := K.wr W59 (Or.inr s_b53)
  have Z0 := Nat.le_trans Z0 (Keep.of_wr W59).1
  have A_b53 : AI Z h59 b53 .boolean 16 (w0_60 p1 p2) := A_b53
  show Go p e below W T59 (mkF m 202 #[.val (.int p1), .val (.int p2), .val (.long (v0_1 p1 p2)), .second, .val (.int (v0_5 p1 p2)), .val (.long (v0_6 p1 p2)), .second, .val (.int (v0_10 p1 p2)), .val (.int (v0_18 p1 p2)), .val (.ref b19), .unset, .unset] [(.ref b53)])
  refine Go.of (fun _ k => XS.dup X59.here hx rfl (hb hby at_202) rfl rfl k) ?_
  show Go p e below W T59 (mkF m 203 #[.val (.int p1), .val (.int p2), .val (.long (v0_1 p1 p2)), .second, .val (.int (v0_5 p1 p2)), .val (.long (v0_6 p1 p2)), .second, .val (.int (v0_10 p1 p2)), .val (.int (v0_18 p1 p2)), .val (.ref b19), .unset, .unset] [(.ref b53), (.ref b53)])
  refine Go.of (fun _ k => XS.iconst X59.here hx rfl (hb hby at_203) k) ?_
  show Go p e below W T59 (mkF m 204 #[.val (.int p1), .val (.int p2), .val (.long (v0_1 p1 p2)), .second, .val (.int (v0_5 p1 p2)), .val (.long (v0_6 p1 p2)), .second, .val (.int (v0_10 p1 p2)), .val (.int (v0_18 p1 p2)), .val (.ref b19), .unset, .unset] [(.int (3 : Int32)), (.ref b53), (.ref b53)])
  refine Go.of (fun _ k => XS.iconst X59.here hx rfl (hb hby at_204) k) ?_
  show Go p e below W T59 (mkF m 205 #[.val (.int p1), .val (.int p2), .val (.long (v0_1 p1 p2)), .second, .val (.int (v0_5 p1 p2)), .val (.long (v0_6 p1 p2)), .second, .val (.int (v0_10 p1 p2)), .val (.int (v0_18 p1 p2)), .val (.ref b19), .unset, .unset] [(.int (0 : Int32)), (.int (3 : Int32)), (.ref b53), (.ref b53)])
  refine Go.zst X59 hx hZ e59 N g_b53 A_b53 ⟨by decide, by decide⟩ (hb hby at_205) ?_
  intro T61 h61 L61 X61 N e61 W61 A_b53
  have A_b19 := A_b19.other W61 ne_b19_b53
  have K := K.wr W61 (Or.inr s_b53)
  have Z0 := Nat.le_trans Z0 (Keep.of_wr W61).1
  have A_b53 : AI Z h61 b53 .boolean 16 (w0_62 p1 p2) := A_b53
  show Go p e below W T61 (mkF m 206 #[.val (.int p1), .val (.int p2), .val (.long (v0_1 p1 p2)), .second, .val (.int (v0_5 p1 p2)), .val (.long (v0_6 p1 p2)), .second, .val (.int (v0_10 p1 p2)), .val (.int (v0_18 p1 p2)), .val (.ref b19), .unset, .unset] [(.ref b53)])
  refine Go.of (fun _ k => XS.dup X61.here hx rfl (hb hby at_206) rfl rfl k) ?_
  show Go p e below W T61 (mkF m 207 #[.val (.int p1), .val (.int p2), .val (.long (v0_1 p1 p2)), .second, .val (.int (v0_5 p1 p2)), .val (.long (v0_6 p1 p2)), .second, .val (.int (v0_10 p1 p2)), .val (.int (v0_18 p1 p2)), .val (.ref b19), .unset, .unset] [(.ref b53), (.ref b53)])
  refine Go.of (fun _ k => XS.iconst X61.here hx rfl (hb hby at_207) k) ?_
  show Go p e below W T61 (mkF m 208 #[.val (.int p1), .val (.int p2), .val (.long (v0_1 p1 p2)), .second, .val (.int (v0_5 p1 p2)), .val (.long (v0_6 p1 p2)), .second, .val (.int (v0_10 p1 p2)), .val (.int (v0_18 p1 p2)), .val (.ref b19), .unset, .unset] [(.int (4 : Int32)), (.ref b53), (.ref b53)])
  refine Go.of (fun _ k => XS.iconst X61.here hx rfl (hb hby at_208) k) ?_
  show Go p e below W T61 (mkF m 209 #[.val (.int p1), .val (.int p2), .val (.long (v0_1 p1 p2)), .second, .val (.int (v0_5 p1 p2)), .val (.long (v0_6 p1 p2)), .second, .val (.int (v0_10 p1 p2)), .val (.int (v0_18 p1 p2)), .val (.ref b19), .unset, .unset] [(.int (0 : Int32)), (.int (4 : Int32)), (.ref b53), (.ref b53)])
  refine Go.zst X61 hx hZ e61 N g_b53 A_b53 ⟨by decide, by decide⟩ (hb hby at_209) ?_
  intro T63 h63 L63 X63 N e63 W63 A_b53
  have A_b19 := A_b19.other W63 ne_b19_b53
  have K := K.wr W63 (Or.inr s_b53)
  have Z0 := Nat.le_trans Z0 (Keep.of_wr W63).1
  have A_b53 : AI Z h63 b53 .boolean 16 (w0_64 p1 p2) := A_b53
  show Go p e below W T63 (mkF m 210 #[.val (.int p1), .val (.int p2), .val (.long (v0_1 p1 p2)), .second, .val (.int (v0_5 p1 p2)), .val (.long (v0_6 p1 p2)), .second, .val (.int (v0_10 p1 p2)), .val (.int (v0_18 p1 p2)), .val (.ref b19), .unset, .unset] [(.ref b53)])
  refine Go.of (fun _ k => XS.dup X63.here hx rfl (hb hby at_210) rfl rfl k) ?_
  show Go p e below W T63 (mkF m 211 #[.val (.int p1), .val (.int p2), .val (.long (v0_1 p1 p2)), .second, .val (.int (v0_5 p1 p2)), .val (.long (v0_6 p1 p2)), .second, .val (.int (v0_10 p1 p2)), .val (.int (v0_18 p1 p2)), .val (.ref b19), .unset, .unset] [(.ref b53), (.ref b53)])
  refine Go.of (fun _ k => XS.iconst X63.here hx rfl (hb hby at_211) k) ?_
  show Go p e below W T63 (mkF m 212 #[.val (.int p1), .val (.int p2), .val (.long (v0_1 p1 p2)), .second, .val (.int (v0_5 p1 p2)), .val (.long (v0_6 p1 p2)), .second, .val (.int (v0_10 p1 p2)), .val (.int (v0_18 p1 p2)), .val (.ref b19), .unset, .unset] [(.int (5 : Int32)), (.ref b53), (.ref b53)])
  refine Go.of (fun _ k => XS.iconst X63.here hx rfl (hb hby at_212) k) ?_
  show Go p e below W T63 (mkF m 213 #[.val (.int p1), .val (.int p2), .val (.long (v0_1 p1 p2)), .second, .val (.int (v0_5 p1 p2)), .val (.long (v0_6 p1 p2)), .second, .val (.int (v0_10 p1 p2)), .val (.int (v0_18 p1 p2)), .val (.ref b19), .unset, .unset] [(.int (1 : Int32)), (.int (5 : Int32)), (.ref b53), (.ref b53)])
  refine Go.zst X63 hx hZ e63 N g_b53 A_b53 ⟨by decide, by decide⟩ (hb hby at_213) ?_
  intro T65 h65 L65 X65 N e65 W65 A_b53
  have A_b19 := A_b19.other W65 ne_b19_b53
  have K := K.wr W65 (Or.inr s_b53)
  have Z0 := Nat.le_trans Z0 (Keep.of_wr W65).1
  have A_b53 : AI Z h65 b53 .boolean 16 (w0_66 p1 p2) := A_b53
  show Go p e below W T65 (mkF m 214 #[.val (.int p1), .val (.int p2), .val (.long (v0_1 p1 p2)), .second, .val (.int (v0_5 p1 p2)), .val (.long (v0_6 p1 p2)), .second, .val (.int (v0_10 p1 p2)), .val (.int (v0_18 p1 p2)), .val (.ref b19), .unset, .unset] [(.ref b53)])
  refine Go.of (fun _ k => XS.dup X65.here hx rfl (hb hby at_214) rfl rfl k) ?_
  show Go p e below W T65 (mkF m 215 #[.val (.int p1), .val (.int p2), .val (.long (v0_1 p1 p2)), .second, .val (.int (v0_5 p1 p2)), .val (.long (v0_6 p1 p2)), .second, .val (.int (v0_10 p1 p2)), .val (.int (v0_18 p1 p2)), .val (.ref b19), .unset, .unset] [(.ref b53), (.ref b53)])
  refine Go.of (fun _ k => XS.bipush X65.here hx rfl (hb hby at_215) k) ?_
  show Go p e below W T65 (mkF m 217 #[.val (.int p1), .val (.int p2), .val (.long (v0_1 p1 p2)), .second, .val (.int (v0_5 p1 p2)), .val (.long (v0_6 p1 p2)), .second, .val (.int (v0_10 p1 p2)), .val (.int (v0_18 p1 p2)), .val (.ref b19), .unset, .unset] [(.int (6 : Int32)), (.ref b53), (.ref b53)])
  refine Go.of (fun _ k => XS.iconst X65.here hx rfl (hb hby at_217) k) ?_
  show Go p e below W T65 (mkF m 218 #[.val (.int p1), .val (.int p2), .val (.long (v0_1 p1 p2)), .second, .val (.int (v0_5 p1 p2)), .val (.long (v0_6 p1 p2)), .second, .val (.int (v0_10 p1 p2)), .val (.int (v0_18 p1 p2)), .val (.ref b19), .unset, .unset] [(.int (1 : Int32)), (.int (6 : Int32)), (.ref b53), (.ref b53)])
  refine Go.zst X65 hx hZ e65 N g_b53 A_b53 ⟨by decide, by decide⟩ (hb hby at_218) ?_
  intro T67 h67 L67 X67 N e67 W67 A_b53
  have A_b19 := A_b19.other W67 ne_b19_b53
  have K := K.wr W67 (Or.inr s_b53)
  have Z0 := Nat.le_trans Z0 (Keep.of_wr W67).1
  have A_b53 : AI Z h67 b53 .boolean 16 (w0_68 p1 p2) := A_b53
  show Go p e below W T67 (mkF m 219 #[.val (.int p1), .val (.int p2), .val (.long (v0_1 p1 p2)), .second, .val (.int (v0_5 p1 p2)), .val (.long (v0_6 p1 p2)), .second, .val (.int (v0_10 p1 p2)), .val (.int (v0_18 p1 p2)), .val (.ref b19), .unset, .unset] [(.ref b53)])
  refine Go.of (fun _ k => XS.dup X67.here hx rfl (hb hby at_219) rfl rfl k) ?_
  show Go p e below W T67 (mkF m 220 #[.val (.int p1), .val (.int p2), .val (.long (v0_1 p1 p2)), .second, .val (.int (v0_5 p1 p2)), .val (.long (v0_6 p1 p2)), .second, .val (.int (v0_10 p1 p2)), .val (.int (v0_18 p1 p2)), .val (.ref b19), .unset, .unset] [(.ref b53), (.ref b53)])
  refine Go.of (fun _ k => XS.bipush X67.here hx rfl (hb hby at_220) k) ?_
  show Go p e below W T67 (mkF m 222 #[.val (.int p1), .val (.int p2), .val (.long (v0_1 p1 p2)), .second, .val (.int (v0_5 p1 p2)), .val (.long (v0_6 p1 p2)), .second, .val (.int (v0_10 p1 p2)), .val (.int (v0_18 p1 p2)), .val (.ref b19), .unset, .unset] [(.int (7 : Int32)), (.ref b53), (.ref b53)])
  refine Go.of (fun _ k => XS.iconst X67.here hx rfl (hb hby at_222) k) ?_
  show Go p e below W T67 (mkF m 223 #[.val (.int p1), .val (.int p2), .val (.long (v0_1 p1 p2)), .second, .val (.int (v0_5 p1 p2)), .val (.long (v0_6 p1 p2)), .second, .val (.int (v0_10 p1 p2)), .val (.int (v0_18 p1 p2)), .val (.ref b19), .unset, .unset] [(.int (0 : Int32)), (.int (7 : Int32)), (.ref b53), (.ref b53)])
  refine Go.zst X67 hx hZ e67 N g_b53 A_b53 ⟨by decide, by decide⟩ (hb hby at_223) ?_
  intro T69 h69 L69 X69 N e69 W69 A_b53
  have A_b19 := A_b19.other W69 ne_b19_b53
  have K := K.wr W69 (Or.inr s_b53)
  have Z0 := Nat.le_trans Z0 (Keep.of_wr W69).1
  have A_b53 : AI Z h69 b53 .boolean 16 (w0_70 p1 p2) := A_b53
  show Go p e below W T69 (mkF m 224 #[.val (.int p1), .val (.int p2), .val (.long (v0_1 p1 p2)), .second, .val (.int (v0_5 p1 p2)), .val (.long (v0_6 p1 p2)), .second, .val (.int (v0_10 p1 p2)), .val (.int (v0_18 p1 p2)), .val (.ref b19), .unset, .unset] [(.ref b53)])
  refine Go.of (fun _ k => XS.dup X69.here hx rfl (hb hby at_224) rfl rfl k) ?_
  show Go p e below W T69 (mkF m 225 #[.val (.int p1), .val (.int p2), .val (.long (v0_1 p1 p2)), .second, .val (.int (v0_5 p1 p2)), .val (.long (v0_6 p1 p2)), .second, .val (.int (v0_10 p1 p2)), .val (.int (v0_18 p1 p2)), .val (.ref b19), .unset, .unset] [(.ref b53), (.ref b53)])
  refine Go.of (fun _ k => XS.bipush X69.here hx rfl (hb hby at_225) k) ?_
  show Go p e below W T69 (mkF m 227 #[.val (.int p1), .val (.int p2), .val (.long (v0_1 p1 p2)), .second, .val (.int (v0_5 p1 p2)), .val (.long (v0_6 p1 p2)), .second, .val (.int (v0_10 p1 p2)), .val (.int (v0_18 p1 p2)), .val (.ref b19), .unset, .unset] [(.int (8 : Int32)), (.ref b53), (.ref b53)])
  refine Go.of (fun _ k => XS.iconst X69.here hx rfl (hb hby at_227) k) ?_
  show Go p e below W T69 (mkF m 228 #[.val (.int p1), .val (.int p2), .val (.long (v0_1 p1 p2)), .second, .val (.int (v0_5 p1 p2)), .val (.long (v0_6 p1 p2)), .second, .val (.int (v0_10 p1 p2)), .val (.int (v0_18 p1 p2)), .val (.ref b19), .unset, .unset] [(.int (0 : Int32)), (.int (8 : Int32)), (.ref b53), (.ref b53)])
  refine Go.zst X69 hx hZ e69 N g_b53 A_b53 ⟨by decide, by decide⟩ (hb hby at_228) ?_
  intro T71 h71 L71 X71 N e71 W71 A_b53
  have A_b19 := A_b19.other W71 ne_b19_b53
  have K := K.wr W71 (Or.inr s_b53)
  have Z0 := Nat.le_trans Z0 (Keep.of_wr W71).1
  have A_b53 : AI Z h71 b53 .boolean 16 (w0_72 p1 p2) := A_b53
  show Go p e below W T71 (mkF m 229 #[.val (.int p1), .val (.int p2), .val (.long (v0_1 p1 p2)), .second, .val (.int (v0_5 p1 p2)), .val (.long (v0_6 p1 p2)), .second, .val (.int (v0_10 p1 p2)), .val (.int (v0_18 p1 p2)), .val (.ref b19), .unset, .unset] [(.ref b53)])
  refine Go.of (fun _ k => XS.dup X71.here hx rfl (hb hby at_229) rfl rfl k) ?_
  show Go p e below W T71 (mkF m 230 #[.val (.int p1), .val (.int p2), .val (.long (v0_1 p1 p2)), .second, .val (.int (v0_5 p1 p2)), .val (.long (v0_6 p1 p2)), .second, .val (.int (v0_10 p1 p2)), .val (.int (v0_18 p1 p2)), .val (.ref b19), .unset, .unset] [(.ref b53), (.ref b53)])
  refine Go.of (fun _ k => XS.bipush X71.here hx rfl (hb hby at_230) k) ?_
  show Go p e below W T71 (mkF m 232 #[.val (.int p1), .val (.int p2), .val (.long (v0_1 p1 p2)), .second, .val (.int (v0_5 p1 p2)), .val (.long (v0_6 p1 p2)), .second, .val (.int (v0_10 p1 p2)), .val (.int (v0_18 p1 p2)), .val (.ref b19), .unset, .unset] [(.int (9 : Int32)), (.ref b53), (.ref b53)])
  refine Go.of (fun _ k => XS.iconst X71.here hx rfl (hb hby at_232) k) ?_
  show Go p e below W T71 (mkF m 233 #[.val (.int p1), .val (.int p2), .val (.long (v0_1 p1 p2)), .second, .val (.int (v0_5 p1 p2)), .val (.long (v0_6 p1 p2)), .second, .val (.int (v0_10 p1 p2)), .val (.int (v0_18 p1 p2)), .val (.ref b19), .unset, .unset] [(.int (1 : Int32)), (.int (9 : Int32)), (.ref b53), (.ref b53)])
  refine Go.zst X71 hx hZ e71 N g_b53 A_b53 ⟨by decide, by decide⟩ (hb hby at_233) ?_
  intro T73 h73 L73 X73 N e73 W73 A_b53
  have A_b19 := A_b19.other W73 ne_b19_b53
  have K := K.wr W73 (Or.inr s_b53)
  have Z0 := Nat.le_trans Z0 (Keep.of_wr W73).1
  have A_b53 : AI Z h73 b53 .boolean 16 (w0_74 p1 p2) := A_b53
  show Go p e below W T73 (mkF m 234 #[.val (.int p1), .val (.int p2), .val (.long (v0_1 p1 p2)), .second, .val (.int (v0_5 p1 p2)), .val (.long (v0_6 p1 p2)), .second, .val (.int (v0_10 p1 p2)), .val (.int (v0_18 p1 p2)), .val (.ref b19), .unset, .unset] [(.ref b53)])
  refine Go.of (fun _ k => XS.dup X73.here hx rfl (hb hby at_234) rfl rfl k) ?_
  show Go p e below W T73 (mkF m 235 #[.val (.int p1), .val (.int p2), .val (.long (v0_1 p1 p2)), .second, .val (.int (v0_5 p1 p2)), .val (.long (v0_6 p1 p2)), .second, .val (.int (v0_10 p1 p2)), .val (.int (v0_18 p1 p2)), .val (.ref b19), .unset, .unset] [(.ref b53), (.ref b53)])
  refine Go.of (fun _ k => XS.bipush X73.here hx rfl (hb hby at_235) k) ?_
  show Go p e below W T73 (mkF m 237 #[.val (.int p1), .val (.int p2), .val (.long (v0_1 p1 p2)), .second, .val (.int (v0_5 p1 p2)), .val (.long (v0_6 p1 p2)), .second, .val (.int (v0_10 p1 p2)), .val (.int (v0_18 p1 p2)), .val (.ref b19), .unset, .unset] [(.int (10 : Int32)), (.ref b53), (.ref b53)])
  refine Go.of (fun _ k => XS.iconst X73.here hx rfl (hb hby at_237) k) ?_
  show Go p e below W T73 (mkF m 238 #[.val (.int p1), .val (.int p2), .val (.long (v0_1 p1 p2)), .second, .val (.int (v0_5 p1 p2)), .val (.long (v0_6 p1 p2)), .second, .val (.int (v0_10 p1 p2)), .val (.int (v0_18 p1 p2)), .val (.ref b19), .unset, .unset] [(.int (1 : Int32)), (.int (10 : Int32)), (.ref b53), (.ref b53)])
  refine Go.zst X73 hx hZ e73 N g_b53 A_b53 ⟨by decide, by decide⟩ (hb hby at_238) ?_
  intro T75 h75 L75 X75 N e75 W75 A_b53
  have A_b19 := A_b19.other W75 ne_b19_b53
  have K := K.wr W75 (Or.inr s_b53)
  have Z0 := Nat.le_trans Z0 (Keep.of_wr W75).1
  have A_b53 : AI Z h75 b53 .boolean 16 (w0_76 p1 p2) := A_b53
  show Go p e below W T75 (mkF m 239 #[.val (.int p1), .val (.int p2), .val (.long (v0_1 p1 p2)), .second, .val (.int (v0_5 p1 p2)), .val (.long (v0_6 p1 p2)), .second, .val (.int (v0_10 p1 p2)), .val (.int (v0_18 p1 p2)), .val (.ref b19), .unset, .unset] [(.ref b53)])
  refine Go.of (fun _ k => XS.dup X75.here hx rfl (hb hby at_239) rfl rfl k) ?_
  show Go p e below W T75 (mkF m 240 #[.val (.int p1), .val (.int p2), .val (.long (v0_1 p1 p2)), .second, .val (.int (v0_5 p1 p2)), .val (.long (v0_6 p1 p2)), .second, .val (.int (v0_10 p1 p2)), .val (.int (v0_18 p1 p2)), .val (.ref b19), .unset, .unset] [(.ref b53), (.ref b53)])
  refine Go.of (fun _ k => XS.bipush X75.here hx rfl (hb hby at_240) k) ?_
  show Go p e below W T75 (mkF m 242 #[.val (.int p1), .val (.int p2), .val (.long (v0_1 p1 p2)), .second, .val (.int (v0_5 p1 p2)), .val (.long (v0_6 p1 p2)), .second, .val (.int (v0_10 p1 p2)), .val (.int (v0_18 p1 p2)), .val (.ref b19), .unset, .unset] [(.int (11 : Int32)), (.ref b53), (.ref b53)])
  refine Go.of (fun _ k => XS.iconst X75.here hx rfl (hb hby at_242) k) ?_
  show Go p e below W T75 (mkF m 243 #[.val (.int p1), .val (.int p2), .val (.long (v0_1 p1 p2)), .second, .val (.int (v0_5 p1 p2)), .val (.long (v0_6 p1 p2)), .second, .val (.int (v0_10 p1 p2)), .val (.int (v0_18 p1 p2)), .val (.ref b19), .unset, .unset] [(.int (0 : Int32)), (.int (11 : Int32)), (.ref b53), (.ref b53)])
  refine Go.zst X75 hx hZ e75 N g_b53 A_b53 ⟨by decide, by decide⟩ (hb hby at_243) ?_
  intro T77 h77 L77 X77 N e77 W77 A_b53
  have A_b19 := A_b19.other W77 ne_b19_b53
  have K := K.wr W77 (Or.inr s_b53)
  have Z0 := Nat.le_trans Z0 (Keep.of_wr W77).1
  have A_b53 : AI Z h77 b53 .boolean 16 (w0_78 p1 p2) := A_b53
  show Go p e below W T77 (mkF m 244 #[.val (.int p1), .val (.int p2), .val (.long (v0_1 p1 p2)), .second, .val (.int (v0_5 p1 p2)), .val (.long (v0_6 p1 p2)), .second, .val (.int (v0_10 p1 p2)), .val (.int (v0_18 p1 p2)), .val (.ref b19), .unset, .unset] [(.ref b53)])
  refine Go.of (fun _ k => XS.dup X77.here hx rfl (hb hby at_244) rfl rfl k) ?_
  show Go p e below W T77 (mkF m 245 #[.val (.int p1), .val (.int p2), .val (.long (v0_1 p1 p2)), .second, .val (.int (v0_5 p1 p2)), .val (.long (v0_6 p1 p2)), .second, .val (.int (v0_10 p1 p2)), .val (.int (v0_18 p1 p2)), .val (.ref b19), .unset, .unset] [(.ref b53), (.ref b53)])
  refine Go.of (fun _ k => XS.bipush X77.here hx rfl (hb hby at_245) k) ?_
  show Go p e below W T77 (mkF m 247 #[.val (.int p1), .val (.int p2), .val (.long (v0_1 p1 p2)), .second, .val (.int (v0_5 p1 p2)), .val (.long (v0_6 p1 p2)), .second, .val (.int (v0_10 p1 p2)), .val (.int (v0_18 p1 p2)), .val (.ref b19), .unset, .unset] [(.int (12 : Int32)), (.ref b53), (.ref b53)])
  refine Go.of (fun _ k => XS.iconst X77.here hx rfl (hb hby at_247) k) ?_
  show Go p e below W T77 (mkF m 248 #[.val (.int p1), .val (.int p2), .val (.long (v0_1 p1 p2)), .second, .val (.int (v0_5 p1 p2)), .val (.long (v0_6 p1 p2)), .second, .val (.int (v0_10 p1 p2)), .val (.int (v0_18 p1 p2)), .val (.ref b19), .unset, .unset] [(.int (0 : Int32)), (.int (12 : Int32)), (.ref b53), (.ref b53)])
  refine Go.zst X77 hx hZ e77 N g_b53 A_b53 ⟨by decide, by decide⟩ (hb hby at_248) ?_
  intro T79 h79 L79 X79 N e79 W79 A_b53
  have A_b19 := A_b19.other W79 ne_b19_b53
  have K := K.wr W79 (Or.inr s_b53)
  have Z0 := Nat.le_trans Z0 (Keep.of_wr W79).1
  have A_b53 : AI Z h79 b53 .boolean 16 (w0_80 p1 p2) := A_b53
  show Go p e below W T79 (mkF m 249 #[.val (.int p1), .val (.int p2), .val (.long (v0_1 p1 p2)), .second, .val (.int (v0_5 p1 p2)), .val (.long (v0_6 p1 p2)), .second, .val (.int (v0_10 p1 p2)), .val (.int (v0_18 p1 p2)), .val (.ref b19), .unset, .unset] [(.ref b53)])
  refine Go.of (fun _ k => XS.dup X79.here hx rfl (hb hby at_249) rfl rfl k) ?_
  show Go p e below W T79 (mkF m 250 #[.val (.int p1), .val (.int p2), .val (.long (v0_1 p1 p2)), .second, .val (.int (v0_5 p1 p2)), .val (.long (v0_6 p1 p2)), .second, .val (.int (v0_10 p1 p2)), .val (.int (v0_18 p1 p2)), .val (.ref b19), .unset, .unset] [(.ref b53), (.ref b53)])
  refine Go.of (fun _ k => XS.bipush X79.here hx rfl (hb hby at_250) k) ?_
  show Go p e below W T79 (mkF m 252 #[.val (.int p1), .val (.int p2), .val (.long (v0_1 p1 p2)), .second, .val (.int (v0_5 p1 p2)), .val (.long (v0_6 p1 p2)), .second, .val (.int (v0_10 p1 p2)), .val (.int (v0_18 p1 p2)), .val (.ref b19), .unset, .unset] [(.int (13 : Int32)), (.ref b53), (.ref b53)])
  refine Go.of (fun _ k => XS.iconst X79.here hx rfl (hb hby at_252) k) ?_
  show Go p e below W T79 (mkF m 253 #[.val (.int p1), .val (.int p2), .val (.long (v0_1 p1 p2)), .second, .val (.int (v0_5 p1 p2)), .val (.long (v0_6 p1 p2)), .second, .val (.int (v0_10 p1 p2)), .val (.int (v0_18 p1 p2)), .val (.ref b19), .unset, .unset] [(.int (0 : Int32)), (.int (13 : Int32)), (.ref b53), (.ref b53)])
  refine Go.zst X79 hx hZ e79 N g_b53 A_b53 ⟨by decide, by decide⟩ (hb hby at_253) ?_
  intro T81 h81 L81 X81 N e81 W81 A_b53
  have A_b19 := A_b19.other W81 ne_b19_b53
  have K := K.wr W81 (Or.inr s_b53)
  have Z0 := Nat.le_trans Z0 (Keep.of_wr W81).1
  have A_b53 : AI Z h81 b53 .boolean 16 (w0_82 p1 p2) := A_b53
  show Go p e below W T81 (mkF m 254 #[.val (.int p1), .val (.int p2), .val (.long (v0_1 p1 p2)), .second, .val (.int (v0_5 p1 p2)), .val (.long (v0_6 p1 p2)), .second, .val (.int (v0_10 p1 p2)), .val (.int (v0_18 p1 p2)), .val (.ref b19), .unset, .unset] [(.ref b53)])
  refine Go.of (fun _ k => XS.dup X81.here hx rfl (hb hby at_254) rfl rfl k) ?_
  show Go p e below W T81 (mkF m 255 #[.val (.int p1), .val (.int p2), .val (.long (v0_1 p1 p2)), .second, .val (.int (v0_5 p1 p2)), .val (.long (v0_6 p1 p2)), .second, .val (.int (v0_10 p1 p2)), .val (.int (v0_18 p1 p2)), .val (.ref b19), .unset, .unset] [(.ref b53), (.ref b53)])
  refine Go.of (fun _ k => XS.bipush X81.here hx rfl (hb hby at_255) k) ?_
  show Go p e below W T81 (mkF m 257 #[.val (.int p1), .val (.int p2), .val (.long (v0_1 p1 p2)), .second, .val (.int (v0_5 p1 p2)), .val (.long (v0_6 p1 p2)), .second, .val (.int (v0_10 p1 p2)), .val (.int (v0_18 p1 p2)), .val (.ref b19), .unset, .unset] [(.int (14 : Int32)), (.ref b53), (.ref b53)])
  refine Go.of (fun _ k => XS.iconst X81.here hx rfl (hb hby at_257) k) ?_
  show Go p e below W T81 (mkF m 258 #[.val (.int p1), .val (.int p2), .val (.long (v0_1 p1 p2)), .second, .val (.int (v0_5 p1 p2)), .val (.long (v0_6 p1 p2)), .second, .val (.int (v0_10 p1 p2)), .val (.int (v0_18 p1 p2)), .val (.ref b19), .unset, .unset] [(.int (0 : Int32)), (.int (14 : Int32)), (.ref b53), (.ref b53)])
  refine Go.zst X81 hx hZ e81 N g_b53 A_b53 ⟨by decide, by decide⟩ (hb hby at_258) ?_
  intro T83 h83 L83 X83 N e83 W83 A_b53
  have A_b19 := A_b19.other W83 ne_b19_b53
  have K := K.wr W83 (Or.inr s_b53)
  have Z0 := Nat.le_trans Z0 (Keep.of_wr W83).1
  have A_b53 : AI Z h83 b53 .boolean 16 (w0_84 p1 p2) := A_b53
  show Go p e below W T83 (mkF m 259 #[.val (.int p1), .val (.int p2), .val (.long (v0_1 p1 p2)), .second, .val (.int (v0_5 p1 p2)), .val (.long (v0_6 p1 p2)), .second, .val (.int (v0_10 p1 p2)), .val (.int (v0_18 p1 p2)), .val (.ref b19), .unset, .unset] [(.ref b53)])
  refine Go.of (fun _ k => XS.dup X83.here hx rfl (hb hby at_259) rfl rfl k) ?_
  show Go p e below W T83 (mkF m 260 #[.val (.int p1), .val (.int p2), .val (.long (v0_1 p1 p2)), .second, .val (.int (v0_5 p1 p2)), .val (.long (v0_6 p1 p2)), .second, .val (.int (v0_10 p1 p2)), .val (.int (v0_18 p1 p2)), .val (.ref b19), .unset, .unset] [(.ref b53), (.ref b53)])
  refine Go.of (fun _ k => XS.bipush X83.here hx rfl (hb hby at_260) k) ?_
  show Go p e below W T83 (mkF m 262 #[.val (.int p1), .val (.int p2), .val (.long (v0_1 p1 p2)), .second, .val (.int (v0_5 p1 p2)), .val (.long (v0_6 p1 p2)), .second, .val (.int (v0_10 p1 p2)), .val (.int (v0_18 p1 p2)), .val (.ref b19), .unset, .unset] [(.int (15 : Int32)), (.ref b53), (.ref b53)])
  refine Go.of (fun _ k => XS.iconst X83.here hx rfl (hb hby at_262) k) ?_
  show Go p e below W T83 (mkF m 263 #[.val (.int p1), .val (.int p2), .val (.long (v0_1 p1 p2)), .second, .val (.int (v0_5 p1 p2)), .val (.long (v0_6 p1 p2)), .second, .val (.int (v0_10 p1 p2)), .val (.int (v0_18 p1 p2)), .val (.ref b19), .unset, .unset] [(.int (0 : Int32)), (.int (15 : Int32)), (.ref b53), (.ref b53)])
  refine Go.zst X83 hx hZ e83 N g_b53 A_b53 ⟨by decide, by decide⟩ (hb hby at_263) ?_
  intro T85 h85 L85 X85 N e85 W85 A_b53
  have A_b19 := A_b19.other W85 ne_b19_b53
  have K := K.wr W85 (Or.inr s_b53)
  have Z0 := Nat.le_trans Z0 (Keep.of_wr W85).1
  have A_b53 : AI Z h85 b53 .boolean 16 (w0_86 p1 p2) := A_b53
  show Go p e below W T85 (mkF m 264 #[.val (.int p1), .val (.int p2), .val (.long (v0_1 p1 p2)), .second, .val (.int (v0_5 p1 p2)), .val (.long (v0_6 p1 p2)), .second, .val (.int (v0_10 p1 p2)), .val (.int (v0_18 p1 p2)), .val (.ref b19), .unset, .unset] [(.ref b53)])
  refine Go.of (fun _ k => XS.astore X85.here hx rfl (hb hby at_264) rfl rfl (l' := #[.val (.int p1), .val (.int p2), .val (.long (v0_1 p1 p2)), .second, .val (.int (v0_5 p1 p2)), .val (.long (v0_6 p1 p2)), .second, .val (.int (v0_10 p1 p2)), .val (.int (v0_18 p1 p2)), .val (.ref b19), .val (.ref b53), .unset]) rfl k) ?_
  show Go p e below W T85 (mkF m 266 #[.val (.int p1), .val (.int p2), .val (.long (v0_1 p1 p2)), .second, .val (.int (v0_5 p1 p2)), .val (.long (v0_6 p1 p2)), .second, .val (.int (v0_10 p1 p2)), .val (.int (v0_18 p1 p2)), .val (.ref b19), .val (.ref b53), .unset] [])
  refine Go.of (fun _ k => XS.iloadN X85.here hx rfl (hb hby at_266) rfl k) ?_
  show Go p e below W T85 (mkF m 267 #[.val (.int p1), .val (.int p2), .val (.long (v0_1 p1 p2)), .second, .val (.int (v0_5 p1 p2)), .val (.long (v0_6 p1 p2)), .second, .val (.int (v0_10 p1 p2)), .val (.int (v0_18 p1 p2)), .val (.ref b19), .val (.ref b53), .unset] [(.int p2)])
  refine Go.of (fun _ k => XS.bipush X85.here hx rfl (hb hby at_267) k) ?_
  show Go p e below W T85 (mkF m 269 #[.val (.int p1), .val (.int p2), .val (.long (v0_1 p1 p2)), .second, .val (.int (v0_5 p1 p2)), .val (.long (v0_6 p1 p2)), .second, .val (.int (v0_10 p1 p2)), .val (.int (v0_18 p1 p2)), .val (.ref b19), .val (.ref b53), .unset] [(.int (15 : Int32)), (.int p2)])
  refine Go.of (fun _ k => XS.iand X85.here hx rfl (hb hby at_269) rfl k) ?_
  show Go p e below W T85 (mkF m 270 #[.val (.int p1), .val (.int p2), .val (.long (v0_1 p1 p2)), .second, .val (.int (v0_5 p1 p2)), .val (.long (v0_6 p1 p2)), .second, .val (.int (v0_10 p1 p2)), .val (.int (v0_18 p1 p2)), .val (.ref b19), .val (.ref b53), .unset] [(.int (p2 &&& (15 : Int32)))])
  refine Go.of (fun _ k => XS.istore X85.here hx rfl (hb hby at_270) rfl (l' := #[.val (.int p1), .val (.int p2), .val (.long (v0_1 p1 p2)), .second, .val (.int (v0_5 p1 p2)), .val (.long (v0_6 p1 p2)), .second, .val (.int (v0_10 p1 p2)), .val (.int (v0_18 p1 p2)), .val (.ref b19), .val (.ref b53), .val (.int (v0_87 p1 p2))]) rfl k) ?_
  show Go p e below W T85 (mkF m 272 #[.val (.int p1), .val (.int p2), .val (.long (v0_1 p1 p2)), .second, .val (.int (v0_5 p1 p2)), .val (.long (v0_6 p1 p2)), .second, .val (.int (v0_10 p1 p2)), .val (.int (v0_18 p1 p2)), .val (.ref b19), .val (.ref b53), .val (.int (v0_87 p1 p2))] [])
  refine Go.of (fun _ k => XS.iload X85.here hx rfl (hb hby at_272) rfl k) ?_
  show Go p e below W T85 (mkF m 274 #[.val (.int p1), .val (.int p2), .val (.long (v0_1 p1 p2)), .second, .val (.int (v0_5 p1 p2)), .val (.long (v0_6 p1 p2)), .second, .val (.int (v0_10 p1 p2)), .val (.int (v0_18 p1 p2)), .val (.ref b19), .val (.ref b53), .val (.int (v0_87 p1 p2))] [(.int (v0_18 p1 p2))])
  suffices G91 : ∀ T', Stand p l e room_1 s m #[(.int p1), (.int p2)] below meth c T' L85 2 32 → T'.heap = h85 → Go p e below W T' (mkF m 298 #[.val (.int p1), .val (.int p2), .val (.long (v0_1 p1 p2)), .second, .val (.int (v0_5 p1 p2)), .val (.long (v0_6 p1 p2)), .second, .val (.int (v0_10 p1 p2)), .val (.int (v0_18 p1 p2)), .val (.ref b19), .val (.ref b53), .val (.int (v0_87 p1 p2))] [(.int (v0_92 p1 p2))]) by
    by_cases c88 : (v0_18 p1 p2) = (0 : Int32)
    · refine Go.of (fun _ k => XS.ifYes X85.here hx rfl (pc0 := 274) (pc' := 297) rfl (hb hby at_274) rfl (Jvm.Free.XT.i0_eq_t c88) (by decide) (by decide) k) ?_
      show Go p e below W T85 (mkF m 297 #[.val (.int p1), .val (.int p2), .val (.long (v0_1 p1 p2)), .second, .val (.int (v0_5 p1 p2)), .val (.long (v0_6 p1 p2)), .second, .val (.int (v0_10 p1 p2)), .val (.int (v0_18 p1 p2)), .val (.ref b19), .val (.ref b53), .val (.int (v0_87 p1 p2))] [])
      refine Go.of (fun _ k => XS.iconst X85.here hx rfl (hb hby at_297) k) ?_
      have G91 := G91
      have q_v0_92 : (v0_92 p1 p2) = (0 : Int32) := by rw [v0_92, if_pos c88]
      rw [q_v0_92] at G91
      exact G91 _ X85 e85
    · refine Go.of (fun _ k => XS.ifNo X85.here hx rfl (hb hby at_274) rfl (Jvm.Free.XT.i0_eq_f c88) k) ?_
      show Go p e below W T85 (mkF m 277 #[.val (.int p1), .val (.int p2), .val (.long (v0_1 p1 p2)), .second, .val (.int (v0_5 p1 p2)), .val (.long (v0_6 p1 p2)), .second, .val (.int (v0_10 p1 p2)), .val (.int (v0_18 p1 p2)), .val (.ref b19), .val (.ref b53), .val (.int (v0_87 p1 p2))] [])
      refine Go.of (fun _ k => XS.aload X85.here hx rfl (hb hby at_277) rfl rfl k) ?_
      show Go p e below W T85 (mkF m 279 #[.val (.int p1), .val (.int p2), .val (.long (v0_1 p1 p2)), .second, .val (.int (v0_5 p1 p2)), .val (.long (v0_6 p1 p2)), .second, .val (.int (v0_10 p1 p2)), .val (.int (v0_18 p1 p2)), .val (.ref b19), .val (.ref b53), .val (.int (v0_87 p1 p2))] [(.ref b19)])
      refine Go.of (fun _ k => XS.iload X85.here hx rfl (hb hby at_279) rfl k) ?_
      show Go p e below W T85 (mkF m 281 #[.val (.int p1), .val (.int p2), .val (.long (v0_1 p1 p2)), .second, .val (.int (v0_5 p1 p2)), .val (.long (v0_6 p1 p2)), .second, .val (.int (v0_10 p1 p2)), .val (.int (v0_18 p1 p2)), .val (.ref b19), .val (.ref b53), .val (.int (v0_87 p1 p2))] [(.int (v0_87 p1 p2)), (.ref b19)])
      refine Go.iald X85 hx hZ e85 A_b19 (own_inb p1 p2) (hb hby at_281) ?_
      show Go p e below W T85 (mkF m 282 #[.val (.int p1), .val (.int p2), .val (.long (v0_1 p1 p2)), .second, .val (.int (v0_5 p1 p2)), .val (.long (v0_6 p1 p2)), .second, .val (.int (v0_10 p1 p2)), .val (.int (v0_18 p1 p2)), .val (.ref b19), .val (.ref b53), .val (.int (v0_87 p1 p2))] [(.int (w0_52 p1 p2 (v0_87 p1 p2).toNatClampNeg))])
      refine Go.callP X85 hx hZ hown (hw _ (List.mem_of_getElem? (i := 2) rfl)) (hw _ (List.mem_of_getElem? (i := 3) rfl)) (hw _ (List.mem_of_getElem? (i := 4) rfl)) (hw _ (List.mem_of_getElem? (i := 5) rfl)) (by decide) e85 (rm1 l Z a0 hw [] (w0_52 p1 p2 (v0_87 p1 p2).toNatClampNeg) h85) (V := 0) (by decide) (by decide) rfl rfl (by decide) (by decide) (by rw [hml]; rfl) (argsL := [(.int (w0_52 p1 p2 (v0_87 p1 p2).toNatClampNeg))]) (rest := []) rfl (lenOf pd__I_Z rfl) rfl (Nat.le_of_ble_eq_true rfl) (hb hby at_282) ?_
      intro T89 X89 e89
      show Go p e below W T89 (mkF m 285 #[.val (.int p1), .val (.int p2), .val (.long (v0_1 p1 p2)), .second, .val (.int (v0_5 p1 p2)), .val (.long (v0_6 p1 p2)), .second, .val (.int (v0_10 p1 p2)), .val (.int (v0_18 p1 p2)), .val (.ref b19), .val (.ref b53), .val (.int (v0_87 p1 p2))] [(.int (f1 (w0_52 p1 p2 (v0_87 p1 p2).toNatClampNeg)))])
      refine Go.of (fun _ k => XS.aload X89.here hx rfl (hb hby at_285) rfl rfl k) ?_
      show Go p e below W T89 (mkF m 287 #[.val (.int p1), .val (.int p2), .val (.long (v0_1 p1 p2)), .second, .val (.int (v0_5 p1 p2)), .val (.long (v0_6 p1 p2)), .second, .val (.int (v0_10 p1 p2)), .val (.int (v0_18 p1 p2)), .val (.ref b19), .val (.ref b53), .val (.int (v0_87 p1 p2))] [(.ref b53), (.int (f1 (w0_52 p1 p2 (v0_87 p1 p2).toNatClampNeg)))])
      refine Go.of (fun _ k => XS.iload X89.here hx rfl (hb hby at_287) rfl k) ?_
      show Go p e below W T89 (mkF m 289 #[.val (.int p1), .val (.int p2), .val (.long (v0_1 p1 p2)), .second, .val (.int (v0_5 p1 p2)), .val (.long (v0_6 p1 p2)), .second, .val (.int (v0_10 p1 p2)), .val (.int (v0_18 p1 p2)), .val (.ref b19), .val (.ref b53), .val (.int (v0_87 p1 p2))] [(.int (v0_87 p1 p2)), (.ref b53), (.int (f1 (w0_52 p1 p2 (v0_87 p1 p2).toNatClampNeg)))])
      refine Go.zald X89 hx hZ e89 A_b53 (own_inb p1 p2) (hb hby at_289) ?_
      show Go p e below W T89 (mkF m 290 #[.val (.int p1), .val (.int p2), .val (.long (v0_1 p1 p2)), .second, .val (.int (v0_5 p1 p2)), .val (.long (v0_6 p1 p2)), .second, .val (.int (v0_10 p1 p2)), .val (.int (v0_18 p1 p2)), .val (.ref b19), .val (.ref b53), .val (.int (v0_87 p1 p2))] [(.int (w0_86 p1 p2 (v0_87 p1 p2).toNatClampNeg)), (.int (f1 (w0_52 p1 p2 (v0_87 p1 p2).toNatClampNeg)))])
      by_cases c90 : (f1 (w0_52 p1 p2 (v0_87 p1 p2).toNatClampNeg)) = (w0_86 p1 p2 (v0_87 p1 p2).toNatClampNeg)
      · refine Go.of (fun _ k => XS.icmpNo X89.here hx rfl (hb hby at_290) rfl (Jvm.Free.XT.ii_ne_f c90) k) ?_
        show Go p e below W T89 (mkF m 293 #[.val (.int p1), .val (.int p2), .val (.long (v0_1 p1 p2)), .second, .val (.int (v0_5 p1 p2)), .val (.long (v0_6 p1 p2)), .second, .val (.int (v0_10 p1 p2)), .val (.int (v0_18 p1 p2)), .val (.ref b19), .val (.ref b53), .val (.int (v0_87 p1 p2))] [])
        refine Go.of (fun _ k => XS.iconst X89.here hx rfl (hb hby at_293) k) ?_
        show Go p e below W T89 (mkF m 294 #[.val (.int p1), .val (.int p2), .val (.long (v0_1 p1 p2)), .second, .val (.int (v0_5 p1 p2)), .val (.long (v0_6 p1 p2)), .second, .val (.int (v0_10 p1 p2)), .val (.int (v0_18 p1 p2)), .val (.ref b19), .val (.ref b53), .val (.int (v0_87 p1 p2))] [(.int (1 : Int32))])
        refine Go.of (fun _ k => XS.goto X89.here hx rfl (pc0 := 294) (pc' := 298) rfl (hb hby at_294) (by decide) (by decide) k) ?_
        have G91 := G91
        have q_v0_92 : (v0_92 p1 p2) = (1 : Int32) := by rw [v0_92, if_neg c88, if_pos c90]
        rw [q_v0_92] at G91
        exact G91 _ X89 e89
      · refine Go.of (fun _ k => XS.icmpYes X89.here hx rfl (pc0 := 290) (pc' := 297) rfl (hb hby at_290) rfl (Jvm.Free.XT.ii_ne_t c90) (by decide) (by decide) k) ?_
        show Go p e below W T89 (mkF m 297 #[.val (.int p1), .val (.int p2), .val (.long (v0_1 p1 p2)), .second, .val (.int (v0_5 p1 p2)), .val (.long (v0_6 p1 p2)), .second, .val (.int (v0_10 p1 p2)), .val (.int (v0_18 p1 p2)), .val (.ref b19), .val (.ref b53), .val (.int (v0_87 p1 p2))] [])
        refine Go.of (fun _ k => XS.iconst X89.here hx rfl (hb hby at_297) k) ?_
        have G91 := G91
        have q_v0_92 : (v0_92 p1 p2) = (0 : Int32) := by rw [v0_92, if_neg c88, if_neg c90]
        rw [q_v0_92] at G91
        exact G91 _ X89 e89
  intro T91 X91 e91
  show Go p e below W T91 (mkF m 298 #[.val (.int p1), .val (.int p2), .val (.long (v0_1 p1 p2)), .second, .val (.int (v0_5 p1 p2)), .val (.long (v0_6 p1 p2)), .second, .val (.int (v0_10 p1 p2)), .val (.int (v0_18 p1 p2)), .val (.ref b19), .val (.ref b53), .val (.int (v0_87 p1 p2))] [(.int (v0_92 p1 p2))])
  refine Go.of (fun _ k => XS.istore X91.here hx rfl (hb hby at_298) rfl (l' := #[.val (.int p1), .val (.int p2), .val (.long (v0_1 p1 p2)), .second, .val (.int (v0_5 p1 p2)), .val (.long (v0_6 p1 p2)), .second, .val (.int (v0_10 p1 p2)), .val (.int (v0_92 p1 p2)), .val (.ref b19), .val (.ref b53), .val (.int (v0_87 p1 p2))]) rfl k) ?_
  show Go p e below W T91 (mkF m 300 #[.val (.int p1), .val (.int p2), .val (.long (v0_1 p1 p2)), .second, .val (.int (v0_5 p1 p2)), .val (.long (v0_6 p1 p2)), .second, .val (.int (v0_10 p1 p2)), .val (.int (v0_92 p1 p2)), .val (.ref b19), .val (.ref b53), .val (.int (v0_87 p1 p2))] [])
  refine Go.of (fun _ k => XS.iload X91.here hx rfl (hb hby at_300) rfl k) ?_
  show Go p e below W T91 (mkF m 302 #[.val (.int p1), .val (.int p2), .val (.long (v0_1 p1 p2)), .second, .val (.int (v0_5 p1 p2)), .val (.long (v0_6 p1 p2)), .second, .val (.int (v0_10 p1 p2)), .val (.int (v0_92 p1 p2)), .val (.ref b19), .val (.ref b53), .val (.int (v0_87 p1 p2))] [(.int (v0_92 p1 p2))])
  have u_f0 : (f0 p1 p2) = (nar .boolean (v0_92 p1 p2)) := by rw [f0]
  have fin : Q0 Z p1 p2 h0 n0 (some (.int (f0 p1 p2))) h85 L85 := ⟨rfl, N, K⟩
  exact Go.retN X91 hx hret (Or.inl rfl) (hb hby at_302) hlk (Eq.trans rfl u_f0.symm) (fun t ht fe => hW t _ _ _ _ (by rw [ht, e91]; exact fin) fe (by decide) (by decide))
set_option maxRecDepth 65536 in
set_option maxHeartbeats 40000000 in
theorem comes_1 {Post : Tables → Env → Array Value → State → Outcome → State → Prop} (hpost : ∀ tb e args s v u, (limb_1_1.after args s (.returned v) u = true ∧ limb_1_2.after args s (.returned v) u = true ∧ True) → FrameEnd s (.returned v) u (Jvm.fieldLocs frame_1_writes args s ++ Jvm.arrayLocs frame_1_arrays args s ++ Jvm.staticLocs frame_1_statics s) 16 128 → Post tb e args s (.returned v) u) :
    ArmFor flags0 classFile x code maxLocals ret World_1 tables_1 room_1 Calls_1 rest_1 Pre_1 Post := by
  intro l hfl _ _ p e ha hc hk s m args below hf hA hF happ hP
  obtain ⟨hcalls, hrest, hpre⟩ := hP
  obtain ⟨-, -, -, hnamed, -, -, -, hat⟩ := (Spec.applies_iff hf).mp happ
  obtain ⟨hg, hn⟩ := and_e (Cond.before_iff.mp (show (Jvm.Cond.and given_1 narrow_1).before args s = true from hpre))
  obtain ⟨g0, y0⟩ := and_e hg
  obtain ⟨x0, y1⟩ := and_e y0
  obtain ⟨w0, w1, rfl⟩ : ∃ w0 w1 : Value, args = #[w0, w1] := by
    have hs : args.size = 2 := by simpa [Cond.value, given_1] using g0
    obtain ⟨L⟩ := args
    match L, hs with
    | [w0, w1], _ => exact ⟨w0, w1, rfl⟩
  have hw := fun d (hd : d ∈ tables_1) => atoms_spec (ws := Jvm.Cond.code x code maxLocals ret :: tables_1) hat d (List.mem_cons_of_mem _ hd)
  obtain ⟨i0, ei0⟩ := is_v x0
  obtain rfl : w0 = (.int i0) := Option.some.inj ei0
  obtain ⟨i1, ei1⟩ := is_v y1
  obtain rfl : w1 = (.int i1) := Option.some.inj ei1
  obtain ⟨n, o, h1, h2, h3, _, L, rfl, ⟨rfl, N, -⟩, hq⟩ := rm0 l s _ hw tables_1 i0 i1 s.heap s.heap.size (Nat.le_refl _) p e ha hc hk s m _ below hf ((Spec.applies_iff_loose hf).mp happ).1 ⟨rfl, State.Warmed39.refl s, rfl⟩ trivial
  rw [own_law i0 i1] at h3 hq
  refine ⟨n, _, h1, h2, h3, hpost _ _ _ _ _ _ ⟨Cond.after_iff.mpr rfl, Cond.after_iff.mpr (eq_i res_at (Term.int_eval (1)) rfl), trivial⟩ ⟨hq.1, hq.2.1, (hq.2.2.sift fun y hy => Or.inr (N y hy)).mono (by decide) (by decide)⟩⟩
theorem main_1_1 : Claimed_1_1 := comes_1 fun _ _ _ _ _ _ h hF => ⟨h.1, hF⟩
theorem main_1_2 : Claimed_1_2 := comes_1 fun _ _ _ _ _ _ h hF => ⟨h.2.1, hF⟩
end Jvm.Pilot.@@N@@
namespace Jvm.Pilot.@@N@@
open Jvm Jvm.ClassFile Sem Op Lib Jvm.Free Jvm.Stand Jvm.Pilot.@@N@@.Jvm.D
/-! MADE BY PROGRAM (witnessworld.py) out of the Statement's table words and the real class files: 11 classes; the members and pool entries that the words name. The judged class is class 1, her method 1. -/
namespace start1
open Jvm.ClassFile
def u (s : String) : CpInfo := .utf8 (stringToUtf16 s)
/-- a pool by its gaps: so many unusable entries, then the entry; so many at the end -/
def gap : Nat → List CpInfo → List CpInfo
  | 0, r => r
  | n + 1, r => .unusable :: gap n r
def poolList (es : List (Nat × CpInfo)) (last : Nat) : List CpInfo := es.foldr (fun e r => gap e.1 (e.2 :: r)) (gap last [])
def pool (es : List (Nat × CpInfo)) (last : Nat) : Array CpInfo := ⟨poolList es last⟩
def fileOf (pool : Array CpInfo) (this : Nat) (attrs : Array Attribute := #[]) (ms : Array MethodInfo := #[]) (fl : Nat := 33) (sup : Nat := 0) (ifs : Array Nat := #[]) (fds : Array FieldInfo := #[]) : ClassFile where
  minorVersion := 0
  majorVersion := 65
  constantPool := pool
  accessFlags := fl
  thisClass := this
  superClass := sup
  interfaces := ifs
  fields := fds
  methods := ms
  attributes := attrs
def plain (name : String) (sup : Option ClassId) : Class where
  name := name
  kind := .ordinary
  loader := none
  accessFlags := 33
  super := sup
  interfaces := #[]
  cf := none
  fields := #[]
  methods := #[]
  instanceTypes := #[]
  staticTypes := #[]
  resolved := #[]
  callSites := []
  init := .initialized
  statics := none
  mirror := none

def pool0 : Array CpInfo := pool [(5, u "<init>"), (0, u "()V"), (1, .class_ 10), (1, u "java/lang/Object")] 113

def k0m0 : Method := { name := "<init>", desc := "()V", sig := { parameters := [], returnType := none }, accessFlags := 1, code := none }
/-- java/lang/Object -/
def k0 : Class := { plain "java/lang/Object" none with
  accessFlags := 33
  interfaces := #[]
  cf := some (fileOf pool0 8 #[] #[{ accessFlags := 1, nameIndex := 5, descriptorIndex := 6, attributes := #[] }] 33 0 #[] #[])
  fields := #[]
  methods := #[k0m0]
  instanceTypes := #[]
  staticTypes := #[]
  resolved := Array.replicate 124 none
  statics := none }

def pool1 : Array CpInfo := pool [(2, .class_ 4), (1, u "java/lang/Object"), (0, u "<init>"), (0, u "()V"), (0, .long 48), (1, .long 10), (1, .long 97), (1, .long 26), (1, .methodref 16 17), (0, .class_ 18), (0, .nameAndType 19 20), (0, u "com/example/classmark/classmark/read/RecordStructure"), (0, u "isTagCharacter"), (0, u "(I)Z"), (2, .integer 2147483648), (0, .class_ 25), (0, u "com/example/classmark/classmark/read/RecordStructureIsTagCharacterPinLaw"), (2, u "law"), (0, u "(II)Z")] 7

def k1m0 : Method := { name := "<init>", desc := "()V", sig := { parameters := [], returnType := none }, accessFlags := 1, code := none }
def k1c1 : Code := { maxStack := 4, maxLocals := 12, code := code, exceptionTable := #[], attributes := #[] }
def k1m1 : Method := { name := "law", desc := "(II)Z", sig := { parameters := [.int, .int], returnType := some .boolean }, accessFlags := 9, code := some k1c1 }
/-- com/example/classmark/classmark/read/RecordStructureIsTagCharacterPinLaw -/
def k1 : Class := { plain "com/example/classmark/classmark/read/RecordStructureIsTagCharacterPinLaw" (some 0) with
  accessFlags := 49
  interfaces := #[]
  cf := some (fileOf pool1 24 #[] #[{ accessFlags := 1, nameIndex := 5, descriptorIndex := 6, attributes := #[] }, { accessFlags := 9, nameIndex := 28, descriptorIndex := 29, attributes := #[] }] 49 2 #[] #[])
  fields := #[]
  methods := #[k1m0, k1m1]
  instanceTypes := #[]
  staticTypes := #[]
  resolved := Array.replicate 37 none
  statics := none }

def pool2 : Array CpInfo := pool [(2, .class_ 4), (1, u "java/lang/Object"), (0, u "<init>"), (0, u "()V"), (0, .class_ 8), (0, u "com/example/classmark/classmark/read/RecordStructure"), (0, u "LEADER_LENGTH"), (0, u "I"), (2, u "TYPE_OF_RECORD_AT"), (1, u "TAG_LENGTH"), (3, u "isTagCharacter"), (0, u "(I)Z")] 3

def k2m0 : Method := { name := "<init>", desc := "()V", sig := { parameters := [], returnType := none }, accessFlags := 2, code := none }
def k2c1 : Code := { maxStack := 2, maxLocals := 1, code := prog_27_method_2_code, exceptionTable := #[], attributes := #[] }
def k2m1 : Method := { name := "isTagCharacter", desc := "(I)Z", sig := { parameters := [.int], returnType := some .boolean }, accessFlags := 8, code := some k2c1 }
/-- com/example/classmark/classmark/read/RecordStructure -/
def k2 : Class := { plain "com/example/classmark/classmark/read/RecordStructure" (some 0) with
  accessFlags := 48
  interfaces := #[]
  cf := some (fileOf pool2 7 #[] #[{ accessFlags := 2, nameIndex := 5, descriptorIndex := 6, attributes := #[] }, { accessFlags := 8, nameIndex := 19, descriptorIndex := 20, attributes := #[] }] 48 2 #[] #[{ accessFlags := 24, nameIndex := 9, descriptorIndex := 10, attributes := #[] }, { accessFlags := 24, nameIndex := 13, descriptorIndex := 10, attributes := #[] }, { accessFlags := 24, nameIndex := 15, descriptorIndex := 10, attributes := #[] }])
  fields := #[{ name := "LEADER_LENGTH", type := .int, accessFlags := 24, slot := 0, constantValue := 0 }, { name := "TYPE_OF_RECORD_AT", type := .int, accessFlags := 24, slot := 1, constantValue := 0 }, { name := "TAG_LENGTH", type := .int, accessFlags := 24, slot := 2, constantValue := 0 }]
  methods := #[k2m0, k2m1]
  instanceTypes := #[]
  staticTypes := #[.int, .int, .int]
  resolved := Array.replicate 24 none
  statics := none }

def pool3 : Array CpInfo := pool [(1, u "java/lang/Cloneable"), (0, .class_ 1), (0, u "java/lang/Object"), (0, .class_ 3)] 3

/-- java/lang/Cloneable -/
def k3 : Class := { plain "java/lang/Cloneable" (some 0) with
  accessFlags := 1537
  interfaces := #[]
  cf := some (fileOf pool3 2 #[] #[] 1537 4 #[] #[])
  fields := #[]
  methods := #[]
  instanceTypes := #[]
  staticTypes := #[]
  resolved := Array.replicate 8 none
  statics := none }

def pool4 : Array CpInfo := pool [(1, u "java/io/Serializable"), (0, .class_ 1), (0, u "java/lang/Object"), (0, .class_ 3)] 3

/-- java/io/Serializable -/
def k4 : Class := { plain "java/io/Serializable" (some 0) with
  accessFlags := 1537
  interfaces := #[]
  cf := some (fileOf pool4 2 #[] #[] 1537 4 #[] #[])
  fields := #[]
  methods := #[]
  instanceTypes := #[]
  staticTypes := #[]
  resolved := Array.replicate 8 none
  statics := none }

/-- the primitive boolean -/
def k5 : Class := { plain "boolean" none with kind := .primitive 'Z', accessFlags := 0x411 }
/-- [Z -/
def k6 : Class := { plain "[Z" (some 0) with kind := .array 5 .boolean, interfaces := #[3, 4], accessFlags := 1041 }

/-- the primitive byte -/
def k7 : Class := { plain "byte" none with kind := .primitive 'B', accessFlags := 0x411 }
/-- [B -/
def k8 : Class := { plain "[B" (some 0) with kind := .array 7 .byte, interfaces := #[3, 4], accessFlags := 1041 }

/-- the primitive int -/
def k9 : Class := { plain "int" none with kind := .primitive 'I', accessFlags := 0x411 }
/-- [I -/
def k10 : Class := { plain "[I" (some 0) with kind := .array 9 .int, interfaces := #[3, 4], accessFlags := 1041 }

def heap : Heap := #[]
def classes : Array Class := #[k0, k1, k2, k3, k4, k5, k6, k7, k8, k9, k10]
def interned : List (Array UInt16 × Addr) := []
def slotsUsed : Nat := 0
def theMethod : MethodId := ⟨1, 1⟩
def args0 : Array Value := #[.int 5, .int 6]
def aboutOver (below : List Frame) : State where
  vm := { classes := classes, interned := interned.toArray }
  heap := heap
  slotsUsed := slotsUsed
  threads := #[{ frames := .invoking theMethod args0 :: below }]
def below0 : List Frame := [.native { method := ⟨0, 0⟩, args := #[] }]
def about1 : State := aboutOver below0
def p0 : Program := .bare "" "" ""
def e0 : Env := launch0.env 0 0 0
theorem w_frames : about1.frames = Frame.invoking theMethod args0 :: below0 := rfl
set_option maxRecDepth 65536 in
theorem w_args : argsFit about1.vm theMethod args0 = true := by decide +kernel
set_option maxRecDepth 65536 in
theorem w_heap : heapFits about1 = true := by decide +kernel
set_option maxRecDepth 65536 in
theorem w_runnable : about1.curStatus? = some .runnable := by decide +kernel
set_option maxRecDepth 65536 in
theorem w_alone : about1.alone = true := by decide +kernel
set_option maxRecDepth 65536 in
theorem w_named : about1.methodNamed? x = some theMethod := by decide +kernel
set_option maxRecDepth 65536 in
theorem w_hears : about1.hears theMethod below0 = true := by decide +kernel
set_option maxRecDepth 65536 in
theorem w_ripe : about1.ripe theMethod args0 below0 = true := by decide +kernel
theorem w_running : about1.status = .running := rfl
set_option maxRecDepth 65536 in
theorem w_room : about1.hasRoom e0.platform room_1 = true :=
  launch0.hasRoom_least _ room_1 (by decide +kernel) (by decide +kernel) (by decide +kernel) (by decide +kernel) (by decide +kernel) (by decide +kernel)
theorem allAtoms_all (ts : List Jvm.Cond) (a : Array Jvm.Value) (st : Jvm.State) : (allAtoms ts).before a st = ts.all (fun c => c.before a st) := by
  induction ts with
  | nil => rfl
  | cons c t ih =>
    show (Jvm.Cond.and c (allAtoms t)).before a st = _
    rw [Jvm.Cond.before_and, ih, List.all_cons]
def words1 : List Jvm.Cond := Jvm.Cond.code x code maxLocals ret :: tables_1
/-- a 'code' word, met by the world's own term for the bytes: nothing is compared byte by byte -/
theorem code_word {y : MethodName} {bytes : ByteArray} {mx : Nat} {rt : Option FieldType} {a : Array Value} {s : State} {m : MethodId} {meth : Method} {c : Code} (h1 : s.methodNamed? y = some m) (h2 : s.vm.method? m = some meth) (h3 : meth.code = some c) (h4 : c.code = bytes)
    (h5 : (c.maxLocals == mx && c.exceptionTable.isEmpty && decide (c.maxStack ≤ mostOperands) && decide (meth.sig.returnType = rt) && !meth.locks && decide (parseMethodDescriptor y.desc = some meth.sig)) = true) : (Jvm.Cond.code y bytes mx rt).before a s = true := by
  simp only [Bool.and_eq_true, beq_iff_eq, Bool.not_eq_true', decide_eq_true_eq] at h5
  obtain ⟨⟨⟨⟨⟨g1, g2⟩, g3⟩, g4⟩, g5⟩, g6⟩ := h5
  simp [Cond.before, Cond.holds, Cond.value, h1, h2, h3, h4, g1, g2, g3, g4, g5, g6]
def isCode : Jvm.Cond → Bool
  | .code _ _ _ _ => true
  | _ => false
theorem all_split {L : List Jvm.Cond} {P : Jvm.Cond → Bool} (h1 : L.all (fun c => isCode c || P c) = true) (h2 : ∀ c ∈ L.filter isCode, P c = true) : L.all P = true := by
  refine List.all_eq_true.mpr fun c hc => ?_
  have h := List.all_eq_true.mp h1 c hc
  rcases Bool.eq_false_or_eq_true (isCode c) with hi | hi
  · exact h2 c (List.mem_filter.mpr ⟨hc, hi⟩)
  · simpa [hi] using h
set_option maxRecDepth 65536 in
theorem w_c0 : (Jvm.Cond.code x code maxLocals ret).before args0 about1 = true := code_word (m := ⟨1, 1⟩) (meth := k1m1) (c := k1c1) (by decide +kernel) rfl rfl rfl (by decide +kernel)
set_option maxRecDepth 65536 in
theorem w_c1 : (Jvm.Cond.code ({ cls := "com/example/classmark/classmark/read/RecordStructure", name := "isTagCharacter", desc := "(I)Z" } : Jvm.MethodName) prog_27_method_2_code (1 : Nat) (Option.some Jvm.ClassFile.FieldType.boolean)).before args0 about1 = true := code_word (m := ⟨2, 1⟩) (meth := k2m1) (c := k2c1) (by decide +kernel) rfl rfl rfl (by decide +kernel)
def codes1 : List Jvm.Cond := [Jvm.Cond.code x code maxLocals ret, Jvm.Cond.code ({ cls := "com/example/classmark/classmark/read/RecordStructure", name := "isTagCharacter", desc := "(I)Z" } : Jvm.MethodName) prog_27_method_2_code (1 : Nat) (Option.some Jvm.ClassFile.FieldType.boolean)]
set_option maxRecDepth 65536 in
theorem codes_eq : words1.filter isCode = codes1 := rfl
theorem w_codes : ∀ c ∈ words1.filter isCode, c.before args0 about1 = true := by
  rw [codes_eq]
  intro c hc
  simp only [codes1, List.mem_cons, List.not_mem_nil, or_false] at hc
  rcases hc with rfl | rfl
  · exact w_c0
  · exact w_c1
set_option maxRecDepth 65536 in
theorem w_t1 : words1.all (fun c => isCode c || c.before args0 about1) = true := by decide +kernel
theorem w_tables : (allAtoms (Jvm.Cond.code x code maxLocals ret :: tables_1)).before args0 about1 = true := by
  rw [allAtoms_all]
  show words1.all (fun c => c.before args0 about1) = true
  refine all_split ?_ w_codes
  rw [w_t1]
set_option maxRecDepth 65536 in
theorem w_case : (Jvm.Cond.and given_1 narrow_1).before args0 about1 = true := by decide +kernel
theorem w_applies : (headSpec (Jvm.Cond.code x code maxLocals ret :: tables_1) room_1).applies x e0.platform about1 = true :=
  (Spec.applies_iff w_frames).mpr ⟨w_running, w_runnable, w_alone, w_named, w_hears, w_ripe, w_room, w_tables⟩
theorem atStart : AtStart classFile x code maxLocals ret World_1 tables_1 room_1 Calls_1 rest_1 Pre_1 launch0 p0 e0 about1 theMethod args0 below0 :=
  ⟨lists_1, trivial, launch0.admits_env _ _ _, launch0.least_env, fairChoices_fair.cas, fairChoices_fair.clock, w_frames, w_args, w_heap, w_applies, trivial, trivial, w_case⟩
end start1
theorem witness_1 : WitnessClaimed_1 := ⟨start1.p0, start1.e0, start1.about1, start1.theMethod, start1.args0, start1.below0, start1.atStart⟩
end Jvm.Pilot.@@N@@
