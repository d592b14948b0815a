import JvmDerived
import JvmDerived.Pilot.@@N@@Statement
import JvmDerived.Pilot.@@N@@Code
set_option linter.unusedVariables false
set_option linter.unusedSimpArgs false
namespace Jvm.Pilot.@@N@@
open Jvm Jvm.ClassFile Sem Op Lib Jvm.Free Jvm.Stand Jvm.LawKit Jvm.RoadKit Bundle Jvm.Pilot.@@N@@.Jvm.D
section OwnKit
variable {p : Program} {l : Launch} {e : Env} {R : Room} {s : State} {m : MethodId} {args : Array Value} {below : List Frame} {meth : Method} {c : Code} {T : State} {locs : List Loc} {cells slots : Nat} {Z : State} {a0 : Array Value} {h : Heap} {W : State → Outcome → Prop}
/-- what a walk owes from a frame on -/
def Go (p : Program) (e : Env) (below : List Frame) (W : State → Outcome → Prop) (T : State) (g : JFrame) : Prop := ∃ t o, Steps p.tables e below (T.setTop g) t ∧ t.status = .running ∧ Ended t below o ∧ W t o
theorem Go.of {T T' : State} {g g' : JFrame} (q : ∀ t, Steps p.tables e below (T'.setTop g') t → Steps p.tables e below (T.setTop g) t) (k : Go p e below W T' g') : Go p e below W T g := by
  obtain ⟨t, o, h1, h2⟩ := k
  exact ⟨t, o, q t h1, h2⟩
theorem Go.ret (X : Stand p l e R s m args below meth c T locs cells slots) {g : JFrame} {v : Option Value} (hv : meth.sig.returnType = none → v = none) (hk : meth.locks = false)
    (st : ∀ fs, (∀ (f : JFrame) (acts : List Action), f.method = m → f.locked = none → f.entered = [] → (doReturn e (T.setTop f) acts v).1 = T.setFrames fs) → Steps p.tables e below (T.setTop g) (T.setFrames fs))
    (hq : ∀ t : State, t.heap = T.heap → FrameEnd s (.returned v) t locs cells slots → W t (.returned v)) : Go p e below W T g := by
  obtain ⟨fs, hr, hrun, hended, hW, hsame⟩ := X.leave (v := v) hv hk
  exact ⟨_, _, st fs hr, hrun, hended, hq _ rfl ⟨⟨_, rfl⟩, hW, hsame⟩⟩
/-- ireturn of a boolean, byte, char, short -/
theorem Go.retN (X : Stand p l e R s m args below meth c T locs cells slots) (hx : p.tables.exec = Jvm.exec) {pc : Nat} {Ls : Array Slot} {z w : Int32} {t : FieldType} {rest : List Value} (hret : meth.sig.returnType = some t) (ht : t = .boolean ∨ t = .byte ∨ t = .char ∨ t = .short) (hd : decode c.code pc = .ok (.ireturn, 1)) (hk : meth.locks = false) (hn : nar t z = w)
    (hq : ∀ t : State, t.heap = T.heap → FrameEnd s (.returned (some (.int w))) t locs cells slots → W t (.returned (some (.int w)))) : Go p e below W T (mkF m pc Ls (.int z :: rest)) := by
  subst hn
  exact Go.ret X (fun q => by rw [hret] at q; cases q) hk (fun fs hr => Jvm.RoadKit.retN X hx hret ht hd hr) hq
theorem Go.retI (X : Stand p l e R s m args below meth c T locs cells slots) (hx : p.tables.exec = Jvm.exec) {pc : Nat} {Ls : Array Slot} {z w : Int32} {rest : List Value} (hret : meth.sig.returnType = some .int) (hd : decode c.code pc = .ok (.ireturn, 1)) (hk : meth.locks = false) (hn : z = w)
    (hq : ∀ t : State, t.heap = T.heap → FrameEnd s (.returned (some (.int w))) t locs cells slots → W t (.returned (some (.int w)))) : Go p e below W T (mkF m pc Ls (.int z :: rest)) := by
  subst hn
  exact Go.ret X (fun q => by rw [hret] at q; cases q) hk (fun fs hr => retOut X hx hret rfl (Or.inl ⟨rfl, Or.inl rfl, z, rfl⟩) hd hr) hq
theorem Go.retJ (X : Stand p l e R s m args below meth c T locs cells slots) (hx : p.tables.exec = Jvm.exec) {pc : Nat} {Ls : Array Slot} {z w : Int64} {rest : List Value} (hret : meth.sig.returnType = some .long) (hd : decode c.code pc = .ok (.lreturn, 1)) (hk : meth.locks = false) (hn : z = w)
    (hq : ∀ t : State, t.heap = T.heap → FrameEnd s (.returned (some (.long w))) t locs cells slots → W t (.returned (some (.long w)))) : Go p e below W T (mkF m pc Ls (.long z :: rest)) := by
  subst hn
  exact Go.ret X (fun q => by rw [hret] at q; cases q) hk (fun fs hr => retOut X hx hret rfl (Or.inr (Or.inl ⟨rfl, rfl, z, rfl⟩)) hd hr) hq
theorem Go.retA (X : Stand p l e R s m args below meth c T locs cells slots) (hx : p.tables.exec = Jvm.exec) {pc : Nat} {Ls : Array Slot} {t : FieldType} {a : Addr} {rest : List Value} (hret : meth.sig.returnType = some t) (ht : t.isReference = true) (hnr : narrow t (.ref a) = .ref a) (hd : decode c.code pc = .ok (.areturn, 1)) (hk : meth.locks = false)
    (hq : ∀ t : State, t.heap = T.heap → FrameEnd s (.returned (some (.ref a))) t locs cells slots → W t (.returned (some (.ref a)))) : Go p e below W T (mkF m pc Ls (.ref a :: rest)) :=
  Go.ret X (fun q => by rw [hret] at q; cases q) hk (fun fs hr => retOut X hx hret hnr (Or.inr (Or.inr (Or.inr (Or.inr ⟨rfl, ht, rfl⟩)))) hd hr) hq
theorem Go.retV (X : Stand p l e R s m args below meth c T locs cells slots) (hx : p.tables.exec = Jvm.exec) {pc : Nat} {Ls : Array Slot} (hret : meth.sig.returnType = none) (hd : decode c.code pc = .ok (.return_, 1)) (hk : meth.locks = false)
    (hq : ∀ t : State, t.heap = T.heap → FrameEnd s (.returned none) t locs cells slots → W t (.returned none)) : Go p e below W T (mkF m pc Ls []) :=
  Go.ret X (fun _ => rfl) hk (fun fs hr => X.returnOut hx hret hd hr) hq
/-- a body's contract out of its walk -/
theorem own_body {y : MethodName} {bytes : ByteArray} {maxL : Nat} {ret : Option FieldType} {ws : List Jvm.Cond} {rm : Room} {as' : Array Value} {Q : Option Value → Heap → List Loc → Prop} {Ls : Array Slot} (hpn : plainFor y = true) (hef : ∀ m, entryFrame m as' maxL = mkF m 0 Ls [])
    (walk : ∀ (p : Program) (e : Env) (s : State) (m : MethodId) (below : List Frame) (meth : Method) (c : Code) (T : State) (W : State → Outcome → Prop), Stand p l e rm s m as' below meth c T [] 0 0 → p.tables.exec = Jvm.exec → c.code = bytes → c.maxLocals = maxL → meth.sig.returnType = ret → meth.locks = false → s.vm.findClass y.cls = some m.cls → meth.name = y.name → Z.Warmed39 s.vm → T.heap = h →
      (∀ (t : State) v L cells slots, Q v t.heap L → FrameEnd s (.returned v) t L cells slots → cells ≤ rm.cells → slots ≤ rm.slots → W t (.returned v)) → Go p e below W T (mkF m 0 Ls [])) :
    MetFree l y (head1 (Jvm.Cond.code y bytes maxL ret :: ws) rm) (fun a U => a = as' ∧ Z.Warmed39 U.vm ∧ U.heap = h) (fun _ _ _ _ _ => True) (fun _ U o U' => ∃ v L, o = .returned v ∧ Q v U'.heap L ∧ FrameEnd U o U' L rm.cells rm.slots) := by
  refine MetFree.of_bodySF hpn hisR ?_
  intro p e s m args below meth c s₁ Bd hml hP hK
  obtain ⟨rfl, hZ, hh⟩ := hP
  obtain ⟨t, o, h1, h2, h3, h4⟩ := walk p e s m below meth c s₁ (fun t o => ∃ v L, o = .returned v ∧ Q v t.heap L ∧ FrameEnd s o t L rm.cells rm.slots) (Stand.of_body Bd) Bd.exec Bd.bytes hml Bd.returns (BodyLoose.notSynchronized Bd) (findClass_of_methodNamed Bd.named) (name_of_methodNamed Bd.named Bd.method).1 hZ (by rw [← hh, Bd.state]; rfl)
    (fun t v L cells slots hQ hF hc hs => ⟨v, L, rfl, hQ, hF.1, hF.2.1, hF.2.2.mono hc hs⟩)
  exact ⟨t, o, castTop (hef m) h1, h2, h3, h4⟩
/-- a contract, written short -/
abbrev Con (l : Launch) (Z : State) (y : MethodName) (bytes : ByteArray) (maxL : Nat) (ret : Option FieldType) (ws : List Jvm.Cond) (rm : Room) (as' : Array Value) (h : Heap) (Q : Option Value → Heap → List Loc → Prop) : Prop :=
  MetFree l y (head1 (Jvm.Cond.code y bytes maxL ret :: ws) rm) (fun a U => a = as' ∧ Z.Warmed39 U.vm ∧ U.heap = h) (fun _ _ _ _ _ => True) (fun _ U o U' => ∃ v L, o = .returned v ∧ Q v U'.heap L ∧ FrameEnd U o U' L rm.cells rm.slots)
/-- what a callee that leaves the heap as it is says -/
def PQ (w : Value) (h0 : Heap) (v : Option Value) (h : Heap) (L : List Loc) : Prop := v = some w ∧ L = [] ∧ h = h0
theorem Go.callS (X : Stand p l e R s m args below meth c T locs cells slots) (hx : p.tables.exec = Jvm.exec) (hZ : Z.Warmed39 s.vm) {own : String} {index : Nat} {y : MethodName} {bytes : ByteArray} {maxL : Nat} {ret : Option FieldType} {rm : Room} {as' : Array Value} {Q : Option Value → Heap → List Loc → Prop} (hown : s.vm.findClass own = some m.cls)
    (w1 : (Jvm.Cond.methodLink own index y).before a0 Z = true) (w2 : (Jvm.Cond.static y).before a0 Z = true) (w3 : (Jvm.Cond.initialized y.cls).before a0 Z = true) (w4 : (Jvm.Cond.code y bytes maxL ret).before a0 Z = true) (hy : y.cls ≠ "java/lang/invoke/MethodHandle" ∧ y.cls ≠ "java/lang/invoke/VarHandle") (eT : T.heap = h)
    (hM : Con l Z y bytes maxL ret [] rm as' h Q) {V : Nat} (hf : rm.frames + 1 ≤ R.frames) (hl : V + (maxL + 11) + rm.locals ≤ R.locals) (hc : cells + rm.cells ≤ R.cells) (hs : slots + rm.slots ≤ R.slots)
    {pc : Nat} {Ls : Array Slot} {st : List Value} (hsize : Ls.size = c.maxLocals) {argsL rest : List Value} (has : argsL.toArray = as') (hlen : ∀ sig, parseMethodDescriptor y.desc = some sig → argsL.length = sig.parameters.length) (hstack : st = argsL.reverse ++ rest) (hV : (rest.map fun v => v.category).sum ≤ V) (hd : decode c.code pc = .ok (.invokestatic index, 3))
    (K : ∀ T' v L, Q v T'.heap L → Stand p l e R s m args below meth c T' (locs ++ L) (cells + rm.cells) (slots + rm.slots) → Go p e below W T' (mkF m (pc + 3) Ls (v.toList ++ rest))) : Go p e below W T (mkF m pc Ls st) := by
  obtain ⟨v, vm₁, ⟨T', L', k', n'⟩, -, X', ⟨L, hQ, e1, e2, e3⟩, st'⟩ := Jvm.LawKit.callS X hx hown (mvT hZ w1) (mvT hZ w2) (mvT hZ w3) (mvT hZ w4) hy (backOf (W := V) hM hZ w4 w3 hf hl) (g := mkF m pc Ls st) rfl hsize hlen hstack (by show 2 * 0 + _ ≤ _; omega) hd (fun _ _ => ⟨has, eT, hc, hs⟩)
  dsimp only [Pt.U, Pt.locs, Pt.cells, Pt.slots] at X' e1 e2 e3 st' hQ
  subst e1 e2 e3
  exact Go.of st' (K _ _ _ hQ X')
theorem Go.callP (X : Stand p l e R s m args below meth c T locs cells slots) (hx : p.tables.exec = Jvm.exec) (hZ : Z.Warmed39 s.vm) {own : String} {index : Nat} {y : MethodName} {bytes : ByteArray} {maxL : Nat} {ret : Option FieldType} {rm : Room} {as' : Array Value} {w : Value} (hown : s.vm.findClass own = some m.cls)
    (w1 : (Jvm.Cond.methodLink own index y).before a0 Z = true) (w2 : (Jvm.Cond.static y).before a0 Z = true) (w3 : (Jvm.Cond.initialized y.cls).before a0 Z = true) (w4 : (Jvm.Cond.code y bytes maxL ret).before a0 Z = true) (hy : y.cls ≠ "java/lang/invoke/MethodHandle" ∧ y.cls ≠ "java/lang/invoke/VarHandle") (eT : T.heap = h)
    (hM : Con l Z y bytes maxL ret [] rm as' h (PQ w h)) {V : Nat} (hf : rm.frames + 1 ≤ R.frames) (hl : V + (maxL + 11) + rm.locals ≤ R.locals) (z1 : rm.cells = 0) (z2 : rm.slots = 0) (hc : cells ≤ R.cells) (hs : slots ≤ R.slots)
    {pc : Nat} {Ls : Array Slot} {st : List Value} (hsize : Ls.size = c.maxLocals) {argsL rest : List Value} (has : argsL.toArray = as') (hlen : ∀ sig, parseMethodDescriptor y.desc = some sig → argsL.length = sig.parameters.length) (hstack : st = argsL.reverse ++ rest) (hV : (rest.map fun v => v.category).sum ≤ V) (hd : decode c.code pc = .ok (.invokestatic index, 3))
    (K : ∀ T', Stand p l e R s m args below meth c T' locs cells slots → T'.heap = h → Go p e below W T' (mkF m (pc + 3) Ls (w :: rest))) : Go p e below W T (mkF m pc Ls st) := by
  refine Go.callS X hx hZ hown w1 w2 w3 w4 hy eT hM hf hl (by rw [z1]; exact hc) (by rw [z2]; exact hs) hsize has hlen hstack hV hd ?_
  rintro T' v L ⟨rfl, rfl, h3⟩ X'
  rw [z1, z2, List.append_nil] at X'
  exact K T' X' h3
end OwnKit
section OwnHeap
variable {p : Program} {l : Launch} {e : Env} {R : Room} {s : State} {m : MethodId} {args : Array Value} {below : List Frame} {meth : Method} {c : Code} {T : State} {locs : List Loc} {cells slots : Nat} {Z : State} {a0 : Array Value} {h h' : Heap} {W : State → Outcome → Prop}
/-- an array: its kind, its length, the ints in its places -/
def AI (Z : State) (h : Heap) (a : Addr) (ty : FieldType) (n : Nat) (f : Nat → Int32) : Prop := ∃ cl : Cell, Arr Z h a cl ty ∧ cl.slots.size = n ∧ n < 2 ^ 31 ∧ ∀ j, j < n → cl.slots[j]? = some (.int (f j)) ∧ fits ty (.int (f j)) = true
theorem AI.lt {a : Addr} {ty : FieldType} {n : Nat} {f : Nat → Int32} (A : AI Z h a ty n f) : a < h.size := by obtain ⟨cl, A, -⟩ := A; exact A.lt
theorem AI.small {a : Addr} {ty : FieldType} {n : Nat} {f : Nat → Int32} (A : AI Z h a ty n f) : n < 2 ^ 31 := by obtain ⟨cl, -, -, h, -⟩ := A; exact h
theorem AI.ext {a : Addr} {ty : FieldType} {n : Nat} {f : Nat → Int32} (A : AI Z h a ty n f) (E : Ext h h') : AI Z h' a ty n f := by obtain ⟨cl, A, r⟩ := A; exact ⟨cl, A.ext E, r⟩
theorem AI.other {a b : Addr} {ty : FieldType} {n sl : Nat} {f : Nat → Int32} {v : Value} (A : AI Z h b ty n f) (W : Wr h h' a sl v) (q : b ≠ a) : AI Z h' b ty n f := by obtain ⟨cl, A, r⟩ := A; exact ⟨cl, A.other W q, r⟩
theorem AI.keep {a : Addr} {ty : FieldType} {n : Nat} {f : Nat → Int32} {ws : List Addr} (A : AI Z h a ty n f) (K : Keep h h' ws) (q : a ∉ ws) : AI Z h' a ty n f := by obtain ⟨cl, A, r⟩ := A; exact ⟨cl, ⟨K.2.1 a cl A.1 q, A.2⟩, r⟩
theorem AI.congr {a : Addr} {ty : FieldType} {n : Nat} {f g : Nat → Int32} (A : AI Z h a ty n f) (q : ∀ j, j < n → f j = g j) : AI Z h a ty n g := by obtain ⟨cl, A, r1, r2, r3⟩ := A; exact ⟨cl, A, r1, r2, fun j hj => by rw [← q j hj]; exact r3 j hj⟩
def upd (f : Nat → Int32) (i : Nat) (x : Int32) : Nat → Int32 := fun j => if j = i then x else f j
theorem AI.set {a : Addr} {ty : FieldType} {n i : Nat} {f : Nat → Int32} {x : Int32} (A : AI Z h a ty n f) (W : Wr h h' a i (.int x)) (hv : fits ty (.int x) = true) : AI Z h' a ty n (upd f i x) := by
  obtain ⟨cl, A, r1, r2, r3⟩ := A
  refine ⟨_, A.same W, by rw [sz_set]; exact r1, r2, fun j hj => ?_⟩
  simp only [Cell.setSlot, upd]
  by_cases q : j = i
  · subst q; rw [if_pos rfl]; exact ⟨by simp [r1, hj], hv⟩
  · rw [if_neg q, Array.getElem?_setIfInBounds_ne (Ne.symm q)]; exact r3 j hj
/-- a place within the length -/
def PV (h0 : Heap) (v : Option Value) (h : Heap) (L : List Loc) : Prop := v = none ∧ L = [] ∧ h = h0
def inb (j : Int32) (n : Nat) : Prop := ¬ j < 0 ∧ j.toNatClampNeg < n
theorem inb.no {cl : Cell} {j : Int32} {n : Nat} (q : inb j n) (r : cl.slots.size = n) : ¬ (j < 0 ∨ cl.slots.size ≤ j.toNatClampNeg) := by rw [r]; exact fun z => z.elim q.1 (fun z => absurd q.2 (Nat.not_lt.mpr z))
theorem Go.alen (X : Stand p l e R s m args below meth c T locs cells slots) (hx : p.tables.exec = Jvm.exec) (hZ : Z.Warmed39 s.vm) (eT : T.heap = h) {a : Addr} {ty : FieldType} {n : Nat} {f : Nat → Int32} (A : AI Z h a ty n f) {pc : Nat} {Ls : Array Slot} {st : List Value} (hd : decode c.code pc = .ok (.arraylength, 1))
    (K : Go p e below W T (mkF m (pc + 1) Ls (.int n.toInt32 :: st))) : Go p e below W T (mkF m pc Ls (.ref a :: st)) := by
  obtain ⟨cl, A, r1, -⟩ := A
  subst r1
  exact Go.of (fun t k => X.arraylength hx (by rw [eT]; exact A.1) (State.isArrayOf_alike hZ.alike A.2.1) (g := mkF m pc Ls (.ref a :: st)) rfl rfl hd t k) K
theorem Go.iald (X : Stand p l e R s m args below meth c T locs cells slots) (hx : p.tables.exec = Jvm.exec) (hZ : Z.Warmed39 s.vm) (eT : T.heap = h) {a : Addr} {n : Nat} {f : Nat → Int32} (A : AI Z h a .int n f) {j : Int32} (hj : inb j n) {pc : Nat} {Ls : Array Slot} {st : List Value} (hd : decode c.code pc = .ok (.iaload, 1))
    (K : Go p e below W T (mkF m (pc + 1) Ls (.int (f j.toNatClampNeg) :: st))) : Go p e below W T (mkF m pc Ls (.int j :: .ref a :: st)) := by
  obtain ⟨cl, A, r1, -, r3⟩ := A
  exact Go.of (fun t k => X.iaload hx (j := j) (v := .int (f j.toNatClampNeg)) (by rw [eT]; exact A.1) (State.isArrayOf_alike hZ.alike A.2.1) A.2.2 (hj.no r1) (r3 _ hj.2).1 (g := mkF m pc Ls (.int j :: .ref a :: st)) rfl rfl hd t k) K
theorem Go.cald (X : Stand p l e R s m args below meth c T locs cells slots) (hx : p.tables.exec = Jvm.exec) (hZ : Z.Warmed39 s.vm) (eT : T.heap = h) {a : Addr} {n : Nat} {f : Nat → Int32} (A : AI Z h a .char n f) {j : Int32} (hj : inb j n) {pc : Nat} {Ls : Array Slot} {st : List Value} (hd : decode c.code pc = .ok (.caload, 1))
    (K : Go p e below W T (mkF m (pc + 1) Ls (.int (f j.toNatClampNeg) :: st))) : Go p e below W T (mkF m pc Ls (.int j :: .ref a :: st)) := by
  obtain ⟨cl, A, r1, -, r3⟩ := A
  exact Go.of (fun t k => X.caload hx (j := j) (v := .int (f j.toNatClampNeg)) (by rw [eT]; exact A.1) (State.isArrayOf_alike hZ.alike A.2.1) A.2.2 (hj.no r1) (r3 _ hj.2).1 (g := mkF m pc Ls (.int j :: .ref a :: st)) rfl rfl hd t k) K
theorem Go.bald (X : Stand p l e R s m args below meth c T locs cells slots) (hx : p.tables.exec = Jvm.exec) (hZ : Z.Warmed39 s.vm) (eT : T.heap = h) {a : Addr} {n : Nat} {f : Nat → Int32} (A : AI Z h a .byte n f) {j : Int32} (hj : inb j n) {pc : Nat} {Ls : Array Slot} {st : List Value} (hd : decode c.code pc = .ok (.baload, 1))
    (K : Go p e below W T (mkF m (pc + 1) Ls (.int (f j.toNatClampNeg) :: st))) : Go p e below W T (mkF m pc Ls (.int j :: .ref a :: st)) := by
  obtain ⟨cl, A, r1, -, r3⟩ := A
  exact Go.of (fun t k => X.baloadBytes hx (j := j) (v := .int (f j.toNatClampNeg)) (by rw [eT]; exact A.1) (State.isArrayOf_alike hZ.alike A.2.1) A.2.2 (hj.no r1) (r3 _ hj.2).1 (g := mkF m pc Ls (.int j :: .ref a :: st)) rfl rfl hd t k) K
theorem Go.zald (X : Stand p l e R s m args below meth c T locs cells slots) (hx : p.tables.exec = Jvm.exec) (hZ : Z.Warmed39 s.vm) (eT : T.heap = h) {a : Addr} {n : Nat} {f : Nat → Int32} (A : AI Z h a .boolean n f) {j : Int32} (hj : inb j n) {pc : Nat} {Ls : Array Slot} {st : List Value} (hd : decode c.code pc = .ok (.baload, 1))
    (K : Go p e below W T (mkF m (pc + 1) Ls (.int (f j.toNatClampNeg) :: st))) : Go p e below W T (mkF m pc Ls (.int j :: .ref a :: st)) := by
  obtain ⟨cl, A, r1, -, r3⟩ := A
  exact Go.of (fun t k => X.baloadBooleans hx (j := j) (v := .int (f j.toNatClampNeg)) (by rw [eT]; exact A.1) (State.isArrayOf_alike hZ.alike A.2.1) A.2.2 (hj.no r1) (r3 _ hj.2).1 (g := mkF m pc Ls (.int j :: .ref a :: st)) rfl rfl hd t k) K
theorem Go.ist (X : Stand p l e R s m args below meth c T locs cells slots) (hx : p.tables.exec = Jvm.exec) (hZ : Z.Warmed39 s.vm) (eT : T.heap = h) {n0 : Nat} (N : Fr n0 locs) {a : Addr} (ga : n0 ≤ a) {n : Nat} {f : Nat → Int32} (A : AI Z h a .int n f) {j x : Int32} (hj : inb j n) {pc : Nat} {Ls : Array Slot} {st : List Value} (hd : decode c.code pc = .ok (.iastore, 1))
    (K : ∀ T' h' L', Stand p l e R s m args below meth c T' L' cells slots → Fr n0 L' → T'.heap = h' → Wr h h' a j.toNatClampNeg (.int x) → AI Z h' a .int n (upd f j.toNatClampNeg x) → Go p e below W T' (mkF m (pc + 1) Ls st)) : Go p e below W T (mkF m pc Ls (.int x :: .int j :: .ref a :: st)) := by
  obtain ⟨cl, A', r1, r2, r3⟩ := id A
  obtain ⟨T', h', X', e', W', st'⟩ := stI X hx hZ eT A' (j := j) (hj.no r1) (g := mkF m pc Ls (.int x :: .int j :: .ref a :: st)) rfl rfl hd
  exact Go.of st' (K _ _ _ X' (Fr.snoc X' N ga) e' W' (A.set W' rfl))
theorem Go.bst (X : Stand p l e R s m args below meth c T locs cells slots) (hx : p.tables.exec = Jvm.exec) (hZ : Z.Warmed39 s.vm) (eT : T.heap = h) {n0 : Nat} (N : Fr n0 locs) {a : Addr} (ga : n0 ≤ a) {n : Nat} {f : Nat → Int32} (A : AI Z h a .byte n f) {j x : Int32} (hj : inb j n) {pc : Nat} {Ls : Array Slot} {st : List Value} (hd : decode c.code pc = .ok (.bastore, 1))
    (K : ∀ T' h' L', Stand p l e R s m args below meth c T' L' cells slots → Fr n0 L' → T'.heap = h' → Wr h h' a j.toNatClampNeg (.int (nar .byte x)) → AI Z h' a .byte n (upd f j.toNatClampNeg (nar .byte x)) → Go p e below W T' (mkF m (pc + 1) Ls st)) : Go p e below W T (mkF m pc Ls (.int x :: .int j :: .ref a :: st)) := by
  obtain ⟨cl, A', r1, r2, r3⟩ := id A
  obtain ⟨T', h', X', e', W', st'⟩ := stB X hx hZ eT A' (j := j) (hj.no r1) (g := mkF m pc Ls (.int x :: .int j :: .ref a :: st)) rfl rfl hd
  exact Go.of st' (K _ _ _ X' (Fr.snoc X' N ga) e' W' (A.set W' (fits_nar_byte _)))
theorem Go.zst (X : Stand p l e R s m args below meth c T locs cells slots) (hx : p.tables.exec = Jvm.exec) (hZ : Z.Warmed39 s.vm) (eT : T.heap = h) {n0 : Nat} (N : Fr n0 locs) {a : Addr} (ga : n0 ≤ a) {n : Nat} {f : Nat → Int32} (A : AI Z h a .boolean n f) {j x : Int32} (hj : inb j n) {pc : Nat} {Ls : Array Slot} {st : List Value} (hd : decode c.code pc = .ok (.bastore, 1))
    (K : ∀ T' h' L', Stand p l e R s m args below meth c T' L' cells slots → Fr n0 L' → T'.heap = h' → Wr h h' a j.toNatClampNeg (.int (nar .boolean x)) → AI Z h' a .boolean n (upd f j.toNatClampNeg (nar .boolean x)) → Go p e below W T' (mkF m (pc + 1) Ls st)) : Go p e below W T (mkF m pc Ls (.int x :: .int j :: .ref a :: st)) := by
  obtain ⟨cl, A', r1, r2, r3⟩ := id A
  obtain ⟨T', h', X', e', W', st'⟩ := stZ X hx hZ eT A' (j := j) (hj.no r1) (g := mkF m pc Ls (.int x :: .int j :: .ref a :: st)) rfl rfl hd
  exact Go.of st' (K _ _ _ X' (Fr.snoc X' N ga) e' W' (A.set W' (fits_nar_bool _)))
theorem Go.cst (X : Stand p l e R s m args below meth c T locs cells slots) (hx : p.tables.exec = Jvm.exec) (hZ : Z.Warmed39 s.vm) (eT : T.heap = h) {n0 : Nat} (N : Fr n0 locs) {a : Addr} (ga : n0 ≤ a) {n : Nat} {f : Nat → Int32} (A : AI Z h a .char n f) {j x : Int32} (hj : inb j n) {pc : Nat} {Ls : Array Slot} {st : List Value} (hd : decode c.code pc = .ok (.castore, 1))
    (K : ∀ T' h' L', Stand p l e R s m args below meth c T' L' cells slots → Fr n0 L' → T'.heap = h' → Wr h h' a j.toNatClampNeg (.int (nar .char x)) → AI Z h' a .char n (upd f j.toNatClampNeg (nar .char x)) → Go p e below W T' (mkF m (pc + 1) Ls st)) : Go p e below W T (mkF m pc Ls (.int x :: .int j :: .ref a :: st)) := by
  obtain ⟨cl, A', r1, r2, r3⟩ := id A
  obtain ⟨T', h', X', e', W', st'⟩ := stC X hx hZ eT A' (j := j) (hj.no r1) (g := mkF m pc Ls (.int x :: .int j :: .ref a :: st)) rfl rfl hd
  exact Go.of st' (K _ _ _ X' (Fr.snoc X' N ga) e' W' (A.set W' (fits_nar_char _)))
theorem AI.new {b cA : Nat} {ty : FieldType} {n : Int32} (A : Arr Z h b (newA cA ty n) ty) (hd : defaultValue ty = .int 0) (hf : fits ty (.int 0) = true) : AI Z h b ty n.toNatClampNeg (fun _ => 0) := by
  refine ⟨_, A, sz_new _ _ _, ?_, fun j hj => ?_⟩
  · show n.toInt.toNat < 2 ^ 31
    have := n.toInt_lt; omega
  · exact ⟨by simp [newA, hj, hd], hf⟩
theorem Go.newA (X : Stand p l e R s m args below meth c T locs cells slots) (hx : p.tables.exec = Jvm.exec) (hZ : Z.Warmed39 s.vm) {aty : ArrayType} (w : (Jvm.Cond.arrayClass (newarray.typeOf aty)).before a0 Z = true) (hdef : defaultValue (newarray.typeOf aty) = .int 0) (hft : fits (newarray.typeOf aty) (.int 0) = true) {ad : String} (had : "[" ++ (newarray.typeOf aty).toString = ad) (eT : T.heap = h) {pc : Nat} {Ls : Array Slot} {n : Int32} {st : List Value} (hd : decode c.code pc = .ok (.newarray aty, 2))
    (hn : ¬ n < 0) {cap : Nat} (hcap : n.toNatClampNeg ≤ cap) (hb : cap * 8 ≤ 536870912) (hc : cells + 1 ≤ R.cells) (hl : slots + cap ≤ R.slots)
    (K : ∀ T' h' b, b = h.size → Stand p l e R s m args below meth c T' locs (cells + 1) (slots + cap) → T'.heap = h' → Ext h h' → Exa Z h' b ad → AI Z h' b (newarray.typeOf aty) n.toNatClampNeg (fun _ => 0) → Go p e below W T' (mkF m (pc + 2) Ls (.ref b :: st))) : Go p e below W T (mkF m pc Ls (.int n :: st)) := by
  obtain ⟨T', h', cA, X', e', E', A', B', st'⟩ := newPE X hx hZ w eT (g := mkF m pc Ls (.int n :: st)) rfl hd rfl hn hcap hb hc hl had
  exact Go.of st' (K _ _ _ rfl X' e' E' B' (AI.new A' hdef hft))
theorem Go.newO (X : Stand p l e R s m args below meth c T locs cells slots) (hx : p.tables.exec = Jvm.exec) (hZ : Z.Warmed39 s.vm) {own C : String} {index n : Nat} (hown : s.vm.findClass own = some m.cls) (w : (Jvm.Cond.classLink own index C).before a0 Z = true) (wi : (Jvm.Cond.instantiable C n).before a0 Z = true) (wz : (Jvm.Cond.initialized C).before a0 Z = true) (eT : T.heap = h)
    {pc : Nat} {Ls : Array Slot} {st : List Value} (hd : decode c.code pc = .ok (.new index, 3)) (hc : cells + 1 ≤ R.cells) (hl : slots + n ≤ R.slots)
    (K : ∀ T' h' b, b = h.size → Stand p l e R s m args below meth c T' locs (cells + 1) (slots + n) → T'.heap = h' → Ext h h' → Exa Z h' b C → (∀ {O nm d : String} {ty : FieldType}, Laid Z a0 C O nm d → parseFieldDescriptor d = some ty → Fld Z h' b O nm d (defaultValue ty)) → Go p e below W T' (mkF m (pc + 3) Ls (.ref b :: st))) : Go p e below W T (mkF m pc Ls st) := by
  obtain ⟨T', h', X', e', E', A', D', -, st'⟩ := Jvm.RoadKit.newO X hx hZ hown w wi wz eT (g := mkF m pc Ls st) rfl hd hc hl
  exact Go.of st' (K _ _ _ rfl X' e' E' A' D')
theorem Go.getF (X : Stand p l e R s m args below meth c T locs cells slots) (hx : p.tables.exec = Jvm.exec) (hZ : Z.Warmed39 s.vm) {own O n d : String} {index : Nat} (hown : s.vm.findClass own = some m.cls) (w : (Jvm.Cond.fieldLink own index O n d).before a0 Z = true) (eT : T.heap = h) {a : Addr} {v : Value} (F : Fld Z h a O n d v)
    {pc : Nat} {Ls : Array Slot} {st : List Value} (hd : decode c.code pc = .ok (.getfield index, 3)) (K : ∀ T', Stand p l e R s m args below meth c T' locs cells slots → T'.heap = h → Go p e below W T' (mkF m (pc + 3) Ls (v :: st))) : Go p e below W T (mkF m pc Ls (.ref a :: st)) := by
  obtain ⟨T', X', e', st'⟩ := Jvm.RoadKit.getF X hx hZ hown (host := "") (Or.inl w) Via.refl eT F (g := mkF m pc Ls (.ref a :: st)) rfl rfl hd
  exact Go.of st' (K _ X' e')
theorem Go.putF (X : Stand p l e R s m args below meth c T locs cells slots) (hx : p.tables.exec = Jvm.exec) (hZ : Z.Warmed39 s.vm) {own O n d C : String} {index kk : Nat} {ty : FieldType} (hown : s.vm.findClass own = some m.cls) (w : (Jvm.Cond.fieldLink own index O n d).before a0 Z = true) (eT : T.heap = h) {n0 : Nat} (N : Fr n0 locs) {a : Addr} (ga : n0 ≤ a) {v old : Value} (F : Fld Z h a O n d old) (E : Exa Z h a C)
    (L : (Jvm.Cond.lays C O n d).before a0 Z = true ∨ ((Jvm.Cond.laysFinal C O n d).before a0 Z = true ∧ own = O ∧ meth.name = "<init>")) (wi : (Jvm.Cond.instantiable C kk).before a0 Z = true) (hty : parseFieldDescriptor d = some ty) {v' : Value} (hn : narrow ty v = v') (hf : fits ty v' = true)
    {pc : Nat} {Ls : Array Slot} {st : List Value} (hd : decode c.code pc = .ok (.putfield index, 3)) (K : ∀ T' h' L', Stand p l e R s m args below meth c T' L' cells slots → Fr n0 L' → T'.heap = h' → Wr h h' a (Jvm.RoadKit.slotOf Z O n d) v' → Fld Z h' a O n d v' → Go p e below W T' (mkF m (pc + 3) Ls st)) : Go p e below W T (mkF m pc Ls (v :: .ref a :: st)) := by
  obtain ⟨T', h', X', e', W', st'⟩ := putFN X hx hZ hown w Via.refl eT F E L wi hty hn hf (g := mkF m pc Ls (v :: .ref a :: st)) rfl rfl hd
  exact Go.of st' (K _ _ _ X' (Fr.snoc X' N ga) e' W' (F.same W'))
theorem Go.initO (X : Stand p l e R s m args below meth c T locs cells slots) (hx : p.tables.exec = Jvm.exec) (hZ : Z.Warmed39 s.vm) {own : String} {idx : Nat} (hown : s.vm.findClass own = some m.cls) (w1 : (Jvm.Cond.methodLink own idx Lib.objectInit).before a0 Z = true) (w2 : (Jvm.Cond.instanceMethod Lib.objectInit).before a0 Z = true)
    (w3 : (Jvm.Cond.code Lib.objectInit Jvm.LibCode.Object.Init0.code 1 none).before a0 Z = true) (eT : T.heap = h) {pc : Nat} {Ls : Array Slot} {st : List Value} (hsize : Ls.size = c.maxLocals) {a : Addr} (hd : decode c.code pc = .ok (.invokespecial idx, 3)) (hf : 1 ≤ R.frames) {V : Nat} (hV : (st.map fun v => v.category).sum ≤ V) (hl : V + 12 ≤ R.locals)
    (K : ∀ T', Stand p l e R s m args below meth c T' locs cells slots → T'.heap = h → Go p e below W T' (mkF m (pc + 3) Ls st)) : Go p e below W T (mkF m pc Ls (.ref a :: st)) := by
  obtain ⟨T', X', e', st'⟩ := Jvm.RoadKit.initO X hx hZ hown w1 w2 w3 eT (g := mkF m pc Ls (.ref a :: st)) rfl hsize rfl hd hf (W := V) (by show 2 * 0 + _ ≤ _; omega) hl
  exact Go.of st' (K _ X' e')
/-- a constructor by its contract -/
theorem Go.callI (X : Stand p l e R s m args below meth c T locs cells slots) (hx : p.tables.exec = Jvm.exec) (hZ : Z.Warmed39 s.vm) {own : String} {index : Nat} {y : MethodName} {bytes : ByteArray} {maxL : Nat} {rm : Room} {as' : Array Value} {Q : Option Value → Heap → List Loc → Prop} (hy1 : y.name = "<init>") (hown : s.vm.findClass own = some m.cls)
    (w1 : (Jvm.Cond.methodLink own index y).before a0 Z = true) (w2 : (Jvm.Cond.instanceMethod y).before a0 Z = true) (w3 : (Jvm.Cond.initialized y.cls).before a0 Z = true) (w4 : (Jvm.Cond.code y bytes maxL none).before a0 Z = true) (hy : y.cls ≠ "java/lang/invoke/MethodHandle" ∧ y.cls ≠ "java/lang/invoke/VarHandle") (eT : T.heap = h)
    (hM : Con l Z y bytes maxL none [] rm as' h Q) {V : Nat} (hf : rm.frames + 1 ≤ R.frames) (hl : V + (maxL + 11) + rm.locals ≤ R.locals) (hc : cells + rm.cells ≤ R.cells) (hs : slots + rm.slots ≤ R.slots)
    {pc : Nat} {Ls : Array Slot} {st : List Value} (hsize : Ls.size = c.maxLocals) {a : Addr} {argsL rest : List Value} (has : (.ref a :: argsL).toArray = as') (hlen : ∀ sig, parseMethodDescriptor y.desc = some sig → argsL.length = sig.parameters.length) (hstack : st = argsL.reverse ++ .ref a :: rest) (hV : (rest.map fun v => v.category).sum ≤ V) (hd : decode c.code pc = .ok (.invokespecial index, 3))
    (K : ∀ T' v L, Q v T'.heap L → Stand p l e R s m args below meth c T' (locs ++ L) (cells + rm.cells) (slots + rm.slots) → Go p e below W T' (mkF m (pc + 3) Ls (v.toList ++ rest))) : Go p e below W T (mkF m pc Ls st) := by
  obtain ⟨v, vm₁, ⟨T', L', k', n'⟩, -, X', ⟨L, hQ, e1, e2, e3⟩, st'⟩ := X.specialBack hx hy1 hown (mvT hZ w1) (mvT hZ w2) (mvT hZ w4) hy (backOf (W := V) hM hZ w4 w3 hf hl) (g := mkF m pc Ls st) rfl hsize (Steps.refl _) hlen hstack (by show 2 * 0 + _ ≤ _; omega) hd (fun _ _ => ⟨has, eT, hc, hs⟩)
  dsimp only [Pt.U, Pt.locs, Pt.cells, Pt.slots] at X' e1 e2 e3 st' hQ
  subst e1 e2 e3
  exact Go.of (fun _ k => st'.trans k) (K _ _ _ hQ X')
/-- an instance method by the contract of the body that the receiver's class selects -/
theorem Go.callV (X : Stand p l e R s m args below meth c T locs cells slots) (hx : p.tables.exec = Jvm.exec) (hZ : Z.Warmed39 s.vm) {own C : String} {index : Nat} {y : MethodName} {bytes : ByteArray} {maxL : Nat} {ret : Option FieldType} {rm : Room} {as' : Array Value} {Q : Option Value → Heap → List Loc → Prop} (hown : s.vm.findClass own = some m.cls)
    (w1 : (Jvm.Cond.methodLink own index y).before a0 Z = true) (w5 : (Jvm.Cond.declares y).before a0 Z = true) (w6 : (Jvm.Cond.selects C y y).before a0 Z = true) (w2 : (Jvm.Cond.instanceMethod y).before a0 Z = true) (w3 : (Jvm.Cond.initialized y.cls).before a0 Z = true) (w4 : (Jvm.Cond.code y bytes maxL ret).before a0 Z = true) (hy : y.cls ≠ "java/lang/invoke/MethodHandle" ∧ y.cls ≠ "java/lang/invoke/VarHandle") (eT : T.heap = h)
    {a : Addr} (E : Exa Z h a C) (hM : Con l Z y bytes maxL ret [] rm as' h Q) {V : Nat} (hf : rm.frames + 1 ≤ R.frames) (hl : V + (maxL + 11) + rm.locals ≤ R.locals) (hc : cells + rm.cells ≤ R.cells) (hs : slots + rm.slots ≤ R.slots)
    {pc : Nat} {Ls : Array Slot} {st : List Value} (hsize : Ls.size = c.maxLocals) {argsL rest : List Value} (has : (.ref a :: argsL).toArray = as') (hlen : ∀ sig, parseMethodDescriptor y.desc = some sig → argsL.length = sig.parameters.length) (hstack : st = argsL.reverse ++ .ref a :: rest) (hV : (rest.map fun v => v.category).sum ≤ V) (hd : decode c.code pc = .ok (.invokevirtual index, 3))
    (K : ∀ T' v L, Q v T'.heap L → Stand p l e R s m args below meth c T' (locs ++ L) (cells + rm.cells) (slots + rm.slots) → Go p e below W T' (mkF m (pc + 3) Ls (v.toList ++ rest))) : Go p e below W T (mkF m pc Ls st) := by
  obtain ⟨cq, kq, qa, qb, qc⟩ := isOf hZ eT E
  obtain ⟨v, vm₁, ⟨T', L', k', n'⟩, -, X', ⟨L, hQ, e1, e2, e3⟩, st'⟩ := X.virtualBack hx hown (mvT hZ w1) (mvT hZ w5) (notFace_of_selects (args := #[]) (mvT hZ w6)) (mvT hZ w6) (mvT hZ w2) hy (backOf (W := V) hM hZ w4 w3 hf hl) qa qc (g := mkF m pc Ls st) rfl hsize (Steps.refl _) hlen hstack (by show 2 * 0 + _ ≤ _; omega) hd (fun _ _ => ⟨has, eT, hc, hs⟩)
  dsimp only [Pt.U, Pt.locs, Pt.cells, Pt.slots] at X' e1 e2 e3 st' hQ
  subst e1 e2 e3
  exact Go.of (fun _ k => st'.trans k) (K _ _ _ hQ X')
end OwnHeap
section OwnNats
theorem own_toInt {n : Nat} (h : n < 2147483648) : (Int32.ofNat n).toInt = n := Int32.toInt_ofNat_of_lt (by omega)
theorem own_lt {i n : Nat} (h : i < n) (hn : n < 2147483648) : Int32.ofNat i < Int32.ofNat n := by
  rw [Int32.lt_iff_toInt_lt, own_toInt (by omega), own_toInt (by omega)]
  omega
theorem own_nlt {i n : Nat} (h : n ≤ i) (hn : i < 2147483648) : ¬ Int32.ofNat i < Int32.ofNat n := by
  rw [Int32.lt_iff_toInt_lt, own_toInt (by omega), own_toInt (by omega)]
  omega
theorem own_nn {n : Nat} (hn : n < 2147483648) : ¬ Int32.ofNat n < 0 := by
  rw [Int32.lt_iff_toInt_lt, own_toInt hn, show (0 : Int32).toInt = 0 from rfl]
  omega
theorem own_n32 {n : Nat} (hn : n < 2147483648) : (Int32.ofNat n).toNatClampNeg = n := by
  rw [Int32.toNatClampNeg, own_toInt hn]; rfl
theorem own_one (i : Nat) : Int32.ofNat i + (1 : Int32) = Int32.ofNat (i + 1) := (Int32.ofNat_add i 1).symm
theorem own_inbN {i n : Nat} (h : i < n) (hn : n ≤ 2147483648) : inb (Int32.ofNat i) n := ⟨own_nn (by omega), by rw [own_n32 (by omega)]; exact h⟩
theorem own_back {x : Int32} (h : ¬ x < 0) : Int32.ofNat x.toNatClampNeg = x := (back32 h).1
end OwnNats

def own_iota : Nat → Int32 := fun j => Int32.ofNat j
def own_id (i : Nat) : Nat → Int32 := fun j => if j < i then Int32.ofNat j else 0
theorem pd__I__I : parseMethodDescriptor "(I)[I" = some ⟨[.int], some (.array .int)⟩ := by decide +kernel
theorem d1_0 : decode prog_46_method_7_code 0 = .ok (.iload_n 0, 1) := by decide +kernel
theorem d1_1 : decode prog_46_method_7_code 1 = .ok (.newarray .int, 2) := by decide +kernel
theorem d1_3 : decode prog_46_method_7_code 3 = .ok (.astore_n 1, 1) := by decide +kernel
theorem d1_4 : decode prog_46_method_7_code 4 = .ok (.iconst 0, 1) := by decide +kernel
theorem d1_5 : decode prog_46_method_7_code 5 = .ok (.istore_n 2, 1) := by decide +kernel
theorem d1_6 : decode prog_46_method_7_code 6 = .ok (.iload_n 2, 1) := by decide +kernel
theorem d1_7 : decode prog_46_method_7_code 7 = .ok (.iload_n 0, 1) := by decide +kernel
theorem d1_8 : decode prog_46_method_7_code 8 = .ok (.if_icmp .ge 13, 3) := by decide +kernel
theorem d1_11 : decode prog_46_method_7_code 11 = .ok (.aload_n 1, 1) := by decide +kernel
theorem d1_12 : decode prog_46_method_7_code 12 = .ok (.iload_n 2, 1) := by decide +kernel
theorem d1_13 : decode prog_46_method_7_code 13 = .ok (.iload_n 2, 1) := by decide +kernel
theorem d1_14 : decode prog_46_method_7_code 14 = .ok (.iastore, 1) := by decide +kernel
theorem d1_15 : decode prog_46_method_7_code 15 = .ok (.iinc 2 1, 3) := by decide +kernel
theorem d1_18 : decode prog_46_method_7_code 18 = .ok (.goto (-12), 3) := by decide +kernel
theorem d1_21 : decode prog_46_method_7_code 21 = .ok (.aload_n 1, 1) := by decide +kernel
theorem d1_22 : decode prog_46_method_7_code 22 = .ok (.areturn, 1) := by decide +kernel
theorem pn_1 : plainFor (⟨"com/example/aeacus/aeacus/Region", "identity", "(I)[I"⟩ : MethodName) = true := plainFor_of_name (by show plainName "com/example/aeacus/aeacus/Region" = true; first | (simp [plainName, overriddenIn]; done) | decide +kernel)
theorem ef_1 (m : MethodId) (p1 : Int32) : entryFrame m #[(.int p1)] 3 = mkF m 0 #[.val (.int p1), .unset, .unset] [] := by first | (simp [entryFrame, mkF, argsToLocals, Value.category]; done) | rfl
def w1_2 (p1 : Int32) (n : Nat) : Nat → Int32 := fun _ => 0
def Q1 (Z : State) (p1 : Int32) (n : Nat) (h0 : Heap) (n0 : Nat) (v : Option Value) (h : Heap) (L : List Loc) : Prop := ∃ nb : Addr, v = some (.ref nb) ∧ Fr n0 L ∧ Keep h0 h [] ∧ h0.size ≤ nb ∧ AI Z h nb .int n own_iota
theorem pn_0 : plainFor x = true := plainFor_of_name (by show plainName "com/example/aeacus/aeacus/RegionIdentityPinLaw" = true; first | (simp [plainName, overriddenIn]; done) | decide +kernel)
theorem ef_0 (m : MethodId) (p1 : Int32) (p2 : Int32) : entryFrame m #[(.int p1), (.int p2)] maxLocals = mkF m 0 #[.val (.int p1), .val (.int p2), .unset, .unset, .unset, .unset] [] := by first | (simp [entryFrame, mkF, argsToLocals, Value.category, maxLocals]; done) | rfl
def v0_1 (p1 : Int32) (p2 : Int32) : Int32 := (p1 &&& (15 : Int32))
def v0_5 (p1 : Int32) (p2 : Int32) : Int32 := ((p2 &&& (2147483647 : Int32)) % (v0_1 p1 p2))
def w0_8 (p1 : Int32) (p2 : Int32) : Nat → Int32 := upd own_iota (v0_5 p1 p2).toNatClampNeg (-1 : Int32)
def f0 (p1 : Int32) (p2 : Int32) : Int32 := (if (v0_1 p1 p2).toNatClampNeg.toInt32 = (v0_1 p1 p2) then (if (v0_1 p1 p2) = (0 : Int32) then (1 : Int32) else (if (own_iota (v0_5 p1 p2).toNatClampNeg) = (v0_5 p1 p2) then (if (v0_1 p1 p2).toNatClampNeg.toInt32 = (v0_1 p1 p2) then (if (own_iota (v0_5 p1 p2).toNatClampNeg) = (v0_5 p1 p2) then (1 : Int32) else (0 : Int32)) else (0 : Int32)) else (0 : Int32))) else (0 : Int32))
def Q0 (Z : State) (p1 : Int32) (p2 : Int32) (h0 : Heap) (n0 : Nat) (v : Option Value) (h : Heap) (L : List Loc) : Prop := v = some (.int (f0 p1 p2)) ∧ Fr n0 L ∧ Keep h0 h []
theorem own_id0 (j : Nat) : (0 : Int32) = own_id 0 j := by rw [own_id, if_neg (by omega)]
theorem own_idn (i n : Nat) (h : i < 2147483648) : ∀ j, j < n → upd (own_id i) (Int32.ofNat i).toNatClampNeg (Int32.ofNat i) j = own_id (i + 1) j := by
  intro j _
  rw [own_n32 h]
  simp only [upd, own_id]
  by_cases q : j = i
  · subst q; rw [if_pos rfl, if_pos (by omega)]
  · rw [if_neg q]
    by_cases r : j < i
    · rw [if_pos r, if_pos (by omega)]
    · rw [if_neg r, if_neg (by omega)]
theorem own_idf (i n : Nat) (h : n ≤ i) : ∀ j, j < n → own_id i j = own_iota j := by
  intro j hj
  rw [own_id, if_pos (by omega), own_iota]
theorem own_v1 (x y : Int32) : 0 ≤ (v0_1 x y).toInt ∧ (v0_1 x y).toInt ≤ 15 := by
  have a1 : (v0_1 x y).toInt = x.toInt % (2 ^ 4 : Nat) := c_mask x 15 4 (by decide) (by decide)
  omega
theorem own_p1 (x y : Int32) : ¬ v0_1 x y < 0 := by
  have := own_v1 x y
  rw [Int32.lt_iff_toInt_lt, show (0 : Int32).toInt = 0 from rfl]; omega
theorem own_hn (x y : Int32) : (v0_1 x y).toNatClampNeg ≤ 15 := by
  have := own_v1 x y
  show (v0_1 x y).toInt.toNat ≤ 15
  omega
theorem own_hp (x y : Int32) : v0_1 x y = Int32.ofNat (v0_1 x y).toNatClampNeg := (own_back (own_p1 x y)).symm
theorem own_ix (x y : Int32) (h : ¬ v0_1 x y = 0) : inb (v0_5 x y) (v0_1 x y).toNatClampNeg := by
  have a1 := own_v1 x y
  have a2 : (y &&& 2147483647).toInt = y.toInt % (2 ^ 31 : Nat) := c_mask y 2147483647 31 (by decide) (by decide)
  have a3 : (v0_1 x y).toInt ≠ 0 := fun q => h (Int32.toInt_inj.mp q)
  obtain ⟨b1, b2, -⟩ := (c_iremV (y &&& 2147483647) (v0_1 x y)).1 (by omega) (by omega)
  have e : v0_5 x y = (y &&& 2147483647) % (v0_1 x y) := rfl
  rw [← e] at b1 b2
  refine ⟨?_, ?_⟩
  · rw [Int32.lt_iff_toInt_lt, show (0 : Int32).toInt = 0 from rfl]; omega
  · show (v0_5 x y).toInt.toNat < (v0_1 x y).toInt.toNat
    omega
theorem own_law (x y : Int32) : f0 x y = 1 := by
  have e1 : (v0_1 x y).toNatClampNeg.toInt32 = v0_1 x y := own_back (own_p1 x y)
  rw [f0, if_pos e1]
  by_cases h : v0_1 x y = 0
  · rw [if_pos h]
  · have e2 : own_iota (v0_5 x y).toNatClampNeg = v0_5 x y := own_back (own_ix x y h).1
    rw [if_neg h, if_pos e2, if_pos e1, if_pos e2]
set_option maxRecDepth 65536 in
set_option maxHeartbeats 40000000 in
theorem rm1 (l : Launch) (Z : State) (a0 : Array Value) (hw : ∀ d ∈ tables_1, d.before a0 Z = true) (ws : List Jvm.Cond) (p1 : Int32) (n : Nat) (h0 : Heap) (n0 : Nat) (Z0 : n0 ≤ h0.size) (hp : p1 = Int32.ofNat n) (hn : n ≤ 15) :
    Con l Z (⟨"com/example/aeacus/aeacus/Region", "identity", "(I)[I"⟩ : MethodName) prog_46_method_7_code 3 (some (.array .int)) ws ({ frames := 0, cells := 1, slots := 15, locals := 0 } : Room) #[(.int p1)] h0 (Q1 Z p1 n h0 n0) := by
  subst hp
  refine own_body pn_1 (fun m => ef_1 m (Int32.ofNat n)) ?_
  intro p e s m below meth c T0 W X0 hx hby hml hret hlk hown hnm hZ e0 hW
  have K : Keep h0 h0 [] := Keep.refl _ _
  have N := Fr.nil n0
  show Go p e below W T0 (mkF m 0 #[.val (.int (Int32.ofNat n)), .unset, .unset] [])
  refine Go.of (fun _ k => XS.iloadN X0.here hx rfl (hb hby d1_0) rfl k) ?_
  show Go p e below W T0 (mkF m 1 #[.val (.int (Int32.ofNat n)), .unset, .unset] [(.int (Int32.ofNat n))])
  refine Go.newA X0 hx hZ (hw _ (List.mem_of_getElem? (i := 4) rfl)) rfl rfl rfl e0 (hb hby d1_1) (own_nn (by omega)) (cap := 15) (by rw [own_n32 (by omega)]; exact hn) (by decide) (by decide) (by decide) ?_
  intro T1 h1 b1 zq1 X1 e1 E1 E_b1 A_b1
  have g_b1 : n0 ≤ b1 := by rw [zq1]; exact Z0
  have s_b1 : h0.size ≤ b1 := by rw [zq1]; exact K.1
  have K := K.ext E1
  have Z0 := Nat.le_trans Z0 E1.1
  have A_b1 : AI Z h1 b1 .int n (w1_2 (Int32.ofNat n) n) := ((own_n32 (n := n) (by omega)) ▸ A_b1)
  show Go p e below W T1 (mkF m 3 #[.val (.int (Int32.ofNat n)), .unset, .unset] [(.ref b1)])
  refine Go.of (fun _ k => XS.astoreN X1.here hx rfl (hb hby d1_3) rfl rfl (l' := #[.val (.int (Int32.ofNat n)), .val (.ref b1), .unset]) rfl k) ?_
  show Go p e below W T1 (mkF m 4 #[.val (.int (Int32.ofNat n)), .val (.ref b1), .unset] [])
  refine Go.of (fun _ k => XS.iconst X1.here hx rfl (hb hby d1_4) k) ?_
  show Go p e below W T1 (mkF m 5 #[.val (.int (Int32.ofNat n)), .val (.ref b1), .unset] [(.int (0 : Int32))])
  refine Go.of (fun _ k => XS.istoreN X1.here hx rfl (hb hby d1_5) rfl (l' := #[.val (.int (Int32.ofNat n)), .val (.ref b1), .val (.int (0 : Int32))]) rfl k) ?_
  suffices LP3 : ∀ (k i : Nat) (T' : State) (h' : Heap) (L' : List Loc), i + k = n → Stand p l e ({ frames := 0, cells := 1, slots := 15, locals := 0 } : Room) s m #[(.int (Int32.ofNat n))] below meth c T' L' 1 15 → Fr n0 L' → T'.heap = h' → n0 ≤ h'.size → Keep h0 h' [] → AI Z h' b1 .int n (own_id i) → Go p e below W T' (mkF m 6 #[.val (.int (Int32.ofNat n)), .val (.ref b1), .val (.int (Int32.ofNat i))] []) by
    exact LP3 (n) 0 _ _ _ (by omega) X1 N e1 Z0 K (A_b1.congr (fun j hj => own_id0 j))
  intro k
  induction k with
  | zero =>
    intro i T4 h4 L4 hik X4 N e4 Z0 K A_b1
    show Go p e below W T4 (mkF m 6 #[.val (.int (Int32.ofNat n)), .val (.ref b1), .val (.int (Int32.ofNat i))] [])
    refine Go.of (fun _ k => XS.iloadN X4.here hx rfl (hb hby d1_6) rfl k) ?_
    show Go p e below W T4 (mkF m 7 #[.val (.int (Int32.ofNat n)), .val (.ref b1), .val (.int (Int32.ofNat i))] [(.int (Int32.ofNat i))])
    refine Go.of (fun _ k => XS.iloadN X4.here hx rfl (hb hby d1_7) rfl k) ?_
    show Go p e below W T4 (mkF m 8 #[.val (.int (Int32.ofNat n)), .val (.ref b1), .val (.int (Int32.ofNat i))] [(.int (Int32.ofNat n)), (.int (Int32.ofNat i))])
    refine Go.of (fun _ k => XS.icmpYes X4.here hx rfl (pc0 := 8) (pc' := 21) rfl (hb hby d1_8) rfl (Jvm.Free.XT.ii_ge_t (own_nlt (by omega) (by omega))) (by decide) (by decide) k) ?_
    show Go p e below W T4 (mkF m 21 #[.val (.int (Int32.ofNat n)), .val (.ref b1), .val (.int (Int32.ofNat i))] [])
    refine Go.of (fun _ k => XS.aloadN X4.here hx rfl (hb hby d1_21) rfl rfl k) ?_
    show Go p e below W T4 (mkF m 22 #[.val (.int (Int32.ofNat n)), .val (.ref b1), .val (.int (Int32.ofNat i))] [(.ref b1)])
    have fin : Q1 Z (Int32.ofNat n) n h0 n0 (some (.ref b1)) h4 L4 := ⟨b1, rfl, N, K, s_b1, (A_b1.congr (own_idf i n (by omega)))⟩
    exact Go.retA X4 hx hret rfl rfl (hb hby d1_22) hlk (fun t ht fe => hW t _ _ _ _ (by rw [ht, e4]; exact fin) fe (by decide) (by decide))
  | succ k ih =>
    intro i T5 h5 L5 hik X5 N e5 Z0 K A_b1
    show Go p e below W T5 (mkF m 6 #[.val (.int (Int32.ofNat n)), .val (.ref b1), .val (.int (Int32.ofNat i))] [])
    refine Go.of (fun _ k => XS.iloadN X5.here hx rfl (hb hby d1_6) rfl k) ?_
    show Go p e below W T5 (mkF m 7 #[.val (.int (Int32.ofNat n)), .val (.ref b1), .val (.int (Int32.ofNat i))] [(.int (Int32.ofNat i))])
    refine Go.of (fun _ k => XS.iloadN X5.here hx rfl (hb hby d1_7) rfl k) ?_
    show Go p e below W T5 (mkF m 8 #[.val (.int (Int32.ofNat n)), .val (.ref b1), .val (.int (Int32.ofNat i))] [(.int (Int32.ofNat n)), (.int (Int32.ofNat i))])
    refine Go.of (fun _ k => XS.icmpNo X5.here hx rfl (hb hby d1_8) rfl (Jvm.Free.XT.ii_ge_f (own_lt (by omega) (by omega))) k) ?_
    show Go p e below W T5 (mkF m 11 #[.val (.int (Int32.ofNat n)), .val (.ref b1), .val (.int (Int32.ofNat i))] [])
    refine Go.of (fun _ k => XS.aloadN X5.here hx rfl (hb hby d1_11) rfl rfl k) ?_
    show Go p e below W T5 (mkF m 12 #[.val (.int (Int32.ofNat n)), .val (.ref b1), .val (.int (Int32.ofNat i))] [(.ref b1)])
    refine Go.of (fun _ k => XS.iloadN X5.here hx rfl (hb hby d1_12) rfl k) ?_
    show Go p e below W T5 (mkF m 13 #[.val (.int (Int32.ofNat n)), .val (.ref b1), .val (.int (Int32.ofNat i))] [(.int (Int32.ofNat i)), (.ref b1)])
    refine Go.of (fun _ k => XS.iloadN X5.here hx rfl (hb hby d1_13) rfl k) ?_
    show Go p e below W T5 (mkF m 14 #[.val (.int (Int32.ofNat n)), .val (.ref b1), .val (.int (Int32.ofNat i))] [(.int (Int32.ofNat i)), (.int (Int32.ofNat i)), (.ref b1)])
    refine Go.ist X5 hx hZ e5 N g_b1 A_b1 (own_inbN (by omega) (by omega)) (hb hby d1_14) ?_
    intro T6 h6 L6 X6 N e6 W6 A_b1
    have K := K.wr W6 (Or.inr s_b1)
    have Z0 := Nat.le_trans Z0 (Keep.of_wr W6).1
    have A_b1 : AI Z h6 b1 .int n (upd (own_id i) (Int32.ofNat i).toNatClampNeg (Int32.ofNat i)) := A_b1
    show Go p e below W T6 (mkF m 15 #[.val (.int (Int32.ofNat n)), .val (.ref b1), .val (.int (Int32.ofNat i))] [])
    refine Go.of (fun _ k => XS.iinc X6.here hx rfl (hb hby d1_15) rfl (l' := #[.val (.int (Int32.ofNat n)), .val (.ref b1), .val (.int ((Int32.ofNat i) + (1 : Int32)))]) rfl k) ?_
    show Go p e below W T6 (mkF m 18 #[.val (.int (Int32.ofNat n)), .val (.ref b1), .val (.int ((Int32.ofNat i) + (1 : Int32)))] [])
    refine Go.of (fun _ k => XS.goto X6.here hx rfl (pc0 := 18) (pc' := 6) rfl (hb hby d1_18) (by decide) (by decide) k) ?_
    rw [own_one]
    exact ih (i + 1) _ _ _ (by omega) X6 N e6 Z0 K (A_b1.congr (own_idn i n (by omega)))
set_option maxRecDepth 65536 in
set_option maxHeartbeats 40000000 in
theorem rm0 (l : Launch) (Z : State) (a0 : Array Value) (hw : ∀ d ∈ tables_1, d.before a0 Z = true) (ws : List Jvm.Cond) (p1 : Int32) (p2 : Int32) (h0 : Heap) (n0 : Nat) (Z0 : n0 ≤ h0.size) :
    Con l Z x code maxLocals ret ws room_1 #[(.int p1), (.int p2)] h0 (Q0 Z p1 p2 h0 n0) := by
  refine own_body pn_0 (fun m => ef_0 m p1 p2) ?_
  intro p e s m below meth c T0 W X0 hx hby hml hret hlk hown hnm hZ e0 hW
  have K : Keep h0 h0 [] := Keep.refl _ _
  have N := Fr.nil n0
  show Go p e below W T0 (mkF m 0 #[.val (.int p1), .val (.int p2), .unset, .unset, .unset, .unset] [])
  refine Go.of (fun _ k => XS.iloadN X0.here hx rfl (hb hby at_0) rfl k) ?_
  show Go p e below W T0 (mkF m 1 #[.val (.int p1), .val (.int p2), .unset, .unset, .unset, .unset] [(.int p1)])
  refine Go.of (fun _ k => XS.bipush X0.here hx rfl (hb hby at_1) k) ?_
  show Go p e below W T0 (mkF m 3 #[.val (.int p1), .val (.int p2), .unset, .unset, .unset, .unset] [(.int (15 : Int32)), (.int p1)])
  refine Go.of (fun _ k => XS.iand X0.here hx rfl (hb hby at_3) rfl k) ?_
  show Go p e below W T0 (mkF m 4 #[.val (.int p1), .val (.int p2), .unset, .unset, .unset, .unset] [(.int (p1 &&& (15 : Int32)))])
  refine Go.of (fun _ k => XS.istoreN X0.here hx rfl (hb hby at_4) rfl (l' := #[.val (.int p1), .val (.int p2), .val (.int (v0_1 p1 p2)), .unset, .unset, .unset]) rfl k) ?_
  show Go p e below W T0 (mkF m 5 #[.val (.int p1), .val (.int p2), .val (.int (v0_1 p1 p2)), .unset, .unset, .unset] [])
  refine Go.of (fun _ k => XS.iloadN X0.here hx rfl (hb hby at_5) rfl k) ?_
  show Go p e below W T0 (mkF m 6 #[.val (.int p1), .val (.int p2), .val (.int (v0_1 p1 p2)), .unset, .unset, .unset] [(.int (v0_1 p1 p2))])
  refine Go.callS X0 hx hZ hown (hw _ (List.mem_of_getElem? (i := 0) rfl)) (hw _ (List.mem_of_getElem? (i := 1) rfl)) (hw _ (List.mem_of_getElem? (i := 2) rfl)) (hw _ (List.mem_of_getElem? (i := 3) rfl)) (by decide) e0 (rm1 l Z a0 hw [] (v0_1 p1 p2) (v0_1 p1 p2).toNatClampNeg h0 n0 Z0 (own_hp p1 p2) (own_hn p1 p2)) (V := 0) (by decide) (by decide) (by decide) (by decide) (by rw [hml]; rfl) (argsL := [(.int (v0_1 p1 p2))]) (rest := []) rfl (lenOf pd__I__I rfl) rfl (Nat.le_of_ble_eq_true rfl) (hb hby at_6) ?_
  rintro T2 _ M2 ⟨b2, rfl, N2, K2, s_b2, A_b2⟩ X2
  obtain ⟨L2, zq2⟩ : ∃ z, z = [] ++ M2 := ⟨_, rfl⟩
  have N := Fr.app N N2
  rw [← zq2] at X2 N
  have g_b2 : n0 ≤ b2 := Nat.le_trans Z0 s_b2
  have s_b2 : h0.size ≤ b2 := Nat.le_trans K.1 s_b2
  have K := K.trans K2 all0
  have Z0 := Nat.le_trans Z0 K2.1
  show Go p e below W T2 (mkF m 9 #[.val (.int p1), .val (.int p2), .val (.int (v0_1 p1 p2)), .unset, .unset, .unset] [(.ref b2)])
  refine Go.of (fun _ k => XS.astoreN X2.here hx rfl (hb hby at_9) rfl rfl (l' := #[.val (.int p1), .val (.int p2), .val (.int (v0_1 p1 p2)), .val (.ref b2), .unset, .unset]) rfl k) ?_
  show Go p e below W T2 (mkF m 10 #[.val (.int p1), .val (.int p2), .val (.int (v0_1 p1 p2)), .val (.ref b2), .unset, .unset] [])
  refine Go.of (fun _ k => XS.aloadN X2.here hx rfl (hb hby at_10) rfl rfl k) ?_
  show Go p e below W T2 (mkF m 11 #[.val (.int p1), .val (.int p2), .val (.int (v0_1 p1 p2)), .val (.ref b2), .unset, .unset] [(.ref b2)])
  refine Go.alen X2 hx hZ rfl A_b2 (hb hby at_11) ?_
  show Go p e below W T2 (mkF m 12 #[.val (.int p1), .val (.int p2), .val (.int (v0_1 p1 p2)), .val (.ref b2), .unset, .unset] [(.int (v0_1 p1 p2).toNatClampNeg.toInt32)])
  refine Go.of (fun _ k => XS.iloadN X2.here hx rfl (hb hby at_12) rfl k) ?_
  show Go p e below W T2 (mkF m 13 #[.val (.int p1), .val (.int p2), .val (.int (v0_1 p1 p2)), .val (.ref b2), .unset, .unset] [(.int (v0_1 p1 p2)), (.int (v0_1 p1 p2).toNatClampNeg.toInt32)])
  by_cases c3 : (v0_1 p1 p2).toNatClampNeg.toInt32 = (v0_1 p1 p2)
  · refine Go.of (fun _ k => XS.icmpYes X2.here hx rfl (pc0 := 13) (pc' := 18) rfl (hb hby at_13) rfl (Jvm.Free.XT.ii_eq_t c3) (by decide) (by decide) k) ?_
    show Go p e below W T2 (mkF m 18 #[.val (.int p1), .val (.int p2), .val (.int (v0_1 p1 p2)), .val (.ref b2), .unset, .unset] [])
    refine Go.of (fun _ k => XS.iloadN X2.here hx rfl (hb hby at_18) rfl k) ?_
    show Go p e below W T2 (mkF m 19 #[.val (.int p1), .val (.int p2), .val (.int (v0_1 p1 p2)), .val (.ref b2), .unset, .unset] [(.int (v0_1 p1 p2))])
    by_cases c4 : (v0_1 p1 p2) = (0 : Int32)
    · refine Go.of (fun _ k => XS.ifNo X2.here hx rfl (hb hby at_19) rfl (Jvm.Free.XT.i0_ne_f c4) k) ?_
      show Go p e below W T2 (mkF m 22 #[.val (.int p1), .val (.int p2), .val (.int (v0_1 p1 p2)), .val (.ref b2), .unset, .unset] [])
      refine Go.of (fun _ k => XS.iconst X2.here hx rfl (hb hby at_22) k) ?_
      show Go p e below W T2 (mkF m 23 #[.val (.int p1), .val (.int p2), .val (.int (v0_1 p1 p2)), .val (.ref b2), .unset, .unset] [(.int (1 : Int32))])
      have u_f0 : (f0 p1 p2) = (1 : Int32) := by rw [f0, if_pos c3, if_pos c4]
      have fin : Q0 Z p1 p2 h0 n0 (some (.int (f0 p1 p2))) T2.heap L2 := ⟨rfl, N, K⟩
      exact Go.retN X2 hx hret (Or.inl rfl) (hb hby at_23) hlk (Eq.trans rfl u_f0.symm) (fun t ht fe => hW t _ _ _ _ (by rw [ht]; exact fin) fe (by decide) (by decide))
    · refine Go.of (fun _ k => XS.ifYes X2.here hx rfl (pc0 := 19) (pc' := 24) rfl (hb hby at_19) rfl (Jvm.Free.XT.i0_ne_t c4) (by decide) (by decide) k) ?_
      show Go p e below W T2 (mkF m 24 #[.val (.int p1), .val (.int p2), .val (.int (v0_1 p1 p2)), .val (.ref b2), .unset, .unset] [])
      refine Go.of (fun _ k => XS.iloadN X2.here hx rfl (hb hby at_24) rfl k) ?_
      show Go p e below W T2 (mkF m 25 #[.val (.int p1), .val (.int p2), .val (.int (v0_1 p1 p2)), .val (.ref b2), .unset, .unset] [(.int p2)])
      refine Go.of (fun _ k => X2.ldcI hx hown (mvT hZ (hw _ (List.mem_of_getElem? (i := 5) rfl))) rfl (hb hby at_25) k) ?_
      show Go p e below W T2 (mkF m 27 #[.val (.int p1), .val (.int p2), .val (.int (v0_1 p1 p2)), .val (.ref b2), .unset, .unset] [(.int (2147483647 : Int32)), (.int p2)])
      refine Go.of (fun _ k => XS.iand X2.here hx rfl (hb hby at_27) rfl k) ?_
      show Go p e below W T2 (mkF m 28 #[.val (.int p1), .val (.int p2), .val (.int (v0_1 p1 p2)), .val (.ref b2), .unset, .unset] [(.int (p2 &&& (2147483647 : Int32)))])
      refine Go.of (fun _ k => XS.iloadN X2.here hx rfl (hb hby at_28) rfl k) ?_
      show Go p e below W T2 (mkF m 29 #[.val (.int p1), .val (.int p2), .val (.int (v0_1 p1 p2)), .val (.ref b2), .unset, .unset] [(.int (v0_1 p1 p2)), (.int (p2 &&& (2147483647 : Int32)))])
      refine Go.of (fun _ k => iremM X2 hx rfl (hb hby at_29) rfl c4 k) ?_
      show Go p e below W T2 (mkF m 30 #[.val (.int p1), .val (.int p2), .val (.int (v0_1 p1 p2)), .val (.ref b2), .unset, .unset] [(.int ((p2 &&& (2147483647 : Int32)) % (v0_1 p1 p2)))])
      refine Go.of (fun _ k => XS.istore X2.here hx rfl (hb hby at_30) rfl (l' := #[.val (.int p1), .val (.int p2), .val (.int (v0_1 p1 p2)), .val (.ref b2), .val (.int (v0_5 p1 p2)), .unset]) rfl k) ?_
      show Go p e below W T2 (mkF m 32 #[.val (.int p1), .val (.int p2), .val (.int (v0_1 p1 p2)), .val (.ref b2), .val (.int (v0_5 p1 p2)), .unset] [])
      refine Go.of (fun _ k => XS.aloadN X2.here hx rfl (hb hby at_32) rfl rfl k) ?_
      show Go p e below W T2 (mkF m 33 #[.val (.int p1), .val (.int p2), .val (.int (v0_1 p1 p2)), .val (.ref b2), .val (.int (v0_5 p1 p2)), .unset] [(.ref b2)])
      refine Go.of (fun _ k => XS.iload X2.here hx rfl (hb hby at_33) rfl k) ?_
      show Go p e below W T2 (mkF m 35 #[.val (.int p1), .val (.int p2), .val (.int (v0_1 p1 p2)), .val (.ref b2), .val (.int (v0_5 p1 p2)), .unset] [(.int (v0_5 p1 p2)), (.ref b2)])
      refine Go.iald X2 hx hZ rfl A_b2 (own_ix p1 p2 c4) (hb hby at_35) ?_
      show Go p e below W T2 (mkF m 36 #[.val (.int p1), .val (.int p2), .val (.int (v0_1 p1 p2)), .val (.ref b2), .val (.int (v0_5 p1 p2)), .unset] [(.int (own_iota (v0_5 p1 p2).toNatClampNeg))])
      refine Go.of (fun _ k => XS.iload X2.here hx rfl (hb hby at_36) rfl k) ?_
      show Go p e below W T2 (mkF m 38 #[.val (.int p1), .val (.int p2), .val (.int (v0_1 p1 p2)), .val (.ref b2), .val (.int (v0_5 p1 p2)), .unset] [(.int (v0_5 p1 p2)), (.int (own_iota (v0_5 p1 p2).toNatClampNeg))])
      by_cases c6 : (own_iota (v0_5 p1 p2).toNatClampNeg) = (v0_5 p1 p2)
      · refine Go.of (fun _ k => XS.icmpYes X2.here hx rfl (pc0 := 38) (pc' := 43) rfl (hb hby at_38) rfl (Jvm.Free.XT.ii_eq_t c6) (by decide) (by decide) k) ?_
        show Go p e below W T2 (mkF m 43 #[.val (.int p1), .val (.int p2), .val (.int (v0_1 p1 p2)), .val (.ref b2), .val (.int (v0_5 p1 p2)), .unset] [])
        refine Go.of (fun _ k => XS.aloadN X2.here hx rfl (hb hby at_43) rfl rfl k) ?_
        show Go p e below W T2 (mkF m 44 #[.val (.int p1), .val (.int p2), .val (.int (v0_1 p1 p2)), .val (.ref b2), .val (.int (v0_5 p1 p2)), .unset] [(.ref b2)])
        refine Go.of (fun _ k => XS.iload X2.here hx rfl (hb hby at_44) rfl k) ?_
        show Go p e below W T2 (mkF m 46 #[.val (.int p1), .val (.int p2), .val (.int (v0_1 p1 p2)), .val (.ref b2), .val (.int (v0_5 p1 p2)), .unset] [(.int (v0_5 p1 p2)), (.ref b2)])
        refine Go.of (fun _ k => XS.iconst X2.here hx rfl (hb hby at_46) k) ?_
        show Go p e below W T2 (mkF m 47 #[.val (.int p1), .val (.int p2), .val (.int (v0_1 p1 p2)), .val (.ref b2), .val (.int (v0_5 p1 p2)), .unset] [(.int (-1 : Int32)), (.int (v0_5 p1 p2)), (.ref b2)])
        refine Go.ist X2 hx hZ rfl N g_b2 A_b2 (own_ix p1 p2 c4) (hb hby at_47) ?_
        intro T7 h7 L7 X7 N e7 W7 A_b2
        have K := K.wr W7 (Or.inr s_b2)
        have Z0 := Nat.le_trans Z0 (Keep.of_wr W7).1
        have A_b2 : AI Z h7 b2 .int (v0_1 p1 p2).toNatClampNeg (w0_8 p1 p2) := A_b2
        show Go p e below W T7 (mkF m 48 #[.val (.int p1), .val (.int p2), .val (.int (v0_1 p1 p2)), .val (.ref b2), .val (.int (v0_5 p1 p2)), .unset] [])
        refine Go.of (fun _ k => XS.iloadN X7.here hx rfl (hb hby at_48) rfl k) ?_
        show Go p e below W T7 (mkF m 49 #[.val (.int p1), .val (.int p2), .val (.int (v0_1 p1 p2)), .val (.ref b2), .val (.int (v0_5 p1 p2)), .unset] [(.int (v0_1 p1 p2))])
        refine Go.callS X7 hx hZ hown (hw _ (List.mem_of_getElem? (i := 0) rfl)) (hw _ (List.mem_of_getElem? (i := 1) rfl)) (hw _ (List.mem_of_getElem? (i := 2) rfl)) (hw _ (List.mem_of_getElem? (i := 3) rfl)) (by decide) e7 (rm1 l Z a0 hw [] (v0_1 p1 p2) (v0_1 p1 p2).toNatClampNeg h7 n0 Z0 (own_hp p1 p2) (own_hn p1 p2)) (V := 0) (by decide) (by decide) (by decide) (by decide) (by rw [hml]; rfl) (argsL := [(.int (v0_1 p1 p2))]) (rest := []) rfl (lenOf pd__I__I rfl) rfl (Nat.le_of_ble_eq_true rfl) (hb hby at_49) ?_
        rintro T9 _ M9 ⟨b9, rfl, N9, K9, s_b9, A_b9⟩ X9
        obtain ⟨L9, zq9⟩ : ∃ z, z = L7 ++ M9 := ⟨_, rfl⟩
        have N := Fr.app N N9
        rw [← zq9] at X9 N
        have ne_b2_b9 : b2 ≠ b9 := Nat.ne_of_lt (Nat.lt_of_lt_of_le A_b2.lt s_b9)
        have g_b9 : n0 ≤ b9 := Nat.le_trans Z0 s_b9
        have s_b9 : h0.size ≤ b9 := Nat.le_trans K.1 s_b9
        have A_b2 := A_b2.keep K9 nin0
        have K := K.trans K9 all0
        have Z0 := Nat.le_trans Z0 K9.1
        show Go p e below W T9 (mkF m 52 #[.val (.int p1), .val (.int p2), .val (.int (v0_1 p1 p2)), .val (.ref b2), .val (.int (v0_5 p1 p2)), .unset] [(.ref b9)])
        refine Go.of (fun _ k => XS.astore X9.here hx rfl (hb hby at_52) rfl rfl (l' := #[.val (.int p1), .val (.int p2), .val (.int (v0_1 p1 p2)), .val (.ref b2), .val (.int (v0_5 p1 p2)), .val (.ref b9)]) rfl k) ?_
        show Go p e below W T9 (mkF m 54 #[.val (.int p1), .val (.int p2), .val (.int (v0_1 p1 p2)), .val (.ref b2), .val (.int (v0_5 p1 p2)), .val (.ref b9)] [])
        refine Go.of (fun _ k => XS.aload X9.here hx rfl (hb hby at_54) rfl rfl k) ?_
        show Go p e below W T9 (mkF m 56 #[.val (.int p1), .val (.int p2), .val (.int (v0_1 p1 p2)), .val (.ref b2), .val (.int (v0_5 p1 p2)), .val (.ref b9)] [(.ref b9)])
        refine Go.alen X9 hx hZ rfl A_b9 (hb hby at_56) ?_
        show Go p e below W T9 (mkF m 57 #[.val (.int p1), .val (.int p2), .val (.int (v0_1 p1 p2)), .val (.ref b2), .val (.int (v0_5 p1 p2)), .val (.ref b9)] [(.int (v0_1 p1 p2).toNatClampNeg.toInt32)])
        refine Go.of (fun _ k => XS.iloadN X9.here hx rfl (hb hby at_57) rfl k) ?_
        show Go p e below W T9 (mkF m 58 #[.val (.int p1), .val (.int p2), .val (.int (v0_1 p1 p2)), .val (.ref b2), .val (.int (v0_5 p1 p2)), .val (.ref b9)] [(.int (v0_1 p1 p2)), (.int (v0_1 p1 p2).toNatClampNeg.toInt32)])
        by_cases c10 : (v0_1 p1 p2).toNatClampNeg.toInt32 = (v0_1 p1 p2)
        · refine Go.of (fun _ k => XS.icmpNo X9.here hx rfl (hb hby at_58) rfl (Jvm.Free.XT.ii_ne_f c10) k) ?_
          show Go p e below W T9 (mkF m 61 #[.val (.int p1), .val (.int p2), .val (.int (v0_1 p1 p2)), .val (.ref b2), .val (.int (v0_5 p1 p2)), .val (.ref b9)] [])
          refine Go.of (fun _ k => XS.aload X9.here hx rfl (hb hby at_61) rfl rfl k) ?_
          show Go p e below W T9 (mkF m 63 #[.val (.int p1), .val (.int p2), .val (.int (v0_1 p1 p2)), .val (.ref b2), .val (.int (v0_5 p1 p2)), .val (.ref b9)] [(.ref b9)])
          refine Go.of (fun _ k => XS.iload X9.here hx rfl (hb hby at_63) rfl k) ?_
          show Go p e below W T9 (mkF m 65 #[.val (.int p1), .val (.int p2), .val (.int (v0_1 p1 p2)), .val (.ref b2), .val (.int (v0_5 p1 p2)), .val (.ref b9)] [(.int (v0_5 p1 p2)), (.ref b9)])
          refine Go.iald X9 hx hZ rfl A_b9 (own_ix p1 p2 c4) (hb hby at_65) ?_
          show Go p e below W T9 (mkF m 66 #[.val (.int p1), .val (.int p2), .val (.int (v0_1 p1 p2)), .val (.ref b2), .val (.int (v0_5 p1 p2)), .val (.ref b9)] [(.int (own_iota (v0_5 p1 p2).toNatClampNeg))])
          refine Go.of (fun _ k => XS.iload X9.here hx rfl (hb hby at_66) rfl k) ?_
          show Go p e below W T9 (mkF m 68 #[.val (.int p1), .val (.int p2), .val (.int (v0_1 p1 p2)), .val (.ref b2), .val (.int (v0_5 p1 p2)), .val (.ref b9)] [(.int (v0_5 p1 p2)), (.int (own_iota (v0_5 p1 p2).toNatClampNeg))])
          by_cases c11 : (own_iota (v0_5 p1 p2).toNatClampNeg) = (v0_5 p1 p2)
          · refine Go.of (fun _ k => XS.icmpNo X9.here hx rfl (hb hby at_68) rfl (Jvm.Free.XT.ii_ne_f c11) k) ?_
            show Go p e below W T9 (mkF m 71 #[.val (.int p1), .val (.int p2), .val (.int (v0_1 p1 p2)), .val (.ref b2), .val (.int (v0_5 p1 p2)), .val (.ref b9)] [])
            refine Go.of (fun _ k => XS.iconst X9.here hx rfl (hb hby at_71) k) ?_
            show Go p e below W T9 (mkF m 72 #[.val (.int p1), .val (.int p2), .val (.int (v0_1 p1 p2)), .val (.ref b2), .val (.int (v0_5 p1 p2)), .val (.ref b9)] [(.int (1 : Int32))])
            refine Go.of (fun _ k => XS.goto X9.here hx rfl (pc0 := 72) (pc' := 76) rfl (hb hby at_72) (by decide) (by decide) k) ?_
            show Go p e below W T9 (mkF m 76 #[.val (.int p1), .val (.int p2), .val (.int (v0_1 p1 p2)), .val (.ref b2), .val (.int (v0_5 p1 p2)), .val (.ref b9)] [(.int (1 : Int32))])
            have u_f0 : (f0 p1 p2) = (1 : Int32) := by rw [f0, if_pos c3, if_neg c4, if_pos c6, if_pos c10, if_pos c11]
            have fin : Q0 Z p1 p2 h0 n0 (some (.int (f0 p1 p2))) T9.heap L9 := ⟨rfl, N, K⟩
            exact Go.retN X9 hx hret (Or.inl rfl) (hb hby at_76) hlk (Eq.trans rfl u_f0.symm) (fun t ht fe => hW t _ _ _ _ (by rw [ht]; exact fin) fe (by decide) (by decide))
          · refine Go.of (fun _ k => XS.icmpYes X9.here hx rfl (pc0 := 68) (pc' := 75) rfl (hb hby at_68) rfl (Jvm.Free.XT.ii_ne_t c11) (by decide) (by decide) k) ?_
            show Go p e below W T9 (mkF m 75 #[.val (.int p1), .val (.int p2), .val (.int (v0_1 p1 p2)), .val (.ref b2), .val (.int (v0_5 p1 p2)), .val (.ref b9)] [])
            refine Go.of (fun _ k => XS.iconst X9.here hx rfl (hb hby at_75) k) ?_
            show Go p e below W T9 (mkF m 76 #[.val (.int p1), .val (.int p2), .val (.int (v0_1 p1 p2)), .val (.ref b2), .val (.int (v0_5 p1 p2)), .val (.ref b9)] [(.int (0 : Int32))])
            have u_f0 : (f0 p1 p2) = (0 : Int32) := by rw [f0, if_pos c3, if_neg c4, if_pos c6, if_pos c10, if_neg c11]
            have fin : Q0 Z p1 p2 h0 n0 (some (.int (f0 p1 p2))) T9.heap L9 := ⟨rfl, N, K⟩
            exact Go.retN X9 hx hret (Or.inl rfl) (hb hby at_76) hlk (Eq.trans rfl u_f0.symm) (fun t ht fe => hW t _ _ _ _ (by rw [ht]; exact fin) fe (by decide) (by decide))
        · refine Go.of (fun _ k => XS.icmpYes X9.here hx rfl (pc0 := 58) (pc' := 75) rfl (hb hby at_58) rfl (Jvm.Free.XT.ii_ne_t c10) (by decide) (by decide) k) ?_
          show Go p e below W T9 (mkF m 75 #[.val (.int p1), .val (.int p2), .val (.int (v0_1 p1 p2)), .val (.ref b2), .val (.int (v0_5 p1 p2)), .val (.ref b9)] [])
          refine Go.of (fun _ k => XS.iconst X9.here hx rfl (hb hby at_75) k) ?_
          show Go p e below W T9 (mkF m 76 #[.val (.int p1), .val (.int p2), .val (.int (v0_1 p1 p2)), .val (.ref b2), .val (.int (v0_5 p1 p2)), .val (.ref b9)] [(.int (0 : Int32))])
          have u_f0 : (f0 p1 p2) = (0 : Int32) := by rw [f0, if_pos c3, if_neg c4, if_pos c6, if_neg c10]
          have fin : Q0 Z p1 p2 h0 n0 (some (.int (f0 p1 p2))) T9.heap L9 := ⟨rfl, N, K⟩
          exact Go.retN X9 hx hret (Or.inl rfl) (hb hby at_76) hlk (Eq.trans rfl u_f0.symm) (fun t ht fe => hW t _ _ _ _ (by rw [ht]; exact fin) fe (by decide) (by decide))
      · refine Go.of (fun _ k => XS.icmpNo X2.here hx rfl (hb hby at_38) rfl (Jvm.Free.XT.ii_eq_f c6) k) ?_
        show Go p e below W T2 (mkF m 41 #[.val (.int p1), .val (.int p2), .val (.int (v0_1 p1 p2)), .val (.ref b2), .val (.int (v0_5 p1 p2)), .unset] [])
        refine Go.of (fun _ k => XS.iconst X2.here hx rfl (hb hby at_41) k) ?_
        show Go p e below W T2 (mkF m 42 #[.val (.int p1), .val (.int p2), .val (.int (v0_1 p1 p2)), .val (.ref b2), .val (.int (v0_5 p1 p2)), .unset] [(.int (0 : Int32))])
        have u_f0 : (f0 p1 p2) = (0 : Int32) := by rw [f0, if_pos c3, if_neg c4, if_neg c6]
        have fin : Q0 Z p1 p2 h0 n0 (some (.int (f0 p1 p2))) T2.heap L2 := ⟨rfl, N, K⟩
        exact Go.retN X2 hx hret (Or.inl rfl) (hb hby at_42) hlk (Eq.trans rfl u_f0.symm) (fun t ht fe => hW t _ _ _ _ (by rw [ht]; exact fin) fe (by decide) (by decide))
  · refine Go.of (fun _ k => XS.icmpNo X2.here hx rfl (hb hby at_13) rfl (Jvm.Free.XT.ii_eq_f c3) k) ?_
    show Go p e below W T2 (mkF m 16 #[.val (.int p1), .val (.int p2), .val (.int (v0_1 p1 p2)), .val (.ref b2), .unset, .unset] [])
    refine Go.of (fun _ k => XS.iconst X2.here hx rfl (hb hby at_16) k) ?_
    show Go p e below W T2 (mkF m 17 #[.val (.int p1), .val (.int p2), .val (.int (v0_1 p1 p2)), .val (.ref b2), .unset, .unset] [(.int (0 : Int32))])
    have u_f0 : (f0 p1 p2) = (0 : Int32) := by rw [f0, if_neg c3]
    have fin : Q0 Z p1 p2 h0 n0 (some (.int (f0 p1 p2))) T2.heap L2 := ⟨rfl, N, K⟩
    exact Go.retN X2 hx hret (Or.inl rfl) (hb hby at_17) hlk (Eq.trans rfl u_f0.symm) (fun t ht fe => hW t _ _ _ _ (by rw [ht]; exact fin) fe (by decide) (by decide))
set_option maxRecDepth 65536 in
set_option maxHeartbeats 40000000 in
theorem comes_1 {Post : Tables → Env → Array Value → State → Outcome → State → Prop} (hpost : ∀ tb e args s v u, (limb_1_1.after args s (.returned v) u = true ∧ limb_1_2.after args s (.returned v) u = true ∧ True) → FrameEnd s (.returned v) u (Jvm.fieldLocs frame_1_writes args s ++ Jvm.arrayLocs frame_1_arrays args s ++ Jvm.staticLocs frame_1_statics s) 16 128 → Post tb e args s (.returned v) u) :
    ArmFor flags0 classFile x code maxLocals ret World_1 tables_1 room_1 Calls_1 rest_1 Pre_1 Post := by
  intro l hfl _ _ p e ha hc hk s m args below hf hA hF happ hP
  obtain ⟨hcalls, hrest, hpre⟩ := hP
  obtain ⟨-, -, -, hnamed, -, -, -, hat⟩ := (Spec.applies_iff hf).mp happ
  obtain ⟨hg, hn⟩ := and_e (Cond.before_iff.mp (show (Jvm.Cond.and given_1 narrow_1).before args s = true from hpre))
  obtain ⟨g0, y0⟩ := and_e hg
  obtain ⟨x0, y1⟩ := and_e y0
  obtain ⟨w0, w1, rfl⟩ : ∃ w0 w1 : Value, args = #[w0, w1] := by
    have hs : args.size = 2 := by simpa [Cond.value, given_1] using g0
    obtain ⟨L⟩ := args
    match L, hs with
    | [w0, w1], _ => exact ⟨w0, w1, rfl⟩
  have hw := fun d (hd : d ∈ tables_1) => atoms_spec (ws := Jvm.Cond.code x code maxLocals ret :: tables_1) hat d (List.mem_cons_of_mem _ hd)
  obtain ⟨i0, ei0⟩ := is_v x0
  obtain rfl : w0 = (.int i0) := Option.some.inj ei0
  obtain ⟨i1, ei1⟩ := is_v y1
  obtain rfl : w1 = (.int i1) := Option.some.inj ei1
  obtain ⟨n, o, h1, h2, h3, _, L, rfl, ⟨rfl, N, -⟩, hq⟩ := rm0 l s _ hw tables_1 i0 i1 s.heap s.heap.size (Nat.le_refl _) p e ha hc hk s m _ below hf ((Spec.applies_iff_loose hf).mp happ).1 ⟨rfl, State.Warmed39.refl s, rfl⟩ trivial
  rw [own_law i0 i1] at h3 hq
  refine ⟨n, _, h1, h2, h3, hpost _ _ _ _ _ _ ⟨Cond.after_iff.mpr rfl, Cond.after_iff.mpr (eq_i res_at (Term.int_eval (1)) rfl), trivial⟩ ⟨hq.1, hq.2.1, (hq.2.2.sift fun y hy => Or.inr (N y hy)).mono (by decide) (by decide)⟩⟩
theorem main_1_1 : Claimed_1_1 := comes_1 fun _ _ _ _ _ _ h hF => ⟨h.1, hF⟩
theorem main_1_2 : Claimed_1_2 := comes_1 fun _ _ _ _ _ _ h hF => ⟨h.2.1, hF⟩
end Jvm.Pilot.@@N@@
namespace Jvm.Pilot.@@N@@
open Jvm Jvm.ClassFile Sem Op Lib Jvm.Free Jvm.Stand Jvm.Pilot.@@N@@.Jvm.D
/-! MADE BY PROGRAM (witnessworld.py) out of the Statement's table words and the real class files: 9 classes; the members and pool entries that the words name. The judged class is class 1, her method 1. -/
namespace start1
open Jvm.ClassFile
def u (s : String) : CpInfo := .utf8 (stringToUtf16 s)
/-- a pool by its gaps: so many unusable entries, then the entry; so many at the end -/
def gap : Nat → List CpInfo → List CpInfo
  | 0, r => r
  | n + 1, r => .unusable :: gap n r
def poolList (es : List (Nat × CpInfo)) (last : Nat) : List CpInfo := es.foldr (fun e r => gap e.1 (e.2 :: r)) (gap last [])
def pool (es : List (Nat × CpInfo)) (last : Nat) : Array CpInfo := ⟨poolList es last⟩
def fileOf (pool : Array CpInfo) (this : Nat) (attrs : Array Attribute := #[]) (ms : Array MethodInfo := #[]) (fl : Nat := 33) (sup : Nat := 0) (ifs : Array Nat := #[]) (fds : Array FieldInfo := #[]) : ClassFile where
  minorVersion := 0
  majorVersion := 65
  constantPool := pool
  accessFlags := fl
  thisClass := this
  superClass := sup
  interfaces := ifs
  fields := fds
  methods := ms
  attributes := attrs
def plain (name : String) (sup : Option ClassId) : Class where
  name := name
  kind := .ordinary
  loader := none
  accessFlags := 33
  super := sup
  interfaces := #[]
  cf := none
  fields := #[]
  methods := #[]
  instanceTypes := #[]
  staticTypes := #[]
  resolved := #[]
  callSites := []
  init := .initialized
  statics := none
  mirror := none

def pool0 : Array CpInfo := pool [(5, u "<init>"), (0, u "()V"), (1, .class_ 10), (1, u "java/lang/Object")] 113

def k0m0 : Method := { name := "<init>", desc := "()V", sig := { parameters := [], returnType := none }, accessFlags := 1, code := none }
/-- java/lang/Object -/
def k0 : Class := { plain "java/lang/Object" none with
  accessFlags := 33
  interfaces := #[]
  cf := some (fileOf pool0 8 #[] #[{ accessFlags := 1, nameIndex := 5, descriptorIndex := 6, attributes := #[] }] 33 0 #[] #[])
  fields := #[]
  methods := #[k0m0]
  instanceTypes := #[]
  staticTypes := #[]
  resolved := Array.replicate 124 none
  statics := none }

def pool1 : Array CpInfo := pool [(2, .class_ 4), (1, u "java/lang/Object"), (0, u "<init>"), (0, u "()V"), (0, .methodref 8 9), (0, .class_ 10), (0, .nameAndType 11 12), (0, u "com/example/aeacus/aeacus/Region"), (0, u "identity"), (0, u "(I)[I"), (0, .integer 2147483647), (0, .class_ 15), (0, u "com/example/aeacus/aeacus/RegionIdentityPinLaw"), (2, u "law"), (0, u "(II)Z")] 5

def k1m0 : Method := { name := "<init>", desc := "()V", sig := { parameters := [], returnType := none }, accessFlags := 2, code := none }
def k1c1 : Code := { maxStack := 3, maxLocals := 6, code := code, exceptionTable := #[], attributes := #[] }
def k1m1 : Method := { name := "law", desc := "(II)Z", sig := { parameters := [.int, .int], returnType := some .boolean }, accessFlags := 9, code := some k1c1 }
/-- com/example/aeacus/aeacus/RegionIdentityPinLaw -/
def k1 : Class := { plain "com/example/aeacus/aeacus/RegionIdentityPinLaw" (some 0) with
  accessFlags := 49
  interfaces := #[]
  cf := some (fileOf pool1 14 #[] #[{ accessFlags := 2, nameIndex := 5, descriptorIndex := 6, attributes := #[] }, { accessFlags := 9, nameIndex := 18, descriptorIndex := 19, attributes := #[] }] 49 2 #[] #[])
  fields := #[]
  methods := #[k1m0, k1m1]
  instanceTypes := #[]
  staticTypes := #[]
  resolved := Array.replicate 25 none
  statics := none }

def pool2 : Array CpInfo := pool [(2, .class_ 4), (1, u "java/lang/Object"), (3, .class_ 10), (1, u "com/example/aeacus/aeacus/Region"), (0, u "lowest"), (0, u "[J"), (2, u "highest"), (2, u "leader"), (0, u "[I"), (72, u "NO_PARAMETERS"), (0, u "Lcom/example/aeacus/aeacus/Region;"), (10, u "identity"), (0, u "(I)[I"), (5, .class_ 112), (0, u "com/example/aeacus/aeacus/Region$Builder")] 2

def k2c0 : Code := { maxStack := 3, maxLocals := 3, code := prog_46_method_7_code, exceptionTable := #[], attributes := #[] }
def k2m0 : Method := { name := "identity", desc := "(I)[I", sig := { parameters := [.int], returnType := some (.array .int) }, accessFlags := 8, code := some k2c0 }
/-- com/example/aeacus/aeacus/Region -/
def k2 : Class := { plain "com/example/aeacus/aeacus/Region" (some 0) with
  accessFlags := 32
  interfaces := #[]
  cf := some (fileOf pool2 8 #[.nestMembers #[111]] #[{ accessFlags := 8, nameIndex := 104, descriptorIndex := 105, attributes := #[] }] 32 2 #[] #[{ accessFlags := 24, nameIndex := 92, descriptorIndex := 93, attributes := #[] }, { accessFlags := 18, nameIndex := 11, descriptorIndex := 12, attributes := #[] }, { accessFlags := 18, nameIndex := 15, descriptorIndex := 12, attributes := #[] }, { accessFlags := 18, nameIndex := 18, descriptorIndex := 19, attributes := #[] }])
  fields := #[{ name := "NO_PARAMETERS", type := (.object "com/example/aeacus/aeacus/Region"), accessFlags := 24, slot := 0, constantValue := 0 }, { name := "lowest", type := (.array .long), accessFlags := 18, slot := 0, constantValue := 0 }, { name := "highest", type := (.array .long), accessFlags := 18, slot := 1, constantValue := 0 }, { name := "leader", type := (.array .int), accessFlags := 18, slot := 2, constantValue := 0 }]
  methods := #[k2m0]
  instanceTypes := #[(.array .long), (.array .long), (.array .int)]
  staticTypes := #[(.object "com/example/aeacus/aeacus/Region")]
  resolved := Array.replicate 115 none
  statics := none }

def pool3 : Array CpInfo := pool [(1, u "java/lang/Cloneable"), (0, .class_ 1), (0, u "java/lang/Object"), (0, .class_ 3)] 3

/-- java/lang/Cloneable -/
def k3 : Class := { plain "java/lang/Cloneable" (some 0) with
  accessFlags := 1537
  interfaces := #[]
  cf := some (fileOf pool3 2 #[] #[] 1537 4 #[] #[])
  fields := #[]
  methods := #[]
  instanceTypes := #[]
  staticTypes := #[]
  resolved := Array.replicate 8 none
  statics := none }

def pool4 : Array CpInfo := pool [(1, u "java/io/Serializable"), (0, .class_ 1), (0, u "java/lang/Object"), (0, .class_ 3)] 3

/-- java/io/Serializable -/
def k4 : Class := { plain "java/io/Serializable" (some 0) with
  accessFlags := 1537
  interfaces := #[]
  cf := some (fileOf pool4 2 #[] #[] 1537 4 #[] #[])
  fields := #[]
  methods := #[]
  instanceTypes := #[]
  staticTypes := #[]
  resolved := Array.replicate 8 none
  statics := none }

/-- the primitive byte -/
def k5 : Class := { plain "byte" none with kind := .primitive 'B', accessFlags := 0x411 }
/-- [B -/
def k6 : Class := { plain "[B" (some 0) with kind := .array 5 .byte, interfaces := #[3, 4], accessFlags := 1041 }

/-- the primitive int -/
def k7 : Class := { plain "int" none with kind := .primitive 'I', accessFlags := 0x411 }
/-- [I -/
def k8 : Class := { plain "[I" (some 0) with kind := .array 7 .int, interfaces := #[3, 4], accessFlags := 1041 }

def heap : Heap := #[]
def classes : Array Class := #[k0, k1, k2, k3, k4, k5, k6, k7, k8]
def interned : List (Array UInt16 × Addr) := []
def slotsUsed : Nat := 0
def theMethod : MethodId := ⟨1, 1⟩
def args0 : Array Value := #[.int 5, .int 6]
def aboutOver (below : List Frame) : State where
  vm := { classes := classes, interned := interned.toArray }
  heap := heap
  slotsUsed := slotsUsed
  threads := #[{ frames := .invoking theMethod args0 :: below }]
def below0 : List Frame := [.native { method := ⟨0, 0⟩, args := #[] }]
def about1 : State := aboutOver below0
def p0 : Program := .bare "" "" ""
def e0 : Env := launch0.env 0 0 0
theorem w_frames : about1.frames = Frame.invoking theMethod args0 :: below0 := rfl
set_option maxRecDepth 65536 in
theorem w_args : argsFit about1.vm theMethod args0 = true := by decide +kernel
set_option maxRecDepth 65536 in
theorem w_heap : heapFits about1 = true := by decide +kernel
set_option maxRecDepth 65536 in
theorem w_runnable : about1.curStatus? = some .runnable := by decide +kernel
set_option maxRecDepth 65536 in
theorem w_alone : about1.alone = true := by decide +kernel
set_option maxRecDepth 65536 in
theorem w_named : about1.methodNamed? x = some theMethod := by decide +kernel
set_option maxRecDepth 65536 in
theorem w_hears : about1.hears theMethod below0 = true := by decide +kernel
set_option maxRecDepth 65536 in
theorem w_ripe : about1.ripe theMethod args0 below0 = true := by decide +kernel
theorem w_running : about1.status = .running := rfl
set_option maxRecDepth 65536 in
theorem w_room : about1.hasRoom e0.platform room_1 = true :=
  launch0.hasRoom_least _ room_1 (by decide +kernel) (by decide +kernel) (by decide +kernel) (by decide +kernel) (by decide +kernel) (by decide +kernel)
theorem allAtoms_all (ts : List Jvm.Cond) (a : Array Jvm.Value) (st : Jvm.State) : (allAtoms ts).before a st = ts.all (fun c => c.before a st) := by
  induction ts with
  | nil => rfl
  | cons c t ih =>
    show (Jvm.Cond.and c (allAtoms t)).before a st = _
    rw [Jvm.Cond.before_and, ih, List.all_cons]
def words1 : List Jvm.Cond := Jvm.Cond.code x code maxLocals ret :: tables_1
/-- a 'code' word, met by the world's own term for the bytes: nothing is compared byte by byte -/
theorem code_word {y : MethodName} {bytes : ByteArray} {mx : Nat} {rt : Option FieldType} {a : Array Value} {s : State} {m : MethodId} {meth : Method} {c : Code} (h1 : s.methodNamed? y = some m) (h2 : s.vm.method? m = some meth) (h3 : meth.code = some c) (h4 : c.code = bytes)
    (h5 : (c.maxLocals == mx && c.exceptionTable.isEmpty && decide (c.maxStack ≤ mostOperands) && decide (meth.sig.returnType = rt) && !meth.locks && decide (parseMethodDescriptor y.desc = some meth.sig)) = true) : (Jvm.Cond.code y bytes mx rt).before a s = true := by
  simp only [Bool.and_eq_true, beq_iff_eq, Bool.not_eq_true', decide_eq_true_eq] at h5
  obtain ⟨⟨⟨⟨⟨g1, g2⟩, g3⟩, g4⟩, g5⟩, g6⟩ := h5
  simp [Cond.before, Cond.holds, Cond.value, h1, h2, h3, h4, g1, g2, g3, g4, g5, g6]
def isCode : Jvm.Cond → Bool
  | .code _ _ _ _ => true
  | _ => false
theorem all_split {L : List Jvm.Cond} {P : Jvm.Cond → Bool} (h1 : L.all (fun c => isCode c || P c) = true) (h2 : ∀ c ∈ L.filter isCode, P c = true) : L.all P = true := by
  refine List.all_eq_true.mpr fun c hc => ?_
  have h := List.all_eq_true.mp h1 c hc
  rcases Bool.eq_false_or_eq_true (isCode c) with hi | hi
  · exact h2 c (List.mem_filter.mpr ⟨hc, hi⟩)
  · simpa [hi] using h
set_option maxRecDepth 65536 in
theorem w_c0 : (Jvm.Cond.code x code maxLocals ret).before args0 about1 = true := code_word (m := ⟨1, 1⟩) (meth := k1m1) (c := k1c1) (by decide +kernel) rfl rfl rfl (by decide +kernel)
set_option maxRecDepth 65536 in
theorem w_c1 : (Jvm.Cond.code ({ cls := "com/example/aeacus/aeacus/Region", name := "identity", desc := "(I)[I" } : Jvm.MethodName) prog_46_method_7_code (3 : Nat) (Option.some (Jvm.ClassFile.FieldType.array Jvm.ClassFile.FieldType.int))).before args0 about1 = true := code_word (m := ⟨2, 0⟩) (meth := k2m0) (c := k2c0) (by decide +kernel) rfl rfl rfl (by decide +kernel)
def codes1 : List Jvm.Cond := [Jvm.Cond.code x code maxLocals ret, Jvm.Cond.code ({ cls := "com/example/aeacus/aeacus/Region", name := "identity", desc := "(I)[I" } : Jvm.MethodName) prog_46_method_7_code (3 : Nat) (Option.some (Jvm.ClassFile.FieldType.array Jvm.ClassFile.FieldType.int))]
set_option maxRecDepth 65536 in
theorem codes_eq : words1.filter isCode = codes1 := rfl
theorem w_codes : ∀ c ∈ words1.filter isCode, c.before args0 about1 = true := by
  rw [codes_eq]
  intro c hc
  simp only [codes1, List.mem_cons, List.not_mem_nil, or_false] at hc
  rcases hc with rfl | rfl
  · exact w_c0
  · exact w_c1
set_option maxRecDepth 65536 in
theorem w_t1 : words1.all (fun c => isCode c || c.before args0 about1) = true := by decide +kernel
theorem w_tables : (allAtoms (Jvm.Cond.code x code maxLocals ret :: tables_1)).before args0 about1 = true := by
  rw [allAtoms_all]
  show words1.all (fun c => c.before args0 about1) = true
  refine all_split ?_ w_codes
  rw [w_t1]
set_option maxRecDepth 65536 in
theorem w_case : (Jvm.Cond.and given_1 narrow_1).before args0 about1 = true := by decide +kernel
theorem w_applies : (headSpec (Jvm.Cond.code x code maxLocals ret :: tables_1) room_1).applies x e0.platform about1 = true :=
  (Spec.applies_iff w_frames).mpr ⟨w_running, w_runnable, w_alone, w_named, w_hears, w_ripe, w_room, w_tables⟩
theorem atStart : AtStart classFile x code maxLocals ret World_1 tables_1 room_1 Calls_1 rest_1 Pre_1 launch0 p0 e0 about1 theMethod args0 below0 :=
  ⟨lists_1, trivial, launch0.admits_env _ _ _, launch0.least_env, fairChoices_fair.cas, fairChoices_fair.clock, w_frames, w_args, w_heap, w_applies, trivial, trivial, w_case⟩
end start1
theorem witness_1 : WitnessClaimed_1 := ⟨start1.p0, start1.e0, start1.about1, start1.theMethod, start1.args0, start1.below0, start1.atStart⟩
end Jvm.Pilot.@@N@@
