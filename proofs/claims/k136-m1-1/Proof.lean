import JvmDerived
import JvmDerived.Pilot.@@N@@Statement
import JvmDerived.Pilot.@@N@@Code
set_option linter.unusedVariables false
set_option linter.unusedSimpArgs false
namespace Jvm.Pilot.@@N@@
open Jvm Jvm.ClassFile Sem Op Lib Jvm.Free Jvm.Stand Jvm.LawKit Jvm.RoadKit Bundle Jvm.Pilot.@@N@@.Jvm.D
section OwnKit
variable {p : Program} {l : Launch} {e : Env} {R : Room} {s : State} {m : MethodId} {args : Array Value} {below : List Frame} {meth : Method} {c : Code} {T : State} {locs : List Loc} {cells slots : Nat} {Z : State} {a0 : Array Value} {h : Heap} {W : State → Outcome → Prop}
/-- what a walk owes from a frame on -/
def Go (p : Program) (e : Env) (below : List Frame) (W : State → Outcome → Prop) (T : State) (g : JFrame) : Prop := ∃ t o, Steps p.tables e below (T.setTop g) t ∧ t.status = .running ∧ Ended t below o ∧ W t o
theorem Go.of {T T' : State} {g g' : JFrame} (q : ∀ t, Steps p.tables e below (T'.setTop g') t → Steps p.tables e below (T.setTop g) t) (k : Go p e below W T' g') : Go p e below W T g := by
  obtain ⟨t, o, h1, h2⟩ := k
  exact ⟨t, o, q t h1, h2⟩
theorem Go.ret (X : Stand p l e R s m args below meth c T locs cells slots) {g : JFrame} {v : Option Value} (hv : meth.sig.returnType = none → v = none) (hk : meth.locks = false)
    (st : ∀ fs, (∀ (f : JFrame) (acts : List Action), f.method = m → f.locked = none → f.entered = [] → (doReturn e (T.setTop f) acts v).1 = T.setFrames fs) → Steps p.tables e below (T.setTop g) (T.setFrames fs))
    (hq : ∀ t : State, t.heap = T.heap → FrameEnd s (.returned v) t locs cells slots → W t (.returned v)) : Go p e below W T g := by
  obtain ⟨fs, hr, hrun, hended, hW, hsame⟩ := X.leave (v := v) hv hk
  exact ⟨_, _, st fs hr, hrun, hended, hq _ rfl ⟨⟨_, rfl⟩, hW, hsame⟩⟩
/-- ireturn of a boolean, byte, char, short -/
theorem Go.retN (X : Stand p l e R s m args below meth c T locs cells slots) (hx : p.tables.exec = Jvm.exec) {pc : Nat} {Ls : Array Slot} {z w : Int32} {t : FieldType} {rest : List Value} (hret : meth.sig.returnType = some t) (ht : t = .boolean ∨ t = .byte ∨ t = .char ∨ t = .short) (hd : decode c.code pc = .ok (.ireturn, 1)) (hk : meth.locks = false) (hn : nar t z = w)
    (hq : ∀ t : State, t.heap = T.heap → FrameEnd s (.returned (some (.int w))) t locs cells slots → W t (.returned (some (.int w)))) : Go p e below W T (mkF m pc Ls (.int z :: rest)) := by
  subst hn
  exact Go.ret X (fun q => by rw [hret] at q; cases q) hk (fun fs hr => Jvm.RoadKit.retN X hx hret ht hd hr) hq
theorem Go.retI (X : Stand p l e R s m args below meth c T locs cells slots) (hx : p.tables.exec = Jvm.exec) {pc : Nat} {Ls : Array Slot} {z w : Int32} {rest : List Value} (hret : meth.sig.returnType = some .int) (hd : decode c.code pc = .ok (.ireturn, 1)) (hk : meth.locks = false) (hn : z = w)
    (hq : ∀ t : State, t.heap = T.heap → FrameEnd s (.returned (some (.int w))) t locs cells slots → W t (.returned (some (.int w)))) : Go p e below W T (mkF m pc Ls (.int z :: rest)) := by
  subst hn
  exact Go.ret X (fun q => by rw [hret] at q; cases q) hk (fun fs hr => retOut X hx hret rfl (Or.inl ⟨rfl, Or.inl rfl, z, rfl⟩) hd hr) hq
theorem Go.retJ (X : Stand p l e R s m args below meth c T locs cells slots) (hx : p.tables.exec = Jvm.exec) {pc : Nat} {Ls : Array Slot} {z w : Int64} {rest : List Value} (hret : meth.sig.returnType = some .long) (hd : decode c.code pc = .ok (.lreturn, 1)) (hk : meth.locks = false) (hn : z = w)
    (hq : ∀ t : State, t.heap = T.heap → FrameEnd s (.returned (some (.long w))) t locs cells slots → W t (.returned (some (.long w)))) : Go p e below W T (mkF m pc Ls (.long z :: rest)) := by
  subst hn
  exact Go.ret X (fun q => by rw [hret] at q; cases q) hk (fun fs hr => retOut X hx hret rfl (Or.inr (Or.inl ⟨rfl, rfl, z, rfl⟩)) hd hr) hq
theorem Go.retA (X : Stand p l e R s m args below meth c T locs cells slots) (hx : p.tables.exec = Jvm.exec) {pc : Nat} {Ls : Array Slot} {t : FieldType} {a : Addr} {rest : List Value} (hret : meth.sig.returnType = some t) (ht : t.isReference = true) (hnr : narrow t (.ref a) = .ref a) (hd : decode c.code pc = .ok (.areturn, 1)) (hk : meth.locks = false)
    (hq : ∀ t : State, t.heap = T.heap → FrameEnd s (.returned (some (.ref a))) t locs cells slots → W t (.returned (some (.ref a)))) : Go p e below W T (mkF m pc Ls (.ref a :: rest)) :=
  Go.ret X (fun q => by rw [hret] at q; cases q) hk (fun fs hr => retOut X hx hret hnr (Or.inr (Or.inr (Or.inr (Or.inr ⟨rfl, ht, rfl⟩)))) hd hr) hq
theorem Go.retV (X : Stand p l e R s m args below meth c T locs cells slots) (hx : p.tables.exec = Jvm.exec) {pc : Nat} {Ls : Array Slot} (hret : meth.sig.returnType = none) (hd : decode c.code pc = .ok (.return_, 1)) (hk : meth.locks = false)
    (hq : ∀ t : State, t.heap = T.heap → FrameEnd s (.returned none) t locs cells slots → W t (.returned none)) : Go p e below W T (mkF m pc Ls []) :=
  Go.ret X (fun _ => rfl) hk (fun fs hr => X.returnOut hx hret hd hr) hq
/-- a body's contract out of its walk -/
theorem own_body {y : MethodName} {bytes : ByteArray} {maxL : Nat} {ret : Option FieldType} {ws : List Jvm.Cond} {rm : Room} {as' : Array Value} {Q : Option Value → Heap → List Loc → Prop} {Ls : Array Slot} (hpn : plainFor y = true) (hef : ∀ m, entryFrame m as' maxL = mkF m 0 Ls [])
    (walk : ∀ (p : Program) (e : Env) (s : State) (m : MethodId) (below : List Frame) (meth : Method) (c : Code) (T : State) (W : State → Outcome → Prop), Stand p l e rm s m as' below meth c T [] 0 0 → p.tables.exec = Jvm.exec → c.code = bytes → c.maxLocals = maxL → meth.sig.returnType = ret → meth.locks = false → s.vm.findClass y.cls = some m.cls → meth.name = y.name → Z.Warmed39 s.vm → T.heap = h →
      (∀ (t : State) v L cells slots, Q v t.heap L → FrameEnd s (.returned v) t L cells slots → cells ≤ rm.cells → slots ≤ rm.slots → W t (.returned v)) → Go p e below W T (mkF m 0 Ls [])) :
    MetFree l y (head1 (Jvm.Cond.code y bytes maxL ret :: ws) rm) (fun a U => a = as' ∧ Z.Warmed39 U.vm ∧ U.heap = h) (fun _ _ _ _ _ => True) (fun _ U o U' => ∃ v L, o = .returned v ∧ Q v U'.heap L ∧ FrameEnd U o U' L rm.cells rm.slots) := by
  refine MetFree.of_bodySF hpn hisR ?_
  intro p e s m args below meth c s₁ Bd hml hP hK
  obtain ⟨rfl, hZ, hh⟩ := hP
  obtain ⟨t, o, h1, h2, h3, h4⟩ := walk p e s m below meth c s₁ (fun t o => ∃ v L, o = .returned v ∧ Q v t.heap L ∧ FrameEnd s o t L rm.cells rm.slots) (Stand.of_body Bd) Bd.exec Bd.bytes hml Bd.returns (BodyLoose.notSynchronized Bd) (findClass_of_methodNamed Bd.named) (name_of_methodNamed Bd.named Bd.method).1 hZ (by rw [← hh, Bd.state]; rfl)
    (fun t v L cells slots hQ hF hc hs => ⟨v, L, rfl, hQ, hF.1, hF.2.1, hF.2.2.mono hc hs⟩)
  exact ⟨t, o, castTop (hef m) h1, h2, h3, h4⟩
/-- a contract, written short -/
abbrev Con (l : Launch) (Z : State) (y : MethodName) (bytes : ByteArray) (maxL : Nat) (ret : Option FieldType) (ws : List Jvm.Cond) (rm : Room) (as' : Array Value) (h : Heap) (Q : Option Value → Heap → List Loc → Prop) : Prop :=
  MetFree l y (head1 (Jvm.Cond.code y bytes maxL ret :: ws) rm) (fun a U => a = as' ∧ Z.Warmed39 U.vm ∧ U.heap = h) (fun _ _ _ _ _ => True) (fun _ U o U' => ∃ v L, o = .returned v ∧ Q v U'.heap L ∧ FrameEnd U o U' L rm.cells rm.slots)
/-- what a callee that leaves the heap as it is says -/
def PQ (w : Value) (h0 : Heap) (v : Option Value) (h : Heap) (L : List Loc) : Prop := v = some w ∧ L = [] ∧ h = h0
theorem Go.callS (X : Stand p l e R s m args below meth c T locs cells slots) (hx : p.tables.exec = Jvm.exec) (hZ : Z.Warmed39 s.vm) {own : String} {index : Nat} {y : MethodName} {bytes : ByteArray} {maxL : Nat} {ret : Option FieldType} {rm : Room} {as' : Array Value} {Q : Option Value → Heap → List Loc → Prop} (hown : s.vm.findClass own = some m.cls)
    (w1 : (Jvm.Cond.methodLink own index y).before a0 Z = true) (w2 : (Jvm.Cond.static y).before a0 Z = true) (w3 : (Jvm.Cond.initialized y.cls).before a0 Z = true) (w4 : (Jvm.Cond.code y bytes maxL ret).before a0 Z = true) (hy : y.cls ≠ "java/lang/invoke/MethodHandle" ∧ y.cls ≠ "java/lang/invoke/VarHandle") (eT : T.heap = h)
    (hM : Con l Z y bytes maxL ret [] rm as' h Q) {V : Nat} (hf : rm.frames + 1 ≤ R.frames) (hl : V + (maxL + 11) + rm.locals ≤ R.locals) (hc : cells + rm.cells ≤ R.cells) (hs : slots + rm.slots ≤ R.slots)
    {pc : Nat} {Ls : Array Slot} {st : List Value} (hsize : Ls.size = c.maxLocals) {argsL rest : List Value} (has : argsL.toArray = as') (hlen : ∀ sig, parseMethodDescriptor y.desc = some sig → argsL.length = sig.parameters.length) (hstack : st = argsL.reverse ++ rest) (hV : (rest.map fun v => v.category).sum ≤ V) (hd : decode c.code pc = .ok (.invokestatic index, 3))
    (K : ∀ T' v L, Q v T'.heap L → Stand p l e R s m args below meth c T' (locs ++ L) (cells + rm.cells) (slots + rm.slots) → Go p e below W T' (mkF m (pc + 3) Ls (v.toList ++ rest))) : Go p e below W T (mkF m pc Ls st) := by
  obtain ⟨v, vm₁, ⟨T', L', k', n'⟩, -, X', ⟨L, hQ, e1, e2, e3⟩, st'⟩ := Jvm.LawKit.callS X hx hown (mvT hZ w1) (mvT hZ w2) (mvT hZ w3) (mvT hZ w4) hy (backOf (W := V) hM hZ w4 w3 hf hl) (g := mkF m pc Ls st) rfl hsize hlen hstack (by show 2 * 0 + _ ≤ _; omega) hd (fun _ _ => ⟨has, eT, hc, hs⟩)
  dsimp only [Pt.U, Pt.locs, Pt.cells, Pt.slots] at X' e1 e2 e3 st' hQ
  subst e1 e2 e3
  exact Go.of st' (K _ _ _ hQ X')
theorem Go.callP (X : Stand p l e R s m args below meth c T locs cells slots) (hx : p.tables.exec = Jvm.exec) (hZ : Z.Warmed39 s.vm) {own : String} {index : Nat} {y : MethodName} {bytes : ByteArray} {maxL : Nat} {ret : Option FieldType} {rm : Room} {as' : Array Value} {w : Value} (hown : s.vm.findClass own = some m.cls)
    (w1 : (Jvm.Cond.methodLink own index y).before a0 Z = true) (w2 : (Jvm.Cond.static y).before a0 Z = true) (w3 : (Jvm.Cond.initialized y.cls).before a0 Z = true) (w4 : (Jvm.Cond.code y bytes maxL ret).before a0 Z = true) (hy : y.cls ≠ "java/lang/invoke/MethodHandle" ∧ y.cls ≠ "java/lang/invoke/VarHandle") (eT : T.heap = h)
    (hM : Con l Z y bytes maxL ret [] rm as' h (PQ w h)) {V : Nat} (hf : rm.frames + 1 ≤ R.frames) (hl : V + (maxL + 11) + rm.locals ≤ R.locals) (z1 : rm.cells = 0) (z2 : rm.slots = 0) (hc : cells ≤ R.cells) (hs : slots ≤ R.slots)
    {pc : Nat} {Ls : Array Slot} {st : List Value} (hsize : Ls.size = c.maxLocals) {argsL rest : List Value} (has : argsL.toArray = as') (hlen : ∀ sig, parseMethodDescriptor y.desc = some sig → argsL.length = sig.parameters.length) (hstack : st = argsL.reverse ++ rest) (hV : (rest.map fun v => v.category).sum ≤ V) (hd : decode c.code pc = .ok (.invokestatic index, 3))
    (K : ∀ T', Stand p l e R s m args below meth c T' locs cells slots → T'.heap = h → Go p e below W T' (mkF m (pc + 3) Ls (w :: rest))) : Go p e below W T (mkF m pc Ls st) := by
  refine Go.callS X hx hZ hown w1 w2 w3 w4 hy eT hM hf hl (by rw [z1]; exact hc) (by rw [z2]; exact hs) hsize has hlen hstack hV hd ?_
  rintro T' v L ⟨rfl, rfl, h3⟩ X'
  rw [z1, z2, List.append_nil] at X'
  exact K T' X' h3
end OwnKit
section OwnHeap
variable {p : Program} {l : Launch} {e : Env} {R : Room} {s : State} {m : MethodId} {args : Array Value} {below : List Frame} {meth : Method} {c : Code} {T : State} {locs : List Loc} {cells slots : Nat} {Z : State} {a0 : Array Value} {h h' : Heap} {W : State → Outcome → Prop}
/-- an array: its kind, its length, the ints in its places -/
def AI (Z : State) (h : Heap) (a : Addr) (ty : FieldType) (n : Nat) (f : Nat → Int32) : Prop := ∃ cl : Cell, Arr Z h a cl ty ∧ cl.slots.size = n ∧ n < 2 ^ 31 ∧ ∀ j, j < n → cl.slots[j]? = some (.int (f j)) ∧ fits ty (.int (f j)) = true
theorem AI.lt {a : Addr} {ty : FieldType} {n : Nat} {f : Nat → Int32} (A : AI Z h a ty n f) : a < h.size := by obtain ⟨cl, A, -⟩ := A; exact A.lt
theorem AI.small {a : Addr} {ty : FieldType} {n : Nat} {f : Nat → Int32} (A : AI Z h a ty n f) : n < 2 ^ 31 := by obtain ⟨cl, -, -, h, -⟩ := A; exact h
theorem AI.ext {a : Addr} {ty : FieldType} {n : Nat} {f : Nat → Int32} (A : AI Z h a ty n f) (E : Ext h h') : AI Z h' a ty n f := by obtain ⟨cl, A, r⟩ := A; exact ⟨cl, A.ext E, r⟩
theorem AI.other {a b : Addr} {ty : FieldType} {n sl : Nat} {f : Nat → Int32} {v : Value} (A : AI Z h b ty n f) (W : Wr h h' a sl v) (q : b ≠ a) : AI Z h' b ty n f := by obtain ⟨cl, A, r⟩ := A; exact ⟨cl, A.other W q, r⟩
theorem AI.keep {a : Addr} {ty : FieldType} {n : Nat} {f : Nat → Int32} {ws : List Addr} (A : AI Z h a ty n f) (K : Keep h h' ws) (q : a ∉ ws) : AI Z h' a ty n f := by obtain ⟨cl, A, r⟩ := A; exact ⟨cl, ⟨K.2.1 a cl A.1 q, A.2⟩, r⟩
theorem AI.congr {a : Addr} {ty : FieldType} {n : Nat} {f g : Nat → Int32} (A : AI Z h a ty n f) (q : ∀ j, j < n → f j = g j) : AI Z h a ty n g := by obtain ⟨cl, A, r1, r2, r3⟩ := A; exact ⟨cl, A, r1, r2, fun j hj => by rw [← q j hj]; exact r3 j hj⟩
def upd (f : Nat → Int32) (i : Nat) (x : Int32) : Nat → Int32 := fun j => if j = i then x else f j
theorem AI.set {a : Addr} {ty : FieldType} {n i : Nat} {f : Nat → Int32} {x : Int32} (A : AI Z h a ty n f) (W : Wr h h' a i (.int x)) (hv : fits ty (.int x) = true) : AI Z h' a ty n (upd f i x) := by
  obtain ⟨cl, A, r1, r2, r3⟩ := A
  refine ⟨_, A.same W, by rw [sz_set]; exact r1, r2, fun j hj => ?_⟩
  simp only [Cell.setSlot, upd]
  by_cases q : j = i
  · subst q; rw [if_pos rfl]; exact ⟨by simp [r1, hj], hv⟩
  · rw [if_neg q, Array.getElem?_setIfInBounds_ne (Ne.symm q)]; exact r3 j hj
/-- a place within the length -/
def PV (h0 : Heap) (v : Option Value) (h : Heap) (L : List Loc) : Prop := v = none ∧ L = [] ∧ h = h0
def inb (j : Int32) (n : Nat) : Prop := ¬ j < 0 ∧ j.toNatClampNeg < n
theorem inb.no {cl : Cell} {j : Int32} {n : Nat} (q : inb j n) (r : cl.slots.size = n) : ¬ (j < 0 ∨ cl.slots.size ≤ j.toNatClampNeg) := by rw [r]; exact fun z => z.elim q.1 (fun z => absurd q.2 (Nat.not_lt.mpr z))
theorem Go.alen (X : Stand p l e R s m args below meth c T locs cells slots) (hx : p.tables.exec = Jvm.exec) (hZ : Z.Warmed39 s.vm) (eT : T.heap = h) {a : Addr} {ty : FieldType} {n : Nat} {f : Nat → Int32} (A : AI Z h a ty n f) {pc : Nat} {Ls : Array Slot} {st : List Value} (hd : decode c.code pc = .ok (.arraylength, 1))
    (K : Go p e below W T (mkF m (pc + 1) Ls (.int n.toInt32 :: st))) : Go p e below W T (mkF m pc Ls (.ref a :: st)) := by
  obtain ⟨cl, A, r1, -⟩ := A
  subst r1
  exact Go.of (fun t k => X.arraylength hx (by rw [eT]; exact A.1) (State.isArrayOf_alike hZ.alike A.2.1) (g := mkF m pc Ls (.ref a :: st)) rfl rfl hd t k) K
theorem Go.iald (X : Stand p l e R s m args below meth c T locs cells slots) (hx : p.tables.exec = Jvm.exec) (hZ : Z.Warmed39 s.vm) (eT : T.heap = h) {a : Addr} {n : Nat} {f : Nat → Int32} (A : AI Z h a .int n f) {j : Int32} (hj : inb j n) {pc : Nat} {Ls : Array Slot} {st : List Value} (hd : decode c.code pc = .ok (.iaload, 1))
    (K : Go p e below W T (mkF m (pc + 1) Ls (.int (f j.toNatClampNeg) :: st))) : Go p e below W T (mkF m pc Ls (.int j :: .ref a :: st)) := by
  obtain ⟨cl, A, r1, -, r3⟩ := A
  exact Go.of (fun t k => X.iaload hx (j := j) (v := .int (f j.toNatClampNeg)) (by rw [eT]; exact A.1) (State.isArrayOf_alike hZ.alike A.2.1) A.2.2 (hj.no r1) (r3 _ hj.2).1 (g := mkF m pc Ls (.int j :: .ref a :: st)) rfl rfl hd t k) K
theorem Go.cald (X : Stand p l e R s m args below meth c T locs cells slots) (hx : p.tables.exec = Jvm.exec) (hZ : Z.Warmed39 s.vm) (eT : T.heap = h) {a : Addr} {n : Nat} {f : Nat → Int32} (A : AI Z h a .char n f) {j : Int32} (hj : inb j n) {pc : Nat} {Ls : Array Slot} {st : List Value} (hd : decode c.code pc = .ok (.caload, 1))
    (K : Go p e below W T (mkF m (pc + 1) Ls (.int (f j.toNatClampNeg) :: st))) : Go p e below W T (mkF m pc Ls (.int j :: .ref a :: st)) := by
  obtain ⟨cl, A, r1, -, r3⟩ := A
  exact Go.of (fun t k => X.caload hx (j := j) (v := .int (f j.toNatClampNeg)) (by rw [eT]; exact A.1) (State.isArrayOf_alike hZ.alike A.2.1) A.2.2 (hj.no r1) (r3 _ hj.2).1 (g := mkF m pc Ls (.int j :: .ref a :: st)) rfl rfl hd t k) K
theorem Go.bald (X : Stand p l e R s m args below meth c T locs cells slots) (hx : p.tables.exec = Jvm.exec) (hZ : Z.Warmed39 s.vm) (eT : T.heap = h) {a : Addr} {n : Nat} {f : Nat → Int32} (A : AI Z h a .byte n f) {j : Int32} (hj : inb j n) {pc : Nat} {Ls : Array Slot} {st : List Value} (hd : decode c.code pc = .ok (.baload, 1))
    (K : Go p e below W T (mkF m (pc + 1) Ls (.int (f j.toNatClampNeg) :: st))) : Go p e below W T (mkF m pc Ls (.int j :: .ref a :: st)) := by
  obtain ⟨cl, A, r1, -, r3⟩ := A
  exact Go.of (fun t k => X.baloadBytes hx (j := j) (v := .int (f j.toNatClampNeg)) (by rw [eT]; exact A.1) (State.isArrayOf_alike hZ.alike A.2.1) A.2.2 (hj.no r1) (r3 _ hj.2).1 (g := mkF m pc Ls (.int j :: .ref a :: st)) rfl rfl hd t k) K
theorem Go.zald (X : Stand p l e R s m args below meth c T locs cells slots) (hx : p.tables.exec = Jvm.exec) (hZ : Z.Warmed39 s.vm) (eT : T.heap = h) {a : Addr} {n : Nat} {f : Nat → Int32} (A : AI Z h a .boolean n f) {j : Int32} (hj : inb j n) {pc : Nat} {Ls : Array Slot} {st : List Value} (hd : decode c.code pc = .ok (.baload, 1))
    (K : Go p e below W T (mkF m (pc + 1) Ls (.int (f j.toNatClampNeg) :: st))) : Go p e below W T (mkF m pc Ls (.int j :: .ref a :: st)) := by
  obtain ⟨cl, A, r1, -, r3⟩ := A
  exact Go.of (fun t k => X.baloadBooleans hx (j := j) (v := .int (f j.toNatClampNeg)) (by rw [eT]; exact A.1) (State.isArrayOf_alike hZ.alike A.2.1) A.2.2 (hj.no r1) (r3 _ hj.2).1 (g := mkF m pc Ls (.int j :: .ref a :: st)) rfl rfl hd t k) K
theorem Go.ist (X : Stand p l e R s m args below meth c T locs cells slots) (hx : p.tables.exec = Jvm.exec) (hZ : Z.Warmed39 s.vm) (eT : T.heap = h) {n0 : Nat} (N : Fr n0 locs) {a : Addr} (ga : n0 ≤ a) {n : Nat} {f : Nat → Int32} (A : AI Z h a .int n f) {j x : Int32} (hj : inb j n) {pc : Nat} {Ls : Array Slot} {st : List Value} (hd : decode c.code pc = .ok (.iastore, 1))
    (K : ∀ T' h' L', Stand p l e R s m args below meth c T' L' cells slots → Fr n0 L' → T'.heap = h' → Wr h h' a j.toNatClampNeg (.int x) → AI Z h' a .int n (upd f j.toNatClampNeg x) → Go p e below W T' (mkF m (pc + 1) Ls st)) : Go p e below W T (mkF m pc Ls (.int x :: .int j :: .ref a :: st)) := by
  obtain ⟨cl, A', r1, r2, r3⟩ := id A
  obtain ⟨T', h', X', e', W', st'⟩ := stI X hx hZ eT A' (j := j) (hj.no r1) (g := mkF m pc Ls (.int x :: .int j :: .ref a :: st)) rfl rfl hd
  exact Go.of st' (K _ _ _ X' (Fr.snoc X' N ga) e' W' (A.set W' rfl))
theorem Go.bst (X : Stand p l e R s m args below meth c T locs cells slots) (hx : p.tables.exec = Jvm.exec) (hZ : Z.Warmed39 s.vm) (eT : T.heap = h) {n0 : Nat} (N : Fr n0 locs) {a : Addr} (ga : n0 ≤ a) {n : Nat} {f : Nat → Int32} (A : AI Z h a .byte n f) {j x : Int32} (hj : inb j n) {pc : Nat} {Ls : Array Slot} {st : List Value} (hd : decode c.code pc = .ok (.bastore, 1))
    (K : ∀ T' h' L', Stand p l e R s m args below meth c T' L' cells slots → Fr n0 L' → T'.heap = h' → Wr h h' a j.toNatClampNeg (.int (nar .byte x)) → AI Z h' a .byte n (upd f j.toNatClampNeg (nar .byte x)) → Go p e below W T' (mkF m (pc + 1) Ls st)) : Go p e below W T (mkF m pc Ls (.int x :: .int j :: .ref a :: st)) := by
  obtain ⟨cl, A', r1, r2, r3⟩ := id A
  obtain ⟨T', h', X', e', W', st'⟩ := stB X hx hZ eT A' (j := j) (hj.no r1) (g := mkF m pc Ls (.int x :: .int j :: .ref a :: st)) rfl rfl hd
  exact Go.of st' (K _ _ _ X' (Fr.snoc X' N ga) e' W' (A.set W' (fits_nar_byte _)))
theorem Go.zst (X : Stand p l e R s m args below meth c T locs cells slots) (hx : p.tables.exec = Jvm.exec) (hZ : Z.Warmed39 s.vm) (eT : T.heap = h) {n0 : Nat} (N : Fr n0 locs) {a : Addr} (ga : n0 ≤ a) {n : Nat} {f : Nat → Int32} (A : AI Z h a .boolean n f) {j x : Int32} (hj : inb j n) {pc : Nat} {Ls : Array Slot} {st : List Value} (hd : decode c.code pc = .ok (.bastore, 1))
    (K : ∀ T' h' L', Stand p l e R s m args below meth c T' L' cells slots → Fr n0 L' → T'.heap = h' → Wr h h' a j.toNatClampNeg (.int (nar .boolean x)) → AI Z h' a .boolean n (upd f j.toNatClampNeg (nar .boolean x)) → Go p e below W T' (mkF m (pc + 1) Ls st)) : Go p e below W T (mkF m pc Ls (.int x :: .int j :: .ref a :: st)) := by
  obtain ⟨cl, A', r1, r2, r3⟩ := id A
  obtain ⟨T', h', X', e', W', st'⟩ := stZ X hx hZ eT A' (j := j) (hj.no r1) (g := mkF m pc Ls (.int x :: .int j :: .ref a :: st)) rfl rfl hd
  exact Go.of st' (K _ _ _ X' (Fr.snoc X' N ga) e' W' (A.set W' (fits_nar_bool _)))
theorem Go.cst (X : Stand p l e R s m args below meth c T locs cells slots) (hx : p.tables.exec = Jvm.exec) (hZ : Z.Warmed39 s.vm) (eT : T.heap = h) {n0 : Nat} (N : Fr n0 locs) {a : Addr} (ga : n0 ≤ a) {n : Nat} {f : Nat → Int32} (A : AI Z h a .char n f) {j x : Int32} (hj : inb j n) {pc : Nat} {Ls : Array Slot} {st : List Value} (hd : decode c.code pc = .ok (.castore, 1))
    (K : ∀ T' h' L', Stand p l e R s m args below meth c T' L' cells slots → Fr n0 L' → T'.heap = h' → Wr h h' a j.toNatClampNeg (.int (nar .char x)) → AI Z h' a .char n (upd f j.toNatClampNeg (nar .char x)) → Go p e below W T' (mkF m (pc + 1) Ls st)) : Go p e below W T (mkF m pc Ls (.int x :: .int j :: .ref a :: st)) := by
  obtain ⟨cl, A', r1, r2, r3⟩ := id A
  obtain ⟨T', h', X', e', W', st'⟩ := stC X hx hZ eT A' (j := j) (hj.no r1) (g := mkF m pc Ls (.int x :: .int j :: .ref a :: st)) rfl rfl hd
  exact Go.of st' (K _ _ _ X' (Fr.snoc X' N ga) e' W' (A.set W' (fits_nar_char _)))
theorem AI.new {b cA : Nat} {ty : FieldType} {n : Int32} (A : Arr Z h b (newA cA ty n) ty) (hd : defaultValue ty = .int 0) (hf : fits ty (.int 0) = true) : AI Z h b ty n.toNatClampNeg (fun _ => 0) := by
  refine ⟨_, A, sz_new _ _ _, ?_, fun j hj => ?_⟩
  · show n.toInt.toNat < 2 ^ 31
    have := n.toInt_lt; omega
  · exact ⟨by simp [newA, hj, hd], hf⟩
theorem Go.newA (X : Stand p l e R s m args below meth c T locs cells slots) (hx : p.tables.exec = Jvm.exec) (hZ : Z.Warmed39 s.vm) {aty : ArrayType} (w : (Jvm.Cond.arrayClass (newarray.typeOf aty)).before a0 Z = true) (hdef : defaultValue (newarray.typeOf aty) = .int 0) (hft : fits (newarray.typeOf aty) (.int 0) = true) {ad : String} (had : "[" ++ (newarray.typeOf aty).toString = ad) (eT : T.heap = h) {pc : Nat} {Ls : Array Slot} {n : Int32} {st : List Value} (hd : decode c.code pc = .ok (.newarray aty, 2))
    (hn : ¬ n < 0) {cap : Nat} (hcap : n.toNatClampNeg ≤ cap) (hb : cap * 8 ≤ 536870912) (hc : cells + 1 ≤ R.cells) (hl : slots + cap ≤ R.slots)
    (K : ∀ T' h' b, b = h.size → Stand p l e R s m args below meth c T' locs (cells + 1) (slots + cap) → T'.heap = h' → Ext h h' → Exa Z h' b ad → AI Z h' b (newarray.typeOf aty) n.toNatClampNeg (fun _ => 0) → Go p e below W T' (mkF m (pc + 2) Ls (.ref b :: st))) : Go p e below W T (mkF m pc Ls (.int n :: st)) := by
  obtain ⟨T', h', cA, X', e', E', A', B', st'⟩ := newPE X hx hZ w eT (g := mkF m pc Ls (.int n :: st)) rfl hd rfl hn hcap hb hc hl had
  exact Go.of st' (K _ _ _ rfl X' e' E' B' (AI.new A' hdef hft))
theorem Go.newO (X : Stand p l e R s m args below meth c T locs cells slots) (hx : p.tables.exec = Jvm.exec) (hZ : Z.Warmed39 s.vm) {own C : String} {index n : Nat} (hown : s.vm.findClass own = some m.cls) (w : (Jvm.Cond.classLink own index C).before a0 Z = true) (wi : (Jvm.Cond.instantiable C n).before a0 Z = true) (wz : (Jvm.Cond.initialized C).before a0 Z = true) (eT : T.heap = h)
    {pc : Nat} {Ls : Array Slot} {st : List Value} (hd : decode c.code pc = .ok (.new index, 3)) (hc : cells + 1 ≤ R.cells) (hl : slots + n ≤ R.slots)
    (K : ∀ T' h' b, b = h.size → Stand p l e R s m args below meth c T' locs (cells + 1) (slots + n) → T'.heap = h' → Ext h h' → Exa Z h' b C → (∀ {O nm d : String} {ty : FieldType}, Laid Z a0 C O nm d → parseFieldDescriptor d = some ty → Fld Z h' b O nm d (defaultValue ty)) → Go p e below W T' (mkF m (pc + 3) Ls (.ref b :: st))) : Go p e below W T (mkF m pc Ls st) := by
  obtain ⟨T', h', X', e', E', A', D', -, st'⟩ := Jvm.RoadKit.newO X hx hZ hown w wi wz eT (g := mkF m pc Ls st) rfl hd hc hl
  exact Go.of st' (K _ _ _ rfl X' e' E' A' D')
theorem Go.getF (X : Stand p l e R s m args below meth c T locs cells slots) (hx : p.tables.exec = Jvm.exec) (hZ : Z.Warmed39 s.vm) {own O n d : String} {index : Nat} (hown : s.vm.findClass own = some m.cls) (w : (Jvm.Cond.fieldLink own index O n d).before a0 Z = true) (eT : T.heap = h) {a : Addr} {v : Value} (F : Fld Z h a O n d v)
    {pc : Nat} {Ls : Array Slot} {st : List Value} (hd : decode c.code pc = .ok (.getfield index, 3)) (K : ∀ T', Stand p l e R s m args below meth c T' locs cells slots → T'.heap = h → Go p e below W T' (mkF m (pc + 3) Ls (v :: st))) : Go p e below W T (mkF m pc Ls (.ref a :: st)) := by
  obtain ⟨T', X', e', st'⟩ := Jvm.RoadKit.getF X hx hZ hown (host := "") (Or.inl w) Via.refl eT F (g := mkF m pc Ls (.ref a :: st)) rfl rfl hd
  exact Go.of st' (K _ X' e')
theorem Go.putF (X : Stand p l e R s m args below meth c T locs cells slots) (hx : p.tables.exec = Jvm.exec) (hZ : Z.Warmed39 s.vm) {own O n d C : String} {index kk : Nat} {ty : FieldType} (hown : s.vm.findClass own = some m.cls) (w : (Jvm.Cond.fieldLink own index O n d).before a0 Z = true) (eT : T.heap = h) {n0 : Nat} (N : Fr n0 locs) {a : Addr} (ga : n0 ≤ a) {v old : Value} (F : Fld Z h a O n d old) (E : Exa Z h a C)
    (L : (Jvm.Cond.lays C O n d).before a0 Z = true ∨ ((Jvm.Cond.laysFinal C O n d).before a0 Z = true ∧ own = O ∧ meth.name = "<init>")) (wi : (Jvm.Cond.instantiable C kk).before a0 Z = true) (hty : parseFieldDescriptor d = some ty) {v' : Value} (hn : narrow ty v = v') (hf : fits ty v' = true)
    {pc : Nat} {Ls : Array Slot} {st : List Value} (hd : decode c.code pc = .ok (.putfield index, 3)) (K : ∀ T' h' L', Stand p l e R s m args below meth c T' L' cells slots → Fr n0 L' → T'.heap = h' → Wr h h' a (Jvm.RoadKit.slotOf Z O n d) v' → Fld Z h' a O n d v' → Go p e below W T' (mkF m (pc + 3) Ls st)) : Go p e below W T (mkF m pc Ls (v :: .ref a :: st)) := by
  obtain ⟨T', h', X', e', W', st'⟩ := putFN X hx hZ hown w Via.refl eT F E L wi hty hn hf (g := mkF m pc Ls (v :: .ref a :: st)) rfl rfl hd
  exact Go.of st' (K _ _ _ X' (Fr.snoc X' N ga) e' W' (F.same W'))
theorem Go.initO (X : Stand p l e R s m args below meth c T locs cells slots) (hx : p.tables.exec = Jvm.exec) (hZ : Z.Warmed39 s.vm) {own : String} {idx : Nat} (hown : s.vm.findClass own = some m.cls) (w1 : (Jvm.Cond.methodLink own idx Lib.objectInit).before a0 Z = true) (w2 : (Jvm.Cond.instanceMethod Lib.objectInit).before a0 Z = true)
    (w3 : (Jvm.Cond.code Lib.objectInit Jvm.LibCode.Object.Init0.code 1 none).before a0 Z = true) (eT : T.heap = h) {pc : Nat} {Ls : Array Slot} {st : List Value} (hsize : Ls.size = c.maxLocals) {a : Addr} (hd : decode c.code pc = .ok (.invokespecial idx, 3)) (hf : 1 ≤ R.frames) {V : Nat} (hV : (st.map fun v => v.category).sum ≤ V) (hl : V + 12 ≤ R.locals)
    (K : ∀ T', Stand p l e R s m args below meth c T' locs cells slots → T'.heap = h → Go p e below W T' (mkF m (pc + 3) Ls st)) : Go p e below W T (mkF m pc Ls (.ref a :: st)) := by
  obtain ⟨T', X', e', st'⟩ := Jvm.RoadKit.initO X hx hZ hown w1 w2 w3 eT (g := mkF m pc Ls (.ref a :: st)) rfl hsize rfl hd hf (W := V) (by show 2 * 0 + _ ≤ _; omega) hl
  exact Go.of st' (K _ X' e')
/-- a constructor by its contract -/
theorem Go.callI (X : Stand p l e R s m args below meth c T locs cells slots) (hx : p.tables.exec = Jvm.exec) (hZ : Z.Warmed39 s.vm) {own : String} {index : Nat} {y : MethodName} {bytes : ByteArray} {maxL : Nat} {rm : Room} {as' : Array Value} {Q : Option Value → Heap → List Loc → Prop} (hy1 : y.name = "<init>") (hown : s.vm.findClass own = some m.cls)
    (w1 : (Jvm.Cond.methodLink own index y).before a0 Z = true) (w2 : (Jvm.Cond.instanceMethod y).before a0 Z = true) (w3 : (Jvm.Cond.initialized y.cls).before a0 Z = true) (w4 : (Jvm.Cond.code y bytes maxL none).before a0 Z = true) (hy : y.cls ≠ "java/lang/invoke/MethodHandle" ∧ y.cls ≠ "java/lang/invoke/VarHandle") (eT : T.heap = h)
    (hM : Con l Z y bytes maxL none [] rm as' h Q) {V : Nat} (hf : rm.frames + 1 ≤ R.frames) (hl : V + (maxL + 11) + rm.locals ≤ R.locals) (hc : cells + rm.cells ≤ R.cells) (hs : slots + rm.slots ≤ R.slots)
    {pc : Nat} {Ls : Array Slot} {st : List Value} (hsize : Ls.size = c.maxLocals) {a : Addr} {argsL rest : List Value} (has : (.ref a :: argsL).toArray = as') (hlen : ∀ sig, parseMethodDescriptor y.desc = some sig → argsL.length = sig.parameters.length) (hstack : st = argsL.reverse ++ .ref a :: rest) (hV : (rest.map fun v => v.category).sum ≤ V) (hd : decode c.code pc = .ok (.invokespecial index, 3))
    (K : ∀ T' v L, Q v T'.heap L → Stand p l e R s m args below meth c T' (locs ++ L) (cells + rm.cells) (slots + rm.slots) → Go p e below W T' (mkF m (pc + 3) Ls (v.toList ++ rest))) : Go p e below W T (mkF m pc Ls st) := by
  obtain ⟨v, vm₁, ⟨T', L', k', n'⟩, -, X', ⟨L, hQ, e1, e2, e3⟩, st'⟩ := X.specialBack hx hy1 hown (mvT hZ w1) (mvT hZ w2) (mvT hZ w4) hy (backOf (W := V) hM hZ w4 w3 hf hl) (g := mkF m pc Ls st) rfl hsize (Steps.refl _) hlen hstack (by show 2 * 0 + _ ≤ _; omega) hd (fun _ _ => ⟨has, eT, hc, hs⟩)
  dsimp only [Pt.U, Pt.locs, Pt.cells, Pt.slots] at X' e1 e2 e3 st' hQ
  subst e1 e2 e3
  exact Go.of (fun _ k => st'.trans k) (K _ _ _ hQ X')
/-- an instance method by the contract of the body that the receiver's class selects -/
theorem Go.callV (X : Stand p l e R s m args below meth c T locs cells slots) (hx : p.tables.exec = Jvm.exec) (hZ : Z.Warmed39 s.vm) {own C : String} {index : Nat} {y : MethodName} {bytes : ByteArray} {maxL : Nat} {ret : Option FieldType} {rm : Room} {as' : Array Value} {Q : Option Value → Heap → List Loc → Prop} (hown : s.vm.findClass own = some m.cls)
    (w1 : (Jvm.Cond.methodLink own index y).before a0 Z = true) (w5 : (Jvm.Cond.declares y).before a0 Z = true) (w6 : (Jvm.Cond.selects C y y).before a0 Z = true) (w2 : (Jvm.Cond.instanceMethod y).before a0 Z = true) (w3 : (Jvm.Cond.initialized y.cls).before a0 Z = true) (w4 : (Jvm.Cond.code y bytes maxL ret).before a0 Z = true) (hy : y.cls ≠ "java/lang/invoke/MethodHandle" ∧ y.cls ≠ "java/lang/invoke/VarHandle") (eT : T.heap = h)
    {a : Addr} (E : Exa Z h a C) (hM : Con l Z y bytes maxL ret [] rm as' h Q) {V : Nat} (hf : rm.frames + 1 ≤ R.frames) (hl : V + (maxL + 11) + rm.locals ≤ R.locals) (hc : cells + rm.cells ≤ R.cells) (hs : slots + rm.slots ≤ R.slots)
    {pc : Nat} {Ls : Array Slot} {st : List Value} (hsize : Ls.size = c.maxLocals) {argsL rest : List Value} (has : (.ref a :: argsL).toArray = as') (hlen : ∀ sig, parseMethodDescriptor y.desc = some sig → argsL.length = sig.parameters.length) (hstack : st = argsL.reverse ++ .ref a :: rest) (hV : (rest.map fun v => v.category).sum ≤ V) (hd : decode c.code pc = .ok (.invokevirtual index, 3))
    (K : ∀ T' v L, Q v T'.heap L → Stand p l e R s m args below meth c T' (locs ++ L) (cells + rm.cells) (slots + rm.slots) → Go p e below W T' (mkF m (pc + 3) Ls (v.toList ++ rest))) : Go p e below W T (mkF m pc Ls st) := by
  obtain ⟨cq, kq, qa, qb, qc⟩ := isOf hZ eT E
  obtain ⟨v, vm₁, ⟨T', L', k', n'⟩, -, X', ⟨L, hQ, e1, e2, e3⟩, st'⟩ := X.virtualBack hx hown (mvT hZ w1) (mvT hZ w5) (notFace_of_selects (args := #[]) (mvT hZ w6)) (mvT hZ w6) (mvT hZ w2) hy (backOf (W := V) hM hZ w4 w3 hf hl) qa qc (g := mkF m pc Ls st) rfl hsize (Steps.refl _) hlen hstack (by show 2 * 0 + _ ≤ _; omega) hd (fun _ _ => ⟨has, eT, hc, hs⟩)
  dsimp only [Pt.U, Pt.locs, Pt.cells, Pt.slots] at X' e1 e2 e3 st' hQ
  subst e1 e2 e3
  exact Go.of (fun _ k => st'.trans k) (K _ _ _ hQ X')
end OwnHeap
section OwnMore
variable {p : Program} {l : Launch} {e : Env} {R : Room} {s : State} {m : MethodId} {args : Array Value} {below : List Frame} {meth : Method} {c : Code} {T : State} {locs : List Loc} {cells slots : Nat} {Z : State} {a0 : Array Value} {h h' : Heap} {W : State → Outcome → Prop}
/-- the model's own selection picks a private method itself -/
theorem own_selects {y : MethodName} {n : Nat} (hy : y.cls ≠ "java/lang/invoke/MethodHandle" ∧ y.cls ≠ "java/lang/invoke/VarHandle") (hins : (Jvm.Cond.instantiable y.cls n).before args s = true) (hpriv : (Jvm.Cond.privateMethod y).before args s = true) (hinst : (Jvm.Cond.instanceMethod y).before args s = true) :
    (Jvm.Cond.selects y.cls y y).before args s = true := by
  obtain ⟨c, k, hc, hk, -, hniab, -, -⟩ := Cond.instantiable_spec hins
  have hni : k.isInterface = false := (Bool.or_eq_false_iff.mp hniab).1
  obtain ⟨mk, methM, hnamed, hmethM, -, -⟩ := Cond.instanceMethod_spec hinst
  have hfound : s.methodFound? y.cls y.name y.desc = some mk := State.methodFound?_of_named hnamed hy
  have hcls : mk.cls = c := Option.some.inj ((findClass_of_methodNamed hnamed).symm.trans hc)
  have hsel : selectMethod {} s.vm c mk = .method mk := selectMethod_private hmethM (Cond.privateMethod_at hpriv mk methM hnamed hmethM)
  simp only [Cond.before, Cond.holds, Cond.value, hc, hfound, hnamed, hsel, hcls, hk]
  simp; exact hni
theorem Go.callPr (X : Stand p l e R s m args below meth c T locs cells slots) (hx : p.tables.exec = Jvm.exec) (hZ : Z.Warmed39 s.vm) {own : String} {index kk : Nat} {y : MethodName} {bytes : ByteArray} {maxL : Nat} {ret : Option FieldType} {rm : Room} {as' : Array Value} {Q : Option Value → Heap → List Loc → Prop} (hown : s.vm.findClass own = some m.cls)
    (w1 : (Jvm.Cond.methodLink own index y).before a0 Z = true) (w5 : (Jvm.Cond.instantiable y.cls kk).before a0 Z = true) (w6 : (Jvm.Cond.privateMethod y).before a0 Z = true) (w2 : (Jvm.Cond.instanceMethod y).before a0 Z = true) (w3 : (Jvm.Cond.initialized y.cls).before a0 Z = true) (w4 : (Jvm.Cond.code y bytes maxL ret).before a0 Z = true) (hy : y.cls ≠ "java/lang/invoke/MethodHandle" ∧ y.cls ≠ "java/lang/invoke/VarHandle") (eT : T.heap = h)
    {a : Addr} {C : String} (E : Exa Z h a C) (hM : Con l Z y bytes maxL ret [] rm as' h Q) {V : Nat} (hf : rm.frames + 1 ≤ R.frames) (hl : V + (maxL + 11) + rm.locals ≤ R.locals) (hc : cells + rm.cells ≤ R.cells) (hs : slots + rm.slots ≤ R.slots)
    {pc : Nat} {Ls : Array Slot} {st : List Value} (hsize : Ls.size = c.maxLocals) {argsL rest : List Value} (has : (.ref a :: argsL).toArray = as') (hlen : ∀ sig, parseMethodDescriptor y.desc = some sig → argsL.length = sig.parameters.length) (hstack : st = argsL.reverse ++ .ref a :: rest) (hV : (rest.map fun v => v.category).sum ≤ V) (hd : decode c.code pc = .ok (.invokevirtual index, 3))
    (K : ∀ T' v L, Q v T'.heap L → Stand p l e R s m args below meth c T' (locs ++ L) (cells + rm.cells) (slots + rm.slots) → Go p e below W T' (mkF m (pc + 3) Ls (v.toList ++ rest))) : Go p e below W T (mkF m pc Ls st) := by
  obtain ⟨cq, q1, q2⟩ := E.cell
  obtain ⟨v, vm₁, ⟨T', L', k', n'⟩, -, X', ⟨L, hQ, e1, e2, e3⟩, st'⟩ := X.privateBack hx hown (mvT hZ w1) (mvT hZ w2) (own_selects hy (mvT hZ w5) (mvP hZ w6) (mvT hZ w2)) (Cond.privateMethod_at (mvP hZ w6 (args := #[]))) (mvT hZ w4) hy (backOf (W := V) hM hZ w4 w3 hf hl) (g := mkF m pc Ls st) rfl hsize (Steps.refl _) (a := a) (by rw [eT]; exact q1) q2 hlen hstack (by show 2 * 0 + _ ≤ _; omega) hd (fun _ _ => ⟨has, eT, hc, hs⟩)
  dsimp only [Pt.U, Pt.locs, Pt.cells, Pt.slots] at X' e1 e2 e3 st' hQ
  subst e1 e2 e3
  exact Go.of (fun _ k => st'.trans k) (K _ _ _ hQ X')
theorem Go.clone (X : Stand p l e R s m args below meth c T locs cells slots) (hx : p.tables.exec = Jvm.exec) (hZ : Z.Warmed39 s.vm) {own ad : String} {index : Nat} (hown : s.vm.findClass own = some m.cls)
    (w1 : (Jvm.Cond.methodLink own index ⟨ad, "clone", "()Ljava/lang/Object;"⟩).before a0 Z = true) (w2 : (Jvm.Cond.sameMethod ad "java/lang/Object" "clone" "()Ljava/lang/Object;").before a0 Z = true) (w3 : (Jvm.Cond.native ⟨"java/lang/Object", "clone", "()Ljava/lang/Object;"⟩).before a0 Z = true)
    (w4 : (Jvm.Cond.instanceMethod ⟨"java/lang/Object", "clone", "()Ljava/lang/Object;"⟩).before a0 Z = true) (w5 : (Jvm.Cond.selects ad ⟨ad, "clone", "()Ljava/lang/Object;"⟩ ⟨"java/lang/Object", "clone", "()Ljava/lang/Object;"⟩).before a0 Z = true) (w6 : (Jvm.Cond.castable ad "java/lang/Cloneable").before a0 Z = true)
    (eT : T.heap = h) {a : Addr} {ty : FieldType} {n : Nat} {f : Nat → Int32} (A : AI Z h a ty n f) (E : Exa Z h a ad) {pc : Nat} {Ls : Array Slot} {st : List Value} (hsize : Ls.size = c.maxLocals) (hd : decode c.code pc = .ok (.invokevirtual index, 3))
    (hf : 1 ≤ R.frames) {V cap : Nat} (hV : (st.map fun v => v.category).sum ≤ V) (hl : V + 14 ≤ R.locals) (hcap : n ≤ cap) (hc : cells + 1 ≤ R.cells) (hsl : slots + cap ≤ R.slots)
    (K : ∀ T' h' b, b = h.size → Stand p l e R s m args below meth c T' locs (cells + 1) (slots + cap) → T'.heap = h' → Ext h h' → Exa Z h' b ad → AI Z h' b ty n f → Go p e below W T' (mkF m (pc + 3) Ls (.ref b :: st))) : Go p e below W T (mkF m pc Ls (.ref a :: st)) := by
  obtain ⟨cl, A', r1, r2, r3⟩ := id A
  have FC : FitC Z cl := fitC_of A' fun i hi v hv => by rw [(r3 i (r1 ▸ hi)).1] at hv; cases hv; exact (r3 i (r1 ▸ hi)).2
  obtain ⟨T', h', X', e', ex, B', E', st'⟩ := cloneA X hx hZ hown w1 w2 w3 w4 w5 w6 eT A' E FC (g := mkF m pc Ls (.ref a :: st)) rfl hsize rfl hd hf (W := V) (by show 2 * 0 + _ ≤ _; omega) hl (by rw [r1]; exact hcap) hc hsl
  exact Go.of st' (K _ _ _ rfl X' e' ex E' ⟨cloneOf cl, B', r1, r2, r3⟩)
theorem Go.cast (X : Stand p l e R s m args below meth c T locs cells slots) (hx : p.tables.exec = Jvm.exec) (hZ : Z.Warmed39 s.vm) {own C : String} {index : Nat} (hown : s.vm.findClass own = some m.cls) (w : (Jvm.Cond.classLink own index C).before a0 Z = true) (eT : T.heap = h) {a : Addr} (E : Exa Z h a C)
    {pc : Nat} {Ls : Array Slot} {st : List Value} (hd : decode c.code pc = .ok (.checkcast index, 3)) (K : ∀ T', Stand p l e R s m args below meth c T' locs cells slots → T'.heap = h → Go p e below W T' (mkF m (pc + 3) Ls (.ref a :: st))) : Go p e below W T (mkF m pc Ls (.ref a :: st)) := by
  obtain ⟨T', X', e', st'⟩ := castY X hx hZ hown w eT (Ins.self E) (g := mkF m pc Ls (.ref a :: st)) rfl rfl hd
  exact Go.of st' (K _ X' e')
theorem AI.arv {a : Addr} {ty : FieldType} {n : Nat} {f : Nat → Int32} (A : AI Z h a ty n f) : ∃ k, Arv Z h a k ty (Int32.ofNat n) ((List.range n).map fun j => .int (f j)) (.int 0) := by
  obtain ⟨cl, A, r1, r2, r3⟩ := A
  have e1 : (Int32.ofNat n).toInt = n := Int32.toInt_ofNat_of_lt (by omega)
  have e2 : (Int32.ofNat n).toNatClampNeg = n := by rw [Int32.toNatClampNeg, e1]; rfl
  have e3 : ∀ k, k < n → ((List.range n).map fun j => Value.int (f j)).getD k (.int 0) = .int (f k) := fun k hk => by simp [List.getD_eq_getElem?_getD, hk]
  refine ⟨cl.cls, cl, A, rfl, by rw [e2]; exact r1, ?_, fun k hk => ?_, fun k hk => ?_⟩
  · rw [Int32.lt_iff_toInt_lt, e1, show (0 : Int32).toInt = 0 from rfl]; omega
  · rw [e3 k (r1 ▸ hk)]; exact (r3 k (r1 ▸ hk)).1
  · rw [e3 k (r1 ▸ hk)]; exact (r3 k (r1 ▸ hk)).2
theorem AI.of_arv {a : Addr} {k : ClassId} {ty : FieldType} {n : Nat} {z : Int32} {vs : List Value} {d : Value} {f : Nat → Int32} (A : Arv Z h a k ty z vs d) (hz : z.toNatClampNeg = n) (hn : n < 2 ^ 31) (q : ∀ j, j < n → vs.getD j d = .int (f j)) : AI Z h a ty n f := by
  obtain ⟨cl, A, -, S, -, H, G⟩ := A
  rw [hz] at S
  exact ⟨cl, A, S, hn, fun j hj => by rw [← q j hj]; exact ⟨H j (by omega), G j (by omega)⟩⟩
/-- what a copy of nn places from sp on to dp leaves -/
def cpf (f g : Nat → Int32) (sp dp nn : Nat) : Nat → Int32 := fun j => if dp ≤ j ∧ j < dp + nn then f (sp + (j - dp)) else g j
theorem Go.acopy (X : Stand p l e R s m args below meth c T locs cells slots) (hx : p.tables.exec = Jvm.exec) (hZ : Z.Warmed39 s.vm) {own : String} {index : Nat} (hown : s.vm.findClass own = some m.cls)
    (w1 : (Jvm.Cond.methodLink own index Jvm.Stand.acN).before a0 Z = true) (w2 : (Jvm.Cond.native Jvm.Stand.acN).before a0 Z = true) (w3 : (Jvm.Cond.static Jvm.Stand.acN).before a0 Z = true) (w4 : (Jvm.Cond.initialized "java/lang/System").before a0 Z = true) (eT : T.heap = h)
    {a b : Addr} {ty : FieldType} {n n' : Nat} {f g : Nat → Int32} (A : AI Z h a ty n f) (B : AI Z h b ty n' g) (hty : refKind ty = false) {sp dp nn : Int32} (h1 : ¬ sp < 0) (h2 : ¬ dp < 0) (h3 : ¬ nn < 0) (h4 : sp.toNatClampNeg + nn.toNatClampNeg ≤ n) (h5 : dp.toNatClampNeg + nn.toNatClampNeg ≤ n')
    {n0 : Nat} (N : Fr n0 locs) (gb : n0 ≤ b) {pc : Nat} {Ls : Array Slot} {st : List Value} (hsize : Ls.size = c.maxLocals) (hd : decode c.code pc = .ok (.invokestatic index, 3)) (hf : 1 ≤ R.frames) {V : Nat} (hV : (st.map fun v => v.category).sum ≤ V) (hlo : V + (nativeFrameWords "java/lang/System" "arraycopy" 5 + 11) ≤ R.locals)
    (K : ∀ T' h' L', Stand p l e R s m args below meth c T' L' cells slots → Fr n0 L' → T'.heap = h' → Keep h h' [b] → AI Z h' b ty n' (cpf f g sp.toNatClampNeg dp.toNatClampNeg nn.toNatClampNeg) → Go p e below W T' (mkF m (pc + 3) Ls st)) : Go p e below W T (mkF m pc Ls (.int nn :: .int dp :: .ref b :: .int sp :: .ref a :: st)) := by
  obtain ⟨ka, Va⟩ := A.arv
  obtain ⟨kb, Vb⟩ := B.arv
  have na := A.small
  have nb := B.small
  have ea : (Int32.ofNat n).toNatClampNeg = n := by rw [Int32.toNatClampNeg, Int32.toInt_ofNat_of_lt (by omega)]; rfl
  have eb : (Int32.ofNat n').toNatClampNeg = n' := by rw [Int32.toNatClampNeg, Int32.toInt_ofNat_of_lt (by omega)]; rfl
  obtain ⟨T', h', L', X', e', N', K', V', st'⟩ := cpA X hx hZ hown w1 w2 w3 w4 eT Va Vb (Or.inl ⟨rfl, hty⟩) h1 h2 h3 (by rw [ea]; exact h4) (by rw [eb]; exact h5) rfl (by simpa using h5) N gb (g := mkF m pc Ls (.int nn :: .int dp :: .ref b :: .int sp :: .ref a :: st)) rfl hsize rfl hd hf (W := V) (by show 2 * 0 + _ ≤ _; omega) hlo
  refine Go.of st' (K _ _ _ X' N' e' K' (AI.of_arv V' eb nb fun j hj => ?_))
  have l1 : (((List.range n').map fun j => Value.int (g j)).take dp.toNatClampNeg).length = dp.toNatClampNeg := by rw [List.length_take]; simp; omega
  simp only [List.getD_eq_getElem?_getD, cpf]
  by_cases c1 : j < dp.toNatClampNeg
  · rw [if_neg (by omega), List.append_assoc, List.getElem?_append_left (by omega), List.getElem?_take_of_lt c1]
    simp [hj]
  · by_cases c2 : j < dp.toNatClampNeg + nn.toNatClampNeg
    · rw [if_pos ⟨by omega, c2⟩, List.getElem?_append_left (by rw [List.length_append, l1]; simp; omega), List.getElem?_append_right (by omega), l1]
      have q1 : j - dp.toNatClampNeg < nn.toNatClampNeg := by omega
      have q2 : sp.toNatClampNeg + (j - dp.toNatClampNeg) < n := by omega
      simp [q1, q2]
    · rw [if_neg (by omega), List.getElem?_append_right (by rw [List.length_append, l1]; simp; omega), List.length_append, l1, List.getElem?_drop]
      simp only [List.length_map, List.length_range]
      rw [show dp.toNatClampNeg + nn.toNatClampNeg + (j - (dp.toNatClampNeg + nn.toNatClampNeg)) = j by omega]
      simp [hj]
end OwnMore
section OwnNats
theorem own_toInt {n : Nat} (h : n < 2147483648) : (Int32.ofNat n).toInt = n := Int32.toInt_ofNat_of_lt (by omega)
theorem own_lt {i n : Nat} (h : i < n) (hn : n < 2147483648) : Int32.ofNat i < Int32.ofNat n := by
  rw [Int32.lt_iff_toInt_lt, own_toInt (by omega), own_toInt (by omega)]
  omega
theorem own_nlt {i n : Nat} (h : n ≤ i) (hn : i < 2147483648) : ¬ Int32.ofNat i < Int32.ofNat n := by
  rw [Int32.lt_iff_toInt_lt, own_toInt (by omega), own_toInt (by omega)]
  omega
theorem own_nn {n : Nat} (hn : n < 2147483648) : ¬ Int32.ofNat n < 0 := by
  rw [Int32.lt_iff_toInt_lt, own_toInt hn, show (0 : Int32).toInt = 0 from rfl]
  omega
theorem own_n32 {n : Nat} (hn : n < 2147483648) : (Int32.ofNat n).toNatClampNeg = n := by
  rw [Int32.toNatClampNeg, own_toInt hn]; rfl
theorem own_one (i : Nat) : Int32.ofNat i + (1 : Int32) = Int32.ofNat (i + 1) := (Int32.ofNat_add i 1).symm
theorem own_inbN {i n : Nat} (h : i < n) (hn : n ≤ 2147483648) : inb (Int32.ofNat i) n := ⟨own_nn (by omega), by rw [own_n32 (by omega)]; exact h⟩
theorem own_back {x : Int32} (h : ¬ x < 0) : Int32.ofNat x.toNatClampNeg = x := (back32 h).1
end OwnNats
section OwnLit
open Jvm.Free.SB Jvm.Free.SBG
variable {p : Program} {l : Launch} {e : Env} {R : Room} {s : State} {m : MethodId} {args : Array Value} {below : List Frame} {meth : Method} {c : Code} {T : State} {cells slots : Nat} {Z : State} {a0 : Array Value}
/-- the table of the literals: the start's pairs, and pairs whose objects spell their texts -/
def own_IS (Z T : State) : Prop := ∃ more : Array (Array UInt16 × Addr), T.vm.interned = Z.vm.interned ++ more ∧ ∀ q ∈ more, SlOf T q.2 q.1
theorem own_IS.start (Z : State) : own_IS Z Z := ⟨#[], by simp, fun q hq => by simp at hq⟩
theorem own_ext (h : Heap) : Ext h h := ⟨Nat.le_refl _, fun _ _ q => q⟩
theorem own_extT {h h' h'' : Heap} (a : Ext h h') (b : Ext h' h'') : Ext h h'' := ⟨Nat.le_trans a.1 b.1, fun x y q => b.2 x y (a.2 x y q)⟩
theorem own_IS.keep {T U : State} (I : own_IS Z T) (e : U.vm.interned = T.vm.interned) (hal : T.vm.Alike U.vm) (hk : Ext T.heap U.heap) : own_IS Z U := by
  obtain ⟨more, e1, h1⟩ := I
  exact ⟨more, e.trans e1, fun q hq => (h1 q hq).moved hal hk.2⟩
theorem own_utf8 {cp : ConstantPool} {i : Nat} {u : Array UInt16} (h : cp[i]? = some (.utf8 u)) : cp.utf8? i = some u := by simp [ConstantPool.utf8?, h]
/-- what an entry that names a text may have become: what it was, or, if it was open, the table's object for its units -/
theorem own_hist {c : ClassId} {k : Class} {cf : ClassFile} {text : String} {index i : Nat} {units : Array UInt16} (hW : Z.Warmed39 T.vm) (hk : Z.vm.classes[c]? = some k) (hcf : k.cf = some cf) (hnm : namesOf? cf.constantPool index = some (.string text)) (hp : cf.constantPool[index]? = some (.string i)) (hu : cf.constantPool[i]? = some (.utf8 units)) :
    ∃ k', T.vm.classes[c]? = some k' ∧ k'.cf = some cf ∧ (k'.resolved[index]? = k.resolved[index]? ∨ ∃ a, k.resolved[index]? = some none ∧ k'.resolved[index]? = some (some (.string a)) ∧ T.vm.interned.find? (fun p => p.1 == units) = some (units, a)) := by
  obtain ⟨k', h1, h2, -, h3, -⟩ := hW.2.2.2 c k hk
  refine ⟨k', h1, (congrArg Class.cf h2).trans hcf, (h3 index).imp id ?_⟩
  rintro ⟨h4, r, h5, h6⟩
  rw [hcf] at h6
  rcases h6 with h6 | ⟨a, t, si, us, rfl, -, g1, g2, g3⟩
  · refine absurd h6 ?_
    cases r <;> simp [State.rightAt, hk, hcf, hnm]
  · have e1 : some (CpInfo.string i) = some (CpInfo.string si) := hp.symm.trans g1
    injection e1 with e1
    injection e1 with e1
    subst e1
    have e2 : some units = some us := (own_utf8 hu).symm.trans g2
    injection e2 with e2
    subst e2
    exact ⟨a, h4, h5, g3⟩
theorem own_held {own text : String} {index : Nat} (hW : Z.Warmed39 T.vm) (hl : (Jvm.Cond.stringLink own index text).before a0 Z = true) (I : own_IS Z T) (hkeep : Ext Z.heap T.heap) (hH : ConstHeldL Z own index) : ConstHeldL T own index := by
  intro c k' cf i units a hc hk' hcf' hp hu hor
  rw [hW.alike.findClass] at hc
  obtain ⟨k, cf0, i0, u0, hk, hcf, hp0, hu0, hnm, -, -⟩ := Jvm.Cond.stringLink_spec hc hl
  obtain ⟨k2, g1, g2, g3⟩ := own_hist hW hk hcf hnm hp0 hu0
  obtain rfl : k2 = k' := Option.some.inj (g1.symm.trans hk')
  obtain rfl : cf0 = cf := Option.some.inj (g2.symm.trans hcf')
  obtain rfl : i0 = i := by have := Option.some.inj (hp0.symm.trans hp); injection this
  obtain rfl : u0 = units := by have := Option.some.inj (hu0.symm.trans hu); injection this
  have atZ : ∀ b, (k.resolved[index]? = some (some (.string b)) ∨ (k.resolved[index]? = some none ∧ Z.vm.interned.find? (fun p => p.1 == u0) = some (u0, b))) → SlOf T b u0 := fun b q => (hH c k cf0 i0 u0 b hc hk hcf hp hu q).moved hW.alike hkeep.2
  have fnd : ∀ b, k.resolved[index]? = some none → T.vm.interned.find? (fun p => p.1 == u0) = some (u0, b) → SlOf T b u0 := by
    intro b q hf
    obtain ⟨more, e, hm⟩ := I
    rw [e, Array.find?_append, Option.or_eq_some_iff] at hf
    rcases hf with hf | ⟨-, hf⟩
    · exact atZ b (Or.inr ⟨q, hf⟩)
    · exact hm _ (Array.mem_of_find?_eq_some hf)
  rcases g3 with g3 | ⟨b, g3, g4, g5⟩
  · rw [g3] at hor
    exact hor.elim (fun q => atZ a (Or.inl q)) (fun q => fnd a q.1 q.2)
  · rw [g4] at hor
    rcases hor with q | ⟨q, -⟩
    · obtain rfl : b = a := by
        have := Option.some.inj (Option.some.inj q)
        injection this
      exact fnd b g3 g5
    · cases q
theorem own_rides : ∀ d ∈ Bundle.stringAtoms, d.ridesW = true := List.all_eq_true.mp (by decide +kernel)
theorem own_onT : ∀ d ∈ Bundle.stringAtoms, d.onTables = true ∨ d = .arrayClass .byte := fun d hd => by
  simp only [Bundle.stringAtoms, List.mem_cons, List.not_mem_nil, or_false] at hd
  rcases hd with rfl | rfl | rfl | rfl | rfl | rfl | rfl <;> first | exact Or.inl rfl | exact Or.inr rfl
theorem own_units {u v : Array UInt16} {text : String} (h1 : utf16ToString? u = some text) (h2 : utf16ToString? v = some text) (ht : ∀ c ∈ text.toList, c.toNat < 256) : u = v :=
  Array.toList_inj.mp ((Jvm.ClassFile.units_of_text h1 ht).trans (Jvm.ClassFile.units_of_text h2 ht).symm)
theorem own_atoms (hZ : Z.Warmed39 s.vm) (wS : ∀ a ∈ Bundle.stringAtoms, a.before a0 Z = true) : ∀ d ∈ Bundle.stringAtoms, d.before args s = true := fun d hd =>
  (own_onT d hd).elim (fun q => (Jvm.Cond.onTables_vm (A := args) (A' := a0) (U := s) (U' := Z) s.vm d q).trans (Jvm.Cond.rideW hZ d (own_rides d hd) (wS d hd))) (fun q => by subst q; exact mvA hZ (wS _ hd))
theorem own_lit {vm : Vm} {own : String} {index : Nat} {a : Addr} {k : Class} {d : ClassId} (h1 : (s.setVm vm).vm.findClass own = some d) (h2 : (s.setVm vm).vm.classes[d]? = some k) (h3 : k.resolved[index]? = some (some (.string a))) : Lit (s.setVm vm) own index a := by
  have h1 : vm.findClass own = some d := h1
  have h2 : vm.classes[d]? = some k := h2
  simp [Lit, State.resolvedAt?, h1, h2, h3]
/-- 'ldc' of a literal whose text may have been loaded before, by this walk too -/
theorem own_ldc (X : Stand p l e R s m args below meth c T [] cells slots) (hexec : p.tables.exec = Jvm.exec) {own text : String} {index : Nat} (hown : s.vm.findClass own = some m.cls)
    (hlink : (Jvm.Cond.stringLink own index text).before args s = true) (hS : ∀ a ∈ Bundle.stringAtoms, a.before args s = true) (hheld : ConstHeldL T own index) (ht : ∀ c ∈ text.toList, c.toNat < 256)
    {g : JFrame} (hg : g.method = m) (hdg : decode c.code g.pc = .ok (.ldc index, 2)) {n : Nat} (hn : 4 * text.toList.length ≤ n) (hbig : n ≤ 536870912)
    (hRcells : cells + 2 ≤ R.cells) (hRslots : slots + (n + 4) ≤ R.slots) :
    ∃ (a : Addr) (T₂ : State) (units : Array UInt16), Stand p l e R (s.setVm T₂.vm) m args below meth c T₂ [] (cells + 2) (slots + (n + 4)) ∧ s.Since T₂.vm T₂.heap.size ∧ Ext T.heap T₂.heap ∧
      utf16ToString? units = some text ∧ SlOf T₂ a units ∧ (T₂.vm.interned = T.vm.interned ∨ T₂.vm.interned = T.vm.interned.push (units, a)) ∧
      ∀ target, Steps p.tables e below (T₂.setTop { g with pc := g.pc + 2, stack := .ref a :: g.stack }) target → Steps p.tables e below (T.setTop g) target := by
  have hW0 : s.Warmed39 T.vm := X.warmed.wide
  have X' : Stand p l e R (s.setVm T.vm) m args below meth c T [] cells slots := X.retabled hW0
  have hS0 : s.Since T.vm T.heap.size := X.warmed.since _
  have hown' : (s.setVm T.vm).vm.findClass own = some m.cls := (hW0.alike.findClass _ _).trans hown
  have hlink' : (Jvm.Cond.stringLink own index text).before args (s.setVm T.vm) = true := Jvm.Cond.stringLink_warmed39 hW0 hlink
  obtain ⟨k, cf, i, units, hk, hcf, hc, hu, hnm, hdec, hres⟩ := Jvm.Cond.stringLink_spec hown' hlink'
  subst hg
  rcases hres with hopen | ⟨a, hr⟩
  · cases hf : T.vm.interned.find? (fun p => p.1 == units) with
    | some pr =>
      -- the table holds the text: the step books her in the entry
      have e0 : pr = (units, pr.2) := Prod.ext (by have z := Array.find?_some hf; simpa using z) rfl
      rw [e0] at hf
      have q : ∀ {α : Type} (f : ClassFile → Option α), k.cf.bind f = f cf := fun f => congrArg (Option.bind · f) hcf
      have hW : (s.setVm T.vm).Warmed39 (T.vm.noted g.method.cls index (.string pr.2)) := X'.warmed.wide.notedString hk (Or.inl hopen) ((q _).trans hnm) ((q _).trans hc) ((q _).trans (own_utf8 hu)) hf
      have hB : (s.setVm T.vm).Since (T.vm.noted g.method.cls index (.string pr.2)) T.heap.size := ⟨hW, fun j pp hj hp => absurd (Array.getElem?_eq_some_iff.mp (show T.vm.interned[j]? = some pp from hp)).1 (Nat.not_lt.mpr hj)⟩
      refine ⟨pr.2, T.setVm (T.vm.noted g.method.cls index (.string pr.2)), units, (X'.mono (Nat.le_add_right _ _) (Nat.le_add_right _ _)).retabled hW, hS0.trans hB (Nat.le_refl _), own_ext _, hdec, (hheld _ k cf i units pr.2 hown' hk hcf hc hu (Or.inr ⟨hopen, hf⟩)).moved (W := T.setVm (T.vm.noted g.method.cls index (.string pr.2))) hW.alike (fun _ _ z => z), Or.inl rfl, fun target z => ?_⟩
      jvm_step X.here [hexec, hdg, ldc.wp_string_found (e := e) (s := T) (f := g) X.here.top hk hcf hc hu hopen hf]
      exact z
    | none =>
      -- nobody holds her: the law of the cold load, whose premise is empty here
      have hH : ConstHeldL (s.setVm T.vm) own index := by
        intro c2 k2 cf2 i2 units2 a2 h1 h2 h3 h4 h5 hor
        obtain rfl := Option.some.inj (hown'.symm.trans h1)
        obtain rfl := Option.some.inj (hk.symm.trans h2)
        obtain rfl := Option.some.inj (hcf.symm.trans h3)
        obtain rfl : i = i2 := by have := Option.some.inj (hc.symm.trans h4); injection this
        obtain rfl : units = units2 := by have := Option.some.inj (hu.symm.trans h5); injection this
        rw [hopen] at hor
        rcases hor with h | ⟨-, h⟩
        · cases h
        · cases hf.symm.trans h
      obtain ⟨a, T₂, X₂, hS₂, ⟨k2, hk2, hr2⟩, hkeep, hone, hint, ⟨u2, hd2, q, cS, r1, r2, r3, r4, r5, -⟩, st⟩ := X'.ldcStringColdSl2 hexec hown' hlink' (fun d hd => Jvm.Cond.rideW hW0 d (own_rides d hd) (hS d hd)) hH (fun _ hus => Jvm.ClassFile.lat_of_text hus ht) rfl hdg hn hbig hRcells hRslots
      have hsl : SlOf T₂ a u2 := ⟨q, cS, r1, r2, r3, r4, r5⟩
      have eu : u2 = units := own_units hd2 hdec ht
      refine ⟨a, T₂, u2, X₂, hS0.trans hS₂ hone.1, ⟨hone.1, fun b cl h => (hkeep b (Array.getElem?_eq_some_iff.mp h).1).trans h⟩, hd2, hsl, hint.imp id ?_, st⟩
      rintro ⟨u3, a', -, hq⟩
      obtain ⟨k3, g1, -, g3⟩ := own_hist (T := T₂) hS₂.1 hk hcf hnm hc hu
      obtain rfl : k2 = k3 := Option.some.inj (hk2.symm.trans g1)
      rcases g3 with g3 | ⟨b, -, g4, g5⟩
      · cases hopen.symm.trans (g3.symm.trans hr2)
      · obtain rfl : a = b := by
          have := Option.some.inj (Option.some.inj (hr2.symm.trans g4))
          injection this
        rw [hq, Array.find?_push, hf, Option.none_or] at g5
        rw [hq, eu]
        congr 1
        revert g5
        by_cases hb : (u3 == units) = true <;> simp [hb]
  · exact ⟨a, T, units, X'.mono (Nat.le_add_right _ _) (Nat.le_add_right _ _), hS0, own_ext _, hdec, hheld _ k cf i units a hown' hk hcf hc hu (Or.inl hr), Or.inl rfl, fun target z =>
      ldcAgain (Z := s) (a0 := args) X' hexec hW0 hown' hlink (own_lit hown' hk hr) rfl hdg target z⟩
/-- a field of a cell that the walk's state finds, as a fact over the start's tables -/
theorem own_fld {a : Addr} {C : Cell} {n d : String} {f : Field} {v : Value} (hal : Z.vm.Alike T.vm) (h1 : T.heap[a]? = some C) (h2 : C.vm ≠ .unknown) (h3 : C.vm.isStatics = false) (h4 : ∃ c k i, T.fieldFound? "java/lang/String" n d = some (c, k, i, f) ∧ T.vm.assignable C.cls c = true) (h5 : f.isStatic = false) (h6 : C.slots[f.slot]? = some v) : Fld Z T.heap a "java/lang/String" n d v := by
  obtain ⟨c, k, i, g1, g2⟩ := h4
  obtain ⟨k', z⟩ := ff_back hal g1
  rw [hal.assignable] at g2
  exact ⟨C, c, k', i, f, h1, z, h5, h2, h3, g2, h6⟩
theorem own_exa {a : Addr} {C : Cell} {cS : ClassId} {kS : Class} (hal : Z.vm.Alike T.vm) (h1 : T.heap[a]? = some C) (h3 : C.vm.isStatics = false) (hf : T.vm.findClass "java/lang/String" = some cS) (hc : C.cls = cS) (hk : T.vm.classes[cS]? = some kS) (hs : C.slots.size = kS.instanceTypes.size) : Exa Z T.heap a "java/lang/String" := by
  subst hc
  rw [hal.findClass] at hf
  obtain ⟨kz, g1, -⟩ := Vm.findClass_spec hf
  obtain ⟨kz', g2, g3⟩ := hal.2.2 _ _ g1
  obtain rfl := Option.some.inj (hk.symm.trans g2)
  exact ⟨C, kz, h1, hf, g1, h3, fun _ => by rw [hs, g3]⟩
theorem own_ai {d : Addr} {A : Cell} {units : Array UInt16} {vs : List Int32} (hal : Z.vm.Alike T.vm) (h1 : T.heap[d]? = some A) (h2 : T.isArrayOf A .byte) (h3 : A.vm ≠ .unknown) (h4 : A.slots.size < 2 ^ 31) (h5 : ∀ i, i < A.slots.size → fits .byte (A.slots.getD i .null) = true) (h6 : T.vm.findClass "[B" = some A.cls)
    (hsl : A.slots = units.map fun u => Value.int (Jvm.Lit.byteI u)) (hv : vs = units.toList.map Jvm.Lit.byteI) : AI Z T.heap d .byte vs.length (fun j => vs.getD j 0) := by
  have hn : A.slots.size = vs.length := by rw [hsl, hv]; simp
  have hA : Z.isArrayOf A .byte := by
    obtain ⟨g1, k, g2, comp, g3⟩ := h2
    rw [hal.findClass] at h6
    obtain ⟨kb, z1, -⟩ := Vm.findClass_spec h6
    obtain ⟨kb', z2, z3⟩ := hal.2.2 _ _ z1
    obtain rfl := Option.some.inj (g2.symm.trans z2)
    exact ⟨g1, kb, z1, comp, by rw [z3] at g3; exact g3⟩
  refine ⟨A, ⟨h1, hA, h3⟩, hn, hn ▸ h4, fun j hj => ?_⟩
  have q : A.slots[j]? = some (.int (vs.getD j 0)) := by
    have : j < units.size := by rw [hv] at hj; simpa using hj
    rw [hsl, hv]; simp [this]
  have z := h5 j (by rw [hn]; exact hj)
  rw [show A.slots.getD j .null = .int (vs.getD j 0) from Jvm.Free.SBG.getD_of q] at z
  exact ⟨q, z⟩
/-- what such a String is, as the walk's facts -/
theorem own_sl {a : Addr} {units : Array UInt16} {text : String} (hW : Z.Warmed39 T.vm) (hin : SlOf T a units) (htext : utf16ToString? units = some text) (ht : ∀ c ∈ text.toList, c.toNat < 256) {vs : List Int32} (hvs : text.toList.map (fun c => Jvm.Lit.byteI c.toNat.toUInt16) = vs) :
    ∃ b, Exa Z T.heap a "java/lang/String" ∧ Fld Z T.heap a "java/lang/String" "coder" "B" (.int 0) ∧ Fld Z T.heap a "java/lang/String" "value" "[B" (.ref b) ∧ AI Z T.heap b .byte vs.length (fun j => vs.getD j 0) := by
  obtain ⟨q, cS, rfl, ⟨⟨s1, s2, s3, sv, sc, s6, s7, s8, s9, s10, s11, s12, s13, s14, -, s16⟩, hfS, hcS⟩, ⟨kS, k1, -, k3⟩, hB, hbyt⟩ := hin
  have hal : Z.vm.Alike T.vm := hW.alike
  refine ⟨q.sd, own_exa hal s1 s3 hfS hcS k1 k3, own_fld hal s1 s2 s3 sc s7 s9, own_fld hal s1 s2 s3 sv s6 s8, own_ai (units := units) hal s10 s11 s12 (lt_of_eq_of_lt s13 s14) s16 hB ?_ ?_⟩
  · rw [hbyt, Jvm.Free.SBG.stringBytes_lat (Jvm.ClassFile.lat_of_text htext ht)]; rfl
  · rw [← hvs, Jvm.ClassFile.units_of_text htext ht, List.map_map]; rfl
theorem own_IS.step {T₂ : State} {units : Array UInt16} {a : Addr} (I : own_IS Z T) (hal : T.vm.Alike T₂.vm) (hk : Ext T.heap T₂.heap) (hs : SlOf T₂ a units) (hint : T₂.vm.interned = T.vm.interned ∨ T₂.vm.interned = T.vm.interned.push (units, a)) : own_IS Z T₂ := by
  rcases hint with q | q
  · exact I.keep q hal hk
  · obtain ⟨more, e1, h1⟩ := I
    refine ⟨more.push (units, a), by rw [q, e1, Array.append_push], fun x hx => ?_⟩
    rcases Array.mem_push.mp hx with hx | rfl
    · exact (h1 x hx).moved hal hk.2
    · exact hs
theorem Go.ldcS {W : State → Outcome → Prop} {vm : Vm} {h : Heap} (X : Stand p l e R (s.setVm vm) m args below meth c T [] cells slots) (hx : p.tables.exec = Jvm.exec) (hZ : Z.Warmed39 vm) {own text : String} {index : Nat} (hown : vm.findClass own = some m.cls)
    (w : (Jvm.Cond.stringLink own index text).before a0 Z = true) (wS : ∀ a ∈ Bundle.stringAtoms, a.before a0 Z = true) (hH : ConstHeldL Z own index) (I : own_IS Z T) (eT : T.heap = h) (Kp : Ext Z.heap h) {n0 : Nat} (hS : s.Since vm n0) (hn0 : n0 ≤ h.size)
    (ht : ∀ c ∈ text.toList, c.toNat < 256) {vs : List Int32} (hvs : text.toList.map (fun c => Jvm.Lit.byteI c.toNat.toUInt16) = vs) {pc : Nat} {Ls : Array Slot} {st : List Value} (hd : decode c.code pc = .ok (.ldc index, 2)) {n : Nat} (hn : 4 * text.toList.length ≤ n) (hbig : n ≤ 536870912) (hc : cells + 2 ≤ R.cells) (hl : slots + (n + 4) ≤ R.slots)
    (K : ∀ T' h' a b units, Stand p l e R (s.setVm T'.vm) m args below meth c T' [] (cells + 2) (slots + (n + 4)) → s.Since T'.vm h'.size → T'.heap = h' → Ext h h' → Z.Warmed39 T'.vm → T'.vm.findClass own = some m.cls → own_IS Z T' → utf16ToString? units = some text → SlOf T' a units →
      Exa Z h' a "java/lang/String" → Fld Z h' a "java/lang/String" "coder" "B" (.int 0) → Fld Z h' a "java/lang/String" "value" "[B" (.ref b) → AI Z h' b .byte vs.length (fun j => vs.getD j 0) → Go p e below W T' (mkF m (pc + 2) Ls (.ref a :: st))) : Go p e below W T (mkF m pc Ls st) := by
  subst eT
  have hZT : Z.Warmed39 T.vm := State.Warmed39.trans (t := s.setVm vm) hZ X.warmed.wide
  obtain ⟨a, T₂, units, X₂, hS₂, E₂, htx, hsl, hint, st'⟩ := own_ldc X hx (own := own) hown (mvS hZ w) (fun d hd => own_atoms (s := s.setVm vm) hZ wS d hd) (own_held hZT w I Kp hH) ht (g := mkF m pc Ls st) rfl hd hn hbig hc hl
  have hZ₂ : Z.Warmed39 T₂.vm := State.Warmed39.trans (t := s.setVm vm) hZ hS₂.1
  obtain ⟨b, r1, r2, r3, r4⟩ := own_sl hZ₂ hsl htx ht hvs
  exact Go.of st' (K T₂ _ a b units X₂ (hS.trans hS₂ (Nat.le_trans hn0 E₂.1)) rfl E₂ hZ₂ (by rw [hS₂.1.alike.findClass]; exact hown) (I.step (hZT.alike.symm.trans hZ₂.alike) E₂ hsl hint) htx hsl r1 r2 r3 r4)
end OwnLit
theorem dY_0 : decode prog_38_method_19_code 0 = .ok (.iload_n 0, 1) := by decide +kernel
theorem dY_1 : decode prog_38_method_19_code 1 = .ok (.ifCond .eq 8, 3) := by decide +kernel
theorem dY_4 : decode prog_38_method_19_code 4 = .ok (.ldc 218, 2) := by decide +kernel
theorem dY_6 : decode prog_38_method_19_code 6 = .ok (.goto 5, 3) := by decide +kernel
theorem dY_9 : decode prog_38_method_19_code 9 = .ok (.ldc 220, 2) := by decide +kernel
theorem dY_11 : decode prog_38_method_19_code 11 = .ok (.areturn, 1) := by decide +kernel
theorem dS_0 : decode jdk_42_method_66_code 0 = .ok (.aload_n 0, 1) := by decide +kernel
theorem dS_1 : decode jdk_42_method_66_code 1 = .ok (.aload_n 1, 1) := by decide +kernel
theorem dS_2 : decode jdk_42_method_66_code 2 = .ok (.if_acmp .ne 5, 3) := by decide +kernel
theorem dS_5 : decode jdk_42_method_66_code 5 = .ok (.iconst 1, 1) := by decide +kernel
theorem dS_6 : decode jdk_42_method_66_code 6 = .ok (.ireturn, 1) := by decide +kernel
theorem dS_7 : decode jdk_42_method_66_code 7 = .ok (.aload_n 1, 1) := by decide +kernel
theorem dS_8 : decode jdk_42_method_66_code 8 = .ok (.instanceof 10, 3) := by decide +kernel
theorem dS_11 : decode jdk_42_method_66_code 11 = .ok (.ifCond .eq 43, 3) := by decide +kernel
theorem dS_14 : decode jdk_42_method_66_code 14 = .ok (.aload_n 1, 1) := by decide +kernel
theorem dS_15 : decode jdk_42_method_66_code 15 = .ok (.checkcast 10, 3) := by decide +kernel
theorem dS_18 : decode jdk_42_method_66_code 18 = .ok (.astore_n 2, 1) := by decide +kernel
theorem dS_19 : decode jdk_42_method_66_code 19 = .ok (.getstatic 38, 3) := by decide +kernel
theorem dS_22 : decode jdk_42_method_66_code 22 = .ok (.ifCond .eq 14, 3) := by decide +kernel
theorem dS_25 : decode jdk_42_method_66_code 25 = .ok (.aload_n 0, 1) := by decide +kernel
theorem dS_26 : decode jdk_42_method_66_code 26 = .ok (.getfield 15, 3) := by decide +kernel
theorem dS_29 : decode jdk_42_method_66_code 29 = .ok (.aload_n 2, 1) := by decide +kernel
theorem dS_30 : decode jdk_42_method_66_code 30 = .ok (.getfield 15, 3) := by decide +kernel
theorem dS_33 : decode jdk_42_method_66_code 33 = .ok (.if_icmp .ne 21, 3) := by decide +kernel
theorem dS_36 : decode jdk_42_method_66_code 36 = .ok (.aload_n 0, 1) := by decide +kernel
theorem dS_37 : decode jdk_42_method_66_code 37 = .ok (.getfield 9, 3) := by decide +kernel
theorem dS_40 : decode jdk_42_method_66_code 40 = .ok (.aload_n 2, 1) := by decide +kernel
theorem dS_41 : decode jdk_42_method_66_code 41 = .ok (.getfield 9, 3) := by decide +kernel
theorem dS_44 : decode jdk_42_method_66_code 44 = .ok (.invokestatic 541, 3) := by decide +kernel
theorem dS_47 : decode jdk_42_method_66_code 47 = .ok (.ifCond .eq 7, 3) := by decide +kernel
theorem dS_50 : decode jdk_42_method_66_code 50 = .ok (.iconst 1, 1) := by decide +kernel
theorem dS_51 : decode jdk_42_method_66_code 51 = .ok (.goto 4, 3) := by decide +kernel
theorem dS_54 : decode jdk_42_method_66_code 54 = .ok (.iconst 0, 1) := by decide +kernel
theorem dS_55 : decode jdk_42_method_66_code 55 = .ok (.ireturn, 1) := by decide +kernel
theorem dL_0 : decode jdk_43_method_13_code 0 = .ok (.aload_n 0, 1) := by decide +kernel
theorem dL_1 : decode jdk_43_method_13_code 1 = .ok (.arraylength, 1) := by decide +kernel
theorem dL_2 : decode jdk_43_method_13_code 2 = .ok (.aload_n 1, 1) := by decide +kernel
theorem dL_3 : decode jdk_43_method_13_code 3 = .ok (.arraylength, 1) := by decide +kernel
theorem dL_4 : decode jdk_43_method_13_code 4 = .ok (.if_icmp .ne 30, 3) := by decide +kernel
theorem dL_7 : decode jdk_43_method_13_code 7 = .ok (.iconst 0, 1) := by decide +kernel
theorem dL_8 : decode jdk_43_method_13_code 8 = .ok (.istore_n 2, 1) := by decide +kernel
theorem dL_9 : decode jdk_43_method_13_code 9 = .ok (.iload_n 2, 1) := by decide +kernel
theorem dL_10 : decode jdk_43_method_13_code 10 = .ok (.aload_n 0, 1) := by decide +kernel
theorem dL_11 : decode jdk_43_method_13_code 11 = .ok (.arraylength, 1) := by decide +kernel
theorem dL_12 : decode jdk_43_method_13_code 12 = .ok (.if_icmp .ge 20, 3) := by decide +kernel
theorem dL_15 : decode jdk_43_method_13_code 15 = .ok (.aload_n 0, 1) := by decide +kernel
theorem dL_16 : decode jdk_43_method_13_code 16 = .ok (.iload_n 2, 1) := by decide +kernel
theorem dL_17 : decode jdk_43_method_13_code 17 = .ok (.baload, 1) := by decide +kernel
theorem dL_18 : decode jdk_43_method_13_code 18 = .ok (.aload_n 1, 1) := by decide +kernel
theorem dL_19 : decode jdk_43_method_13_code 19 = .ok (.iload_n 2, 1) := by decide +kernel
theorem dL_20 : decode jdk_43_method_13_code 20 = .ok (.baload, 1) := by decide +kernel
theorem dL_21 : decode jdk_43_method_13_code 21 = .ok (.if_icmp .eq 5, 3) := by decide +kernel
theorem dL_24 : decode jdk_43_method_13_code 24 = .ok (.iconst 0, 1) := by decide +kernel
theorem dL_25 : decode jdk_43_method_13_code 25 = .ok (.ireturn, 1) := by decide +kernel
theorem dL_26 : decode jdk_43_method_13_code 26 = .ok (.iinc 2 1, 3) := by decide +kernel
theorem dL_29 : decode jdk_43_method_13_code 29 = .ok (.goto (-20), 3) := by decide +kernel
theorem dL_32 : decode jdk_43_method_13_code 32 = .ok (.iconst 1, 1) := by decide +kernel
theorem dL_33 : decode jdk_43_method_13_code 33 = .ok (.ireturn, 1) := by decide +kernel
theorem dL_34 : decode jdk_43_method_13_code 34 = .ok (.iconst 0, 1) := by decide +kernel
theorem dL_35 : decode jdk_43_method_13_code 35 = .ok (.ireturn, 1) := by decide +kernel
theorem pd_L : parseMethodDescriptor "([B[B)Z" = some ⟨[.array .byte, .array .byte], some .boolean⟩ := by decide +kernel
theorem pd_S : parseMethodDescriptor "(Ljava/lang/Object;)Z" = some ⟨[.object "java/lang/Object"], some .boolean⟩ := by decide +kernel
theorem pd_Y : parseMethodDescriptor "(Z)Ljava/lang/String;" = some ⟨[.boolean], some (.object "java/lang/String")⟩ := by decide +kernel
theorem pn_L : plainFor (⟨"java/lang/StringLatin1", "equals", "([B[B)Z"⟩ : MethodName) = true := plainFor_of_name (by show plainName "java/lang/StringLatin1" = true; first | (simp [plainName, overriddenIn]; done) | decide +kernel)
theorem pn_S : plainFor (⟨"java/lang/String", "equals", "(Ljava/lang/Object;)Z"⟩ : MethodName) = true := plainFor_of_name (by show plainName "java/lang/String" = true; first | (simp [plainName, overriddenIn]; done) | decide +kernel)
theorem pn_Y : plainFor (⟨"com/example/gridtally/gridtally/io/TextForms", "yesOrNo", "(Z)Ljava/lang/String;"⟩ : MethodName) = true := plainFor_of_name (by show plainName "com/example/gridtally/gridtally/io/TextForms" = true; first | (simp [plainName, overriddenIn]; done) | decide +kernel)
theorem pn_0 : plainFor x = true := plainFor_of_name (by show plainName "com/example/gridtally/gridtally/io/TextFormsYesOrNoPinLaw" = true; first | (simp [plainName, overriddenIn]; done) | decide +kernel)
theorem ef_L (m : MethodId) (a b : Addr) : entryFrame m #[(.ref a), (.ref b)] 3 = mkF m 0 #[.val (.ref a), .val (.ref b), .unset] [] := by first | (simp [entryFrame, mkF, argsToLocals, Value.category]; done) | rfl
theorem ef_Y (m : MethodId) (p1 : Int32) : entryFrame m #[(.int p1)] 1 = mkF m 0 #[.val (.int p1)] [] := by first | (simp [entryFrame, mkF, argsToLocals, Value.category]; done) | rfl
theorem ef_0 (m : MethodId) (p1 : Int32) : entryFrame m #[(.int p1)] maxLocals = mkF m 0 #[.val (.int p1), .unset, .unset, .unset, .unset, .unset] [] := by first | (simp [entryFrame, mkF, argsToLocals, Value.category, maxLocals]; done) | rfl
set_option maxRecDepth 65536 in
set_option maxHeartbeats 40000000 in
theorem rmLe (l : Launch) (Z : State) (a b : Addr) (n : Nat) (f : Nat → Int32) (h0 : Heap) (A : AI Z h0 a .byte n f) (B : AI Z h0 b .byte n f) :
    Con l Z (⟨"java/lang/StringLatin1", "equals", "([B[B)Z"⟩ : MethodName) jdk_43_method_13_code 3 (some .boolean) [] ({ frames := 0, cells := 0, slots := 0, locals := 0 } : Room) #[(.ref a), (.ref b)] h0 (PQ (.int 1) h0) := by
  refine own_body pn_L (fun m => ef_L m a b) ?_
  intro p e s m below meth c T0 W X0 hx hby hml hret hlk hown hnm hZ e0 hW
  have hsm := A.small
  show Go p e below W T0 (mkF m 0 #[.val (.ref a), .val (.ref b), .unset] [])
  refine Go.of (fun _ k => XS.aloadN X0.here hx rfl (hb hby dL_0) rfl rfl k) ?_
  show Go p e below W T0 (mkF m 1 #[.val (.ref a), .val (.ref b), .unset] [(.ref a)])
  refine Go.alen X0 hx hZ e0 A (hb hby dL_1) ?_
  show Go p e below W T0 (mkF m 2 #[.val (.ref a), .val (.ref b), .unset] [(.int (Int32.ofNat n))])
  refine Go.of (fun _ k => XS.aloadN X0.here hx rfl (hb hby dL_2) rfl rfl k) ?_
  show Go p e below W T0 (mkF m 3 #[.val (.ref a), .val (.ref b), .unset] [(.ref b), (.int (Int32.ofNat n))])
  refine Go.alen X0 hx hZ e0 B (hb hby dL_3) ?_
  show Go p e below W T0 (mkF m 4 #[.val (.ref a), .val (.ref b), .unset] [(.int (Int32.ofNat n)), (.int (Int32.ofNat n))])
  refine Go.of (fun _ k => XS.icmpNo X0.here hx rfl (hb hby dL_4) rfl (Jvm.Free.XT.ii_ne_f rfl) k) ?_
  show Go p e below W T0 (mkF m 7 #[.val (.ref a), .val (.ref b), .unset] [])
  refine Go.of (fun _ k => XS.iconst X0.here hx rfl (hb hby dL_7) k) ?_
  show Go p e below W T0 (mkF m 8 #[.val (.ref a), .val (.ref b), .unset] [(.int (0 : Int32))])
  refine Go.of (fun _ k => XS.istoreN X0.here hx rfl (hb hby dL_8) rfl (l' := #[.val (.ref a), .val (.ref b), .val (.int (0 : Int32))]) rfl k) ?_
  show Go p e below W T0 (mkF m 9 #[.val (.ref a), .val (.ref b), .val (.int (0 : Int32))] [])
  suffices LP : ∀ (k i : Nat), i + k = n → Go p e below W T0 (mkF m 9 #[.val (.ref a), .val (.ref b), .val (.int (Int32.ofNat i))] []) from LP n 0 (by omega)
  intro k
  induction k with
  | zero =>
    intro i hik
    show Go p e below W T0 (mkF m 9 #[.val (.ref a), .val (.ref b), .val (.int (Int32.ofNat i))] [])
    refine Go.of (fun _ k => XS.iloadN X0.here hx rfl (hb hby dL_9) rfl k) ?_
    show Go p e below W T0 (mkF m 10 #[.val (.ref a), .val (.ref b), .val (.int (Int32.ofNat i))] [(.int (Int32.ofNat i))])
    refine Go.of (fun _ k => XS.aloadN X0.here hx rfl (hb hby dL_10) rfl rfl k) ?_
    show Go p e below W T0 (mkF m 11 #[.val (.ref a), .val (.ref b), .val (.int (Int32.ofNat i))] [(.ref a), (.int (Int32.ofNat i))])
    refine Go.alen X0 hx hZ e0 A (hb hby dL_11) ?_
    show Go p e below W T0 (mkF m 12 #[.val (.ref a), .val (.ref b), .val (.int (Int32.ofNat i))] [(.int (Int32.ofNat n)), (.int (Int32.ofNat i))])
    refine Go.of (fun _ k => XS.icmpYes X0.here hx rfl (pc0 := 12) (pc' := 32) rfl (hb hby dL_12) rfl (Jvm.Free.XT.ii_ge_t (own_nlt (by omega) (by omega))) (by decide) (by decide) k) ?_
    show Go p e below W T0 (mkF m 32 #[.val (.ref a), .val (.ref b), .val (.int (Int32.ofNat i))] [])
    refine Go.of (fun _ k => XS.iconst X0.here hx rfl (hb hby dL_32) k) ?_
    show Go p e below W T0 (mkF m 33 #[.val (.ref a), .val (.ref b), .val (.int (Int32.ofNat i))] [(.int (1 : Int32))])
    exact Go.retN X0 hx hret (Or.inl rfl) (hb hby dL_33) hlk rfl (fun t ht fe => hW t _ _ _ _ ⟨rfl, rfl, ht.trans e0⟩ fe (by decide) (by decide))
  | succ k ih =>
    intro i hik
    show Go p e below W T0 (mkF m 9 #[.val (.ref a), .val (.ref b), .val (.int (Int32.ofNat i))] [])
    refine Go.of (fun _ k => XS.iloadN X0.here hx rfl (hb hby dL_9) rfl k) ?_
    show Go p e below W T0 (mkF m 10 #[.val (.ref a), .val (.ref b), .val (.int (Int32.ofNat i))] [(.int (Int32.ofNat i))])
    refine Go.of (fun _ k => XS.aloadN X0.here hx rfl (hb hby dL_10) rfl rfl k) ?_
    show Go p e below W T0 (mkF m 11 #[.val (.ref a), .val (.ref b), .val (.int (Int32.ofNat i))] [(.ref a), (.int (Int32.ofNat i))])
    refine Go.alen X0 hx hZ e0 A (hb hby dL_11) ?_
    show Go p e below W T0 (mkF m 12 #[.val (.ref a), .val (.ref b), .val (.int (Int32.ofNat i))] [(.int (Int32.ofNat n)), (.int (Int32.ofNat i))])
    refine Go.of (fun _ k => XS.icmpNo X0.here hx rfl (hb hby dL_12) rfl (Jvm.Free.XT.ii_ge_f (own_lt (by omega) (by omega))) k) ?_
    show Go p e below W T0 (mkF m 15 #[.val (.ref a), .val (.ref b), .val (.int (Int32.ofNat i))] [])
    refine Go.of (fun _ k => XS.aloadN X0.here hx rfl (hb hby dL_15) rfl rfl k) ?_
    show Go p e below W T0 (mkF m 16 #[.val (.ref a), .val (.ref b), .val (.int (Int32.ofNat i))] [(.ref a)])
    refine Go.of (fun _ k => XS.iloadN X0.here hx rfl (hb hby dL_16) rfl k) ?_
    show Go p e below W T0 (mkF m 17 #[.val (.ref a), .val (.ref b), .val (.int (Int32.ofNat i))] [(.int (Int32.ofNat i)), (.ref a)])
    refine Go.bald X0 hx hZ e0 A (own_inbN (by omega) (by omega)) (hb hby dL_17) ?_
    show Go p e below W T0 (mkF m 18 #[.val (.ref a), .val (.ref b), .val (.int (Int32.ofNat i))] [(.int (f (Int32.ofNat i).toNatClampNeg))])
    refine Go.of (fun _ k => XS.aloadN X0.here hx rfl (hb hby dL_18) rfl rfl k) ?_
    show Go p e below W T0 (mkF m 19 #[.val (.ref a), .val (.ref b), .val (.int (Int32.ofNat i))] [(.ref b), (.int (f (Int32.ofNat i).toNatClampNeg))])
    refine Go.of (fun _ k => XS.iloadN X0.here hx rfl (hb hby dL_19) rfl k) ?_
    show Go p e below W T0 (mkF m 20 #[.val (.ref a), .val (.ref b), .val (.int (Int32.ofNat i))] [(.int (Int32.ofNat i)), (.ref b), (.int (f (Int32.ofNat i).toNatClampNeg))])
    refine Go.bald X0 hx hZ e0 B (own_inbN (by omega) (by omega)) (hb hby dL_20) ?_
    show Go p e below W T0 (mkF m 21 #[.val (.ref a), .val (.ref b), .val (.int (Int32.ofNat i))] [(.int (f (Int32.ofNat i).toNatClampNeg)), (.int (f (Int32.ofNat i).toNatClampNeg))])
    refine Go.of (fun _ k => XS.icmpYes X0.here hx rfl (pc0 := 21) (pc' := 26) rfl (hb hby dL_21) rfl (Jvm.Free.XT.ii_eq_t rfl) (by decide) (by decide) k) ?_
    show Go p e below W T0 (mkF m 26 #[.val (.ref a), .val (.ref b), .val (.int (Int32.ofNat i))] [])
    refine Go.of (fun _ k => XS.iinc X0.here hx rfl (hb hby dL_26) rfl (l' := #[.val (.ref a), .val (.ref b), .val (.int (Int32.ofNat i + (1 : Int32)))]) rfl k) ?_
    rw [own_one]
    show Go p e below W T0 (mkF m 29 #[.val (.ref a), .val (.ref b), .val (.int (Int32.ofNat (i + 1)))] [])
    refine Go.of (fun _ k => XS.goto X0.here hx rfl (pc0 := 29) (pc' := 9) rfl (hb hby dL_29) (by decide) (by decide) k) ?_
    show Go p e below W T0 (mkF m 9 #[.val (.ref a), .val (.ref b), .val (.int (Int32.ofNat (i + 1)))] [])
    exact ih (i + 1) (by omega)
set_option maxRecDepth 65536 in
set_option maxHeartbeats 40000000 in
theorem rmLn (l : Launch) (Z : State) (a b : Addr) (n n' : Nat) (f g : Nat → Int32) (h0 : Heap) (hne : ¬ n = n') (A : AI Z h0 a .byte n f) (B : AI Z h0 b .byte n' g) :
    Con l Z (⟨"java/lang/StringLatin1", "equals", "([B[B)Z"⟩ : MethodName) jdk_43_method_13_code 3 (some .boolean) [] ({ frames := 0, cells := 0, slots := 0, locals := 0 } : Room) #[(.ref a), (.ref b)] h0 (PQ (.int 0) h0) := by
  refine own_body pn_L (fun m => ef_L m a b) ?_
  intro p e s m below meth c T0 W X0 hx hby hml hret hlk hown hnm hZ e0 hW
  have hsm := A.small
  have hsm' := B.small
  show Go p e below W T0 (mkF m 0 #[.val (.ref a), .val (.ref b), .unset] [])
  refine Go.of (fun _ k => XS.aloadN X0.here hx rfl (hb hby dL_0) rfl rfl k) ?_
  show Go p e below W T0 (mkF m 1 #[.val (.ref a), .val (.ref b), .unset] [(.ref a)])
  refine Go.alen X0 hx hZ e0 A (hb hby dL_1) ?_
  show Go p e below W T0 (mkF m 2 #[.val (.ref a), .val (.ref b), .unset] [(.int (Int32.ofNat n))])
  refine Go.of (fun _ k => XS.aloadN X0.here hx rfl (hb hby dL_2) rfl rfl k) ?_
  show Go p e below W T0 (mkF m 3 #[.val (.ref a), .val (.ref b), .unset] [(.ref b), (.int (Int32.ofNat n))])
  refine Go.alen X0 hx hZ e0 B (hb hby dL_3) ?_
  show Go p e below W T0 (mkF m 4 #[.val (.ref a), .val (.ref b), .unset] [(.int (Int32.ofNat n')), (.int (Int32.ofNat n))])
  refine Go.of (fun _ k => XS.icmpYes X0.here hx rfl (pc0 := 4) (pc' := 34) rfl (hb hby dL_4) rfl (Jvm.Free.XT.ii_ne_t (fun q => hne (by have q1 := congrArg Int32.toInt q; rw [own_toInt hsm, own_toInt hsm'] at q1; omega))) (by decide) (by decide) k) ?_
  show Go p e below W T0 (mkF m 34 #[.val (.ref a), .val (.ref b), .unset] [])
  refine Go.of (fun _ k => XS.iconst X0.here hx rfl (hb hby dL_34) k) ?_
  show Go p e below W T0 (mkF m 35 #[.val (.ref a), .val (.ref b), .unset] [(.int (0 : Int32))])
  exact Go.retN X0 hx hret (Or.inl rfl) (hb hby dL_35) hlk rfl (fun t ht fe => hW t _ _ _ _ ⟨rfl, rfl, ht.trans e0⟩ fe (by decide) (by decide))
set_option maxRecDepth 65536 in
set_option maxHeartbeats 40000000 in
theorem rmS (l : Launch) (Z : State) (a0 : Array Value) (hw : ∀ d ∈ tables_1, d.before a0 Z = true) (a b d d' : Addr) (r z : Int32) (h0 : Heap) (E' : Exa Z h0 b "java/lang/String") (C : Fld Z h0 a "java/lang/String" "coder" "B" (.int 0)) (C' : Fld Z h0 b "java/lang/String" "coder" "B" (.int 0)) (V : Fld Z h0 a "java/lang/String" "value" "[B" (.ref d)) (V' : Fld Z h0 b "java/lang/String" "value" "[B" (.ref d'))
    (S : Sta Z h0 "java/lang/String" "COMPACT_STRINGS" "Z" (.int z)) (hz : ¬ z = 0) (hr : r = 0 ∨ r = 1) (hid : a = b → r = 1) (hM : Con l Z (⟨"java/lang/StringLatin1", "equals", "([B[B)Z"⟩ : MethodName) jdk_43_method_13_code 3 (some .boolean) [] ({ frames := 0, cells := 0, slots := 0, locals := 0 } : Room) #[(.ref d), (.ref d')] h0 (PQ (.int r) h0)) :
    Con l Z (⟨"java/lang/String", "equals", "(Ljava/lang/Object;)Z"⟩ : MethodName) jdk_42_method_66_code 3 (some .boolean) [] ({ frames := 1, cells := 0, slots := 0, locals := 14 } : Room) #[(.ref a), (.ref b)] h0 (PQ (.int r) h0) := by
  refine own_body pn_S (fun m => ef_L m a b) ?_
  intro p e s m below meth c T0 W X0 hx hby hml hret hlk hown hnm hZ e0 hW
  show Go p e below W T0 (mkF m 0 #[.val (.ref a), .val (.ref b), .unset] [])
  refine Go.of (fun _ k => XS.aloadN X0.here hx rfl (hb hby dS_0) rfl rfl k) ?_
  show Go p e below W T0 (mkF m 1 #[.val (.ref a), .val (.ref b), .unset] [(.ref a)])
  refine Go.of (fun _ k => XS.aloadN X0.here hx rfl (hb hby dS_1) rfl rfl k) ?_
  show Go p e below W T0 (mkF m 2 #[.val (.ref a), .val (.ref b), .unset] [(.ref b), (.ref a)])
  by_cases hab : a = b
  · refine Go.of (fun _ k => Jvm.RoadKit.acmp X0 hx rfl (x := .ref a) (y := .ref b) rfl rfl (pc0 := 2) (pc' := 5) rfl (hb hby dS_2) rfl (same := true) (by rw [hab]; simp) (by decide) (by decide) k) ?_
    show Go p e below W T0 (mkF m 5 #[.val (.ref a), .val (.ref b), .unset] [])
    refine Go.of (fun _ k => XS.iconst X0.here hx rfl (hb hby dS_5) k) ?_
    show Go p e below W T0 (mkF m 6 #[.val (.ref a), .val (.ref b), .unset] [(.int (1 : Int32))])
    exact Go.retN X0 hx hret (Or.inl rfl) (hb hby dS_6) hlk (hid hab).symm (fun t ht fe => hW t _ _ _ _ ⟨rfl, rfl, ht.trans e0⟩ fe (by decide) (by decide))
  · refine Go.of (fun _ k => Jvm.RoadKit.acmp X0 hx rfl (x := .ref a) (y := .ref b) rfl rfl (pc0 := 2) (pc' := 7) rfl (hb hby dS_2) rfl (same := false) (by simp [hab]) (by decide) (by decide) k) ?_
    show Go p e below W T0 (mkF m 7 #[.val (.ref a), .val (.ref b), .unset] [])
    refine Go.of (fun _ k => XS.aloadN X0.here hx rfl (hb hby dS_7) rfl rfl k) ?_
    show Go p e below W T0 (mkF m 8 #[.val (.ref a), .val (.ref b), .unset] [(.ref b)])
    obtain ⟨T1, X1, e1, s1⟩ := Jvm.RoadKit.instY X0 hx hZ hown (hw _ (List.mem_of_getElem? (i := 20) rfl)) e0 (Ins.self E') (g := mkF m 8 #[.val (.ref a), .val (.ref b), .unset] [(.ref b)]) rfl rfl (hb hby dS_8)
    refine Go.of s1 ?_
    show Go p e below W T1 (mkF m 11 #[.val (.ref a), .val (.ref b), .unset] [(.int (1 : Int32))])
    refine Go.of (fun _ k => XS.ifNo X1.here hx rfl (hb hby dS_11) rfl (Jvm.Free.XT.i0_eq_f (by decide)) k) ?_
    show Go p e below W T1 (mkF m 14 #[.val (.ref a), .val (.ref b), .unset] [])
    refine Go.of (fun _ k => XS.aloadN X1.here hx rfl (hb hby dS_14) rfl rfl k) ?_
    show Go p e below W T1 (mkF m 15 #[.val (.ref a), .val (.ref b), .unset] [(.ref b)])
    refine Go.cast X1 hx hZ hown (hw _ (List.mem_of_getElem? (i := 20) rfl)) e1 E' (hb hby dS_15) ?_
    intro T2 X2 e2
    show Go p e below W T2 (mkF m 18 #[.val (.ref a), .val (.ref b), .unset] [(.ref b)])
    refine Go.of (fun _ k => XS.astoreN X2.here hx rfl (hb hby dS_18) rfl rfl (l' := #[.val (.ref a), .val (.ref b), .val (.ref b)]) rfl k) ?_
    show Go p e below W T2 (mkF m 19 #[.val (.ref a), .val (.ref b), .val (.ref b)] [])
    obtain ⟨T3, X3, e3, s3⟩ := Jvm.RoadKit.getS X2 hx hZ hown (host := "") (hw _ (List.mem_of_getElem? (i := 22) rfl)) Via.refl e2 S (g := mkF m 19 #[.val (.ref a), .val (.ref b), .val (.ref b)] []) rfl (hb hby dS_19)
    refine Go.of s3 ?_
    show Go p e below W T3 (mkF m 22 #[.val (.ref a), .val (.ref b), .val (.ref b)] [(.int z)])
    refine Go.of (fun _ k => XS.ifNo X3.here hx rfl (hb hby dS_22) rfl (Jvm.Free.XT.i0_eq_f hz) k) ?_
    show Go p e below W T3 (mkF m 25 #[.val (.ref a), .val (.ref b), .val (.ref b)] [])
    refine Go.of (fun _ k => XS.aloadN X3.here hx rfl (hb hby dS_25) rfl rfl k) ?_
    show Go p e below W T3 (mkF m 26 #[.val (.ref a), .val (.ref b), .val (.ref b)] [(.ref a)])
    refine Go.getF X3 hx hZ hown (hw _ (List.mem_of_getElem? (i := 23) rfl)) e3 C (hb hby dS_26) ?_
    intro T4 X4 e4
    show Go p e below W T4 (mkF m 29 #[.val (.ref a), .val (.ref b), .val (.ref b)] [(.int (0 : Int32))])
    refine Go.of (fun _ k => XS.aloadN X4.here hx rfl (hb hby dS_29) rfl rfl k) ?_
    show Go p e below W T4 (mkF m 30 #[.val (.ref a), .val (.ref b), .val (.ref b)] [(.ref b), (.int (0 : Int32))])
    refine Go.getF X4 hx hZ hown (hw _ (List.mem_of_getElem? (i := 23) rfl)) e4 C' (hb hby dS_30) ?_
    intro T5 X5 e5
    show Go p e below W T5 (mkF m 33 #[.val (.ref a), .val (.ref b), .val (.ref b)] [(.int (0 : Int32)), (.int (0 : Int32))])
    refine Go.of (fun _ k => XS.icmpNo X5.here hx rfl (hb hby dS_33) rfl (Jvm.Free.XT.ii_ne_f rfl) k) ?_
    show Go p e below W T5 (mkF m 36 #[.val (.ref a), .val (.ref b), .val (.ref b)] [])
    refine Go.of (fun _ k => XS.aloadN X5.here hx rfl (hb hby dS_36) rfl rfl k) ?_
    show Go p e below W T5 (mkF m 37 #[.val (.ref a), .val (.ref b), .val (.ref b)] [(.ref a)])
    refine Go.getF X5 hx hZ hown (hw _ (List.mem_of_getElem? (i := 24) rfl)) e5 V (hb hby dS_37) ?_
    intro T6 X6 e6
    show Go p e below W T6 (mkF m 40 #[.val (.ref a), .val (.ref b), .val (.ref b)] [(.ref d)])
    refine Go.of (fun _ k => XS.aloadN X6.here hx rfl (hb hby dS_40) rfl rfl k) ?_
    show Go p e below W T6 (mkF m 41 #[.val (.ref a), .val (.ref b), .val (.ref b)] [(.ref b), (.ref d)])
    refine Go.getF X6 hx hZ hown (hw _ (List.mem_of_getElem? (i := 24) rfl)) e6 V' (hb hby dS_41) ?_
    intro T7 X7 e7
    show Go p e below W T7 (mkF m 44 #[.val (.ref a), .val (.ref b), .val (.ref b)] [(.ref d'), (.ref d)])
    refine Go.callP X7 hx hZ hown (hw _ (List.mem_of_getElem? (i := 25) rfl)) (hw _ (List.mem_of_getElem? (i := 26) rfl)) (hw _ (List.mem_of_getElem? (i := 27) rfl)) (hw _ (List.mem_of_getElem? (i := 28) rfl)) (by decide) e7 hM (V := 0) (by decide) (by decide) rfl rfl (by decide) (by decide) (by rw [hml]; rfl) (argsL := [(.ref d), (.ref d')]) (rest := []) rfl (lenOf pd_L rfl) rfl (Nat.le_of_ble_eq_true rfl) (hb hby dS_44) ?_
    intro T8 X8 e8
    show Go p e below W T8 (mkF m 47 #[.val (.ref a), .val (.ref b), .val (.ref b)] [(.int r)])
    rcases hr with rfl | rfl
    · refine Go.of (fun _ k => XS.ifYes X8.here hx rfl (pc0 := 47) (pc' := 54) rfl (hb hby dS_47) rfl (Jvm.Free.XT.i0_eq_t rfl) (by decide) (by decide) k) ?_
      show Go p e below W T8 (mkF m 54 #[.val (.ref a), .val (.ref b), .val (.ref b)] [])
      refine Go.of (fun _ k => XS.iconst X8.here hx rfl (hb hby dS_54) k) ?_
      show Go p e below W T8 (mkF m 55 #[.val (.ref a), .val (.ref b), .val (.ref b)] [(.int (0 : Int32))])
      exact Go.retN X8 hx hret (Or.inl rfl) (hb hby dS_55) hlk rfl (fun t ht fe => hW t _ _ _ _ ⟨rfl, rfl, ht.trans e8⟩ fe (by decide) (by decide))
    · refine Go.of (fun _ k => XS.ifNo X8.here hx rfl (hb hby dS_47) rfl (Jvm.Free.XT.i0_eq_f (by decide)) k) ?_
      show Go p e below W T8 (mkF m 50 #[.val (.ref a), .val (.ref b), .val (.ref b)] [])
      refine Go.of (fun _ k => XS.iconst X8.here hx rfl (hb hby dS_50) k) ?_
      show Go p e below W T8 (mkF m 51 #[.val (.ref a), .val (.ref b), .val (.ref b)] [(.int (1 : Int32))])
      refine Go.of (fun _ k => XS.goto X8.here hx rfl (pc0 := 51) (pc' := 55) rfl (hb hby dS_51) (by decide) (by decide) k) ?_
      show Go p e below W T8 (mkF m 55 #[.val (.ref a), .val (.ref b), .val (.ref b)] [(.int (1 : Int32))])
      exact Go.retN X8 hx hret (Or.inl rfl) (hb hby dS_55) hlk rfl (fun t ht fe => hW t _ _ _ _ ⟨rfl, rfl, ht.trans e8⟩ fe (by decide) (by decide))
abbrev own_txt (x : Int32) : String := if x = 0 then "no" else "yes"
def own_Y (Z : State) (x : Int32) (h : Heap) (o : Outcome) (U' : State) : Prop := ∃ (r : Addr) (units : Array UInt16), o = .returned (some (.ref r)) ∧ utf16ToString? units = some (own_txt x) ∧ SlOf U' r units ∧ own_IS Z U' ∧ Ext h U'.heap
theorem own_fin {s t : State} {vm : Vm} {n0 k n : Nat} {o : Outcome} (hS : s.Since vm n0) (hn : n0 ≤ t.heap.size) (hF : FrameEnd (s.setVm vm) o t [] k n) : ReturnedEndW s o t [] k n := by
  obtain ⟨h1, h2, h3⟩ := hF
  obtain ⟨q1, q2, q3⟩ := hS.ended (U := t) h2 hn h3
  exact ⟨h1, q1, q2, q3⟩
set_option maxRecDepth 65536 in
set_option maxHeartbeats 40000000 in
theorem rmY (l : Launch) (Z : State) (a0 : Array Value) (hw : ∀ d ∈ tables_1, d.before a0 Z = true) (wS : ∀ a ∈ Bundle.stringAtoms, a.before a0 Z = true) (hN : ConstHeldL Z "com/example/gridtally/gridtally/io/TextForms" 220) (hY : ConstHeldL Z "com/example/gridtally/gridtally/io/TextForms" 218) (x : Int32) :
    MetFree l (⟨"com/example/gridtally/gridtally/io/TextForms", "yesOrNo", "(Z)Ljava/lang/String;"⟩ : MethodName) (head1 [Jvm.Cond.code (⟨"com/example/gridtally/gridtally/io/TextForms", "yesOrNo", "(Z)Ljava/lang/String;"⟩ : MethodName) prog_38_method_19_code 1 (some (.object "java/lang/String"))] ({ frames := 0, cells := 2, slots := 16, locals := 0 } : Room)) (fun a U => a = #[(.int x)] ∧ Z.Warmed39 U.vm ∧ own_IS Z U ∧ Ext Z.heap U.heap) (fun _ _ _ _ _ => True) (fun _ U o U' => own_Y Z x U.heap o U' ∧ ReturnedEndW U o U' [] 2 16) := by
  refine MetFree.of_bodySF pn_Y hisR ?_
  intro p e s m args below meth c T0 Bd hml hP hK
  obtain ⟨rfl, hZ, I, Kp⟩ := hP
  have hh : T0.heap = s.heap := by rw [Bd.state]; rfl
  have hv : T0.vm = s.vm := by rw [Bd.state]; rfl
  have X0 : Stand p l e ({ frames := 0, cells := 2, slots := 16, locals := 0 } : Room) (s.setVm s.vm) m #[(.int x)] below meth c T0 [] 0 0 := Stand.of_body Bd
  have I0 : own_IS Z T0 := I.keep (by rw [hv]) (by rw [hv]; exact (State.Warmed39.refl s).alike) (by rw [hh]; exact own_ext _)
  have e0 : T0.heap = s.heap := hh
  have hx := Bd.exec
  have hby := Bd.bytes
  have hret := Bd.returns
  have hlk := BodyLoose.notSynchronized Bd
  have hown : s.vm.findClass "com/example/gridtally/gridtally/io/TextForms" = some m.cls := findClass_of_methodNamed Bd.named
  suffices G : Go p e below (fun t o => own_Y Z x s.heap o t ∧ ReturnedEndW s o t [] 2 16) T0 (mkF m 0 #[.val (.int x)] []) by
    obtain ⟨t, o, h1, h2, h3, h4⟩ := G
    exact ⟨t, o, castTop (ef_Y m x) h1, h2, h3, h4⟩
  generalize hWW : (fun t o => own_Y Z x s.heap o t ∧ ReturnedEndW s o t [] 2 16) = W
  have hWi : ∀ t o, (own_Y Z x s.heap o t ∧ ReturnedEndW s o t [] 2 16) → W t o := fun t o q => by rw [← hWW]; exact q
  refine Go.of (fun _ k => XS.iloadN X0.here hx rfl (hb hby dY_0) rfl k) ?_
  show Go p e below W T0 (mkF m 1 #[.val (.int x)] [(.int x)])
  by_cases hx0 : x = 0
  · refine Go.of (fun _ k => XS.ifYes X0.here hx rfl (pc0 := 1) (pc' := 9) rfl (hb hby dY_1) rfl (Jvm.Free.XT.i0_eq_t hx0) (by decide) (by decide) k) ?_
    show Go p e below W T0 (mkF m 9 #[.val (.int x)] [])
    refine Go.ldcS (vm := s.vm) X0 hx hZ hown (hw _ (List.mem_of_getElem? (i := 4) rfl)) wS hN I0 e0 Kp (State.Warmed39.refl s |> fun q => ⟨q, fun j p hj hp => absurd (Array.getElem?_eq_some_iff.mp hp).1 (Nat.not_lt.mpr hj)⟩) (Nat.le_refl _) (by decide) rfl (hb hby dY_9) (n := 12) (by decide) (by decide) (by decide) (by decide) ?_
    intro T1 h1 r b units X1 hS1 e1 E1 hZ1 hown1 I1 htx hsl _ _ _ _
    show Go p e below W T1 (mkF m 11 #[.val (.int x)] [(.ref r)])
    refine Go.retA X1 hx hret rfl rfl (hb hby dY_11) hlk (fun t ht fe => hWi _ _ ⟨⟨r, units, rfl, by rw [own_txt, if_pos hx0]; exact htx, ?_, ?_, ?_⟩, ?_⟩)
    · exact hsl.moved (X1.warmed.alike.symm.trans fe.2.1.alike) (fun b c q => by rw [ht]; exact q)
    · exact I1.keep (fe.2.1.interned_eq.trans X1.warmed.interned_eq.symm) (X1.warmed.alike.symm.trans fe.2.1.alike) (by rw [ht]; exact own_ext _)
    · rw [ht, e1]; exact E1
    · exact own_fin hS1 (by rw [ht, e1]; exact Nat.le_refl _) fe
  · refine Go.of (fun _ k => XS.ifNo X0.here hx rfl (hb hby dY_1) rfl (Jvm.Free.XT.i0_eq_f hx0) k) ?_
    show Go p e below W T0 (mkF m 4 #[.val (.int x)] [])
    refine Go.ldcS (vm := s.vm) X0 hx hZ hown (hw _ (List.mem_of_getElem? (i := 12) rfl)) wS hY I0 e0 Kp (State.Warmed39.refl s |> fun q => ⟨q, fun j p hj hp => absurd (Array.getElem?_eq_some_iff.mp hp).1 (Nat.not_lt.mpr hj)⟩) (Nat.le_refl _) (by decide) rfl (hb hby dY_4) (n := 12) (by decide) (by decide) (by decide) (by decide) ?_
    intro T1 h1 r b units X1 hS1 e1 E1 hZ1 hown1 I1 htx hsl _ _ _ _
    show Go p e below W T1 (mkF m 6 #[.val (.int x)] [(.ref r)])
    refine Go.of (fun _ k => XS.goto X1.here hx rfl (pc0 := 6) (pc' := 11) rfl (hb hby dY_6) (by decide) (by decide) k) ?_
    show Go p e below W T1 (mkF m 11 #[.val (.int x)] [(.ref r)])
    refine Go.retA X1 hx hret rfl rfl (hb hby dY_11) hlk (fun t ht fe => hWi _ _ ⟨⟨r, units, rfl, by rw [own_txt, if_neg hx0]; exact htx, ?_, ?_, ?_⟩, ?_⟩)
    · exact hsl.moved (X1.warmed.alike.symm.trans fe.2.1.alike) (fun b c q => by rw [ht]; exact q)
    · exact I1.keep (fe.2.1.interned_eq.trans X1.warmed.interned_eq.symm) (X1.warmed.alike.symm.trans fe.2.1.alike) (by rw [ht]; exact own_ext _)
    · rw [ht, e1]; exact E1
    · exact own_fin hS1 (by rw [ht, e1]; exact Nat.le_refl _) fe
set_option maxRecDepth 65536 in
set_option maxHeartbeats 40000000 in
theorem Go.callY {p : Program} {l : Launch} {e : Env} {s : State} {m : MethodId} {args : Array Value} {below : List Frame} {meth : Method} {c : Code} {T Z : State} {cells slots : Nat} {a0 : Array Value} {h : Heap} {W : State → Outcome → Prop} {vm : Vm} {R : Room} (X : Stand p l e R (s.setVm vm) m args below meth c T [] cells slots) (hx : p.tables.exec = Jvm.exec) (hZ : Z.Warmed39 vm) {own : String} (hown : vm.findClass own = some m.cls) {index : Nat}
    (w1 : (Jvm.Cond.methodLink own index (⟨"com/example/gridtally/gridtally/io/TextForms", "yesOrNo", "(Z)Ljava/lang/String;"⟩ : MethodName)).before a0 Z = true) (w2 : (Jvm.Cond.static (⟨"com/example/gridtally/gridtally/io/TextForms", "yesOrNo", "(Z)Ljava/lang/String;"⟩ : MethodName)).before a0 Z = true) (w3 : (Jvm.Cond.initialized "com/example/gridtally/gridtally/io/TextForms").before a0 Z = true) (w4 : (Jvm.Cond.code (⟨"com/example/gridtally/gridtally/io/TextForms", "yesOrNo", "(Z)Ljava/lang/String;"⟩ : MethodName) prog_38_method_19_code 1 (some (.object "java/lang/String"))).before a0 Z = true)
    {x : Int32} (hM : MetFree l (⟨"com/example/gridtally/gridtally/io/TextForms", "yesOrNo", "(Z)Ljava/lang/String;"⟩ : MethodName) (head1 [Jvm.Cond.code (⟨"com/example/gridtally/gridtally/io/TextForms", "yesOrNo", "(Z)Ljava/lang/String;"⟩ : MethodName) prog_38_method_19_code 1 (some (.object "java/lang/String"))] ({ frames := 0, cells := 2, slots := 16, locals := 0 } : Room)) (fun a U => a = #[(.int x)] ∧ Z.Warmed39 U.vm ∧ own_IS Z U ∧ Ext Z.heap U.heap) (fun _ _ _ _ _ => True) (fun _ U o U' => own_Y Z x U.heap o U' ∧ ReturnedEndW U o U' [] 2 16))
    (I : own_IS Z T) (eT : T.heap = h) (Kp : Ext Z.heap h) {n0 : Nat} (hS : s.Since vm n0) (hn0 : n0 ≤ h.size) (hf : 1 ≤ R.frames) (hl : 12 ≤ R.locals) (hc : cells + 2 ≤ R.cells) (hs : slots + 16 ≤ R.slots) {pc : Nat} {Ls : Array Slot} (hsize : Ls.size = c.maxLocals) (hd : decode c.code pc = .ok (.invokestatic index, 3))
    (ht : ∀ c ∈ (own_txt x).toList, c.toNat < 256) {vs : List Int32} (hvs : (own_txt x).toList.map (fun c => Jvm.Lit.byteI c.toNat.toUInt16) = vs)
    (K : ∀ T' h' a b, Stand p l e R (s.setVm T'.vm) m args below meth c T' [] (cells + 2) (slots + 16) → s.Since T'.vm h'.size → T'.heap = h' → Ext h h' → Z.Warmed39 T'.vm → T'.vm.findClass own = some m.cls → own_IS Z T' → Exa Z h' a "java/lang/String" → Fld Z h' a "java/lang/String" "coder" "B" (.int 0) → Fld Z h' a "java/lang/String" "value" "[B" (.ref b) → AI Z h' b .byte vs.length (fun j => vs.getD j 0) → Go p e below W T' (mkF m (pc + 3) Ls [(.ref a)])) : Go p e below W T (mkF m pc Ls [(.int x)]) := by
  subst eT
  have hB : BackS l R p e below (s.setVm vm) args (⟨"com/example/gridtally/gridtally/io/TextForms", "yesOrNo", "(Z)Ljava/lang/String;"⟩ : MethodName) 3 0 (fun A a => a = #[(.int x)] ∧ own_IS Z A.U ∧ Ext Z.heap A.U.heap ∧ A.cells + 2 ≤ R.cells ∧ A.slots + 16 ≤ R.slots)
      (fun A _ v B => ∃ (r : Addr) (units : Array UInt16), v = some (.ref r) ∧ utf16ToString? units = some (own_txt x) ∧ SlOf B.U r units ∧ own_IS Z B.U ∧ Ext A.U.heap B.U.heap ∧ B.locs = A.locs ++ [] ∧ B.cells = A.cells + 2 ∧ B.slots = A.slots + 16) := by
    refine BackS.of_freeW (bytes := prog_38_method_19_code) (maxL := 1) (ret := some (.object "java/lang/String")) (E := fun _ U o t L k n => L = [] ∧ k = 2 ∧ n = 16 ∧ own_Y Z x U.heap o t) hM hf hl ?_ ?_ (fun _ _ _ _ _ _ _ _ _ => trivial) (fun _ _ _ _ q => ⟨[], 2, 16, q.2, rfl, rfl, rfl, q.1⟩) ?_
    · intro m meth c A a Y hp
      have hU : Z.Warmed39 A.U.vm := State.Warmed39.trans (t := s.setVm vm) hZ Y.warmed.wide
      exact ⟨by show (Jvm.Cond.and _ .tt).before a A.U = true; rw [Cond.before_and, mv hU w4]; rfl, mv hU w4, mv hU w3, hp.2.2.2.1, hp.2.2.2.2⟩
    · intro m meth c A a g mk Y hp
      exact ⟨hp.1, State.Warmed39.trans (t := s.setVm vm) hZ Y.warmed.wide, hp.2.1.keep rfl (State.Warmed39.refl A.U).alike (own_ext _), hp.2.2.1⟩
    · rintro m meth c A a g mk v t L k n Y hp - - ⟨rfl, rfl, rfl, r, units, e1, e2, e3, e4, e5⟩
      cases e1
      exact ⟨r, units, rfl, e2, e3.moved (State.Warmed39.refl t).alike (fun _ _ q => q), e4.keep rfl (State.Warmed39.refl t).alike (own_ext _), e5, rfl, rfl, rfl⟩
  obtain ⟨v, vm₁, ⟨T', L', k', n'⟩, hw1, X', hS', hgr, ⟨r, units, rfl, htx, hsl, I', E', e1, e2, e3⟩, st⟩ := callSS X hx hown (mvT (s := s.setVm vm) hZ w1) (mvT (s := s.setVm vm) hZ w2) (mvT (s := s.setVm vm) hZ w3) (mvT (s := s.setVm vm) hZ w4) (by decide) hB (g := mkF m pc Ls [(.int x)]) rfl hsize (argsL := [(.int x)]) (rest := []) (lenOf pd_Y rfl) rfl (by show 2 * 0 + 0 ≤ 0; omega) hd (fun vm₁ hv => ⟨rfl, I.keep (U := T.setVm vm₁) (hv.interned_eq.trans X.warmed.interned_eq.symm) (X.warmed.alike.symm.trans hv.alike) (own_ext _), Kp, hc, hs⟩)
  dsimp only [Pt.U, Pt.locs, Pt.cells, Pt.slots] at X' hS' hgr hsl I' E' e1 e2 e3 st
  subst e1 e2 e3
  have hZ' : Z.Warmed39 T'.vm := State.Warmed39.trans (t := s.setVm vm) hZ hS'.1
  obtain ⟨b, r1, r2, r3, r4⟩ := own_sl hZ' hsl htx ht hvs
  exact Go.of (fun t k => st.trans k) (K T' _ r b X' (hS.trans hS' (Nat.le_trans hn0 hgr)) rfl E' hZ' (by rw [hS'.1.alike.findClass]; exact hown) I' r1 r2 r3 r4)
theorem own_ifnn {p : Program} {l : Launch} {e : Env} {R : Room} {s : State} {m : MethodId} {args : Array Value} {below : List Frame} {meth : Method} {c : Code} {T target : State} {locs : List Loc} {cells slots : Nat} (X : Stand p l e R s m args below meth c T locs cells slots) (hx : p.tables.exec = Jvm.exec) {g : JFrame} (hg : g.method = m) {o : Int} {b : Addr} {rest : List Value} {pc0 pc' : Nat} (hpc : g.pc = pc0) (hd : decode c.code g.pc = .ok (.ifnonnull o, 3)) (hs : g.stack = .ref b :: rest) (ho : 0 ≤ (pc0 : Int) + o) (hp : ((pc0 : Int) + o).toNat = pc')
    (hr : Steps p.tables e below (T.setTop { g with pc := pc', stack := rest }) target) : Steps p.tables e below (T.setTop g) target := by
  subst hg hpc hp
  jvm_step X.here [X.here.top, hx, hd, hs, ho]
  exact hr
theorem own_apart {Z : State} {h : Heap} {a b d d' : Addr} {n n' : Nat} {f g : Nat → Int32} {r : Int32} (V : Fld Z h a "java/lang/String" "value" "[B" (.ref d)) (V' : Fld Z h b "java/lang/String" "value" "[B" (.ref d')) (A : AI Z h d .byte n f) (B : AI Z h d' .byte n' g) (hne : ¬ n = n') (q : a = b) : r = 1 := by
  subst q
  obtain ⟨c1, x1, x2, x3, f1, p1, p2, p3, p4, p5, p6, p7⟩ := V
  obtain ⟨c2, y1, y2, y3, f2, q1, q2, q3, q4, q5, q6, q7⟩ := V'
  cases p1.symm.trans q1
  cases p2.symm.trans q2
  cases p7.symm.trans q7
  obtain ⟨cl, A1, A2, -⟩ := A
  obtain ⟨cl', B1, B2, -⟩ := B
  cases A1.1.symm.trans B1.1
  exact absurd (A2.symm.trans B2) hne
theorem own_finW {s t : State} {o : Outcome} {k n k' n' : Nat} (h : ReturnedEndW s o t [] k n) (hk : k ≤ k') (hn : n ≤ n') : ReturnedEndW s o t [] k' n' := ⟨h.1, h.2.1, h.2.2.1, h.2.2.2.mono hk hn⟩
set_option maxRecDepth 65536 in
set_option maxHeartbeats 40000000 in
theorem rm0 (l : Launch) (Z : State) (a0 : Array Value) (hw : ∀ d ∈ tables_1, d.before a0 Z = true) (wS : ∀ a ∈ Bundle.stringAtoms, a.before a0 Z = true) (hN1 : ConstHeldL Z "com/example/gridtally/gridtally/io/TextForms" 220) (hY1 : ConstHeldL Z "com/example/gridtally/gridtally/io/TextForms" 218) (hN2 : ConstHeldL Z "com/example/gridtally/gridtally/io/TextFormsYesOrNoPinLaw" 21) (hY2 : ConstHeldL Z "com/example/gridtally/gridtally/io/TextFormsYesOrNoPinLaw" 13) (z : Int32) (St : Sta Z Z.heap "java/lang/String" "COMPACT_STRINGS" "Z" (.int z)) (hz : ¬ z = 0) (p1 : Int32) :
    MetFree l x (head1 (Jvm.Cond.code x code maxLocals ret :: tables_1) room_1) (fun a U => a = #[(.int p1)] ∧ Z.Warmed39 U.vm ∧ own_IS Z U ∧ Ext Z.heap U.heap) (fun _ _ _ _ _ => True) (fun _ U o U' => o = .returned (some (.int 1)) ∧ ReturnedEndW U o U' [] 8 4160) := by
  refine MetFree.of_bodySF pn_0 hisR ?_
  intro p e s m args below meth c T0 Bd hml hP hK
  obtain ⟨rfl, hZ, I, Kp⟩ := hP
  have e0 : T0.heap = s.heap := by rw [Bd.state]; rfl
  have hv : T0.vm = s.vm := by rw [Bd.state]; rfl
  have X0 : Stand p l e room_1 (s.setVm s.vm) m #[(.int p1)] below meth c T0 [] 0 0 := Stand.of_body Bd
  have I0 : own_IS Z T0 := I.keep (by rw [hv]) (by rw [hv]; exact (State.Warmed39.refl s).alike) (by rw [e0]; exact own_ext _)
  have hx := Bd.exec
  have hby := Bd.bytes
  have hret := Bd.returns
  have hlk := BodyLoose.notSynchronized Bd
  have hown : s.vm.findClass "com/example/gridtally/gridtally/io/TextFormsYesOrNoPinLaw" = some m.cls := findClass_of_methodNamed Bd.named
  have hS0 : s.Since s.vm s.heap.size := ⟨State.Warmed39.refl s, fun j p hj hp => absurd (Array.getElem?_eq_some_iff.mp hp).1 (Nat.not_lt.mpr hj)⟩
  have St := St.ext Kp
  suffices G : Go p e below (fun t o => o = .returned (some (.int 1)) ∧ ReturnedEndW s o t [] 8 4160) T0 (mkF m 0 #[.val (.int p1), .unset, .unset, .unset, .unset, .unset] []) by
    obtain ⟨t, o, h1, h2, h3, h4⟩ := G
    exact ⟨t, o, castTop (ef_0 m p1) h1, h2, h3, h4⟩
  generalize hWW : (fun t o => o = .returned (some (.int 1)) ∧ ReturnedEndW s o t [] 8 4160) = W
  have hWi : ∀ t o, (o = .returned (some (.int 1)) ∧ ReturnedEndW s o t [] 8 4160) → W t o := fun t o q => by rw [← hWW]; exact q
  suffices M : ∀ b : Int32, b = 0 ∨ b = 1 → Go p e below W T0 (mkF m 12 #[.val (.int p1), .val (.int b), .unset, .unset, .unset, .unset] []) by
    show Go p e below W T0 (mkF m 0 #[.val (.int p1), .unset, .unset, .unset, .unset, .unset] [])
    refine Go.of (fun _ k => XS.iloadN X0.here hx rfl (hb hby at_0) rfl k) ?_
    show Go p e below W T0 (mkF m 1 #[.val (.int p1), .unset, .unset, .unset, .unset, .unset] [(.int p1)])
    refine Go.of (fun _ k => XS.iconst X0.here hx rfl (hb hby at_1) k) ?_
    show Go p e below W T0 (mkF m 2 #[.val (.int p1), .unset, .unset, .unset, .unset, .unset] [(.int (1 : Int32)), (.int p1)])
    refine Go.of (fun _ k => XS.iand X0.here hx rfl (hb hby at_2) rfl k) ?_
    show Go p e below W T0 (mkF m 3 #[.val (.int p1), .unset, .unset, .unset, .unset, .unset] [(.int (p1 &&& 1))])
    by_cases c1 : p1 &&& 1 = 0
    · refine Go.of (fun _ k => XS.ifYes X0.here hx rfl (pc0 := 3) (pc' := 10) rfl (hb hby at_3) rfl (Jvm.Free.XT.i0_eq_t c1) (by decide) (by decide) k) ?_
      show Go p e below W T0 (mkF m 10 #[.val (.int p1), .unset, .unset, .unset, .unset, .unset] [])
      refine Go.of (fun _ k => XS.iconst X0.here hx rfl (hb hby at_10) k) ?_
      show Go p e below W T0 (mkF m 11 #[.val (.int p1), .unset, .unset, .unset, .unset, .unset] [(.int (0 : Int32))])
      refine Go.of (fun _ k => XS.istoreN X0.here hx rfl (hb hby at_11) rfl (l' := #[.val (.int p1), .val (.int (0 : Int32)), .unset, .unset, .unset, .unset]) rfl k) ?_
      show Go p e below W T0 (mkF m 12 #[.val (.int p1), .val (.int (0 : Int32)), .unset, .unset, .unset, .unset] [])
      exact M 0 (Or.inl rfl)
    · refine Go.of (fun _ k => XS.ifNo X0.here hx rfl (hb hby at_3) rfl (Jvm.Free.XT.i0_eq_f c1) k) ?_
      show Go p e below W T0 (mkF m 6 #[.val (.int p1), .unset, .unset, .unset, .unset, .unset] [])
      refine Go.of (fun _ k => XS.iconst X0.here hx rfl (hb hby at_6) k) ?_
      show Go p e below W T0 (mkF m 7 #[.val (.int p1), .unset, .unset, .unset, .unset, .unset] [(.int (1 : Int32))])
      refine Go.of (fun _ k => XS.goto X0.here hx rfl (pc0 := 7) (pc' := 11) rfl (hb hby at_7) (by decide) (by decide) k) ?_
      show Go p e below W T0 (mkF m 11 #[.val (.int p1), .unset, .unset, .unset, .unset, .unset] [(.int (1 : Int32))])
      refine Go.of (fun _ k => XS.istoreN X0.here hx rfl (hb hby at_11) rfl (l' := #[.val (.int p1), .val (.int (1 : Int32)), .unset, .unset, .unset, .unset]) rfl k) ?_
      show Go p e below W T0 (mkF m 12 #[.val (.int p1), .val (.int (1 : Int32)), .unset, .unset, .unset, .unset] [])
      exact M 1 (Or.inr rfl)
  intro b hb2
  rcases hb2 with rfl | rfl
  · show Go p e below W T0 (mkF m 12 #[.val (.int p1), .val (.int (0 : Int32)), .unset, .unset, .unset, .unset] [])
    refine Go.of (fun _ k => XS.iloadN X0.here hx rfl (hb hby at_12) rfl k) ?_
    show Go p e below W T0 (mkF m 13 #[.val (.int p1), .val (.int (0 : Int32)), .unset, .unset, .unset, .unset] [(.int (0 : Int32))])
    refine Go.callY (vm := s.vm) X0 hx hZ hown (hw _ (List.mem_of_getElem? (i := 0) rfl)) (hw _ (List.mem_of_getElem? (i := 1) rfl)) (hw _ (List.mem_of_getElem? (i := 2) rfl)) (hw _ (List.mem_of_getElem? (i := 3) rfl)) (rmY l Z a0 hw wS hN1 hY1 (0 : Int32)) I0 e0 Kp hS0 (Nat.le_refl _) (by decide) (by decide) (by decide) (by decide) (by rw [hml]; rfl) (hb hby at_13) (by decide) (vs := [110, 111]) (by decide) ?_
    intro T1 h1 u du X1 hS1 e1 g1 hZ1 ho1 I1 E_u C_u V_u A_u
    have St := St.ext g1
    have Kp := own_extT Kp g1
    show Go p e below W T1 (mkF m 16 #[.val (.int p1), .val (.int (0 : Int32)), .unset, .unset, .unset, .unset] [(.ref u)])
    refine Go.of (fun _ k => XS.astoreN X1.here hx rfl (hb hby at_16) rfl rfl (l' := #[.val (.int p1), .val (.int (0 : Int32)), .val (.ref u), .unset, .unset, .unset]) rfl k) ?_
    show Go p e below W T1 (mkF m 17 #[.val (.int p1), .val (.int (0 : Int32)), .val (.ref u), .unset, .unset, .unset] [])
    refine Go.of (fun _ k => XS.iloadN X1.here hx rfl (hb hby at_17) rfl k) ?_
    show Go p e below W T1 (mkF m 18 #[.val (.int p1), .val (.int (0 : Int32)), .val (.ref u), .unset, .unset, .unset] [(.int (0 : Int32))])
    refine Go.of (fun _ k => XS.ifNo X1.here hx rfl (hb hby at_18) rfl (Jvm.Free.XT.i0_ne_f rfl) k) ?_
    show Go p e below W T1 (mkF m 21 #[.val (.int p1), .val (.int (0 : Int32)), .val (.ref u), .unset, .unset, .unset] [])
    refine Go.of (fun _ k => XS.iconst X1.here hx rfl (hb hby at_21) k) ?_
    show Go p e below W T1 (mkF m 22 #[.val (.int p1), .val (.int (0 : Int32)), .val (.ref u), .unset, .unset, .unset] [(.int (1 : Int32))])
    refine Go.of (fun _ k => XS.goto X1.here hx rfl (pc0 := 22) (pc' := 26) rfl (hb hby at_22) (by decide) (by decide) k) ?_
    show Go p e below W T1 (mkF m 26 #[.val (.int p1), .val (.int (0 : Int32)), .val (.ref u), .unset, .unset, .unset] [(.int (1 : Int32))])
    refine Go.callY (vm := T1.vm) X1 hx hZ1 ho1 (hw _ (List.mem_of_getElem? (i := 0) rfl)) (hw _ (List.mem_of_getElem? (i := 1) rfl)) (hw _ (List.mem_of_getElem? (i := 2) rfl)) (hw _ (List.mem_of_getElem? (i := 3) rfl)) (rmY l Z a0 hw wS hN1 hY1 (1 : Int32)) I1 e1 Kp hS1 (Nat.le_refl _) (by decide) (by decide) (by decide) (by decide) (by rw [hml]; rfl) (hb hby at_26) (by decide) (vs := [121, 101, 115]) (by decide) ?_
    intro T2 h2 v dv X2 hS2 e2 g2 hZ2 ho2 I2 E_v C_v V_v A_v
    have E_u := E_u.ext g2
    have C_u := C_u.ext g2
    have V_u := V_u.ext g2
    have A_u := A_u.ext g2
    have St := St.ext g2
    have Kp := own_extT Kp g2
    show Go p e below W T2 (mkF m 29 #[.val (.int p1), .val (.int (0 : Int32)), .val (.ref u), .unset, .unset, .unset] [(.ref v)])
    refine Go.of (fun _ k => XS.astoreN X2.here hx rfl (hb hby at_29) rfl rfl (l' := #[.val (.int p1), .val (.int (0 : Int32)), .val (.ref u), .val (.ref v), .unset, .unset]) rfl k) ?_
    show Go p e below W T2 (mkF m 30 #[.val (.int p1), .val (.int (0 : Int32)), .val (.ref u), .val (.ref v), .unset, .unset] [])
    refine Go.of (fun _ k => XS.aloadN X2.here hx rfl (hb hby at_30) rfl rfl k) ?_
    show Go p e below W T2 (mkF m 31 #[.val (.int p1), .val (.int (0 : Int32)), .val (.ref u), .val (.ref v), .unset, .unset] [(.ref u)])
    refine Go.of (fun _ k => XS.ifnullNo X2.here hx rfl (hb hby at_31) rfl k) ?_
    show Go p e below W T2 (mkF m 34 #[.val (.int p1), .val (.int (0 : Int32)), .val (.ref u), .val (.ref v), .unset, .unset] [])
    refine Go.of (fun _ k => XS.aloadN X2.here hx rfl (hb hby at_34) rfl rfl k) ?_
    show Go p e below W T2 (mkF m 35 #[.val (.int p1), .val (.int (0 : Int32)), .val (.ref u), .val (.ref v), .unset, .unset] [(.ref v)])
    refine Go.of (fun _ k => own_ifnn X2 hx rfl (pc0 := 35) (pc' := 40) rfl (hb hby at_35) rfl (by decide) (by decide) k) ?_
    show Go p e below W T2 (mkF m 40 #[.val (.int p1), .val (.int (0 : Int32)), .val (.ref u), .val (.ref v), .unset, .unset] [])
    refine Go.of (fun _ k => XS.iloadN X2.here hx rfl (hb hby at_40) rfl k) ?_
    show Go p e below W T2 (mkF m 41 #[.val (.int p1), .val (.int (0 : Int32)), .val (.ref u), .val (.ref v), .unset, .unset] [(.int (0 : Int32))])
    refine Go.of (fun _ k => XS.ifYes X2.here hx rfl (pc0 := 41) (pc' := 63) rfl (hb hby at_41) rfl (Jvm.Free.XT.i0_eq_t rfl) (by decide) (by decide) k) ?_
    show Go p e below W T2 (mkF m 63 #[.val (.int p1), .val (.int (0 : Int32)), .val (.ref u), .val (.ref v), .unset, .unset] [])
    refine Go.of (fun _ k => XS.aloadN X2.here hx rfl (hb hby at_63) rfl rfl k) ?_
    show Go p e below W T2 (mkF m 64 #[.val (.int p1), .val (.int (0 : Int32)), .val (.ref u), .val (.ref v), .unset, .unset] [(.ref u)])
    refine Go.ldcS (vm := T2.vm) X2 hx hZ2 ho2 (hw _ (List.mem_of_getElem? (i := 13) rfl)) wS hN2 I2 e2 Kp hS2 (Nat.le_refl _) (by decide) (vs := [110, 111]) (by decide) (hb hby at_64) (n := 12) (by decide) (by decide) (by decide) (by decide) ?_
    intro T3 h3 y dy _ X3 hS3 e3 g3 hZ3 ho3 I3 _ _ E_y C_y V_y A_y
    have E_u := E_u.ext g3
    have C_u := C_u.ext g3
    have V_u := V_u.ext g3
    have A_u := A_u.ext g3
    have E_v := E_v.ext g3
    have C_v := C_v.ext g3
    have V_v := V_v.ext g3
    have A_v := A_v.ext g3
    have St := St.ext g3
    have Kp := own_extT Kp g3
    show Go p e below W T3 (mkF m 66 #[.val (.int p1), .val (.int (0 : Int32)), .val (.ref u), .val (.ref v), .unset, .unset] [(.ref y), (.ref u)])
    refine Go.callV X3 hx hZ3 ho3 (hw _ (List.mem_of_getElem? (i := 14) rfl)) (hw _ (List.mem_of_getElem? (i := 15) rfl)) (hw _ (List.mem_of_getElem? (i := 17) rfl)) (hw _ (List.mem_of_getElem? (i := 16) rfl)) (hw _ (List.mem_of_getElem? (i := 5) rfl)) (hw _ (List.mem_of_getElem? (i := 18) rfl)) (by decide) e3 E_u (rmS l Z a0 hw u y du dy (1 : Int32) z _ E_y C_u C_y V_u V_y St hz (by decide) (fun _ => rfl) (rmLe l Z du dy _ _ _ A_u A_y)) (V := 0) (by decide) (by decide) (by decide) (by decide) (by rw [hml]; rfl) (argsL := [(.ref y)]) (rest := []) rfl (lenOf pd_S rfl) rfl (Nat.le_of_ble_eq_true rfl) (hb hby at_66) ?_
    rintro T4 vv LL ⟨rfl, rfl, eq4⟩ X4
    have e4 := eq4
    have I4 : own_IS Z T4 := I3.keep (X4.warmed.interned_eq.trans X3.warmed.interned_eq.symm) (X3.warmed.alike.symm.trans X4.warmed.alike) (by rw [e4, e3]; exact own_ext _)
    show Go p e below W T4 (mkF m 69 #[.val (.int p1), .val (.int (0 : Int32)), .val (.ref u), .val (.ref v), .unset, .unset] [(.int (1 : Int32))])
    refine Go.of (fun _ k => XS.istore X4.here hx rfl (hb hby at_69) rfl (l' := #[.val (.int p1), .val (.int (0 : Int32)), .val (.ref u), .val (.ref v), .val (.int (1 : Int32)), .unset]) rfl k) ?_
    show Go p e below W T4 (mkF m 71 #[.val (.int p1), .val (.int (0 : Int32)), .val (.ref u), .val (.ref v), .val (.int (1 : Int32)), .unset] [])
    refine Go.of (fun _ k => XS.aloadN X4.here hx rfl (hb hby at_71) rfl rfl k) ?_
    show Go p e below W T4 (mkF m 72 #[.val (.int p1), .val (.int (0 : Int32)), .val (.ref u), .val (.ref v), .val (.int (1 : Int32)), .unset] [(.ref v)])
    refine Go.ldcS (vm := T3.vm) X4 hx hZ3 ho3 (hw _ (List.mem_of_getElem? (i := 19) rfl)) wS hY2 I4 e4 Kp hS3 (Nat.le_refl _) (by decide) (vs := [121, 101, 115]) (by decide) (hb hby at_72) (n := 12) (by decide) (by decide) (by decide) (by decide) ?_
    intro T5 h5 t dt _ X5 hS5 e5 g5 hZ5 ho5 I5 _ _ E_t C_t V_t A_t
    have E_u := E_u.ext g5
    have C_u := C_u.ext g5
    have V_u := V_u.ext g5
    have A_u := A_u.ext g5
    have E_v := E_v.ext g5
    have C_v := C_v.ext g5
    have V_v := V_v.ext g5
    have A_v := A_v.ext g5
    have E_y := E_y.ext g5
    have C_y := C_y.ext g5
    have V_y := V_y.ext g5
    have A_y := A_y.ext g5
    have St := St.ext g5
    have Kp := own_extT Kp g5
    show Go p e below W T5 (mkF m 74 #[.val (.int p1), .val (.int (0 : Int32)), .val (.ref u), .val (.ref v), .val (.int (1 : Int32)), .unset] [(.ref t), (.ref v)])
    refine Go.callV X5 hx hZ5 ho5 (hw _ (List.mem_of_getElem? (i := 14) rfl)) (hw _ (List.mem_of_getElem? (i := 15) rfl)) (hw _ (List.mem_of_getElem? (i := 17) rfl)) (hw _ (List.mem_of_getElem? (i := 16) rfl)) (hw _ (List.mem_of_getElem? (i := 5) rfl)) (hw _ (List.mem_of_getElem? (i := 18) rfl)) (by decide) e5 E_v (rmS l Z a0 hw v t dv dt (1 : Int32) z _ E_t C_v C_t V_v V_t St hz (by decide) (fun _ => rfl) (rmLe l Z dv dt _ _ _ A_v A_t)) (V := 0) (by decide) (by decide) (by decide) (by decide) (by rw [hml]; rfl) (argsL := [(.ref t)]) (rest := []) rfl (lenOf pd_S rfl) rfl (Nat.le_of_ble_eq_true rfl) (hb hby at_74) ?_
    rintro T6 vv LL ⟨rfl, rfl, eq6⟩ X6
    have e6 := eq6
    have I6 : own_IS Z T6 := I5.keep (X6.warmed.interned_eq.trans X5.warmed.interned_eq.symm) (X5.warmed.alike.symm.trans X6.warmed.alike) (by rw [e6, e5]; exact own_ext _)
    show Go p e below W T6 (mkF m 77 #[.val (.int p1), .val (.int (0 : Int32)), .val (.ref u), .val (.ref v), .val (.int (1 : Int32)), .unset] [(.int (1 : Int32))])
    refine Go.of (fun _ k => XS.istore X6.here hx rfl (hb hby at_77) rfl (l' := #[.val (.int p1), .val (.int (0 : Int32)), .val (.ref u), .val (.ref v), .val (.int (1 : Int32)), .val (.int (1 : Int32))]) rfl k) ?_
    show Go p e below W T6 (mkF m 79 #[.val (.int p1), .val (.int (0 : Int32)), .val (.ref u), .val (.ref v), .val (.int (1 : Int32)), .val (.int (1 : Int32))] [])
    refine Go.of (fun _ k => XS.iload X6.here hx rfl (hb hby at_79) rfl k) ?_
    show Go p e below W T6 (mkF m 81 #[.val (.int p1), .val (.int (0 : Int32)), .val (.ref u), .val (.ref v), .val (.int (1 : Int32)), .val (.int (1 : Int32))] [(.int (1 : Int32))])
    refine Go.of (fun _ k => XS.ifNo X6.here hx rfl (hb hby at_81) rfl (Jvm.Free.XT.i0_eq_f (by decide)) k) ?_
    show Go p e below W T6 (mkF m 84 #[.val (.int p1), .val (.int (0 : Int32)), .val (.ref u), .val (.ref v), .val (.int (1 : Int32)), .val (.int (1 : Int32))] [])
    refine Go.of (fun _ k => XS.iload X6.here hx rfl (hb hby at_84) rfl k) ?_
    show Go p e below W T6 (mkF m 86 #[.val (.int p1), .val (.int (0 : Int32)), .val (.ref u), .val (.ref v), .val (.int (1 : Int32)), .val (.int (1 : Int32))] [(.int (1 : Int32))])
    refine Go.of (fun _ k => XS.ifNo X6.here hx rfl (hb hby at_86) rfl (Jvm.Free.XT.i0_eq_f (by decide)) k) ?_
    show Go p e below W T6 (mkF m 89 #[.val (.int p1), .val (.int (0 : Int32)), .val (.ref u), .val (.ref v), .val (.int (1 : Int32)), .val (.int (1 : Int32))] [])
    refine Go.of (fun _ k => XS.aloadN X6.here hx rfl (hb hby at_89) rfl rfl k) ?_
    show Go p e below W T6 (mkF m 90 #[.val (.int p1), .val (.int (0 : Int32)), .val (.ref u), .val (.ref v), .val (.int (1 : Int32)), .val (.int (1 : Int32))] [(.ref u)])
    refine Go.of (fun _ k => XS.aloadN X6.here hx rfl (hb hby at_90) rfl rfl k) ?_
    show Go p e below W T6 (mkF m 91 #[.val (.int p1), .val (.int (0 : Int32)), .val (.ref u), .val (.ref v), .val (.int (1 : Int32)), .val (.int (1 : Int32))] [(.ref v), (.ref u)])
    refine Go.callV X6 hx hZ5 ho5 (hw _ (List.mem_of_getElem? (i := 14) rfl)) (hw _ (List.mem_of_getElem? (i := 15) rfl)) (hw _ (List.mem_of_getElem? (i := 17) rfl)) (hw _ (List.mem_of_getElem? (i := 16) rfl)) (hw _ (List.mem_of_getElem? (i := 5) rfl)) (hw _ (List.mem_of_getElem? (i := 18) rfl)) (by decide) e6 E_u (rmS l Z a0 hw u v du dv (0 : Int32) z _ E_v C_u C_v V_u V_v St hz (by decide) (fun q => own_apart V_u V_v A_u A_v (by decide) q) (rmLn l Z du dv _ _ _ _ _ (by decide) A_u A_v)) (V := 0) (by decide) (by decide) (by decide) (by decide) (by rw [hml]; rfl) (argsL := [(.ref v)]) (rest := []) rfl (lenOf pd_S rfl) rfl (Nat.le_of_ble_eq_true rfl) (hb hby at_91) ?_
    rintro T7 vv LL ⟨rfl, rfl, eq7⟩ X7
    have e7 := eq7
    have I7 : own_IS Z T7 := I6.keep (X7.warmed.interned_eq.trans X6.warmed.interned_eq.symm) (X6.warmed.alike.symm.trans X7.warmed.alike) (by rw [e7, e6]; exact own_ext _)
    show Go p e below W T7 (mkF m 94 #[.val (.int p1), .val (.int (0 : Int32)), .val (.ref u), .val (.ref v), .val (.int (1 : Int32)), .val (.int (1 : Int32))] [(.int (0 : Int32))])
    refine Go.of (fun _ k => XS.ifNo X7.here hx rfl (hb hby at_94) rfl (Jvm.Free.XT.i0_ne_f rfl) k) ?_
    show Go p e below W T7 (mkF m 97 #[.val (.int p1), .val (.int (0 : Int32)), .val (.ref u), .val (.ref v), .val (.int (1 : Int32)), .val (.int (1 : Int32))] [])
    refine Go.of (fun _ k => XS.iconst X7.here hx rfl (hb hby at_97) k) ?_
    show Go p e below W T7 (mkF m 98 #[.val (.int p1), .val (.int (0 : Int32)), .val (.ref u), .val (.ref v), .val (.int (1 : Int32)), .val (.int (1 : Int32))] [(.int (1 : Int32))])
    refine Go.of (fun _ k => XS.goto X7.here hx rfl (pc0 := 98) (pc' := 102) rfl (hb hby at_98) (by decide) (by decide) k) ?_
    show Go p e below W T7 (mkF m 102 #[.val (.int p1), .val (.int (0 : Int32)), .val (.ref u), .val (.ref v), .val (.int (1 : Int32)), .val (.int (1 : Int32))] [(.int (1 : Int32))])
    exact Go.retN X7 hx hret (Or.inl rfl) (hb hby at_102) hlk rfl (fun t ht fe => hWi _ _ ⟨rfl, own_finW (own_fin hS5 (by rw [ht, e7]; exact Nat.le_refl _) fe) (by decide) (by decide)⟩)
  · show Go p e below W T0 (mkF m 12 #[.val (.int p1), .val (.int (1 : Int32)), .unset, .unset, .unset, .unset] [])
    refine Go.of (fun _ k => XS.iloadN X0.here hx rfl (hb hby at_12) rfl k) ?_
    show Go p e below W T0 (mkF m 13 #[.val (.int p1), .val (.int (1 : Int32)), .unset, .unset, .unset, .unset] [(.int (1 : Int32))])
    refine Go.callY (vm := s.vm) X0 hx hZ hown (hw _ (List.mem_of_getElem? (i := 0) rfl)) (hw _ (List.mem_of_getElem? (i := 1) rfl)) (hw _ (List.mem_of_getElem? (i := 2) rfl)) (hw _ (List.mem_of_getElem? (i := 3) rfl)) (rmY l Z a0 hw wS hN1 hY1 (1 : Int32)) I0 e0 Kp hS0 (Nat.le_refl _) (by decide) (by decide) (by decide) (by decide) (by rw [hml]; rfl) (hb hby at_13) (by decide) (vs := [121, 101, 115]) (by decide) ?_
    intro T1 h1 u du X1 hS1 e1 g1 hZ1 ho1 I1 E_u C_u V_u A_u
    have St := St.ext g1
    have Kp := own_extT Kp g1
    show Go p e below W T1 (mkF m 16 #[.val (.int p1), .val (.int (1 : Int32)), .unset, .unset, .unset, .unset] [(.ref u)])
    refine Go.of (fun _ k => XS.astoreN X1.here hx rfl (hb hby at_16) rfl rfl (l' := #[.val (.int p1), .val (.int (1 : Int32)), .val (.ref u), .unset, .unset, .unset]) rfl k) ?_
    show Go p e below W T1 (mkF m 17 #[.val (.int p1), .val (.int (1 : Int32)), .val (.ref u), .unset, .unset, .unset] [])
    refine Go.of (fun _ k => XS.iloadN X1.here hx rfl (hb hby at_17) rfl k) ?_
    show Go p e below W T1 (mkF m 18 #[.val (.int p1), .val (.int (1 : Int32)), .val (.ref u), .unset, .unset, .unset] [(.int (1 : Int32))])
    refine Go.of (fun _ k => XS.ifYes X1.here hx rfl (pc0 := 18) (pc' := 25) rfl (hb hby at_18) rfl (Jvm.Free.XT.i0_ne_t (by decide)) (by decide) (by decide) k) ?_
    show Go p e below W T1 (mkF m 25 #[.val (.int p1), .val (.int (1 : Int32)), .val (.ref u), .unset, .unset, .unset] [])
    refine Go.of (fun _ k => XS.iconst X1.here hx rfl (hb hby at_25) k) ?_
    show Go p e below W T1 (mkF m 26 #[.val (.int p1), .val (.int (1 : Int32)), .val (.ref u), .unset, .unset, .unset] [(.int (0 : Int32))])
    refine Go.callY (vm := T1.vm) X1 hx hZ1 ho1 (hw _ (List.mem_of_getElem? (i := 0) rfl)) (hw _ (List.mem_of_getElem? (i := 1) rfl)) (hw _ (List.mem_of_getElem? (i := 2) rfl)) (hw _ (List.mem_of_getElem? (i := 3) rfl)) (rmY l Z a0 hw wS hN1 hY1 (0 : Int32)) I1 e1 Kp hS1 (Nat.le_refl _) (by decide) (by decide) (by decide) (by decide) (by rw [hml]; rfl) (hb hby at_26) (by decide) (vs := [110, 111]) (by decide) ?_
    intro T2 h2 v dv X2 hS2 e2 g2 hZ2 ho2 I2 E_v C_v V_v A_v
    have E_u := E_u.ext g2
    have C_u := C_u.ext g2
    have V_u := V_u.ext g2
    have A_u := A_u.ext g2
    have St := St.ext g2
    have Kp := own_extT Kp g2
    show Go p e below W T2 (mkF m 29 #[.val (.int p1), .val (.int (1 : Int32)), .val (.ref u), .unset, .unset, .unset] [(.ref v)])
    refine Go.of (fun _ k => XS.astoreN X2.here hx rfl (hb hby at_29) rfl rfl (l' := #[.val (.int p1), .val (.int (1 : Int32)), .val (.ref u), .val (.ref v), .unset, .unset]) rfl k) ?_
    show Go p e below W T2 (mkF m 30 #[.val (.int p1), .val (.int (1 : Int32)), .val (.ref u), .val (.ref v), .unset, .unset] [])
    refine Go.of (fun _ k => XS.aloadN X2.here hx rfl (hb hby at_30) rfl rfl k) ?_
    show Go p e below W T2 (mkF m 31 #[.val (.int p1), .val (.int (1 : Int32)), .val (.ref u), .val (.ref v), .unset, .unset] [(.ref u)])
    refine Go.of (fun _ k => XS.ifnullNo X2.here hx rfl (hb hby at_31) rfl k) ?_
    show Go p e below W T2 (mkF m 34 #[.val (.int p1), .val (.int (1 : Int32)), .val (.ref u), .val (.ref v), .unset, .unset] [])
    refine Go.of (fun _ k => XS.aloadN X2.here hx rfl (hb hby at_34) rfl rfl k) ?_
    show Go p e below W T2 (mkF m 35 #[.val (.int p1), .val (.int (1 : Int32)), .val (.ref u), .val (.ref v), .unset, .unset] [(.ref v)])
    refine Go.of (fun _ k => own_ifnn X2 hx rfl (pc0 := 35) (pc' := 40) rfl (hb hby at_35) rfl (by decide) (by decide) k) ?_
    show Go p e below W T2 (mkF m 40 #[.val (.int p1), .val (.int (1 : Int32)), .val (.ref u), .val (.ref v), .unset, .unset] [])
    refine Go.of (fun _ k => XS.iloadN X2.here hx rfl (hb hby at_40) rfl k) ?_
    show Go p e below W T2 (mkF m 41 #[.val (.int p1), .val (.int (1 : Int32)), .val (.ref u), .val (.ref v), .unset, .unset] [(.int (1 : Int32))])
    refine Go.of (fun _ k => XS.ifNo X2.here hx rfl (hb hby at_41) rfl (Jvm.Free.XT.i0_eq_f (by decide)) k) ?_
    show Go p e below W T2 (mkF m 44 #[.val (.int p1), .val (.int (1 : Int32)), .val (.ref u), .val (.ref v), .unset, .unset] [])
    refine Go.of (fun _ k => XS.aloadN X2.here hx rfl (hb hby at_44) rfl rfl k) ?_
    show Go p e below W T2 (mkF m 45 #[.val (.int p1), .val (.int (1 : Int32)), .val (.ref u), .val (.ref v), .unset, .unset] [(.ref u)])
    refine Go.ldcS (vm := T2.vm) X2 hx hZ2 ho2 (hw _ (List.mem_of_getElem? (i := 19) rfl)) wS hY2 I2 e2 Kp hS2 (Nat.le_refl _) (by decide) (vs := [121, 101, 115]) (by decide) (hb hby at_45) (n := 12) (by decide) (by decide) (by decide) (by decide) ?_
    intro T3 h3 y dy _ X3 hS3 e3 g3 hZ3 ho3 I3 _ _ E_y C_y V_y A_y
    have E_u := E_u.ext g3
    have C_u := C_u.ext g3
    have V_u := V_u.ext g3
    have A_u := A_u.ext g3
    have E_v := E_v.ext g3
    have C_v := C_v.ext g3
    have V_v := V_v.ext g3
    have A_v := A_v.ext g3
    have St := St.ext g3
    have Kp := own_extT Kp g3
    show Go p e below W T3 (mkF m 47 #[.val (.int p1), .val (.int (1 : Int32)), .val (.ref u), .val (.ref v), .unset, .unset] [(.ref y), (.ref u)])
    refine Go.callV X3 hx hZ3 ho3 (hw _ (List.mem_of_getElem? (i := 14) rfl)) (hw _ (List.mem_of_getElem? (i := 15) rfl)) (hw _ (List.mem_of_getElem? (i := 17) rfl)) (hw _ (List.mem_of_getElem? (i := 16) rfl)) (hw _ (List.mem_of_getElem? (i := 5) rfl)) (hw _ (List.mem_of_getElem? (i := 18) rfl)) (by decide) e3 E_u (rmS l Z a0 hw u y du dy (1 : Int32) z _ E_y C_u C_y V_u V_y St hz (by decide) (fun _ => rfl) (rmLe l Z du dy _ _ _ A_u A_y)) (V := 0) (by decide) (by decide) (by decide) (by decide) (by rw [hml]; rfl) (argsL := [(.ref y)]) (rest := []) rfl (lenOf pd_S rfl) rfl (Nat.le_of_ble_eq_true rfl) (hb hby at_47) ?_
    rintro T4 vv LL ⟨rfl, rfl, eq4⟩ X4
    have e4 := eq4
    have I4 : own_IS Z T4 := I3.keep (X4.warmed.interned_eq.trans X3.warmed.interned_eq.symm) (X3.warmed.alike.symm.trans X4.warmed.alike) (by rw [e4, e3]; exact own_ext _)
    show Go p e below W T4 (mkF m 50 #[.val (.int p1), .val (.int (1 : Int32)), .val (.ref u), .val (.ref v), .unset, .unset] [(.int (1 : Int32))])
    refine Go.of (fun _ k => XS.istore X4.here hx rfl (hb hby at_50) rfl (l' := #[.val (.int p1), .val (.int (1 : Int32)), .val (.ref u), .val (.ref v), .val (.int (1 : Int32)), .unset]) rfl k) ?_
    show Go p e below W T4 (mkF m 52 #[.val (.int p1), .val (.int (1 : Int32)), .val (.ref u), .val (.ref v), .val (.int (1 : Int32)), .unset] [])
    refine Go.of (fun _ k => XS.aloadN X4.here hx rfl (hb hby at_52) rfl rfl k) ?_
    show Go p e below W T4 (mkF m 53 #[.val (.int p1), .val (.int (1 : Int32)), .val (.ref u), .val (.ref v), .val (.int (1 : Int32)), .unset] [(.ref v)])
    refine Go.ldcS (vm := T3.vm) X4 hx hZ3 ho3 (hw _ (List.mem_of_getElem? (i := 13) rfl)) wS hN2 I4 e4 Kp hS3 (Nat.le_refl _) (by decide) (vs := [110, 111]) (by decide) (hb hby at_53) (n := 12) (by decide) (by decide) (by decide) (by decide) ?_
    intro T5 h5 t dt _ X5 hS5 e5 g5 hZ5 ho5 I5 _ _ E_t C_t V_t A_t
    have E_u := E_u.ext g5
    have C_u := C_u.ext g5
    have V_u := V_u.ext g5
    have A_u := A_u.ext g5
    have E_v := E_v.ext g5
    have C_v := C_v.ext g5
    have V_v := V_v.ext g5
    have A_v := A_v.ext g5
    have E_y := E_y.ext g5
    have C_y := C_y.ext g5
    have V_y := V_y.ext g5
    have A_y := A_y.ext g5
    have St := St.ext g5
    have Kp := own_extT Kp g5
    show Go p e below W T5 (mkF m 55 #[.val (.int p1), .val (.int (1 : Int32)), .val (.ref u), .val (.ref v), .val (.int (1 : Int32)), .unset] [(.ref t), (.ref v)])
    refine Go.callV X5 hx hZ5 ho5 (hw _ (List.mem_of_getElem? (i := 14) rfl)) (hw _ (List.mem_of_getElem? (i := 15) rfl)) (hw _ (List.mem_of_getElem? (i := 17) rfl)) (hw _ (List.mem_of_getElem? (i := 16) rfl)) (hw _ (List.mem_of_getElem? (i := 5) rfl)) (hw _ (List.mem_of_getElem? (i := 18) rfl)) (by decide) e5 E_v (rmS l Z a0 hw v t dv dt (1 : Int32) z _ E_t C_v C_t V_v V_t St hz (by decide) (fun _ => rfl) (rmLe l Z dv dt _ _ _ A_v A_t)) (V := 0) (by decide) (by decide) (by decide) (by decide) (by rw [hml]; rfl) (argsL := [(.ref t)]) (rest := []) rfl (lenOf pd_S rfl) rfl (Nat.le_of_ble_eq_true rfl) (hb hby at_55) ?_
    rintro T6 vv LL ⟨rfl, rfl, eq6⟩ X6
    have e6 := eq6
    have I6 : own_IS Z T6 := I5.keep (X6.warmed.interned_eq.trans X5.warmed.interned_eq.symm) (X5.warmed.alike.symm.trans X6.warmed.alike) (by rw [e6, e5]; exact own_ext _)
    show Go p e below W T6 (mkF m 58 #[.val (.int p1), .val (.int (1 : Int32)), .val (.ref u), .val (.ref v), .val (.int (1 : Int32)), .unset] [(.int (1 : Int32))])
    refine Go.of (fun _ k => XS.istore X6.here hx rfl (hb hby at_58) rfl (l' := #[.val (.int p1), .val (.int (1 : Int32)), .val (.ref u), .val (.ref v), .val (.int (1 : Int32)), .val (.int (1 : Int32))]) rfl k) ?_
    show Go p e below W T6 (mkF m 60 #[.val (.int p1), .val (.int (1 : Int32)), .val (.ref u), .val (.ref v), .val (.int (1 : Int32)), .val (.int (1 : Int32))] [])
    refine Go.of (fun _ k => XS.goto X6.here hx rfl (pc0 := 60) (pc' := 79) rfl (hb hby at_60) (by decide) (by decide) k) ?_
    show Go p e below W T6 (mkF m 79 #[.val (.int p1), .val (.int (1 : Int32)), .val (.ref u), .val (.ref v), .val (.int (1 : Int32)), .val (.int (1 : Int32))] [])
    refine Go.of (fun _ k => XS.iload X6.here hx rfl (hb hby at_79) rfl k) ?_
    show Go p e below W T6 (mkF m 81 #[.val (.int p1), .val (.int (1 : Int32)), .val (.ref u), .val (.ref v), .val (.int (1 : Int32)), .val (.int (1 : Int32))] [(.int (1 : Int32))])
    refine Go.of (fun _ k => XS.ifNo X6.here hx rfl (hb hby at_81) rfl (Jvm.Free.XT.i0_eq_f (by decide)) k) ?_
    show Go p e below W T6 (mkF m 84 #[.val (.int p1), .val (.int (1 : Int32)), .val (.ref u), .val (.ref v), .val (.int (1 : Int32)), .val (.int (1 : Int32))] [])
    refine Go.of (fun _ k => XS.iload X6.here hx rfl (hb hby at_84) rfl k) ?_
    show Go p e below W T6 (mkF m 86 #[.val (.int p1), .val (.int (1 : Int32)), .val (.ref u), .val (.ref v), .val (.int (1 : Int32)), .val (.int (1 : Int32))] [(.int (1 : Int32))])
    refine Go.of (fun _ k => XS.ifNo X6.here hx rfl (hb hby at_86) rfl (Jvm.Free.XT.i0_eq_f (by decide)) k) ?_
    show Go p e below W T6 (mkF m 89 #[.val (.int p1), .val (.int (1 : Int32)), .val (.ref u), .val (.ref v), .val (.int (1 : Int32)), .val (.int (1 : Int32))] [])
    refine Go.of (fun _ k => XS.aloadN X6.here hx rfl (hb hby at_89) rfl rfl k) ?_
    show Go p e below W T6 (mkF m 90 #[.val (.int p1), .val (.int (1 : Int32)), .val (.ref u), .val (.ref v), .val (.int (1 : Int32)), .val (.int (1 : Int32))] [(.ref u)])
    refine Go.of (fun _ k => XS.aloadN X6.here hx rfl (hb hby at_90) rfl rfl k) ?_
    show Go p e below W T6 (mkF m 91 #[.val (.int p1), .val (.int (1 : Int32)), .val (.ref u), .val (.ref v), .val (.int (1 : Int32)), .val (.int (1 : Int32))] [(.ref v), (.ref u)])
    refine Go.callV X6 hx hZ5 ho5 (hw _ (List.mem_of_getElem? (i := 14) rfl)) (hw _ (List.mem_of_getElem? (i := 15) rfl)) (hw _ (List.mem_of_getElem? (i := 17) rfl)) (hw _ (List.mem_of_getElem? (i := 16) rfl)) (hw _ (List.mem_of_getElem? (i := 5) rfl)) (hw _ (List.mem_of_getElem? (i := 18) rfl)) (by decide) e6 E_u (rmS l Z a0 hw u v du dv (0 : Int32) z _ E_v C_u C_v V_u V_v St hz (by decide) (fun q => own_apart V_u V_v A_u A_v (by decide) q) (rmLn l Z du dv _ _ _ _ _ (by decide) A_u A_v)) (V := 0) (by decide) (by decide) (by decide) (by decide) (by rw [hml]; rfl) (argsL := [(.ref v)]) (rest := []) rfl (lenOf pd_S rfl) rfl (Nat.le_of_ble_eq_true rfl) (hb hby at_91) ?_
    rintro T7 vv LL ⟨rfl, rfl, eq7⟩ X7
    have e7 := eq7
    have I7 : own_IS Z T7 := I6.keep (X7.warmed.interned_eq.trans X6.warmed.interned_eq.symm) (X6.warmed.alike.symm.trans X7.warmed.alike) (by rw [e7, e6]; exact own_ext _)
    show Go p e below W T7 (mkF m 94 #[.val (.int p1), .val (.int (1 : Int32)), .val (.ref u), .val (.ref v), .val (.int (1 : Int32)), .val (.int (1 : Int32))] [(.int (0 : Int32))])
    refine Go.of (fun _ k => XS.ifNo X7.here hx rfl (hb hby at_94) rfl (Jvm.Free.XT.i0_ne_f rfl) k) ?_
    show Go p e below W T7 (mkF m 97 #[.val (.int p1), .val (.int (1 : Int32)), .val (.ref u), .val (.ref v), .val (.int (1 : Int32)), .val (.int (1 : Int32))] [])
    refine Go.of (fun _ k => XS.iconst X7.here hx rfl (hb hby at_97) k) ?_
    show Go p e below W T7 (mkF m 98 #[.val (.int p1), .val (.int (1 : Int32)), .val (.ref u), .val (.ref v), .val (.int (1 : Int32)), .val (.int (1 : Int32))] [(.int (1 : Int32))])
    refine Go.of (fun _ k => XS.goto X7.here hx rfl (pc0 := 98) (pc' := 102) rfl (hb hby at_98) (by decide) (by decide) k) ?_
    show Go p e below W T7 (mkF m 102 #[.val (.int p1), .val (.int (1 : Int32)), .val (.ref u), .val (.ref v), .val (.int (1 : Int32)), .val (.int (1 : Int32))] [(.int (1 : Int32))])
    exact Go.retN X7 hx hret (Or.inl rfl) (hb hby at_102) hlk rfl (fun t ht fe => hWi _ _ ⟨rfl, own_finW (own_fin hS5 (by rw [ht, e7]; exact Nat.le_refl _) fe) (by decide) (by decide)⟩)
set_option maxRecDepth 65536 in
set_option maxHeartbeats 40000000 in
theorem comes_1 {Post : Tables → Env → Array Value → State → Outcome → State → Prop} (hpost : ∀ tb e args s v u, (limb_1_1.after args s (.returned v) u = true ∧ limb_1_2.after args s (.returned v) u = true ∧ True) → ReturnedEndW s (.returned v) u (Jvm.fieldLocs frame_1_writes args s ++ Jvm.arrayLocs frame_1_arrays args s ++ Jvm.staticLocs frame_1_statics s) 8 4160 → Post tb e args s (.returned v) u) :
    ArmFor flags0 classFile x code maxLocals ret World_1 tables_1 room_1 Calls_1 rest_1 Pre_1 Post := by
  intro l hfl _ _ p e ha hc hk s m args below hf hA hF happ hP
  obtain ⟨hcalls, hrest, hpre⟩ := hP
  obtain ⟨-, -, -, hnamed, -, -, -, hat⟩ := (Spec.applies_iff hf).mp happ
  obtain ⟨hg, hn⟩ := and_e (Cond.before_iff.mp (show (Jvm.Cond.and given_1 narrow_1).before args s = true from hpre))
  obtain ⟨g0, y0⟩ := and_e hg
  obtain ⟨w0, rfl⟩ : ∃ w0 : Value, args = #[w0] := by
    have hs : args.size = 1 := by simpa [Cond.value, given_1] using g0
    obtain ⟨L⟩ := args
    match L, hs with
    | [w0], _ => exact ⟨w0, rfl⟩
  have hw := fun d (hd : d ∈ tables_1) => atoms_spec (ws := Jvm.Cond.code x code maxLocals ret :: tables_1) hat d (List.mem_cons_of_mem _ hd)
  obtain ⟨i0, ei0⟩ := is_v y0
  obtain rfl : w0 = (.int i0) := Option.some.inj ei0
  have hr := Cond.before_iff.mp (show rest_1_c.before #[(.int i0)] s = true from hrest)
  obtain ⟨r0, q1⟩ := and_e hr
  obtain ⟨r1, q2⟩ := and_e q1
  obtain ⟨r2, q3⟩ := and_e q2
  obtain ⟨z, ez⟩ := is_v r1
  have hz : ¬ z = 0 := fun h0 => by
    subst h0
    have h3 := not_v r2
    rw [eq_i ez (Term.int_eval (0)) rfl] at h3
    cases h3
  have St : Sta s s.heap "java/lang/String" "COMPACT_STRINGS" "Z" (.int z) := Sta.start ez (Or.inl (Cond.before_iff.mpr r0))
  have hcw : Jvm.Lit.compactW.before #[(.int i0)] s = true := Cond.before_iff.mpr r2
  have wS : ∀ a ∈ Bundle.stringAtoms, a.before #[(.int i0)] s = true := by
    intro d hd
    simp only [Bundle.stringAtoms, List.mem_cons, List.not_mem_nil, or_false] at hd
    rcases hd with rfl | rfl | rfl | rfl | rfl | rfl | rfl
    · exact hw _ (List.mem_of_getElem? (i := 5) rfl)
    · exact hw _ (List.mem_of_getElem? (i := 6) rfl)
    · exact hw _ (List.mem_of_getElem? (i := 7) rfl)
    · exact hw _ (List.mem_of_getElem? (i := 8) rfl)
    · exact hw _ (List.mem_of_getElem? (i := 9) rfl)
    · exact hw _ (List.mem_of_getElem? (i := 10) rfl)
    · exact hw _ (List.mem_of_getElem? (i := 11) rfl)
  have hN1 : ConstHeldL s "com/example/gridtally/gridtally/io/TextForms" 220 := heldStart (show Jvm.Lit.constHeld s "com/example/gridtally/gridtally/io/TextForms" 220 from hcalls.1 ("com/example/gridtally/gridtally/io/TextForms", 220) (by simp [consts_1])) (hw _ (List.mem_of_getElem? (i := 4) rfl)) (by decide) hcw (wS _ (by simp [Bundle.stringAtoms])) (wS _ (by simp [Bundle.stringAtoms, Bundle.sN]))
  have hY1 : ConstHeldL s "com/example/gridtally/gridtally/io/TextForms" 218 := heldStart (show Jvm.Lit.constHeld s "com/example/gridtally/gridtally/io/TextForms" 218 from hcalls.1 ("com/example/gridtally/gridtally/io/TextForms", 218) (by simp [consts_1])) (hw _ (List.mem_of_getElem? (i := 12) rfl)) (by decide) hcw (wS _ (by simp [Bundle.stringAtoms])) (wS _ (by simp [Bundle.stringAtoms, Bundle.sN]))
  have hN2 : ConstHeldL s "com/example/gridtally/gridtally/io/TextFormsYesOrNoPinLaw" 21 := heldStart (show Jvm.Lit.constHeld s "com/example/gridtally/gridtally/io/TextFormsYesOrNoPinLaw" 21 from hcalls.1 ("com/example/gridtally/gridtally/io/TextFormsYesOrNoPinLaw", 21) (by simp [consts_1])) (hw _ (List.mem_of_getElem? (i := 13) rfl)) (by decide) hcw (wS _ (by simp [Bundle.stringAtoms])) (wS _ (by simp [Bundle.stringAtoms, Bundle.sN]))
  have hY2 : ConstHeldL s "com/example/gridtally/gridtally/io/TextFormsYesOrNoPinLaw" 13 := heldStart (show Jvm.Lit.constHeld s "com/example/gridtally/gridtally/io/TextFormsYesOrNoPinLaw" 13 from hcalls.1 ("com/example/gridtally/gridtally/io/TextFormsYesOrNoPinLaw", 13) (by simp [consts_1])) (hw _ (List.mem_of_getElem? (i := 19) rfl)) (by decide) hcw (wS _ (by simp [Bundle.stringAtoms])) (wS _ (by simp [Bundle.stringAtoms, Bundle.sN]))
  obtain ⟨n, o, h1, h2, h3, rfl, hq⟩ := rm0 l s _ hw wS hN1 hY1 hN2 hY2 z St hz i0 p e ha hc hk s m _ below hf ((Spec.applies_iff_loose hf).mp happ).1 ⟨rfl, State.Warmed39.refl s, own_IS.start s, own_ext _⟩ trivial
  refine ⟨n, _, h1, h2, h3, hpost _ _ _ _ _ _ ⟨Cond.after_iff.mpr rfl, Cond.after_iff.mpr (eq_i res_at (Term.int_eval (1)) rfl), trivial⟩ ⟨hq.1, hq.2.1, hq.2.2.1, (hq.2.2.2.sift fun y hy => nomatch hy)⟩⟩
theorem main_1_1 : Claimed_1_1 := comes_1 fun _ _ _ _ _ _ h hF => ⟨h.1, hF⟩
theorem main_1_2 : Claimed_1_2 := comes_1 fun _ _ _ _ _ _ h hF => ⟨h.2.1, hF⟩
end Jvm.Pilot.@@N@@
namespace Jvm.Pilot.@@N@@
open Jvm Jvm.ClassFile Sem Op Lib Jvm.Free Jvm.Stand Jvm.Pilot.@@N@@.Jvm.D
/-! MADE BY PROGRAM (witnessworld.py) out of the Statement's table words and the real class files: 17 classes; the members and pool entries that the words name. The judged class is class 1, her method 1. -/
namespace start1
open Jvm.ClassFile
def u (s : String) : CpInfo := .utf8 (stringToUtf16 s)
/-- a pool by its gaps: so many unusable entries, then the entry; so many at the end -/
def gap : Nat → List CpInfo → List CpInfo
  | 0, r => r
  | n + 1, r => .unusable :: gap n r
def poolList (es : List (Nat × CpInfo)) (last : Nat) : List CpInfo := es.foldr (fun e r => gap e.1 (e.2 :: r)) (gap last [])
def pool (es : List (Nat × CpInfo)) (last : Nat) : Array CpInfo := ⟨poolList es last⟩
def fileOf (pool : Array CpInfo) (this : Nat) (attrs : Array Attribute := #[]) (ms : Array MethodInfo := #[]) (fl : Nat := 33) (sup : Nat := 0) (ifs : Array Nat := #[]) (fds : Array FieldInfo := #[]) : ClassFile where
  minorVersion := 0
  majorVersion := 65
  constantPool := pool
  accessFlags := fl
  thisClass := this
  superClass := sup
  interfaces := ifs
  fields := fds
  methods := ms
  attributes := attrs
def plain (name : String) (sup : Option ClassId) : Class where
  name := name
  kind := .ordinary
  loader := none
  accessFlags := 33
  super := sup
  interfaces := #[]
  cf := none
  fields := #[]
  methods := #[]
  instanceTypes := #[]
  staticTypes := #[]
  resolved := #[]
  callSites := []
  init := .initialized
  statics := none
  mirror := none

def pool0 : Array CpInfo := pool [(5, u "<init>"), (0, u "()V"), (1, .class_ 10), (1, u "java/lang/Object")] 113

def k0m0 : Method := { name := "<init>", desc := "()V", sig := { parameters := [], returnType := none }, accessFlags := 1, code := none }
/-- java/lang/Object -/
def k0 : Class := { plain "java/lang/Object" none with
  accessFlags := 33
  interfaces := #[]
  cf := some (fileOf pool0 8 #[] #[{ accessFlags := 1, nameIndex := 5, descriptorIndex := 6, attributes := #[] }] 33 0 #[] #[])
  fields := #[]
  methods := #[k0m0]
  instanceTypes := #[]
  staticTypes := #[]
  resolved := Array.replicate 124 none
  statics := none }

def pool1 : Array CpInfo := pool [(2, .class_ 4), (1, u "java/lang/Object"), (0, u "<init>"), (0, u "()V"), (0, .methodref 8 9), (0, .class_ 10), (0, .nameAndType 11 12), (0, u "com/example/gridtally/gridtally/io/TextForms"), (0, u "yesOrNo"), (0, u "(Z)Ljava/lang/String;"), (0, .string 14), (0, u "yes"), (0, .methodref 16 17), (0, .class_ 18), (0, .nameAndType 19 20), (0, u "java/lang/String"), (0, u "equals"), (0, u "(Ljava/lang/Object;)Z"), (0, .string 22), (0, u "no"), (0, .class_ 24), (0, u "com/example/gridtally/gridtally/io/TextFormsYesOrNoPinLaw"), (2, u "law"), (0, u "(I)Z")] 3

def k1m0 : Method := { name := "<init>", desc := "()V", sig := { parameters := [], returnType := none }, accessFlags := 2, code := none }
def k1c1 : Code := { maxStack := 2, maxLocals := 6, code := code, exceptionTable := #[], attributes := #[] }
def k1m1 : Method := { name := "law", desc := "(I)Z", sig := { parameters := [.int], returnType := some .boolean }, accessFlags := 9, code := some k1c1 }
/-- com/example/gridtally/gridtally/io/TextFormsYesOrNoPinLaw -/
def k1 : Class := { plain "com/example/gridtally/gridtally/io/TextFormsYesOrNoPinLaw" (some 0) with
  accessFlags := 49
  interfaces := #[]
  cf := some (fileOf pool1 23 #[] #[{ accessFlags := 2, nameIndex := 5, descriptorIndex := 6, attributes := #[] }, { accessFlags := 9, nameIndex := 27, descriptorIndex := 28, attributes := #[] }] 49 2 #[] #[])
  fields := #[]
  methods := #[k1m0, k1m1]
  instanceTypes := #[]
  staticTypes := #[]
  resolved := Array.replicate 32 none
  statics := none }

def pool2 : Array CpInfo := pool [(1, .class_ 2), (0, u "com/example/gridtally/gridtally/io/TextForms"), (1, .class_ 6), (1, u "java/lang/Object"), (0, u "<init>"), (0, u "()V"), (63, u "DATE_LENGTH"), (0, u "I"), (11, u "Ljava/time/format/DateTimeFormatter;"), (18, u "OFFSET_LENGTH"), (41, u "FIELDS_AT"), (0, u "[I"), (2, u "LOCAL_WITH_SECONDS_LENGTH"), (3, u "LOCAL_LENGTH"), (5, u "LOCAL_FIELDS_AT"), (57, .string 219), (0, u "yes"), (0, .string 221), (0, u "no"), (2, u "LOCAL_TIME_WITH_OFFSET"), (22, u "YES"), (0, u "Ljava/lang/String;"), (1, u "NO"), (0, u "MOST_DIGITS"), (1, u "MOST_QUOTED"), (1, u "QUOTED_LENGTH"), (1, u "MONTH_AT"), (1, u "DAY_AT"), (1, u "HOUR_AT"), (1, u "MINUTE_AT"), (1, u "SECOND_AT"), (1, u "OFFSET_AT"), (1, u "OFFSET_AFTER_SECONDS_AT"), (1, u "SECONDS_PER_HOUR"), (1, u "SECONDS_PER_MINUTE"), (1, u "MINUTES_PER_HOUR"), (0, u "MOST_OFFSET_SECONDS"), (0, u "LOCAL_DAY_AT"), (1, u "LOCAL_YEAR_AT"), (1, u "CENTS"), (1, u "ROUNDED_DECIMALS"), (10, u "yesOrNo"), (0, u "(Z)Ljava/lang/String;")] 32

def k2m0 : Method := { name := "<init>", desc := "()V", sig := { parameters := [], returnType := none }, accessFlags := 2, code := none }
def k2c1 : Code := { maxStack := 1, maxLocals := 1, code := prog_38_method_19_code, exceptionTable := #[], attributes := #[] }
def k2m1 : Method := { name := "yesOrNo", desc := "(Z)Ljava/lang/String;", sig := { parameters := [.boolean], returnType := some (.object "java/lang/String") }, accessFlags := 9, code := some k2c1 }
/-- com/example/gridtally/gridtally/io/TextForms -/
def k2 : Class := { plain "com/example/gridtally/gridtally/io/TextForms" (some 0) with
  accessFlags := 49
  interfaces := #[]
  cf := some (fileOf pool2 1 #[] #[{ accessFlags := 2, nameIndex := 7, descriptorIndex := 8, attributes := #[] }, { accessFlags := 9, nameIndex := 294, descriptorIndex := 295, attributes := #[] }] 49 4 #[] #[{ accessFlags := 25, nameIndex := 247, descriptorIndex := 248, attributes := #[] }, { accessFlags := 25, nameIndex := 250, descriptorIndex := 248, attributes := #[] }, { accessFlags := 26, nameIndex := 251, descriptorIndex := 73, attributes := #[] }, { accessFlags := 26, nameIndex := 253, descriptorIndex := 73, attributes := #[] }, { accessFlags := 26, nameIndex := 255, descriptorIndex := 73, attributes := #[] }, { accessFlags := 26, nameIndex := 72, descriptorIndex := 73, attributes := #[] }, { accessFlags := 26, nameIndex := 257, descriptorIndex := 73, attributes := #[] }, { accessFlags := 26, nameIndex := 259, descriptorIndex := 73, attributes := #[] }, { accessFlags := 26, nameIndex := 261, descriptorIndex := 73, attributes := #[] }, { accessFlags := 26, nameIndex := 263, descriptorIndex := 73, attributes := #[] }, { accessFlags := 26, nameIndex := 265, descriptorIndex := 73, attributes := #[] }, { accessFlags := 26, nameIndex := 146, descriptorIndex := 147, attributes := #[] }, { accessFlags := 26, nameIndex := 267, descriptorIndex := 73, attributes := #[] }, { accessFlags := 26, nameIndex := 269, descriptorIndex := 73, attributes := #[] }, { accessFlags := 26, nameIndex := 104, descriptorIndex := 73, attributes := #[] }, { accessFlags := 26, nameIndex := 271, descriptorIndex := 73, attributes := #[] }, { accessFlags := 26, nameIndex := 273, descriptorIndex := 73, attributes := #[] }, { accessFlags := 26, nameIndex := 275, descriptorIndex := 73, attributes := #[] }, { accessFlags := 26, nameIndex := 276, descriptorIndex := 73, attributes := #[] }, { accessFlags := 26, nameIndex := 277, descriptorIndex := 73, attributes := #[] }, { accessFlags := 26, nameIndex := 279, descriptorIndex := 73, attributes := #[] }, { accessFlags := 26, nameIndex := 160, descriptorIndex := 147, attributes := #[] }, { accessFlags := 26, nameIndex := 154, descriptorIndex := 73, attributes := #[] }, { accessFlags := 26, nameIndex := 150, descriptorIndex := 73, attributes := #[] }, { accessFlags := 26, nameIndex := 224, descriptorIndex := 85, attributes := #[] }, { accessFlags := 26, nameIndex := 281, descriptorIndex := 73, attributes := #[] }, { accessFlags := 26, nameIndex := 283, descriptorIndex := 73, attributes := #[] }])
  fields := #[{ name := "YES", type := (.object "java/lang/String"), accessFlags := 25, slot := 0, constantValue := 0 }, { name := "NO", type := (.object "java/lang/String"), accessFlags := 25, slot := 1, constantValue := 0 }, { name := "MOST_DIGITS", type := .int, accessFlags := 26, slot := 2, constantValue := 0 }, { name := "MOST_QUOTED", type := .int, accessFlags := 26, slot := 3, constantValue := 0 }, { name := "QUOTED_LENGTH", type := .int, accessFlags := 26, slot := 4, constantValue := 0 }, { name := "DATE_LENGTH", type := .int, accessFlags := 26, slot := 5, constantValue := 0 }, { name := "MONTH_AT", type := .int, accessFlags := 26, slot := 6, constantValue := 0 }, { name := "DAY_AT", type := .int, accessFlags := 26, slot := 7, constantValue := 0 }, { name := "HOUR_AT", type := .int, accessFlags := 26, slot := 8, constantValue := 0 }, { name := "MINUTE_AT", type := .int, accessFlags := 26, slot := 9, constantValue := 0 }, { name := "SECOND_AT", type := .int, accessFlags := 26, slot := 10, constantValue := 0 }, { name := "FIELDS_AT", type := (.array .int), accessFlags := 26, slot := 11, constantValue := 0 }, { name := "OFFSET_AT", type := .int, accessFlags := 26, slot := 12, constantValue := 0 }, { name := "OFFSET_AFTER_SECONDS_AT", type := .int, accessFlags := 26, slot := 13, constantValue := 0 }, { name := "OFFSET_LENGTH", type := .int, accessFlags := 26, slot := 14, constantValue := 0 }, { name := "SECONDS_PER_HOUR", type := .int, accessFlags := 26, slot := 15, constantValue := 0 }, { name := "SECONDS_PER_MINUTE", type := .int, accessFlags := 26, slot := 16, constantValue := 0 }, { name := "MINUTES_PER_HOUR", type := .int, accessFlags := 26, slot := 17, constantValue := 0 }, { name := "MOST_OFFSET_SECONDS", type := .int, accessFlags := 26, slot := 18, constantValue := 0 }, { name := "LOCAL_DAY_AT", type := .int, accessFlags := 26, slot := 19, constantValue := 0 }, { name := "LOCAL_YEAR_AT", type := .int, accessFlags := 26, slot := 20, constantValue := 0 }, { name := "LOCAL_FIELDS_AT", type := (.array .int), accessFlags := 26, slot := 21, constantValue := 0 }, { name := "LOCAL_LENGTH", type := .int, accessFlags := 26, slot := 22, constantValue := 0 }, { name := "LOCAL_WITH_SECONDS_LENGTH", type := .int, accessFlags := 26, slot := 23, constantValue := 0 }, { name := "LOCAL_TIME_WITH_OFFSET", type := (.object "java/time/format/DateTimeFormatter"), accessFlags := 26, slot := 24, constantValue := 0 }, { name := "CENTS", type := .int, accessFlags := 26, slot := 25, constantValue := 0 }, { name := "ROUNDED_DECIMALS", type := .int, accessFlags := 26, slot := 26, constantValue := 0 }]
  methods := #[k2m0, k2m1]
  instanceTypes := #[]
  staticTypes := #[(.object "java/lang/String"), (.object "java/lang/String"), .int, .int, .int, .int, .int, .int, .int, .int, .int, (.array .int), .int, .int, .int, .int, .int, .int, .int, .int, .int, (.array .int), .int, .int, (.object "java/time/format/DateTimeFormatter"), .int, .int]
  resolved := Array.replicate 328 none
  statics := none }

def pool3 : Array CpInfo := pool [(1, .class_ 2), (0, u "java/io/Serializable"), (0, .class_ 4), (0, u "java/lang/Object")] 2

/-- java/io/Serializable -/
def k3 : Class := { plain "java/io/Serializable" (some 0) with
  accessFlags := 1537
  interfaces := #[]
  cf := some (fileOf pool3 1 #[] #[] 1537 3 #[] #[])
  fields := #[]
  methods := #[]
  instanceTypes := #[]
  staticTypes := #[]
  resolved := Array.replicate 7 none
  statics := none }

def pool4 : Array CpInfo := pool [(1, .class_ 2), (0, u "java/lang/Comparable"), (0, .class_ 4), (0, u "java/lang/Object")] 7

/-- java/lang/Comparable -/
def k4 : Class := { plain "java/lang/Comparable" (some 0) with
  accessFlags := 1537
  interfaces := #[]
  cf := some (fileOf pool4 1 #[] #[] 1537 3 #[] #[])
  fields := #[]
  methods := #[]
  instanceTypes := #[]
  staticTypes := #[]
  resolved := Array.replicate 12 none
  statics := none }

def pool5 : Array CpInfo := pool [(2, .class_ 4), (1, u "java/lang/CharSequence"), (42, .class_ 48), (0, u "java/lang/CharSequence$1CodePointIterator"), (10, .class_ 60), (0, u "java/lang/CharSequence$1CharIterator"), (5, .class_ 67), (0, u "java/lang/Object")] 63

/-- java/lang/CharSequence -/
def k5 : Class := { plain "java/lang/CharSequence" (some 0) with
  accessFlags := 1537
  interfaces := #[]
  cf := some (fileOf pool5 2 #[.nestMembers #[47, 59]] #[] 1537 66 #[] #[])
  fields := #[]
  methods := #[]
  instanceTypes := #[]
  staticTypes := #[]
  resolved := Array.replicate 131 none
  statics := none }

def pool6 : Array CpInfo := pool [(1, .class_ 2), (0, u "java/lang/constant/Constable"), (0, .class_ 4), (0, u "java/lang/Object")] 6

/-- java/lang/constant/Constable -/
def k6 : Class := { plain "java/lang/constant/Constable" (some 0) with
  accessFlags := 1537
  interfaces := #[]
  cf := some (fileOf pool6 1 #[] #[] 1537 3 #[] #[])
  fields := #[]
  methods := #[]
  instanceTypes := #[]
  staticTypes := #[]
  resolved := Array.replicate 11 none
  statics := none }

def pool7 : Array CpInfo := pool [(1, .class_ 2), (0, u "java/lang/constant/ConstantDesc"), (0, .class_ 4), (0, u "java/lang/Object")] 32

/-- java/lang/constant/ConstantDesc -/
def k7 : Class := { plain "java/lang/constant/ConstantDesc" (some 0) with
  accessFlags := 1537
  interfaces := #[]
  cf := some (fileOf pool7 1 #[] #[] 1537 3 #[] #[])
  fields := #[]
  methods := #[]
  instanceTypes := #[]
  staticTypes := #[]
  resolved := Array.replicate 37 none
  statics := none }

def pool8 : Array CpInfo := pool [(2, .class_ 4), (1, u "java/lang/Object"), (0, u "<init>"), (0, u "()V"), (2, .fieldref 10 11), (0, .class_ 12), (0, .nameAndType 13 14), (0, u "java/lang/String"), (0, u "value"), (0, u "[B"), (0, .fieldref 10 16), (0, .nameAndType 17 18), (0, u "coder"), (0, u "B"), (2, u "hash"), (0, u "I"), (2, u "hashIsZero"), (0, u "Z"), (11, .fieldref 10 39), (0, .nameAndType 40 26), (0, u "COMPACT_STRINGS"), (66, .class_ 109), (1, u "java/lang/StringLatin1"), (431, .methodref 107 542), (0, .nameAndType 543 544), (0, u "equals"), (0, u "([B[B)Z"), (28, u "(Ljava/lang/Object;)Z"), (1, .class_ 576), (0, u "java/lang/CharSequence"), (22, u "CASE_INSENSITIVE_ORDER"), (0, u "Ljava/util/Comparator;"), (500, u "serialPersistentFields"), (0, u "[Ljava/io/ObjectStreamField;"), (0, .class_ 1104), (0, u "java/lang/String$CaseInsensitiveComparator"), (1, .class_ 1107), (0, u "java/io/Serializable"), (0, .class_ 1109), (0, u "java/lang/Comparable"), (0, .class_ 1111), (0, u "java/lang/constant/Constable"), (0, .class_ 1113), (0, u "java/lang/constant/ConstantDesc"), (2, u "serialVersionUID"), (0, u "J"), (3, u "REPL"), (0, u "C"), (2, u "LATIN1"), (1, u "UTF16")] 323

def k8m0 : Method := { name := "<init>", desc := "()V", sig := { parameters := [], returnType := none }, accessFlags := 1, code := none }
def k8c1 : Code := { maxStack := 2, maxLocals := 3, code := jdk_42_method_66_code, exceptionTable := #[], attributes := #[] }
def k8m1 : Method := { name := "equals", desc := "(Ljava/lang/Object;)Z", sig := { parameters := [(.object "java/lang/Object")], returnType := some .boolean }, accessFlags := 1, code := some k8c1 }
/-- java/lang/String -/
def k8 : Class := { plain "java/lang/String" (some 0) with
  accessFlags := 49
  interfaces := #[3, 4, 5, 6, 7]
  cf := some (fileOf pool8 10 #[.nestMembers #[1103]] #[{ accessFlags := 1, nameIndex := 5, descriptorIndex := 6, attributes := #[] }, { accessFlags := 1, nameIndex := 543, descriptorIndex := 573, attributes := #[] }] 49 2 #[1106, 1108, 575, 1110, 1112] #[{ accessFlags := 18, nameIndex := 13, descriptorIndex := 14, attributes := #[] }, { accessFlags := 18, nameIndex := 17, descriptorIndex := 18, attributes := #[] }, { accessFlags := 2, nameIndex := 21, descriptorIndex := 22, attributes := #[] }, { accessFlags := 2, nameIndex := 25, descriptorIndex := 26, attributes := #[] }, { accessFlags := 26, nameIndex := 1116, descriptorIndex := 1117, attributes := #[] }, { accessFlags := 24, nameIndex := 40, descriptorIndex := 26, attributes := #[] }, { accessFlags := 26, nameIndex := 1101, descriptorIndex := 1102, attributes := #[] }, { accessFlags := 26, nameIndex := 1121, descriptorIndex := 1122, attributes := #[] }, { accessFlags := 25, nameIndex := 599, descriptorIndex := 600, attributes := #[] }, { accessFlags := 24, nameIndex := 1125, descriptorIndex := 18, attributes := #[] }, { accessFlags := 24, nameIndex := 1127, descriptorIndex := 18, attributes := #[] }])
  fields := #[{ name := "value", type := (.array .byte), accessFlags := 18, slot := 0, constantValue := 0 }, { name := "coder", type := .byte, accessFlags := 18, slot := 1, constantValue := 0 }, { name := "hash", type := .int, accessFlags := 2, slot := 2, constantValue := 0 }, { name := "hashIsZero", type := .boolean, accessFlags := 2, slot := 3, constantValue := 0 }, { name := "serialVersionUID", type := .long, accessFlags := 26, slot := 0, constantValue := 0 }, { name := "COMPACT_STRINGS", type := .boolean, accessFlags := 24, slot := 1, constantValue := 0 }, { name := "serialPersistentFields", type := (.array (.object "java/io/ObjectStreamField")), accessFlags := 26, slot := 2, constantValue := 0 }, { name := "REPL", type := .char, accessFlags := 26, slot := 3, constantValue := 0 }, { name := "CASE_INSENSITIVE_ORDER", type := (.object "java/util/Comparator"), accessFlags := 25, slot := 4, constantValue := 0 }, { name := "LATIN1", type := .byte, accessFlags := 24, slot := 5, constantValue := 0 }, { name := "UTF16", type := .byte, accessFlags := 24, slot := 6, constantValue := 0 }]
  methods := #[k8m0, k8m1]
  instanceTypes := #[(.array .byte), .byte, .int, .boolean]
  staticTypes := #[.long, .boolean, (.array (.object "java/io/ObjectStreamField")), .char, (.object "java/util/Comparator"), .byte, .byte]
  resolved := Array.replicate 1451 none
  statics := some 0 }

def pool9 : Array CpInfo := pool [(4, .class_ 6), (1, u "java/lang/Object"), (0, u "<init>"), (0, u "()V"), (5, .class_ 16), (1, u "java/lang/StringLatin1"), (104, u "$assertionsDisabled"), (0, u "Z"), (98, .class_ 223), (1, u "java/lang/StringLatin1$LinesSpliterator"), (57, u "equals"), (0, u "([B[B)Z"), (107, .class_ 391), (0, u "java/lang/StringLatin1$CharsSpliterator")] 3

def k9m0 : Method := { name := "<init>", desc := "()V", sig := { parameters := [], returnType := none }, accessFlags := 0, code := none }
def k9c1 : Code := { maxStack := 3, maxLocals := 3, code := jdk_43_method_13_code, exceptionTable := #[], attributes := #[] }
def k9m1 : Method := { name := "equals", desc := "([B[B)Z", sig := { parameters := [(.array .byte), (.array .byte)], returnType := some .boolean }, accessFlags := 9, code := some k9c1 }
/-- java/lang/StringLatin1 -/
def k9 : Class := { plain "java/lang/StringLatin1" (some 0) with
  accessFlags := 48
  interfaces := #[]
  cf := some (fileOf pool9 14 #[.nestMembers #[390, 221]] #[{ accessFlags := 0, nameIndex := 7, descriptorIndex := 8, attributes := #[] }, { accessFlags := 9, nameIndex := 281, descriptorIndex := 282, attributes := #[] }] 48 4 #[] #[{ accessFlags := 4120, nameIndex := 121, descriptorIndex := 122, attributes := #[] }])
  fields := #[{ name := "$assertionsDisabled", type := .boolean, accessFlags := 4120, slot := 0, constantValue := 0 }]
  methods := #[k9m0, k9m1]
  instanceTypes := #[]
  staticTypes := #[.boolean]
  resolved := Array.replicate 395 none
  statics := none }

def pool10 : Array CpInfo := pool [(2, .class_ 4), (1, u "java/lang/Object"), (0, u "<init>"), (0, u "()V"), (17, .class_ 26), (1, u "jdk/internal/util/Preconditions"), (28, .class_ 56), (0, u "jdk/internal/util/Preconditions$4"), (57, .class_ 115), (0, u "jdk/internal/util/Preconditions$1"), (7, u "SIOOBE_FORMATTER"), (0, u "Ljava/util/function/BiFunction;"), (0, .class_ 126), (0, u "jdk/internal/util/Preconditions$2"), (3, u "AIOOBE_FORMATTER"), (0, .class_ 132), (0, u "jdk/internal/util/Preconditions$3"), (3, u "IOOBE_FORMATTER")] 57

def k10m0 : Method := { name := "<init>", desc := "()V", sig := { parameters := [], returnType := none }, accessFlags := 1, code := none }
/-- jdk/internal/util/Preconditions -/
def k10 : Class := { plain "jdk/internal/util/Preconditions" (some 0) with
  accessFlags := 33
  interfaces := #[]
  cf := some (fileOf pool10 24 #[.nestMembers #[55, 131, 125, 114]] #[{ accessFlags := 1, nameIndex := 5, descriptorIndex := 6, attributes := #[] }] 33 2 #[] #[{ accessFlags := 25, nameIndex := 123, descriptorIndex := 124, attributes := #[] }, { accessFlags := 25, nameIndex := 130, descriptorIndex := 124, attributes := #[] }, { accessFlags := 25, nameIndex := 136, descriptorIndex := 124, attributes := #[] }])
  fields := #[{ name := "SIOOBE_FORMATTER", type := (.object "java/util/function/BiFunction"), accessFlags := 25, slot := 0, constantValue := 0 }, { name := "AIOOBE_FORMATTER", type := (.object "java/util/function/BiFunction"), accessFlags := 25, slot := 1, constantValue := 0 }, { name := "IOOBE_FORMATTER", type := (.object "java/util/function/BiFunction"), accessFlags := 25, slot := 2, constantValue := 0 }]
  methods := #[k10m0]
  instanceTypes := #[]
  staticTypes := #[(.object "java/util/function/BiFunction"), (.object "java/util/function/BiFunction"), (.object "java/util/function/BiFunction")]
  resolved := Array.replicate 194 none
  statics := some 1 }

def pool11 : Array CpInfo := pool [(9, u "<init>"), (6, .class_ 18), (1, u "java/lang/Object"), (0, u "()V"), (1, .class_ 23), (1, u "jdk/internal/util/ArraysSupport"), (0, u "LOG2_ARRAY_LONG_INDEX_SCALE"), (0, u "I"), (2, u "U"), (0, u "Ljdk/internal/misc/Unsafe;"), (8, u "BIG_ENDIAN"), (0, u "Z"), (8, u "LOG2_BYTE_BIT_SIZE"), (4, u "LOG2_ARRAY_INT_INDEX_SCALE"), (54, u "JLA"), (0, u "Ljdk/internal/access/JavaLangAccess;"), (11, u "LOG2_ARRAY_BOOLEAN_INDEX_SCALE"), (9, u "LOG2_ARRAY_BYTE_INDEX_SCALE"), (5, u "LOG2_ARRAY_CHAR_INDEX_SCALE"), (5, u "LOG2_ARRAY_SHORT_INDEX_SCALE"), (18, u "LOG2_ARRAY_FLOAT_INDEX_SCALE"), (24, u "LOG2_ARRAY_DOUBLE_INDEX_SCALE"), (89, u "T_BOOLEAN"), (2, u "T_CHAR"), (1, u "T_FLOAT"), (1, u "T_DOUBLE"), (1, u "T_BYTE"), (1, u "T_SHORT"), (1, u "T_INT"), (1, u "T_LONG"), (1, u "SOFT_MAX_ARRAY_LENGTH")] 83

def k11m0 : Method := { name := "<init>", desc := "()V", sig := { parameters := [], returnType := none }, accessFlags := 2, code := none }
/-- jdk/internal/util/ArraysSupport -/
def k11 : Class := { plain "jdk/internal/util/ArraysSupport" (some 0) with
  accessFlags := 33
  interfaces := #[]
  cf := some (fileOf pool11 21 #[] #[{ accessFlags := 2, nameIndex := 9, descriptorIndex := 19, attributes := #[] }] 33 16 #[] #[{ accessFlags := 24, nameIndex := 28, descriptorIndex := 29, attributes := #[] }, { accessFlags := 26, nameIndex := 38, descriptorIndex := 39, attributes := #[] }, { accessFlags := 25, nameIndex := 121, descriptorIndex := 25, attributes := #[] }, { accessFlags := 25, nameIndex := 131, descriptorIndex := 25, attributes := #[] }, { accessFlags := 25, nameIndex := 137, descriptorIndex := 25, attributes := #[] }, { accessFlags := 25, nameIndex := 143, descriptorIndex := 25, attributes := #[] }, { accessFlags := 25, nameIndex := 53, descriptorIndex := 25, attributes := #[] }, { accessFlags := 25, nameIndex := 24, descriptorIndex := 25, attributes := #[] }, { accessFlags := 25, nameIndex := 162, descriptorIndex := 25, attributes := #[] }, { accessFlags := 25, nameIndex := 187, descriptorIndex := 25, attributes := #[] }, { accessFlags := 26, nameIndex := 48, descriptorIndex := 25, attributes := #[] }, { accessFlags := 25, nameIndex := 277, descriptorIndex := 25, attributes := #[] }, { accessFlags := 25, nameIndex := 280, descriptorIndex := 25, attributes := #[] }, { accessFlags := 25, nameIndex := 282, descriptorIndex := 25, attributes := #[] }, { accessFlags := 25, nameIndex := 284, descriptorIndex := 25, attributes := #[] }, { accessFlags := 25, nameIndex := 286, descriptorIndex := 25, attributes := #[] }, { accessFlags := 25, nameIndex := 288, descriptorIndex := 25, attributes := #[] }, { accessFlags := 25, nameIndex := 290, descriptorIndex := 25, attributes := #[] }, { accessFlags := 25, nameIndex := 292, descriptorIndex := 25, attributes := #[] }, { accessFlags := 26, nameIndex := 108, descriptorIndex := 109, attributes := #[] }, { accessFlags := 25, nameIndex := 294, descriptorIndex := 25, attributes := #[] }])
  fields := #[{ name := "U", type := (.object "jdk/internal/misc/Unsafe"), accessFlags := 24, slot := 0, constantValue := 0 }, { name := "BIG_ENDIAN", type := .boolean, accessFlags := 26, slot := 1, constantValue := 0 }, { name := "LOG2_ARRAY_BOOLEAN_INDEX_SCALE", type := .int, accessFlags := 25, slot := 2, constantValue := 0 }, { name := "LOG2_ARRAY_BYTE_INDEX_SCALE", type := .int, accessFlags := 25, slot := 3, constantValue := 0 }, { name := "LOG2_ARRAY_CHAR_INDEX_SCALE", type := .int, accessFlags := 25, slot := 4, constantValue := 0 }, { name := "LOG2_ARRAY_SHORT_INDEX_SCALE", type := .int, accessFlags := 25, slot := 5, constantValue := 0 }, { name := "LOG2_ARRAY_INT_INDEX_SCALE", type := .int, accessFlags := 25, slot := 6, constantValue := 0 }, { name := "LOG2_ARRAY_LONG_INDEX_SCALE", type := .int, accessFlags := 25, slot := 7, constantValue := 0 }, { name := "LOG2_ARRAY_FLOAT_INDEX_SCALE", type := .int, accessFlags := 25, slot := 8, constantValue := 0 }, { name := "LOG2_ARRAY_DOUBLE_INDEX_SCALE", type := .int, accessFlags := 25, slot := 9, constantValue := 0 }, { name := "LOG2_BYTE_BIT_SIZE", type := .int, accessFlags := 26, slot := 10, constantValue := 0 }, { name := "T_BOOLEAN", type := .int, accessFlags := 25, slot := 11, constantValue := 0 }, { name := "T_CHAR", type := .int, accessFlags := 25, slot := 12, constantValue := 0 }, { name := "T_FLOAT", type := .int, accessFlags := 25, slot := 13, constantValue := 0 }, { name := "T_DOUBLE", type := .int, accessFlags := 25, slot := 14, constantValue := 0 }, { name := "T_BYTE", type := .int, accessFlags := 25, slot := 15, constantValue := 0 }, { name := "T_SHORT", type := .int, accessFlags := 25, slot := 16, constantValue := 0 }, { name := "T_INT", type := .int, accessFlags := 25, slot := 17, constantValue := 0 }, { name := "T_LONG", type := .int, accessFlags := 25, slot := 18, constantValue := 0 }, { name := "JLA", type := (.object "jdk/internal/access/JavaLangAccess"), accessFlags := 26, slot := 19, constantValue := 0 }, { name := "SOFT_MAX_ARRAY_LENGTH", type := .int, accessFlags := 25, slot := 20, constantValue := 0 }]
  methods := #[k11m0]
  instanceTypes := #[]
  staticTypes := #[(.object "jdk/internal/misc/Unsafe"), .boolean, .int, .int, .int, .int, .int, .int, .int, .int, .int, .int, .int, .int, .int, .int, .int, .int, .int, (.object "jdk/internal/access/JavaLangAccess"), .int]
  resolved := Array.replicate 378 none
  statics := none }

def pool12 : Array CpInfo := pool [(1, u "java/lang/Cloneable"), (0, .class_ 1), (0, u "java/lang/Object"), (0, .class_ 3)] 3

/-- java/lang/Cloneable -/
def k12 : Class := { plain "java/lang/Cloneable" (some 0) with
  accessFlags := 1537
  interfaces := #[]
  cf := some (fileOf pool12 2 #[] #[] 1537 4 #[] #[])
  fields := #[]
  methods := #[]
  instanceTypes := #[]
  staticTypes := #[]
  resolved := Array.replicate 8 none
  statics := none }

/-- the primitive byte -/
def k13 : Class := { plain "byte" none with kind := .primitive 'B', accessFlags := 0x411 }
/-- [B -/
def k14 : Class := { plain "[B" (some 0) with kind := .array 13 .byte, interfaces := #[12, 3], accessFlags := 1041 }

/-- the primitive int -/
def k15 : Class := { plain "int" none with kind := .primitive 'I', accessFlags := 0x411 }
/-- [I -/
def k16 : Class := { plain "[I" (some 0) with kind := .array 15 .int, interfaces := #[12, 3], accessFlags := 1041 }

def heap : Heap := #[{ cls := 8, slots := #[.long 0, .int 1, .null, .int 0, .null, .int 0, .int 0], vm := .statics 8 },
  { cls := 10, slots := #[.null, .null, .null], vm := .statics 10 }]
def classes : Array Class := #[k0, k1, k2, k3, k4, k5, k6, k7, k8, k9, k10, k11, k12, k13, k14, k15, k16]
def interned : List (Array UInt16 × Addr) := []
def slotsUsed : Nat := 10
def theMethod : MethodId := ⟨1, 1⟩
def args0 : Array Value := #[.int 5]
def aboutOver (below : List Frame) : State where
  vm := { classes := classes, interned := interned.toArray }
  heap := heap
  slotsUsed := slotsUsed
  threads := #[{ frames := .invoking theMethod args0 :: below }]
def below0 : List Frame := [.native { method := ⟨0, 0⟩, args := #[] }]
def about1 : State := aboutOver below0
def p0 : Program := .bare "" "" ""
def e0 : Env := launch0.env 0 0 0
theorem w_frames : about1.frames = Frame.invoking theMethod args0 :: below0 := rfl
set_option maxRecDepth 65536 in
theorem w_args : argsFit about1.vm theMethod args0 = true := by decide +kernel
set_option maxRecDepth 65536 in
theorem w_heap : heapFits about1 = true := by decide +kernel
set_option maxRecDepth 65536 in
theorem w_runnable : about1.curStatus? = some .runnable := by decide +kernel
set_option maxRecDepth 65536 in
theorem w_alone : about1.alone = true := by decide +kernel
set_option maxRecDepth 65536 in
theorem w_named : about1.methodNamed? x = some theMethod := by decide +kernel
set_option maxRecDepth 65536 in
theorem w_hears : about1.hears theMethod below0 = true := by decide +kernel
set_option maxRecDepth 65536 in
theorem w_ripe : about1.ripe theMethod args0 below0 = true := by decide +kernel
theorem w_running : about1.status = .running := rfl
set_option maxRecDepth 65536 in
theorem w_room : about1.hasRoom e0.platform room_1 = true :=
  launch0.hasRoom_least _ room_1 (by decide +kernel) (by decide +kernel) (by decide +kernel) (by decide +kernel) (by decide +kernel) (by decide +kernel)
theorem allAtoms_all (ts : List Jvm.Cond) (a : Array Jvm.Value) (st : Jvm.State) : (allAtoms ts).before a st = ts.all (fun c => c.before a st) := by
  induction ts with
  | nil => rfl
  | cons c t ih =>
    show (Jvm.Cond.and c (allAtoms t)).before a st = _
    rw [Jvm.Cond.before_and, ih, List.all_cons]
def words1 : List Jvm.Cond := Jvm.Cond.code x code maxLocals ret :: tables_1
/-- a 'code' word, met by the world's own term for the bytes: nothing is compared byte by byte -/
theorem code_word {y : MethodName} {bytes : ByteArray} {mx : Nat} {rt : Option FieldType} {a : Array Value} {s : State} {m : MethodId} {meth : Method} {c : Code} (h1 : s.methodNamed? y = some m) (h2 : s.vm.method? m = some meth) (h3 : meth.code = some c) (h4 : c.code = bytes)
    (h5 : (c.maxLocals == mx && c.exceptionTable.isEmpty && decide (c.maxStack ≤ mostOperands) && decide (meth.sig.returnType = rt) && !meth.locks && decide (parseMethodDescriptor y.desc = some meth.sig)) = true) : (Jvm.Cond.code y bytes mx rt).before a s = true := by
  simp only [Bool.and_eq_true, beq_iff_eq, Bool.not_eq_true', decide_eq_true_eq] at h5
  obtain ⟨⟨⟨⟨⟨g1, g2⟩, g3⟩, g4⟩, g5⟩, g6⟩ := h5
  simp [Cond.before, Cond.holds, Cond.value, h1, h2, h3, h4, g1, g2, g3, g4, g5, g6]
def isCode : Jvm.Cond → Bool
  | .code _ _ _ _ => true
  | _ => false
theorem all_split {L : List Jvm.Cond} {P : Jvm.Cond → Bool} (h1 : L.all (fun c => isCode c || P c) = true) (h2 : ∀ c ∈ L.filter isCode, P c = true) : L.all P = true := by
  refine List.all_eq_true.mpr fun c hc => ?_
  have h := List.all_eq_true.mp h1 c hc
  rcases Bool.eq_false_or_eq_true (isCode c) with hi | hi
  · exact h2 c (List.mem_filter.mpr ⟨hc, hi⟩)
  · simpa [hi] using h
set_option maxRecDepth 65536 in
theorem w_c0 : (Jvm.Cond.code x code maxLocals ret).before args0 about1 = true := code_word (m := ⟨1, 1⟩) (meth := k1m1) (c := k1c1) (by decide +kernel) rfl rfl rfl (by decide +kernel)
set_option maxRecDepth 65536 in
theorem w_c1 : (Jvm.Cond.code ({ cls := "com/example/gridtally/gridtally/io/TextForms", name := "yesOrNo", desc := "(Z)Ljava/lang/String;" } : Jvm.MethodName) prog_38_method_19_code (1 : Nat) (Option.some (Jvm.ClassFile.FieldType.object "java/lang/String"))).before args0 about1 = true := code_word (m := ⟨2, 1⟩) (meth := k2m1) (c := k2c1) (by decide +kernel) rfl rfl rfl (by decide +kernel)
set_option maxRecDepth 65536 in
theorem w_c2 : (Jvm.Cond.code ({ cls := "java/lang/String", name := "equals", desc := "(Ljava/lang/Object;)Z" } : Jvm.MethodName) jdk_42_method_66_code (3 : Nat) (Option.some Jvm.ClassFile.FieldType.boolean)).before args0 about1 = true := code_word (m := ⟨8, 1⟩) (meth := k8m1) (c := k8c1) (by decide +kernel) rfl rfl rfl (by decide +kernel)
set_option maxRecDepth 65536 in
theorem w_c3 : (Jvm.Cond.code ({ cls := "java/lang/StringLatin1", name := "equals", desc := "([B[B)Z" } : Jvm.MethodName) jdk_43_method_13_code (3 : Nat) (Option.some Jvm.ClassFile.FieldType.boolean)).before args0 about1 = true := code_word (m := ⟨9, 1⟩) (meth := k9m1) (c := k9c1) (by decide +kernel) rfl rfl rfl (by decide +kernel)
def codes1 : List Jvm.Cond := [Jvm.Cond.code x code maxLocals ret, Jvm.Cond.code ({ cls := "com/example/gridtally/gridtally/io/TextForms", name := "yesOrNo", desc := "(Z)Ljava/lang/String;" } : Jvm.MethodName) prog_38_method_19_code (1 : Nat) (Option.some (Jvm.ClassFile.FieldType.object "java/lang/String")), Jvm.Cond.code ({ cls := "java/lang/String", name := "equals", desc := "(Ljava/lang/Object;)Z" } : Jvm.MethodName) jdk_42_method_66_code (3 : Nat) (Option.some Jvm.ClassFile.FieldType.boolean), Jvm.Cond.code ({ cls := "java/lang/StringLatin1", name := "equals", desc := "([B[B)Z" } : Jvm.MethodName) jdk_43_method_13_code (3 : Nat) (Option.some Jvm.ClassFile.FieldType.boolean)]
set_option maxRecDepth 65536 in
theorem codes_eq : words1.filter isCode = codes1 := rfl
theorem w_codes : ∀ c ∈ words1.filter isCode, c.before args0 about1 = true := by
  rw [codes_eq]
  intro c hc
  simp only [codes1, List.mem_cons, List.not_mem_nil, or_false] at hc
  rcases hc with rfl | rfl | rfl | rfl
  · exact w_c0
  · exact w_c1
  · exact w_c2
  · exact w_c3
set_option maxRecDepth 65536 in
theorem w_t1 : (words1.take 24).all (fun c => isCode c || c.before args0 about1) = true := by decide +kernel
set_option maxRecDepth 65536 in
theorem w_t2 : (words1.drop 24).all (fun c => isCode c || c.before args0 about1) = true := by decide +kernel
theorem w_tables : (allAtoms (Jvm.Cond.code x code maxLocals ret :: tables_1)).before args0 about1 = true := by
  rw [allAtoms_all]
  show words1.all (fun c => c.before args0 about1) = true
  refine all_split ?_ w_codes
  rw [← List.take_append_drop 24 words1, List.all_append, w_t1, w_t2]
  rfl
set_option maxRecDepth 65536 in
theorem w_rest : rest_1_c.before args0 about1 = true := by decide +kernel
set_option maxRecDepth 65536 in
theorem w_case : (Jvm.Cond.and given_1 narrow_1).before args0 about1 = true := by decide +kernel
set_option maxRecDepth 65536 in
theorem w_consts : constsHeld consts_1 about1 := Jvm.Lit.constsHeldB_iff.mp (by decide +kernel)
theorem w_applies : (headSpec (Jvm.Cond.code x code maxLocals ret :: tables_1) room_1).applies x e0.platform about1 = true :=
  (Spec.applies_iff w_frames).mpr ⟨w_running, w_runnable, w_alone, w_named, w_hears, w_ripe, w_room, w_tables⟩
theorem atStart : AtStart classFile x code maxLocals ret World_1 tables_1 room_1 Calls_1 rest_1 Pre_1 launch0 p0 e0 about1 theMethod args0 below0 :=
  ⟨lists_1, trivial, launch0.admits_env _ _ _, launch0.least_env, fairChoices_fair.cas, fairChoices_fair.clock, w_frames, w_args, w_heap, w_applies, ⟨w_consts, trivial⟩, w_rest, w_case⟩
end start1
theorem witness_1 : WitnessClaimed_1 := ⟨start1.p0, start1.e0, start1.about1, start1.theMethod, start1.args0, start1.below0, start1.atStart⟩
end Jvm.Pilot.@@N@@
