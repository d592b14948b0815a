import JvmDerived
import JvmDerived.Pilot.@@N@@Statement
import JvmDerived.Pilot.@@N@@Code
set_option linter.unusedVariables false
set_option linter.unusedSimpArgs false
namespace Jvm.Pilot.@@N@@
open Jvm Jvm.ClassFile Sem Op Lib Jvm.Free Jvm.Stand Jvm.LawKit Jvm.RoadKit Bundle Jvm.Pilot.@@N@@.Jvm.D
section OwnKit
variable {p : Program} {l : Launch} {e : Env} {R : Room} {s : State} {m : MethodId} {args : Array Value} {below : List Frame} {meth : Method} {c : Code} {T : State} {locs : List Loc} {cells slots : Nat} {Z : State} {a0 : Array Value} {h : Heap} {W : State → Outcome → Prop}
/-- what a walk owes from a frame on -/
def Go (p : Program) (e : Env) (below : List Frame) (W : State → Outcome → Prop) (T : State) (g : JFrame) : Prop := ∃ t o, Steps p.tables e below (T.setTop g) t ∧ t.status = .running ∧ Ended t below o ∧ W t o
theorem Go.of {T T' : State} {g g' : JFrame} (q : ∀ t, Steps p.tables e below (T'.setTop g') t → Steps p.tables e below (T.setTop g) t) (k : Go p e below W T' g') : Go p e below W T g := by
  obtain ⟨t, o, h1, h2⟩ := k
  exact ⟨t, o, q t h1, h2⟩
theorem Go.ret (X : Stand p l e R s m args below meth c T locs cells slots) {g : JFrame} {v : Option Value} (hv : meth.sig.returnType = none → v = none) (hk : meth.locks = false)
    (st : ∀ fs, (∀ (f : JFrame) (acts : List Action), f.method = m → f.locked = none → f.entered = [] → (doReturn e (T.setTop f) acts v).1 = T.setFrames fs) → Steps p.tables e below (T.setTop g) (T.setFrames fs))
    (hq : ∀ t : State, t.heap = T.heap → FrameEnd s (.returned v) t locs cells slots → W t (.returned v)) : Go p e below W T g := by
  obtain ⟨fs, hr, hrun, hended, hW, hsame⟩ := X.leave (v := v) hv hk
  exact ⟨_, _, st fs hr, hrun, hended, hq _ rfl ⟨⟨_, rfl⟩, hW, hsame⟩⟩
/-- ireturn of a boolean, byte, char, short -/
theorem Go.retN (X : Stand p l e R s m args below meth c T locs cells slots) (hx : p.tables.exec = Jvm.exec) {pc : Nat} {Ls : Array Slot} {z w : Int32} {t : FieldType} {rest : List Value} (hret : meth.sig.returnType = some t) (ht : t = .boolean ∨ t = .byte ∨ t = .char ∨ t = .short) (hd : decode c.code pc = .ok (.ireturn, 1)) (hk : meth.locks = false) (hn : nar t z = w)
    (hq : ∀ t : State, t.heap = T.heap → FrameEnd s (.returned (some (.int w))) t locs cells slots → W t (.returned (some (.int w)))) : Go p e below W T (mkF m pc Ls (.int z :: rest)) := by
  subst hn
  exact Go.ret X (fun q => by rw [hret] at q; cases q) hk (fun fs hr => Jvm.RoadKit.retN X hx hret ht hd hr) hq
theorem Go.retI (X : Stand p l e R s m args below meth c T locs cells slots) (hx : p.tables.exec = Jvm.exec) {pc : Nat} {Ls : Array Slot} {z w : Int32} {rest : List Value} (hret : meth.sig.returnType = some .int) (hd : decode c.code pc = .ok (.ireturn, 1)) (hk : meth.locks = false) (hn : z = w)
    (hq : ∀ t : State, t.heap = T.heap → FrameEnd s (.returned (some (.int w))) t locs cells slots → W t (.returned (some (.int w)))) : Go p e below W T (mkF m pc Ls (.int z :: rest)) := by
  subst hn
  exact Go.ret X (fun q => by rw [hret] at q; cases q) hk (fun fs hr => retOut X hx hret rfl (Or.inl ⟨rfl, Or.inl rfl, z, rfl⟩) hd hr) hq
theorem Go.retJ (X : Stand p l e R s m args below meth c T locs cells slots) (hx : p.tables.exec = Jvm.exec) {pc : Nat} {Ls : Array Slot} {z w : Int64} {rest : List Value} (hret : meth.sig.returnType = some .long) (hd : decode c.code pc = .ok (.lreturn, 1)) (hk : meth.locks = false) (hn : z = w)
    (hq : ∀ t : State, t.heap = T.heap → FrameEnd s (.returned (some (.long w))) t locs cells slots → W t (.returned (some (.long w)))) : Go p e below W T (mkF m pc Ls (.long z :: rest)) := by
  subst hn
  exact Go.ret X (fun q => by rw [hret] at q; cases q) hk (fun fs hr => retOut X hx hret rfl (Or.inr (Or.inl ⟨rfl, rfl, z, rfl⟩)) hd hr) hq
theorem Go.retA (X : Stand p l e R s m args below meth c T locs cells slots) (hx : p.tables.exec = Jvm.exec) {pc : Nat} {Ls : Array Slot} {t : FieldType} {a : Addr} {rest : List Value} (hret : meth.sig.returnType = some t) (ht : t.isReference = true) (hnr : narrow t (.ref a) = .ref a) (hd : decode c.code pc = .ok (.areturn, 1)) (hk : meth.locks = false)
    (hq : ∀ t : State, t.heap = T.heap → FrameEnd s (.returned (some (.ref a))) t locs cells slots → W t (.returned (some (.ref a)))) : Go p e below W T (mkF m pc Ls (.ref a :: rest)) :=
  Go.ret X (fun q => by rw [hret] at q; cases q) hk (fun fs hr => retOut X hx hret hnr (Or.inr (Or.inr (Or.inr (Or.inr ⟨rfl, ht, rfl⟩)))) hd hr) hq
theorem Go.retV (X : Stand p l e R s m args below meth c T locs cells slots) (hx : p.tables.exec = Jvm.exec) {pc : Nat} {Ls : Array Slot} (hret : meth.sig.returnType = none) (hd : decode c.code pc = .ok (.return_, 1)) (hk : meth.locks = false)
    (hq : ∀ t : State, t.heap = T.heap → FrameEnd s (.returned none) t locs cells slots → W t (.returned none)) : Go p e below W T (mkF m pc Ls []) :=
  Go.ret X (fun _ => rfl) hk (fun fs hr => X.returnOut hx hret hd hr) hq
/-- a body's contract out of its walk -/
theorem own_body {y : MethodName} {bytes : ByteArray} {maxL : Nat} {ret : Option FieldType} {ws : List Jvm.Cond} {rm : Room} {as' : Array Value} {Q : Option Value → Heap → List Loc → Prop} {Ls : Array Slot} (hpn : plainFor y = true) (hef : ∀ m, entryFrame m as' maxL = mkF m 0 Ls [])
    (walk : ∀ (p : Program) (e : Env) (s : State) (m : MethodId) (below : List Frame) (meth : Method) (c : Code) (T : State) (W : State → Outcome → Prop), Stand p l e rm s m as' below meth c T [] 0 0 → p.tables.exec = Jvm.exec → c.code = bytes → c.maxLocals = maxL → meth.sig.returnType = ret → meth.locks = false → s.vm.findClass y.cls = some m.cls → meth.name = y.name → Z.Warmed39 s.vm → T.heap = h →
      (∀ (t : State) v L cells slots, Q v t.heap L → FrameEnd s (.returned v) t L cells slots → cells ≤ rm.cells → slots ≤ rm.slots → W t (.returned v)) → Go p e below W T (mkF m 0 Ls [])) :
    MetFree l y (head1 (Jvm.Cond.code y bytes maxL ret :: ws) rm) (fun a U => a = as' ∧ Z.Warmed39 U.vm ∧ U.heap = h) (fun _ _ _ _ _ => True) (fun _ U o U' => ∃ v L, o = .returned v ∧ Q v U'.heap L ∧ FrameEnd U o U' L rm.cells rm.slots) := by
  refine MetFree.of_bodySF hpn hisR ?_
  intro p e s m args below meth c s₁ Bd hml hP hK
  obtain ⟨rfl, hZ, hh⟩ := hP
  obtain ⟨t, o, h1, h2, h3, h4⟩ := walk p e s m below meth c s₁ (fun t o => ∃ v L, o = .returned v ∧ Q v t.heap L ∧ FrameEnd s o t L rm.cells rm.slots) (Stand.of_body Bd) Bd.exec Bd.bytes hml Bd.returns (BodyLoose.notSynchronized Bd) (findClass_of_methodNamed Bd.named) (name_of_methodNamed Bd.named Bd.method).1 hZ (by rw [← hh, Bd.state]; rfl)
    (fun t v L cells slots hQ hF hc hs => ⟨v, L, rfl, hQ, hF.1, hF.2.1, hF.2.2.mono hc hs⟩)
  exact ⟨t, o, castTop (hef m) h1, h2, h3, h4⟩
/-- a contract, written short -/
abbrev Con (l : Launch) (Z : State) (y : MethodName) (bytes : ByteArray) (maxL : Nat) (ret : Option FieldType) (ws : List Jvm.Cond) (rm : Room) (as' : Array Value) (h : Heap) (Q : Option Value → Heap → List Loc → Prop) : Prop :=
  MetFree l y (head1 (Jvm.Cond.code y bytes maxL ret :: ws) rm) (fun a U => a = as' ∧ Z.Warmed39 U.vm ∧ U.heap = h) (fun _ _ _ _ _ => True) (fun _ U o U' => ∃ v L, o = .returned v ∧ Q v U'.heap L ∧ FrameEnd U o U' L rm.cells rm.slots)
/-- what a callee that leaves the heap as it is says -/
def PQ (w : Value) (h0 : Heap) (v : Option Value) (h : Heap) (L : List Loc) : Prop := v = some w ∧ L = [] ∧ h = h0
theorem Go.callS (X : Stand p l e R s m args below meth c T locs cells slots) (hx : p.tables.exec = Jvm.exec) (hZ : Z.Warmed39 s.vm) {own : String} {index : Nat} {y : MethodName} {bytes : ByteArray} {maxL : Nat} {ret : Option FieldType} {rm : Room} {as' : Array Value} {Q : Option Value → Heap → List Loc → Prop} (hown : s.vm.findClass own = some m.cls)
    (w1 : (Jvm.Cond.methodLink own index y).before a0 Z = true) (w2 : (Jvm.Cond.static y).before a0 Z = true) (w3 : (Jvm.Cond.initialized y.cls).before a0 Z = true) (w4 : (Jvm.Cond.code y bytes maxL ret).before a0 Z = true) (hy : y.cls ≠ "java/lang/invoke/MethodHandle" ∧ y.cls ≠ "java/lang/invoke/VarHandle") (eT : T.heap = h)
    (hM : Con l Z y bytes maxL ret [] rm as' h Q) {V : Nat} (hf : rm.frames + 1 ≤ R.frames) (hl : V + (maxL + 11) + rm.locals ≤ R.locals) (hc : cells + rm.cells ≤ R.cells) (hs : slots + rm.slots ≤ R.slots)
    {pc : Nat} {Ls : Array Slot} {st : List Value} (hsize : Ls.size = c.maxLocals) {argsL rest : List Value} (has : argsL.toArray = as') (hlen : ∀ sig, parseMethodDescriptor y.desc = some sig → argsL.length = sig.parameters.length) (hstack : st = argsL.reverse ++ rest) (hV : (rest.map fun v => v.category).sum ≤ V) (hd : decode c.code pc = .ok (.invokestatic index, 3))
    (K : ∀ T' v L, Q v T'.heap L → Stand p l e R s m args below meth c T' (locs ++ L) (cells + rm.cells) (slots + rm.slots) → Go p e below W T' (mkF m (pc + 3) Ls (v.toList ++ rest))) : Go p e below W T (mkF m pc Ls st) := by
  obtain ⟨v, vm₁, ⟨T', L', k', n'⟩, -, X', ⟨L, hQ, e1, e2, e3⟩, st'⟩ := Jvm.LawKit.callS X hx hown (mvT hZ w1) (mvT hZ w2) (mvT hZ w3) (mvT hZ w4) hy (backOf (W := V) hM hZ w4 w3 hf hl) (g := mkF m pc Ls st) rfl hsize hlen hstack (by show 2 * 0 + _ ≤ _; omega) hd (fun _ _ => ⟨has, eT, hc, hs⟩)
  dsimp only [Pt.U, Pt.locs, Pt.cells, Pt.slots] at X' e1 e2 e3 st' hQ
  subst e1 e2 e3
  exact Go.of st' (K _ _ _ hQ X')
theorem Go.callP (X : Stand p l e R s m args below meth c T locs cells slots) (hx : p.tables.exec = Jvm.exec) (hZ : Z.Warmed39 s.vm) {own : String} {index : Nat} {y : MethodName} {bytes : ByteArray} {maxL : Nat} {ret : Option FieldType} {rm : Room} {as' : Array Value} {w : Value} (hown : s.vm.findClass own = some m.cls)
    (w1 : (Jvm.Cond.methodLink own index y).before a0 Z = true) (w2 : (Jvm.Cond.static y).before a0 Z = true) (w3 : (Jvm.Cond.initialized y.cls).before a0 Z = true) (w4 : (Jvm.Cond.code y bytes maxL ret).before a0 Z = true) (hy : y.cls ≠ "java/lang/invoke/MethodHandle" ∧ y.cls ≠ "java/lang/invoke/VarHandle") (eT : T.heap = h)
    (hM : Con l Z y bytes maxL ret [] rm as' h (PQ w h)) {V : Nat} (hf : rm.frames + 1 ≤ R.frames) (hl : V + (maxL + 11) + rm.locals ≤ R.locals) (z1 : rm.cells = 0) (z2 : rm.slots = 0) (hc : cells ≤ R.cells) (hs : slots ≤ R.slots)
    {pc : Nat} {Ls : Array Slot} {st : List Value} (hsize : Ls.size = c.maxLocals) {argsL rest : List Value} (has : argsL.toArray = as') (hlen : ∀ sig, parseMethodDescriptor y.desc = some sig → argsL.length = sig.parameters.length) (hstack : st = argsL.reverse ++ rest) (hV : (rest.map fun v => v.category).sum ≤ V) (hd : decode c.code pc = .ok (.invokestatic index, 3))
    (K : ∀ T', Stand p l e R s m args below meth c T' locs cells slots → T'.heap = h → Go p e below W T' (mkF m (pc + 3) Ls (w :: rest))) : Go p e below W T (mkF m pc Ls st) := by
  refine Go.callS X hx hZ hown w1 w2 w3 w4 hy eT hM hf hl (by rw [z1]; exact hc) (by rw [z2]; exact hs) hsize has hlen hstack hV hd ?_
  rintro T' v L ⟨rfl, rfl, h3⟩ X'
  rw [z1, z2, List.append_nil] at X'
  exact K T' X' h3
end OwnKit
section OwnHeap
variable {p : Program} {l : Launch} {e : Env} {R : Room} {s : State} {m : MethodId} {args : Array Value} {below : List Frame} {meth : Method} {c : Code} {T : State} {locs : List Loc} {cells slots : Nat} {Z : State} {a0 : Array Value} {h h' : Heap} {W : State → Outcome → Prop}
/-- an array: its kind, its length, the ints in its places -/
def AI (Z : State) (h : Heap) (a : Addr) (ty : FieldType) (n : Nat) (f : Nat → Int32) : Prop := ∃ cl : Cell, Arr Z h a cl ty ∧ cl.slots.size = n ∧ n < 2 ^ 31 ∧ ∀ j, j < n → cl.slots[j]? = some (.int (f j)) ∧ fits ty (.int (f j)) = true
theorem AI.lt {a : Addr} {ty : FieldType} {n : Nat} {f : Nat → Int32} (A : AI Z h a ty n f) : a < h.size := by obtain ⟨cl, A, -⟩ := A; exact A.lt
theorem AI.small {a : Addr} {ty : FieldType} {n : Nat} {f : Nat → Int32} (A : AI Z h a ty n f) : n < 2 ^ 31 := by obtain ⟨cl, -, -, h, -⟩ := A; exact h
theorem AI.ext {a : Addr} {ty : FieldType} {n : Nat} {f : Nat → Int32} (A : AI Z h a ty n f) (E : Ext h h') : AI Z h' a ty n f := by obtain ⟨cl, A, r⟩ := A; exact ⟨cl, A.ext E, r⟩
theorem AI.other {a b : Addr} {ty : FieldType} {n sl : Nat} {f : Nat → Int32} {v : Value} (A : AI Z h b ty n f) (W : Wr h h' a sl v) (q : b ≠ a) : AI Z h' b ty n f := by obtain ⟨cl, A, r⟩ := A; exact ⟨cl, A.other W q, r⟩
theorem AI.keep {a : Addr} {ty : FieldType} {n : Nat} {f : Nat → Int32} {ws : List Addr} (A : AI Z h a ty n f) (K : Keep h h' ws) (q : a ∉ ws) : AI Z h' a ty n f := by obtain ⟨cl, A, r⟩ := A; exact ⟨cl, ⟨K.2.1 a cl A.1 q, A.2⟩, r⟩
theorem AI.congr {a : Addr} {ty : FieldType} {n : Nat} {f g : Nat → Int32} (A : AI Z h a ty n f) (q : ∀ j, j < n → f j = g j) : AI Z h a ty n g := by obtain ⟨cl, A, r1, r2, r3⟩ := A; exact ⟨cl, A, r1, r2, fun j hj => by rw [← q j hj]; exact r3 j hj⟩
def upd (f : Nat → Int32) (i : Nat) (x : Int32) : Nat → Int32 := fun j => if j = i then x else f j
theorem AI.set {a : Addr} {ty : FieldType} {n i : Nat} {f : Nat → Int32} {x : Int32} (A : AI Z h a ty n f) (W : Wr h h' a i (.int x)) (hv : fits ty (.int x) = true) : AI Z h' a ty n (upd f i x) := by
  obtain ⟨cl, A, r1, r2, r3⟩ := A
  refine ⟨_, A.same W, by rw [sz_set]; exact r1, r2, fun j hj => ?_⟩
  simp only [Cell.setSlot, upd]
  by_cases q : j = i
  · subst q; rw [if_pos rfl]; exact ⟨by simp [r1, hj], hv⟩
  · rw [if_neg q, Array.getElem?_setIfInBounds_ne (Ne.symm q)]; exact r3 j hj
/-- a place within the length -/
def PV (h0 : Heap) (v : Option Value) (h : Heap) (L : List Loc) : Prop := v = none ∧ L = [] ∧ h = h0
def inb (j : Int32) (n : Nat) : Prop := ¬ j < 0 ∧ j.toNatClampNeg < n
theorem inb.no {cl : Cell} {j : Int32} {n : Nat} (q : inb j n) (r : cl.slots.size = n) : ¬ (j < 0 ∨ cl.slots.size ≤ j.toNatClampNeg) := by rw [r]; exact fun z => z.elim q.1 (fun z => absurd q.2 (Nat.not_lt.mpr z))
theorem Go.alen (X : Stand p l e R s m args below meth c T locs cells slots) (hx : p.tables.exec = Jvm.exec) (hZ : Z.Warmed39 s.vm) (eT : T.heap = h) {a : Addr} {ty : FieldType} {n : Nat} {f : Nat → Int32} (A : AI Z h a ty n f) {pc : Nat} {Ls : Array Slot} {st : List Value} (hd : decode c.code pc = .ok (.arraylength, 1))
    (K : Go p e below W T (mkF m (pc + 1) Ls (.int n.toInt32 :: st))) : Go p e below W T (mkF m pc Ls (.ref a :: st)) := by
  obtain ⟨cl, A, r1, -⟩ := A
  subst r1
  exact Go.of (fun t k => X.arraylength hx (by rw [eT]; exact A.1) (State.isArrayOf_alike hZ.alike A.2.1) (g := mkF m pc Ls (.ref a :: st)) rfl rfl hd t k) K
theorem Go.iald (X : Stand p l e R s m args below meth c T locs cells slots) (hx : p.tables.exec = Jvm.exec) (hZ : Z.Warmed39 s.vm) (eT : T.heap = h) {a : Addr} {n : Nat} {f : Nat → Int32} (A : AI Z h a .int n f) {j : Int32} (hj : inb j n) {pc : Nat} {Ls : Array Slot} {st : List Value} (hd : decode c.code pc = .ok (.iaload, 1))
    (K : Go p e below W T (mkF m (pc + 1) Ls (.int (f j.toNatClampNeg) :: st))) : Go p e below W T (mkF m pc Ls (.int j :: .ref a :: st)) := by
  obtain ⟨cl, A, r1, -, r3⟩ := A
  exact Go.of (fun t k => X.iaload hx (j := j) (v := .int (f j.toNatClampNeg)) (by rw [eT]; exact A.1) (State.isArrayOf_alike hZ.alike A.2.1) A.2.2 (hj.no r1) (r3 _ hj.2).1 (g := mkF m pc Ls (.int j :: .ref a :: st)) rfl rfl hd t k) K
theorem Go.cald (X : Stand p l e R s m args below meth c T locs cells slots) (hx : p.tables.exec = Jvm.exec) (hZ : Z.Warmed39 s.vm) (eT : T.heap = h) {a : Addr} {n : Nat} {f : Nat → Int32} (A : AI Z h a .char n f) {j : Int32} (hj : inb j n) {pc : Nat} {Ls : Array Slot} {st : List Value} (hd : decode c.code pc = .ok (.caload, 1))
    (K : Go p e below W T (mkF m (pc + 1) Ls (.int (f j.toNatClampNeg) :: st))) : Go p e below W T (mkF m pc Ls (.int j :: .ref a :: st)) := by
  obtain ⟨cl, A, r1, -, r3⟩ := A
  exact Go.of (fun t k => X.caload hx (j := j) (v := .int (f j.toNatClampNeg)) (by rw [eT]; exact A.1) (State.isArrayOf_alike hZ.alike A.2.1) A.2.2 (hj.no r1) (r3 _ hj.2).1 (g := mkF m pc Ls (.int j :: .ref a :: st)) rfl rfl hd t k) K
theorem Go.bald (X : Stand p l e R s m args below meth c T locs cells slots) (hx : p.tables.exec = Jvm.exec) (hZ : Z.Warmed39 s.vm) (eT : T.heap = h) {a : Addr} {n : Nat} {f : Nat → Int32} (A : AI Z h a .byte n f) {j : Int32} (hj : inb j n) {pc : Nat} {Ls : Array Slot} {st : List Value} (hd : decode c.code pc = .ok (.baload, 1))
    (K : Go p e below W T (mkF m (pc + 1) Ls (.int (f j.toNatClampNeg) :: st))) : Go p e below W T (mkF m pc Ls (.int j :: .ref a :: st)) := by
  obtain ⟨cl, A, r1, -, r3⟩ := A
  exact Go.of (fun t k => X.baloadBytes hx (j := j) (v := .int (f j.toNatClampNeg)) (by rw [eT]; exact A.1) (State.isArrayOf_alike hZ.alike A.2.1) A.2.2 (hj.no r1) (r3 _ hj.2).1 (g := mkF m pc Ls (.int j :: .ref a :: st)) rfl rfl hd t k) K
theorem Go.zald (X : Stand p l e R s m args below meth c T locs cells slots) (hx : p.tables.exec = Jvm.exec) (hZ : Z.Warmed39 s.vm) (eT : T.heap = h) {a : Addr} {n : Nat} {f : Nat → Int32} (A : AI Z h a .boolean n f) {j : Int32} (hj : inb j n) {pc : Nat} {Ls : Array Slot} {st : List Value} (hd : decode c.code pc = .ok (.baload, 1))
    (K : Go p e below W T (mkF m (pc + 1) Ls (.int (f j.toNatClampNeg) :: st))) : Go p e below W T (mkF m pc Ls (.int j :: .ref a :: st)) := by
  obtain ⟨cl, A, r1, -, r3⟩ := A
  exact Go.of (fun t k => X.baloadBooleans hx (j := j) (v := .int (f j.toNatClampNeg)) (by rw [eT]; exact A.1) (State.isArrayOf_alike hZ.alike A.2.1) A.2.2 (hj.no r1) (r3 _ hj.2).1 (g := mkF m pc Ls (.int j :: .ref a :: st)) rfl rfl hd t k) K
theorem Go.ist (X : Stand p l e R s m args below meth c T locs cells slots) (hx : p.tables.exec = Jvm.exec) (hZ : Z.Warmed39 s.vm) (eT : T.heap = h) {n0 : Nat} (N : Fr n0 locs) {a : Addr} (ga : n0 ≤ a) {n : Nat} {f : Nat → Int32} (A : AI Z h a .int n f) {j x : Int32} (hj : inb j n) {pc : Nat} {Ls : Array Slot} {st : List Value} (hd : decode c.code pc = .ok (.iastore, 1))
    (K : ∀ T' h' L', Stand p l e R s m args below meth c T' L' cells slots → Fr n0 L' → T'.heap = h' → Wr h h' a j.toNatClampNeg (.int x) → AI Z h' a .int n (upd f j.toNatClampNeg x) → Go p e below W T' (mkF m (pc + 1) Ls st)) : Go p e below W T (mkF m pc Ls (.int x :: .int j :: .ref a :: st)) := by
  obtain ⟨cl, A', r1, r2, r3⟩ := id A
  obtain ⟨T', h', X', e', W', st'⟩ := stI X hx hZ eT A' (j := j) (hj.no r1) (g := mkF m pc Ls (.int x :: .int j :: .ref a :: st)) rfl rfl hd
  exact Go.of st' (K _ _ _ X' (Fr.snoc X' N ga) e' W' (A.set W' rfl))
theorem Go.bst (X : Stand p l e R s m args below meth c T locs cells slots) (hx : p.tables.exec = Jvm.exec) (hZ : Z.Warmed39 s.vm) (eT : T.heap = h) {n0 : Nat} (N : Fr n0 locs) {a : Addr} (ga : n0 ≤ a) {n : Nat} {f : Nat → Int32} (A : AI Z h a .byte n f) {j x : Int32} (hj : inb j n) {pc : Nat} {Ls : Array Slot} {st : List Value} (hd : decode c.code pc = .ok (.bastore, 1))
    (K : ∀ T' h' L', Stand p l e R s m args below meth c T' L' cells slots → Fr n0 L' → T'.heap = h' → Wr h h' a j.toNatClampNeg (.int (nar .byte x)) → AI Z h' a .byte n (upd f j.toNatClampNeg (nar .byte x)) → Go p e below W T' (mkF m (pc + 1) Ls st)) : Go p e below W T (mkF m pc Ls (.int x :: .int j :: .ref a :: st)) := by
  obtain ⟨cl, A', r1, r2, r3⟩ := id A
  obtain ⟨T', h', X', e', W', st'⟩ := stB X hx hZ eT A' (j := j) (hj.no r1) (g := mkF m pc Ls (.int x :: .int j :: .ref a :: st)) rfl rfl hd
  exact Go.of st' (K _ _ _ X' (Fr.snoc X' N ga) e' W' (A.set W' (fits_nar_byte _)))
theorem Go.zst (X : Stand p l e R s m args below meth c T locs cells slots) (hx : p.tables.exec = Jvm.exec) (hZ : Z.Warmed39 s.vm) (eT : T.heap = h) {n0 : Nat} (N : Fr n0 locs) {a : Addr} (ga : n0 ≤ a) {n : Nat} {f : Nat → Int32} (A : AI Z h a .boolean n f) {j x : Int32} (hj : inb j n) {pc : Nat} {Ls : Array Slot} {st : List Value} (hd : decode c.code pc = .ok (.bastore, 1))
    (K : ∀ T' h' L', Stand p l e R s m args below meth c T' L' cells slots → Fr n0 L' → T'.heap = h' → Wr h h' a j.toNatClampNeg (.int (nar .boolean x)) → AI Z h' a .boolean n (upd f j.toNatClampNeg (nar .boolean x)) → Go p e below W T' (mkF m (pc + 1) Ls st)) : Go p e below W T (mkF m pc Ls (.int x :: .int j :: .ref a :: st)) := by
  obtain ⟨cl, A', r1, r2, r3⟩ := id A
  obtain ⟨T', h', X', e', W', st'⟩ := stZ X hx hZ eT A' (j := j) (hj.no r1) (g := mkF m pc Ls (.int x :: .int j :: .ref a :: st)) rfl rfl hd
  exact Go.of st' (K _ _ _ X' (Fr.snoc X' N ga) e' W' (A.set W' (fits_nar_bool _)))
theorem Go.cst (X : Stand p l e R s m args below meth c T locs cells slots) (hx : p.tables.exec = Jvm.exec) (hZ : Z.Warmed39 s.vm) (eT : T.heap = h) {n0 : Nat} (N : Fr n0 locs) {a : Addr} (ga : n0 ≤ a) {n : Nat} {f : Nat → Int32} (A : AI Z h a .char n f) {j x : Int32} (hj : inb j n) {pc : Nat} {Ls : Array Slot} {st : List Value} (hd : decode c.code pc = .ok (.castore, 1))
    (K : ∀ T' h' L', Stand p l e R s m args below meth c T' L' cells slots → Fr n0 L' → T'.heap = h' → Wr h h' a j.toNatClampNeg (.int (nar .char x)) → AI Z h' a .char n (upd f j.toNatClampNeg (nar .char x)) → Go p e below W T' (mkF m (pc + 1) Ls st)) : Go p e below W T (mkF m pc Ls (.int x :: .int j :: .ref a :: st)) := by
  obtain ⟨cl, A', r1, r2, r3⟩ := id A
  obtain ⟨T', h', X', e', W', st'⟩ := stC X hx hZ eT A' (j := j) (hj.no r1) (g := mkF m pc Ls (.int x :: .int j :: .ref a :: st)) rfl rfl hd
  exact Go.of st' (K _ _ _ X' (Fr.snoc X' N ga) e' W' (A.set W' (fits_nar_char _)))
theorem AI.new {b cA : Nat} {ty : FieldType} {n : Int32} (A : Arr Z h b (newA cA ty n) ty) (hd : defaultValue ty = .int 0) (hf : fits ty (.int 0) = true) : AI Z h b ty n.toNatClampNeg (fun _ => 0) := by
  refine ⟨_, A, sz_new _ _ _, ?_, fun j hj => ?_⟩
  · show n.toInt.toNat < 2 ^ 31
    have := n.toInt_lt; omega
  · exact ⟨by simp [newA, hj, hd], hf⟩
theorem Go.newA (X : Stand p l e R s m args below meth c T locs cells slots) (hx : p.tables.exec = Jvm.exec) (hZ : Z.Warmed39 s.vm) {aty : ArrayType} (w : (Jvm.Cond.arrayClass (newarray.typeOf aty)).before a0 Z = true) (hdef : defaultValue (newarray.typeOf aty) = .int 0) (hft : fits (newarray.typeOf aty) (.int 0) = true) {ad : String} (had : "[" ++ (newarray.typeOf aty).toString = ad) (eT : T.heap = h) {pc : Nat} {Ls : Array Slot} {n : Int32} {st : List Value} (hd : decode c.code pc = .ok (.newarray aty, 2))
    (hn : ¬ n < 0) {cap : Nat} (hcap : n.toNatClampNeg ≤ cap) (hb : cap * 8 ≤ 536870912) (hc : cells + 1 ≤ R.cells) (hl : slots + cap ≤ R.slots)
    (K : ∀ T' h' b, b = h.size → Stand p l e R s m args below meth c T' locs (cells + 1) (slots + cap) → T'.heap = h' → Ext h h' → Exa Z h' b ad → AI Z h' b (newarray.typeOf aty) n.toNatClampNeg (fun _ => 0) → Go p e below W T' (mkF m (pc + 2) Ls (.ref b :: st))) : Go p e below W T (mkF m pc Ls (.int n :: st)) := by
  obtain ⟨T', h', cA, X', e', E', A', B', st'⟩ := newPE X hx hZ w eT (g := mkF m pc Ls (.int n :: st)) rfl hd rfl hn hcap hb hc hl had
  exact Go.of st' (K _ _ _ rfl X' e' E' B' (AI.new A' hdef hft))
theorem Go.newO (X : Stand p l e R s m args below meth c T locs cells slots) (hx : p.tables.exec = Jvm.exec) (hZ : Z.Warmed39 s.vm) {own C : String} {index n : Nat} (hown : s.vm.findClass own = some m.cls) (w : (Jvm.Cond.classLink own index C).before a0 Z = true) (wi : (Jvm.Cond.instantiable C n).before a0 Z = true) (wz : (Jvm.Cond.initialized C).before a0 Z = true) (eT : T.heap = h)
    {pc : Nat} {Ls : Array Slot} {st : List Value} (hd : decode c.code pc = .ok (.new index, 3)) (hc : cells + 1 ≤ R.cells) (hl : slots + n ≤ R.slots)
    (K : ∀ T' h' b, b = h.size → Stand p l e R s m args below meth c T' locs (cells + 1) (slots + n) → T'.heap = h' → Ext h h' → Exa Z h' b C → (∀ {O nm d : String} {ty : FieldType}, Laid Z a0 C O nm d → parseFieldDescriptor d = some ty → Fld Z h' b O nm d (defaultValue ty)) → Go p e below W T' (mkF m (pc + 3) Ls (.ref b :: st))) : Go p e below W T (mkF m pc Ls st) := by
  obtain ⟨T', h', X', e', E', A', D', -, st'⟩ := Jvm.RoadKit.newO X hx hZ hown w wi wz eT (g := mkF m pc Ls st) rfl hd hc hl
  exact Go.of st' (K _ _ _ rfl X' e' E' A' D')
theorem Go.getF (X : Stand p l e R s m args below meth c T locs cells slots) (hx : p.tables.exec = Jvm.exec) (hZ : Z.Warmed39 s.vm) {own O n d : String} {index : Nat} (hown : s.vm.findClass own = some m.cls) (w : (Jvm.Cond.fieldLink own index O n d).before a0 Z = true) (eT : T.heap = h) {a : Addr} {v : Value} (F : Fld Z h a O n d v)
    {pc : Nat} {Ls : Array Slot} {st : List Value} (hd : decode c.code pc = .ok (.getfield index, 3)) (K : ∀ T', Stand p l e R s m args below meth c T' locs cells slots → T'.heap = h → Go p e below W T' (mkF m (pc + 3) Ls (v :: st))) : Go p e below W T (mkF m pc Ls (.ref a :: st)) := by
  obtain ⟨T', X', e', st'⟩ := Jvm.RoadKit.getF X hx hZ hown (host := "") (Or.inl w) Via.refl eT F (g := mkF m pc Ls (.ref a :: st)) rfl rfl hd
  exact Go.of st' (K _ X' e')
theorem Go.putF (X : Stand p l e R s m args below meth c T locs cells slots) (hx : p.tables.exec = Jvm.exec) (hZ : Z.Warmed39 s.vm) {own O n d C : String} {index kk : Nat} {ty : FieldType} (hown : s.vm.findClass own = some m.cls) (w : (Jvm.Cond.fieldLink own index O n d).before a0 Z = true) (eT : T.heap = h) {n0 : Nat} (N : Fr n0 locs) {a : Addr} (ga : n0 ≤ a) {v old : Value} (F : Fld Z h a O n d old) (E : Exa Z h a C)
    (L : (Jvm.Cond.lays C O n d).before a0 Z = true ∨ ((Jvm.Cond.laysFinal C O n d).before a0 Z = true ∧ own = O ∧ meth.name = "<init>")) (wi : (Jvm.Cond.instantiable C kk).before a0 Z = true) (hty : parseFieldDescriptor d = some ty) {v' : Value} (hn : narrow ty v = v') (hf : fits ty v' = true)
    {pc : Nat} {Ls : Array Slot} {st : List Value} (hd : decode c.code pc = .ok (.putfield index, 3)) (K : ∀ T' h' L', Stand p l e R s m args below meth c T' L' cells slots → Fr n0 L' → T'.heap = h' → Wr h h' a (Jvm.RoadKit.slotOf Z O n d) v' → Fld Z h' a O n d v' → Go p e below W T' (mkF m (pc + 3) Ls st)) : Go p e below W T (mkF m pc Ls (v :: .ref a :: st)) := by
  obtain ⟨T', h', X', e', W', st'⟩ := putFN X hx hZ hown w Via.refl eT F E L wi hty hn hf (g := mkF m pc Ls (v :: .ref a :: st)) rfl rfl hd
  exact Go.of st' (K _ _ _ X' (Fr.snoc X' N ga) e' W' (F.same W'))
theorem Go.initO (X : Stand p l e R s m args below meth c T locs cells slots) (hx : p.tables.exec = Jvm.exec) (hZ : Z.Warmed39 s.vm) {own : String} {idx : Nat} (hown : s.vm.findClass own = some m.cls) (w1 : (Jvm.Cond.methodLink own idx Lib.objectInit).before a0 Z = true) (w2 : (Jvm.Cond.instanceMethod Lib.objectInit).before a0 Z = true)
    (w3 : (Jvm.Cond.code Lib.objectInit Jvm.LibCode.Object.Init0.code 1 none).before a0 Z = true) (eT : T.heap = h) {pc : Nat} {Ls : Array Slot} {st : List Value} (hsize : Ls.size = c.maxLocals) {a : Addr} (hd : decode c.code pc = .ok (.invokespecial idx, 3)) (hf : 1 ≤ R.frames) {V : Nat} (hV : (st.map fun v => v.category).sum ≤ V) (hl : V + 12 ≤ R.locals)
    (K : ∀ T', Stand p l e R s m args below meth c T' locs cells slots → T'.heap = h → Go p e below W T' (mkF m (pc + 3) Ls st)) : Go p e below W T (mkF m pc Ls (.ref a :: st)) := by
  obtain ⟨T', X', e', st'⟩ := Jvm.RoadKit.initO X hx hZ hown w1 w2 w3 eT (g := mkF m pc Ls (.ref a :: st)) rfl hsize rfl hd hf (W := V) (by show 2 * 0 + _ ≤ _; omega) hl
  exact Go.of st' (K _ X' e')
/-- a constructor by its contract -/
theorem Go.callI (X : Stand p l e R s m args below meth c T locs cells slots) (hx : p.tables.exec = Jvm.exec) (hZ : Z.Warmed39 s.vm) {own : String} {index : Nat} {y : MethodName} {bytes : ByteArray} {maxL : Nat} {rm : Room} {as' : Array Value} {Q : Option Value → Heap → List Loc → Prop} (hy1 : y.name = "<init>") (hown : s.vm.findClass own = some m.cls)
    (w1 : (Jvm.Cond.methodLink own index y).before a0 Z = true) (w2 : (Jvm.Cond.instanceMethod y).before a0 Z = true) (w3 : (Jvm.Cond.initialized y.cls).before a0 Z = true) (w4 : (Jvm.Cond.code y bytes maxL none).before a0 Z = true) (hy : y.cls ≠ "java/lang/invoke/MethodHandle" ∧ y.cls ≠ "java/lang/invoke/VarHandle") (eT : T.heap = h)
    (hM : Con l Z y bytes maxL none [] rm as' h Q) {V : Nat} (hf : rm.frames + 1 ≤ R.frames) (hl : V + (maxL + 11) + rm.locals ≤ R.locals) (hc : cells + rm.cells ≤ R.cells) (hs : slots + rm.slots ≤ R.slots)
    {pc : Nat} {Ls : Array Slot} {st : List Value} (hsize : Ls.size = c.maxLocals) {a : Addr} {argsL rest : List Value} (has : (.ref a :: argsL).toArray = as') (hlen : ∀ sig, parseMethodDescriptor y.desc = some sig → argsL.length = sig.parameters.length) (hstack : st = argsL.reverse ++ .ref a :: rest) (hV : (rest.map fun v => v.category).sum ≤ V) (hd : decode c.code pc = .ok (.invokespecial index, 3))
    (K : ∀ T' v L, Q v T'.heap L → Stand p l e R s m args below meth c T' (locs ++ L) (cells + rm.cells) (slots + rm.slots) → Go p e below W T' (mkF m (pc + 3) Ls (v.toList ++ rest))) : Go p e below W T (mkF m pc Ls st) := by
  obtain ⟨v, vm₁, ⟨T', L', k', n'⟩, -, X', ⟨L, hQ, e1, e2, e3⟩, st'⟩ := X.specialBack hx hy1 hown (mvT hZ w1) (mvT hZ w2) (mvT hZ w4) hy (backOf (W := V) hM hZ w4 w3 hf hl) (g := mkF m pc Ls st) rfl hsize (Steps.refl _) hlen hstack (by show 2 * 0 + _ ≤ _; omega) hd (fun _ _ => ⟨has, eT, hc, hs⟩)
  dsimp only [Pt.U, Pt.locs, Pt.cells, Pt.slots] at X' e1 e2 e3 st' hQ
  subst e1 e2 e3
  exact Go.of (fun _ k => st'.trans k) (K _ _ _ hQ X')
/-- an instance method by the contract of the body that the receiver's class selects -/
theorem Go.callV (X : Stand p l e R s m args below meth c T locs cells slots) (hx : p.tables.exec = Jvm.exec) (hZ : Z.Warmed39 s.vm) {own C : String} {index : Nat} {y : MethodName} {bytes : ByteArray} {maxL : Nat} {ret : Option FieldType} {rm : Room} {as' : Array Value} {Q : Option Value → Heap → List Loc → Prop} (hown : s.vm.findClass own = some m.cls)
    (w1 : (Jvm.Cond.methodLink own index y).before a0 Z = true) (w5 : (Jvm.Cond.declares y).before a0 Z = true) (w6 : (Jvm.Cond.selects C y y).before a0 Z = true) (w2 : (Jvm.Cond.instanceMethod y).before a0 Z = true) (w3 : (Jvm.Cond.initialized y.cls).before a0 Z = true) (w4 : (Jvm.Cond.code y bytes maxL ret).before a0 Z = true) (hy : y.cls ≠ "java/lang/invoke/MethodHandle" ∧ y.cls ≠ "java/lang/invoke/VarHandle") (eT : T.heap = h)
    {a : Addr} (E : Exa Z h a C) (hM : Con l Z y bytes maxL ret [] rm as' h Q) {V : Nat} (hf : rm.frames + 1 ≤ R.frames) (hl : V + (maxL + 11) + rm.locals ≤ R.locals) (hc : cells + rm.cells ≤ R.cells) (hs : slots + rm.slots ≤ R.slots)
    {pc : Nat} {Ls : Array Slot} {st : List Value} (hsize : Ls.size = c.maxLocals) {argsL rest : List Value} (has : (.ref a :: argsL).toArray = as') (hlen : ∀ sig, parseMethodDescriptor y.desc = some sig → argsL.length = sig.parameters.length) (hstack : st = argsL.reverse ++ .ref a :: rest) (hV : (rest.map fun v => v.category).sum ≤ V) (hd : decode c.code pc = .ok (.invokevirtual index, 3))
    (K : ∀ T' v L, Q v T'.heap L → Stand p l e R s m args below meth c T' (locs ++ L) (cells + rm.cells) (slots + rm.slots) → Go p e below W T' (mkF m (pc + 3) Ls (v.toList ++ rest))) : Go p e below W T (mkF m pc Ls st) := by
  obtain ⟨cq, kq, qa, qb, qc⟩ := isOf hZ eT E
  obtain ⟨v, vm₁, ⟨T', L', k', n'⟩, -, X', ⟨L, hQ, e1, e2, e3⟩, st'⟩ := X.virtualBack hx hown (mvT hZ w1) (mvT hZ w5) (notFace_of_selects (args := #[]) (mvT hZ w6)) (mvT hZ w6) (mvT hZ w2) hy (backOf (W := V) hM hZ w4 w3 hf hl) qa qc (g := mkF m pc Ls st) rfl hsize (Steps.refl _) hlen hstack (by show 2 * 0 + _ ≤ _; omega) hd (fun _ _ => ⟨has, eT, hc, hs⟩)
  dsimp only [Pt.U, Pt.locs, Pt.cells, Pt.slots] at X' e1 e2 e3 st' hQ
  subst e1 e2 e3
  exact Go.of (fun _ k => st'.trans k) (K _ _ _ hQ X')
end OwnHeap
section OwnMore
variable {p : Program} {l : Launch} {e : Env} {R : Room} {s : State} {m : MethodId} {args : Array Value} {below : List Frame} {meth : Method} {c : Code} {T : State} {locs : List Loc} {cells slots : Nat} {Z : State} {a0 : Array Value} {h h' : Heap} {W : State → Outcome → Prop}
/-- the model's own selection picks a private method itself -/
theorem own_selects {y : MethodName} {n : Nat} (hy : y.cls ≠ "java/lang/invoke/MethodHandle" ∧ y.cls ≠ "java/lang/invoke/VarHandle") (hins : (Jvm.Cond.instantiable y.cls n).before args s = true) (hpriv : (Jvm.Cond.privateMethod y).before args s = true) (hinst : (Jvm.Cond.instanceMethod y).before args s = true) :
    (Jvm.Cond.selects y.cls y y).before args s = true := by
  obtain ⟨c, k, hc, hk, -, hniab, -, -⟩ := Cond.instantiable_spec hins
  have hni : k.isInterface = false := (Bool.or_eq_false_iff.mp hniab).1
  obtain ⟨mk, methM, hnamed, hmethM, -, -⟩ := Cond.instanceMethod_spec hinst
  have hfound : s.methodFound? y.cls y.name y.desc = some mk := State.methodFound?_of_named hnamed hy
  have hcls : mk.cls = c := Option.some.inj ((findClass_of_methodNamed hnamed).symm.trans hc)
  have hsel : selectMethod {} s.vm c mk = .method mk := selectMethod_private hmethM (Cond.privateMethod_at hpriv mk methM hnamed hmethM)
  simp only [Cond.before, Cond.holds, Cond.value, hc, hfound, hnamed, hsel, hcls, hk]
  simp; exact hni
theorem Go.callPr (X : Stand p l e R s m args below meth c T locs cells slots) (hx : p.tables.exec = Jvm.exec) (hZ : Z.Warmed39 s.vm) {own : String} {index kk : Nat} {y : MethodName} {bytes : ByteArray} {maxL : Nat} {ret : Option FieldType} {rm : Room} {as' : Array Value} {Q : Option Value → Heap → List Loc → Prop} (hown : s.vm.findClass own = some m.cls)
    (w1 : (Jvm.Cond.methodLink own index y).before a0 Z = true) (w5 : (Jvm.Cond.instantiable y.cls kk).before a0 Z = true) (w6 : (Jvm.Cond.privateMethod y).before a0 Z = true) (w2 : (Jvm.Cond.instanceMethod y).before a0 Z = true) (w3 : (Jvm.Cond.initialized y.cls).before a0 Z = true) (w4 : (Jvm.Cond.code y bytes maxL ret).before a0 Z = true) (hy : y.cls ≠ "java/lang/invoke/MethodHandle" ∧ y.cls ≠ "java/lang/invoke/VarHandle") (eT : T.heap = h)
    {a : Addr} {C : String} (E : Exa Z h a C) (hM : Con l Z y bytes maxL ret [] rm as' h Q) {V : Nat} (hf : rm.frames + 1 ≤ R.frames) (hl : V + (maxL + 11) + rm.locals ≤ R.locals) (hc : cells + rm.cells ≤ R.cells) (hs : slots + rm.slots ≤ R.slots)
    {pc : Nat} {Ls : Array Slot} {st : List Value} (hsize : Ls.size = c.maxLocals) {argsL rest : List Value} (has : (.ref a :: argsL).toArray = as') (hlen : ∀ sig, parseMethodDescriptor y.desc = some sig → argsL.length = sig.parameters.length) (hstack : st = argsL.reverse ++ .ref a :: rest) (hV : (rest.map fun v => v.category).sum ≤ V) (hd : decode c.code pc = .ok (.invokevirtual index, 3))
    (K : ∀ T' v L, Q v T'.heap L → Stand p l e R s m args below meth c T' (locs ++ L) (cells + rm.cells) (slots + rm.slots) → Go p e below W T' (mkF m (pc + 3) Ls (v.toList ++ rest))) : Go p e below W T (mkF m pc Ls st) := by
  obtain ⟨cq, q1, q2⟩ := E.cell
  obtain ⟨v, vm₁, ⟨T', L', k', n'⟩, -, X', ⟨L, hQ, e1, e2, e3⟩, st'⟩ := X.privateBack hx hown (mvT hZ w1) (mvT hZ w2) (own_selects hy (mvT hZ w5) (mvP hZ w6) (mvT hZ w2)) (Cond.privateMethod_at (mvP hZ w6 (args := #[]))) (mvT hZ w4) hy (backOf (W := V) hM hZ w4 w3 hf hl) (g := mkF m pc Ls st) rfl hsize (Steps.refl _) (a := a) (by rw [eT]; exact q1) q2 hlen hstack (by show 2 * 0 + _ ≤ _; omega) hd (fun _ _ => ⟨has, eT, hc, hs⟩)
  dsimp only [Pt.U, Pt.locs, Pt.cells, Pt.slots] at X' e1 e2 e3 st' hQ
  subst e1 e2 e3
  exact Go.of (fun _ k => st'.trans k) (K _ _ _ hQ X')
theorem Go.clone (X : Stand p l e R s m args below meth c T locs cells slots) (hx : p.tables.exec = Jvm.exec) (hZ : Z.Warmed39 s.vm) {own ad : String} {index : Nat} (hown : s.vm.findClass own = some m.cls)
    (w1 : (Jvm.Cond.methodLink own index ⟨ad, "clone", "()Ljava/lang/Object;"⟩).before a0 Z = true) (w2 : (Jvm.Cond.sameMethod ad "java/lang/Object" "clone" "()Ljava/lang/Object;").before a0 Z = true) (w3 : (Jvm.Cond.native ⟨"java/lang/Object", "clone", "()Ljava/lang/Object;"⟩).before a0 Z = true)
    (w4 : (Jvm.Cond.instanceMethod ⟨"java/lang/Object", "clone", "()Ljava/lang/Object;"⟩).before a0 Z = true) (w5 : (Jvm.Cond.selects ad ⟨ad, "clone", "()Ljava/lang/Object;"⟩ ⟨"java/lang/Object", "clone", "()Ljava/lang/Object;"⟩).before a0 Z = true) (w6 : (Jvm.Cond.castable ad "java/lang/Cloneable").before a0 Z = true)
    (eT : T.heap = h) {a : Addr} {ty : FieldType} {n : Nat} {f : Nat → Int32} (A : AI Z h a ty n f) (E : Exa Z h a ad) {pc : Nat} {Ls : Array Slot} {st : List Value} (hsize : Ls.size = c.maxLocals) (hd : decode c.code pc = .ok (.invokevirtual index, 3))
    (hf : 1 ≤ R.frames) {V cap : Nat} (hV : (st.map fun v => v.category).sum ≤ V) (hl : V + 14 ≤ R.locals) (hcap : n ≤ cap) (hc : cells + 1 ≤ R.cells) (hsl : slots + cap ≤ R.slots)
    (K : ∀ T' h' b, b = h.size → Stand p l e R s m args below meth c T' locs (cells + 1) (slots + cap) → T'.heap = h' → Ext h h' → Exa Z h' b ad → AI Z h' b ty n f → Go p e below W T' (mkF m (pc + 3) Ls (.ref b :: st))) : Go p e below W T (mkF m pc Ls (.ref a :: st)) := by
  obtain ⟨cl, A', r1, r2, r3⟩ := id A
  have FC : FitC Z cl := fitC_of A' fun i hi v hv => by rw [(r3 i (r1 ▸ hi)).1] at hv; cases hv; exact (r3 i (r1 ▸ hi)).2
  obtain ⟨T', h', X', e', ex, B', E', st'⟩ := cloneA X hx hZ hown w1 w2 w3 w4 w5 w6 eT A' E FC (g := mkF m pc Ls (.ref a :: st)) rfl hsize rfl hd hf (W := V) (by show 2 * 0 + _ ≤ _; omega) hl (by rw [r1]; exact hcap) hc hsl
  exact Go.of st' (K _ _ _ rfl X' e' ex E' ⟨cloneOf cl, B', r1, r2, r3⟩)
theorem Go.cast (X : Stand p l e R s m args below meth c T locs cells slots) (hx : p.tables.exec = Jvm.exec) (hZ : Z.Warmed39 s.vm) {own C : String} {index : Nat} (hown : s.vm.findClass own = some m.cls) (w : (Jvm.Cond.classLink own index C).before a0 Z = true) (eT : T.heap = h) {a : Addr} (E : Exa Z h a C)
    {pc : Nat} {Ls : Array Slot} {st : List Value} (hd : decode c.code pc = .ok (.checkcast index, 3)) (K : ∀ T', Stand p l e R s m args below meth c T' locs cells slots → T'.heap = h → Go p e below W T' (mkF m (pc + 3) Ls (.ref a :: st))) : Go p e below W T (mkF m pc Ls (.ref a :: st)) := by
  obtain ⟨T', X', e', st'⟩ := castY X hx hZ hown w eT (Ins.self E) (g := mkF m pc Ls (.ref a :: st)) rfl rfl hd
  exact Go.of st' (K _ X' e')
theorem AI.arv {a : Addr} {ty : FieldType} {n : Nat} {f : Nat → Int32} (A : AI Z h a ty n f) : ∃ k, Arv Z h a k ty (Int32.ofNat n) ((List.range n).map fun j => .int (f j)) (.int 0) := by
  obtain ⟨cl, A, r1, r2, r3⟩ := A
  have e1 : (Int32.ofNat n).toInt = n := Int32.toInt_ofNat_of_lt (by omega)
  have e2 : (Int32.ofNat n).toNatClampNeg = n := by rw [Int32.toNatClampNeg, e1]; rfl
  have e3 : ∀ k, k < n → ((List.range n).map fun j => Value.int (f j)).getD k (.int 0) = .int (f k) := fun k hk => by simp [List.getD_eq_getElem?_getD, hk]
  refine ⟨cl.cls, cl, A, rfl, by rw [e2]; exact r1, ?_, fun k hk => ?_, fun k hk => ?_⟩
  · rw [Int32.lt_iff_toInt_lt, e1, show (0 : Int32).toInt = 0 from rfl]; omega
  · rw [e3 k (r1 ▸ hk)]; exact (r3 k (r1 ▸ hk)).1
  · rw [e3 k (r1 ▸ hk)]; exact (r3 k (r1 ▸ hk)).2
theorem AI.of_arv {a : Addr} {k : ClassId} {ty : FieldType} {n : Nat} {z : Int32} {vs : List Value} {d : Value} {f : Nat → Int32} (A : Arv Z h a k ty z vs d) (hz : z.toNatClampNeg = n) (hn : n < 2 ^ 31) (q : ∀ j, j < n → vs.getD j d = .int (f j)) : AI Z h a ty n f := by
  obtain ⟨cl, A, -, S, -, H, G⟩ := A
  rw [hz] at S
  exact ⟨cl, A, S, hn, fun j hj => by rw [← q j hj]; exact ⟨H j (by omega), G j (by omega)⟩⟩
/-- what a copy of nn places from sp on to dp leaves -/
def cpf (f g : Nat → Int32) (sp dp nn : Nat) : Nat → Int32 := fun j => if dp ≤ j ∧ j < dp + nn then f (sp + (j - dp)) else g j
theorem Go.acopy (X : Stand p l e R s m args below meth c T locs cells slots) (hx : p.tables.exec = Jvm.exec) (hZ : Z.Warmed39 s.vm) {own : String} {index : Nat} (hown : s.vm.findClass own = some m.cls)
    (w1 : (Jvm.Cond.methodLink own index Jvm.Stand.acN).before a0 Z = true) (w2 : (Jvm.Cond.native Jvm.Stand.acN).before a0 Z = true) (w3 : (Jvm.Cond.static Jvm.Stand.acN).before a0 Z = true) (w4 : (Jvm.Cond.initialized "java/lang/System").before a0 Z = true) (eT : T.heap = h)
    {a b : Addr} {ty : FieldType} {n n' : Nat} {f g : Nat → Int32} (A : AI Z h a ty n f) (B : AI Z h b ty n' g) (hty : refKind ty = false) {sp dp nn : Int32} (h1 : ¬ sp < 0) (h2 : ¬ dp < 0) (h3 : ¬ nn < 0) (h4 : sp.toNatClampNeg + nn.toNatClampNeg ≤ n) (h5 : dp.toNatClampNeg + nn.toNatClampNeg ≤ n')
    {n0 : Nat} (N : Fr n0 locs) (gb : n0 ≤ b) {pc : Nat} {Ls : Array Slot} {st : List Value} (hsize : Ls.size = c.maxLocals) (hd : decode c.code pc = .ok (.invokestatic index, 3)) (hf : 1 ≤ R.frames) {V : Nat} (hV : (st.map fun v => v.category).sum ≤ V) (hlo : V + (nativeFrameWords "java/lang/System" "arraycopy" 5 + 11) ≤ R.locals)
    (K : ∀ T' h' L', Stand p l e R s m args below meth c T' L' cells slots → Fr n0 L' → T'.heap = h' → Keep h h' [b] → AI Z h' b ty n' (cpf f g sp.toNatClampNeg dp.toNatClampNeg nn.toNatClampNeg) → Go p e below W T' (mkF m (pc + 3) Ls st)) : Go p e below W T (mkF m pc Ls (.int nn :: .int dp :: .ref b :: .int sp :: .ref a :: st)) := by
  obtain ⟨ka, Va⟩ := A.arv
  obtain ⟨kb, Vb⟩ := B.arv
  have na := A.small
  have nb := B.small
  have ea : (Int32.ofNat n).toNatClampNeg = n := by rw [Int32.toNatClampNeg, Int32.toInt_ofNat_of_lt (by omega)]; rfl
  have eb : (Int32.ofNat n').toNatClampNeg = n' := by rw [Int32.toNatClampNeg, Int32.toInt_ofNat_of_lt (by omega)]; rfl
  obtain ⟨T', h', L', X', e', N', K', V', st'⟩ := cpA X hx hZ hown w1 w2 w3 w4 eT Va Vb (Or.inl ⟨rfl, hty⟩) h1 h2 h3 (by rw [ea]; exact h4) (by rw [eb]; exact h5) rfl (by simpa using h5) N gb (g := mkF m pc Ls (.int nn :: .int dp :: .ref b :: .int sp :: .ref a :: st)) rfl hsize rfl hd hf (W := V) (by show 2 * 0 + _ ≤ _; omega) hlo
  refine Go.of st' (K _ _ _ X' N' e' K' (AI.of_arv V' eb nb fun j hj => ?_))
  have l1 : (((List.range n').map fun j => Value.int (g j)).take dp.toNatClampNeg).length = dp.toNatClampNeg := by rw [List.length_take]; simp; omega
  simp only [List.getD_eq_getElem?_getD, cpf]
  by_cases c1 : j < dp.toNatClampNeg
  · rw [if_neg (by omega), List.append_assoc, List.getElem?_append_left (by omega), List.getElem?_take_of_lt c1]
    simp [hj]
  · by_cases c2 : j < dp.toNatClampNeg + nn.toNatClampNeg
    · rw [if_pos ⟨by omega, c2⟩, List.getElem?_append_left (by rw [List.length_append, l1]; simp; omega), List.getElem?_append_right (by omega), l1]
      have q1 : j - dp.toNatClampNeg < nn.toNatClampNeg := by omega
      have q2 : sp.toNatClampNeg + (j - dp.toNatClampNeg) < n := by omega
      simp [q1, q2]
    · rw [if_neg (by omega), List.getElem?_append_right (by rw [List.length_append, l1]; simp; omega), List.length_append, l1, List.getElem?_drop]
      simp only [List.length_map, List.length_range]
      rw [show dp.toNatClampNeg + nn.toNatClampNeg + (j - (dp.toNatClampNeg + nn.toNatClampNeg)) = j by omega]
      simp [hj]
end OwnMore
section OwnNats
theorem own_toInt {n : Nat} (h : n < 2147483648) : (Int32.ofNat n).toInt = n := Int32.toInt_ofNat_of_lt (by omega)
theorem own_lt {i n : Nat} (h : i < n) (hn : n < 2147483648) : Int32.ofNat i < Int32.ofNat n := by
  rw [Int32.lt_iff_toInt_lt, own_toInt (by omega), own_toInt (by omega)]
  omega
theorem own_nlt {i n : Nat} (h : n ≤ i) (hn : i < 2147483648) : ¬ Int32.ofNat i < Int32.ofNat n := by
  rw [Int32.lt_iff_toInt_lt, own_toInt (by omega), own_toInt (by omega)]
  omega
theorem own_nn {n : Nat} (hn : n < 2147483648) : ¬ Int32.ofNat n < 0 := by
  rw [Int32.lt_iff_toInt_lt, own_toInt hn, show (0 : Int32).toInt = 0 from rfl]
  omega
theorem own_n32 {n : Nat} (hn : n < 2147483648) : (Int32.ofNat n).toNatClampNeg = n := by
  rw [Int32.toNatClampNeg, own_toInt hn]; rfl
theorem own_one (i : Nat) : Int32.ofNat i + (1 : Int32) = Int32.ofNat (i + 1) := (Int32.ofNat_add i 1).symm
theorem own_inbN {i n : Nat} (h : i < n) (hn : n ≤ 2147483648) : inb (Int32.ofNat i) n := ⟨own_nn (by omega), by rw [own_n32 (by omega)]; exact h⟩
theorem own_back {x : Int32} (h : ¬ x < 0) : Int32.ofNat x.toNatClampNeg = x := (back32 h).1
end OwnNats

def own_gb (sz x : Int32) (n : Nat) : Prop := 0 ≤ sz.toInt ∧ 0 ≤ x.toInt ∧ sz.toInt + x.toInt ≤ 4400 ∧ n ≤ 2200
def own_wb (sz off x : Int32) (n : Nat) : Prop := 0 ≤ sz.toInt ∧ 0 ≤ off.toInt ∧ 0 ≤ x.toInt ∧ off.toInt + x.toInt ≤ 2200 ∧ sz.toInt + x.toInt ≤ 4400 ∧ sz.toInt ≤ n ∧ n ≤ 4400
theorem own_wg {sz off x : Int32} {n : Nat} (h : own_wb sz off x n) (g : n ≤ 2200) : own_gb sz x n := by
  obtain ⟨h1, h2, h3, h4, h5, h6, h7⟩ := h
  exact ⟨h1, h3, h5, g⟩
theorem own_neg {x : Int32} (h : 0 ≤ x.toInt) : ¬ x < 0 := by
  rw [Int32.lt_iff_toInt_lt, show (0 : Int32).toInt = 0 from rfl]; omega
theorem own_nat {x : Int32} (h : 0 ≤ x.toInt) : (x.toNatClampNeg : Int) = x.toInt := by
  show (x.toInt.toNat : Int) = x.toInt
  omega
theorem own_inr {x : Int32} {n : Nat} (h0 : 0 ≤ x.toInt) (h1 : x.toInt < n) : inb x n := by
  refine ⟨own_neg h0, ?_⟩
  show x.toInt.toNat < n
  omega
theorem own_t32 {n : Nat} (h : n < 2147483648) : (n.toInt32).toInt = n := own_toInt h
theorem own_add {a b : Int32} (h0 : 0 ≤ a.toInt) (h1 : 0 ≤ b.toInt) (h2 : a.toInt + b.toInt ≤ 100000) : (a + b).toInt = a.toInt + b.toInt := by
  have e : ((a + b).toInt - (a.toInt + b.toInt)) % 4294967296 = 0 := c_iadd a b
  have r := rng32 (a + b)
  omega
theorem own_w1 {sz off x : Int32} {n : Nat} (h : own_wb sz off x n) : ¬ off < 0 := own_neg h.2.1
theorem own_w2 {sz off x : Int32} {n : Nat} (h : own_wb sz off x n) : ¬ sz < 0 := own_neg h.1
theorem own_w3 {sz off x : Int32} {n : Nat} (h : own_wb sz off x n) : ¬ x < 0 := own_neg h.2.2.1
theorem own_w4 {sz off x : Int32} {n : Nat} (h : own_wb sz off x n) : off.toNatClampNeg + x.toNatClampNeg ≤ 2200 := by
  obtain ⟨h1, h2, h3, h4, h5, h6, h7⟩ := h
  have := own_nat h2
  have := own_nat h3
  omega
theorem own_w5 {sz off x : Int32} {n : Nat} (h : own_wb sz off x n) (c : ¬ n.toInt32 < (sz + x)) : sz.toNatClampNeg + x.toNatClampNeg ≤ n := by
  obtain ⟨h1, h2, h3, h4, h5, h6, h7⟩ := h
  have := own_nat h1
  have := own_nat h3
  rw [Int32.lt_iff_toInt_lt, own_t32 (by omega), own_add h1 h3 (by omega)] at c
  omega
theorem own_mn {n m : Nat} (h : n < m) (hm : m ≤ 4400) : ¬ Int32.ofNat m = n.toInt32 := by
  rw [← Int32.toInt_inj, own_toInt (by omega), own_t32 (by omega)]; omega
theorem pd___V : parseMethodDescriptor "()V" = some ⟨[], none⟩ := by decide +kernel
theorem pd__II_I : parseMethodDescriptor "(II)I" = some ⟨[.int, .int], some .int⟩ := by decide +kernel
theorem pd___BI__B : parseMethodDescriptor "([BI)[B" = some ⟨[(.array .byte), .int], some (.array .byte)⟩ := by decide +kernel
theorem pd__I_V : parseMethodDescriptor "(I)V" = some ⟨[.int], none⟩ := by decide +kernel
theorem pd___BII_V : parseMethodDescriptor "([BII)V" = some ⟨[(.array .byte), .int, .int], none⟩ := by decide +kernel
theorem pd___I : parseMethodDescriptor "()I" = some ⟨[], some .int⟩ := by decide +kernel
theorem pd____B : parseMethodDescriptor "()[B" = some ⟨[], some (.array .byte)⟩ := by decide +kernel
theorem d2_0 : decode jdk_2038_method_1_code 0 = .ok (.aload_n 0, 1) := by decide +kernel
theorem d2_1 : decode jdk_2038_method_1_code 1 = .ok (.invokespecial 1, 3) := by decide +kernel
theorem d2_4 : decode jdk_2038_method_1_code 4 = .ok (.return_, 1) := by decide +kernel
theorem pn_2 : plainFor (⟨"java/io/OutputStream", "<init>", "()V"⟩ : MethodName) = true := plainFor_of_name (by show plainName "java/io/OutputStream" = true; first | (simp [plainName, overriddenIn]; done) | decide +kernel)
theorem ef_2 (m : MethodId) (a1 : Addr) : entryFrame m #[(.ref a1)] 1 = mkF m 0 #[.val (.ref a1)] [] := by first | (simp [entryFrame, mkF, argsToLocals, Value.category]; done) | rfl
theorem d1_0 : decode prog_35_method_1_code 0 = .ok (.aload_n 0, 1) := by decide +kernel
theorem d1_1 : decode prog_35_method_1_code 1 = .ok (.invokespecial 3, 3) := by decide +kernel
theorem d1_4 : decode prog_35_method_1_code 4 = .ok (.aload_n 0, 1) := by decide +kernel
theorem d1_5 : decode prog_35_method_1_code 5 = .ok (.sipush 1024, 3) := by decide +kernel
theorem d1_8 : decode prog_35_method_1_code 8 = .ok (.newarray .byte, 2) := by decide +kernel
theorem d1_10 : decode prog_35_method_1_code 10 = .ok (.putfield 9, 3) := by decide +kernel
theorem d1_13 : decode prog_35_method_1_code 13 = .ok (.return_, 1) := by decide +kernel
theorem pn_1 : plainFor (⟨"com/example/gridtally/gridtally/io/ByteStreams$Buffer", "<init>", "()V"⟩ : MethodName) = true := plainFor_of_name (by show plainName "com/example/gridtally/gridtally/io/ByteStreams$Buffer" = true; first | (simp [plainName, overriddenIn]; done) | decide +kernel)
theorem ef_1 (m : MethodId) (a1 : Addr) : entryFrame m #[(.ref a1)] 1 = mkF m 0 #[.val (.ref a1)] [] := by first | (simp [entryFrame, mkF, argsToLocals, Value.category]; done) | rfl
def w1_3 : Nat → Int32 := fun _ => 0
def f1_nb : Nat → Int32 := w1_3
def Q1 (Z : State) (a1 : Addr) (h0 : Heap) (n0 : Nat) (v : Option Value) (h : Heap) (L : List Loc) : Prop := ∃ nb : Addr, v = none ∧ Fr n0 L ∧ Keep h0 h [a1] ∧ h0.size ≤ nb ∧ Fld Z h a1 "com/example/gridtally/gridtally/io/ByteStreams$Buffer" "bytes" "[B" (.ref nb) ∧ Fld Z h a1 "com/example/gridtally/gridtally/io/ByteStreams$Buffer" "size" "I" (.int (0 : Int32)) ∧ AI Z h nb .byte 1024 f1_nb
theorem d8_0 : decode jdk_29_method_65_code 0 = .ok (.iload_n 0, 1) := by decide +kernel
theorem d8_1 : decode jdk_29_method_65_code 1 = .ok (.iload_n 1, 1) := by decide +kernel
theorem d8_2 : decode jdk_29_method_65_code 2 = .ok (.if_icmp .lt 7, 3) := by decide +kernel
theorem d8_5 : decode jdk_29_method_65_code 5 = .ok (.iload_n 0, 1) := by decide +kernel
theorem d8_6 : decode jdk_29_method_65_code 6 = .ok (.goto 4, 3) := by decide +kernel
theorem d8_9 : decode jdk_29_method_65_code 9 = .ok (.iload_n 1, 1) := by decide +kernel
theorem d8_10 : decode jdk_29_method_65_code 10 = .ok (.ireturn, 1) := by decide +kernel
theorem pn_8 : plainFor (⟨"java/lang/Math", "max", "(II)I"⟩ : MethodName) = true := Jvm.Free.JP.mathPlain rfl (by decide +kernel)
theorem ef_8 (m : MethodId) (p1 : Int32) (p2 : Int32) : entryFrame m #[(.int p1), (.int p2)] 2 = mkF m 0 #[.val (.int p1), .val (.int p2)] [] := by first | (simp [entryFrame, mkF, argsToLocals, Value.category]; done) | rfl
def f8 (p1 : Int32) (p2 : Int32) : Int32 := (if p1 < p2 then p2 else p1)
theorem d10_0 : decode jdk_29_method_69_code 0 = .ok (.iload_n 0, 1) := by decide +kernel
theorem d10_1 : decode jdk_29_method_69_code 1 = .ok (.iload_n 1, 1) := by decide +kernel
theorem d10_2 : decode jdk_29_method_69_code 2 = .ok (.if_icmp .gt 7, 3) := by decide +kernel
theorem d10_5 : decode jdk_29_method_69_code 5 = .ok (.iload_n 0, 1) := by decide +kernel
theorem d10_6 : decode jdk_29_method_69_code 6 = .ok (.goto 4, 3) := by decide +kernel
theorem d10_9 : decode jdk_29_method_69_code 9 = .ok (.iload_n 1, 1) := by decide +kernel
theorem d10_10 : decode jdk_29_method_69_code 10 = .ok (.ireturn, 1) := by decide +kernel
theorem pn_10 : plainFor (⟨"java/lang/Math", "min", "(II)I"⟩ : MethodName) = true := Jvm.Free.JP.mathPlain rfl (by decide +kernel)
theorem ef_10 (m : MethodId) (p1 : Int32) (p2 : Int32) : entryFrame m #[(.int p1), (.int p2)] 2 = mkF m 0 #[.val (.int p1), .val (.int p2)] [] := by first | (simp [entryFrame, mkF, argsToLocals, Value.category]; done) | rfl
def f10 (p1 : Int32) (p2 : Int32) : Int32 := (if p2 < p1 then p2 else p1)
theorem d9_0 : decode jdk_65_method_121_code 0 = .ok (.iload_n 1, 1) := by decide +kernel
theorem d9_1 : decode jdk_65_method_121_code 1 = .ok (.aload_n 0, 1) := by decide +kernel
theorem d9_2 : decode jdk_65_method_121_code 2 = .ok (.arraylength, 1) := by decide +kernel
theorem d9_3 : decode jdk_65_method_121_code 3 = .ok (.if_icmp .ne 11, 3) := by decide +kernel
theorem d9_14 : decode jdk_65_method_121_code 14 = .ok (.iload_n 1, 1) := by decide +kernel
theorem d9_15 : decode jdk_65_method_121_code 15 = .ok (.newarray .byte, 2) := by decide +kernel
theorem d9_17 : decode jdk_65_method_121_code 17 = .ok (.astore_n 2, 1) := by decide +kernel
theorem d9_18 : decode jdk_65_method_121_code 18 = .ok (.aload_n 0, 1) := by decide +kernel
theorem d9_19 : decode jdk_65_method_121_code 19 = .ok (.iconst 0, 1) := by decide +kernel
theorem d9_20 : decode jdk_65_method_121_code 20 = .ok (.aload_n 2, 1) := by decide +kernel
theorem d9_21 : decode jdk_65_method_121_code 21 = .ok (.iconst 0, 1) := by decide +kernel
theorem d9_22 : decode jdk_65_method_121_code 22 = .ok (.aload_n 0, 1) := by decide +kernel
theorem d9_23 : decode jdk_65_method_121_code 23 = .ok (.arraylength, 1) := by decide +kernel
theorem d9_24 : decode jdk_65_method_121_code 24 = .ok (.iload_n 1, 1) := by decide +kernel
theorem d9_25 : decode jdk_65_method_121_code 25 = .ok (.invokestatic 304, 3) := by decide +kernel
theorem d9_28 : decode jdk_65_method_121_code 28 = .ok (.invokestatic 150, 3) := by decide +kernel
theorem d9_31 : decode jdk_65_method_121_code 31 = .ok (.aload_n 2, 1) := by decide +kernel
theorem d9_32 : decode jdk_65_method_121_code 32 = .ok (.areturn, 1) := by decide +kernel
theorem pn_9 : plainFor (⟨"java/util/Arrays", "copyOf", "([BI)[B"⟩ : MethodName) = true := plainFor_of_name (by show plainName "java/util/Arrays" = true; first | (simp [plainName, overriddenIn]; done) | decide +kernel)
theorem ef_9 (m : MethodId) (a1 : Addr) (p2 : Int32) : entryFrame m #[(.ref a1), (.int p2)] 3 = mkF m 0 #[.val (.ref a1), .val (.int p2), .unset] [] := by first | (simp [entryFrame, mkF, argsToLocals, Value.category]; done) | rfl
def w9_2 (p2 : Int32) (fa : Nat → Int32) (n : Nat) (mm : Nat) : Nat → Int32 := fun _ => 0
def w9_5 (p2 : Int32) (fa : Nat → Int32) (n : Nat) (mm : Nat) : Nat → Int32 := cpf fa (w9_2 p2 fa n mm) 0 0 (f10 n.toInt32 (Int32.ofNat mm)).toNatClampNeg
def f9_nc (p2 : Int32) (fa : Nat → Int32) (n : Nat) (mm : Nat) : Nat → Int32 := (w9_5 p2 fa n mm)
def Q9 (Z : State) (a1 : Addr) (p2 : Int32) (fa : Nat → Int32) (n : Nat) (mm : Nat) (h0 : Heap) (n0 : Nat) (v : Option Value) (h : Heap) (L : List Loc) : Prop := ∃ nc : Addr, v = some (.ref nc) ∧ Fr n0 L ∧ Keep h0 h [] ∧ h0.size ≤ nc ∧ AI Z h nc .byte mm (f9_nc p2 fa n mm)
theorem d5_0 : decode prog_35_method_8_code 0 = .ok (.aload_n 0, 1) := by decide +kernel
theorem d5_1 : decode prog_35_method_8_code 1 = .ok (.getfield 19, 3) := by decide +kernel
theorem d5_4 : decode prog_35_method_8_code 4 = .ok (.iload_n 1, 1) := by decide +kernel
theorem d5_5 : decode prog_35_method_8_code 5 = .ok (.iadd, 1) := by decide +kernel
theorem d5_6 : decode prog_35_method_8_code 6 = .ok (.aload_n 0, 1) := by decide +kernel
theorem d5_7 : decode prog_35_method_8_code 7 = .ok (.getfield 9, 3) := by decide +kernel
theorem d5_10 : decode prog_35_method_8_code 10 = .ok (.arraylength, 1) := by decide +kernel
theorem d5_11 : decode prog_35_method_8_code 11 = .ok (.if_icmp .le 30, 3) := by decide +kernel
theorem d5_41 : decode prog_35_method_8_code 41 = .ok (.return_, 1) := by decide +kernel
theorem pn_5 : plainFor (⟨"com/example/gridtally/gridtally/io/ByteStreams$Buffer", "ensure", "(I)V"⟩ : MethodName) = true := plainFor_of_name (by show plainName "com/example/gridtally/gridtally/io/ByteStreams$Buffer" = true; first | (simp [plainName, overriddenIn]; done) | decide +kernel)
theorem ef_5 (m : MethodId) (a1 : Addr) (p2 : Int32) : entryFrame m #[(.ref a1), (.int p2)] 2 = mkF m 0 #[.val (.ref a1), .val (.int p2)] [] := by first | (simp [entryFrame, mkF, argsToLocals, Value.category]; done) | rfl
theorem d5_14 : decode prog_35_method_8_code 14 = .ok (.aload_n 0, 1) := by decide +kernel
theorem d5_15 : decode prog_35_method_8_code 15 = .ok (.aload_n 0, 1) := by decide +kernel
theorem d5_16 : decode prog_35_method_8_code 16 = .ok (.getfield 9, 3) := by decide +kernel
theorem d5_19 : decode prog_35_method_8_code 19 = .ok (.iconst 2, 1) := by decide +kernel
theorem d5_20 : decode prog_35_method_8_code 20 = .ok (.aload_n 0, 1) := by decide +kernel
theorem d5_21 : decode prog_35_method_8_code 21 = .ok (.getfield 9, 3) := by decide +kernel
theorem d5_24 : decode prog_35_method_8_code 24 = .ok (.arraylength, 1) := by decide +kernel
theorem d5_25 : decode prog_35_method_8_code 25 = .ok (.imul, 1) := by decide +kernel
theorem d5_26 : decode prog_35_method_8_code 26 = .ok (.aload_n 0, 1) := by decide +kernel
theorem d5_27 : decode prog_35_method_8_code 27 = .ok (.getfield 19, 3) := by decide +kernel
theorem d5_30 : decode prog_35_method_8_code 30 = .ok (.iload_n 1, 1) := by decide +kernel
theorem d5_31 : decode prog_35_method_8_code 31 = .ok (.iadd, 1) := by decide +kernel
theorem d5_32 : decode prog_35_method_8_code 32 = .ok (.invokestatic 34, 3) := by decide +kernel
theorem d5_35 : decode prog_35_method_8_code 35 = .ok (.invokestatic 40, 3) := by decide +kernel
theorem d5_38 : decode prog_35_method_8_code 38 = .ok (.putfield 9, 3) := by decide +kernel
def f5g_nb (p2 : Int32) (sz : Int32) (fb : Nat → Int32) (n : Nat) : Nat → Int32 := (f9_nc (f8 ((2 : Int32) * n.toInt32) (sz + p2)) fb n (f8 ((2 : Int32) * n.toInt32) (sz + p2)).toNatClampNeg)
def Q5g (Z : State) (a1 : Addr) (p2 : Int32) (sz : Int32) (ab : Addr) (fb : Nat → Int32) (n : Nat) (h0 : Heap) (n0 : Nat) (v : Option Value) (h : Heap) (L : List Loc) : Prop := ∃ nb : Addr, v = none ∧ Fr n0 L ∧ Keep h0 h [a1] ∧ h0.size ≤ nb ∧ Fld Z h a1 "com/example/gridtally/gridtally/io/ByteStreams$Buffer" "bytes" "[B" (.ref nb) ∧ Fld Z h a1 "com/example/gridtally/gridtally/io/ByteStreams$Buffer" "size" "I" (.int sz) ∧ AI Z h nb .byte (f8 ((2 : Int32) * n.toInt32) (sz + p2)).toNatClampNeg (f5g_nb p2 sz fb n)
theorem d4_0 : decode prog_35_method_3_code 0 = .ok (.aload_n 0, 1) := by decide +kernel
theorem d4_1 : decode prog_35_method_3_code 1 = .ok (.iload_n 3, 1) := by decide +kernel
theorem d4_2 : decode prog_35_method_3_code 2 = .ok (.invokevirtual 15, 3) := by decide +kernel
theorem d4_5 : decode prog_35_method_3_code 5 = .ok (.aload_n 1, 1) := by decide +kernel
theorem d4_6 : decode prog_35_method_3_code 6 = .ok (.iload_n 2, 1) := by decide +kernel
theorem d4_7 : decode prog_35_method_3_code 7 = .ok (.aload_n 0, 1) := by decide +kernel
theorem d4_8 : decode prog_35_method_3_code 8 = .ok (.getfield 9, 3) := by decide +kernel
theorem d4_11 : decode prog_35_method_3_code 11 = .ok (.aload_n 0, 1) := by decide +kernel
theorem d4_12 : decode prog_35_method_3_code 12 = .ok (.getfield 19, 3) := by decide +kernel
theorem d4_15 : decode prog_35_method_3_code 15 = .ok (.iload_n 3, 1) := by decide +kernel
theorem d4_16 : decode prog_35_method_3_code 16 = .ok (.invokestatic 23, 3) := by decide +kernel
theorem d4_19 : decode prog_35_method_3_code 19 = .ok (.aload_n 0, 1) := by decide +kernel
theorem d4_20 : decode prog_35_method_3_code 20 = .ok (.dup, 1) := by decide +kernel
theorem d4_21 : decode prog_35_method_3_code 21 = .ok (.getfield 19, 3) := by decide +kernel
theorem d4_24 : decode prog_35_method_3_code 24 = .ok (.iload_n 3, 1) := by decide +kernel
theorem d4_25 : decode prog_35_method_3_code 25 = .ok (.iadd, 1) := by decide +kernel
theorem d4_26 : decode prog_35_method_3_code 26 = .ok (.putfield 19, 3) := by decide +kernel
theorem d4_29 : decode prog_35_method_3_code 29 = .ok (.return_, 1) := by decide +kernel
theorem pn_4 : plainFor (⟨"com/example/gridtally/gridtally/io/ByteStreams$Buffer", "write", "([BII)V"⟩ : MethodName) = true := plainFor_of_name (by show plainName "com/example/gridtally/gridtally/io/ByteStreams$Buffer" = true; first | (simp [plainName, overriddenIn]; done) | decide +kernel)
theorem ef_4 (m : MethodId) (a1 : Addr) (a2 : Addr) (p3 : Int32) (p4 : Int32) : entryFrame m #[(.ref a1), (.ref a2), (.int p3), (.int p4)] 4 = mkF m 0 #[.val (.ref a1), .val (.ref a2), .val (.int p3), .val (.int p4)] [] := by first | (simp [entryFrame, mkF, argsToLocals, Value.category]; done) | rfl
def w4k_5 (p3 : Int32) (p4 : Int32) (sz : Int32) (fb : Nat → Int32) (fs : Nat → Int32) (n : Nat) : Nat → Int32 := cpf fs fb (p3).toNatClampNeg (sz).toNatClampNeg (p4).toNatClampNeg
def v4k_8 (p3 : Int32) (p4 : Int32) (sz : Int32) (fb : Nat → Int32) (fs : Nat → Int32) (n : Nat) : Int32 := (sz + p4)
def f4k_size (p3 : Int32) (p4 : Int32) (sz : Int32) (fb : Nat → Int32) (fs : Nat → Int32) (n : Nat) : Int32 := (v4k_8 p3 p4 sz fb fs n)
def f4k_ab (p3 : Int32) (p4 : Int32) (sz : Int32) (fb : Nat → Int32) (fs : Nat → Int32) (n : Nat) : Nat → Int32 := (w4k_5 p3 p4 sz fb fs n)
def Q4k (Z : State) (a1 : Addr) (a2 : Addr) (p3 : Int32) (p4 : Int32) (sz : Int32) (ab : Addr) (fb : Nat → Int32) (n : Nat) (fs : Nat → Int32) (h0 : Heap) (n0 : Nat) (v : Option Value) (h : Heap) (L : List Loc) : Prop := v = none ∧ Fr n0 L ∧ Keep h0 h [a1, ab] ∧ Fld Z h a1 "com/example/gridtally/gridtally/io/ByteStreams$Buffer" "size" "I" (.int (f4k_size p3 p4 sz fb fs n)) ∧ Fld Z h a1 "com/example/gridtally/gridtally/io/ByteStreams$Buffer" "bytes" "[B" (.ref ab) ∧ AI Z h ab .byte n (f4k_ab p3 p4 sz fb fs n)
def w4g_5 (p3 : Int32) (p4 : Int32) (sz : Int32) (fb : Nat → Int32) (fs : Nat → Int32) (n : Nat) : Nat → Int32 := cpf fs (f5g_nb p4 sz fb n) (p3).toNatClampNeg (sz).toNatClampNeg (p4).toNatClampNeg
def v4g_8 (p3 : Int32) (p4 : Int32) (sz : Int32) (fb : Nat → Int32) (fs : Nat → Int32) (n : Nat) : Int32 := (sz + p4)
def f4g_size (p3 : Int32) (p4 : Int32) (sz : Int32) (fb : Nat → Int32) (fs : Nat → Int32) (n : Nat) : Int32 := (v4g_8 p3 p4 sz fb fs n)
def f4g_nb (p3 : Int32) (p4 : Int32) (sz : Int32) (fb : Nat → Int32) (fs : Nat → Int32) (n : Nat) : Nat → Int32 := (w4g_5 p3 p4 sz fb fs n)
def Q4g (Z : State) (a1 : Addr) (a2 : Addr) (p3 : Int32) (p4 : Int32) (sz : Int32) (ab : Addr) (fb : Nat → Int32) (n : Nat) (fs : Nat → Int32) (h0 : Heap) (n0 : Nat) (v : Option Value) (h : Heap) (L : List Loc) : Prop := ∃ nb : Addr, v = none ∧ Fr n0 L ∧ Keep h0 h [a1] ∧ h0.size ≤ nb ∧ Fld Z h a1 "com/example/gridtally/gridtally/io/ByteStreams$Buffer" "size" "I" (.int (f4g_size p3 p4 sz fb fs n)) ∧ Fld Z h a1 "com/example/gridtally/gridtally/io/ByteStreams$Buffer" "bytes" "[B" (.ref nb) ∧ AI Z h nb .byte (f8 ((2 : Int32) * n.toInt32) (sz + p4)).toNatClampNeg (f4g_nb p3 p4 sz fb fs n)
theorem d6_0 : decode prog_35_method_4_code 0 = .ok (.aload_n 0, 1) := by decide +kernel
theorem d6_1 : decode prog_35_method_4_code 1 = .ok (.getfield 19, 3) := by decide +kernel
theorem d6_4 : decode prog_35_method_4_code 4 = .ok (.ireturn, 1) := by decide +kernel
theorem pn_6 : plainFor (⟨"com/example/gridtally/gridtally/io/ByteStreams$Buffer", "size", "()I"⟩ : MethodName) = true := plainFor_of_name (by show plainName "com/example/gridtally/gridtally/io/ByteStreams$Buffer" = true; first | (simp [plainName, overriddenIn]; done) | decide +kernel)
theorem ef_6 (m : MethodId) (a1 : Addr) : entryFrame m #[(.ref a1)] 1 = mkF m 0 #[.val (.ref a1)] [] := by first | (simp [entryFrame, mkF, argsToLocals, Value.category]; done) | rfl
def f6 (sz : Int32) : Int32 := sz
theorem d7_0 : decode prog_35_method_5_code 0 = .ok (.aload_n 0, 1) := by decide +kernel
theorem d7_1 : decode prog_35_method_5_code 1 = .ok (.getfield 9, 3) := by decide +kernel
theorem d7_4 : decode prog_35_method_5_code 4 = .ok (.areturn, 1) := by decide +kernel
theorem pn_7 : plainFor (⟨"com/example/gridtally/gridtally/io/ByteStreams$Buffer", "array", "()[B"⟩ : MethodName) = true := plainFor_of_name (by show plainName "com/example/gridtally/gridtally/io/ByteStreams$Buffer" = true; first | (simp [plainName, overriddenIn]; done) | decide +kernel)
theorem ef_7 (m : MethodId) (a1 : Addr) : entryFrame m #[(.ref a1)] 1 = mkF m 0 #[.val (.ref a1)] [] := by first | (simp [entryFrame, mkF, argsToLocals, Value.category]; done) | rfl
theorem pn_0 : plainFor x = true := plainFor_of_name (by show plainName "com/example/gridtally/gridtally/io/BufferWrite372PinLaw" = true; first | (simp [plainName, overriddenIn]; done) | decide +kernel)
theorem ef_0 (m : MethodId) (p1 : Int32) (p2 : Int32) (p3 : Int32) (p4 : Int32) (p5 : Int32) (p6 : Int32) : entryFrame m #[(.int p1), (.int p2), (.int p3), (.int p4), (.int p5), (.int p6)] maxLocals = mkF m 0 #[.val (.int p1), .val (.int p2), .val (.int p3), .val (.int p4), .val (.int p5), .val (.int p6), .unset, .unset, .unset, .unset, .unset, .unset, .unset, .unset, .unset, .unset, .unset, .unset] [] := by first | (simp [entryFrame, mkF, argsToLocals, Value.category, maxLocals]; done) | rfl
def w0_2 (p1 : Int32) (p2 : Int32) (p3 : Int32) (p4 : Int32) (p5 : Int32) (p6 : Int32) : Nat → Int32 := fun _ => 0
def v0_3 (p1 : Int32) (p2 : Int32) (p3 : Int32) (p4 : Int32) (p5 : Int32) (p6 : Int32) : Int32 := ((p6 &&& (4095 : Int32)) % (2200 : Int32))
def w0_5 (p1 : Int32) (p2 : Int32) (p3 : Int32) (p4 : Int32) (p5 : Int32) (p6 : Int32) : Nat → Int32 := upd (w0_2 p1 p2 p3 p4 p5 p6) (v0_3 p1 p2 p3 p4 p5 p6).toNatClampNeg (nar .byte ((((p6.toUInt32 >>> ((12 : Int32) &&& 31).toUInt32).toInt32) ||| (1 : Int32)).toInt8.toInt32))
def v0_6 (p1 : Int32) (p2 : Int32) (p3 : Int32) (p4 : Int32) (p5 : Int32) (p6 : Int32) : Int32 := ((p1 &&& (2147483647 : Int32)) % (2201 : Int32))
def v0_7 (p1 : Int32) (p2 : Int32) (p3 : Int32) (p4 : Int32) (p5 : Int32) (p6 : Int32) : Int32 := ((p2 &&& (2147483647 : Int32)) % ((2201 : Int32) - (v0_6 p1 p2 p3 p4 p5 p6)))
def v0_8 (p1 : Int32) (p2 : Int32) (p3 : Int32) (p4 : Int32) (p5 : Int32) (p6 : Int32) : Int32 := ((p3 &&& (2147483647 : Int32)) % (2201 : Int32))
def v0_9 (p1 : Int32) (p2 : Int32) (p3 : Int32) (p4 : Int32) (p5 : Int32) (p6 : Int32) : Int32 := ((p4 &&& (2147483647 : Int32)) % ((2201 : Int32) - (v0_8 p1 p2 p3 p4 p5 p6)))
def v0_17 (p1 : Int32) (p2 : Int32) (p3 : Int32) (p4 : Int32) (p5 : Int32) (p6 : Int32) : Int32 := (if (f6 (f4g_size (v0_7 p1 p2 p3 p4 p5 p6) (v0_6 p1 p2 p3 p4 p5 p6) (0 : Int32) f1_nb (w0_5 p1 p2 p3 p4 p5 p6) (1024 : Nat))) = (v0_6 p1 p2 p3 p4 p5 p6) then (1 : Int32) else (0 : Int32))
def v0_20 (p1 : Int32) (p2 : Int32) (p3 : Int32) (p4 : Int32) (p5 : Int32) (p6 : Int32) : Int32 := ((v0_6 p1 p2 p3 p4 p5 p6) + (v0_8 p1 p2 p3 p4 p5 p6))
def v0_27 (p1 : Int32) (p2 : Int32) (p3 : Int32) (p4 : Int32) (p5 : Int32) (p6 : Int32) : Int32 := ((p5 &&& (2147483647 : Int32)) % (v0_20 p1 p2 p3 p4 p5 p6))
def v0_30 (p1 : Int32) (p2 : Int32) (p3 : Int32) (p4 : Int32) (p5 : Int32) (p6 : Int32) : Int32 := (if (v0_27 p1 p2 p3 p4 p5 p6) < (v0_6 p1 p2 p3 p4 p5 p6) then (w0_5 p1 p2 p3 p4 p5 p6 ((v0_7 p1 p2 p3 p4 p5 p6) + (v0_27 p1 p2 p3 p4 p5 p6)).toNatClampNeg) else (w0_5 p1 p2 p3 p4 p5 p6 (((v0_9 p1 p2 p3 p4 p5 p6) + (v0_27 p1 p2 p3 p4 p5 p6)) - (v0_6 p1 p2 p3 p4 p5 p6)).toNatClampNeg))
def v0_33 (p1 : Int32) (p2 : Int32) (p3 : Int32) (p4 : Int32) (p5 : Int32) (p6 : Int32) : Int32 := ((v0_6 p1 p2 p3 p4 p5 p6) + (v0_8 p1 p2 p3 p4 p5 p6))
def v0_40 (p1 : Int32) (p2 : Int32) (p3 : Int32) (p4 : Int32) (p5 : Int32) (p6 : Int32) : Int32 := ((p5 &&& (2147483647 : Int32)) % (v0_33 p1 p2 p3 p4 p5 p6))
def v0_43 (p1 : Int32) (p2 : Int32) (p3 : Int32) (p4 : Int32) (p5 : Int32) (p6 : Int32) : Int32 := (if (v0_40 p1 p2 p3 p4 p5 p6) < (v0_6 p1 p2 p3 p4 p5 p6) then (w0_5 p1 p2 p3 p4 p5 p6 ((v0_7 p1 p2 p3 p4 p5 p6) + (v0_40 p1 p2 p3 p4 p5 p6)).toNatClampNeg) else (w0_5 p1 p2 p3 p4 p5 p6 (((v0_9 p1 p2 p3 p4 p5 p6) + (v0_40 p1 p2 p3 p4 p5 p6)) - (v0_6 p1 p2 p3 p4 p5 p6)).toNatClampNeg))
def v0_49 (p1 : Int32) (p2 : Int32) (p3 : Int32) (p4 : Int32) (p5 : Int32) (p6 : Int32) : Int32 := (if (f6 (f4k_size (v0_7 p1 p2 p3 p4 p5 p6) (v0_6 p1 p2 p3 p4 p5 p6) (0 : Int32) f1_nb (w0_5 p1 p2 p3 p4 p5 p6) (1024 : Nat))) = (v0_6 p1 p2 p3 p4 p5 p6) then (1 : Int32) else (0 : Int32))
def v0_52 (p1 : Int32) (p2 : Int32) (p3 : Int32) (p4 : Int32) (p5 : Int32) (p6 : Int32) : Int32 := ((v0_6 p1 p2 p3 p4 p5 p6) + (v0_8 p1 p2 p3 p4 p5 p6))
def v0_59 (p1 : Int32) (p2 : Int32) (p3 : Int32) (p4 : Int32) (p5 : Int32) (p6 : Int32) : Int32 := ((p5 &&& (2147483647 : Int32)) % (v0_52 p1 p2 p3 p4 p5 p6))
def v0_62 (p1 : Int32) (p2 : Int32) (p3 : Int32) (p4 : Int32) (p5 : Int32) (p6 : Int32) : Int32 := (if (v0_59 p1 p2 p3 p4 p5 p6) < (v0_6 p1 p2 p3 p4 p5 p6) then (w0_5 p1 p2 p3 p4 p5 p6 ((v0_7 p1 p2 p3 p4 p5 p6) + (v0_59 p1 p2 p3 p4 p5 p6)).toNatClampNeg) else (w0_5 p1 p2 p3 p4 p5 p6 (((v0_9 p1 p2 p3 p4 p5 p6) + (v0_59 p1 p2 p3 p4 p5 p6)) - (v0_6 p1 p2 p3 p4 p5 p6)).toNatClampNeg))
def v0_65 (p1 : Int32) (p2 : Int32) (p3 : Int32) (p4 : Int32) (p5 : Int32) (p6 : Int32) : Int32 := ((v0_6 p1 p2 p3 p4 p5 p6) + (v0_8 p1 p2 p3 p4 p5 p6))
def v0_72 (p1 : Int32) (p2 : Int32) (p3 : Int32) (p4 : Int32) (p5 : Int32) (p6 : Int32) : Int32 := ((p5 &&& (2147483647 : Int32)) % (v0_65 p1 p2 p3 p4 p5 p6))
def v0_75 (p1 : Int32) (p2 : Int32) (p3 : Int32) (p4 : Int32) (p5 : Int32) (p6 : Int32) : Int32 := (if (v0_72 p1 p2 p3 p4 p5 p6) < (v0_6 p1 p2 p3 p4 p5 p6) then (w0_5 p1 p2 p3 p4 p5 p6 ((v0_7 p1 p2 p3 p4 p5 p6) + (v0_72 p1 p2 p3 p4 p5 p6)).toNatClampNeg) else (w0_5 p1 p2 p3 p4 p5 p6 (((v0_9 p1 p2 p3 p4 p5 p6) + (v0_72 p1 p2 p3 p4 p5 p6)) - (v0_6 p1 p2 p3 p4 p5 p6)).toNatClampNeg))
def f0 (p1 : Int32) (p2 : Int32) (p3 : Int32) (p4 : Int32) (p5 : Int32) (p6 : Int32) : Int32 := (if (1024 : Nat).toInt32 < ((0 : Int32) + (v0_6 p1 p2 p3 p4 p5 p6)) then (if (f8 ((2 : Int32) * (1024 : Nat).toInt32) ((0 : Int32) + (v0_6 p1 p2 p3 p4 p5 p6))).toNatClampNeg.toInt32 < ((f4g_size (v0_7 p1 p2 p3 p4 p5 p6) (v0_6 p1 p2 p3 p4 p5 p6) (0 : Int32) f1_nb (w0_5 p1 p2 p3 p4 p5 p6) (1024 : Nat)) + (v0_8 p1 p2 p3 p4 p5 p6)) then (if (v0_17 p1 p2 p3 p4 p5 p6) = (0 : Int32) then (0 : Int32) else (if (f6 (f4g_size (v0_9 p1 p2 p3 p4 p5 p6) (v0_8 p1 p2 p3 p4 p5 p6) (f4g_size (v0_7 p1 p2 p3 p4 p5 p6) (v0_6 p1 p2 p3 p4 p5 p6) (0 : Int32) f1_nb (w0_5 p1 p2 p3 p4 p5 p6) (1024 : Nat)) (f4g_nb (v0_7 p1 p2 p3 p4 p5 p6) (v0_6 p1 p2 p3 p4 p5 p6) (0 : Int32) f1_nb (w0_5 p1 p2 p3 p4 p5 p6) (1024 : Nat)) (w0_5 p1 p2 p3 p4 p5 p6) (f8 ((2 : Int32) * (1024 : Nat).toInt32) ((0 : Int32) + (v0_6 p1 p2 p3 p4 p5 p6))).toNatClampNeg)) = (v0_20 p1 p2 p3 p4 p5 p6) then (if (f8 ((2 : Int32) * (f8 ((2 : Int32) * (1024 : Nat).toInt32) ((0 : Int32) + (v0_6 p1 p2 p3 p4 p5 p6))).toNatClampNeg.toInt32) ((f4g_size (v0_7 p1 p2 p3 p4 p5 p6) (v0_6 p1 p2 p3 p4 p5 p6) (0 : Int32) f1_nb (w0_5 p1 p2 p3 p4 p5 p6) (1024 : Nat)) + (v0_8 p1 p2 p3 p4 p5 p6))).toNatClampNeg.toInt32 < (v0_20 p1 p2 p3 p4 p5 p6) then (0 : Int32) else (if (v0_20 p1 p2 p3 p4 p5 p6) = (0 : Int32) then (1 : Int32) else (if ((f4g_nb (v0_9 p1 p2 p3 p4 p5 p6) (v0_8 p1 p2 p3 p4 p5 p6) (f4g_size (v0_7 p1 p2 p3 p4 p5 p6) (v0_6 p1 p2 p3 p4 p5 p6) (0 : Int32) f1_nb (w0_5 p1 p2 p3 p4 p5 p6) (1024 : Nat)) (f4g_nb (v0_7 p1 p2 p3 p4 p5 p6) (v0_6 p1 p2 p3 p4 p5 p6) (0 : Int32) f1_nb (w0_5 p1 p2 p3 p4 p5 p6) (1024 : Nat)) (w0_5 p1 p2 p3 p4 p5 p6) (f8 ((2 : Int32) * (1024 : Nat).toInt32) ((0 : Int32) + (v0_6 p1 p2 p3 p4 p5 p6))).toNatClampNeg) (v0_27 p1 p2 p3 p4 p5 p6).toNatClampNeg) = (v0_30 p1 p2 p3 p4 p5 p6) then (1 : Int32) else (0 : Int32)))) else (0 : Int32))) else (if (v0_17 p1 p2 p3 p4 p5 p6) = (0 : Int32) then (0 : Int32) else (if (f6 (f4k_size (v0_9 p1 p2 p3 p4 p5 p6) (v0_8 p1 p2 p3 p4 p5 p6) (f4g_size (v0_7 p1 p2 p3 p4 p5 p6) (v0_6 p1 p2 p3 p4 p5 p6) (0 : Int32) f1_nb (w0_5 p1 p2 p3 p4 p5 p6) (1024 : Nat)) (f4g_nb (v0_7 p1 p2 p3 p4 p5 p6) (v0_6 p1 p2 p3 p4 p5 p6) (0 : Int32) f1_nb (w0_5 p1 p2 p3 p4 p5 p6) (1024 : Nat)) (w0_5 p1 p2 p3 p4 p5 p6) (f8 ((2 : Int32) * (1024 : Nat).toInt32) ((0 : Int32) + (v0_6 p1 p2 p3 p4 p5 p6))).toNatClampNeg)) = (v0_33 p1 p2 p3 p4 p5 p6) then (if (f8 ((2 : Int32) * (1024 : Nat).toInt32) ((0 : Int32) + (v0_6 p1 p2 p3 p4 p5 p6))).toNatClampNeg.toInt32 < (v0_33 p1 p2 p3 p4 p5 p6) then (0 : Int32) else (if (v0_33 p1 p2 p3 p4 p5 p6) = (0 : Int32) then (1 : Int32) else (if ((f4k_ab (v0_9 p1 p2 p3 p4 p5 p6) (v0_8 p1 p2 p3 p4 p5 p6) (f4g_size (v0_7 p1 p2 p3 p4 p5 p6) (v0_6 p1 p2 p3 p4 p5 p6) (0 : Int32) f1_nb (w0_5 p1 p2 p3 p4 p5 p6) (1024 : Nat)) (f4g_nb (v0_7 p1 p2 p3 p4 p5 p6) (v0_6 p1 p2 p3 p4 p5 p6) (0 : Int32) f1_nb (w0_5 p1 p2 p3 p4 p5 p6) (1024 : Nat)) (w0_5 p1 p2 p3 p4 p5 p6) (f8 ((2 : Int32) * (1024 : Nat).toInt32) ((0 : Int32) + (v0_6 p1 p2 p3 p4 p5 p6))).toNatClampNeg) (v0_40 p1 p2 p3 p4 p5 p6).toNatClampNeg) = (v0_43 p1 p2 p3 p4 p5 p6) then (1 : Int32) else (0 : Int32)))) else (0 : Int32)))) else (if (1024 : Nat).toInt32 < ((f4k_size (v0_7 p1 p2 p3 p4 p5 p6) (v0_6 p1 p2 p3 p4 p5 p6) (0 : Int32) f1_nb (w0_5 p1 p2 p3 p4 p5 p6) (1024 : Nat)) + (v0_8 p1 p2 p3 p4 p5 p6)) then (if (v0_49 p1 p2 p3 p4 p5 p6) = (0 : Int32) then (0 : Int32) else (if (f6 (f4g_size (v0_9 p1 p2 p3 p4 p5 p6) (v0_8 p1 p2 p3 p4 p5 p6) (f4k_size (v0_7 p1 p2 p3 p4 p5 p6) (v0_6 p1 p2 p3 p4 p5 p6) (0 : Int32) f1_nb (w0_5 p1 p2 p3 p4 p5 p6) (1024 : Nat)) (f4k_ab (v0_7 p1 p2 p3 p4 p5 p6) (v0_6 p1 p2 p3 p4 p5 p6) (0 : Int32) f1_nb (w0_5 p1 p2 p3 p4 p5 p6) (1024 : Nat)) (w0_5 p1 p2 p3 p4 p5 p6) (1024 : Nat))) = (v0_52 p1 p2 p3 p4 p5 p6) then (if (f8 ((2 : Int32) * (1024 : Nat).toInt32) ((f4k_size (v0_7 p1 p2 p3 p4 p5 p6) (v0_6 p1 p2 p3 p4 p5 p6) (0 : Int32) f1_nb (w0_5 p1 p2 p3 p4 p5 p6) (1024 : Nat)) + (v0_8 p1 p2 p3 p4 p5 p6))).toNatClampNeg.toInt32 < (v0_52 p1 p2 p3 p4 p5 p6) then (0 : Int32) else (if (v0_52 p1 p2 p3 p4 p5 p6) = (0 : Int32) then (1 : Int32) else (if ((f4g_nb (v0_9 p1 p2 p3 p4 p5 p6) (v0_8 p1 p2 p3 p4 p5 p6) (f4k_size (v0_7 p1 p2 p3 p4 p5 p6) (v0_6 p1 p2 p3 p4 p5 p6) (0 : Int32) f1_nb (w0_5 p1 p2 p3 p4 p5 p6) (1024 : Nat)) (f4k_ab (v0_7 p1 p2 p3 p4 p5 p6) (v0_6 p1 p2 p3 p4 p5 p6) (0 : Int32) f1_nb (w0_5 p1 p2 p3 p4 p5 p6) (1024 : Nat)) (w0_5 p1 p2 p3 p4 p5 p6) (1024 : Nat)) (v0_59 p1 p2 p3 p4 p5 p6).toNatClampNeg) = (v0_62 p1 p2 p3 p4 p5 p6) then (1 : Int32) else (0 : Int32)))) else (0 : Int32))) else (if (v0_49 p1 p2 p3 p4 p5 p6) = (0 : Int32) then (0 : Int32) else (if (f6 (f4k_size (v0_9 p1 p2 p3 p4 p5 p6) (v0_8 p1 p2 p3 p4 p5 p6) (f4k_size (v0_7 p1 p2 p3 p4 p5 p6) (v0_6 p1 p2 p3 p4 p5 p6) (0 : Int32) f1_nb (w0_5 p1 p2 p3 p4 p5 p6) (1024 : Nat)) (f4k_ab (v0_7 p1 p2 p3 p4 p5 p6) (v0_6 p1 p2 p3 p4 p5 p6) (0 : Int32) f1_nb (w0_5 p1 p2 p3 p4 p5 p6) (1024 : Nat)) (w0_5 p1 p2 p3 p4 p5 p6) (1024 : Nat))) = (v0_65 p1 p2 p3 p4 p5 p6) then (if (1024 : Nat).toInt32 < (v0_65 p1 p2 p3 p4 p5 p6) then (0 : Int32) else (if (v0_65 p1 p2 p3 p4 p5 p6) = (0 : Int32) then (1 : Int32) else (if ((f4k_ab (v0_9 p1 p2 p3 p4 p5 p6) (v0_8 p1 p2 p3 p4 p5 p6) (f4k_size (v0_7 p1 p2 p3 p4 p5 p6) (v0_6 p1 p2 p3 p4 p5 p6) (0 : Int32) f1_nb (w0_5 p1 p2 p3 p4 p5 p6) (1024 : Nat)) (f4k_ab (v0_7 p1 p2 p3 p4 p5 p6) (v0_6 p1 p2 p3 p4 p5 p6) (0 : Int32) f1_nb (w0_5 p1 p2 p3 p4 p5 p6) (1024 : Nat)) (w0_5 p1 p2 p3 p4 p5 p6) (1024 : Nat)) (v0_72 p1 p2 p3 p4 p5 p6).toNatClampNeg) = (v0_75 p1 p2 p3 p4 p5 p6) then (1 : Int32) else (0 : Int32)))) else (0 : Int32)))))
def Q0 (Z : State) (p1 : Int32) (p2 : Int32) (p3 : Int32) (p4 : Int32) (p5 : Int32) (p6 : Int32) (h0 : Heap) (n0 : Nat) (v : Option Value) (h : Heap) (L : List Loc) : Prop := v = some (.int (f0 p1 p2 p3 p4 p5 p6)) ∧ Fr n0 L ∧ Keep h0 h []
theorem own_min {n m : Nat} (h : n < m) (hm : m ≤ 4400) : f10 n.toInt32 (Int32.ofNat m) = n.toInt32 := by
  have c : ¬ Int32.ofNat m < n.toInt32 := by rw [Int32.lt_iff_toInt_lt, own_toInt (by omega), own_t32 (by omega)]; omega
  rw [f10, if_neg c]
theorem own_m3 {n m : Nat} (h : n < m) (hm : m ≤ 4400) : ¬ f10 n.toInt32 (Int32.ofNat m) < 0 := by
  rw [own_min h hm]; exact own_nn (by omega)
theorem own_m4 {n m : Nat} (h : n < m) (hm : m ≤ 4400) : (0 : Int32).toNatClampNeg + (f10 n.toInt32 (Int32.ofNat m)).toNatClampNeg ≤ n := by
  rw [own_min h hm, show n.toInt32.toNatClampNeg = n from own_n32 (by omega), show (0 : Int32).toNatClampNeg = 0 from rfl]; omega
theorem own_m5 {n m : Nat} (h : n < m) (hm : m ≤ 4400) : (0 : Int32).toNatClampNeg + (f10 n.toInt32 (Int32.ofNat m)).toNatClampNeg ≤ m := by
  have := own_m4 h hm
  omega
theorem own_max (sz x : Int32) (n : Nat) (h : own_gb sz x n) : (f8 ((2 : Int32) * n.toInt32) (sz + x)).toInt = if 2 * (n : Int) < sz.toInt + x.toInt then sz.toInt + x.toInt else 2 * (n : Int) := by
  obtain ⟨h1, h2, h3, h4⟩ := h
  have e : (((2 : Int32) * n.toInt32).toInt - (2 * (n.toInt32).toInt)) % 4294967296 = 0 := c_imul 2 n.toInt32
  have r := rng32 ((2 : Int32) * n.toInt32)
  rw [own_t32 (by omega)] at e
  have e2 : ((2 : Int32) * n.toInt32).toInt = 2 * (n : Int) := by omega
  have e3 := own_add h1 h2 (by omega)
  rw [f8]
  by_cases c : (2 : Int32) * n.toInt32 < sz + x
  · rw [if_pos c]
    rw [Int32.lt_iff_toInt_lt, e2, e3] at c
    rw [if_pos c, e3]
  · rw [if_neg c]
    rw [Int32.lt_iff_toInt_lt, e2, e3] at c
    rw [if_neg c, e2]
theorem own_M (sz x : Int32) (n : Nat) (h : own_gb sz x n) (c : n.toInt32 < (sz + x)) : ∃ M : Nat, (f8 ((2 : Int32) * n.toInt32) (sz + x)).toNatClampNeg = M ∧ (f8 ((2 : Int32) * n.toInt32) (sz + x)).toInt = M ∧ n < M ∧ M ≤ 4400 ∧ sz.toInt + x.toInt ≤ M := by
  have k := own_max sz x n h
  obtain ⟨h1, h2, h3, h4⟩ := h
  rw [Int32.lt_iff_toInt_lt, own_t32 (by omega), own_add h1 h2 (by omega)] at c
  have k0 : 0 ≤ (f8 ((2 : Int32) * n.toInt32) (sz + x)).toInt := by rw [k]; split <;> omega
  have q := own_nat k0
  refine ⟨_, rfl, q.symm, ?_, ?_, ?_⟩
  · have : (n : Int) < (f8 ((2 : Int32) * n.toInt32) (sz + x)).toInt := by rw [k]; split <;> omega
    omega
  · have : (f8 ((2 : Int32) * n.toInt32) (sz + x)).toInt ≤ 4400 := by rw [k]; split <;> omega
    omega
  · have : sz.toInt + x.toInt ≤ (f8 ((2 : Int32) * n.toInt32) (sz + x)).toInt := by rw [k]; split <;> omega
    omega
theorem own_mp {sz x : Int32} {n : Nat} (h : own_gb sz x n) (c : n.toInt32 < (sz + x)) : f8 ((2 : Int32) * n.toInt32) (sz + x) = Int32.ofNat (f8 ((2 : Int32) * n.toInt32) (sz + x)).toNatClampNeg := by
  obtain ⟨M, m1, m2, -⟩ := own_M sz x n h c
  exact (own_back (own_neg (by omega))).symm
theorem own_mnm {sz x : Int32} {n : Nat} (h : own_gb sz x n) (c : n.toInt32 < (sz + x)) : n < (f8 ((2 : Int32) * n.toInt32) (sz + x)).toNatClampNeg := by
  obtain ⟨M, m1, m2, m3, m4, m5⟩ := own_M sz x n h c
  rw [m1]; exact m3
theorem own_mle {sz x : Int32} {n : Nat} (h : own_gb sz x n) (c : n.toInt32 < (sz + x)) : (f8 ((2 : Int32) * n.toInt32) (sz + x)).toNatClampNeg ≤ 4400 := by
  obtain ⟨M, m1, m2, m3, m4, m5⟩ := own_M sz x n h c
  rw [m1]; exact m4
theorem own_w6 {sz off x : Int32} {n : Nat} (h : own_wb sz off x n) (g : n ≤ 2200) (c : n.toInt32 < (sz + x)) : sz.toNatClampNeg + x.toNatClampNeg ≤ (f8 ((2 : Int32) * n.toInt32) (sz + x)).toNatClampNeg := by
  obtain ⟨M, m1, m2, m3, m4, m5⟩ := own_M sz x n (own_wg h g) c
  have := own_nat h.1
  have := own_nat h.2.2.1
  rw [m1]; omega
/-- what stood in the first places stands there when the buffer has grown -/
theorem own_gnb {sz x : Int32} {fb : Nat → Int32} {n : Nat} (h : own_gb sz x n) (c : n.toInt32 < (sz + x)) {j : Nat} (hj : j < n) : f5g_nb x sz fb n j = fb j := by
  have k := own_min (own_mnm h c) (own_mle h c)
  simp only [f5g_nb, f9_nc, w9_5, w9_2, cpf]
  rw [k, show n.toInt32.toNatClampNeg = n from own_n32 (by have := h.2.2.2; omega), if_pos ⟨by omega, by omega⟩]
  simp

theorem own_pos (x : Int32) : 0 ≤ (x &&& 2147483647).toInt := by
  have a1 : (x &&& 2147483647).toInt = x.toInt % (2 ^ 31 : Nat) := c_mask x 2147483647 31 (by decide) (by decide)
  omega
theorem own_len (x y : Int32) : 0 ≤ ((x &&& (2147483647 : Int32)) % (2201 : Int32)).toInt ∧ ((x &&& (2147483647 : Int32)) % (2201 : Int32)).toInt ≤ 2200 ∧ (2201 : Int32) - ((x &&& (2147483647 : Int32)) % (2201 : Int32)) ≠ 0 ∧
    0 ≤ ((y &&& (2147483647 : Int32)) % ((2201 : Int32) - ((x &&& (2147483647 : Int32)) % (2201 : Int32)))).toInt ∧ ((y &&& (2147483647 : Int32)) % ((2201 : Int32) - ((x &&& (2147483647 : Int32)) % (2201 : Int32)))).toInt + ((x &&& (2147483647 : Int32)) % (2201 : Int32)).toInt ≤ 2200 := by
  have m1 : ((x &&& 2147483647) % 2201).toInt = (x &&& 2147483647).toInt % 2201 := (c_irem (x &&& 2147483647) 2201 2201 rfl).1 (own_pos x)
  generalize (x &&& 2147483647) % 2201 = u at *
  have e : ((2201 - u).toInt - (2201 - u.toInt)) % 4294967296 = 0 := c_isub 2201 u
  have r := rng32 (2201 - u)
  have k : (2201 - u).toInt = 2201 - u.toInt := by omega
  obtain ⟨b1, b2, -⟩ := (c_iremV (y &&& 2147483647) (2201 - u)).1 (own_pos y) (by omega)
  refine ⟨by omega, by omega, fun q => ?_, b1, by omega⟩
  rw [q, show (0 : Int32).toInt = 0 from rfl] at k
  omega
theorem own_F (p1 p2 p3 p4 p5 p6 : Int32) : 0 ≤ (v0_6 p1 p2 p3 p4 p5 p6).toInt ∧ (v0_6 p1 p2 p3 p4 p5 p6).toInt ≤ 2200 ∧ 0 ≤ (v0_7 p1 p2 p3 p4 p5 p6).toInt ∧ (v0_7 p1 p2 p3 p4 p5 p6).toInt + (v0_6 p1 p2 p3 p4 p5 p6).toInt ≤ 2200 ∧ 0 ≤ (v0_8 p1 p2 p3 p4 p5 p6).toInt ∧ (v0_8 p1 p2 p3 p4 p5 p6).toInt ≤ 2200 ∧ 0 ≤ (v0_9 p1 p2 p3 p4 p5 p6).toInt ∧ (v0_9 p1 p2 p3 p4 p5 p6).toInt + (v0_8 p1 p2 p3 p4 p5 p6).toInt ≤ 2200 := by
  obtain ⟨a1, a2, -, a4, a5⟩ := own_len p1 p2
  obtain ⟨b1, b2, -, b4, b5⟩ := own_len p3 p4
  exact ⟨a1, a2, a4, a5, b1, b2, b4, b5⟩
theorem own_nz1 (p1 p2 p3 p4 p5 p6 : Int32) : (2201 : Int32) - (v0_6 p1 p2 p3 p4 p5 p6) ≠ 0 := (own_len p1 p2).2.2.1
theorem own_nz2 (p1 p2 p3 p4 p5 p6 : Int32) : (2201 : Int32) - (v0_8 p1 p2 p3 p4 p5 p6) ≠ 0 := (own_len p3 p4).2.2.1
theorem own_im (p1 p2 p3 p4 p5 p6 : Int32) : inb (v0_3 p1 p2 p3 p4 p5 p6) 2200 := by
  have a1 : (p6 &&& 4095).toInt = p6.toInt % (2 ^ 12 : Nat) := c_mask p6 4095 12 (by decide) (by decide)
  have m1 : (v0_3 p1 p2 p3 p4 p5 p6).toInt = (p6 &&& 4095).toInt % 2200 := (c_irem (p6 &&& 4095) 2200 2200 rfl).1 (by omega)
  exact own_inr (by omega) (by omega)
theorem own_zs (x : Int32) : (0 : Int32) + x = x := Int32.zero_add x
theorem own_szg (p1 p2 p3 p4 p5 p6 : Int32) : (f4g_size (v0_7 p1 p2 p3 p4 p5 p6) (v0_6 p1 p2 p3 p4 p5 p6) (0 : Int32) f1_nb (w0_5 p1 p2 p3 p4 p5 p6) (1024 : Nat)) = (v0_6 p1 p2 p3 p4 p5 p6) := own_zs _
theorem own_szk (p1 p2 p3 p4 p5 p6 : Int32) : (f4k_size (v0_7 p1 p2 p3 p4 p5 p6) (v0_6 p1 p2 p3 p4 p5 p6) (0 : Int32) f1_nb (w0_5 p1 p2 p3 p4 p5 p6) (1024 : Nat)) = (v0_6 p1 p2 p3 p4 p5 p6) := own_zs _
theorem own_h95 (p1 p2 p3 p4 p5 p6 : Int32) : own_wb 0 (v0_7 p1 p2 p3 p4 p5 p6) (v0_6 p1 p2 p3 p4 p5 p6) (1024 : Nat) := by
  obtain ⟨a1, a2, a3, a4, -⟩ := own_F p1 p2 p3 p4 p5 p6
  exact ⟨by decide, a3, a1, a4, by rw [show (0 : Int32).toInt = 0 from rfl]; omega, by decide, by decide⟩
theorem own_ng (p1 p2 p3 p4 p5 p6 : Int32) (c : (1024 : Nat).toInt32 < ((0 : Int32) + (v0_6 p1 p2 p3 p4 p5 p6))) : ∃ M : Nat, (f8 ((2 : Int32) * (1024 : Nat).toInt32) ((0 : Int32) + (v0_6 p1 p2 p3 p4 p5 p6))).toNatClampNeg = M ∧ 1024 < M ∧ M ≤ 2200 ∧ (v0_6 p1 p2 p3 p4 p5 p6).toInt ≤ M := by
  have h : own_gb 0 (v0_6 p1 p2 p3 p4 p5 p6) 1024 := own_wg (own_h95 p1 p2 p3 p4 p5 p6) (by decide)
  obtain ⟨M, m1, m2, m3, m4, m5⟩ := own_M 0 (v0_6 p1 p2 p3 p4 p5 p6) 1024 h c
  have k := own_max 0 (v0_6 p1 p2 p3 p4 p5 p6) 1024 h
  obtain ⟨a1, a2, -⟩ := own_F p1 p2 p3 p4 p5 p6
  rw [show (0 : Int32).toInt = 0 from rfl] at k m5
  refine ⟨M, m1, m3, ?_, by omega⟩
  have : (f8 ((2 : Int32) * (1024 : Nat).toInt32) ((0 : Int32) + (v0_6 p1 p2 p3 p4 p5 p6))).toInt ≤ 2200 := by rw [k]; split <;> omega
  omega
theorem own_h123g (p1 p2 p3 p4 p5 p6 : Int32) (c : (1024 : Nat).toInt32 < ((0 : Int32) + (v0_6 p1 p2 p3 p4 p5 p6))) : own_wb (f4g_size (v0_7 p1 p2 p3 p4 p5 p6) (v0_6 p1 p2 p3 p4 p5 p6) (0 : Int32) f1_nb (w0_5 p1 p2 p3 p4 p5 p6) (1024 : Nat)) (v0_9 p1 p2 p3 p4 p5 p6) (v0_8 p1 p2 p3 p4 p5 p6) (f8 ((2 : Int32) * (1024 : Nat).toInt32) ((0 : Int32) + (v0_6 p1 p2 p3 p4 p5 p6))).toNatClampNeg := by
  obtain ⟨a1, a2, a3, a4, b1, b2, b3, b4⟩ := own_F p1 p2 p3 p4 p5 p6
  obtain ⟨M, m1, m2, m3, m4⟩ := own_ng p1 p2 p3 p4 p5 p6 c
  rw [own_szg, m1]
  exact ⟨a1, b3, b1, b4, by omega, m4, by omega⟩
theorem own_h123k (p1 p2 p3 p4 p5 p6 : Int32) (c : ¬ (1024 : Nat).toInt32 < ((0 : Int32) + (v0_6 p1 p2 p3 p4 p5 p6))) : own_wb (f4k_size (v0_7 p1 p2 p3 p4 p5 p6) (v0_6 p1 p2 p3 p4 p5 p6) (0 : Int32) f1_nb (w0_5 p1 p2 p3 p4 p5 p6) (1024 : Nat)) (v0_9 p1 p2 p3 p4 p5 p6) (v0_8 p1 p2 p3 p4 p5 p6) (1024 : Nat) := by
  obtain ⟨a1, a2, a3, a4, b1, b2, b3, b4⟩ := own_F p1 p2 p3 p4 p5 p6
  rw [own_zs, Int32.lt_iff_toInt_lt, own_t32 (by decide)] at c
  rw [own_szk]
  exact ⟨a1, b3, b1, b4, by omega, by omega, by decide⟩
theorem own_hgg (p1 p2 p3 p4 p5 p6 : Int32) (c : (1024 : Nat).toInt32 < ((0 : Int32) + (v0_6 p1 p2 p3 p4 p5 p6))) : (f8 ((2 : Int32) * (1024 : Nat).toInt32) ((0 : Int32) + (v0_6 p1 p2 p3 p4 p5 p6))).toNatClampNeg ≤ 2200 := by
  obtain ⟨M, m1, m2, m3, m4⟩ := own_ng p1 p2 p3 p4 p5 p6 c
  omega
theorem own_hgk (p1 p2 p3 p4 p5 p6 : Int32) (c : ¬ (1024 : Nat).toInt32 < ((0 : Int32) + (v0_6 p1 p2 p3 p4 p5 p6))) : (1024 : Nat) ≤ 2200 := by decide
theorem own_q (p1 p2 p3 p4 p5 p6 : Int32) (c : ¬ ((v0_6 p1 p2 p3 p4 p5 p6) + (v0_8 p1 p2 p3 p4 p5 p6)) = 0) : 0 ≤ ((p5 &&& (2147483647 : Int32)) % ((v0_6 p1 p2 p3 p4 p5 p6) + (v0_8 p1 p2 p3 p4 p5 p6))).toInt ∧ ((p5 &&& (2147483647 : Int32)) % ((v0_6 p1 p2 p3 p4 p5 p6) + (v0_8 p1 p2 p3 p4 p5 p6))).toInt < (v0_6 p1 p2 p3 p4 p5 p6).toInt + (v0_8 p1 p2 p3 p4 p5 p6).toInt ∧ ((v0_6 p1 p2 p3 p4 p5 p6) + (v0_8 p1 p2 p3 p4 p5 p6)).toInt = (v0_6 p1 p2 p3 p4 p5 p6).toInt + (v0_8 p1 p2 p3 p4 p5 p6).toInt := by
  obtain ⟨a1, a2, a3, a4, b1, b2, b3, b4⟩ := own_F p1 p2 p3 p4 p5 p6
  have e := own_add a1 b1 (by omega)
  have ne : ((v0_6 p1 p2 p3 p4 p5 p6) + (v0_8 p1 p2 p3 p4 p5 p6)).toInt ≠ 0 := fun q => c (Int32.toInt_inj.mp q)
  obtain ⟨d1, d2, -⟩ := (c_iremV (p5 &&& 2147483647) ((v0_6 p1 p2 p3 p4 p5 p6) + (v0_8 p1 p2 p3 p4 p5 p6))).1 (own_pos p5) (by omega)
  exact ⟨d1, by omega, e⟩
theorem own_ia (p1 p2 p3 p4 p5 p6 : Int32) (c1 : ¬ ((v0_6 p1 p2 p3 p4 p5 p6) + (v0_8 p1 p2 p3 p4 p5 p6)) = 0) (c2 : ((p5 &&& (2147483647 : Int32)) % ((v0_6 p1 p2 p3 p4 p5 p6) + (v0_8 p1 p2 p3 p4 p5 p6))) < (v0_6 p1 p2 p3 p4 p5 p6)) : inb ((v0_7 p1 p2 p3 p4 p5 p6) + ((p5 &&& (2147483647 : Int32)) % ((v0_6 p1 p2 p3 p4 p5 p6) + (v0_8 p1 p2 p3 p4 p5 p6)))) 2200 := by
  obtain ⟨a1, a2, a3, a4, b1, b2, b3, b4⟩ := own_F p1 p2 p3 p4 p5 p6
  obtain ⟨d1, d2, d3⟩ := own_q p1 p2 p3 p4 p5 p6 c1
  rw [Int32.lt_iff_toInt_lt] at c2
  have e := own_add a3 d1 (by omega)
  exact own_inr (by omega) (by omega)
theorem own_subq (p1 p2 p3 p4 p5 p6 : Int32) (c1 : ¬ ((v0_6 p1 p2 p3 p4 p5 p6) + (v0_8 p1 p2 p3 p4 p5 p6)) = 0) (c2 : ¬ ((p5 &&& (2147483647 : Int32)) % ((v0_6 p1 p2 p3 p4 p5 p6) + (v0_8 p1 p2 p3 p4 p5 p6))) < (v0_6 p1 p2 p3 p4 p5 p6)) : ((v0_9 p1 p2 p3 p4 p5 p6) + ((p5 &&& (2147483647 : Int32)) % ((v0_6 p1 p2 p3 p4 p5 p6) + (v0_8 p1 p2 p3 p4 p5 p6))) - (v0_6 p1 p2 p3 p4 p5 p6)).toInt = (v0_9 p1 p2 p3 p4 p5 p6).toInt + ((p5 &&& (2147483647 : Int32)) % ((v0_6 p1 p2 p3 p4 p5 p6) + (v0_8 p1 p2 p3 p4 p5 p6))).toInt - (v0_6 p1 p2 p3 p4 p5 p6).toInt := by
  obtain ⟨a1, a2, a3, a4, b1, b2, b3, b4⟩ := own_F p1 p2 p3 p4 p5 p6
  obtain ⟨d1, d2, d3⟩ := own_q p1 p2 p3 p4 p5 p6 c1
  rw [Int32.lt_iff_toInt_lt] at c2
  have e := own_add b3 d1 (by omega)
  have e2 : (((v0_9 p1 p2 p3 p4 p5 p6) + ((p5 &&& (2147483647 : Int32)) % ((v0_6 p1 p2 p3 p4 p5 p6) + (v0_8 p1 p2 p3 p4 p5 p6))) - (v0_6 p1 p2 p3 p4 p5 p6)).toInt - (((v0_9 p1 p2 p3 p4 p5 p6) + ((p5 &&& (2147483647 : Int32)) % ((v0_6 p1 p2 p3 p4 p5 p6) + (v0_8 p1 p2 p3 p4 p5 p6)))).toInt - (v0_6 p1 p2 p3 p4 p5 p6).toInt)) % 4294967296 = 0 := c_isub _ _
  have r := rng32 ((v0_9 p1 p2 p3 p4 p5 p6) + ((p5 &&& (2147483647 : Int32)) % ((v0_6 p1 p2 p3 p4 p5 p6) + (v0_8 p1 p2 p3 p4 p5 p6))) - (v0_6 p1 p2 p3 p4 p5 p6))
  omega
theorem own_ib (p1 p2 p3 p4 p5 p6 : Int32) (c1 : ¬ ((v0_6 p1 p2 p3 p4 p5 p6) + (v0_8 p1 p2 p3 p4 p5 p6)) = 0) (c2 : ¬ ((p5 &&& (2147483647 : Int32)) % ((v0_6 p1 p2 p3 p4 p5 p6) + (v0_8 p1 p2 p3 p4 p5 p6))) < (v0_6 p1 p2 p3 p4 p5 p6)) : inb ((v0_9 p1 p2 p3 p4 p5 p6) + ((p5 &&& (2147483647 : Int32)) % ((v0_6 p1 p2 p3 p4 p5 p6) + (v0_8 p1 p2 p3 p4 p5 p6))) - (v0_6 p1 p2 p3 p4 p5 p6)) 2200 := by
  obtain ⟨a1, a2, a3, a4, b1, b2, b3, b4⟩ := own_F p1 p2 p3 p4 p5 p6
  obtain ⟨d1, d2, d3⟩ := own_q p1 p2 p3 p4 p5 p6 c1
  have e := own_subq p1 p2 p3 p4 p5 p6 c1 c2
  rw [Int32.lt_iff_toInt_lt] at c2
  exact own_inr (by omega) (by omega)
theorem own_ic (p1 p2 p3 p4 p5 p6 : Int32) {N : Nat} (hN : N < 2 ^ 31) (c3 : ¬ N.toInt32 < ((v0_6 p1 p2 p3 p4 p5 p6) + (v0_8 p1 p2 p3 p4 p5 p6))) (c4 : ¬ ((v0_6 p1 p2 p3 p4 p5 p6) + (v0_8 p1 p2 p3 p4 p5 p6)) = 0) : inb ((p5 &&& (2147483647 : Int32)) % ((v0_6 p1 p2 p3 p4 p5 p6) + (v0_8 p1 p2 p3 p4 p5 p6))) N := by
  obtain ⟨d1, d2, d3⟩ := own_q p1 p2 p3 p4 p5 p6 c4
  rw [Int32.lt_iff_toInt_lt, own_t32 (by omega)] at c3
  exact own_inr d1 (by omega)
/-- the two writes, read at one place -/
theorem own_fin (p1 p2 p3 p4 p5 p6 : Int32) (Bs : Nat → Int32) (hB : ∀ j : Nat, (j : Int) < (v0_6 p1 p2 p3 p4 p5 p6).toInt → Bs j = (w0_5 p1 p2 p3 p4 p5 p6) ((v0_7 p1 p2 p3 p4 p5 p6).toNatClampNeg + j)) (c1 : ¬ ((v0_6 p1 p2 p3 p4 p5 p6) + (v0_8 p1 p2 p3 p4 p5 p6)) = 0) :
    cpf (w0_5 p1 p2 p3 p4 p5 p6) Bs (v0_9 p1 p2 p3 p4 p5 p6).toNatClampNeg (v0_6 p1 p2 p3 p4 p5 p6).toNatClampNeg (v0_8 p1 p2 p3 p4 p5 p6).toNatClampNeg ((p5 &&& (2147483647 : Int32)) % ((v0_6 p1 p2 p3 p4 p5 p6) + (v0_8 p1 p2 p3 p4 p5 p6))).toNatClampNeg = v0_30 p1 p2 p3 p4 p5 p6 := by
  obtain ⟨a1, a2, a3, a4, b1, b2, b3, b4⟩ := own_F p1 p2 p3 p4 p5 p6
  obtain ⟨d1, d2, d3⟩ := own_q p1 p2 p3 p4 p5 p6 c1
  have e : v0_30 p1 p2 p3 p4 p5 p6 = if ((p5 &&& (2147483647 : Int32)) % ((v0_6 p1 p2 p3 p4 p5 p6) + (v0_8 p1 p2 p3 p4 p5 p6))) < (v0_6 p1 p2 p3 p4 p5 p6) then (w0_5 p1 p2 p3 p4 p5 p6) ((v0_7 p1 p2 p3 p4 p5 p6) + ((p5 &&& (2147483647 : Int32)) % ((v0_6 p1 p2 p3 p4 p5 p6) + (v0_8 p1 p2 p3 p4 p5 p6)))).toNatClampNeg else (w0_5 p1 p2 p3 p4 p5 p6) ((v0_9 p1 p2 p3 p4 p5 p6) + ((p5 &&& (2147483647 : Int32)) % ((v0_6 p1 p2 p3 p4 p5 p6) + (v0_8 p1 p2 p3 p4 p5 p6))) - (v0_6 p1 p2 p3 p4 p5 p6)).toNatClampNeg := rfl
  rw [e]
  have n1 := own_nat a1
  have n2 := own_nat b1
  have nq := own_nat d1
  have no := own_nat a3
  have no2 := own_nat b3
  simp only [cpf]
  by_cases c2 : ((p5 &&& (2147483647 : Int32)) % ((v0_6 p1 p2 p3 p4 p5 p6) + (v0_8 p1 p2 p3 p4 p5 p6))) < (v0_6 p1 p2 p3 p4 p5 p6)
  · rw [if_pos c2]
    rw [Int32.lt_iff_toInt_lt] at c2
    have e2 := own_add a3 d1 (by omega)
    have n3 := own_nat (x := (v0_7 p1 p2 p3 p4 p5 p6) + ((p5 &&& (2147483647 : Int32)) % ((v0_6 p1 p2 p3 p4 p5 p6) + (v0_8 p1 p2 p3 p4 p5 p6)))) (by omega)
    rw [if_neg (by omega), hB _ (by omega)]
    congr 1; omega
  · have e3 := own_subq p1 p2 p3 p4 p5 p6 c1 c2
    rw [if_neg c2]
    rw [Int32.lt_iff_toInt_lt] at c2
    have n3 := own_nat (x := (v0_9 p1 p2 p3 p4 p5 p6) + ((p5 &&& (2147483647 : Int32)) % ((v0_6 p1 p2 p3 p4 p5 p6) + (v0_8 p1 p2 p3 p4 p5 p6))) - (v0_6 p1 p2 p3 p4 p5 p6)) (by omega)
    rw [if_pos ⟨by omega, by omega⟩]
    congr 1; omega
theorem own_B1 (p1 p2 p3 p4 p5 p6 : Int32) (Bs : Nat → Int32) : ∀ j : Nat, (j : Int) < (v0_6 p1 p2 p3 p4 p5 p6).toInt → cpf (w0_5 p1 p2 p3 p4 p5 p6) Bs (v0_7 p1 p2 p3 p4 p5 p6).toNatClampNeg (0 : Int32).toNatClampNeg (v0_6 p1 p2 p3 p4 p5 p6).toNatClampNeg j = (w0_5 p1 p2 p3 p4 p5 p6) ((v0_7 p1 p2 p3 p4 p5 p6).toNatClampNeg + j) := by
  intro j hj
  obtain ⟨a1, -⟩ := own_F p1 p2 p3 p4 p5 p6
  have n1 := own_nat a1
  simp only [cpf, show (0 : Int32).toNatClampNeg = 0 from rfl]
  rw [if_pos ⟨by omega, by omega⟩]
  congr 1
theorem own_fs4g (p3 p4 sz : Int32) (fb fs : Nat → Int32) (n : Nat) : f6 (f4g_size p3 p4 sz fb fs n) = sz + p4 := rfl
theorem own_fs4k (p3 p4 sz : Int32) (fb fs : Nat → Int32) (n : Nat) : f6 (f4k_size p3 p4 sz fb fs n) = sz + p4 := rfl
theorem own_law (p1 p2 p3 p4 p5 p6 : Int32) : f0 p1 p2 p3 p4 p5 p6 = 1 := by
  obtain ⟨a1, a2, a3, a4, b1, b2, b3, b4⟩ := own_F p1 p2 p3 p4 p5 p6
  have d : ¬ (1 : Int32) = 0 := by decide
  have e17 : v0_17 p1 p2 p3 p4 p5 p6 = 1 := by rw [v0_17, f6, own_szg, if_pos rfl]
  have e49 : v0_49 p1 p2 p3 p4 p5 p6 = 1 := by rw [v0_49, f6, own_szk, if_pos rfl]
  have eT := own_add a1 b1 (by omega)
  have t20 : v0_20 p1 p2 p3 p4 p5 p6 = (v0_6 p1 p2 p3 p4 p5 p6) + (v0_8 p1 p2 p3 p4 p5 p6) := rfl
  have t33 : v0_33 p1 p2 p3 p4 p5 p6 = (v0_6 p1 p2 p3 p4 p5 p6) + (v0_8 p1 p2 p3 p4 p5 p6) := rfl
  have t52 : v0_52 p1 p2 p3 p4 p5 p6 = (v0_6 p1 p2 p3 p4 p5 p6) + (v0_8 p1 p2 p3 p4 p5 p6) := rfl
  have t65 : v0_65 p1 p2 p3 p4 p5 p6 = (v0_6 p1 p2 p3 p4 p5 p6) + (v0_8 p1 p2 p3 p4 p5 p6) := rfl
  have x43 : v0_43 p1 p2 p3 p4 p5 p6 = v0_30 p1 p2 p3 p4 p5 p6 := rfl
  have x62 : v0_62 p1 p2 p3 p4 p5 p6 = v0_30 p1 p2 p3 p4 p5 p6 := rfl
  have x75 : v0_75 p1 p2 p3 p4 p5 p6 = v0_30 p1 p2 p3 p4 p5 p6 := rfl
  have q27 : v0_27 p1 p2 p3 p4 p5 p6 = (p5 &&& (2147483647 : Int32)) % ((v0_6 p1 p2 p3 p4 p5 p6) + (v0_8 p1 p2 p3 p4 p5 p6)) := rfl
  have q40 : v0_40 p1 p2 p3 p4 p5 p6 = (p5 &&& (2147483647 : Int32)) % ((v0_6 p1 p2 p3 p4 p5 p6) + (v0_8 p1 p2 p3 p4 p5 p6)) := rfl
  have q59 : v0_59 p1 p2 p3 p4 p5 p6 = (p5 &&& (2147483647 : Int32)) % ((v0_6 p1 p2 p3 p4 p5 p6) + (v0_8 p1 p2 p3 p4 p5 p6)) := rfl
  have q72 : v0_72 p1 p2 p3 p4 p5 p6 = (p5 &&& (2147483647 : Int32)) % ((v0_6 p1 p2 p3 p4 p5 p6) + (v0_8 p1 p2 p3 p4 p5 p6)) := rfl
  rw [f0, e17, e49, t20, t33, t52, t65, x43, x62, x75, q27, q40, q59, q72, own_szg, own_szk]
  by_cases g1 : (1024 : Nat).toInt32 < ((0 : Int32) + (v0_6 p1 p2 p3 p4 p5 p6))
  · rw [if_pos g1]
    obtain ⟨M, m1, m2, m3, m4⟩ := own_ng p1 p2 p3 p4 p5 p6 g1
    by_cases g2 : ((f8 ((2 : Int32) * (1024 : Nat).toInt32) ((0 : Int32) + (v0_6 p1 p2 p3 p4 p5 p6))).toNatClampNeg).toInt32 < ((v0_6 p1 p2 p3 p4 p5 p6) + (v0_8 p1 p2 p3 p4 p5 p6))
    · have hgb : own_gb (v0_6 p1 p2 p3 p4 p5 p6) (v0_8 p1 p2 p3 p4 p5 p6) (f8 ((2 : Int32) * (1024 : Nat).toInt32) ((0 : Int32) + (v0_6 p1 p2 p3 p4 p5 p6))).toNatClampNeg := by rw [m1]; exact ⟨a1, b1, by omega, by omega⟩
      obtain ⟨M2, k1, k2, k3, k4, k5⟩ := own_M (v0_6 p1 p2 p3 p4 p5 p6) (v0_8 p1 p2 p3 p4 p5 p6) (f8 ((2 : Int32) * (1024 : Nat).toInt32) ((0 : Int32) + (v0_6 p1 p2 p3 p4 p5 p6))).toNatClampNeg hgb g2
      have c3 : ¬ ((f8 ((2 : Int32) * ((f8 ((2 : Int32) * (1024 : Nat).toInt32) ((0 : Int32) + (v0_6 p1 p2 p3 p4 p5 p6))).toNatClampNeg).toInt32) ((v0_6 p1 p2 p3 p4 p5 p6) + (v0_8 p1 p2 p3 p4 p5 p6))).toNatClampNeg).toInt32 < ((v0_6 p1 p2 p3 p4 p5 p6) + (v0_8 p1 p2 p3 p4 p5 p6)) := by
        rw [k1, Int32.lt_iff_toInt_lt, own_t32 (by omega)]; omega
      rw [if_pos g2, if_neg d, if_pos (own_fs4g _ _ _ _ _ _), if_neg c3]
      by_cases c4 : (v0_6 p1 p2 p3 p4 p5 p6) + (v0_8 p1 p2 p3 p4 p5 p6) = 0
      · rw [if_pos c4]
      · rw [if_neg c4, if_pos]
        exact own_fin p1 p2 p3 p4 p5 p6 _ (fun j hj => (own_gnb hgb g2 (by rw [m1]; omega)).trans (own_B1 p1 p2 p3 p4 p5 p6 _ j hj)) c4
    · rw [if_neg g2, if_neg d, if_pos (own_fs4k _ _ _ _ _ _), if_neg g2]
      by_cases c4 : (v0_6 p1 p2 p3 p4 p5 p6) + (v0_8 p1 p2 p3 p4 p5 p6) = 0
      · rw [if_pos c4]
      · rw [if_neg c4, if_pos]
        exact own_fin p1 p2 p3 p4 p5 p6 _ (fun j hj => own_B1 p1 p2 p3 p4 p5 p6 _ j hj) c4
  · rw [if_neg g1]
    have g1' : (v0_6 p1 p2 p3 p4 p5 p6).toInt ≤ 1024 := by
      rw [own_zs, Int32.lt_iff_toInt_lt, own_t32 (by decide)] at g1; omega
    by_cases g2 : (1024 : Nat).toInt32 < ((v0_6 p1 p2 p3 p4 p5 p6) + (v0_8 p1 p2 p3 p4 p5 p6))
    · have hgb : own_gb (v0_6 p1 p2 p3 p4 p5 p6) (v0_8 p1 p2 p3 p4 p5 p6) 1024 := ⟨a1, b1, by omega, by decide⟩
      obtain ⟨M2, k1, k2, k3, k4, k5⟩ := own_M (v0_6 p1 p2 p3 p4 p5 p6) (v0_8 p1 p2 p3 p4 p5 p6) 1024 hgb g2
      have c3 : ¬ ((f8 ((2 : Int32) * (1024 : Nat).toInt32) ((v0_6 p1 p2 p3 p4 p5 p6) + (v0_8 p1 p2 p3 p4 p5 p6))).toNatClampNeg).toInt32 < ((v0_6 p1 p2 p3 p4 p5 p6) + (v0_8 p1 p2 p3 p4 p5 p6)) := by
        rw [k1, Int32.lt_iff_toInt_lt, own_t32 (by omega)]; omega
      rw [if_pos g2, if_neg d, if_pos (own_fs4g _ _ _ _ _ _), if_neg c3]
      by_cases c4 : (v0_6 p1 p2 p3 p4 p5 p6) + (v0_8 p1 p2 p3 p4 p5 p6) = 0
      · rw [if_pos c4]
      · rw [if_neg c4, if_pos]
        exact own_fin p1 p2 p3 p4 p5 p6 _ (fun j hj => (own_gnb hgb g2 (by omega)).trans (own_B1 p1 p2 p3 p4 p5 p6 _ j hj)) c4
    · rw [if_neg g2, if_neg d, if_pos (own_fs4k _ _ _ _ _ _), if_neg g2]
      by_cases c4 : (v0_6 p1 p2 p3 p4 p5 p6) + (v0_8 p1 p2 p3 p4 p5 p6) = 0
      · rw [if_pos c4]
      · rw [if_neg c4, if_pos]
        exact own_fin p1 p2 p3 p4 p5 p6 _ (fun j hj => own_B1 p1 p2 p3 p4 p5 p6 _ j hj) c4
set_option maxRecDepth 65536 in
set_option maxHeartbeats 40000000 in
theorem rm2 (l : Launch) (Z : State) (a0 : Array Value) (hw : ∀ d ∈ tables_1, d.before a0 Z = true) (ws : List Jvm.Cond) (a1 : Addr) (h0 : Heap) :
    Con l Z (⟨"java/io/OutputStream", "<init>", "()V"⟩ : MethodName) jdk_2038_method_1_code 1 none ws ({ frames := 1, cells := 0, slots := 0, locals := 12 } : Room) #[(.ref a1)] h0 (PV h0) := by
  refine own_body pn_2 (fun m => ef_2 m a1) ?_
  intro p e s m below meth c T0 W X0 hx hby hml hret hlk hown hnm hZ e0 hW
  show Go p e below W T0 (mkF m 0 #[.val (.ref a1)] [])
  refine Go.of (fun _ k => XS.aloadN X0.here hx rfl (hb hby d2_0) rfl rfl k) ?_
  show Go p e below W T0 (mkF m 1 #[.val (.ref a1)] [(.ref a1)])
  refine Go.initO X0 hx hZ hown (hw _ (List.mem_of_getElem? (i := 13) rfl)) (hw _ (List.mem_of_getElem? (i := 14) rfl)) (hw _ (List.mem_of_getElem? (i := 15) rfl)) e0 (by rw [hml]; rfl) (hb hby d2_1) (by decide) (V := 0) (Nat.le_of_ble_eq_true rfl) (by decide) ?_
  intro T1 X1 e1
  show Go p e below W T1 (mkF m 4 #[.val (.ref a1)] [])
  exact Go.retV X1 hx hret (hb hby d2_4) hlk (fun t ht fe => hW t _ _ _ _ ⟨rfl, rfl, ht.trans e1⟩ fe (by decide) (by decide))
set_option maxRecDepth 65536 in
set_option maxHeartbeats 40000000 in
theorem rm1 (l : Launch) (Z : State) (a0 : Array Value) (hw : ∀ d ∈ tables_1, d.before a0 Z = true) (ws : List Jvm.Cond) (a1 : Addr) (h0 : Heap) (n0 : Nat) (Z0 : n0 ≤ h0.size) (E_a1 : Exa Z h0 a1 "com/example/gridtally/gridtally/io/ByteStreams$Buffer") (F_a1_bytes : Fld Z h0 a1 "com/example/gridtally/gridtally/io/ByteStreams$Buffer" "bytes" "[B" .null) (F_a1_size : Fld Z h0 a1 "com/example/gridtally/gridtally/io/ByteStreams$Buffer" "size" "I" (.int (0 : Int32))) (g_a1 : n0 ≤ a1) :
    Con l Z (⟨"com/example/gridtally/gridtally/io/ByteStreams$Buffer", "<init>", "()V"⟩ : MethodName) prog_35_method_1_code 1 none ws ({ frames := 2, cells := 1, slots := 1024, locals := 24 } : Room) #[(.ref a1)] h0 (Q1 Z a1 h0 n0) := by
  refine own_body pn_1 (fun m => ef_1 m a1) ?_
  intro p e s m below meth c T0 W X0 hx hby hml hret hlk hown hnm hZ e0 hW
  have K : Keep h0 h0 [a1] := Keep.refl _ _
  have N := Fr.nil n0
  show Go p e below W T0 (mkF m 0 #[.val (.ref a1)] [])
  refine Go.of (fun _ k => XS.aloadN X0.here hx rfl (hb hby d1_0) rfl rfl k) ?_
  show Go p e below W T0 (mkF m 1 #[.val (.ref a1)] [(.ref a1)])
  refine Go.callI X0 hx hZ rfl hown (hw _ (List.mem_of_getElem? (i := 8) rfl)) (hw _ (List.mem_of_getElem? (i := 9) rfl)) (hw _ (List.mem_of_getElem? (i := 11) rfl)) (hw _ (List.mem_of_getElem? (i := 12) rfl)) (by decide) e0 (rm2 l Z a0 hw [] a1 h0) (V := 0) (by decide) (by decide) (by decide) (by decide) (by rw [hml]; rfl) (argsL := []) (rest := []) rfl (lenOf pd___V rfl) rfl (Nat.le_of_ble_eq_true rfl) (hb hby d1_1) ?_
  rintro T1 _ _ ⟨rfl, rfl, e1⟩ X1
  rw [List.append_nil] at X1
  show Go p e below W T1 (mkF m 4 #[.val (.ref a1)] [])
  refine Go.of (fun _ k => XS.aloadN X1.here hx rfl (hb hby d1_4) rfl rfl k) ?_
  show Go p e below W T1 (mkF m 5 #[.val (.ref a1)] [(.ref a1)])
  refine Go.of (fun _ k => XS.sipush X1.here hx rfl (hb hby d1_5) k) ?_
  show Go p e below W T1 (mkF m 8 #[.val (.ref a1)] [(.int (1024 : Int32)), (.ref a1)])
  refine Go.newA X1 hx hZ (hw _ (List.mem_of_getElem? (i := 0) rfl)) rfl rfl rfl e1 (hb hby d1_8) (by decide) (cap := 1024) (by decide) (by decide) (by decide) (by decide) ?_
  intro T2 h2 b2 zq2 X2 e2 E2 E_b2 A_b2
  have ne_a1_b2 : a1 ≠ b2 := by rw [zq2]; exact Nat.ne_of_lt E_a1.lt
  have g_b2 : n0 ≤ b2 := by rw [zq2]; exact Z0
  have s_b2 : h0.size ≤ b2 := by rw [zq2]; exact K.1
  have E_a1 := E_a1.ext E2
  have F_a1_bytes := F_a1_bytes.ext E2
  have F_a1_size := F_a1_size.ext E2
  have K := K.ext E2
  have Z0 := Nat.le_trans Z0 E2.1
  have A_b2 : AI Z h2 b2 .byte 1024 w1_3 := A_b2
  show Go p e below W T2 (mkF m 10 #[.val (.ref a1)] [(.ref b2), (.ref a1)])
  refine Go.putF X2 hx hZ hown (hw _ (List.mem_of_getElem? (i := 16) rfl)) e2 N g_a1 F_a1_bytes E_a1 (Or.inl (hw _ (List.mem_of_getElem? (i := 17) rfl))) (hw _ (List.mem_of_getElem? (i := 3) rfl)) (ty := (.array .byte)) (by decide) (v' := (.ref b2)) rfl rfl (hb hby d1_10) ?_
  intro T4 h4 L4 X4 N e4 W4 F_a1_bytes
  have E_a1 := E_a1.wr W4
  have F_a1_size := F_a1_size.other W4 (Or.inr (slot_ne (Or.inl (hw _ (List.mem_of_getElem? (i := 28) rfl))) (Or.inl (hw _ (List.mem_of_getElem? (i := 17) rfl))) (by decide) (t := .int) (t' := (.array .byte)) (by decide) (by decide)))
  have A_b2 := A_b2.other W4 (Ne.symm ne_a1_b2)
  have K := K.wr W4 (Or.inl (List.mem_of_getElem? (i := 0) rfl))
  have Z0 := Nat.le_trans Z0 (Keep.of_wr W4).1
  show Go p e below W T4 (mkF m 13 #[.val (.ref a1)] [])
  have u_f1_nb : f1_nb = w1_3 := by rw [f1_nb]
  have fin : Q1 Z a1 h0 n0 (none) h4 L4 := ⟨b2, rfl, N, K, s_b2, F_a1_bytes, F_a1_size, (by rw [u_f1_nb]; exact A_b2)⟩
  exact Go.retV X4 hx hret (hb hby d1_13) hlk (fun t ht fe => hW t _ _ _ _ (by rw [ht, e4]; exact fin) fe (by decide) (by decide))
set_option maxRecDepth 65536 in
set_option maxHeartbeats 40000000 in
theorem rm8 (l : Launch) (Z : State) (a0 : Array Value) (hw : ∀ d ∈ tables_1, d.before a0 Z = true) (ws : List Jvm.Cond) (p1 : Int32) (p2 : Int32) (h0 : Heap) :
    Con l Z (⟨"java/lang/Math", "max", "(II)I"⟩ : MethodName) jdk_29_method_65_code 2 (some .int) ws ({ frames := 0, cells := 0, slots := 0, locals := 0 } : Room) #[(.int p1), (.int p2)] h0 (PQ (.int (f8 p1 p2)) h0) := by
  refine own_body pn_8 (fun m => ef_8 m p1 p2) ?_
  intro p e s m below meth c T0 W X0 hx hby hml hret hlk hown hnm hZ e0 hW
  show Go p e below W T0 (mkF m 0 #[.val (.int p1), .val (.int p2)] [])
  refine Go.of (fun _ k => XS.iloadN X0.here hx rfl (hb hby d8_0) rfl k) ?_
  show Go p e below W T0 (mkF m 1 #[.val (.int p1), .val (.int p2)] [(.int p1)])
  refine Go.of (fun _ k => XS.iloadN X0.here hx rfl (hb hby d8_1) rfl k) ?_
  show Go p e below W T0 (mkF m 2 #[.val (.int p1), .val (.int p2)] [(.int p2), (.int p1)])
  by_cases c1 : p1 < p2
  · refine Go.of (fun _ k => XS.icmpYes X0.here hx rfl (pc0 := 2) (pc' := 9) rfl (hb hby d8_2) rfl (Jvm.Free.XT.ii_lt_t c1) (by decide) (by decide) k) ?_
    show Go p e below W T0 (mkF m 9 #[.val (.int p1), .val (.int p2)] [])
    refine Go.of (fun _ k => XS.iloadN X0.here hx rfl (hb hby d8_9) rfl k) ?_
    show Go p e below W T0 (mkF m 10 #[.val (.int p1), .val (.int p2)] [(.int p2)])
    have q : (f8 p1 p2) = p2 := by rw [f8, if_pos c1]
    exact Go.retI X0 hx hret (hb hby d8_10) hlk q.symm (fun t ht fe => hW t _ _ _ _ ⟨rfl, rfl, ht.trans e0⟩ fe (by decide) (by decide))
  · refine Go.of (fun _ k => XS.icmpNo X0.here hx rfl (hb hby d8_2) rfl (Jvm.Free.XT.ii_lt_f c1) k) ?_
    show Go p e below W T0 (mkF m 5 #[.val (.int p1), .val (.int p2)] [])
    refine Go.of (fun _ k => XS.iloadN X0.here hx rfl (hb hby d8_5) rfl k) ?_
    show Go p e below W T0 (mkF m 6 #[.val (.int p1), .val (.int p2)] [(.int p1)])
    refine Go.of (fun _ k => XS.goto X0.here hx rfl (pc0 := 6) (pc' := 10) rfl (hb hby d8_6) (by decide) (by decide) k) ?_
    show Go p e below W T0 (mkF m 10 #[.val (.int p1), .val (.int p2)] [(.int p1)])
    have q : (f8 p1 p2) = p1 := by rw [f8, if_neg c1]
    exact Go.retI X0 hx hret (hb hby d8_10) hlk q.symm (fun t ht fe => hW t _ _ _ _ ⟨rfl, rfl, ht.trans e0⟩ fe (by decide) (by decide))
set_option maxRecDepth 65536 in
set_option maxHeartbeats 40000000 in
theorem rm10 (l : Launch) (Z : State) (a0 : Array Value) (hw : ∀ d ∈ tables_1, d.before a0 Z = true) (ws : List Jvm.Cond) (p1 : Int32) (p2 : Int32) (h0 : Heap) :
    Con l Z (⟨"java/lang/Math", "min", "(II)I"⟩ : MethodName) jdk_29_method_69_code 2 (some .int) ws ({ frames := 0, cells := 0, slots := 0, locals := 0 } : Room) #[(.int p1), (.int p2)] h0 (PQ (.int (f10 p1 p2)) h0) := by
  refine own_body pn_10 (fun m => ef_10 m p1 p2) ?_
  intro p e s m below meth c T0 W X0 hx hby hml hret hlk hown hnm hZ e0 hW
  show Go p e below W T0 (mkF m 0 #[.val (.int p1), .val (.int p2)] [])
  refine Go.of (fun _ k => XS.iloadN X0.here hx rfl (hb hby d10_0) rfl k) ?_
  show Go p e below W T0 (mkF m 1 #[.val (.int p1), .val (.int p2)] [(.int p1)])
  refine Go.of (fun _ k => XS.iloadN X0.here hx rfl (hb hby d10_1) rfl k) ?_
  show Go p e below W T0 (mkF m 2 #[.val (.int p1), .val (.int p2)] [(.int p2), (.int p1)])
  by_cases c1 : p2 < p1
  · refine Go.of (fun _ k => XS.icmpYes X0.here hx rfl (pc0 := 2) (pc' := 9) rfl (hb hby d10_2) rfl (Jvm.Free.XT.ii_gt_t c1) (by decide) (by decide) k) ?_
    show Go p e below W T0 (mkF m 9 #[.val (.int p1), .val (.int p2)] [])
    refine Go.of (fun _ k => XS.iloadN X0.here hx rfl (hb hby d10_9) rfl k) ?_
    show Go p e below W T0 (mkF m 10 #[.val (.int p1), .val (.int p2)] [(.int p2)])
    have q : (f10 p1 p2) = p2 := by rw [f10, if_pos c1]
    exact Go.retI X0 hx hret (hb hby d10_10) hlk q.symm (fun t ht fe => hW t _ _ _ _ ⟨rfl, rfl, ht.trans e0⟩ fe (by decide) (by decide))
  · refine Go.of (fun _ k => XS.icmpNo X0.here hx rfl (hb hby d10_2) rfl (Jvm.Free.XT.ii_gt_f c1) k) ?_
    show Go p e below W T0 (mkF m 5 #[.val (.int p1), .val (.int p2)] [])
    refine Go.of (fun _ k => XS.iloadN X0.here hx rfl (hb hby d10_5) rfl k) ?_
    show Go p e below W T0 (mkF m 6 #[.val (.int p1), .val (.int p2)] [(.int p1)])
    refine Go.of (fun _ k => XS.goto X0.here hx rfl (pc0 := 6) (pc' := 10) rfl (hb hby d10_6) (by decide) (by decide) k) ?_
    show Go p e below W T0 (mkF m 10 #[.val (.int p1), .val (.int p2)] [(.int p1)])
    have q : (f10 p1 p2) = p1 := by rw [f10, if_neg c1]
    exact Go.retI X0 hx hret (hb hby d10_10) hlk q.symm (fun t ht fe => hW t _ _ _ _ ⟨rfl, rfl, ht.trans e0⟩ fe (by decide) (by decide))
set_option maxRecDepth 65536 in
set_option maxHeartbeats 40000000 in
theorem rm9 (l : Launch) (Z : State) (a0 : Array Value) (hw : ∀ d ∈ tables_1, d.before a0 Z = true) (ws : List Jvm.Cond) (a1 : Addr) (p2 : Int32) (fa : Nat → Int32) (n : Nat) (mm : Nat) (h0 : Heap) (n0 : Nat) (Z0 : n0 ≤ h0.size) (A_a1 : AI Z h0 a1 .byte n fa) (hp : p2 = Int32.ofNat mm) (hnmm : n < mm) (hm : mm ≤ 4400) :
    Con l Z (⟨"java/util/Arrays", "copyOf", "([BI)[B"⟩ : MethodName) jdk_65_method_121_code 3 (some (.array .byte)) ws ({ frames := 1, cells := 1, slots := 4400, locals := 27 } : Room) #[(.ref a1), (.int p2)] h0 (Q9 Z a1 p2 fa n mm h0 n0) := by
  subst hp
  refine own_body pn_9 (fun m => ef_9 m a1 (Int32.ofNat mm)) ?_
  intro p e s m below meth c T0 W X0 hx hby hml hret hlk hown hnm hZ e0 hW
  have K : Keep h0 h0 [] := Keep.refl _ _
  have N := Fr.nil n0
  show Go p e below W T0 (mkF m 0 #[.val (.ref a1), .val (.int (Int32.ofNat mm)), .unset] [])
  refine Go.of (fun _ k => XS.iloadN X0.here hx rfl (hb hby d9_0) rfl k) ?_
  show Go p e below W T0 (mkF m 1 #[.val (.ref a1), .val (.int (Int32.ofNat mm)), .unset] [(.int (Int32.ofNat mm))])
  refine Go.of (fun _ k => XS.aloadN X0.here hx rfl (hb hby d9_1) rfl rfl k) ?_
  show Go p e below W T0 (mkF m 2 #[.val (.ref a1), .val (.int (Int32.ofNat mm)), .unset] [(.ref a1), (.int (Int32.ofNat mm))])
  refine Go.alen X0 hx hZ e0 A_a1 (hb hby d9_2) ?_
  show Go p e below W T0 (mkF m 3 #[.val (.ref a1), .val (.int (Int32.ofNat mm)), .unset] [(.int n.toInt32), (.int (Int32.ofNat mm))])
  refine Go.of (fun _ k => XS.icmpYes X0.here hx rfl (pc0 := 3) (pc' := 14) rfl (hb hby d9_3) rfl (Jvm.Free.XT.ii_ne_t (own_mn hnmm hm)) (by decide) (by decide) k) ?_
  show Go p e below W T0 (mkF m 14 #[.val (.ref a1), .val (.int (Int32.ofNat mm)), .unset] [])
  refine Go.of (fun _ k => XS.iloadN X0.here hx rfl (hb hby d9_14) rfl k) ?_
  show Go p e below W T0 (mkF m 15 #[.val (.ref a1), .val (.int (Int32.ofNat mm)), .unset] [(.int (Int32.ofNat mm))])
  refine Go.newA X0 hx hZ (hw _ (List.mem_of_getElem? (i := 0) rfl)) rfl rfl rfl e0 (hb hby d9_15) (own_nn (by omega)) (cap := 4400) (by rw [own_n32 (by omega)]; exact hm) (by decide) (by decide) (by decide) ?_
  intro T1 h1 b1 zq1 X1 e1 E1 E_b1 A_b1
  have ne_a1_b1 : a1 ≠ b1 := by rw [zq1]; exact Nat.ne_of_lt A_a1.lt
  have g_b1 : n0 ≤ b1 := by rw [zq1]; exact Z0
  have s_b1 : h0.size ≤ b1 := by rw [zq1]; exact K.1
  have A_a1 := A_a1.ext E1
  have K := K.ext E1
  have Z0 := Nat.le_trans Z0 E1.1
  have A_b1 : AI Z h1 b1 .byte mm (w9_2 (Int32.ofNat mm) fa n mm) := ((own_n32 (n := mm) (by omega)) ▸ A_b1)
  show Go p e below W T1 (mkF m 17 #[.val (.ref a1), .val (.int (Int32.ofNat mm)), .unset] [(.ref b1)])
  refine Go.of (fun _ k => XS.astoreN X1.here hx rfl (hb hby d9_17) rfl rfl (l' := #[.val (.ref a1), .val (.int (Int32.ofNat mm)), .val (.ref b1)]) rfl k) ?_
  show Go p e below W T1 (mkF m 18 #[.val (.ref a1), .val (.int (Int32.ofNat mm)), .val (.ref b1)] [])
  refine Go.of (fun _ k => XS.aloadN X1.here hx rfl (hb hby d9_18) rfl rfl k) ?_
  show Go p e below W T1 (mkF m 19 #[.val (.ref a1), .val (.int (Int32.ofNat mm)), .val (.ref b1)] [(.ref a1)])
  refine Go.of (fun _ k => XS.iconst X1.here hx rfl (hb hby d9_19) k) ?_
  show Go p e below W T1 (mkF m 20 #[.val (.ref a1), .val (.int (Int32.ofNat mm)), .val (.ref b1)] [(.int (0 : Int32)), (.ref a1)])
  refine Go.of (fun _ k => XS.aloadN X1.here hx rfl (hb hby d9_20) rfl rfl k) ?_
  show Go p e below W T1 (mkF m 21 #[.val (.ref a1), .val (.int (Int32.ofNat mm)), .val (.ref b1)] [(.ref b1), (.int (0 : Int32)), (.ref a1)])
  refine Go.of (fun _ k => XS.iconst X1.here hx rfl (hb hby d9_21) k) ?_
  show Go p e below W T1 (mkF m 22 #[.val (.ref a1), .val (.int (Int32.ofNat mm)), .val (.ref b1)] [(.int (0 : Int32)), (.ref b1), (.int (0 : Int32)), (.ref a1)])
  refine Go.of (fun _ k => XS.aloadN X1.here hx rfl (hb hby d9_22) rfl rfl k) ?_
  show Go p e below W T1 (mkF m 23 #[.val (.ref a1), .val (.int (Int32.ofNat mm)), .val (.ref b1)] [(.ref a1), (.int (0 : Int32)), (.ref b1), (.int (0 : Int32)), (.ref a1)])
  refine Go.alen X1 hx hZ e1 A_a1 (hb hby d9_23) ?_
  show Go p e below W T1 (mkF m 24 #[.val (.ref a1), .val (.int (Int32.ofNat mm)), .val (.ref b1)] [(.int n.toInt32), (.int (0 : Int32)), (.ref b1), (.int (0 : Int32)), (.ref a1)])
  refine Go.of (fun _ k => XS.iloadN X1.here hx rfl (hb hby d9_24) rfl k) ?_
  show Go p e below W T1 (mkF m 25 #[.val (.ref a1), .val (.int (Int32.ofNat mm)), .val (.ref b1)] [(.int (Int32.ofNat mm)), (.int n.toInt32), (.int (0 : Int32)), (.ref b1), (.int (0 : Int32)), (.ref a1)])
  refine Go.callP X1 hx hZ hown (hw _ (List.mem_of_getElem? (i := 51) rfl)) (hw _ (List.mem_of_getElem? (i := 52) rfl)) (hw _ (List.mem_of_getElem? (i := 45) rfl)) (hw _ (List.mem_of_getElem? (i := 53) rfl)) (by decide) e1 (rm10 l Z a0 hw [] n.toInt32 (Int32.ofNat mm) h1) (V := 4) (by decide) (by decide) rfl rfl (by decide) (by decide) (by rw [hml]; rfl) (argsL := [(.int n.toInt32), (.int (Int32.ofNat mm))]) (rest := [(.int (0 : Int32)), (.ref b1), (.int (0 : Int32)), (.ref a1)]) rfl (lenOf pd__II_I rfl) rfl (Nat.le_of_ble_eq_true rfl) (hb hby d9_25) ?_
  intro T3 X3 e3
  show Go p e below W T3 (mkF m 28 #[.val (.ref a1), .val (.int (Int32.ofNat mm)), .val (.ref b1)] [(.int (f10 n.toInt32 (Int32.ofNat mm))), (.int (0 : Int32)), (.ref b1), (.int (0 : Int32)), (.ref a1)])
  refine Go.acopy X3 hx hZ hown (hw _ (List.mem_of_getElem? (i := 54) rfl)) (hw _ (List.mem_of_getElem? (i := 32) rfl)) (hw _ (List.mem_of_getElem? (i := 30) rfl)) (hw _ (List.mem_of_getElem? (i := 31) rfl)) e3 A_a1 A_b1 rfl (by decide) (by decide) (own_m3 hnmm hm) (own_m4 hnmm hm) (own_m5 hnmm hm) N g_b1 (by rw [hml]; rfl) (hb hby d9_28) (by decide) (V := 0) (Nat.le_of_ble_eq_true rfl) (by decide) ?_
  intro T4 h4 L4 X4 N e4 K4 A_b1
  have A_a1 := A_a1.keep K4 (ninS ne_a1_b1 nin0)
  have K := K.trans K4 (allS (Or.inr s_b1) all0)
  have Z0 := Nat.le_trans Z0 K4.1
  have A_b1 : AI Z h4 b1 .byte mm (w9_5 (Int32.ofNat mm) fa n mm) := A_b1
  show Go p e below W T4 (mkF m 31 #[.val (.ref a1), .val (.int (Int32.ofNat mm)), .val (.ref b1)] [])
  refine Go.of (fun _ k => XS.aloadN X4.here hx rfl (hb hby d9_31) rfl rfl k) ?_
  show Go p e below W T4 (mkF m 32 #[.val (.ref a1), .val (.int (Int32.ofNat mm)), .val (.ref b1)] [(.ref b1)])
  have u_f9_nc : (f9_nc (Int32.ofNat mm) fa n mm) = (w9_5 (Int32.ofNat mm) fa n mm) := by rw [f9_nc]
  have fin : Q9 Z a1 (Int32.ofNat mm) fa n mm h0 n0 (some (.ref b1)) h4 L4 := ⟨b1, rfl, N, K, s_b1, (by rw [u_f9_nc]; exact A_b1)⟩
  exact Go.retA X4 hx hret rfl rfl (hb hby d9_32) hlk (fun t ht fe => hW t _ _ _ _ (by rw [ht, e4]; exact fin) fe (by decide) (by decide))
set_option maxRecDepth 65536 in
set_option maxHeartbeats 40000000 in
theorem rm5k (l : Launch) (Z : State) (a0 : Array Value) (hw : ∀ d ∈ tables_1, d.before a0 Z = true) (ws : List Jvm.Cond) (a1 : Addr) (p2 : Int32) (sz : Int32) (ab : Addr) (fb : Nat → Int32) (n : Nat) (h0 : Heap) (F_a1_size : Fld Z h0 a1 "com/example/gridtally/gridtally/io/ByteStreams$Buffer" "size" "I" (.int sz)) (F_a1_bytes : Fld Z h0 a1 "com/example/gridtally/gridtally/io/ByteStreams$Buffer" "bytes" "[B" (.ref ab)) (A_ab : AI Z h0 ab .byte n fb) (hc : ¬ n.toInt32 < (sz + p2)) :
    Con l Z (⟨"com/example/gridtally/gridtally/io/ByteStreams$Buffer", "ensure", "(I)V"⟩ : MethodName) prog_35_method_8_code 2 none ws ({ frames := 0, cells := 0, slots := 0, locals := 0 } : Room) #[(.ref a1), (.int p2)] h0 (PV h0) := by
  refine own_body pn_5 (fun m => ef_5 m a1 p2) ?_
  intro p e s m below meth c T0 W X0 hx hby hml hret hlk hown hnm hZ e0 hW
  show Go p e below W T0 (mkF m 0 #[.val (.ref a1), .val (.int p2)] [])
  refine Go.of (fun _ k => XS.aloadN X0.here hx rfl (hb hby d5_0) rfl rfl k) ?_
  show Go p e below W T0 (mkF m 1 #[.val (.ref a1), .val (.int p2)] [(.ref a1)])
  refine Go.getF X0 hx hZ hown (hw _ (List.mem_of_getElem? (i := 27) rfl)) e0 F_a1_size (hb hby d5_1) ?_
  intro T1 X1 e1
  show Go p e below W T1 (mkF m 4 #[.val (.ref a1), .val (.int p2)] [(.int sz)])
  refine Go.of (fun _ k => XS.iloadN X1.here hx rfl (hb hby d5_4) rfl k) ?_
  show Go p e below W T1 (mkF m 5 #[.val (.ref a1), .val (.int p2)] [(.int p2), (.int sz)])
  refine Go.of (fun _ k => XS.iadd X1.here hx rfl (hb hby d5_5) rfl k) ?_
  show Go p e below W T1 (mkF m 6 #[.val (.ref a1), .val (.int p2)] [(.int (sz + p2))])
  refine Go.of (fun _ k => XS.aloadN X1.here hx rfl (hb hby d5_6) rfl rfl k) ?_
  show Go p e below W T1 (mkF m 7 #[.val (.ref a1), .val (.int p2)] [(.ref a1), (.int (sz + p2))])
  refine Go.getF X1 hx hZ hown (hw _ (List.mem_of_getElem? (i := 16) rfl)) e1 F_a1_bytes (hb hby d5_7) ?_
  intro T2 X2 e2
  show Go p e below W T2 (mkF m 10 #[.val (.ref a1), .val (.int p2)] [(.ref ab), (.int (sz + p2))])
  refine Go.alen X2 hx hZ e2 A_ab (hb hby d5_10) ?_
  show Go p e below W T2 (mkF m 11 #[.val (.ref a1), .val (.int p2)] [(.int n.toInt32), (.int (sz + p2))])
  refine Go.of (fun _ k => XS.icmpYes X2.here hx rfl (pc0 := 11) (pc' := 41) rfl (hb hby d5_11) rfl (Jvm.Free.XT.ii_le_t hc) (by decide) (by decide) k) ?_
  show Go p e below W T2 (mkF m 41 #[.val (.ref a1), .val (.int p2)] [])
  exact Go.retV X2 hx hret (hb hby d5_41) hlk (fun t ht fe => hW t _ _ _ _ ⟨rfl, rfl, ht.trans e2⟩ fe (by decide) (by decide))
set_option maxRecDepth 65536 in
set_option maxHeartbeats 40000000 in
theorem rm5g (l : Launch) (Z : State) (a0 : Array Value) (hw : ∀ d ∈ tables_1, d.before a0 Z = true) (ws : List Jvm.Cond) (a1 : Addr) (p2 : Int32) (sz : Int32) (ab : Addr) (fb : Nat → Int32) (n : Nat) (h0 : Heap) (n0 : Nat) (Z0 : n0 ≤ h0.size) (E_a1 : Exa Z h0 a1 "com/example/gridtally/gridtally/io/ByteStreams$Buffer") (F_a1_size : Fld Z h0 a1 "com/example/gridtally/gridtally/io/ByteStreams$Buffer" "size" "I" (.int sz)) (F_a1_bytes : Fld Z h0 a1 "com/example/gridtally/gridtally/io/ByteStreams$Buffer" "bytes" "[B" (.ref ab)) (A_ab : AI Z h0 ab .byte n fb) (g_a1 : n0 ≤ a1) (ne_a1_ab : a1 ≠ ab) (hc : n.toInt32 < (sz + p2)) (hbb : own_gb sz p2 n) :
    Con l Z (⟨"com/example/gridtally/gridtally/io/ByteStreams$Buffer", "ensure", "(I)V"⟩ : MethodName) prog_35_method_8_code 2 none ws ({ frames := 2, cells := 1, slots := 4400, locals := 42 } : Room) #[(.ref a1), (.int p2)] h0 (Q5g Z a1 p2 sz ab fb n h0 n0) := by
  refine own_body pn_5 (fun m => ef_5 m a1 p2) ?_
  intro p e s m below meth c T0 W X0 hx hby hml hret hlk hown hnm hZ e0 hW
  have K : Keep h0 h0 [a1] := Keep.refl _ _
  have N := Fr.nil n0
  show Go p e below W T0 (mkF m 0 #[.val (.ref a1), .val (.int p2)] [])
  refine Go.of (fun _ k => XS.aloadN X0.here hx rfl (hb hby d5_0) rfl rfl k) ?_
  show Go p e below W T0 (mkF m 1 #[.val (.ref a1), .val (.int p2)] [(.ref a1)])
  refine Go.getF X0 hx hZ hown (hw _ (List.mem_of_getElem? (i := 27) rfl)) e0 F_a1_size (hb hby d5_1) ?_
  intro T1 X1 e1
  show Go p e below W T1 (mkF m 4 #[.val (.ref a1), .val (.int p2)] [(.int sz)])
  refine Go.of (fun _ k => XS.iloadN X1.here hx rfl (hb hby d5_4) rfl k) ?_
  show Go p e below W T1 (mkF m 5 #[.val (.ref a1), .val (.int p2)] [(.int p2), (.int sz)])
  refine Go.of (fun _ k => XS.iadd X1.here hx rfl (hb hby d5_5) rfl k) ?_
  show Go p e below W T1 (mkF m 6 #[.val (.ref a1), .val (.int p2)] [(.int (sz + p2))])
  refine Go.of (fun _ k => XS.aloadN X1.here hx rfl (hb hby d5_6) rfl rfl k) ?_
  show Go p e below W T1 (mkF m 7 #[.val (.ref a1), .val (.int p2)] [(.ref a1), (.int (sz + p2))])
  refine Go.getF X1 hx hZ hown (hw _ (List.mem_of_getElem? (i := 16) rfl)) e1 F_a1_bytes (hb hby d5_7) ?_
  intro T2 X2 e2
  show Go p e below W T2 (mkF m 10 #[.val (.ref a1), .val (.int p2)] [(.ref ab), (.int (sz + p2))])
  refine Go.alen X2 hx hZ e2 A_ab (hb hby d5_10) ?_
  show Go p e below W T2 (mkF m 11 #[.val (.ref a1), .val (.int p2)] [(.int n.toInt32), (.int (sz + p2))])
  refine Go.of (fun _ k => XS.icmpNo X2.here hx rfl (hb hby d5_11) rfl (Jvm.Free.XT.ii_le_f hc) k) ?_
  show Go p e below W T2 (mkF m 14 #[.val (.ref a1), .val (.int p2)] [])
  refine Go.of (fun _ k => XS.aloadN X2.here hx rfl (hb hby d5_14) rfl rfl k) ?_
  show Go p e below W T2 (mkF m 15 #[.val (.ref a1), .val (.int p2)] [(.ref a1)])
  refine Go.of (fun _ k => XS.aloadN X2.here hx rfl (hb hby d5_15) rfl rfl k) ?_
  show Go p e below W T2 (mkF m 16 #[.val (.ref a1), .val (.int p2)] [(.ref a1), (.ref a1)])
  refine Go.getF X2 hx hZ hown (hw _ (List.mem_of_getElem? (i := 16) rfl)) e2 F_a1_bytes (hb hby d5_16) ?_
  intro T3 X3 e3
  show Go p e below W T3 (mkF m 19 #[.val (.ref a1), .val (.int p2)] [(.ref ab), (.ref a1)])
  refine Go.of (fun _ k => XS.iconst X3.here hx rfl (hb hby d5_19) k) ?_
  show Go p e below W T3 (mkF m 20 #[.val (.ref a1), .val (.int p2)] [(.int (2 : Int32)), (.ref ab), (.ref a1)])
  refine Go.of (fun _ k => XS.aloadN X3.here hx rfl (hb hby d5_20) rfl rfl k) ?_
  show Go p e below W T3 (mkF m 21 #[.val (.ref a1), .val (.int p2)] [(.ref a1), (.int (2 : Int32)), (.ref ab), (.ref a1)])
  refine Go.getF X3 hx hZ hown (hw _ (List.mem_of_getElem? (i := 16) rfl)) e3 F_a1_bytes (hb hby d5_21) ?_
  intro T4 X4 e4
  show Go p e below W T4 (mkF m 24 #[.val (.ref a1), .val (.int p2)] [(.ref ab), (.int (2 : Int32)), (.ref ab), (.ref a1)])
  refine Go.alen X4 hx hZ e4 A_ab (hb hby d5_24) ?_
  show Go p e below W T4 (mkF m 25 #[.val (.ref a1), .val (.int p2)] [(.int n.toInt32), (.int (2 : Int32)), (.ref ab), (.ref a1)])
  refine Go.of (fun _ k => XS.imul X4.here hx rfl (hb hby d5_25) rfl k) ?_
  show Go p e below W T4 (mkF m 26 #[.val (.ref a1), .val (.int p2)] [(.int ((2 : Int32) * n.toInt32)), (.ref ab), (.ref a1)])
  refine Go.of (fun _ k => XS.aloadN X4.here hx rfl (hb hby d5_26) rfl rfl k) ?_
  show Go p e below W T4 (mkF m 27 #[.val (.ref a1), .val (.int p2)] [(.ref a1), (.int ((2 : Int32) * n.toInt32)), (.ref ab), (.ref a1)])
  refine Go.getF X4 hx hZ hown (hw _ (List.mem_of_getElem? (i := 27) rfl)) e4 F_a1_size (hb hby d5_27) ?_
  intro T5 X5 e5
  show Go p e below W T5 (mkF m 30 #[.val (.ref a1), .val (.int p2)] [(.int sz), (.int ((2 : Int32) * n.toInt32)), (.ref ab), (.ref a1)])
  refine Go.of (fun _ k => XS.iloadN X5.here hx rfl (hb hby d5_30) rfl k) ?_
  show Go p e below W T5 (mkF m 31 #[.val (.ref a1), .val (.int p2)] [(.int p2), (.int sz), (.int ((2 : Int32) * n.toInt32)), (.ref ab), (.ref a1)])
  refine Go.of (fun _ k => XS.iadd X5.here hx rfl (hb hby d5_31) rfl k) ?_
  show Go p e below W T5 (mkF m 32 #[.val (.ref a1), .val (.int p2)] [(.int (sz + p2)), (.int ((2 : Int32) * n.toInt32)), (.ref ab), (.ref a1)])
  refine Go.callP X5 hx hZ hown (hw _ (List.mem_of_getElem? (i := 43) rfl)) (hw _ (List.mem_of_getElem? (i := 44) rfl)) (hw _ (List.mem_of_getElem? (i := 45) rfl)) (hw _ (List.mem_of_getElem? (i := 46) rfl)) (by decide) e5 (rm8 l Z a0 hw [] ((2 : Int32) * n.toInt32) (sz + p2) h0) (V := 2) (by decide) (by decide) rfl rfl (by decide) (by decide) (by rw [hml]; rfl) (argsL := [(.int ((2 : Int32) * n.toInt32)), (.int (sz + p2))]) (rest := [(.ref ab), (.ref a1)]) rfl (lenOf pd__II_I rfl) rfl (Nat.le_of_ble_eq_true rfl) (hb hby d5_32) ?_
  intro T6 X6 e6
  show Go p e below W T6 (mkF m 35 #[.val (.ref a1), .val (.int p2)] [(.int (f8 ((2 : Int32) * n.toInt32) (sz + p2))), (.ref ab), (.ref a1)])
  refine Go.callS X6 hx hZ hown (hw _ (List.mem_of_getElem? (i := 47) rfl)) (hw _ (List.mem_of_getElem? (i := 48) rfl)) (hw _ (List.mem_of_getElem? (i := 49) rfl)) (hw _ (List.mem_of_getElem? (i := 50) rfl)) (by decide) e6 (rm9 l Z a0 hw [] ab (f8 ((2 : Int32) * n.toInt32) (sz + p2)) fb n (f8 ((2 : Int32) * n.toInt32) (sz + p2)).toNatClampNeg h0 n0 Z0 A_ab (own_mp hbb hc) (own_mnm hbb hc) (own_mle hbb hc)) (V := 1) (by decide) (by decide) (by decide) (by decide) (by rw [hml]; rfl) (argsL := [(.ref ab), (.int (f8 ((2 : Int32) * n.toInt32) (sz + p2)))]) (rest := [(.ref a1)]) rfl (lenOf pd___BI__B rfl) rfl (Nat.le_of_ble_eq_true rfl) (hb hby d5_35) ?_
  rintro T7 _ M7 ⟨b7, rfl, N7, K7, s_b7, A_b7⟩ X7
  obtain ⟨L7, zq7⟩ : ∃ z, z = [] ++ M7 := ⟨_, rfl⟩
  have N := Fr.app N N7
  rw [← zq7] at X7 N
  have ne_a1_b7 : a1 ≠ b7 := Nat.ne_of_lt (Nat.lt_of_lt_of_le E_a1.lt s_b7)
  have ne_ab_b7 : ab ≠ b7 := Nat.ne_of_lt (Nat.lt_of_lt_of_le A_ab.lt s_b7)
  have g_b7 : n0 ≤ b7 := Nat.le_trans Z0 s_b7
  have s_b7 : h0.size ≤ b7 := Nat.le_trans K.1 s_b7
  have E_a1 := E_a1.keep K7
  have F_a1_size := F_a1_size.keep K7 nin0
  have F_a1_bytes := F_a1_bytes.keep K7 nin0
  have A_ab := A_ab.keep K7 nin0
  have K := K.trans K7 all0
  have Z0 := Nat.le_trans Z0 K7.1
  show Go p e below W T7 (mkF m 38 #[.val (.ref a1), .val (.int p2)] [(.ref b7), (.ref a1)])
  refine Go.putF X7 hx hZ hown (hw _ (List.mem_of_getElem? (i := 16) rfl)) rfl N g_a1 F_a1_bytes E_a1 (Or.inl (hw _ (List.mem_of_getElem? (i := 17) rfl))) (hw _ (List.mem_of_getElem? (i := 3) rfl)) (ty := (.array .byte)) (by decide) (v' := (.ref b7)) rfl rfl (hb hby d5_38) ?_
  intro T8 h8 L8 X8 N e8 W8 F_a1_bytes
  have E_a1 := E_a1.wr W8
  have F_a1_size := F_a1_size.other W8 (Or.inr (slot_ne (Or.inl (hw _ (List.mem_of_getElem? (i := 28) rfl))) (Or.inl (hw _ (List.mem_of_getElem? (i := 17) rfl))) (by decide) (t := .int) (t' := (.array .byte)) (by decide) (by decide)))
  have A_ab := A_ab.other W8 (Ne.symm ne_a1_ab)
  have A_b7 := A_b7.other W8 (Ne.symm ne_a1_b7)
  have K := K.wr W8 (Or.inl (List.mem_of_getElem? (i := 0) rfl))
  have Z0 := Nat.le_trans Z0 (Keep.of_wr W8).1
  show Go p e below W T8 (mkF m 41 #[.val (.ref a1), .val (.int p2)] [])
  have u_f5g_nb : (f5g_nb p2 sz fb n) = (f9_nc (f8 ((2 : Int32) * n.toInt32) (sz + p2)) fb n (f8 ((2 : Int32) * n.toInt32) (sz + p2)).toNatClampNeg) := by rw [f5g_nb]
  have fin : Q5g Z a1 p2 sz ab fb n h0 n0 (none) h8 L8 := ⟨b7, rfl, N, K, s_b7, F_a1_bytes, F_a1_size, (by rw [u_f5g_nb]; exact A_b7)⟩
  exact Go.retV X8 hx hret (hb hby d5_41) hlk (fun t ht fe => hW t _ _ _ _ (by rw [ht, e8]; exact fin) fe (by decide) (by decide))
set_option maxRecDepth 65536 in
set_option maxHeartbeats 40000000 in
theorem rm4k (l : Launch) (Z : State) (a0 : Array Value) (hw : ∀ d ∈ tables_1, d.before a0 Z = true) (ws : List Jvm.Cond) (a1 : Addr) (a2 : Addr) (p3 : Int32) (p4 : Int32) (sz : Int32) (ab : Addr) (fb : Nat → Int32) (n : Nat) (fs : Nat → Int32) (h0 : Heap) (n0 : Nat) (Z0 : n0 ≤ h0.size) (E_a1 : Exa Z h0 a1 "com/example/gridtally/gridtally/io/ByteStreams$Buffer") (F_a1_size : Fld Z h0 a1 "com/example/gridtally/gridtally/io/ByteStreams$Buffer" "size" "I" (.int sz)) (F_a1_bytes : Fld Z h0 a1 "com/example/gridtally/gridtally/io/ByteStreams$Buffer" "bytes" "[B" (.ref ab)) (A_ab : AI Z h0 ab .byte n fb) (A_a2 : AI Z h0 a2 .byte 2200 fs) (g_a1 : n0 ≤ a1) (ne_a1_ab : a1 ≠ ab) (ne_a1_a2 : a1 ≠ a2) (ne_ab_a2 : ab ≠ a2) (g_ab : n0 ≤ ab) (hc : ¬ n.toInt32 < (sz + p4)) (hbb : own_wb sz p3 p4 n) :
    Con l Z (⟨"com/example/gridtally/gridtally/io/ByteStreams$Buffer", "write", "([BII)V"⟩ : MethodName) prog_35_method_3_code 4 none ws ({ frames := 1, cells := 0, slots := 0, locals := 27 } : Room) #[(.ref a1), (.ref a2), (.int p3), (.int p4)] h0 (Q4k Z a1 a2 p3 p4 sz ab fb n fs h0 n0) := by
  refine own_body pn_4 (fun m => ef_4 m a1 a2 p3 p4) ?_
  intro p e s m below meth c T0 W X0 hx hby hml hret hlk hown hnm hZ e0 hW
  have K : Keep h0 h0 [a1, ab] := Keep.refl _ _
  have N := Fr.nil n0
  show Go p e below W T0 (mkF m 0 #[.val (.ref a1), .val (.ref a2), .val (.int p3), .val (.int p4)] [])
  refine Go.of (fun _ k => XS.aloadN X0.here hx rfl (hb hby d4_0) rfl rfl k) ?_
  show Go p e below W T0 (mkF m 1 #[.val (.ref a1), .val (.ref a2), .val (.int p3), .val (.int p4)] [(.ref a1)])
  refine Go.of (fun _ k => XS.iloadN X0.here hx rfl (hb hby d4_1) rfl k) ?_
  show Go p e below W T0 (mkF m 2 #[.val (.ref a1), .val (.ref a2), .val (.int p3), .val (.int p4)] [(.int p4), (.ref a1)])
  refine Go.callPr X0 hx hZ hown (hw _ (List.mem_of_getElem? (i := 23) rfl)) (hw _ (List.mem_of_getElem? (i := 3) rfl)) (hw _ (List.mem_of_getElem? (i := 25) rfl)) (hw _ (List.mem_of_getElem? (i := 24) rfl)) (hw _ (List.mem_of_getElem? (i := 4) rfl)) (hw _ (List.mem_of_getElem? (i := 26) rfl)) (by decide) e0 E_a1 (rm5k l Z a0 hw [] a1 p4 sz ab fb n h0 F_a1_size F_a1_bytes A_ab hc) (V := 0) (by decide) (by decide) (by decide) (by decide) (by rw [hml]; rfl) (argsL := [(.int p4)]) (rest := []) rfl (lenOf pd__I_V rfl) rfl (Nat.le_of_ble_eq_true rfl) (hb hby d4_2) ?_
  rintro T1 _ _ ⟨rfl, rfl, e1⟩ X1
  rw [List.append_nil] at X1
  show Go p e below W T1 (mkF m 5 #[.val (.ref a1), .val (.ref a2), .val (.int p3), .val (.int p4)] [])
  refine Go.of (fun _ k => XS.aloadN X1.here hx rfl (hb hby d4_5) rfl rfl k) ?_
  show Go p e below W T1 (mkF m 6 #[.val (.ref a1), .val (.ref a2), .val (.int p3), .val (.int p4)] [(.ref a2)])
  refine Go.of (fun _ k => XS.iloadN X1.here hx rfl (hb hby d4_6) rfl k) ?_
  show Go p e below W T1 (mkF m 7 #[.val (.ref a1), .val (.ref a2), .val (.int p3), .val (.int p4)] [(.int p3), (.ref a2)])
  refine Go.of (fun _ k => XS.aloadN X1.here hx rfl (hb hby d4_7) rfl rfl k) ?_
  show Go p e below W T1 (mkF m 8 #[.val (.ref a1), .val (.ref a2), .val (.int p3), .val (.int p4)] [(.ref a1), (.int p3), (.ref a2)])
  refine Go.getF X1 hx hZ hown (hw _ (List.mem_of_getElem? (i := 16) rfl)) e1 F_a1_bytes (hb hby d4_8) ?_
  intro T2 X2 e2
  show Go p e below W T2 (mkF m 11 #[.val (.ref a1), .val (.ref a2), .val (.int p3), .val (.int p4)] [(.ref ab), (.int p3), (.ref a2)])
  refine Go.of (fun _ k => XS.aloadN X2.here hx rfl (hb hby d4_11) rfl rfl k) ?_
  show Go p e below W T2 (mkF m 12 #[.val (.ref a1), .val (.ref a2), .val (.int p3), .val (.int p4)] [(.ref a1), (.ref ab), (.int p3), (.ref a2)])
  refine Go.getF X2 hx hZ hown (hw _ (List.mem_of_getElem? (i := 27) rfl)) e2 F_a1_size (hb hby d4_12) ?_
  intro T3 X3 e3
  show Go p e below W T3 (mkF m 15 #[.val (.ref a1), .val (.ref a2), .val (.int p3), .val (.int p4)] [(.int sz), (.ref ab), (.int p3), (.ref a2)])
  refine Go.of (fun _ k => XS.iloadN X3.here hx rfl (hb hby d4_15) rfl k) ?_
  show Go p e below W T3 (mkF m 16 #[.val (.ref a1), .val (.ref a2), .val (.int p3), .val (.int p4)] [(.int p4), (.int sz), (.ref ab), (.int p3), (.ref a2)])
  refine Go.acopy X3 hx hZ hown (hw _ (List.mem_of_getElem? (i := 29) rfl)) (hw _ (List.mem_of_getElem? (i := 32) rfl)) (hw _ (List.mem_of_getElem? (i := 30) rfl)) (hw _ (List.mem_of_getElem? (i := 31) rfl)) e3 A_a2 A_ab rfl (own_w1 hbb) (own_w2 hbb) (own_w3 hbb) (own_w4 hbb) (own_w5 hbb hc) N g_ab (by rw [hml]; rfl) (hb hby d4_16) (by decide) (V := 0) (Nat.le_of_ble_eq_true rfl) (by decide) ?_
  intro T4 h4 L4 X4 N e4 K4 A_ab
  have E_a1 := E_a1.keep K4
  have F_a1_size := F_a1_size.keep K4 (ninS ne_a1_ab nin0)
  have F_a1_bytes := F_a1_bytes.keep K4 (ninS ne_a1_ab nin0)
  have A_a2 := A_a2.keep K4 (ninS (Ne.symm ne_ab_a2) nin0)
  have K := K.trans K4 (allS (Or.inl (List.mem_of_getElem? (i := 1) rfl)) all0)
  have Z0 := Nat.le_trans Z0 K4.1
  have A_ab : AI Z h4 ab .byte n (w4k_5 p3 p4 sz fb fs n) := A_ab
  show Go p e below W T4 (mkF m 19 #[.val (.ref a1), .val (.ref a2), .val (.int p3), .val (.int p4)] [])
  refine Go.of (fun _ k => XS.aloadN X4.here hx rfl (hb hby d4_19) rfl rfl k) ?_
  show Go p e below W T4 (mkF m 20 #[.val (.ref a1), .val (.ref a2), .val (.int p3), .val (.int p4)] [(.ref a1)])
  refine Go.of (fun _ k => XS.dup X4.here hx rfl (hb hby d4_20) rfl rfl k) ?_
  show Go p e below W T4 (mkF m 21 #[.val (.ref a1), .val (.ref a2), .val (.int p3), .val (.int p4)] [(.ref a1), (.ref a1)])
  refine Go.getF X4 hx hZ hown (hw _ (List.mem_of_getElem? (i := 27) rfl)) e4 F_a1_size (hb hby d4_21) ?_
  intro T6 X6 e6
  show Go p e below W T6 (mkF m 24 #[.val (.ref a1), .val (.ref a2), .val (.int p3), .val (.int p4)] [(.int sz), (.ref a1)])
  refine Go.of (fun _ k => XS.iloadN X6.here hx rfl (hb hby d4_24) rfl k) ?_
  show Go p e below W T6 (mkF m 25 #[.val (.ref a1), .val (.ref a2), .val (.int p3), .val (.int p4)] [(.int p4), (.int sz), (.ref a1)])
  refine Go.of (fun _ k => XS.iadd X6.here hx rfl (hb hby d4_25) rfl k) ?_
  show Go p e below W T6 (mkF m 26 #[.val (.ref a1), .val (.ref a2), .val (.int p3), .val (.int p4)] [(.int (sz + p4)), (.ref a1)])
  refine Go.putF X6 hx hZ hown (hw _ (List.mem_of_getElem? (i := 27) rfl)) e6 N g_a1 F_a1_size E_a1 (Or.inl (hw _ (List.mem_of_getElem? (i := 28) rfl))) (hw _ (List.mem_of_getElem? (i := 3) rfl)) (ty := .int) (by decide) (v' := (.int (v4k_8 p3 p4 sz fb fs n))) rfl rfl (hb hby d4_26) ?_
  intro T7 h7 L7 X7 N e7 W7 F_a1_size
  have E_a1 := E_a1.wr W7
  have F_a1_bytes := F_a1_bytes.other W7 (Or.inr (slot_ne (Or.inl (hw _ (List.mem_of_getElem? (i := 17) rfl))) (Or.inl (hw _ (List.mem_of_getElem? (i := 28) rfl))) (by decide) (t := (.array .byte)) (t' := .int) (by decide) (by decide)))
  have A_ab := A_ab.other W7 (Ne.symm ne_a1_ab)
  have A_a2 := A_a2.other W7 (Ne.symm ne_a1_a2)
  have K := K.wr W7 (Or.inl (List.mem_of_getElem? (i := 0) rfl))
  have Z0 := Nat.le_trans Z0 (Keep.of_wr W7).1
  show Go p e below W T7 (mkF m 29 #[.val (.ref a1), .val (.ref a2), .val (.int p3), .val (.int p4)] [])
  have u_f4k_size : (f4k_size p3 p4 sz fb fs n) = (v4k_8 p3 p4 sz fb fs n) := by rw [f4k_size]
  have u_f4k_ab : (f4k_ab p3 p4 sz fb fs n) = (w4k_5 p3 p4 sz fb fs n) := by rw [f4k_ab]
  have fin : Q4k Z a1 a2 p3 p4 sz ab fb n fs h0 n0 (none) h7 L7 := ⟨rfl, N, K, (by rw [u_f4k_size]; exact F_a1_size), F_a1_bytes, (by rw [u_f4k_ab]; exact A_ab)⟩
  exact Go.retV X7 hx hret (hb hby d4_29) hlk (fun t ht fe => hW t _ _ _ _ (by rw [ht, e7]; exact fin) fe (by decide) (by decide))
set_option maxRecDepth 65536 in
set_option maxHeartbeats 40000000 in
theorem rm4g (l : Launch) (Z : State) (a0 : Array Value) (hw : ∀ d ∈ tables_1, d.before a0 Z = true) (ws : List Jvm.Cond) (a1 : Addr) (a2 : Addr) (p3 : Int32) (p4 : Int32) (sz : Int32) (ab : Addr) (fb : Nat → Int32) (n : Nat) (fs : Nat → Int32) (h0 : Heap) (n0 : Nat) (Z0 : n0 ≤ h0.size) (E_a1 : Exa Z h0 a1 "com/example/gridtally/gridtally/io/ByteStreams$Buffer") (F_a1_size : Fld Z h0 a1 "com/example/gridtally/gridtally/io/ByteStreams$Buffer" "size" "I" (.int sz)) (F_a1_bytes : Fld Z h0 a1 "com/example/gridtally/gridtally/io/ByteStreams$Buffer" "bytes" "[B" (.ref ab)) (A_ab : AI Z h0 ab .byte n fb) (A_a2 : AI Z h0 a2 .byte 2200 fs) (g_a1 : n0 ≤ a1) (ne_a1_ab : a1 ≠ ab) (ne_a1_a2 : a1 ≠ a2) (ne_ab_a2 : ab ≠ a2) (hc : n.toInt32 < (sz + p4)) (hbb : own_wb sz p3 p4 n) (hg : n ≤ 2200) :
    Con l Z (⟨"com/example/gridtally/gridtally/io/ByteStreams$Buffer", "write", "([BII)V"⟩ : MethodName) prog_35_method_3_code 4 none ws ({ frames := 3, cells := 1, slots := 4400, locals := 55 } : Room) #[(.ref a1), (.ref a2), (.int p3), (.int p4)] h0 (Q4g Z a1 a2 p3 p4 sz ab fb n fs h0 n0) := by
  refine own_body pn_4 (fun m => ef_4 m a1 a2 p3 p4) ?_
  intro p e s m below meth c T0 W X0 hx hby hml hret hlk hown hnm hZ e0 hW
  have K : Keep h0 h0 [a1] := Keep.refl _ _
  have N := Fr.nil n0
  show Go p e below W T0 (mkF m 0 #[.val (.ref a1), .val (.ref a2), .val (.int p3), .val (.int p4)] [])
  refine Go.of (fun _ k => XS.aloadN X0.here hx rfl (hb hby d4_0) rfl rfl k) ?_
  show Go p e below W T0 (mkF m 1 #[.val (.ref a1), .val (.ref a2), .val (.int p3), .val (.int p4)] [(.ref a1)])
  refine Go.of (fun _ k => XS.iloadN X0.here hx rfl (hb hby d4_1) rfl k) ?_
  show Go p e below W T0 (mkF m 2 #[.val (.ref a1), .val (.ref a2), .val (.int p3), .val (.int p4)] [(.int p4), (.ref a1)])
  refine Go.callPr X0 hx hZ hown (hw _ (List.mem_of_getElem? (i := 23) rfl)) (hw _ (List.mem_of_getElem? (i := 3) rfl)) (hw _ (List.mem_of_getElem? (i := 25) rfl)) (hw _ (List.mem_of_getElem? (i := 24) rfl)) (hw _ (List.mem_of_getElem? (i := 4) rfl)) (hw _ (List.mem_of_getElem? (i := 26) rfl)) (by decide) e0 E_a1 (rm5g l Z a0 hw [] a1 p4 sz ab fb n h0 n0 Z0 E_a1 F_a1_size F_a1_bytes A_ab g_a1 ne_a1_ab hc (own_wg hbb hg)) (V := 0) (by decide) (by decide) (by decide) (by decide) (by rw [hml]; rfl) (argsL := [(.int p4)]) (rest := []) rfl (lenOf pd__I_V rfl) rfl (Nat.le_of_ble_eq_true rfl) (hb hby d4_2) ?_
  rintro T1 _ M1 ⟨b1, rfl, N1, K1, s_b1, F_a1_bytes, F_a1_size, A_b1⟩ X1
  obtain ⟨L1, zq1⟩ : ∃ z, z = [] ++ M1 := ⟨_, rfl⟩
  have N := Fr.app N N1
  rw [← zq1] at X1 N
  have ne_a1_b1 : a1 ≠ b1 := Nat.ne_of_lt (Nat.lt_of_lt_of_le E_a1.lt s_b1)
  have ne_ab_b1 : ab ≠ b1 := Nat.ne_of_lt (Nat.lt_of_lt_of_le A_ab.lt s_b1)
  have ne_a2_b1 : a2 ≠ b1 := Nat.ne_of_lt (Nat.lt_of_lt_of_le A_a2.lt s_b1)
  have g_b1 : n0 ≤ b1 := Nat.le_trans Z0 s_b1
  have s_b1 : h0.size ≤ b1 := Nat.le_trans K.1 s_b1
  have E_a1 := E_a1.keep K1
  have A_ab := A_ab.keep K1 (ninS (Ne.symm ne_a1_ab) nin0)
  have A_a2 := A_a2.keep K1 (ninS (Ne.symm ne_a1_a2) nin0)
  have K := K.trans K1 (by
    intro x hx
    simp only [List.mem_cons, List.not_mem_nil, or_false] at hx
    rcases hx with rfl
    · exact Or.inl (List.mem_of_getElem? (i := 0) rfl))
  have Z0 := Nat.le_trans Z0 K1.1
  show Go p e below W T1 (mkF m 5 #[.val (.ref a1), .val (.ref a2), .val (.int p3), .val (.int p4)] [])
  refine Go.of (fun _ k => XS.aloadN X1.here hx rfl (hb hby d4_5) rfl rfl k) ?_
  show Go p e below W T1 (mkF m 6 #[.val (.ref a1), .val (.ref a2), .val (.int p3), .val (.int p4)] [(.ref a2)])
  refine Go.of (fun _ k => XS.iloadN X1.here hx rfl (hb hby d4_6) rfl k) ?_
  show Go p e below W T1 (mkF m 7 #[.val (.ref a1), .val (.ref a2), .val (.int p3), .val (.int p4)] [(.int p3), (.ref a2)])
  refine Go.of (fun _ k => XS.aloadN X1.here hx rfl (hb hby d4_7) rfl rfl k) ?_
  show Go p e below W T1 (mkF m 8 #[.val (.ref a1), .val (.ref a2), .val (.int p3), .val (.int p4)] [(.ref a1), (.int p3), (.ref a2)])
  refine Go.getF X1 hx hZ hown (hw _ (List.mem_of_getElem? (i := 16) rfl)) rfl F_a1_bytes (hb hby d4_8) ?_
  intro T2 X2 e2
  show Go p e below W T2 (mkF m 11 #[.val (.ref a1), .val (.ref a2), .val (.int p3), .val (.int p4)] [(.ref b1), (.int p3), (.ref a2)])
  refine Go.of (fun _ k => XS.aloadN X2.here hx rfl (hb hby d4_11) rfl rfl k) ?_
  show Go p e below W T2 (mkF m 12 #[.val (.ref a1), .val (.ref a2), .val (.int p3), .val (.int p4)] [(.ref a1), (.ref b1), (.int p3), (.ref a2)])
  refine Go.getF X2 hx hZ hown (hw _ (List.mem_of_getElem? (i := 27) rfl)) e2 F_a1_size (hb hby d4_12) ?_
  intro T3 X3 e3
  show Go p e below W T3 (mkF m 15 #[.val (.ref a1), .val (.ref a2), .val (.int p3), .val (.int p4)] [(.int sz), (.ref b1), (.int p3), (.ref a2)])
  refine Go.of (fun _ k => XS.iloadN X3.here hx rfl (hb hby d4_15) rfl k) ?_
  show Go p e below W T3 (mkF m 16 #[.val (.ref a1), .val (.ref a2), .val (.int p3), .val (.int p4)] [(.int p4), (.int sz), (.ref b1), (.int p3), (.ref a2)])
  refine Go.acopy X3 hx hZ hown (hw _ (List.mem_of_getElem? (i := 29) rfl)) (hw _ (List.mem_of_getElem? (i := 32) rfl)) (hw _ (List.mem_of_getElem? (i := 30) rfl)) (hw _ (List.mem_of_getElem? (i := 31) rfl)) e3 A_a2 A_b1 rfl (own_w1 hbb) (own_w2 hbb) (own_w3 hbb) (own_w4 hbb) (own_w6 hbb hg hc) N g_b1 (by rw [hml]; rfl) (hb hby d4_16) (by decide) (V := 0) (Nat.le_of_ble_eq_true rfl) (by decide) ?_
  intro T4 h4 L4 X4 N e4 K4 A_b1
  have E_a1 := E_a1.keep K4
  have F_a1_size := F_a1_size.keep K4 (ninS ne_a1_b1 nin0)
  have F_a1_bytes := F_a1_bytes.keep K4 (ninS ne_a1_b1 nin0)
  have A_ab := A_ab.keep K4 (ninS ne_ab_b1 nin0)
  have A_a2 := A_a2.keep K4 (ninS ne_a2_b1 nin0)
  have K := K.trans K4 (allS (Or.inr s_b1) all0)
  have Z0 := Nat.le_trans Z0 K4.1
  have A_b1 : AI Z h4 b1 .byte (f8 ((2 : Int32) * n.toInt32) (sz + p4)).toNatClampNeg (w4g_5 p3 p4 sz fb fs n) := A_b1
  show Go p e below W T4 (mkF m 19 #[.val (.ref a1), .val (.ref a2), .val (.int p3), .val (.int p4)] [])
  refine Go.of (fun _ k => XS.aloadN X4.here hx rfl (hb hby d4_19) rfl rfl k) ?_
  show Go p e below W T4 (mkF m 20 #[.val (.ref a1), .val (.ref a2), .val (.int p3), .val (.int p4)] [(.ref a1)])
  refine Go.of (fun _ k => XS.dup X4.here hx rfl (hb hby d4_20) rfl rfl k) ?_
  show Go p e below W T4 (mkF m 21 #[.val (.ref a1), .val (.ref a2), .val (.int p3), .val (.int p4)] [(.ref a1), (.ref a1)])
  refine Go.getF X4 hx hZ hown (hw _ (List.mem_of_getElem? (i := 27) rfl)) e4 F_a1_size (hb hby d4_21) ?_
  intro T6 X6 e6
  show Go p e below W T6 (mkF m 24 #[.val (.ref a1), .val (.ref a2), .val (.int p3), .val (.int p4)] [(.int sz), (.ref a1)])
  refine Go.of (fun _ k => XS.iloadN X6.here hx rfl (hb hby d4_24) rfl k) ?_
  show Go p e below W T6 (mkF m 25 #[.val (.ref a1), .val (.ref a2), .val (.int p3), .val (.int p4)] [(.int p4), (.int sz), (.ref a1)])
  refine Go.of (fun _ k => XS.iadd X6.here hx rfl (hb hby d4_25) rfl k) ?_
  show Go p e below W T6 (mkF m 26 #[.val (.ref a1), .val (.ref a2), .val (.int p3), .val (.int p4)] [(.int (sz + p4)), (.ref a1)])
  refine Go.putF X6 hx hZ hown (hw _ (List.mem_of_getElem? (i := 27) rfl)) e6 N g_a1 F_a1_size E_a1 (Or.inl (hw _ (List.mem_of_getElem? (i := 28) rfl))) (hw _ (List.mem_of_getElem? (i := 3) rfl)) (ty := .int) (by decide) (v' := (.int (v4g_8 p3 p4 sz fb fs n))) rfl rfl (hb hby d4_26) ?_
  intro T7 h7 L7 X7 N e7 W7 F_a1_size
  have E_a1 := E_a1.wr W7
  have F_a1_bytes := F_a1_bytes.other W7 (Or.inr (slot_ne (Or.inl (hw _ (List.mem_of_getElem? (i := 17) rfl))) (Or.inl (hw _ (List.mem_of_getElem? (i := 28) rfl))) (by decide) (t := (.array .byte)) (t' := .int) (by decide) (by decide)))
  have A_ab := A_ab.other W7 (Ne.symm ne_a1_ab)
  have A_a2 := A_a2.other W7 (Ne.symm ne_a1_a2)
  have A_b1 := A_b1.other W7 (Ne.symm ne_a1_b1)
  have K := K.wr W7 (Or.inl (List.mem_of_getElem? (i := 0) rfl))
  have Z0 := Nat.le_trans Z0 (Keep.of_wr W7).1
  show Go p e below W T7 (mkF m 29 #[.val (.ref a1), .val (.ref a2), .val (.int p3), .val (.int p4)] [])
  have u_f4g_size : (f4g_size p3 p4 sz fb fs n) = (v4g_8 p3 p4 sz fb fs n) := by rw [f4g_size]
  have u_f4g_nb : (f4g_nb p3 p4 sz fb fs n) = (w4g_5 p3 p4 sz fb fs n) := by rw [f4g_nb]
  have fin : Q4g Z a1 a2 p3 p4 sz ab fb n fs h0 n0 (none) h7 L7 := ⟨b1, rfl, N, K, s_b1, (by rw [u_f4g_size]; exact F_a1_size), F_a1_bytes, (by rw [u_f4g_nb]; exact A_b1)⟩
  exact Go.retV X7 hx hret (hb hby d4_29) hlk (fun t ht fe => hW t _ _ _ _ (by rw [ht, e7]; exact fin) fe (by decide) (by decide))
set_option maxRecDepth 65536 in
set_option maxHeartbeats 40000000 in
theorem rm6 (l : Launch) (Z : State) (a0 : Array Value) (hw : ∀ d ∈ tables_1, d.before a0 Z = true) (ws : List Jvm.Cond) (a1 : Addr) (sz : Int32) (h0 : Heap) (F_a1_size : Fld Z h0 a1 "com/example/gridtally/gridtally/io/ByteStreams$Buffer" "size" "I" (.int sz)) :
    Con l Z (⟨"com/example/gridtally/gridtally/io/ByteStreams$Buffer", "size", "()I"⟩ : MethodName) prog_35_method_4_code 1 (some .int) ws ({ frames := 0, cells := 0, slots := 0, locals := 0 } : Room) #[(.ref a1)] h0 (PQ (.int (f6 sz)) h0) := by
  refine own_body pn_6 (fun m => ef_6 m a1) ?_
  intro p e s m below meth c T0 W X0 hx hby hml hret hlk hown hnm hZ e0 hW
  show Go p e below W T0 (mkF m 0 #[.val (.ref a1)] [])
  refine Go.of (fun _ k => XS.aloadN X0.here hx rfl (hb hby d6_0) rfl rfl k) ?_
  show Go p e below W T0 (mkF m 1 #[.val (.ref a1)] [(.ref a1)])
  refine Go.getF X0 hx hZ hown (hw _ (List.mem_of_getElem? (i := 27) rfl)) e0 F_a1_size (hb hby d6_1) ?_
  intro T1 X1 e1
  show Go p e below W T1 (mkF m 4 #[.val (.ref a1)] [(.int sz)])
  have u_f6 : (f6 sz) = sz := by rw [f6]
  exact Go.retI X1 hx hret (hb hby d6_4) hlk u_f6.symm (fun t ht fe => hW t _ _ _ _ ⟨rfl, rfl, ht.trans e1⟩ fe (by decide) (by decide))
set_option maxRecDepth 65536 in
set_option maxHeartbeats 40000000 in
theorem rm7 (l : Launch) (Z : State) (a0 : Array Value) (hw : ∀ d ∈ tables_1, d.before a0 Z = true) (ws : List Jvm.Cond) (a1 : Addr) (ab : Addr) (h0 : Heap) (F_a1_bytes : Fld Z h0 a1 "com/example/gridtally/gridtally/io/ByteStreams$Buffer" "bytes" "[B" (.ref ab)) :
    Con l Z (⟨"com/example/gridtally/gridtally/io/ByteStreams$Buffer", "array", "()[B"⟩ : MethodName) prog_35_method_5_code 1 (some (.array .byte)) ws ({ frames := 0, cells := 0, slots := 0, locals := 0 } : Room) #[(.ref a1)] h0 (PQ (.ref ab) h0) := by
  refine own_body pn_7 (fun m => ef_7 m a1) ?_
  intro p e s m below meth c T0 W X0 hx hby hml hret hlk hown hnm hZ e0 hW
  show Go p e below W T0 (mkF m 0 #[.val (.ref a1)] [])
  refine Go.of (fun _ k => XS.aloadN X0.here hx rfl (hb hby d7_0) rfl rfl k) ?_
  show Go p e below W T0 (mkF m 1 #[.val (.ref a1)] [(.ref a1)])
  refine Go.getF X0 hx hZ hown (hw _ (List.mem_of_getElem? (i := 16) rfl)) e0 F_a1_bytes (hb hby d7_1) ?_
  intro T1 X1 e1
  show Go p e below W T1 (mkF m 4 #[.val (.ref a1)] [(.ref ab)])
  exact Go.retA X1 hx hret rfl rfl (hb hby d7_4) hlk (fun t ht fe => hW t _ _ _ _ ⟨rfl, rfl, ht.trans e1⟩ fe (by decide) (by decide))
set_option maxRecDepth 65536 in
set_option maxHeartbeats 40000000 in
theorem rm0 (l : Launch) (Z : State) (a0 : Array Value) (hw : ∀ d ∈ tables_1, d.before a0 Z = true) (ws : List Jvm.Cond) (p1 : Int32) (p2 : Int32) (p3 : Int32) (p4 : Int32) (p5 : Int32) (p6 : Int32) (h0 : Heap) (n0 : Nat) (Z0 : n0 ≤ h0.size) :
    Con l Z x code maxLocals ret ws room_1 #[(.int p1), (.int p2), (.int p3), (.int p4), (.int p5), (.int p6)] h0 (Q0 Z p1 p2 p3 p4 p5 p6 h0 n0) := by
  refine own_body pn_0 (fun m => ef_0 m p1 p2 p3 p4 p5 p6) ?_
  intro p e s m below meth c T0 W X0 hx hby hml hret hlk hown hnm hZ e0 hW
  have K : Keep h0 h0 [] := Keep.refl _ _
  have N := Fr.nil n0
  show Go p e below W T0 (mkF m 0 #[.val (.int p1), .val (.int p2), .val (.int p3), .val (.int p4), .val (.int p5), .val (.int p6), .unset, .unset, .unset, .unset, .unset, .unset, .unset, .unset, .unset, .unset, .unset, .unset] [])
  refine Go.of (fun _ k => XS.sipush X0.here hx rfl (hb hby at_0) k) ?_
  show Go p e below W T0 (mkF m 3 #[.val (.int p1), .val (.int p2), .val (.int p3), .val (.int p4), .val (.int p5), .val (.int p6), .unset, .unset, .unset, .unset, .unset, .unset, .unset, .unset, .unset, .unset, .unset, .unset] [(.int (2200 : Int32))])
  refine Go.newA X0 hx hZ (hw _ (List.mem_of_getElem? (i := 0) rfl)) rfl rfl rfl e0 (hb hby at_3) (by decide) (cap := 2200) (by decide) (by decide) (by decide) (by decide) ?_
  intro T1 h1 b1 zq1 X1 e1 E1 E_b1 A_b1
  have g_b1 : n0 ≤ b1 := by rw [zq1]; exact Z0
  have s_b1 : h0.size ≤ b1 := by rw [zq1]; exact K.1
  have K := K.ext E1
  have Z0 := Nat.le_trans Z0 E1.1
  have A_b1 : AI Z h1 b1 .byte 2200 (w0_2 p1 p2 p3 p4 p5 p6) := A_b1
  show Go p e below W T1 (mkF m 5 #[.val (.int p1), .val (.int p2), .val (.int p3), .val (.int p4), .val (.int p5), .val (.int p6), .unset, .unset, .unset, .unset, .unset, .unset, .unset, .unset, .unset, .unset, .unset, .unset] [(.ref b1)])
  refine Go.of (fun _ k => XS.astore X1.here hx rfl (hb hby at_5) rfl rfl (l' := #[.val (.int p1), .val (.int p2), .val (.int p3), .val (.int p4), .val (.int p5), .val (.int p6), .val (.ref b1), .unset, .unset, .unset, .unset, .unset, .unset, .unset, .unset, .unset, .unset, .unset]) rfl k) ?_
  show Go p e below W T1 (mkF m 7 #[.val (.int p1), .val (.int p2), .val (.int p3), .val (.int p4), .val (.int p5), .val (.int p6), .val (.ref b1), .unset, .unset, .unset, .unset, .unset, .unset, .unset, .unset, .unset, .unset, .unset] [])
  refine Go.of (fun _ k => XS.iload X1.here hx rfl (hb hby at_7) rfl k) ?_
  show Go p e below W T1 (mkF m 9 #[.val (.int p1), .val (.int p2), .val (.int p3), .val (.int p4), .val (.int p5), .val (.int p6), .val (.ref b1), .unset, .unset, .unset, .unset, .unset, .unset, .unset, .unset, .unset, .unset, .unset] [(.int p6)])
  refine Go.of (fun _ k => XS.sipush X1.here hx rfl (hb hby at_9) k) ?_
  show Go p e below W T1 (mkF m 12 #[.val (.int p1), .val (.int p2), .val (.int p3), .val (.int p4), .val (.int p5), .val (.int p6), .val (.ref b1), .unset, .unset, .unset, .unset, .unset, .unset, .unset, .unset, .unset, .unset, .unset] [(.int (4095 : Int32)), (.int p6)])
  refine Go.of (fun _ k => XS.iand X1.here hx rfl (hb hby at_12) rfl k) ?_
  show Go p e below W T1 (mkF m 13 #[.val (.int p1), .val (.int p2), .val (.int p3), .val (.int p4), .val (.int p5), .val (.int p6), .val (.ref b1), .unset, .unset, .unset, .unset, .unset, .unset, .unset, .unset, .unset, .unset, .unset] [(.int (p6 &&& (4095 : Int32)))])
  refine Go.of (fun _ k => XS.sipush X1.here hx rfl (hb hby at_13) k) ?_
  show Go p e below W T1 (mkF m 16 #[.val (.int p1), .val (.int p2), .val (.int p3), .val (.int p4), .val (.int p5), .val (.int p6), .val (.ref b1), .unset, .unset, .unset, .unset, .unset, .unset, .unset, .unset, .unset, .unset, .unset] [(.int (2200 : Int32)), (.int (p6 &&& (4095 : Int32)))])
  refine Go.of (fun _ k => iremM X1 hx rfl (hb hby at_16) rfl (by decide) k) ?_
  show Go p e below W T1 (mkF m 17 #[.val (.int p1), .val (.int p2), .val (.int p3), .val (.int p4), .val (.int p5), .val (.int p6), .val (.ref b1), .unset, .unset, .unset, .unset, .unset, .unset, .unset, .unset, .unset, .unset, .unset] [(.int ((p6 &&& (4095 : Int32)) % (2200 : Int32)))])
  refine Go.of (fun _ k => XS.istore X1.here hx rfl (hb hby at_17) rfl (l' := #[.val (.int p1), .val (.int p2), .val (.int p3), .val (.int p4), .val (.int p5), .val (.int p6), .val (.ref b1), .val (.int (v0_3 p1 p2 p3 p4 p5 p6)), .unset, .unset, .unset, .unset, .unset, .unset, .unset, .unset, .unset, .unset]) rfl k) ?_
  show Go p e below W T1 (mkF m 19 #[.val (.int p1), .val (.int p2), .val (.int p3), .val (.int p4), .val (.int p5), .val (.int p6), .val (.ref b1), .val (.int (v0_3 p1 p2 p3 p4 p5 p6)), .unset, .unset, .unset, .unset, .unset, .unset, .unset, .unset, .unset, .unset] [])
  refine Go.of (fun _ k => XS.aload X1.here hx rfl (hb hby at_19) rfl rfl k) ?_
  show Go p e below W T1 (mkF m 21 #[.val (.int p1), .val (.int p2), .val (.int p3), .val (.int p4), .val (.int p5), .val (.int p6), .val (.ref b1), .val (.int (v0_3 p1 p2 p3 p4 p5 p6)), .unset, .unset, .unset, .unset, .unset, .unset, .unset, .unset, .unset, .unset] [(.ref b1)])
  refine Go.of (fun _ k => XS.iload X1.here hx rfl (hb hby at_21) rfl k) ?_
  show Go p e below W T1 (mkF m 23 #[.val (.int p1), .val (.int p2), .val (.int p3), .val (.int p4), .val (.int p5), .val (.int p6), .val (.ref b1), .val (.int (v0_3 p1 p2 p3 p4 p5 p6)), .unset, .unset, .unset, .unset, .unset, .unset, .unset, .unset, .unset, .unset] [(.int (v0_3 p1 p2 p3 p4 p5 p6)), (.ref b1)])
  refine Go.of (fun _ k => XS.iload X1.here hx rfl (hb hby at_23) rfl k) ?_
  show Go p e below W T1 (mkF m 25 #[.val (.int p1), .val (.int p2), .val (.int p3), .val (.int p4), .val (.int p5), .val (.int p6), .val (.ref b1), .val (.int (v0_3 p1 p2 p3 p4 p5 p6)), .unset, .unset, .unset, .unset, .unset, .unset, .unset, .unset, .unset, .unset] [(.int p6), (.int (v0_3 p1 p2 p3 p4 p5 p6)), (.ref b1)])
  refine Go.of (fun _ k => XS.bipush X1.here hx rfl (hb hby at_25) k) ?_
  show Go p e below W T1 (mkF m 27 #[.val (.int p1), .val (.int p2), .val (.int p3), .val (.int p4), .val (.int p5), .val (.int p6), .val (.ref b1), .val (.int (v0_3 p1 p2 p3 p4 p5 p6)), .unset, .unset, .unset, .unset, .unset, .unset, .unset, .unset, .unset, .unset] [(.int (12 : Int32)), (.int p6), (.int (v0_3 p1 p2 p3 p4 p5 p6)), (.ref b1)])
  refine Go.of (fun _ k => XS.iushr X1.here hx rfl (hb hby at_27) rfl k) ?_
  show Go p e below W T1 (mkF m 28 #[.val (.int p1), .val (.int p2), .val (.int p3), .val (.int p4), .val (.int p5), .val (.int p6), .val (.ref b1), .val (.int (v0_3 p1 p2 p3 p4 p5 p6)), .unset, .unset, .unset, .unset, .unset, .unset, .unset, .unset, .unset, .unset] [(.int ((p6.toUInt32 >>> ((12 : Int32) &&& 31).toUInt32).toInt32)), (.int (v0_3 p1 p2 p3 p4 p5 p6)), (.ref b1)])
  refine Go.of (fun _ k => XS.iconst X1.here hx rfl (hb hby at_28) k) ?_
  show Go p e below W T1 (mkF m 29 #[.val (.int p1), .val (.int p2), .val (.int p3), .val (.int p4), .val (.int p5), .val (.int p6), .val (.ref b1), .val (.int (v0_3 p1 p2 p3 p4 p5 p6)), .unset, .unset, .unset, .unset, .unset, .unset, .unset, .unset, .unset, .unset] [(.int (1 : Int32)), (.int ((p6.toUInt32 >>> ((12 : Int32) &&& 31).toUInt32).toInt32)), (.int (v0_3 p1 p2 p3 p4 p5 p6)), (.ref b1)])
  refine Go.of (fun _ k => XS.ior X1.here hx rfl (hb hby at_29) rfl k) ?_
  show Go p e below W T1 (mkF m 30 #[.val (.int p1), .val (.int p2), .val (.int p3), .val (.int p4), .val (.int p5), .val (.int p6), .val (.ref b1), .val (.int (v0_3 p1 p2 p3 p4 p5 p6)), .unset, .unset, .unset, .unset, .unset, .unset, .unset, .unset, .unset, .unset] [(.int (((p6.toUInt32 >>> ((12 : Int32) &&& 31).toUInt32).toInt32) ||| (1 : Int32))), (.int (v0_3 p1 p2 p3 p4 p5 p6)), (.ref b1)])
  refine Go.of (fun _ k => XS.i2b X1.here hx rfl (hb hby at_30) rfl k) ?_
  show Go p e below W T1 (mkF m 31 #[.val (.int p1), .val (.int p2), .val (.int p3), .val (.int p4), .val (.int p5), .val (.int p6), .val (.ref b1), .val (.int (v0_3 p1 p2 p3 p4 p5 p6)), .unset, .unset, .unset, .unset, .unset, .unset, .unset, .unset, .unset, .unset] [(.int ((((p6.toUInt32 >>> ((12 : Int32) &&& 31).toUInt32).toInt32) ||| (1 : Int32)).toInt8.toInt32)), (.int (v0_3 p1 p2 p3 p4 p5 p6)), (.ref b1)])
  refine Go.bst X1 hx hZ e1 N g_b1 A_b1 (own_im p1 p2 p3 p4 p5 p6) (hb hby at_31) ?_
  intro T4 h4 L4 X4 N e4 W4 A_b1
  have K := K.wr W4 (Or.inr s_b1)
  have Z0 := Nat.le_trans Z0 (Keep.of_wr W4).1
  have A_b1 : AI Z h4 b1 .byte 2200 (w0_5 p1 p2 p3 p4 p5 p6) := A_b1
  show Go p e below W T4 (mkF m 32 #[.val (.int p1), .val (.int p2), .val (.int p3), .val (.int p4), .val (.int p5), .val (.int p6), .val (.ref b1), .val (.int (v0_3 p1 p2 p3 p4 p5 p6)), .unset, .unset, .unset, .unset, .unset, .unset, .unset, .unset, .unset, .unset] [])
  refine Go.of (fun _ k => XS.iloadN X4.here hx rfl (hb hby at_32) rfl k) ?_
  show Go p e below W T4 (mkF m 33 #[.val (.int p1), .val (.int p2), .val (.int p3), .val (.int p4), .val (.int p5), .val (.int p6), .val (.ref b1), .val (.int (v0_3 p1 p2 p3 p4 p5 p6)), .unset, .unset, .unset, .unset, .unset, .unset, .unset, .unset, .unset, .unset] [(.int p1)])
  refine Go.of (fun _ k => X4.ldcI hx hown (mvT hZ (hw _ (List.mem_of_getElem? (i := 1) rfl))) rfl (hb hby at_33) k) ?_
  show Go p e below W T4 (mkF m 35 #[.val (.int p1), .val (.int p2), .val (.int p3), .val (.int p4), .val (.int p5), .val (.int p6), .val (.ref b1), .val (.int (v0_3 p1 p2 p3 p4 p5 p6)), .unset, .unset, .unset, .unset, .unset, .unset, .unset, .unset, .unset, .unset] [(.int (2147483647 : Int32)), (.int p1)])
  refine Go.of (fun _ k => XS.iand X4.here hx rfl (hb hby at_35) rfl k) ?_
  show Go p e below W T4 (mkF m 36 #[.val (.int p1), .val (.int p2), .val (.int p3), .val (.int p4), .val (.int p5), .val (.int p6), .val (.ref b1), .val (.int (v0_3 p1 p2 p3 p4 p5 p6)), .unset, .unset, .unset, .unset, .unset, .unset, .unset, .unset, .unset, .unset] [(.int (p1 &&& (2147483647 : Int32)))])
  refine Go.of (fun _ k => XS.sipush X4.here hx rfl (hb hby at_36) k) ?_
  show Go p e below W T4 (mkF m 39 #[.val (.int p1), .val (.int p2), .val (.int p3), .val (.int p4), .val (.int p5), .val (.int p6), .val (.ref b1), .val (.int (v0_3 p1 p2 p3 p4 p5 p6)), .unset, .unset, .unset, .unset, .unset, .unset, .unset, .unset, .unset, .unset] [(.int (2201 : Int32)), (.int (p1 &&& (2147483647 : Int32)))])
  refine Go.of (fun _ k => iremM X4 hx rfl (hb hby at_39) rfl (by decide) k) ?_
  show Go p e below W T4 (mkF m 40 #[.val (.int p1), .val (.int p2), .val (.int p3), .val (.int p4), .val (.int p5), .val (.int p6), .val (.ref b1), .val (.int (v0_3 p1 p2 p3 p4 p5 p6)), .unset, .unset, .unset, .unset, .unset, .unset, .unset, .unset, .unset, .unset] [(.int ((p1 &&& (2147483647 : Int32)) % (2201 : Int32)))])
  refine Go.of (fun _ k => XS.istore X4.here hx rfl (hb hby at_40) rfl (l' := #[.val (.int p1), .val (.int p2), .val (.int p3), .val (.int p4), .val (.int p5), .val (.int p6), .val (.ref b1), .val (.int (v0_3 p1 p2 p3 p4 p5 p6)), .val (.int (v0_6 p1 p2 p3 p4 p5 p6)), .unset, .unset, .unset, .unset, .unset, .unset, .unset, .unset, .unset]) rfl k) ?_
  show Go p e below W T4 (mkF m 42 #[.val (.int p1), .val (.int p2), .val (.int p3), .val (.int p4), .val (.int p5), .val (.int p6), .val (.ref b1), .val (.int (v0_3 p1 p2 p3 p4 p5 p6)), .val (.int (v0_6 p1 p2 p3 p4 p5 p6)), .unset, .unset, .unset, .unset, .unset, .unset, .unset, .unset, .unset] [])
  refine Go.of (fun _ k => XS.iloadN X4.here hx rfl (hb hby at_42) rfl k) ?_
  show Go p e below W T4 (mkF m 43 #[.val (.int p1), .val (.int p2), .val (.int p3), .val (.int p4), .val (.int p5), .val (.int p6), .val (.ref b1), .val (.int (v0_3 p1 p2 p3 p4 p5 p6)), .val (.int (v0_6 p1 p2 p3 p4 p5 p6)), .unset, .unset, .unset, .unset, .unset, .unset, .unset, .unset, .unset] [(.int p2)])
  refine Go.of (fun _ k => X4.ldcI hx hown (mvT hZ (hw _ (List.mem_of_getElem? (i := 1) rfl))) rfl (hb hby at_43) k) ?_
  show Go p e below W T4 (mkF m 45 #[.val (.int p1), .val (.int p2), .val (.int p3), .val (.int p4), .val (.int p5), .val (.int p6), .val (.ref b1), .val (.int (v0_3 p1 p2 p3 p4 p5 p6)), .val (.int (v0_6 p1 p2 p3 p4 p5 p6)), .unset, .unset, .unset, .unset, .unset, .unset, .unset, .unset, .unset] [(.int (2147483647 : Int32)), (.int p2)])
  refine Go.of (fun _ k => XS.iand X4.here hx rfl (hb hby at_45) rfl k) ?_
  show Go p e below W T4 (mkF m 46 #[.val (.int p1), .val (.int p2), .val (.int p3), .val (.int p4), .val (.int p5), .val (.int p6), .val (.ref b1), .val (.int (v0_3 p1 p2 p3 p4 p5 p6)), .val (.int (v0_6 p1 p2 p3 p4 p5 p6)), .unset, .unset, .unset, .unset, .unset, .unset, .unset, .unset, .unset] [(.int (p2 &&& (2147483647 : Int32)))])
  refine Go.of (fun _ k => XS.sipush X4.here hx rfl (hb hby at_46) k) ?_
  show Go p e below W T4 (mkF m 49 #[.val (.int p1), .val (.int p2), .val (.int p3), .val (.int p4), .val (.int p5), .val (.int p6), .val (.ref b1), .val (.int (v0_3 p1 p2 p3 p4 p5 p6)), .val (.int (v0_6 p1 p2 p3 p4 p5 p6)), .unset, .unset, .unset, .unset, .unset, .unset, .unset, .unset, .unset] [(.int (2201 : Int32)), (.int (p2 &&& (2147483647 : Int32)))])
  refine Go.of (fun _ k => XS.iload X4.here hx rfl (hb hby at_49) rfl k) ?_
  show Go p e below W T4 (mkF m 51 #[.val (.int p1), .val (.int p2), .val (.int p3), .val (.int p4), .val (.int p5), .val (.int p6), .val (.ref b1), .val (.int (v0_3 p1 p2 p3 p4 p5 p6)), .val (.int (v0_6 p1 p2 p3 p4 p5 p6)), .unset, .unset, .unset, .unset, .unset, .unset, .unset, .unset, .unset] [(.int (v0_6 p1 p2 p3 p4 p5 p6)), (.int (2201 : Int32)), (.int (p2 &&& (2147483647 : Int32)))])
  refine Go.of (fun _ k => XS.isub X4.here hx rfl (hb hby at_51) rfl k) ?_
  show Go p e below W T4 (mkF m 52 #[.val (.int p1), .val (.int p2), .val (.int p3), .val (.int p4), .val (.int p5), .val (.int p6), .val (.ref b1), .val (.int (v0_3 p1 p2 p3 p4 p5 p6)), .val (.int (v0_6 p1 p2 p3 p4 p5 p6)), .unset, .unset, .unset, .unset, .unset, .unset, .unset, .unset, .unset] [(.int ((2201 : Int32) - (v0_6 p1 p2 p3 p4 p5 p6))), (.int (p2 &&& (2147483647 : Int32)))])
  refine Go.of (fun _ k => iremM X4 hx rfl (hb hby at_52) rfl (own_nz1 p1 p2 p3 p4 p5 p6) k) ?_
  show Go p e below W T4 (mkF m 53 #[.val (.int p1), .val (.int p2), .val (.int p3), .val (.int p4), .val (.int p5), .val (.int p6), .val (.ref b1), .val (.int (v0_3 p1 p2 p3 p4 p5 p6)), .val (.int (v0_6 p1 p2 p3 p4 p5 p6)), .unset, .unset, .unset, .unset, .unset, .unset, .unset, .unset, .unset] [(.int ((p2 &&& (2147483647 : Int32)) % ((2201 : Int32) - (v0_6 p1 p2 p3 p4 p5 p6))))])
  refine Go.of (fun _ k => XS.istore X4.here hx rfl (hb hby at_53) rfl (l' := #[.val (.int p1), .val (.int p2), .val (.int p3), .val (.int p4), .val (.int p5), .val (.int p6), .val (.ref b1), .val (.int (v0_3 p1 p2 p3 p4 p5 p6)), .val (.int (v0_6 p1 p2 p3 p4 p5 p6)), .val (.int (v0_7 p1 p2 p3 p4 p5 p6)), .unset, .unset, .unset, .unset, .unset, .unset, .unset, .unset]) rfl k) ?_
  show Go p e below W T4 (mkF m 55 #[.val (.int p1), .val (.int p2), .val (.int p3), .val (.int p4), .val (.int p5), .val (.int p6), .val (.ref b1), .val (.int (v0_3 p1 p2 p3 p4 p5 p6)), .val (.int (v0_6 p1 p2 p3 p4 p5 p6)), .val (.int (v0_7 p1 p2 p3 p4 p5 p6)), .unset, .unset, .unset, .unset, .unset, .unset, .unset, .unset] [])
  refine Go.of (fun _ k => XS.iloadN X4.here hx rfl (hb hby at_55) rfl k) ?_
  show Go p e below W T4 (mkF m 56 #[.val (.int p1), .val (.int p2), .val (.int p3), .val (.int p4), .val (.int p5), .val (.int p6), .val (.ref b1), .val (.int (v0_3 p1 p2 p3 p4 p5 p6)), .val (.int (v0_6 p1 p2 p3 p4 p5 p6)), .val (.int (v0_7 p1 p2 p3 p4 p5 p6)), .unset, .unset, .unset, .unset, .unset, .unset, .unset, .unset] [(.int p3)])
  refine Go.of (fun _ k => X4.ldcI hx hown (mvT hZ (hw _ (List.mem_of_getElem? (i := 1) rfl))) rfl (hb hby at_56) k) ?_
  show Go p e below W T4 (mkF m 58 #[.val (.int p1), .val (.int p2), .val (.int p3), .val (.int p4), .val (.int p5), .val (.int p6), .val (.ref b1), .val (.int (v0_3 p1 p2 p3 p4 p5 p6)), .val (.int (v0_6 p1 p2 p3 p4 p5 p6)), .val (.int (v0_7 p1 p2 p3 p4 p5 p6)), .unset, .unset, .unset, .unset, .unset, .unset, .unset, .unset] [(.int (2147483647 : Int32)), (.int p3)])
  refine Go.of (fun _ k => XS.iand X4.here hx rfl (hb hby at_58) rfl k) ?_
  show Go p e below W T4 (mkF m 59 #[.val (.int p1), .val (.int p2), .val (.int p3), .val (.int p4), .val (.int p5), .val (.int p6), .val (.ref b1), .val (.int (v0_3 p1 p2 p3 p4 p5 p6)), .val (.int (v0_6 p1 p2 p3 p4 p5 p6)), .val (.int (v0_7 p1 p2 p3 p4 p5 p6)), .unset, .unset, .unset, .unset, .unset, .unset, .unset, .unset] [(.int (p3 &&& (2147483647 : Int32)))])
  refine Go.of (fun _ k => XS.sipush X4.here hx rfl (hb hby at_59) k) ?_
  show Go p e below W T4 (mkF m 62 #[.val (.int p1), .val (.int p2), .val (.int p3), .val (.int p4), .val (.int p5), .val (.int p6), .val (.ref b1), .val (.int (v0_3 p1 p2 p3 p4 p5 p6)), .val (.int (v0_6 p1 p2 p3 p4 p5 p6)), .val (.int (v0_7 p1 p2 p3 p4 p5 p6)), .unset, .unset, .unset, .unset, .unset, .unset, .unset, .unset] [(.int (2201 : Int32)), (.int (p3 &&& (2147483647 : Int32)))])
  refine Go.of (fun _ k => iremM X4 hx rfl (hb hby at_62) rfl (by decide) k) ?_
  show Go p e below W T4 (mkF m 63 #[.val (.int p1), .val (.int p2), .val (.int p3), .val (.int p4), .val (.int p5), .val (.int p6), .val (.ref b1), .val (.int (v0_3 p1 p2 p3 p4 p5 p6)), .val (.int (v0_6 p1 p2 p3 p4 p5 p6)), .val (.int (v0_7 p1 p2 p3 p4 p5 p6)), .unset, .unset, .unset, .unset, .unset, .unset, .unset, .unset] [(.int ((p3 &&& (2147483647 : Int32)) % (2201 : Int32)))])
  refine Go.of (fun _ k => XS.istore X4.here hx rfl (hb hby at_63) rfl (l' := #[.val (.int p1), .val (.int p2), .val (.int p3), .val (.int p4), .val (.int p5), .val (.int p6), .val (.ref b1), .val (.int (v0_3 p1 p2 p3 p4 p5 p6)), .val (.int (v0_6 p1 p2 p3 p4 p5 p6)), .val (.int (v0_7 p1 p2 p3 p4 p5 p6)), .val (.int (v0_8 p1 p2 p3 p4 p5 p6)), .unset, .unset, .unset, .unset, .unset, .unset, .unset]) rfl k) ?_
  show Go p e below W T4 (mkF m 65 #[.val (.int p1), .val (.int p2), .val (.int p3), .val (.int p4), .val (.int p5), .val (.int p6), .val (.ref b1), .val (.int (v0_3 p1 p2 p3 p4 p5 p6)), .val (.int (v0_6 p1 p2 p3 p4 p5 p6)), .val (.int (v0_7 p1 p2 p3 p4 p5 p6)), .val (.int (v0_8 p1 p2 p3 p4 p5 p6)), .unset, .unset, .unset, .unset, .unset, .unset, .unset] [])
  refine Go.of (fun _ k => XS.iloadN X4.here hx rfl (hb hby at_65) rfl k) ?_
  show Go p e below W T4 (mkF m 66 #[.val (.int p1), .val (.int p2), .val (.int p3), .val (.int p4), .val (.int p5), .val (.int p6), .val (.ref b1), .val (.int (v0_3 p1 p2 p3 p4 p5 p6)), .val (.int (v0_6 p1 p2 p3 p4 p5 p6)), .val (.int (v0_7 p1 p2 p3 p4 p5 p6)), .val (.int (v0_8 p1 p2 p3 p4 p5 p6)), .unset, .unset, .unset, .unset, .unset, .unset, .unset] [(.int p4)])
  refine Go.of (fun _ k => X4.ldcI hx hown (mvT hZ (hw _ (List.mem_of_getElem? (i := 1) rfl))) rfl (hb hby at_66) k) ?_
  show Go p e below W T4 (mkF m 68 #[.val (.int p1), .val (.int p2), .val (.int p3), .val (.int p4), .val (.int p5), .val (.int p6), .val (.ref b1), .val (.int (v0_3 p1 p2 p3 p4 p5 p6)), .val (.int (v0_6 p1 p2 p3 p4 p5 p6)), .val (.int (v0_7 p1 p2 p3 p4 p5 p6)), .val (.int (v0_8 p1 p2 p3 p4 p5 p6)), .unset, .unset, .unset, .unset, .unset, .unset, .unset] [(.int (2147483647 : Int32)), (.int p4)])
  refine Go.of (fun _ k => XS.iand X4.here hx rfl (hb hby at_68) rfl k) ?_
  show Go p e below W T4 (mkF m 69 #[.val (.int p1), .val (.int p2), .val (.int p3), .val (.int p4), .val (.int p5), .val (.int p6), .val (.ref b1), .val (.int (v0_3 p1 p2 p3 p4 p5 p6)), .val (.int (v0_6 p1 p2 p3 p4 p5 p6)), .val (.int (v0_7 p1 p2 p3 p4 p5 p6)), .val (.int (v0_8 p1 p2 p3 p4 p5 p6)), .unset, .unset, .unset, .unset, .unset, .unset, .unset] [(.int (p4 &&& (2147483647 : Int32)))])
  refine Go.of (fun _ k => XS.sipush X4.here hx rfl (hb hby at_69) k) ?_
  show Go p e below W T4 (mkF m 72 #[.val (.int p1), .val (.int p2), .val (.int p3), .val (.int p4), .val (.int p5), .val (.int p6), .val (.ref b1), .val (.int (v0_3 p1 p2 p3 p4 p5 p6)), .val (.int (v0_6 p1 p2 p3 p4 p5 p6)), .val (.int (v0_7 p1 p2 p3 p4 p5 p6)), .val (.int (v0_8 p1 p2 p3 p4 p5 p6)), .unset, .unset, .unset, .unset, .unset, .unset, .unset] [(.int (2201 : Int32)), (.int (p4 &&& (2147483647 : Int32)))])
  refine Go.of (fun _ k => XS.iload X4.here hx rfl (hb hby at_72) rfl k) ?_
  show Go p e below W T4 (mkF m 74 #[.val (.int p1), .val (.int p2), .val (.int p3), .val (.int p4), .val (.int p5), .val (.int p6), .val (.ref b1), .val (.int (v0_3 p1 p2 p3 p4 p5 p6)), .val (.int (v0_6 p1 p2 p3 p4 p5 p6)), .val (.int (v0_7 p1 p2 p3 p4 p5 p6)), .val (.int (v0_8 p1 p2 p3 p4 p5 p6)), .unset, .unset, .unset, .unset, .unset, .unset, .unset] [(.int (v0_8 p1 p2 p3 p4 p5 p6)), (.int (2201 : Int32)), (.int (p4 &&& (2147483647 : Int32)))])
  refine Go.of (fun _ k => XS.isub X4.here hx rfl (hb hby at_74) rfl k) ?_
  show Go p e below W T4 (mkF m 75 #[.val (.int p1), .val (.int p2), .val (.int p3), .val (.int p4), .val (.int p5), .val (.int p6), .val (.ref b1), .val (.int (v0_3 p1 p2 p3 p4 p5 p6)), .val (.int (v0_6 p1 p2 p3 p4 p5 p6)), .val (.int (v0_7 p1 p2 p3 p4 p5 p6)), .val (.int (v0_8 p1 p2 p3 p4 p5 p6)), .unset, .unset, .unset, .unset, .unset, .unset, .unset] [(.int ((2201 : Int32) - (v0_8 p1 p2 p3 p4 p5 p6))), (.int (p4 &&& (2147483647 : Int32)))])
  refine Go.of (fun _ k => iremM X4 hx rfl (hb hby at_75) rfl (own_nz2 p1 p2 p3 p4 p5 p6) k) ?_
  show Go p e below W T4 (mkF m 76 #[.val (.int p1), .val (.int p2), .val (.int p3), .val (.int p4), .val (.int p5), .val (.int p6), .val (.ref b1), .val (.int (v0_3 p1 p2 p3 p4 p5 p6)), .val (.int (v0_6 p1 p2 p3 p4 p5 p6)), .val (.int (v0_7 p1 p2 p3 p4 p5 p6)), .val (.int (v0_8 p1 p2 p3 p4 p5 p6)), .unset, .unset, .unset, .unset, .unset, .unset, .unset] [(.int ((p4 &&& (2147483647 : Int32)) % ((2201 : Int32) - (v0_8 p1 p2 p3 p4 p5 p6))))])
  refine Go.of (fun _ k => XS.istore X4.here hx rfl (hb hby at_76) rfl (l' := #[.val (.int p1), .val (.int p2), .val (.int p3), .val (.int p4), .val (.int p5), .val (.int p6), .val (.ref b1), .val (.int (v0_3 p1 p2 p3 p4 p5 p6)), .val (.int (v0_6 p1 p2 p3 p4 p5 p6)), .val (.int (v0_7 p1 p2 p3 p4 p5 p6)), .val (.int (v0_8 p1 p2 p3 p4 p5 p6)), .val (.int (v0_9 p1 p2 p3 p4 p5 p6)), .unset, .unset, .unset, .unset, .unset, .unset]) rfl k) ?_
  show Go p e below W T4 (mkF m 78 #[.val (.int p1), .val (.int p2), .val (.int p3), .val (.int p4), .val (.int p5), .val (.int p6), .val (.ref b1), .val (.int (v0_3 p1 p2 p3 p4 p5 p6)), .val (.int (v0_6 p1 p2 p3 p4 p5 p6)), .val (.int (v0_7 p1 p2 p3 p4 p5 p6)), .val (.int (v0_8 p1 p2 p3 p4 p5 p6)), .val (.int (v0_9 p1 p2 p3 p4 p5 p6)), .unset, .unset, .unset, .unset, .unset, .unset] [])
  refine Go.newO X4 hx hZ hown (hw _ (List.mem_of_getElem? (i := 2) rfl)) (hw _ (List.mem_of_getElem? (i := 3) rfl)) (hw _ (List.mem_of_getElem? (i := 4) rfl)) e4 (hb hby at_78) (by decide) (by decide) ?_
  intro T10 h10 b10 zq10 X10 e10 E10 E_b10 D10
  have ne_b1_b10 : b1 ≠ b10 := by rw [zq10]; exact Nat.ne_of_lt A_b1.lt
  have g_b10 : n0 ≤ b10 := by rw [zq10]; exact Z0
  have s_b10 : h0.size ≤ b10 := by rw [zq10]; exact K.1
  have A_b1 := A_b1.ext E10
  have K := K.ext E10
  have Z0 := Nat.le_trans Z0 E10.1
  have F_b10_bytes : Fld Z h10 b10 "com/example/gridtally/gridtally/io/ByteStreams$Buffer" "bytes" "[B" .null := D10 (Or.inl (hw _ (List.mem_of_getElem? (i := 17) rfl))) (ty := (.array .byte)) (by decide)
  have F_b10_size : Fld Z h10 b10 "com/example/gridtally/gridtally/io/ByteStreams$Buffer" "size" "I" (.int (0 : Int32)) := D10 (Or.inl (hw _ (List.mem_of_getElem? (i := 28) rfl))) (ty := .int) (by decide)
  show Go p e below W T10 (mkF m 81 #[.val (.int p1), .val (.int p2), .val (.int p3), .val (.int p4), .val (.int p5), .val (.int p6), .val (.ref b1), .val (.int (v0_3 p1 p2 p3 p4 p5 p6)), .val (.int (v0_6 p1 p2 p3 p4 p5 p6)), .val (.int (v0_7 p1 p2 p3 p4 p5 p6)), .val (.int (v0_8 p1 p2 p3 p4 p5 p6)), .val (.int (v0_9 p1 p2 p3 p4 p5 p6)), .unset, .unset, .unset, .unset, .unset, .unset] [(.ref b10)])
  refine Go.of (fun _ k => XS.dup X10.here hx rfl (hb hby at_81) rfl rfl k) ?_
  show Go p e below W T10 (mkF m 82 #[.val (.int p1), .val (.int p2), .val (.int p3), .val (.int p4), .val (.int p5), .val (.int p6), .val (.ref b1), .val (.int (v0_3 p1 p2 p3 p4 p5 p6)), .val (.int (v0_6 p1 p2 p3 p4 p5 p6)), .val (.int (v0_7 p1 p2 p3 p4 p5 p6)), .val (.int (v0_8 p1 p2 p3 p4 p5 p6)), .val (.int (v0_9 p1 p2 p3 p4 p5 p6)), .unset, .unset, .unset, .unset, .unset, .unset] [(.ref b10), (.ref b10)])
  refine Go.callI X10 hx hZ rfl hown (hw _ (List.mem_of_getElem? (i := 5) rfl)) (hw _ (List.mem_of_getElem? (i := 6) rfl)) (hw _ (List.mem_of_getElem? (i := 4) rfl)) (hw _ (List.mem_of_getElem? (i := 7) rfl)) (by decide) e10 (rm1 l Z a0 hw [] b10 h10 n0 Z0 E_b10 F_b10_bytes F_b10_size g_b10) (V := 1) (by decide) (by decide) (by decide) (by decide) (by rw [hml]; rfl) (argsL := []) (rest := [(.ref b10)]) rfl (lenOf pd___V rfl) rfl (Nat.le_of_ble_eq_true rfl) (hb hby at_82) ?_
  rintro T11 _ M11 ⟨b11, rfl, N11, K11, s_b11, F_b10_bytes, F_b10_size, A_b11⟩ X11
  obtain ⟨L11, zq11⟩ : ∃ z, z = L4 ++ M11 := ⟨_, rfl⟩
  have N := Fr.app N N11
  rw [← zq11] at X11 N
  have ne_b1_b11 : b1 ≠ b11 := Nat.ne_of_lt (Nat.lt_of_lt_of_le A_b1.lt s_b11)
  have ne_b10_b11 : b10 ≠ b11 := Nat.ne_of_lt (Nat.lt_of_lt_of_le E_b10.lt s_b11)
  have g_b11 : n0 ≤ b11 := Nat.le_trans Z0 s_b11
  have s_b11 : h0.size ≤ b11 := Nat.le_trans K.1 s_b11
  have A_b1 := A_b1.keep K11 (ninS ne_b1_b10 nin0)
  have E_b10 := E_b10.keep K11
  have K := K.trans K11 (by
    intro x hx
    simp only [List.mem_cons, List.not_mem_nil, or_false] at hx
    rcases hx with rfl
    · exact Or.inr s_b10)
  have Z0 := Nat.le_trans Z0 K11.1
  show Go p e below W T11 (mkF m 85 #[.val (.int p1), .val (.int p2), .val (.int p3), .val (.int p4), .val (.int p5), .val (.int p6), .val (.ref b1), .val (.int (v0_3 p1 p2 p3 p4 p5 p6)), .val (.int (v0_6 p1 p2 p3 p4 p5 p6)), .val (.int (v0_7 p1 p2 p3 p4 p5 p6)), .val (.int (v0_8 p1 p2 p3 p4 p5 p6)), .val (.int (v0_9 p1 p2 p3 p4 p5 p6)), .unset, .unset, .unset, .unset, .unset, .unset] [(.ref b10)])
  refine Go.of (fun _ k => XS.astore X11.here hx rfl (hb hby at_85) rfl rfl (l' := #[.val (.int p1), .val (.int p2), .val (.int p3), .val (.int p4), .val (.int p5), .val (.int p6), .val (.ref b1), .val (.int (v0_3 p1 p2 p3 p4 p5 p6)), .val (.int (v0_6 p1 p2 p3 p4 p5 p6)), .val (.int (v0_7 p1 p2 p3 p4 p5 p6)), .val (.int (v0_8 p1 p2 p3 p4 p5 p6)), .val (.int (v0_9 p1 p2 p3 p4 p5 p6)), .val (.ref b10), .unset, .unset, .unset, .unset, .unset]) rfl k) ?_
  show Go p e below W T11 (mkF m 87 #[.val (.int p1), .val (.int p2), .val (.int p3), .val (.int p4), .val (.int p5), .val (.int p6), .val (.ref b1), .val (.int (v0_3 p1 p2 p3 p4 p5 p6)), .val (.int (v0_6 p1 p2 p3 p4 p5 p6)), .val (.int (v0_7 p1 p2 p3 p4 p5 p6)), .val (.int (v0_8 p1 p2 p3 p4 p5 p6)), .val (.int (v0_9 p1 p2 p3 p4 p5 p6)), .val (.ref b10), .unset, .unset, .unset, .unset, .unset] [])
  refine Go.of (fun _ k => XS.aload X11.here hx rfl (hb hby at_87) rfl rfl k) ?_
  show Go p e below W T11 (mkF m 89 #[.val (.int p1), .val (.int p2), .val (.int p3), .val (.int p4), .val (.int p5), .val (.int p6), .val (.ref b1), .val (.int (v0_3 p1 p2 p3 p4 p5 p6)), .val (.int (v0_6 p1 p2 p3 p4 p5 p6)), .val (.int (v0_7 p1 p2 p3 p4 p5 p6)), .val (.int (v0_8 p1 p2 p3 p4 p5 p6)), .val (.int (v0_9 p1 p2 p3 p4 p5 p6)), .val (.ref b10), .unset, .unset, .unset, .unset, .unset] [(.ref b10)])
  refine Go.of (fun _ k => XS.aload X11.here hx rfl (hb hby at_89) rfl rfl k) ?_
  show Go p e below W T11 (mkF m 91 #[.val (.int p1), .val (.int p2), .val (.int p3), .val (.int p4), .val (.int p5), .val (.int p6), .val (.ref b1), .val (.int (v0_3 p1 p2 p3 p4 p5 p6)), .val (.int (v0_6 p1 p2 p3 p4 p5 p6)), .val (.int (v0_7 p1 p2 p3 p4 p5 p6)), .val (.int (v0_8 p1 p2 p3 p4 p5 p6)), .val (.int (v0_9 p1 p2 p3 p4 p5 p6)), .val (.ref b10), .unset, .unset, .unset, .unset, .unset] [(.ref b1), (.ref b10)])
  refine Go.of (fun _ k => XS.iload X11.here hx rfl (hb hby at_91) rfl k) ?_
  show Go p e below W T11 (mkF m 93 #[.val (.int p1), .val (.int p2), .val (.int p3), .val (.int p4), .val (.int p5), .val (.int p6), .val (.ref b1), .val (.int (v0_3 p1 p2 p3 p4 p5 p6)), .val (.int (v0_6 p1 p2 p3 p4 p5 p6)), .val (.int (v0_7 p1 p2 p3 p4 p5 p6)), .val (.int (v0_8 p1 p2 p3 p4 p5 p6)), .val (.int (v0_9 p1 p2 p3 p4 p5 p6)), .val (.ref b10), .unset, .unset, .unset, .unset, .unset] [(.int (v0_7 p1 p2 p3 p4 p5 p6)), (.ref b1), (.ref b10)])
  refine Go.of (fun _ k => XS.iload X11.here hx rfl (hb hby at_93) rfl k) ?_
  by_cases c12 : (1024 : Nat).toInt32 < ((0 : Int32) + (v0_6 p1 p2 p3 p4 p5 p6))
  · show Go p e below W T11 (mkF m 95 #[.val (.int p1), .val (.int p2), .val (.int p3), .val (.int p4), .val (.int p5), .val (.int p6), .val (.ref b1), .val (.int (v0_3 p1 p2 p3 p4 p5 p6)), .val (.int (v0_6 p1 p2 p3 p4 p5 p6)), .val (.int (v0_7 p1 p2 p3 p4 p5 p6)), .val (.int (v0_8 p1 p2 p3 p4 p5 p6)), .val (.int (v0_9 p1 p2 p3 p4 p5 p6)), .val (.ref b10), .unset, .unset, .unset, .unset, .unset] [(.int (v0_6 p1 p2 p3 p4 p5 p6)), (.int (v0_7 p1 p2 p3 p4 p5 p6)), (.ref b1), (.ref b10)])
    refine Go.callV X11 hx hZ hown (hw _ (List.mem_of_getElem? (i := 18) rfl)) (hw _ (List.mem_of_getElem? (i := 19) rfl)) (hw _ (List.mem_of_getElem? (i := 21) rfl)) (hw _ (List.mem_of_getElem? (i := 20) rfl)) (hw _ (List.mem_of_getElem? (i := 4) rfl)) (hw _ (List.mem_of_getElem? (i := 22) rfl)) (by decide) rfl E_b10 (rm4g l Z a0 hw [] b10 b1 (v0_7 p1 p2 p3 p4 p5 p6) (v0_6 p1 p2 p3 p4 p5 p6) (0 : Int32) b11 f1_nb (1024 : Nat) (w0_5 p1 p2 p3 p4 p5 p6) T11.heap n0 Z0 E_b10 F_b10_size F_b10_bytes A_b11 A_b1 g_b10 ne_b10_b11 (Ne.symm ne_b1_b10) (Ne.symm ne_b1_b11) c12 (own_h95 p1 p2 p3 p4 p5 p6) (by decide)) (V := 0) (by decide) (by decide) (by decide) (by decide) (by rw [hml]; rfl) (argsL := [(.ref b1), (.int (v0_7 p1 p2 p3 p4 p5 p6)), (.int (v0_6 p1 p2 p3 p4 p5 p6))]) (rest := []) rfl (lenOf pd___BII_V rfl) rfl (Nat.le_of_ble_eq_true rfl) (hb hby at_95) ?_
    rintro T13 _ M13 ⟨b13, rfl, N13, K13, s_b13, F_b10_size, F_b10_bytes, A_b13⟩ X13
    obtain ⟨L13, zq13⟩ : ∃ z, z = L11 ++ M13 := ⟨_, rfl⟩
    have N := Fr.app N N13
    rw [← zq13] at X13 N
    have ne_b1_b13 : b1 ≠ b13 := Nat.ne_of_lt (Nat.lt_of_lt_of_le A_b1.lt s_b13)
    have ne_b10_b13 : b10 ≠ b13 := Nat.ne_of_lt (Nat.lt_of_lt_of_le E_b10.lt s_b13)
    have ne_b11_b13 : b11 ≠ b13 := Nat.ne_of_lt (Nat.lt_of_lt_of_le A_b11.lt s_b13)
    have g_b13 : n0 ≤ b13 := Nat.le_trans Z0 s_b13
    have s_b13 : h0.size ≤ b13 := Nat.le_trans K.1 s_b13
    have A_b1 := A_b1.keep K13 (ninS ne_b1_b10 nin0)
    have E_b10 := E_b10.keep K13
    have A_b11 := A_b11.keep K13 (ninS (Ne.symm ne_b10_b11) nin0)
    have K := K.trans K13 (by
      intro x hx
      simp only [List.mem_cons, List.not_mem_nil, or_false] at hx
      rcases hx with rfl
      · exact Or.inr s_b10)
    have Z0 := Nat.le_trans Z0 K13.1
    show Go p e below W T13 (mkF m 98 #[.val (.int p1), .val (.int p2), .val (.int p3), .val (.int p4), .val (.int p5), .val (.int p6), .val (.ref b1), .val (.int (v0_3 p1 p2 p3 p4 p5 p6)), .val (.int (v0_6 p1 p2 p3 p4 p5 p6)), .val (.int (v0_7 p1 p2 p3 p4 p5 p6)), .val (.int (v0_8 p1 p2 p3 p4 p5 p6)), .val (.int (v0_9 p1 p2 p3 p4 p5 p6)), .val (.ref b10), .unset, .unset, .unset, .unset, .unset] [])
    refine Go.of (fun _ k => XS.aload X13.here hx rfl (hb hby at_98) rfl rfl k) ?_
    show Go p e below W T13 (mkF m 100 #[.val (.int p1), .val (.int p2), .val (.int p3), .val (.int p4), .val (.int p5), .val (.int p6), .val (.ref b1), .val (.int (v0_3 p1 p2 p3 p4 p5 p6)), .val (.int (v0_6 p1 p2 p3 p4 p5 p6)), .val (.int (v0_7 p1 p2 p3 p4 p5 p6)), .val (.int (v0_8 p1 p2 p3 p4 p5 p6)), .val (.int (v0_9 p1 p2 p3 p4 p5 p6)), .val (.ref b10), .unset, .unset, .unset, .unset, .unset] [(.ref b10)])
    refine Go.callV X13 hx hZ hown (hw _ (List.mem_of_getElem? (i := 33) rfl)) (hw _ (List.mem_of_getElem? (i := 34) rfl)) (hw _ (List.mem_of_getElem? (i := 36) rfl)) (hw _ (List.mem_of_getElem? (i := 35) rfl)) (hw _ (List.mem_of_getElem? (i := 4) rfl)) (hw _ (List.mem_of_getElem? (i := 37) rfl)) (by decide) rfl E_b10 (rm6 l Z a0 hw [] b10 (f4g_size (v0_7 p1 p2 p3 p4 p5 p6) (v0_6 p1 p2 p3 p4 p5 p6) (0 : Int32) f1_nb (w0_5 p1 p2 p3 p4 p5 p6) (1024 : Nat)) T13.heap F_b10_size) (V := 0) (by decide) (by decide) (by decide) (by decide) (by rw [hml]; rfl) (argsL := []) (rest := []) rfl (lenOf pd___I rfl) rfl (Nat.le_of_ble_eq_true rfl) (hb hby at_100) ?_
    rintro T14 _ _ ⟨rfl, rfl, e14⟩ X14
    rw [List.append_nil] at X14
    show Go p e below W T14 (mkF m 103 #[.val (.int p1), .val (.int p2), .val (.int p3), .val (.int p4), .val (.int p5), .val (.int p6), .val (.ref b1), .val (.int (v0_3 p1 p2 p3 p4 p5 p6)), .val (.int (v0_6 p1 p2 p3 p4 p5 p6)), .val (.int (v0_7 p1 p2 p3 p4 p5 p6)), .val (.int (v0_8 p1 p2 p3 p4 p5 p6)), .val (.int (v0_9 p1 p2 p3 p4 p5 p6)), .val (.ref b10), .unset, .unset, .unset, .unset, .unset] [(.int (f6 (f4g_size (v0_7 p1 p2 p3 p4 p5 p6) (v0_6 p1 p2 p3 p4 p5 p6) (0 : Int32) f1_nb (w0_5 p1 p2 p3 p4 p5 p6) (1024 : Nat))))])
    refine Go.of (fun _ k => XS.iload X14.here hx rfl (hb hby at_103) rfl k) ?_
    show Go p e below W T14 (mkF m 105 #[.val (.int p1), .val (.int p2), .val (.int p3), .val (.int p4), .val (.int p5), .val (.int p6), .val (.ref b1), .val (.int (v0_3 p1 p2 p3 p4 p5 p6)), .val (.int (v0_6 p1 p2 p3 p4 p5 p6)), .val (.int (v0_7 p1 p2 p3 p4 p5 p6)), .val (.int (v0_8 p1 p2 p3 p4 p5 p6)), .val (.int (v0_9 p1 p2 p3 p4 p5 p6)), .val (.ref b10), .unset, .unset, .unset, .unset, .unset] [(.int (v0_6 p1 p2 p3 p4 p5 p6)), (.int (f6 (f4g_size (v0_7 p1 p2 p3 p4 p5 p6) (v0_6 p1 p2 p3 p4 p5 p6) (0 : Int32) f1_nb (w0_5 p1 p2 p3 p4 p5 p6) (1024 : Nat))))])
    suffices G16 : ∀ T', Stand p l e room_1 s m #[(.int p1), (.int p2), (.int p3), (.int p4), (.int p5), (.int p6)] below meth c T' L13 4 7626 → T'.heap = T13.heap → Go p e below W T' (mkF m 113 #[.val (.int p1), .val (.int p2), .val (.int p3), .val (.int p4), .val (.int p5), .val (.int p6), .val (.ref b1), .val (.int (v0_3 p1 p2 p3 p4 p5 p6)), .val (.int (v0_6 p1 p2 p3 p4 p5 p6)), .val (.int (v0_7 p1 p2 p3 p4 p5 p6)), .val (.int (v0_8 p1 p2 p3 p4 p5 p6)), .val (.int (v0_9 p1 p2 p3 p4 p5 p6)), .val (.ref b10), .unset, .unset, .unset, .unset, .unset] [(.int (v0_17 p1 p2 p3 p4 p5 p6))]) by
      by_cases c15 : (f6 (f4g_size (v0_7 p1 p2 p3 p4 p5 p6) (v0_6 p1 p2 p3 p4 p5 p6) (0 : Int32) f1_nb (w0_5 p1 p2 p3 p4 p5 p6) (1024 : Nat))) = (v0_6 p1 p2 p3 p4 p5 p6)
      · refine Go.of (fun _ k => XS.icmpNo X14.here hx rfl (hb hby at_105) rfl (Jvm.Free.XT.ii_ne_f c15) k) ?_
        show Go p e below W T14 (mkF m 108 #[.val (.int p1), .val (.int p2), .val (.int p3), .val (.int p4), .val (.int p5), .val (.int p6), .val (.ref b1), .val (.int (v0_3 p1 p2 p3 p4 p5 p6)), .val (.int (v0_6 p1 p2 p3 p4 p5 p6)), .val (.int (v0_7 p1 p2 p3 p4 p5 p6)), .val (.int (v0_8 p1 p2 p3 p4 p5 p6)), .val (.int (v0_9 p1 p2 p3 p4 p5 p6)), .val (.ref b10), .unset, .unset, .unset, .unset, .unset] [])
        refine Go.of (fun _ k => XS.iconst X14.here hx rfl (hb hby at_108) k) ?_
        show Go p e below W T14 (mkF m 109 #[.val (.int p1), .val (.int p2), .val (.int p3), .val (.int p4), .val (.int p5), .val (.int p6), .val (.ref b1), .val (.int (v0_3 p1 p2 p3 p4 p5 p6)), .val (.int (v0_6 p1 p2 p3 p4 p5 p6)), .val (.int (v0_7 p1 p2 p3 p4 p5 p6)), .val (.int (v0_8 p1 p2 p3 p4 p5 p6)), .val (.int (v0_9 p1 p2 p3 p4 p5 p6)), .val (.ref b10), .unset, .unset, .unset, .unset, .unset] [(.int (1 : Int32))])
        refine Go.of (fun _ k => XS.goto X14.here hx rfl (pc0 := 109) (pc' := 113) rfl (hb hby at_109) (by decide) (by decide) k) ?_
        have G16 := G16
        have q_v0_17 : (v0_17 p1 p2 p3 p4 p5 p6) = (1 : Int32) := by rw [v0_17, if_pos c15]
        rw [q_v0_17] at G16
        exact G16 _ X14 e14
      · refine Go.of (fun _ k => XS.icmpYes X14.here hx rfl (pc0 := 105) (pc' := 112) rfl (hb hby at_105) rfl (Jvm.Free.XT.ii_ne_t c15) (by decide) (by decide) k) ?_
        show Go p e below W T14 (mkF m 112 #[.val (.int p1), .val (.int p2), .val (.int p3), .val (.int p4), .val (.int p5), .val (.int p6), .val (.ref b1), .val (.int (v0_3 p1 p2 p3 p4 p5 p6)), .val (.int (v0_6 p1 p2 p3 p4 p5 p6)), .val (.int (v0_7 p1 p2 p3 p4 p5 p6)), .val (.int (v0_8 p1 p2 p3 p4 p5 p6)), .val (.int (v0_9 p1 p2 p3 p4 p5 p6)), .val (.ref b10), .unset, .unset, .unset, .unset, .unset] [])
        refine Go.of (fun _ k => XS.iconst X14.here hx rfl (hb hby at_112) k) ?_
        have G16 := G16
        have q_v0_17 : (v0_17 p1 p2 p3 p4 p5 p6) = (0 : Int32) := by rw [v0_17, if_neg c15]
        rw [q_v0_17] at G16
        exact G16 _ X14 e14
    intro T16 X16 e16
    show Go p e below W T16 (mkF m 113 #[.val (.int p1), .val (.int p2), .val (.int p3), .val (.int p4), .val (.int p5), .val (.int p6), .val (.ref b1), .val (.int (v0_3 p1 p2 p3 p4 p5 p6)), .val (.int (v0_6 p1 p2 p3 p4 p5 p6)), .val (.int (v0_7 p1 p2 p3 p4 p5 p6)), .val (.int (v0_8 p1 p2 p3 p4 p5 p6)), .val (.int (v0_9 p1 p2 p3 p4 p5 p6)), .val (.ref b10), .unset, .unset, .unset, .unset, .unset] [(.int (v0_17 p1 p2 p3 p4 p5 p6))])
    refine Go.of (fun _ k => XS.istore X16.here hx rfl (hb hby at_113) rfl (l' := #[.val (.int p1), .val (.int p2), .val (.int p3), .val (.int p4), .val (.int p5), .val (.int p6), .val (.ref b1), .val (.int (v0_3 p1 p2 p3 p4 p5 p6)), .val (.int (v0_6 p1 p2 p3 p4 p5 p6)), .val (.int (v0_7 p1 p2 p3 p4 p5 p6)), .val (.int (v0_8 p1 p2 p3 p4 p5 p6)), .val (.int (v0_9 p1 p2 p3 p4 p5 p6)), .val (.ref b10), .val (.int (v0_17 p1 p2 p3 p4 p5 p6)), .unset, .unset, .unset, .unset]) rfl k) ?_
    show Go p e below W T16 (mkF m 115 #[.val (.int p1), .val (.int p2), .val (.int p3), .val (.int p4), .val (.int p5), .val (.int p6), .val (.ref b1), .val (.int (v0_3 p1 p2 p3 p4 p5 p6)), .val (.int (v0_6 p1 p2 p3 p4 p5 p6)), .val (.int (v0_7 p1 p2 p3 p4 p5 p6)), .val (.int (v0_8 p1 p2 p3 p4 p5 p6)), .val (.int (v0_9 p1 p2 p3 p4 p5 p6)), .val (.ref b10), .val (.int (v0_17 p1 p2 p3 p4 p5 p6)), .unset, .unset, .unset, .unset] [])
    refine Go.of (fun _ k => XS.aload X16.here hx rfl (hb hby at_115) rfl rfl k) ?_
    show Go p e below W T16 (mkF m 117 #[.val (.int p1), .val (.int p2), .val (.int p3), .val (.int p4), .val (.int p5), .val (.int p6), .val (.ref b1), .val (.int (v0_3 p1 p2 p3 p4 p5 p6)), .val (.int (v0_6 p1 p2 p3 p4 p5 p6)), .val (.int (v0_7 p1 p2 p3 p4 p5 p6)), .val (.int (v0_8 p1 p2 p3 p4 p5 p6)), .val (.int (v0_9 p1 p2 p3 p4 p5 p6)), .val (.ref b10), .val (.int (v0_17 p1 p2 p3 p4 p5 p6)), .unset, .unset, .unset, .unset] [(.ref b10)])
    refine Go.of (fun _ k => XS.aload X16.here hx rfl (hb hby at_117) rfl rfl k) ?_
    show Go p e below W T16 (mkF m 119 #[.val (.int p1), .val (.int p2), .val (.int p3), .val (.int p4), .val (.int p5), .val (.int p6), .val (.ref b1), .val (.int (v0_3 p1 p2 p3 p4 p5 p6)), .val (.int (v0_6 p1 p2 p3 p4 p5 p6)), .val (.int (v0_7 p1 p2 p3 p4 p5 p6)), .val (.int (v0_8 p1 p2 p3 p4 p5 p6)), .val (.int (v0_9 p1 p2 p3 p4 p5 p6)), .val (.ref b10), .val (.int (v0_17 p1 p2 p3 p4 p5 p6)), .unset, .unset, .unset, .unset] [(.ref b1), (.ref b10)])
    refine Go.of (fun _ k => XS.iload X16.here hx rfl (hb hby at_119) rfl k) ?_
    show Go p e below W T16 (mkF m 121 #[.val (.int p1), .val (.int p2), .val (.int p3), .val (.int p4), .val (.int p5), .val (.int p6), .val (.ref b1), .val (.int (v0_3 p1 p2 p3 p4 p5 p6)), .val (.int (v0_6 p1 p2 p3 p4 p5 p6)), .val (.int (v0_7 p1 p2 p3 p4 p5 p6)), .val (.int (v0_8 p1 p2 p3 p4 p5 p6)), .val (.int (v0_9 p1 p2 p3 p4 p5 p6)), .val (.ref b10), .val (.int (v0_17 p1 p2 p3 p4 p5 p6)), .unset, .unset, .unset, .unset] [(.int (v0_9 p1 p2 p3 p4 p5 p6)), (.ref b1), (.ref b10)])
    refine Go.of (fun _ k => XS.iload X16.here hx rfl (hb hby at_121) rfl k) ?_
    by_cases c18 : (f8 ((2 : Int32) * (1024 : Nat).toInt32) ((0 : Int32) + (v0_6 p1 p2 p3 p4 p5 p6))).toNatClampNeg.toInt32 < ((f4g_size (v0_7 p1 p2 p3 p4 p5 p6) (v0_6 p1 p2 p3 p4 p5 p6) (0 : Int32) f1_nb (w0_5 p1 p2 p3 p4 p5 p6) (1024 : Nat)) + (v0_8 p1 p2 p3 p4 p5 p6))
    · show Go p e below W T16 (mkF m 123 #[.val (.int p1), .val (.int p2), .val (.int p3), .val (.int p4), .val (.int p5), .val (.int p6), .val (.ref b1), .val (.int (v0_3 p1 p2 p3 p4 p5 p6)), .val (.int (v0_6 p1 p2 p3 p4 p5 p6)), .val (.int (v0_7 p1 p2 p3 p4 p5 p6)), .val (.int (v0_8 p1 p2 p3 p4 p5 p6)), .val (.int (v0_9 p1 p2 p3 p4 p5 p6)), .val (.ref b10), .val (.int (v0_17 p1 p2 p3 p4 p5 p6)), .unset, .unset, .unset, .unset] [(.int (v0_8 p1 p2 p3 p4 p5 p6)), (.int (v0_9 p1 p2 p3 p4 p5 p6)), (.ref b1), (.ref b10)])
      refine Go.callV X16 hx hZ hown (hw _ (List.mem_of_getElem? (i := 18) rfl)) (hw _ (List.mem_of_getElem? (i := 19) rfl)) (hw _ (List.mem_of_getElem? (i := 21) rfl)) (hw _ (List.mem_of_getElem? (i := 20) rfl)) (hw _ (List.mem_of_getElem? (i := 4) rfl)) (hw _ (List.mem_of_getElem? (i := 22) rfl)) (by decide) e16 E_b10 (rm4g l Z a0 hw [] b10 b1 (v0_9 p1 p2 p3 p4 p5 p6) (v0_8 p1 p2 p3 p4 p5 p6) (f4g_size (v0_7 p1 p2 p3 p4 p5 p6) (v0_6 p1 p2 p3 p4 p5 p6) (0 : Int32) f1_nb (w0_5 p1 p2 p3 p4 p5 p6) (1024 : Nat)) b13 (f4g_nb (v0_7 p1 p2 p3 p4 p5 p6) (v0_6 p1 p2 p3 p4 p5 p6) (0 : Int32) f1_nb (w0_5 p1 p2 p3 p4 p5 p6) (1024 : Nat)) (f8 ((2 : Int32) * (1024 : Nat).toInt32) ((0 : Int32) + (v0_6 p1 p2 p3 p4 p5 p6))).toNatClampNeg (w0_5 p1 p2 p3 p4 p5 p6) T13.heap n0 Z0 E_b10 F_b10_size F_b10_bytes A_b13 A_b1 g_b10 ne_b10_b13 (Ne.symm ne_b1_b10) (Ne.symm ne_b1_b13) c18 (own_h123g p1 p2 p3 p4 p5 p6 c12) (own_hgg p1 p2 p3 p4 p5 p6 c12)) (V := 0) (by decide) (by decide) (by decide) (by decide) (by rw [hml]; rfl) (argsL := [(.ref b1), (.int (v0_9 p1 p2 p3 p4 p5 p6)), (.int (v0_8 p1 p2 p3 p4 p5 p6))]) (rest := []) rfl (lenOf pd___BII_V rfl) rfl (Nat.le_of_ble_eq_true rfl) (hb hby at_123) ?_
      rintro T19 _ M19 ⟨b19, rfl, N19, K19, s_b19, F_b10_size, F_b10_bytes, A_b19⟩ X19
      obtain ⟨L19, zq19⟩ : ∃ z, z = L13 ++ M19 := ⟨_, rfl⟩
      have N := Fr.app N N19
      rw [← zq19] at X19 N
      have ne_b1_b19 : b1 ≠ b19 := Nat.ne_of_lt (Nat.lt_of_lt_of_le A_b1.lt s_b19)
      have ne_b10_b19 : b10 ≠ b19 := Nat.ne_of_lt (Nat.lt_of_lt_of_le E_b10.lt s_b19)
      have ne_b11_b19 : b11 ≠ b19 := Nat.ne_of_lt (Nat.lt_of_lt_of_le A_b11.lt s_b19)
      have ne_b13_b19 : b13 ≠ b19 := Nat.ne_of_lt (Nat.lt_of_lt_of_le A_b13.lt s_b19)
      have g_b19 : n0 ≤ b19 := Nat.le_trans Z0 s_b19
      have s_b19 : h0.size ≤ b19 := Nat.le_trans K.1 s_b19
      have A_b1 := A_b1.keep K19 (ninS ne_b1_b10 nin0)
      have E_b10 := E_b10.keep K19
      have A_b11 := A_b11.keep K19 (ninS (Ne.symm ne_b10_b11) nin0)
      have A_b13 := A_b13.keep K19 (ninS (Ne.symm ne_b10_b13) nin0)
      have K := K.trans K19 (by
        intro x hx
        simp only [List.mem_cons, List.not_mem_nil, or_false] at hx
        rcases hx with rfl
        · exact Or.inr s_b10)
      have Z0 := Nat.le_trans Z0 K19.1
      show Go p e below W T19 (mkF m 126 #[.val (.int p1), .val (.int p2), .val (.int p3), .val (.int p4), .val (.int p5), .val (.int p6), .val (.ref b1), .val (.int (v0_3 p1 p2 p3 p4 p5 p6)), .val (.int (v0_6 p1 p2 p3 p4 p5 p6)), .val (.int (v0_7 p1 p2 p3 p4 p5 p6)), .val (.int (v0_8 p1 p2 p3 p4 p5 p6)), .val (.int (v0_9 p1 p2 p3 p4 p5 p6)), .val (.ref b10), .val (.int (v0_17 p1 p2 p3 p4 p5 p6)), .unset, .unset, .unset, .unset] [])
      refine Go.of (fun _ k => XS.iload X19.here hx rfl (hb hby at_126) rfl k) ?_
      show Go p e below W T19 (mkF m 128 #[.val (.int p1), .val (.int p2), .val (.int p3), .val (.int p4), .val (.int p5), .val (.int p6), .val (.ref b1), .val (.int (v0_3 p1 p2 p3 p4 p5 p6)), .val (.int (v0_6 p1 p2 p3 p4 p5 p6)), .val (.int (v0_7 p1 p2 p3 p4 p5 p6)), .val (.int (v0_8 p1 p2 p3 p4 p5 p6)), .val (.int (v0_9 p1 p2 p3 p4 p5 p6)), .val (.ref b10), .val (.int (v0_17 p1 p2 p3 p4 p5 p6)), .unset, .unset, .unset, .unset] [(.int (v0_6 p1 p2 p3 p4 p5 p6))])
      refine Go.of (fun _ k => XS.iload X19.here hx rfl (hb hby at_128) rfl k) ?_
      show Go p e below W T19 (mkF m 130 #[.val (.int p1), .val (.int p2), .val (.int p3), .val (.int p4), .val (.int p5), .val (.int p6), .val (.ref b1), .val (.int (v0_3 p1 p2 p3 p4 p5 p6)), .val (.int (v0_6 p1 p2 p3 p4 p5 p6)), .val (.int (v0_7 p1 p2 p3 p4 p5 p6)), .val (.int (v0_8 p1 p2 p3 p4 p5 p6)), .val (.int (v0_9 p1 p2 p3 p4 p5 p6)), .val (.ref b10), .val (.int (v0_17 p1 p2 p3 p4 p5 p6)), .unset, .unset, .unset, .unset] [(.int (v0_8 p1 p2 p3 p4 p5 p6)), (.int (v0_6 p1 p2 p3 p4 p5 p6))])
      refine Go.of (fun _ k => XS.iadd X19.here hx rfl (hb hby at_130) rfl k) ?_
      show Go p e below W T19 (mkF m 131 #[.val (.int p1), .val (.int p2), .val (.int p3), .val (.int p4), .val (.int p5), .val (.int p6), .val (.ref b1), .val (.int (v0_3 p1 p2 p3 p4 p5 p6)), .val (.int (v0_6 p1 p2 p3 p4 p5 p6)), .val (.int (v0_7 p1 p2 p3 p4 p5 p6)), .val (.int (v0_8 p1 p2 p3 p4 p5 p6)), .val (.int (v0_9 p1 p2 p3 p4 p5 p6)), .val (.ref b10), .val (.int (v0_17 p1 p2 p3 p4 p5 p6)), .unset, .unset, .unset, .unset] [(.int ((v0_6 p1 p2 p3 p4 p5 p6) + (v0_8 p1 p2 p3 p4 p5 p6)))])
      refine Go.of (fun _ k => XS.istore X19.here hx rfl (hb hby at_131) rfl (l' := #[.val (.int p1), .val (.int p2), .val (.int p3), .val (.int p4), .val (.int p5), .val (.int p6), .val (.ref b1), .val (.int (v0_3 p1 p2 p3 p4 p5 p6)), .val (.int (v0_6 p1 p2 p3 p4 p5 p6)), .val (.int (v0_7 p1 p2 p3 p4 p5 p6)), .val (.int (v0_8 p1 p2 p3 p4 p5 p6)), .val (.int (v0_9 p1 p2 p3 p4 p5 p6)), .val (.ref b10), .val (.int (v0_17 p1 p2 p3 p4 p5 p6)), .val (.int (v0_20 p1 p2 p3 p4 p5 p6)), .unset, .unset, .unset]) rfl k) ?_
      show Go p e below W T19 (mkF m 133 #[.val (.int p1), .val (.int p2), .val (.int p3), .val (.int p4), .val (.int p5), .val (.int p6), .val (.ref b1), .val (.int (v0_3 p1 p2 p3 p4 p5 p6)), .val (.int (v0_6 p1 p2 p3 p4 p5 p6)), .val (.int (v0_7 p1 p2 p3 p4 p5 p6)), .val (.int (v0_8 p1 p2 p3 p4 p5 p6)), .val (.int (v0_9 p1 p2 p3 p4 p5 p6)), .val (.ref b10), .val (.int (v0_17 p1 p2 p3 p4 p5 p6)), .val (.int (v0_20 p1 p2 p3 p4 p5 p6)), .unset, .unset, .unset] [])
      refine Go.of (fun _ k => XS.iload X19.here hx rfl (hb hby at_133) rfl k) ?_
      show Go p e below W T19 (mkF m 135 #[.val (.int p1), .val (.int p2), .val (.int p3), .val (.int p4), .val (.int p5), .val (.int p6), .val (.ref b1), .val (.int (v0_3 p1 p2 p3 p4 p5 p6)), .val (.int (v0_6 p1 p2 p3 p4 p5 p6)), .val (.int (v0_7 p1 p2 p3 p4 p5 p6)), .val (.int (v0_8 p1 p2 p3 p4 p5 p6)), .val (.int (v0_9 p1 p2 p3 p4 p5 p6)), .val (.ref b10), .val (.int (v0_17 p1 p2 p3 p4 p5 p6)), .val (.int (v0_20 p1 p2 p3 p4 p5 p6)), .unset, .unset, .unset] [(.int (v0_17 p1 p2 p3 p4 p5 p6))])
      by_cases c21 : (v0_17 p1 p2 p3 p4 p5 p6) = (0 : Int32)
      · refine Go.of (fun _ k => XS.ifYes X19.here hx rfl (pc0 := 135) (pc' := 148) rfl (hb hby at_135) rfl (Jvm.Free.XT.i0_eq_t c21) (by decide) (by decide) k) ?_
        show Go p e below W T19 (mkF m 148 #[.val (.int p1), .val (.int p2), .val (.int p3), .val (.int p4), .val (.int p5), .val (.int p6), .val (.ref b1), .val (.int (v0_3 p1 p2 p3 p4 p5 p6)), .val (.int (v0_6 p1 p2 p3 p4 p5 p6)), .val (.int (v0_7 p1 p2 p3 p4 p5 p6)), .val (.int (v0_8 p1 p2 p3 p4 p5 p6)), .val (.int (v0_9 p1 p2 p3 p4 p5 p6)), .val (.ref b10), .val (.int (v0_17 p1 p2 p3 p4 p5 p6)), .val (.int (v0_20 p1 p2 p3 p4 p5 p6)), .unset, .unset, .unset] [])
        refine Go.of (fun _ k => XS.iconst X19.here hx rfl (hb hby at_148) k) ?_
        show Go p e below W T19 (mkF m 149 #[.val (.int p1), .val (.int p2), .val (.int p3), .val (.int p4), .val (.int p5), .val (.int p6), .val (.ref b1), .val (.int (v0_3 p1 p2 p3 p4 p5 p6)), .val (.int (v0_6 p1 p2 p3 p4 p5 p6)), .val (.int (v0_7 p1 p2 p3 p4 p5 p6)), .val (.int (v0_8 p1 p2 p3 p4 p5 p6)), .val (.int (v0_9 p1 p2 p3 p4 p5 p6)), .val (.ref b10), .val (.int (v0_17 p1 p2 p3 p4 p5 p6)), .val (.int (v0_20 p1 p2 p3 p4 p5 p6)), .unset, .unset, .unset] [(.int (0 : Int32))])
        have u_f0 : (f0 p1 p2 p3 p4 p5 p6) = (0 : Int32) := by rw [f0, if_pos c12, if_pos c18, if_pos c21]
        have fin : Q0 Z p1 p2 p3 p4 p5 p6 h0 n0 (some (.int (f0 p1 p2 p3 p4 p5 p6))) T19.heap L19 := ⟨rfl, N, K⟩
        exact Go.retN X19 hx hret (Or.inl rfl) (hb hby at_149) hlk (Eq.trans rfl u_f0.symm) (fun t ht fe => hW t _ _ _ _ (by rw [ht]; exact fin) fe (by decide) (by decide))
      · refine Go.of (fun _ k => XS.ifNo X19.here hx rfl (hb hby at_135) rfl (Jvm.Free.XT.i0_eq_f c21) k) ?_
        show Go p e below W T19 (mkF m 138 #[.val (.int p1), .val (.int p2), .val (.int p3), .val (.int p4), .val (.int p5), .val (.int p6), .val (.ref b1), .val (.int (v0_3 p1 p2 p3 p4 p5 p6)), .val (.int (v0_6 p1 p2 p3 p4 p5 p6)), .val (.int (v0_7 p1 p2 p3 p4 p5 p6)), .val (.int (v0_8 p1 p2 p3 p4 p5 p6)), .val (.int (v0_9 p1 p2 p3 p4 p5 p6)), .val (.ref b10), .val (.int (v0_17 p1 p2 p3 p4 p5 p6)), .val (.int (v0_20 p1 p2 p3 p4 p5 p6)), .unset, .unset, .unset] [])
        refine Go.of (fun _ k => XS.aload X19.here hx rfl (hb hby at_138) rfl rfl k) ?_
        show Go p e below W T19 (mkF m 140 #[.val (.int p1), .val (.int p2), .val (.int p3), .val (.int p4), .val (.int p5), .val (.int p6), .val (.ref b1), .val (.int (v0_3 p1 p2 p3 p4 p5 p6)), .val (.int (v0_6 p1 p2 p3 p4 p5 p6)), .val (.int (v0_7 p1 p2 p3 p4 p5 p6)), .val (.int (v0_8 p1 p2 p3 p4 p5 p6)), .val (.int (v0_9 p1 p2 p3 p4 p5 p6)), .val (.ref b10), .val (.int (v0_17 p1 p2 p3 p4 p5 p6)), .val (.int (v0_20 p1 p2 p3 p4 p5 p6)), .unset, .unset, .unset] [(.ref b10)])
        refine Go.callV X19 hx hZ hown (hw _ (List.mem_of_getElem? (i := 33) rfl)) (hw _ (List.mem_of_getElem? (i := 34) rfl)) (hw _ (List.mem_of_getElem? (i := 36) rfl)) (hw _ (List.mem_of_getElem? (i := 35) rfl)) (hw _ (List.mem_of_getElem? (i := 4) rfl)) (hw _ (List.mem_of_getElem? (i := 37) rfl)) (by decide) rfl E_b10 (rm6 l Z a0 hw [] b10 (f4g_size (v0_9 p1 p2 p3 p4 p5 p6) (v0_8 p1 p2 p3 p4 p5 p6) (f4g_size (v0_7 p1 p2 p3 p4 p5 p6) (v0_6 p1 p2 p3 p4 p5 p6) (0 : Int32) f1_nb (w0_5 p1 p2 p3 p4 p5 p6) (1024 : Nat)) (f4g_nb (v0_7 p1 p2 p3 p4 p5 p6) (v0_6 p1 p2 p3 p4 p5 p6) (0 : Int32) f1_nb (w0_5 p1 p2 p3 p4 p5 p6) (1024 : Nat)) (w0_5 p1 p2 p3 p4 p5 p6) (f8 ((2 : Int32) * (1024 : Nat).toInt32) ((0 : Int32) + (v0_6 p1 p2 p3 p4 p5 p6))).toNatClampNeg) T19.heap F_b10_size) (V := 0) (by decide) (by decide) (by decide) (by decide) (by rw [hml]; rfl) (argsL := []) (rest := []) rfl (lenOf pd___I rfl) rfl (Nat.le_of_ble_eq_true rfl) (hb hby at_140) ?_
        rintro T22 _ _ ⟨rfl, rfl, e22⟩ X22
        rw [List.append_nil] at X22
        show Go p e below W T22 (mkF m 143 #[.val (.int p1), .val (.int p2), .val (.int p3), .val (.int p4), .val (.int p5), .val (.int p6), .val (.ref b1), .val (.int (v0_3 p1 p2 p3 p4 p5 p6)), .val (.int (v0_6 p1 p2 p3 p4 p5 p6)), .val (.int (v0_7 p1 p2 p3 p4 p5 p6)), .val (.int (v0_8 p1 p2 p3 p4 p5 p6)), .val (.int (v0_9 p1 p2 p3 p4 p5 p6)), .val (.ref b10), .val (.int (v0_17 p1 p2 p3 p4 p5 p6)), .val (.int (v0_20 p1 p2 p3 p4 p5 p6)), .unset, .unset, .unset] [(.int (f6 (f4g_size (v0_9 p1 p2 p3 p4 p5 p6) (v0_8 p1 p2 p3 p4 p5 p6) (f4g_size (v0_7 p1 p2 p3 p4 p5 p6) (v0_6 p1 p2 p3 p4 p5 p6) (0 : Int32) f1_nb (w0_5 p1 p2 p3 p4 p5 p6) (1024 : Nat)) (f4g_nb (v0_7 p1 p2 p3 p4 p5 p6) (v0_6 p1 p2 p3 p4 p5 p6) (0 : Int32) f1_nb (w0_5 p1 p2 p3 p4 p5 p6) (1024 : Nat)) (w0_5 p1 p2 p3 p4 p5 p6) (f8 ((2 : Int32) * (1024 : Nat).toInt32) ((0 : Int32) + (v0_6 p1 p2 p3 p4 p5 p6))).toNatClampNeg)))])
        refine Go.of (fun _ k => XS.iload X22.here hx rfl (hb hby at_143) rfl k) ?_
        show Go p e below W T22 (mkF m 145 #[.val (.int p1), .val (.int p2), .val (.int p3), .val (.int p4), .val (.int p5), .val (.int p6), .val (.ref b1), .val (.int (v0_3 p1 p2 p3 p4 p5 p6)), .val (.int (v0_6 p1 p2 p3 p4 p5 p6)), .val (.int (v0_7 p1 p2 p3 p4 p5 p6)), .val (.int (v0_8 p1 p2 p3 p4 p5 p6)), .val (.int (v0_9 p1 p2 p3 p4 p5 p6)), .val (.ref b10), .val (.int (v0_17 p1 p2 p3 p4 p5 p6)), .val (.int (v0_20 p1 p2 p3 p4 p5 p6)), .unset, .unset, .unset] [(.int (v0_20 p1 p2 p3 p4 p5 p6)), (.int (f6 (f4g_size (v0_9 p1 p2 p3 p4 p5 p6) (v0_8 p1 p2 p3 p4 p5 p6) (f4g_size (v0_7 p1 p2 p3 p4 p5 p6) (v0_6 p1 p2 p3 p4 p5 p6) (0 : Int32) f1_nb (w0_5 p1 p2 p3 p4 p5 p6) (1024 : Nat)) (f4g_nb (v0_7 p1 p2 p3 p4 p5 p6) (v0_6 p1 p2 p3 p4 p5 p6) (0 : Int32) f1_nb (w0_5 p1 p2 p3 p4 p5 p6) (1024 : Nat)) (w0_5 p1 p2 p3 p4 p5 p6) (f8 ((2 : Int32) * (1024 : Nat).toInt32) ((0 : Int32) + (v0_6 p1 p2 p3 p4 p5 p6))).toNatClampNeg)))])
        by_cases c23 : (f6 (f4g_size (v0_9 p1 p2 p3 p4 p5 p6) (v0_8 p1 p2 p3 p4 p5 p6) (f4g_size (v0_7 p1 p2 p3 p4 p5 p6) (v0_6 p1 p2 p3 p4 p5 p6) (0 : Int32) f1_nb (w0_5 p1 p2 p3 p4 p5 p6) (1024 : Nat)) (f4g_nb (v0_7 p1 p2 p3 p4 p5 p6) (v0_6 p1 p2 p3 p4 p5 p6) (0 : Int32) f1_nb (w0_5 p1 p2 p3 p4 p5 p6) (1024 : Nat)) (w0_5 p1 p2 p3 p4 p5 p6) (f8 ((2 : Int32) * (1024 : Nat).toInt32) ((0 : Int32) + (v0_6 p1 p2 p3 p4 p5 p6))).toNatClampNeg)) = (v0_20 p1 p2 p3 p4 p5 p6)
        · refine Go.of (fun _ k => XS.icmpYes X22.here hx rfl (pc0 := 145) (pc' := 150) rfl (hb hby at_145) rfl (Jvm.Free.XT.ii_eq_t c23) (by decide) (by decide) k) ?_
          show Go p e below W T22 (mkF m 150 #[.val (.int p1), .val (.int p2), .val (.int p3), .val (.int p4), .val (.int p5), .val (.int p6), .val (.ref b1), .val (.int (v0_3 p1 p2 p3 p4 p5 p6)), .val (.int (v0_6 p1 p2 p3 p4 p5 p6)), .val (.int (v0_7 p1 p2 p3 p4 p5 p6)), .val (.int (v0_8 p1 p2 p3 p4 p5 p6)), .val (.int (v0_9 p1 p2 p3 p4 p5 p6)), .val (.ref b10), .val (.int (v0_17 p1 p2 p3 p4 p5 p6)), .val (.int (v0_20 p1 p2 p3 p4 p5 p6)), .unset, .unset, .unset] [])
          refine Go.of (fun _ k => XS.aload X22.here hx rfl (hb hby at_150) rfl rfl k) ?_
          show Go p e below W T22 (mkF m 152 #[.val (.int p1), .val (.int p2), .val (.int p3), .val (.int p4), .val (.int p5), .val (.int p6), .val (.ref b1), .val (.int (v0_3 p1 p2 p3 p4 p5 p6)), .val (.int (v0_6 p1 p2 p3 p4 p5 p6)), .val (.int (v0_7 p1 p2 p3 p4 p5 p6)), .val (.int (v0_8 p1 p2 p3 p4 p5 p6)), .val (.int (v0_9 p1 p2 p3 p4 p5 p6)), .val (.ref b10), .val (.int (v0_17 p1 p2 p3 p4 p5 p6)), .val (.int (v0_20 p1 p2 p3 p4 p5 p6)), .unset, .unset, .unset] [(.ref b10)])
          refine Go.callV X22 hx hZ hown (hw _ (List.mem_of_getElem? (i := 38) rfl)) (hw _ (List.mem_of_getElem? (i := 39) rfl)) (hw _ (List.mem_of_getElem? (i := 41) rfl)) (hw _ (List.mem_of_getElem? (i := 40) rfl)) (hw _ (List.mem_of_getElem? (i := 4) rfl)) (hw _ (List.mem_of_getElem? (i := 42) rfl)) (by decide) e22 E_b10 (rm7 l Z a0 hw [] b10 b19 T19.heap F_b10_bytes) (V := 0) (by decide) (by decide) (by decide) (by decide) (by rw [hml]; rfl) (argsL := []) (rest := []) rfl (lenOf pd____B rfl) rfl (Nat.le_of_ble_eq_true rfl) (hb hby at_152) ?_
          rintro T24 _ _ ⟨rfl, rfl, e24⟩ X24
          rw [List.append_nil] at X24
          show Go p e below W T24 (mkF m 155 #[.val (.int p1), .val (.int p2), .val (.int p3), .val (.int p4), .val (.int p5), .val (.int p6), .val (.ref b1), .val (.int (v0_3 p1 p2 p3 p4 p5 p6)), .val (.int (v0_6 p1 p2 p3 p4 p5 p6)), .val (.int (v0_7 p1 p2 p3 p4 p5 p6)), .val (.int (v0_8 p1 p2 p3 p4 p5 p6)), .val (.int (v0_9 p1 p2 p3 p4 p5 p6)), .val (.ref b10), .val (.int (v0_17 p1 p2 p3 p4 p5 p6)), .val (.int (v0_20 p1 p2 p3 p4 p5 p6)), .unset, .unset, .unset] [(.ref b19)])
          refine Go.of (fun _ k => XS.astore X24.here hx rfl (hb hby at_155) rfl rfl (l' := #[.val (.int p1), .val (.int p2), .val (.int p3), .val (.int p4), .val (.int p5), .val (.int p6), .val (.ref b1), .val (.int (v0_3 p1 p2 p3 p4 p5 p6)), .val (.int (v0_6 p1 p2 p3 p4 p5 p6)), .val (.int (v0_7 p1 p2 p3 p4 p5 p6)), .val (.int (v0_8 p1 p2 p3 p4 p5 p6)), .val (.int (v0_9 p1 p2 p3 p4 p5 p6)), .val (.ref b10), .val (.int (v0_17 p1 p2 p3 p4 p5 p6)), .val (.int (v0_20 p1 p2 p3 p4 p5 p6)), .val (.ref b19), .unset, .unset]) rfl k) ?_
          show Go p e below W T24 (mkF m 157 #[.val (.int p1), .val (.int p2), .val (.int p3), .val (.int p4), .val (.int p5), .val (.int p6), .val (.ref b1), .val (.int (v0_3 p1 p2 p3 p4 p5 p6)), .val (.int (v0_6 p1 p2 p3 p4 p5 p6)), .val (.int (v0_7 p1 p2 p3 p4 p5 p6)), .val (.int (v0_8 p1 p2 p3 p4 p5 p6)), .val (.int (v0_9 p1 p2 p3 p4 p5 p6)), .val (.ref b10), .val (.int (v0_17 p1 p2 p3 p4 p5 p6)), .val (.int (v0_20 p1 p2 p3 p4 p5 p6)), .val (.ref b19), .unset, .unset] [])
          refine Go.of (fun _ k => XS.aload X24.here hx rfl (hb hby at_157) rfl rfl k) ?_
          show Go p e below W T24 (mkF m 159 #[.val (.int p1), .val (.int p2), .val (.int p3), .val (.int p4), .val (.int p5), .val (.int p6), .val (.ref b1), .val (.int (v0_3 p1 p2 p3 p4 p5 p6)), .val (.int (v0_6 p1 p2 p3 p4 p5 p6)), .val (.int (v0_7 p1 p2 p3 p4 p5 p6)), .val (.int (v0_8 p1 p2 p3 p4 p5 p6)), .val (.int (v0_9 p1 p2 p3 p4 p5 p6)), .val (.ref b10), .val (.int (v0_17 p1 p2 p3 p4 p5 p6)), .val (.int (v0_20 p1 p2 p3 p4 p5 p6)), .val (.ref b19), .unset, .unset] [(.ref b19)])
          refine Go.alen X24 hx hZ e24 A_b19 (hb hby at_159) ?_
          show Go p e below W T24 (mkF m 160 #[.val (.int p1), .val (.int p2), .val (.int p3), .val (.int p4), .val (.int p5), .val (.int p6), .val (.ref b1), .val (.int (v0_3 p1 p2 p3 p4 p5 p6)), .val (.int (v0_6 p1 p2 p3 p4 p5 p6)), .val (.int (v0_7 p1 p2 p3 p4 p5 p6)), .val (.int (v0_8 p1 p2 p3 p4 p5 p6)), .val (.int (v0_9 p1 p2 p3 p4 p5 p6)), .val (.ref b10), .val (.int (v0_17 p1 p2 p3 p4 p5 p6)), .val (.int (v0_20 p1 p2 p3 p4 p5 p6)), .val (.ref b19), .unset, .unset] [(.int (f8 ((2 : Int32) * (f8 ((2 : Int32) * (1024 : Nat).toInt32) ((0 : Int32) + (v0_6 p1 p2 p3 p4 p5 p6))).toNatClampNeg.toInt32) ((f4g_size (v0_7 p1 p2 p3 p4 p5 p6) (v0_6 p1 p2 p3 p4 p5 p6) (0 : Int32) f1_nb (w0_5 p1 p2 p3 p4 p5 p6) (1024 : Nat)) + (v0_8 p1 p2 p3 p4 p5 p6))).toNatClampNeg.toInt32)])
          refine Go.of (fun _ k => XS.iload X24.here hx rfl (hb hby at_160) rfl k) ?_
          show Go p e below W T24 (mkF m 162 #[.val (.int p1), .val (.int p2), .val (.int p3), .val (.int p4), .val (.int p5), .val (.int p6), .val (.ref b1), .val (.int (v0_3 p1 p2 p3 p4 p5 p6)), .val (.int (v0_6 p1 p2 p3 p4 p5 p6)), .val (.int (v0_7 p1 p2 p3 p4 p5 p6)), .val (.int (v0_8 p1 p2 p3 p4 p5 p6)), .val (.int (v0_9 p1 p2 p3 p4 p5 p6)), .val (.ref b10), .val (.int (v0_17 p1 p2 p3 p4 p5 p6)), .val (.int (v0_20 p1 p2 p3 p4 p5 p6)), .val (.ref b19), .unset, .unset] [(.int (v0_20 p1 p2 p3 p4 p5 p6)), (.int (f8 ((2 : Int32) * (f8 ((2 : Int32) * (1024 : Nat).toInt32) ((0 : Int32) + (v0_6 p1 p2 p3 p4 p5 p6))).toNatClampNeg.toInt32) ((f4g_size (v0_7 p1 p2 p3 p4 p5 p6) (v0_6 p1 p2 p3 p4 p5 p6) (0 : Int32) f1_nb (w0_5 p1 p2 p3 p4 p5 p6) (1024 : Nat)) + (v0_8 p1 p2 p3 p4 p5 p6))).toNatClampNeg.toInt32)])
          by_cases c25 : (f8 ((2 : Int32) * (f8 ((2 : Int32) * (1024 : Nat).toInt32) ((0 : Int32) + (v0_6 p1 p2 p3 p4 p5 p6))).toNatClampNeg.toInt32) ((f4g_size (v0_7 p1 p2 p3 p4 p5 p6) (v0_6 p1 p2 p3 p4 p5 p6) (0 : Int32) f1_nb (w0_5 p1 p2 p3 p4 p5 p6) (1024 : Nat)) + (v0_8 p1 p2 p3 p4 p5 p6))).toNatClampNeg.toInt32 < (v0_20 p1 p2 p3 p4 p5 p6)
          · refine Go.of (fun _ k => XS.icmpNo X24.here hx rfl (hb hby at_162) rfl (Jvm.Free.XT.ii_ge_f c25) k) ?_
            show Go p e below W T24 (mkF m 165 #[.val (.int p1), .val (.int p2), .val (.int p3), .val (.int p4), .val (.int p5), .val (.int p6), .val (.ref b1), .val (.int (v0_3 p1 p2 p3 p4 p5 p6)), .val (.int (v0_6 p1 p2 p3 p4 p5 p6)), .val (.int (v0_7 p1 p2 p3 p4 p5 p6)), .val (.int (v0_8 p1 p2 p3 p4 p5 p6)), .val (.int (v0_9 p1 p2 p3 p4 p5 p6)), .val (.ref b10), .val (.int (v0_17 p1 p2 p3 p4 p5 p6)), .val (.int (v0_20 p1 p2 p3 p4 p5 p6)), .val (.ref b19), .unset, .unset] [])
            refine Go.of (fun _ k => XS.iconst X24.here hx rfl (hb hby at_165) k) ?_
            show Go p e below W T24 (mkF m 166 #[.val (.int p1), .val (.int p2), .val (.int p3), .val (.int p4), .val (.int p5), .val (.int p6), .val (.ref b1), .val (.int (v0_3 p1 p2 p3 p4 p5 p6)), .val (.int (v0_6 p1 p2 p3 p4 p5 p6)), .val (.int (v0_7 p1 p2 p3 p4 p5 p6)), .val (.int (v0_8 p1 p2 p3 p4 p5 p6)), .val (.int (v0_9 p1 p2 p3 p4 p5 p6)), .val (.ref b10), .val (.int (v0_17 p1 p2 p3 p4 p5 p6)), .val (.int (v0_20 p1 p2 p3 p4 p5 p6)), .val (.ref b19), .unset, .unset] [(.int (0 : Int32))])
            have u_f0 : (f0 p1 p2 p3 p4 p5 p6) = (0 : Int32) := by rw [f0, if_pos c12, if_pos c18, if_neg c21, if_pos c23, if_pos c25]
            have fin : Q0 Z p1 p2 p3 p4 p5 p6 h0 n0 (some (.int (f0 p1 p2 p3 p4 p5 p6))) T19.heap L19 := ⟨rfl, N, K⟩
            exact Go.retN X24 hx hret (Or.inl rfl) (hb hby at_166) hlk (Eq.trans rfl u_f0.symm) (fun t ht fe => hW t _ _ _ _ (by rw [ht, e24]; exact fin) fe (by decide) (by decide))
          · refine Go.of (fun _ k => XS.icmpYes X24.here hx rfl (pc0 := 162) (pc' := 167) rfl (hb hby at_162) rfl (Jvm.Free.XT.ii_ge_t c25) (by decide) (by decide) k) ?_
            show Go p e below W T24 (mkF m 167 #[.val (.int p1), .val (.int p2), .val (.int p3), .val (.int p4), .val (.int p5), .val (.int p6), .val (.ref b1), .val (.int (v0_3 p1 p2 p3 p4 p5 p6)), .val (.int (v0_6 p1 p2 p3 p4 p5 p6)), .val (.int (v0_7 p1 p2 p3 p4 p5 p6)), .val (.int (v0_8 p1 p2 p3 p4 p5 p6)), .val (.int (v0_9 p1 p2 p3 p4 p5 p6)), .val (.ref b10), .val (.int (v0_17 p1 p2 p3 p4 p5 p6)), .val (.int (v0_20 p1 p2 p3 p4 p5 p6)), .val (.ref b19), .unset, .unset] [])
            refine Go.of (fun _ k => XS.iload X24.here hx rfl (hb hby at_167) rfl k) ?_
            show Go p e below W T24 (mkF m 169 #[.val (.int p1), .val (.int p2), .val (.int p3), .val (.int p4), .val (.int p5), .val (.int p6), .val (.ref b1), .val (.int (v0_3 p1 p2 p3 p4 p5 p6)), .val (.int (v0_6 p1 p2 p3 p4 p5 p6)), .val (.int (v0_7 p1 p2 p3 p4 p5 p6)), .val (.int (v0_8 p1 p2 p3 p4 p5 p6)), .val (.int (v0_9 p1 p2 p3 p4 p5 p6)), .val (.ref b10), .val (.int (v0_17 p1 p2 p3 p4 p5 p6)), .val (.int (v0_20 p1 p2 p3 p4 p5 p6)), .val (.ref b19), .unset, .unset] [(.int (v0_20 p1 p2 p3 p4 p5 p6))])
            by_cases c26 : (v0_20 p1 p2 p3 p4 p5 p6) = (0 : Int32)
            · refine Go.of (fun _ k => XS.ifNo X24.here hx rfl (hb hby at_169) rfl (Jvm.Free.XT.i0_ne_f c26) k) ?_
              show Go p e below W T24 (mkF m 172 #[.val (.int p1), .val (.int p2), .val (.int p3), .val (.int p4), .val (.int p5), .val (.int p6), .val (.ref b1), .val (.int (v0_3 p1 p2 p3 p4 p5 p6)), .val (.int (v0_6 p1 p2 p3 p4 p5 p6)), .val (.int (v0_7 p1 p2 p3 p4 p5 p6)), .val (.int (v0_8 p1 p2 p3 p4 p5 p6)), .val (.int (v0_9 p1 p2 p3 p4 p5 p6)), .val (.ref b10), .val (.int (v0_17 p1 p2 p3 p4 p5 p6)), .val (.int (v0_20 p1 p2 p3 p4 p5 p6)), .val (.ref b19), .unset, .unset] [])
              refine Go.of (fun _ k => XS.iconst X24.here hx rfl (hb hby at_172) k) ?_
              show Go p e below W T24 (mkF m 173 #[.val (.int p1), .val (.int p2), .val (.int p3), .val (.int p4), .val (.int p5), .val (.int p6), .val (.ref b1), .val (.int (v0_3 p1 p2 p3 p4 p5 p6)), .val (.int (v0_6 p1 p2 p3 p4 p5 p6)), .val (.int (v0_7 p1 p2 p3 p4 p5 p6)), .val (.int (v0_8 p1 p2 p3 p4 p5 p6)), .val (.int (v0_9 p1 p2 p3 p4 p5 p6)), .val (.ref b10), .val (.int (v0_17 p1 p2 p3 p4 p5 p6)), .val (.int (v0_20 p1 p2 p3 p4 p5 p6)), .val (.ref b19), .unset, .unset] [(.int (1 : Int32))])
              have u_f0 : (f0 p1 p2 p3 p4 p5 p6) = (1 : Int32) := by rw [f0, if_pos c12, if_pos c18, if_neg c21, if_pos c23, if_neg c25, if_pos c26]
              have fin : Q0 Z p1 p2 p3 p4 p5 p6 h0 n0 (some (.int (f0 p1 p2 p3 p4 p5 p6))) T19.heap L19 := ⟨rfl, N, K⟩
              exact Go.retN X24 hx hret (Or.inl rfl) (hb hby at_173) hlk (Eq.trans rfl u_f0.symm) (fun t ht fe => hW t _ _ _ _ (by rw [ht, e24]; exact fin) fe (by decide) (by decide))
            · refine Go.of (fun _ k => XS.ifYes X24.here hx rfl (pc0 := 169) (pc' := 174) rfl (hb hby at_169) rfl (Jvm.Free.XT.i0_ne_t c26) (by decide) (by decide) k) ?_
              show Go p e below W T24 (mkF m 174 #[.val (.int p1), .val (.int p2), .val (.int p3), .val (.int p4), .val (.int p5), .val (.int p6), .val (.ref b1), .val (.int (v0_3 p1 p2 p3 p4 p5 p6)), .val (.int (v0_6 p1 p2 p3 p4 p5 p6)), .val (.int (v0_7 p1 p2 p3 p4 p5 p6)), .val (.int (v0_8 p1 p2 p3 p4 p5 p6)), .val (.int (v0_9 p1 p2 p3 p4 p5 p6)), .val (.ref b10), .val (.int (v0_17 p1 p2 p3 p4 p5 p6)), .val (.int (v0_20 p1 p2 p3 p4 p5 p6)), .val (.ref b19), .unset, .unset] [])
              refine Go.of (fun _ k => XS.iload X24.here hx rfl (hb hby at_174) rfl k) ?_
              show Go p e below W T24 (mkF m 176 #[.val (.int p1), .val (.int p2), .val (.int p3), .val (.int p4), .val (.int p5), .val (.int p6), .val (.ref b1), .val (.int (v0_3 p1 p2 p3 p4 p5 p6)), .val (.int (v0_6 p1 p2 p3 p4 p5 p6)), .val (.int (v0_7 p1 p2 p3 p4 p5 p6)), .val (.int (v0_8 p1 p2 p3 p4 p5 p6)), .val (.int (v0_9 p1 p2 p3 p4 p5 p6)), .val (.ref b10), .val (.int (v0_17 p1 p2 p3 p4 p5 p6)), .val (.int (v0_20 p1 p2 p3 p4 p5 p6)), .val (.ref b19), .unset, .unset] [(.int p5)])
              refine Go.of (fun _ k => X24.ldcI hx hown (mvT hZ (hw _ (List.mem_of_getElem? (i := 1) rfl))) rfl (hb hby at_176) k) ?_
              show Go p e below W T24 (mkF m 178 #[.val (.int p1), .val (.int p2), .val (.int p3), .val (.int p4), .val (.int p5), .val (.int p6), .val (.ref b1), .val (.int (v0_3 p1 p2 p3 p4 p5 p6)), .val (.int (v0_6 p1 p2 p3 p4 p5 p6)), .val (.int (v0_7 p1 p2 p3 p4 p5 p6)), .val (.int (v0_8 p1 p2 p3 p4 p5 p6)), .val (.int (v0_9 p1 p2 p3 p4 p5 p6)), .val (.ref b10), .val (.int (v0_17 p1 p2 p3 p4 p5 p6)), .val (.int (v0_20 p1 p2 p3 p4 p5 p6)), .val (.ref b19), .unset, .unset] [(.int (2147483647 : Int32)), (.int p5)])
              refine Go.of (fun _ k => XS.iand X24.here hx rfl (hb hby at_178) rfl k) ?_
              show Go p e below W T24 (mkF m 179 #[.val (.int p1), .val (.int p2), .val (.int p3), .val (.int p4), .val (.int p5), .val (.int p6), .val (.ref b1), .val (.int (v0_3 p1 p2 p3 p4 p5 p6)), .val (.int (v0_6 p1 p2 p3 p4 p5 p6)), .val (.int (v0_7 p1 p2 p3 p4 p5 p6)), .val (.int (v0_8 p1 p2 p3 p4 p5 p6)), .val (.int (v0_9 p1 p2 p3 p4 p5 p6)), .val (.ref b10), .val (.int (v0_17 p1 p2 p3 p4 p5 p6)), .val (.int (v0_20 p1 p2 p3 p4 p5 p6)), .val (.ref b19), .unset, .unset] [(.int (p5 &&& (2147483647 : Int32)))])
              refine Go.of (fun _ k => XS.iload X24.here hx rfl (hb hby at_179) rfl k) ?_
              show Go p e below W T24 (mkF m 181 #[.val (.int p1), .val (.int p2), .val (.int p3), .val (.int p4), .val (.int p5), .val (.int p6), .val (.ref b1), .val (.int (v0_3 p1 p2 p3 p4 p5 p6)), .val (.int (v0_6 p1 p2 p3 p4 p5 p6)), .val (.int (v0_7 p1 p2 p3 p4 p5 p6)), .val (.int (v0_8 p1 p2 p3 p4 p5 p6)), .val (.int (v0_9 p1 p2 p3 p4 p5 p6)), .val (.ref b10), .val (.int (v0_17 p1 p2 p3 p4 p5 p6)), .val (.int (v0_20 p1 p2 p3 p4 p5 p6)), .val (.ref b19), .unset, .unset] [(.int (v0_20 p1 p2 p3 p4 p5 p6)), (.int (p5 &&& (2147483647 : Int32)))])
              refine Go.of (fun _ k => iremM X24 hx rfl (hb hby at_181) rfl c26 k) ?_
              show Go p e below W T24 (mkF m 182 #[.val (.int p1), .val (.int p2), .val (.int p3), .val (.int p4), .val (.int p5), .val (.int p6), .val (.ref b1), .val (.int (v0_3 p1 p2 p3 p4 p5 p6)), .val (.int (v0_6 p1 p2 p3 p4 p5 p6)), .val (.int (v0_7 p1 p2 p3 p4 p5 p6)), .val (.int (v0_8 p1 p2 p3 p4 p5 p6)), .val (.int (v0_9 p1 p2 p3 p4 p5 p6)), .val (.ref b10), .val (.int (v0_17 p1 p2 p3 p4 p5 p6)), .val (.int (v0_20 p1 p2 p3 p4 p5 p6)), .val (.ref b19), .unset, .unset] [(.int ((p5 &&& (2147483647 : Int32)) % (v0_20 p1 p2 p3 p4 p5 p6)))])
              refine Go.of (fun _ k => XS.istore X24.here hx rfl (hb hby at_182) rfl (l' := #[.val (.int p1), .val (.int p2), .val (.int p3), .val (.int p4), .val (.int p5), .val (.int p6), .val (.ref b1), .val (.int (v0_3 p1 p2 p3 p4 p5 p6)), .val (.int (v0_6 p1 p2 p3 p4 p5 p6)), .val (.int (v0_7 p1 p2 p3 p4 p5 p6)), .val (.int (v0_8 p1 p2 p3 p4 p5 p6)), .val (.int (v0_9 p1 p2 p3 p4 p5 p6)), .val (.ref b10), .val (.int (v0_17 p1 p2 p3 p4 p5 p6)), .val (.int (v0_20 p1 p2 p3 p4 p5 p6)), .val (.ref b19), .val (.int (v0_27 p1 p2 p3 p4 p5 p6)), .unset]) rfl k) ?_
              show Go p e below W T24 (mkF m 184 #[.val (.int p1), .val (.int p2), .val (.int p3), .val (.int p4), .val (.int p5), .val (.int p6), .val (.ref b1), .val (.int (v0_3 p1 p2 p3 p4 p5 p6)), .val (.int (v0_6 p1 p2 p3 p4 p5 p6)), .val (.int (v0_7 p1 p2 p3 p4 p5 p6)), .val (.int (v0_8 p1 p2 p3 p4 p5 p6)), .val (.int (v0_9 p1 p2 p3 p4 p5 p6)), .val (.ref b10), .val (.int (v0_17 p1 p2 p3 p4 p5 p6)), .val (.int (v0_20 p1 p2 p3 p4 p5 p6)), .val (.ref b19), .val (.int (v0_27 p1 p2 p3 p4 p5 p6)), .unset] [])
              refine Go.of (fun _ k => XS.iload X24.here hx rfl (hb hby at_184) rfl k) ?_
              show Go p e below W T24 (mkF m 186 #[.val (.int p1), .val (.int p2), .val (.int p3), .val (.int p4), .val (.int p5), .val (.int p6), .val (.ref b1), .val (.int (v0_3 p1 p2 p3 p4 p5 p6)), .val (.int (v0_6 p1 p2 p3 p4 p5 p6)), .val (.int (v0_7 p1 p2 p3 p4 p5 p6)), .val (.int (v0_8 p1 p2 p3 p4 p5 p6)), .val (.int (v0_9 p1 p2 p3 p4 p5 p6)), .val (.ref b10), .val (.int (v0_17 p1 p2 p3 p4 p5 p6)), .val (.int (v0_20 p1 p2 p3 p4 p5 p6)), .val (.ref b19), .val (.int (v0_27 p1 p2 p3 p4 p5 p6)), .unset] [(.int (v0_27 p1 p2 p3 p4 p5 p6))])
              refine Go.of (fun _ k => XS.iload X24.here hx rfl (hb hby at_186) rfl k) ?_
              show Go p e below W T24 (mkF m 188 #[.val (.int p1), .val (.int p2), .val (.int p3), .val (.int p4), .val (.int p5), .val (.int p6), .val (.ref b1), .val (.int (v0_3 p1 p2 p3 p4 p5 p6)), .val (.int (v0_6 p1 p2 p3 p4 p5 p6)), .val (.int (v0_7 p1 p2 p3 p4 p5 p6)), .val (.int (v0_8 p1 p2 p3 p4 p5 p6)), .val (.int (v0_9 p1 p2 p3 p4 p5 p6)), .val (.ref b10), .val (.int (v0_17 p1 p2 p3 p4 p5 p6)), .val (.int (v0_20 p1 p2 p3 p4 p5 p6)), .val (.ref b19), .val (.int (v0_27 p1 p2 p3 p4 p5 p6)), .unset] [(.int (v0_6 p1 p2 p3 p4 p5 p6)), (.int (v0_27 p1 p2 p3 p4 p5 p6))])
              suffices G29 : ∀ T', Stand p l e room_1 s m #[(.int p1), (.int p2), (.int p3), (.int p4), (.int p5), (.int p6)] below meth c T' L19 5 12026 → T'.heap = T19.heap → Go p e below W T' (mkF m 213 #[.val (.int p1), .val (.int p2), .val (.int p3), .val (.int p4), .val (.int p5), .val (.int p6), .val (.ref b1), .val (.int (v0_3 p1 p2 p3 p4 p5 p6)), .val (.int (v0_6 p1 p2 p3 p4 p5 p6)), .val (.int (v0_7 p1 p2 p3 p4 p5 p6)), .val (.int (v0_8 p1 p2 p3 p4 p5 p6)), .val (.int (v0_9 p1 p2 p3 p4 p5 p6)), .val (.ref b10), .val (.int (v0_17 p1 p2 p3 p4 p5 p6)), .val (.int (v0_20 p1 p2 p3 p4 p5 p6)), .val (.ref b19), .val (.int (v0_27 p1 p2 p3 p4 p5 p6)), .unset] [(.int (v0_30 p1 p2 p3 p4 p5 p6))]) by
                by_cases c28 : (v0_27 p1 p2 p3 p4 p5 p6) < (v0_6 p1 p2 p3 p4 p5 p6)
                · refine Go.of (fun _ k => XS.icmpNo X24.here hx rfl (hb hby at_188) rfl (Jvm.Free.XT.ii_ge_f c28) k) ?_
                  show Go p e below W T24 (mkF m 191 #[.val (.int p1), .val (.int p2), .val (.int p3), .val (.int p4), .val (.int p5), .val (.int p6), .val (.ref b1), .val (.int (v0_3 p1 p2 p3 p4 p5 p6)), .val (.int (v0_6 p1 p2 p3 p4 p5 p6)), .val (.int (v0_7 p1 p2 p3 p4 p5 p6)), .val (.int (v0_8 p1 p2 p3 p4 p5 p6)), .val (.int (v0_9 p1 p2 p3 p4 p5 p6)), .val (.ref b10), .val (.int (v0_17 p1 p2 p3 p4 p5 p6)), .val (.int (v0_20 p1 p2 p3 p4 p5 p6)), .val (.ref b19), .val (.int (v0_27 p1 p2 p3 p4 p5 p6)), .unset] [])
                  refine Go.of (fun _ k => XS.aload X24.here hx rfl (hb hby at_191) rfl rfl k) ?_
                  show Go p e below W T24 (mkF m 193 #[.val (.int p1), .val (.int p2), .val (.int p3), .val (.int p4), .val (.int p5), .val (.int p6), .val (.ref b1), .val (.int (v0_3 p1 p2 p3 p4 p5 p6)), .val (.int (v0_6 p1 p2 p3 p4 p5 p6)), .val (.int (v0_7 p1 p2 p3 p4 p5 p6)), .val (.int (v0_8 p1 p2 p3 p4 p5 p6)), .val (.int (v0_9 p1 p2 p3 p4 p5 p6)), .val (.ref b10), .val (.int (v0_17 p1 p2 p3 p4 p5 p6)), .val (.int (v0_20 p1 p2 p3 p4 p5 p6)), .val (.ref b19), .val (.int (v0_27 p1 p2 p3 p4 p5 p6)), .unset] [(.ref b1)])
                  refine Go.of (fun _ k => XS.iload X24.here hx rfl (hb hby at_193) rfl k) ?_
                  show Go p e below W T24 (mkF m 195 #[.val (.int p1), .val (.int p2), .val (.int p3), .val (.int p4), .val (.int p5), .val (.int p6), .val (.ref b1), .val (.int (v0_3 p1 p2 p3 p4 p5 p6)), .val (.int (v0_6 p1 p2 p3 p4 p5 p6)), .val (.int (v0_7 p1 p2 p3 p4 p5 p6)), .val (.int (v0_8 p1 p2 p3 p4 p5 p6)), .val (.int (v0_9 p1 p2 p3 p4 p5 p6)), .val (.ref b10), .val (.int (v0_17 p1 p2 p3 p4 p5 p6)), .val (.int (v0_20 p1 p2 p3 p4 p5 p6)), .val (.ref b19), .val (.int (v0_27 p1 p2 p3 p4 p5 p6)), .unset] [(.int (v0_7 p1 p2 p3 p4 p5 p6)), (.ref b1)])
                  refine Go.of (fun _ k => XS.iload X24.here hx rfl (hb hby at_195) rfl k) ?_
                  show Go p e below W T24 (mkF m 197 #[.val (.int p1), .val (.int p2), .val (.int p3), .val (.int p4), .val (.int p5), .val (.int p6), .val (.ref b1), .val (.int (v0_3 p1 p2 p3 p4 p5 p6)), .val (.int (v0_6 p1 p2 p3 p4 p5 p6)), .val (.int (v0_7 p1 p2 p3 p4 p5 p6)), .val (.int (v0_8 p1 p2 p3 p4 p5 p6)), .val (.int (v0_9 p1 p2 p3 p4 p5 p6)), .val (.ref b10), .val (.int (v0_17 p1 p2 p3 p4 p5 p6)), .val (.int (v0_20 p1 p2 p3 p4 p5 p6)), .val (.ref b19), .val (.int (v0_27 p1 p2 p3 p4 p5 p6)), .unset] [(.int (v0_27 p1 p2 p3 p4 p5 p6)), (.int (v0_7 p1 p2 p3 p4 p5 p6)), (.ref b1)])
                  refine Go.of (fun _ k => XS.iadd X24.here hx rfl (hb hby at_197) rfl k) ?_
                  show Go p e below W T24 (mkF m 198 #[.val (.int p1), .val (.int p2), .val (.int p3), .val (.int p4), .val (.int p5), .val (.int p6), .val (.ref b1), .val (.int (v0_3 p1 p2 p3 p4 p5 p6)), .val (.int (v0_6 p1 p2 p3 p4 p5 p6)), .val (.int (v0_7 p1 p2 p3 p4 p5 p6)), .val (.int (v0_8 p1 p2 p3 p4 p5 p6)), .val (.int (v0_9 p1 p2 p3 p4 p5 p6)), .val (.ref b10), .val (.int (v0_17 p1 p2 p3 p4 p5 p6)), .val (.int (v0_20 p1 p2 p3 p4 p5 p6)), .val (.ref b19), .val (.int (v0_27 p1 p2 p3 p4 p5 p6)), .unset] [(.int ((v0_7 p1 p2 p3 p4 p5 p6) + (v0_27 p1 p2 p3 p4 p5 p6))), (.ref b1)])
                  refine Go.bald X24 hx hZ e24 A_b1 (own_ia p1 p2 p3 p4 p5 p6 c26 c28) (hb hby at_198) ?_
                  show Go p e below W T24 (mkF m 199 #[.val (.int p1), .val (.int p2), .val (.int p3), .val (.int p4), .val (.int p5), .val (.int p6), .val (.ref b1), .val (.int (v0_3 p1 p2 p3 p4 p5 p6)), .val (.int (v0_6 p1 p2 p3 p4 p5 p6)), .val (.int (v0_7 p1 p2 p3 p4 p5 p6)), .val (.int (v0_8 p1 p2 p3 p4 p5 p6)), .val (.int (v0_9 p1 p2 p3 p4 p5 p6)), .val (.ref b10), .val (.int (v0_17 p1 p2 p3 p4 p5 p6)), .val (.int (v0_20 p1 p2 p3 p4 p5 p6)), .val (.ref b19), .val (.int (v0_27 p1 p2 p3 p4 p5 p6)), .unset] [(.int (w0_5 p1 p2 p3 p4 p5 p6 ((v0_7 p1 p2 p3 p4 p5 p6) + (v0_27 p1 p2 p3 p4 p5 p6)).toNatClampNeg))])
                  refine Go.of (fun _ k => XS.goto X24.here hx rfl (pc0 := 199) (pc' := 213) rfl (hb hby at_199) (by decide) (by decide) k) ?_
                  have G29 := G29
                  have q_v0_30 : (v0_30 p1 p2 p3 p4 p5 p6) = (w0_5 p1 p2 p3 p4 p5 p6 ((v0_7 p1 p2 p3 p4 p5 p6) + (v0_27 p1 p2 p3 p4 p5 p6)).toNatClampNeg) := by rw [v0_30, if_pos c28]
                  rw [q_v0_30] at G29
                  exact G29 _ X24 e24
                · refine Go.of (fun _ k => XS.icmpYes X24.here hx rfl (pc0 := 188) (pc' := 202) rfl (hb hby at_188) rfl (Jvm.Free.XT.ii_ge_t c28) (by decide) (by decide) k) ?_
                  show Go p e below W T24 (mkF m 202 #[.val (.int p1), .val (.int p2), .val (.int p3), .val (.int p4), .val (.int p5), .val (.int p6), .val (.ref b1), .val (.int (v0_3 p1 p2 p3 p4 p5 p6)), .val (.int (v0_6 p1 p2 p3 p4 p5 p6)), .val (.int (v0_7 p1 p2 p3 p4 p5 p6)), .val (.int (v0_8 p1 p2 p3 p4 p5 p6)), .val (.int (v0_9 p1 p2 p3 p4 p5 p6)), .val (.ref b10), .val (.int (v0_17 p1 p2 p3 p4 p5 p6)), .val (.int (v0_20 p1 p2 p3 p4 p5 p6)), .val (.ref b19), .val (.int (v0_27 p1 p2 p3 p4 p5 p6)), .unset] [])
                  refine Go.of (fun _ k => XS.aload X24.here hx rfl (hb hby at_202) rfl rfl k) ?_
                  show Go p e below W T24 (mkF m 204 #[.val (.int p1), .val (.int p2), .val (.int p3), .val (.int p4), .val (.int p5), .val (.int p6), .val (.ref b1), .val (.int (v0_3 p1 p2 p3 p4 p5 p6)), .val (.int (v0_6 p1 p2 p3 p4 p5 p6)), .val (.int (v0_7 p1 p2 p3 p4 p5 p6)), .val (.int (v0_8 p1 p2 p3 p4 p5 p6)), .val (.int (v0_9 p1 p2 p3 p4 p5 p6)), .val (.ref b10), .val (.int (v0_17 p1 p2 p3 p4 p5 p6)), .val (.int (v0_20 p1 p2 p3 p4 p5 p6)), .val (.ref b19), .val (.int (v0_27 p1 p2 p3 p4 p5 p6)), .unset] [(.ref b1)])
                  refine Go.of (fun _ k => XS.iload X24.here hx rfl (hb hby at_204) rfl k) ?_
                  show Go p e below W T24 (mkF m 206 #[.val (.int p1), .val (.int p2), .val (.int p3), .val (.int p4), .val (.int p5), .val (.int p6), .val (.ref b1), .val (.int (v0_3 p1 p2 p3 p4 p5 p6)), .val (.int (v0_6 p1 p2 p3 p4 p5 p6)), .val (.int (v0_7 p1 p2 p3 p4 p5 p6)), .val (.int (v0_8 p1 p2 p3 p4 p5 p6)), .val (.int (v0_9 p1 p2 p3 p4 p5 p6)), .val (.ref b10), .val (.int (v0_17 p1 p2 p3 p4 p5 p6)), .val (.int (v0_20 p1 p2 p3 p4 p5 p6)), .val (.ref b19), .val (.int (v0_27 p1 p2 p3 p4 p5 p6)), .unset] [(.int (v0_9 p1 p2 p3 p4 p5 p6)), (.ref b1)])
                  refine Go.of (fun _ k => XS.iload X24.here hx rfl (hb hby at_206) rfl k) ?_
                  show Go p e below W T24 (mkF m 208 #[.val (.int p1), .val (.int p2), .val (.int p3), .val (.int p4), .val (.int p5), .val (.int p6), .val (.ref b1), .val (.int (v0_3 p1 p2 p3 p4 p5 p6)), .val (.int (v0_6 p1 p2 p3 p4 p5 p6)), .val (.int (v0_7 p1 p2 p3 p4 p5 p6)), .val (.int (v0_8 p1 p2 p3 p4 p5 p6)), .val (.int (v0_9 p1 p2 p3 p4 p5 p6)), .val (.ref b10), .val (.int (v0_17 p1 p2 p3 p4 p5 p6)), .val (.int (v0_20 p1 p2 p3 p4 p5 p6)), .val (.ref b19), .val (.int (v0_27 p1 p2 p3 p4 p5 p6)), .unset] [(.int (v0_27 p1 p2 p3 p4 p5 p6)), (.int (v0_9 p1 p2 p3 p4 p5 p6)), (.ref b1)])
                  refine Go.of (fun _ k => XS.iadd X24.here hx rfl (hb hby at_208) rfl k) ?_
                  show Go p e below W T24 (mkF m 209 #[.val (.int p1), .val (.int p2), .val (.int p3), .val (.int p4), .val (.int p5), .val (.int p6), .val (.ref b1), .val (.int (v0_3 p1 p2 p3 p4 p5 p6)), .val (.int (v0_6 p1 p2 p3 p4 p5 p6)), .val (.int (v0_7 p1 p2 p3 p4 p5 p6)), .val (.int (v0_8 p1 p2 p3 p4 p5 p6)), .val (.int (v0_9 p1 p2 p3 p4 p5 p6)), .val (.ref b10), .val (.int (v0_17 p1 p2 p3 p4 p5 p6)), .val (.int (v0_20 p1 p2 p3 p4 p5 p6)), .val (.ref b19), .val (.int (v0_27 p1 p2 p3 p4 p5 p6)), .unset] [(.int ((v0_9 p1 p2 p3 p4 p5 p6) + (v0_27 p1 p2 p3 p4 p5 p6))), (.ref b1)])
                  refine Go.of (fun _ k => XS.iload X24.here hx rfl (hb hby at_209) rfl k) ?_
                  show Go p e below W T24 (mkF m 211 #[.val (.int p1), .val (.int p2), .val (.int p3), .val (.int p4), .val (.int p5), .val (.int p6), .val (.ref b1), .val (.int (v0_3 p1 p2 p3 p4 p5 p6)), .val (.int (v0_6 p1 p2 p3 p4 p5 p6)), .val (.int (v0_7 p1 p2 p3 p4 p5 p6)), .val (.int (v0_8 p1 p2 p3 p4 p5 p6)), .val (.int (v0_9 p1 p2 p3 p4 p5 p6)), .val (.ref b10), .val (.int (v0_17 p1 p2 p3 p4 p5 p6)), .val (.int (v0_20 p1 p2 p3 p4 p5 p6)), .val (.ref b19), .val (.int (v0_27 p1 p2 p3 p4 p5 p6)), .unset] [(.int (v0_6 p1 p2 p3 p4 p5 p6)), (.int ((v0_9 p1 p2 p3 p4 p5 p6) + (v0_27 p1 p2 p3 p4 p5 p6))), (.ref b1)])
                  refine Go.of (fun _ k => XS.isub X24.here hx rfl (hb hby at_211) rfl k) ?_
                  show Go p e below W T24 (mkF m 212 #[.val (.int p1), .val (.int p2), .val (.int p3), .val (.int p4), .val (.int p5), .val (.int p6), .val (.ref b1), .val (.int (v0_3 p1 p2 p3 p4 p5 p6)), .val (.int (v0_6 p1 p2 p3 p4 p5 p6)), .val (.int (v0_7 p1 p2 p3 p4 p5 p6)), .val (.int (v0_8 p1 p2 p3 p4 p5 p6)), .val (.int (v0_9 p1 p2 p3 p4 p5 p6)), .val (.ref b10), .val (.int (v0_17 p1 p2 p3 p4 p5 p6)), .val (.int (v0_20 p1 p2 p3 p4 p5 p6)), .val (.ref b19), .val (.int (v0_27 p1 p2 p3 p4 p5 p6)), .unset] [(.int (((v0_9 p1 p2 p3 p4 p5 p6) + (v0_27 p1 p2 p3 p4 p5 p6)) - (v0_6 p1 p2 p3 p4 p5 p6))), (.ref b1)])
                  refine Go.bald X24 hx hZ e24 A_b1 (own_ib p1 p2 p3 p4 p5 p6 c26 c28) (hb hby at_212) ?_
                  have G29 := G29
                  have q_v0_30 : (v0_30 p1 p2 p3 p4 p5 p6) = (w0_5 p1 p2 p3 p4 p5 p6 (((v0_9 p1 p2 p3 p4 p5 p6) + (v0_27 p1 p2 p3 p4 p5 p6)) - (v0_6 p1 p2 p3 p4 p5 p6)).toNatClampNeg) := by rw [v0_30, if_neg c28]
                  rw [q_v0_30] at G29
                  exact G29 _ X24 e24
              intro T29 X29 e29
              show Go p e below W T29 (mkF m 213 #[.val (.int p1), .val (.int p2), .val (.int p3), .val (.int p4), .val (.int p5), .val (.int p6), .val (.ref b1), .val (.int (v0_3 p1 p2 p3 p4 p5 p6)), .val (.int (v0_6 p1 p2 p3 p4 p5 p6)), .val (.int (v0_7 p1 p2 p3 p4 p5 p6)), .val (.int (v0_8 p1 p2 p3 p4 p5 p6)), .val (.int (v0_9 p1 p2 p3 p4 p5 p6)), .val (.ref b10), .val (.int (v0_17 p1 p2 p3 p4 p5 p6)), .val (.int (v0_20 p1 p2 p3 p4 p5 p6)), .val (.ref b19), .val (.int (v0_27 p1 p2 p3 p4 p5 p6)), .unset] [(.int (v0_30 p1 p2 p3 p4 p5 p6))])
              refine Go.of (fun _ k => XS.istore X29.here hx rfl (hb hby at_213) rfl (l' := #[.val (.int p1), .val (.int p2), .val (.int p3), .val (.int p4), .val (.int p5), .val (.int p6), .val (.ref b1), .val (.int (v0_3 p1 p2 p3 p4 p5 p6)), .val (.int (v0_6 p1 p2 p3 p4 p5 p6)), .val (.int (v0_7 p1 p2 p3 p4 p5 p6)), .val (.int (v0_8 p1 p2 p3 p4 p5 p6)), .val (.int (v0_9 p1 p2 p3 p4 p5 p6)), .val (.ref b10), .val (.int (v0_17 p1 p2 p3 p4 p5 p6)), .val (.int (v0_20 p1 p2 p3 p4 p5 p6)), .val (.ref b19), .val (.int (v0_27 p1 p2 p3 p4 p5 p6)), .val (.int (v0_30 p1 p2 p3 p4 p5 p6))]) rfl k) ?_
              show Go p e below W T29 (mkF m 215 #[.val (.int p1), .val (.int p2), .val (.int p3), .val (.int p4), .val (.int p5), .val (.int p6), .val (.ref b1), .val (.int (v0_3 p1 p2 p3 p4 p5 p6)), .val (.int (v0_6 p1 p2 p3 p4 p5 p6)), .val (.int (v0_7 p1 p2 p3 p4 p5 p6)), .val (.int (v0_8 p1 p2 p3 p4 p5 p6)), .val (.int (v0_9 p1 p2 p3 p4 p5 p6)), .val (.ref b10), .val (.int (v0_17 p1 p2 p3 p4 p5 p6)), .val (.int (v0_20 p1 p2 p3 p4 p5 p6)), .val (.ref b19), .val (.int (v0_27 p1 p2 p3 p4 p5 p6)), .val (.int (v0_30 p1 p2 p3 p4 p5 p6))] [])
              refine Go.of (fun _ k => XS.aload X29.here hx rfl (hb hby at_215) rfl rfl k) ?_
              show Go p e below W T29 (mkF m 217 #[.val (.int p1), .val (.int p2), .val (.int p3), .val (.int p4), .val (.int p5), .val (.int p6), .val (.ref b1), .val (.int (v0_3 p1 p2 p3 p4 p5 p6)), .val (.int (v0_6 p1 p2 p3 p4 p5 p6)), .val (.int (v0_7 p1 p2 p3 p4 p5 p6)), .val (.int (v0_8 p1 p2 p3 p4 p5 p6)), .val (.int (v0_9 p1 p2 p3 p4 p5 p6)), .val (.ref b10), .val (.int (v0_17 p1 p2 p3 p4 p5 p6)), .val (.int (v0_20 p1 p2 p3 p4 p5 p6)), .val (.ref b19), .val (.int (v0_27 p1 p2 p3 p4 p5 p6)), .val (.int (v0_30 p1 p2 p3 p4 p5 p6))] [(.ref b19)])
              refine Go.of (fun _ k => XS.iload X29.here hx rfl (hb hby at_217) rfl k) ?_
              show Go p e below W T29 (mkF m 219 #[.val (.int p1), .val (.int p2), .val (.int p3), .val (.int p4), .val (.int p5), .val (.int p6), .val (.ref b1), .val (.int (v0_3 p1 p2 p3 p4 p5 p6)), .val (.int (v0_6 p1 p2 p3 p4 p5 p6)), .val (.int (v0_7 p1 p2 p3 p4 p5 p6)), .val (.int (v0_8 p1 p2 p3 p4 p5 p6)), .val (.int (v0_9 p1 p2 p3 p4 p5 p6)), .val (.ref b10), .val (.int (v0_17 p1 p2 p3 p4 p5 p6)), .val (.int (v0_20 p1 p2 p3 p4 p5 p6)), .val (.ref b19), .val (.int (v0_27 p1 p2 p3 p4 p5 p6)), .val (.int (v0_30 p1 p2 p3 p4 p5 p6))] [(.int (v0_27 p1 p2 p3 p4 p5 p6)), (.ref b19)])
              refine Go.bald X29 hx hZ e29 A_b19 (own_ic p1 p2 p3 p4 p5 p6 A_b19.small c25 c26) (hb hby at_219) ?_
              show Go p e below W T29 (mkF m 220 #[.val (.int p1), .val (.int p2), .val (.int p3), .val (.int p4), .val (.int p5), .val (.int p6), .val (.ref b1), .val (.int (v0_3 p1 p2 p3 p4 p5 p6)), .val (.int (v0_6 p1 p2 p3 p4 p5 p6)), .val (.int (v0_7 p1 p2 p3 p4 p5 p6)), .val (.int (v0_8 p1 p2 p3 p4 p5 p6)), .val (.int (v0_9 p1 p2 p3 p4 p5 p6)), .val (.ref b10), .val (.int (v0_17 p1 p2 p3 p4 p5 p6)), .val (.int (v0_20 p1 p2 p3 p4 p5 p6)), .val (.ref b19), .val (.int (v0_27 p1 p2 p3 p4 p5 p6)), .val (.int (v0_30 p1 p2 p3 p4 p5 p6))] [(.int ((f4g_nb (v0_9 p1 p2 p3 p4 p5 p6) (v0_8 p1 p2 p3 p4 p5 p6) (f4g_size (v0_7 p1 p2 p3 p4 p5 p6) (v0_6 p1 p2 p3 p4 p5 p6) (0 : Int32) f1_nb (w0_5 p1 p2 p3 p4 p5 p6) (1024 : Nat)) (f4g_nb (v0_7 p1 p2 p3 p4 p5 p6) (v0_6 p1 p2 p3 p4 p5 p6) (0 : Int32) f1_nb (w0_5 p1 p2 p3 p4 p5 p6) (1024 : Nat)) (w0_5 p1 p2 p3 p4 p5 p6) (f8 ((2 : Int32) * (1024 : Nat).toInt32) ((0 : Int32) + (v0_6 p1 p2 p3 p4 p5 p6))).toNatClampNeg) (v0_27 p1 p2 p3 p4 p5 p6).toNatClampNeg))])
              refine Go.of (fun _ k => XS.iload X29.here hx rfl (hb hby at_220) rfl k) ?_
              show Go p e below W T29 (mkF m 222 #[.val (.int p1), .val (.int p2), .val (.int p3), .val (.int p4), .val (.int p5), .val (.int p6), .val (.ref b1), .val (.int (v0_3 p1 p2 p3 p4 p5 p6)), .val (.int (v0_6 p1 p2 p3 p4 p5 p6)), .val (.int (v0_7 p1 p2 p3 p4 p5 p6)), .val (.int (v0_8 p1 p2 p3 p4 p5 p6)), .val (.int (v0_9 p1 p2 p3 p4 p5 p6)), .val (.ref b10), .val (.int (v0_17 p1 p2 p3 p4 p5 p6)), .val (.int (v0_20 p1 p2 p3 p4 p5 p6)), .val (.ref b19), .val (.int (v0_27 p1 p2 p3 p4 p5 p6)), .val (.int (v0_30 p1 p2 p3 p4 p5 p6))] [(.int (v0_30 p1 p2 p3 p4 p5 p6)), (.int ((f4g_nb (v0_9 p1 p2 p3 p4 p5 p6) (v0_8 p1 p2 p3 p4 p5 p6) (f4g_size (v0_7 p1 p2 p3 p4 p5 p6) (v0_6 p1 p2 p3 p4 p5 p6) (0 : Int32) f1_nb (w0_5 p1 p2 p3 p4 p5 p6) (1024 : Nat)) (f4g_nb (v0_7 p1 p2 p3 p4 p5 p6) (v0_6 p1 p2 p3 p4 p5 p6) (0 : Int32) f1_nb (w0_5 p1 p2 p3 p4 p5 p6) (1024 : Nat)) (w0_5 p1 p2 p3 p4 p5 p6) (f8 ((2 : Int32) * (1024 : Nat).toInt32) ((0 : Int32) + (v0_6 p1 p2 p3 p4 p5 p6))).toNatClampNeg) (v0_27 p1 p2 p3 p4 p5 p6).toNatClampNeg))])
              by_cases c31 : ((f4g_nb (v0_9 p1 p2 p3 p4 p5 p6) (v0_8 p1 p2 p3 p4 p5 p6) (f4g_size (v0_7 p1 p2 p3 p4 p5 p6) (v0_6 p1 p2 p3 p4 p5 p6) (0 : Int32) f1_nb (w0_5 p1 p2 p3 p4 p5 p6) (1024 : Nat)) (f4g_nb (v0_7 p1 p2 p3 p4 p5 p6) (v0_6 p1 p2 p3 p4 p5 p6) (0 : Int32) f1_nb (w0_5 p1 p2 p3 p4 p5 p6) (1024 : Nat)) (w0_5 p1 p2 p3 p4 p5 p6) (f8 ((2 : Int32) * (1024 : Nat).toInt32) ((0 : Int32) + (v0_6 p1 p2 p3 p4 p5 p6))).toNatClampNeg) (v0_27 p1 p2 p3 p4 p5 p6).toNatClampNeg) = (v0_30 p1 p2 p3 p4 p5 p6)
              · refine Go.of (fun _ k => XS.icmpNo X29.here hx rfl (hb hby at_222) rfl (Jvm.Free.XT.ii_ne_f c31) k) ?_
                show Go p e below W T29 (mkF m 225 #[.val (.int p1), .val (.int p2), .val (.int p3), .val (.int p4), .val (.int p5), .val (.int p6), .val (.ref b1), .val (.int (v0_3 p1 p2 p3 p4 p5 p6)), .val (.int (v0_6 p1 p2 p3 p4 p5 p6)), .val (.int (v0_7 p1 p2 p3 p4 p5 p6)), .val (.int (v0_8 p1 p2 p3 p4 p5 p6)), .val (.int (v0_9 p1 p2 p3 p4 p5 p6)), .val (.ref b10), .val (.int (v0_17 p1 p2 p3 p4 p5 p6)), .val (.int (v0_20 p1 p2 p3 p4 p5 p6)), .val (.ref b19), .val (.int (v0_27 p1 p2 p3 p4 p5 p6)), .val (.int (v0_30 p1 p2 p3 p4 p5 p6))] [])
                refine Go.of (fun _ k => XS.iconst X29.here hx rfl (hb hby at_225) k) ?_
                show Go p e below W T29 (mkF m 226 #[.val (.int p1), .val (.int p2), .val (.int p3), .val (.int p4), .val (.int p5), .val (.int p6), .val (.ref b1), .val (.int (v0_3 p1 p2 p3 p4 p5 p6)), .val (.int (v0_6 p1 p2 p3 p4 p5 p6)), .val (.int (v0_7 p1 p2 p3 p4 p5 p6)), .val (.int (v0_8 p1 p2 p3 p4 p5 p6)), .val (.int (v0_9 p1 p2 p3 p4 p5 p6)), .val (.ref b10), .val (.int (v0_17 p1 p2 p3 p4 p5 p6)), .val (.int (v0_20 p1 p2 p3 p4 p5 p6)), .val (.ref b19), .val (.int (v0_27 p1 p2 p3 p4 p5 p6)), .val (.int (v0_30 p1 p2 p3 p4 p5 p6))] [(.int (1 : Int32))])
                refine Go.of (fun _ k => XS.goto X29.here hx rfl (pc0 := 226) (pc' := 230) rfl (hb hby at_226) (by decide) (by decide) k) ?_
                show Go p e below W T29 (mkF m 230 #[.val (.int p1), .val (.int p2), .val (.int p3), .val (.int p4), .val (.int p5), .val (.int p6), .val (.ref b1), .val (.int (v0_3 p1 p2 p3 p4 p5 p6)), .val (.int (v0_6 p1 p2 p3 p4 p5 p6)), .val (.int (v0_7 p1 p2 p3 p4 p5 p6)), .val (.int (v0_8 p1 p2 p3 p4 p5 p6)), .val (.int (v0_9 p1 p2 p3 p4 p5 p6)), .val (.ref b10), .val (.int (v0_17 p1 p2 p3 p4 p5 p6)), .val (.int (v0_20 p1 p2 p3 p4 p5 p6)), .val (.ref b19), .val (.int (v0_27 p1 p2 p3 p4 p5 p6)), .val (.int (v0_30 p1 p2 p3 p4 p5 p6))] [(.int (1 : Int32))])
                have u_f0 : (f0 p1 p2 p3 p4 p5 p6) = (1 : Int32) := by rw [f0, if_pos c12, if_pos c18, if_neg c21, if_pos c23, if_neg c25, if_neg c26, if_pos c31]
                have fin : Q0 Z p1 p2 p3 p4 p5 p6 h0 n0 (some (.int (f0 p1 p2 p3 p4 p5 p6))) T19.heap L19 := ⟨rfl, N, K⟩
                exact Go.retN X29 hx hret (Or.inl rfl) (hb hby at_230) hlk (Eq.trans rfl u_f0.symm) (fun t ht fe => hW t _ _ _ _ (by rw [ht, e29]; exact fin) fe (by decide) (by decide))
              · refine Go.of (fun _ k => XS.icmpYes X29.here hx rfl (pc0 := 222) (pc' := 229) rfl (hb hby at_222) rfl (Jvm.Free.XT.ii_ne_t c31) (by decide) (by decide) k) ?_
                show Go p e below W T29 (mkF m 229 #[.val (.int p1), .val (.int p2), .val (.int p3), .val (.int p4), .val (.int p5), .val (.int p6), .val (.ref b1), .val (.int (v0_3 p1 p2 p3 p4 p5 p6)), .val (.int (v0_6 p1 p2 p3 p4 p5 p6)), .val (.int (v0_7 p1 p2 p3 p4 p5 p6)), .val (.int (v0_8 p1 p2 p3 p4 p5 p6)), .val (.int (v0_9 p1 p2 p3 p4 p5 p6)), .val (.ref b10), .val (.int (v0_17 p1 p2 p3 p4 p5 p6)), .val (.int (v0_20 p1 p2 p3 p4 p5 p6)), .val (.ref b19), .val (.int (v0_27 p1 p2 p3 p4 p5 p6)), .val (.int (v0_30 p1 p2 p3 p4 p5 p6))] [])
                refine Go.of (fun _ k => XS.iconst X29.here hx rfl (hb hby at_229) k) ?_
                show Go p e below W T29 (mkF m 230 #[.val (.int p1), .val (.int p2), .val (.int p3), .val (.int p4), .val (.int p5), .val (.int p6), .val (.ref b1), .val (.int (v0_3 p1 p2 p3 p4 p5 p6)), .val (.int (v0_6 p1 p2 p3 p4 p5 p6)), .val (.int (v0_7 p1 p2 p3 p4 p5 p6)), .val (.int (v0_8 p1 p2 p3 p4 p5 p6)), .val (.int (v0_9 p1 p2 p3 p4 p5 p6)), .val (.ref b10), .val (.int (v0_17 p1 p2 p3 p4 p5 p6)), .val (.int (v0_20 p1 p2 p3 p4 p5 p6)), .val (.ref b19), .val (.int (v0_27 p1 p2 p3 p4 p5 p6)), .val (.int (v0_30 p1 p2 p3 p4 p5 p6))] [(.int (0 : Int32))])
                have u_f0 : (f0 p1 p2 p3 p4 p5 p6) = (0 : Int32) := by rw [f0, if_pos c12, if_pos c18, if_neg c21, if_pos c23, if_neg c25, if_neg c26, if_neg c31]
                have fin : Q0 Z p1 p2 p3 p4 p5 p6 h0 n0 (some (.int (f0 p1 p2 p3 p4 p5 p6))) T19.heap L19 := ⟨rfl, N, K⟩
                exact Go.retN X29 hx hret (Or.inl rfl) (hb hby at_230) hlk (Eq.trans rfl u_f0.symm) (fun t ht fe => hW t _ _ _ _ (by rw [ht, e29]; exact fin) fe (by decide) (by decide))
        · refine Go.of (fun _ k => XS.icmpNo X22.here hx rfl (hb hby at_145) rfl (Jvm.Free.XT.ii_eq_f c23) k) ?_
          show Go p e below W T22 (mkF m 148 #[.val (.int p1), .val (.int p2), .val (.int p3), .val (.int p4), .val (.int p5), .val (.int p6), .val (.ref b1), .val (.int (v0_3 p1 p2 p3 p4 p5 p6)), .val (.int (v0_6 p1 p2 p3 p4 p5 p6)), .val (.int (v0_7 p1 p2 p3 p4 p5 p6)), .val (.int (v0_8 p1 p2 p3 p4 p5 p6)), .val (.int (v0_9 p1 p2 p3 p4 p5 p6)), .val (.ref b10), .val (.int (v0_17 p1 p2 p3 p4 p5 p6)), .val (.int (v0_20 p1 p2 p3 p4 p5 p6)), .unset, .unset, .unset] [])
          refine Go.of (fun _ k => XS.iconst X22.here hx rfl (hb hby at_148) k) ?_
          show Go p e below W T22 (mkF m 149 #[.val (.int p1), .val (.int p2), .val (.int p3), .val (.int p4), .val (.int p5), .val (.int p6), .val (.ref b1), .val (.int (v0_3 p1 p2 p3 p4 p5 p6)), .val (.int (v0_6 p1 p2 p3 p4 p5 p6)), .val (.int (v0_7 p1 p2 p3 p4 p5 p6)), .val (.int (v0_8 p1 p2 p3 p4 p5 p6)), .val (.int (v0_9 p1 p2 p3 p4 p5 p6)), .val (.ref b10), .val (.int (v0_17 p1 p2 p3 p4 p5 p6)), .val (.int (v0_20 p1 p2 p3 p4 p5 p6)), .unset, .unset, .unset] [(.int (0 : Int32))])
          have u_f0 : (f0 p1 p2 p3 p4 p5 p6) = (0 : Int32) := by rw [f0, if_pos c12, if_pos c18, if_neg c21, if_neg c23]
          have fin : Q0 Z p1 p2 p3 p4 p5 p6 h0 n0 (some (.int (f0 p1 p2 p3 p4 p5 p6))) T19.heap L19 := ⟨rfl, N, K⟩
          exact Go.retN X22 hx hret (Or.inl rfl) (hb hby at_149) hlk (Eq.trans rfl u_f0.symm) (fun t ht fe => hW t _ _ _ _ (by rw [ht, e22]; exact fin) fe (by decide) (by decide))
    · show Go p e below W T16 (mkF m 123 #[.val (.int p1), .val (.int p2), .val (.int p3), .val (.int p4), .val (.int p5), .val (.int p6), .val (.ref b1), .val (.int (v0_3 p1 p2 p3 p4 p5 p6)), .val (.int (v0_6 p1 p2 p3 p4 p5 p6)), .val (.int (v0_7 p1 p2 p3 p4 p5 p6)), .val (.int (v0_8 p1 p2 p3 p4 p5 p6)), .val (.int (v0_9 p1 p2 p3 p4 p5 p6)), .val (.ref b10), .val (.int (v0_17 p1 p2 p3 p4 p5 p6)), .unset, .unset, .unset, .unset] [(.int (v0_8 p1 p2 p3 p4 p5 p6)), (.int (v0_9 p1 p2 p3 p4 p5 p6)), (.ref b1), (.ref b10)])
      refine Go.callV X16 hx hZ hown (hw _ (List.mem_of_getElem? (i := 18) rfl)) (hw _ (List.mem_of_getElem? (i := 19) rfl)) (hw _ (List.mem_of_getElem? (i := 21) rfl)) (hw _ (List.mem_of_getElem? (i := 20) rfl)) (hw _ (List.mem_of_getElem? (i := 4) rfl)) (hw _ (List.mem_of_getElem? (i := 22) rfl)) (by decide) e16 E_b10 (rm4k l Z a0 hw [] b10 b1 (v0_9 p1 p2 p3 p4 p5 p6) (v0_8 p1 p2 p3 p4 p5 p6) (f4g_size (v0_7 p1 p2 p3 p4 p5 p6) (v0_6 p1 p2 p3 p4 p5 p6) (0 : Int32) f1_nb (w0_5 p1 p2 p3 p4 p5 p6) (1024 : Nat)) b13 (f4g_nb (v0_7 p1 p2 p3 p4 p5 p6) (v0_6 p1 p2 p3 p4 p5 p6) (0 : Int32) f1_nb (w0_5 p1 p2 p3 p4 p5 p6) (1024 : Nat)) (f8 ((2 : Int32) * (1024 : Nat).toInt32) ((0 : Int32) + (v0_6 p1 p2 p3 p4 p5 p6))).toNatClampNeg (w0_5 p1 p2 p3 p4 p5 p6) T13.heap n0 Z0 E_b10 F_b10_size F_b10_bytes A_b13 A_b1 g_b10 ne_b10_b13 (Ne.symm ne_b1_b10) (Ne.symm ne_b1_b13) g_b13 c18 (own_h123g p1 p2 p3 p4 p5 p6 c12)) (V := 0) (by decide) (by decide) (by decide) (by decide) (by rw [hml]; rfl) (argsL := [(.ref b1), (.int (v0_9 p1 p2 p3 p4 p5 p6)), (.int (v0_8 p1 p2 p3 p4 p5 p6))]) (rest := []) rfl (lenOf pd___BII_V rfl) rfl (Nat.le_of_ble_eq_true rfl) (hb hby at_123) ?_
      rintro T32 _ M32 ⟨rfl, N32, K32, F_b10_size, F_b10_bytes, A_b13⟩ X32
      obtain ⟨L32, zq32⟩ : ∃ z, z = L13 ++ M32 := ⟨_, rfl⟩
      have N := Fr.app N N32
      rw [← zq32] at X32 N
      have A_b1 := A_b1.keep K32 (ninS ne_b1_b10 (ninS ne_b1_b13 nin0))
      have E_b10 := E_b10.keep K32
      have A_b11 := A_b11.keep K32 (ninS (Ne.symm ne_b10_b11) (ninS ne_b11_b13 nin0))
      have K := K.trans K32 (by
        intro x hx
        simp only [List.mem_cons, List.not_mem_nil, or_false] at hx
        rcases hx with rfl | rfl
        · exact Or.inr s_b10
        · exact Or.inr s_b13)
      have Z0 := Nat.le_trans Z0 K32.1
      show Go p e below W T32 (mkF m 126 #[.val (.int p1), .val (.int p2), .val (.int p3), .val (.int p4), .val (.int p5), .val (.int p6), .val (.ref b1), .val (.int (v0_3 p1 p2 p3 p4 p5 p6)), .val (.int (v0_6 p1 p2 p3 p4 p5 p6)), .val (.int (v0_7 p1 p2 p3 p4 p5 p6)), .val (.int (v0_8 p1 p2 p3 p4 p5 p6)), .val (.int (v0_9 p1 p2 p3 p4 p5 p6)), .val (.ref b10), .val (.int (v0_17 p1 p2 p3 p4 p5 p6)), .unset, .unset, .unset, .unset] [])
      refine Go.of (fun _ k => XS.iload X32.here hx rfl (hb hby at_126) rfl k) ?_
      show Go p e below W T32 (mkF m 128 #[.val (.int p1), .val (.int p2), .val (.int p3), .val (.int p4), .val (.int p5), .val (.int p6), .val (.ref b1), .val (.int (v0_3 p1 p2 p3 p4 p5 p6)), .val (.int (v0_6 p1 p2 p3 p4 p5 p6)), .val (.int (v0_7 p1 p2 p3 p4 p5 p6)), .val (.int (v0_8 p1 p2 p3 p4 p5 p6)), .val (.int (v0_9 p1 p2 p3 p4 p5 p6)), .val (.ref b10), .val (.int (v0_17 p1 p2 p3 p4 p5 p6)), .unset, .unset, .unset, .unset] [(.int (v0_6 p1 p2 p3 p4 p5 p6))])
      refine Go.of (fun _ k => XS.iload X32.here hx rfl (hb hby at_128) rfl k) ?_
      show Go p e below W T32 (mkF m 130 #[.val (.int p1), .val (.int p2), .val (.int p3), .val (.int p4), .val (.int p5), .val (.int p6), .val (.ref b1), .val (.int (v0_3 p1 p2 p3 p4 p5 p6)), .val (.int (v0_6 p1 p2 p3 p4 p5 p6)), .val (.int (v0_7 p1 p2 p3 p4 p5 p6)), .val (.int (v0_8 p1 p2 p3 p4 p5 p6)), .val (.int (v0_9 p1 p2 p3 p4 p5 p6)), .val (.ref b10), .val (.int (v0_17 p1 p2 p3 p4 p5 p6)), .unset, .unset, .unset, .unset] [(.int (v0_8 p1 p2 p3 p4 p5 p6)), (.int (v0_6 p1 p2 p3 p4 p5 p6))])
      refine Go.of (fun _ k => XS.iadd X32.here hx rfl (hb hby at_130) rfl k) ?_
      show Go p e below W T32 (mkF m 131 #[.val (.int p1), .val (.int p2), .val (.int p3), .val (.int p4), .val (.int p5), .val (.int p6), .val (.ref b1), .val (.int (v0_3 p1 p2 p3 p4 p5 p6)), .val (.int (v0_6 p1 p2 p3 p4 p5 p6)), .val (.int (v0_7 p1 p2 p3 p4 p5 p6)), .val (.int (v0_8 p1 p2 p3 p4 p5 p6)), .val (.int (v0_9 p1 p2 p3 p4 p5 p6)), .val (.ref b10), .val (.int (v0_17 p1 p2 p3 p4 p5 p6)), .unset, .unset, .unset, .unset] [(.int ((v0_6 p1 p2 p3 p4 p5 p6) + (v0_8 p1 p2 p3 p4 p5 p6)))])
      refine Go.of (fun _ k => XS.istore X32.here hx rfl (hb hby at_131) rfl (l' := #[.val (.int p1), .val (.int p2), .val (.int p3), .val (.int p4), .val (.int p5), .val (.int p6), .val (.ref b1), .val (.int (v0_3 p1 p2 p3 p4 p5 p6)), .val (.int (v0_6 p1 p2 p3 p4 p5 p6)), .val (.int (v0_7 p1 p2 p3 p4 p5 p6)), .val (.int (v0_8 p1 p2 p3 p4 p5 p6)), .val (.int (v0_9 p1 p2 p3 p4 p5 p6)), .val (.ref b10), .val (.int (v0_17 p1 p2 p3 p4 p5 p6)), .val (.int (v0_33 p1 p2 p3 p4 p5 p6)), .unset, .unset, .unset]) rfl k) ?_
      show Go p e below W T32 (mkF m 133 #[.val (.int p1), .val (.int p2), .val (.int p3), .val (.int p4), .val (.int p5), .val (.int p6), .val (.ref b1), .val (.int (v0_3 p1 p2 p3 p4 p5 p6)), .val (.int (v0_6 p1 p2 p3 p4 p5 p6)), .val (.int (v0_7 p1 p2 p3 p4 p5 p6)), .val (.int (v0_8 p1 p2 p3 p4 p5 p6)), .val (.int (v0_9 p1 p2 p3 p4 p5 p6)), .val (.ref b10), .val (.int (v0_17 p1 p2 p3 p4 p5 p6)), .val (.int (v0_33 p1 p2 p3 p4 p5 p6)), .unset, .unset, .unset] [])
      refine Go.of (fun _ k => XS.iload X32.here hx rfl (hb hby at_133) rfl k) ?_
      show Go p e below W T32 (mkF m 135 #[.val (.int p1), .val (.int p2), .val (.int p3), .val (.int p4), .val (.int p5), .val (.int p6), .val (.ref b1), .val (.int (v0_3 p1 p2 p3 p4 p5 p6)), .val (.int (v0_6 p1 p2 p3 p4 p5 p6)), .val (.int (v0_7 p1 p2 p3 p4 p5 p6)), .val (.int (v0_8 p1 p2 p3 p4 p5 p6)), .val (.int (v0_9 p1 p2 p3 p4 p5 p6)), .val (.ref b10), .val (.int (v0_17 p1 p2 p3 p4 p5 p6)), .val (.int (v0_33 p1 p2 p3 p4 p5 p6)), .unset, .unset, .unset] [(.int (v0_17 p1 p2 p3 p4 p5 p6))])
      by_cases c34 : (v0_17 p1 p2 p3 p4 p5 p6) = (0 : Int32)
      · refine Go.of (fun _ k => XS.ifYes X32.here hx rfl (pc0 := 135) (pc' := 148) rfl (hb hby at_135) rfl (Jvm.Free.XT.i0_eq_t c34) (by decide) (by decide) k) ?_
        show Go p e below W T32 (mkF m 148 #[.val (.int p1), .val (.int p2), .val (.int p3), .val (.int p4), .val (.int p5), .val (.int p6), .val (.ref b1), .val (.int (v0_3 p1 p2 p3 p4 p5 p6)), .val (.int (v0_6 p1 p2 p3 p4 p5 p6)), .val (.int (v0_7 p1 p2 p3 p4 p5 p6)), .val (.int (v0_8 p1 p2 p3 p4 p5 p6)), .val (.int (v0_9 p1 p2 p3 p4 p5 p6)), .val (.ref b10), .val (.int (v0_17 p1 p2 p3 p4 p5 p6)), .val (.int (v0_33 p1 p2 p3 p4 p5 p6)), .unset, .unset, .unset] [])
        refine Go.of (fun _ k => XS.iconst X32.here hx rfl (hb hby at_148) k) ?_
        show Go p e below W T32 (mkF m 149 #[.val (.int p1), .val (.int p2), .val (.int p3), .val (.int p4), .val (.int p5), .val (.int p6), .val (.ref b1), .val (.int (v0_3 p1 p2 p3 p4 p5 p6)), .val (.int (v0_6 p1 p2 p3 p4 p5 p6)), .val (.int (v0_7 p1 p2 p3 p4 p5 p6)), .val (.int (v0_8 p1 p2 p3 p4 p5 p6)), .val (.int (v0_9 p1 p2 p3 p4 p5 p6)), .val (.ref b10), .val (.int (v0_17 p1 p2 p3 p4 p5 p6)), .val (.int (v0_33 p1 p2 p3 p4 p5 p6)), .unset, .unset, .unset] [(.int (0 : Int32))])
        have u_f0 : (f0 p1 p2 p3 p4 p5 p6) = (0 : Int32) := by rw [f0, if_pos c12, if_neg c18, if_pos c34]
        have fin : Q0 Z p1 p2 p3 p4 p5 p6 h0 n0 (some (.int (f0 p1 p2 p3 p4 p5 p6))) T32.heap L32 := ⟨rfl, N, K⟩
        exact Go.retN X32 hx hret (Or.inl rfl) (hb hby at_149) hlk (Eq.trans rfl u_f0.symm) (fun t ht fe => hW t _ _ _ _ (by rw [ht]; exact fin) fe (by decide) (by decide))
      · refine Go.of (fun _ k => XS.ifNo X32.here hx rfl (hb hby at_135) rfl (Jvm.Free.XT.i0_eq_f c34) k) ?_
        show Go p e below W T32 (mkF m 138 #[.val (.int p1), .val (.int p2), .val (.int p3), .val (.int p4), .val (.int p5), .val (.int p6), .val (.ref b1), .val (.int (v0_3 p1 p2 p3 p4 p5 p6)), .val (.int (v0_6 p1 p2 p3 p4 p5 p6)), .val (.int (v0_7 p1 p2 p3 p4 p5 p6)), .val (.int (v0_8 p1 p2 p3 p4 p5 p6)), .val (.int (v0_9 p1 p2 p3 p4 p5 p6)), .val (.ref b10), .val (.int (v0_17 p1 p2 p3 p4 p5 p6)), .val (.int (v0_33 p1 p2 p3 p4 p5 p6)), .unset, .unset, .unset] [])
        refine Go.of (fun _ k => XS.aload X32.here hx rfl (hb hby at_138) rfl rfl k) ?_
        show Go p e below W T32 (mkF m 140 #[.val (.int p1), .val (.int p2), .val (.int p3), .val (.int p4), .val (.int p5), .val (.int p6), .val (.ref b1), .val (.int (v0_3 p1 p2 p3 p4 p5 p6)), .val (.int (v0_6 p1 p2 p3 p4 p5 p6)), .val (.int (v0_7 p1 p2 p3 p4 p5 p6)), .val (.int (v0_8 p1 p2 p3 p4 p5 p6)), .val (.int (v0_9 p1 p2 p3 p4 p5 p6)), .val (.ref b10), .val (.int (v0_17 p1 p2 p3 p4 p5 p6)), .val (.int (v0_33 p1 p2 p3 p4 p5 p6)), .unset, .unset, .unset] [(.ref b10)])
        refine Go.callV X32 hx hZ hown (hw _ (List.mem_of_getElem? (i := 33) rfl)) (hw _ (List.mem_of_getElem? (i := 34) rfl)) (hw _ (List.mem_of_getElem? (i := 36) rfl)) (hw _ (List.mem_of_getElem? (i := 35) rfl)) (hw _ (List.mem_of_getElem? (i := 4) rfl)) (hw _ (List.mem_of_getElem? (i := 37) rfl)) (by decide) rfl E_b10 (rm6 l Z a0 hw [] b10 (f4k_size (v0_9 p1 p2 p3 p4 p5 p6) (v0_8 p1 p2 p3 p4 p5 p6) (f4g_size (v0_7 p1 p2 p3 p4 p5 p6) (v0_6 p1 p2 p3 p4 p5 p6) (0 : Int32) f1_nb (w0_5 p1 p2 p3 p4 p5 p6) (1024 : Nat)) (f4g_nb (v0_7 p1 p2 p3 p4 p5 p6) (v0_6 p1 p2 p3 p4 p5 p6) (0 : Int32) f1_nb (w0_5 p1 p2 p3 p4 p5 p6) (1024 : Nat)) (w0_5 p1 p2 p3 p4 p5 p6) (f8 ((2 : Int32) * (1024 : Nat).toInt32) ((0 : Int32) + (v0_6 p1 p2 p3 p4 p5 p6))).toNatClampNeg) T32.heap F_b10_size) (V := 0) (by decide) (by decide) (by decide) (by decide) (by rw [hml]; rfl) (argsL := []) (rest := []) rfl (lenOf pd___I rfl) rfl (Nat.le_of_ble_eq_true rfl) (hb hby at_140) ?_
        rintro T35 _ _ ⟨rfl, rfl, e35⟩ X35
        rw [List.append_nil] at X35
        show Go p e below W T35 (mkF m 143 #[.val (.int p1), .val (.int p2), .val (.int p3), .val (.int p4), .val (.int p5), .val (.int p6), .val (.ref b1), .val (.int (v0_3 p1 p2 p3 p4 p5 p6)), .val (.int (v0_6 p1 p2 p3 p4 p5 p6)), .val (.int (v0_7 p1 p2 p3 p4 p5 p6)), .val (.int (v0_8 p1 p2 p3 p4 p5 p6)), .val (.int (v0_9 p1 p2 p3 p4 p5 p6)), .val (.ref b10), .val (.int (v0_17 p1 p2 p3 p4 p5 p6)), .val (.int (v0_33 p1 p2 p3 p4 p5 p6)), .unset, .unset, .unset] [(.int (f6 (f4k_size (v0_9 p1 p2 p3 p4 p5 p6) (v0_8 p1 p2 p3 p4 p5 p6) (f4g_size (v0_7 p1 p2 p3 p4 p5 p6) (v0_6 p1 p2 p3 p4 p5 p6) (0 : Int32) f1_nb (w0_5 p1 p2 p3 p4 p5 p6) (1024 : Nat)) (f4g_nb (v0_7 p1 p2 p3 p4 p5 p6) (v0_6 p1 p2 p3 p4 p5 p6) (0 : Int32) f1_nb (w0_5 p1 p2 p3 p4 p5 p6) (1024 : Nat)) (w0_5 p1 p2 p3 p4 p5 p6) (f8 ((2 : Int32) * (1024 : Nat).toInt32) ((0 : Int32) + (v0_6 p1 p2 p3 p4 p5 p6))).toNatClampNeg)))])
        refine Go.of (fun _ k => XS.iload X35.here hx rfl (hb hby at_143) rfl k) ?_
        show Go p e below W T35 (mkF m 145 #[.val (.int p1), .val (.int p2), .val (.int p3), .val (.int p4), .val (.int p5), .val (.int p6), .val (.ref b1), .val (.int (v0_3 p1 p2 p3 p4 p5 p6)), .val (.int (v0_6 p1 p2 p3 p4 p5 p6)), .val (.int (v0_7 p1 p2 p3 p4 p5 p6)), .val (.int (v0_8 p1 p2 p3 p4 p5 p6)), .val (.int (v0_9 p1 p2 p3 p4 p5 p6)), .val (.ref b10), .val (.int (v0_17 p1 p2 p3 p4 p5 p6)), .val (.int (v0_33 p1 p2 p3 p4 p5 p6)), .unset, .unset, .unset] [(.int (v0_33 p1 p2 p3 p4 p5 p6)), (.int (f6 (f4k_size (v0_9 p1 p2 p3 p4 p5 p6) (v0_8 p1 p2 p3 p4 p5 p6) (f4g_size (v0_7 p1 p2 p3 p4 p5 p6) (v0_6 p1 p2 p3 p4 p5 p6) (0 : Int32) f1_nb (w0_5 p1 p2 p3 p4 p5 p6) (1024 : Nat)) (f4g_nb (v0_7 p1 p2 p3 p4 p5 p6) (v0_6 p1 p2 p3 p4 p5 p6) (0 : Int32) f1_nb (w0_5 p1 p2 p3 p4 p5 p6) (1024 : Nat)) (w0_5 p1 p2 p3 p4 p5 p6) (f8 ((2 : Int32) * (1024 : Nat).toInt32) ((0 : Int32) + (v0_6 p1 p2 p3 p4 p5 p6))).toNatClampNeg)))])
        by_cases c36 : (f6 (f4k_size (v0_9 p1 p2 p3 p4 p5 p6) (v0_8 p1 p2 p3 p4 p5 p6) (f4g_size (v0_7 p1 p2 p3 p4 p5 p6) (v0_6 p1 p2 p3 p4 p5 p6) (0 : Int32) f1_nb (w0_5 p1 p2 p3 p4 p5 p6) (1024 : Nat)) (f4g_nb (v0_7 p1 p2 p3 p4 p5 p6) (v0_6 p1 p2 p3 p4 p5 p6) (0 : Int32) f1_nb (w0_5 p1 p2 p3 p4 p5 p6) (1024 : Nat)) (w0_5 p1 p2 p3 p4 p5 p6) (f8 ((2 : Int32) * (1024 : Nat).toInt32) ((0 : Int32) + (v0_6 p1 p2 p3 p4 p5 p6))).toNatClampNeg)) = (v0_33 p1 p2 p3 p4 p5 p6)
        · refine Go.of (fun _ k => XS.icmpYes X35.here hx rfl (pc0 := 145) (pc' := 150) rfl (hb hby at_145) rfl (Jvm.Free.XT.ii_eq_t c36) (by decide) (by decide) k) ?_
          show Go p e below W T35 (mkF m 150 #[.val (.int p1), .val (.int p2), .val (.int p3), .val (.int p4), .val (.int p5), .val (.int p6), .val (.ref b1), .val (.int (v0_3 p1 p2 p3 p4 p5 p6)), .val (.int (v0_6 p1 p2 p3 p4 p5 p6)), .val (.int (v0_7 p1 p2 p3 p4 p5 p6)), .val (.int (v0_8 p1 p2 p3 p4 p5 p6)), .val (.int (v0_9 p1 p2 p3 p4 p5 p6)), .val (.ref b10), .val (.int (v0_17 p1 p2 p3 p4 p5 p6)), .val (.int (v0_33 p1 p2 p3 p4 p5 p6)), .unset, .unset, .unset] [])
          refine Go.of (fun _ k => XS.aload X35.here hx rfl (hb hby at_150) rfl rfl k) ?_
          show Go p e below W T35 (mkF m 152 #[.val (.int p1), .val (.int p2), .val (.int p3), .val (.int p4), .val (.int p5), .val (.int p6), .val (.ref b1), .val (.int (v0_3 p1 p2 p3 p4 p5 p6)), .val (.int (v0_6 p1 p2 p3 p4 p5 p6)), .val (.int (v0_7 p1 p2 p3 p4 p5 p6)), .val (.int (v0_8 p1 p2 p3 p4 p5 p6)), .val (.int (v0_9 p1 p2 p3 p4 p5 p6)), .val (.ref b10), .val (.int (v0_17 p1 p2 p3 p4 p5 p6)), .val (.int (v0_33 p1 p2 p3 p4 p5 p6)), .unset, .unset, .unset] [(.ref b10)])
          refine Go.callV X35 hx hZ hown (hw _ (List.mem_of_getElem? (i := 38) rfl)) (hw _ (List.mem_of_getElem? (i := 39) rfl)) (hw _ (List.mem_of_getElem? (i := 41) rfl)) (hw _ (List.mem_of_getElem? (i := 40) rfl)) (hw _ (List.mem_of_getElem? (i := 4) rfl)) (hw _ (List.mem_of_getElem? (i := 42) rfl)) (by decide) e35 E_b10 (rm7 l Z a0 hw [] b10 b13 T32.heap F_b10_bytes) (V := 0) (by decide) (by decide) (by decide) (by decide) (by rw [hml]; rfl) (argsL := []) (rest := []) rfl (lenOf pd____B rfl) rfl (Nat.le_of_ble_eq_true rfl) (hb hby at_152) ?_
          rintro T37 _ _ ⟨rfl, rfl, e37⟩ X37
          rw [List.append_nil] at X37
          show Go p e below W T37 (mkF m 155 #[.val (.int p1), .val (.int p2), .val (.int p3), .val (.int p4), .val (.int p5), .val (.int p6), .val (.ref b1), .val (.int (v0_3 p1 p2 p3 p4 p5 p6)), .val (.int (v0_6 p1 p2 p3 p4 p5 p6)), .val (.int (v0_7 p1 p2 p3 p4 p5 p6)), .val (.int (v0_8 p1 p2 p3 p4 p5 p6)), .val (.int (v0_9 p1 p2 p3 p4 p5 p6)), .val (.ref b10), .val (.int (v0_17 p1 p2 p3 p4 p5 p6)), .val (.int (v0_33 p1 p2 p3 p4 p5 p6)), .unset, .unset, .unset] [(.ref b13)])
          refine Go.of (fun _ k => XS.astore X37.here hx rfl (hb hby at_155) rfl rfl (l' := #[.val (.int p1), .val (.int p2), .val (.int p3), .val (.int p4), .val (.int p5), .val (.int p6), .val (.ref b1), .val (.int (v0_3 p1 p2 p3 p4 p5 p6)), .val (.int (v0_6 p1 p2 p3 p4 p5 p6)), .val (.int (v0_7 p1 p2 p3 p4 p5 p6)), .val (.int (v0_8 p1 p2 p3 p4 p5 p6)), .val (.int (v0_9 p1 p2 p3 p4 p5 p6)), .val (.ref b10), .val (.int (v0_17 p1 p2 p3 p4 p5 p6)), .val (.int (v0_33 p1 p2 p3 p4 p5 p6)), .val (.ref b13), .unset, .unset]) rfl k) ?_
          show Go p e below W T37 (mkF m 157 #[.val (.int p1), .val (.int p2), .val (.int p3), .val (.int p4), .val (.int p5), .val (.int p6), .val (.ref b1), .val (.int (v0_3 p1 p2 p3 p4 p5 p6)), .val (.int (v0_6 p1 p2 p3 p4 p5 p6)), .val (.int (v0_7 p1 p2 p3 p4 p5 p6)), .val (.int (v0_8 p1 p2 p3 p4 p5 p6)), .val (.int (v0_9 p1 p2 p3 p4 p5 p6)), .val (.ref b10), .val (.int (v0_17 p1 p2 p3 p4 p5 p6)), .val (.int (v0_33 p1 p2 p3 p4 p5 p6)), .val (.ref b13), .unset, .unset] [])
          refine Go.of (fun _ k => XS.aload X37.here hx rfl (hb hby at_157) rfl rfl k) ?_
          show Go p e below W T37 (mkF m 159 #[.val (.int p1), .val (.int p2), .val (.int p3), .val (.int p4), .val (.int p5), .val (.int p6), .val (.ref b1), .val (.int (v0_3 p1 p2 p3 p4 p5 p6)), .val (.int (v0_6 p1 p2 p3 p4 p5 p6)), .val (.int (v0_7 p1 p2 p3 p4 p5 p6)), .val (.int (v0_8 p1 p2 p3 p4 p5 p6)), .val (.int (v0_9 p1 p2 p3 p4 p5 p6)), .val (.ref b10), .val (.int (v0_17 p1 p2 p3 p4 p5 p6)), .val (.int (v0_33 p1 p2 p3 p4 p5 p6)), .val (.ref b13), .unset, .unset] [(.ref b13)])
          refine Go.alen X37 hx hZ e37 A_b13 (hb hby at_159) ?_
          show Go p e below W T37 (mkF m 160 #[.val (.int p1), .val (.int p2), .val (.int p3), .val (.int p4), .val (.int p5), .val (.int p6), .val (.ref b1), .val (.int (v0_3 p1 p2 p3 p4 p5 p6)), .val (.int (v0_6 p1 p2 p3 p4 p5 p6)), .val (.int (v0_7 p1 p2 p3 p4 p5 p6)), .val (.int (v0_8 p1 p2 p3 p4 p5 p6)), .val (.int (v0_9 p1 p2 p3 p4 p5 p6)), .val (.ref b10), .val (.int (v0_17 p1 p2 p3 p4 p5 p6)), .val (.int (v0_33 p1 p2 p3 p4 p5 p6)), .val (.ref b13), .unset, .unset] [(.int (f8 ((2 : Int32) * (1024 : Nat).toInt32) ((0 : Int32) + (v0_6 p1 p2 p3 p4 p5 p6))).toNatClampNeg.toInt32)])
          refine Go.of (fun _ k => XS.iload X37.here hx rfl (hb hby at_160) rfl k) ?_
          show Go p e below W T37 (mkF m 162 #[.val (.int p1), .val (.int p2), .val (.int p3), .val (.int p4), .val (.int p5), .val (.int p6), .val (.ref b1), .val (.int (v0_3 p1 p2 p3 p4 p5 p6)), .val (.int (v0_6 p1 p2 p3 p4 p5 p6)), .val (.int (v0_7 p1 p2 p3 p4 p5 p6)), .val (.int (v0_8 p1 p2 p3 p4 p5 p6)), .val (.int (v0_9 p1 p2 p3 p4 p5 p6)), .val (.ref b10), .val (.int (v0_17 p1 p2 p3 p4 p5 p6)), .val (.int (v0_33 p1 p2 p3 p4 p5 p6)), .val (.ref b13), .unset, .unset] [(.int (v0_33 p1 p2 p3 p4 p5 p6)), (.int (f8 ((2 : Int32) * (1024 : Nat).toInt32) ((0 : Int32) + (v0_6 p1 p2 p3 p4 p5 p6))).toNatClampNeg.toInt32)])
          by_cases c38 : (f8 ((2 : Int32) * (1024 : Nat).toInt32) ((0 : Int32) + (v0_6 p1 p2 p3 p4 p5 p6))).toNatClampNeg.toInt32 < (v0_33 p1 p2 p3 p4 p5 p6)
          · refine Go.of (fun _ k => XS.icmpNo X37.here hx rfl (hb hby at_162) rfl (Jvm.Free.XT.ii_ge_f c38) k) ?_
            show Go p e below W T37 (mkF m 165 #[.val (.int p1), .val (.int p2), .val (.int p3), .val (.int p4), .val (.int p5), .val (.int p6), .val (.ref b1), .val (.int (v0_3 p1 p2 p3 p4 p5 p6)), .val (.int (v0_6 p1 p2 p3 p4 p5 p6)), .val (.int (v0_7 p1 p2 p3 p4 p5 p6)), .val (.int (v0_8 p1 p2 p3 p4 p5 p6)), .val (.int (v0_9 p1 p2 p3 p4 p5 p6)), .val (.ref b10), .val (.int (v0_17 p1 p2 p3 p4 p5 p6)), .val (.int (v0_33 p1 p2 p3 p4 p5 p6)), .val (.ref b13), .unset, .unset] [])
            refine Go.of (fun _ k => XS.iconst X37.here hx rfl (hb hby at_165) k) ?_
            show Go p e below W T37 (mkF m 166 #[.val (.int p1), .val (.int p2), .val (.int p3), .val (.int p4), .val (.int p5), .val (.int p6), .val (.ref b1), .val (.int (v0_3 p1 p2 p3 p4 p5 p6)), .val (.int (v0_6 p1 p2 p3 p4 p5 p6)), .val (.int (v0_7 p1 p2 p3 p4 p5 p6)), .val (.int (v0_8 p1 p2 p3 p4 p5 p6)), .val (.int (v0_9 p1 p2 p3 p4 p5 p6)), .val (.ref b10), .val (.int (v0_17 p1 p2 p3 p4 p5 p6)), .val (.int (v0_33 p1 p2 p3 p4 p5 p6)), .val (.ref b13), .unset, .unset] [(.int (0 : Int32))])
            have u_f0 : (f0 p1 p2 p3 p4 p5 p6) = (0 : Int32) := by rw [f0, if_pos c12, if_neg c18, if_neg c34, if_pos c36, if_pos c38]
            have fin : Q0 Z p1 p2 p3 p4 p5 p6 h0 n0 (some (.int (f0 p1 p2 p3 p4 p5 p6))) T32.heap L32 := ⟨rfl, N, K⟩
            exact Go.retN X37 hx hret (Or.inl rfl) (hb hby at_166) hlk (Eq.trans rfl u_f0.symm) (fun t ht fe => hW t _ _ _ _ (by rw [ht, e37]; exact fin) fe (by decide) (by decide))
          · refine Go.of (fun _ k => XS.icmpYes X37.here hx rfl (pc0 := 162) (pc' := 167) rfl (hb hby at_162) rfl (Jvm.Free.XT.ii_ge_t c38) (by decide) (by decide) k) ?_
            show Go p e below W T37 (mkF m 167 #[.val (.int p1), .val (.int p2), .val (.int p3), .val (.int p4), .val (.int p5), .val (.int p6), .val (.ref b1), .val (.int (v0_3 p1 p2 p3 p4 p5 p6)), .val (.int (v0_6 p1 p2 p3 p4 p5 p6)), .val (.int (v0_7 p1 p2 p3 p4 p5 p6)), .val (.int (v0_8 p1 p2 p3 p4 p5 p6)), .val (.int (v0_9 p1 p2 p3 p4 p5 p6)), .val (.ref b10), .val (.int (v0_17 p1 p2 p3 p4 p5 p6)), .val (.int (v0_33 p1 p2 p3 p4 p5 p6)), .val (.ref b13), .unset, .unset] [])
            refine Go.of (fun _ k => XS.iload X37.here hx rfl (hb hby at_167) rfl k) ?_
            show Go p e below W T37 (mkF m 169 #[.val (.int p1), .val (.int p2), .val (.int p3), .val (.int p4), .val (.int p5), .val (.int p6), .val (.ref b1), .val (.int (v0_3 p1 p2 p3 p4 p5 p6)), .val (.int (v0_6 p1 p2 p3 p4 p5 p6)), .val (.int (v0_7 p1 p2 p3 p4 p5 p6)), .val (.int (v0_8 p1 p2 p3 p4 p5 p6)), .val (.int (v0_9 p1 p2 p3 p4 p5 p6)), .val (.ref b10), .val (.int (v0_17 p1 p2 p3 p4 p5 p6)), .val (.int (v0_33 p1 p2 p3 p4 p5 p6)), .val (.ref b13), .unset, .unset] [(.int (v0_33 p1 p2 p3 p4 p5 p6))])
            by_cases c39 : (v0_33 p1 p2 p3 p4 p5 p6) = (0 : Int32)
            · refine Go.of (fun _ k => XS.ifNo X37.here hx rfl (hb hby at_169) rfl (Jvm.Free.XT.i0_ne_f c39) k) ?_
              show Go p e below W T37 (mkF m 172 #[.val (.int p1), .val (.int p2), .val (.int p3), .val (.int p4), .val (.int p5), .val (.int p6), .val (.ref b1), .val (.int (v0_3 p1 p2 p3 p4 p5 p6)), .val (.int (v0_6 p1 p2 p3 p4 p5 p6)), .val (.int (v0_7 p1 p2 p3 p4 p5 p6)), .val (.int (v0_8 p1 p2 p3 p4 p5 p6)), .val (.int (v0_9 p1 p2 p3 p4 p5 p6)), .val (.ref b10), .val (.int (v0_17 p1 p2 p3 p4 p5 p6)), .val (.int (v0_33 p1 p2 p3 p4 p5 p6)), .val (.ref b13), .unset, .unset] [])
              refine Go.of (fun _ k => XS.iconst X37.here hx rfl (hb hby at_172) k) ?_
              show Go p e below W T37 (mkF m 173 #[.val (.int p1), .val (.int p2), .val (.int p3), .val (.int p4), .val (.int p5), .val (.int p6), .val (.ref b1), .val (.int (v0_3 p1 p2 p3 p4 p5 p6)), .val (.int (v0_6 p1 p2 p3 p4 p5 p6)), .val (.int (v0_7 p1 p2 p3 p4 p5 p6)), .val (.int (v0_8 p1 p2 p3 p4 p5 p6)), .val (.int (v0_9 p1 p2 p3 p4 p5 p6)), .val (.ref b10), .val (.int (v0_17 p1 p2 p3 p4 p5 p6)), .val (.int (v0_33 p1 p2 p3 p4 p5 p6)), .val (.ref b13), .unset, .unset] [(.int (1 : Int32))])
              have u_f0 : (f0 p1 p2 p3 p4 p5 p6) = (1 : Int32) := by rw [f0, if_pos c12, if_neg c18, if_neg c34, if_pos c36, if_neg c38, if_pos c39]
              have fin : Q0 Z p1 p2 p3 p4 p5 p6 h0 n0 (some (.int (f0 p1 p2 p3 p4 p5 p6))) T32.heap L32 := ⟨rfl, N, K⟩
              exact Go.retN X37 hx hret (Or.inl rfl) (hb hby at_173) hlk (Eq.trans rfl u_f0.symm) (fun t ht fe => hW t _ _ _ _ (by rw [ht, e37]; exact fin) fe (by decide) (by decide))
            · refine Go.of (fun _ k => XS.ifYes X37.here hx rfl (pc0 := 169) (pc' := 174) rfl (hb hby at_169) rfl (Jvm.Free.XT.i0_ne_t c39) (by decide) (by decide) k) ?_
              show Go p e below W T37 (mkF m 174 #[.val (.int p1), .val (.int p2), .val (.int p3), .val (.int p4), .val (.int p5), .val (.int p6), .val (.ref b1), .val (.int (v0_3 p1 p2 p3 p4 p5 p6)), .val (.int (v0_6 p1 p2 p3 p4 p5 p6)), .val (.int (v0_7 p1 p2 p3 p4 p5 p6)), .val (.int (v0_8 p1 p2 p3 p4 p5 p6)), .val (.int (v0_9 p1 p2 p3 p4 p5 p6)), .val (.ref b10), .val (.int (v0_17 p1 p2 p3 p4 p5 p6)), .val (.int (v0_33 p1 p2 p3 p4 p5 p6)), .val (.ref b13), .unset, .unset] [])
              refine Go.of (fun _ k => XS.iload X37.here hx rfl (hb hby at_174) rfl k) ?_
              show Go p e below W T37 (mkF m 176 #[.val (.int p1), .val (.int p2), .val (.int p3), .val (.int p4), .val (.int p5), .val (.int p6), .val (.ref b1), .val (.int (v0_3 p1 p2 p3 p4 p5 p6)), .val (.int (v0_6 p1 p2 p3 p4 p5 p6)), .val (.int (v0_7 p1 p2 p3 p4 p5 p6)), .val (.int (v0_8 p1 p2 p3 p4 p5 p6)), .val (.int (v0_9 p1 p2 p3 p4 p5 p6)), .val (.ref b10), .val (.int (v0_17 p1 p2 p3 p4 p5 p6)), .val (.int (v0_33 p1 p2 p3 p4 p5 p6)), .val (.ref b13), .unset, .unset] [(.int p5)])
              refine Go.of (fun _ k => X37.ldcI hx hown (mvT hZ (hw _ (List.mem_of_getElem? (i := 1) rfl))) rfl (hb hby at_176) k) ?_
              show Go p e below W T37 (mkF m 178 #[.val (.int p1), .val (.int p2), .val (.int p3), .val (.int p4), .val (.int p5), .val (.int p6), .val (.ref b1), .val (.int (v0_3 p1 p2 p3 p4 p5 p6)), .val (.int (v0_6 p1 p2 p3 p4 p5 p6)), .val (.int (v0_7 p1 p2 p3 p4 p5 p6)), .val (.int (v0_8 p1 p2 p3 p4 p5 p6)), .val (.int (v0_9 p1 p2 p3 p4 p5 p6)), .val (.ref b10), .val (.int (v0_17 p1 p2 p3 p4 p5 p6)), .val (.int (v0_33 p1 p2 p3 p4 p5 p6)), .val (.ref b13), .unset, .unset] [(.int (2147483647 : Int32)), (.int p5)])
              refine Go.of (fun _ k => XS.iand X37.here hx rfl (hb hby at_178) rfl k) ?_
              show Go p e below W T37 (mkF m 179 #[.val (.int p1), .val (.int p2), .val (.int p3), .val (.int p4), .val (.int p5), .val (.int p6), .val (.ref b1), .val (.int (v0_3 p1 p2 p3 p4 p5 p6)), .val (.int (v0_6 p1 p2 p3 p4 p5 p6)), .val (.int (v0_7 p1 p2 p3 p4 p5 p6)), .val (.int (v0_8 p1 p2 p3 p4 p5 p6)), .val (.int (v0_9 p1 p2 p3 p4 p5 p6)), .val (.ref b10), .val (.int (v0_17 p1 p2 p3 p4 p5 p6)), .val (.int (v0_33 p1 p2 p3 p4 p5 p6)), .val (.ref b13), .unset, .unset] [(.int (p5 &&& (2147483647 : Int32)))])
              refine Go.of (fun _ k => XS.iload X37.here hx rfl (hb hby at_179) rfl k) ?_
              show Go p e below W T37 (mkF m 181 #[.val (.int p1), .val (.int p2), .val (.int p3), .val (.int p4), .val (.int p5), .val (.int p6), .val (.ref b1), .val (.int (v0_3 p1 p2 p3 p4 p5 p6)), .val (.int (v0_6 p1 p2 p3 p4 p5 p6)), .val (.int (v0_7 p1 p2 p3 p4 p5 p6)), .val (.int (v0_8 p1 p2 p3 p4 p5 p6)), .val (.int (v0_9 p1 p2 p3 p4 p5 p6)), .val (.ref b10), .val (.int (v0_17 p1 p2 p3 p4 p5 p6)), .val (.int (v0_33 p1 p2 p3 p4 p5 p6)), .val (.ref b13), .unset, .unset] [(.int (v0_33 p1 p2 p3 p4 p5 p6)), (.int (p5 &&& (2147483647 : Int32)))])
              refine Go.of (fun _ k => iremM X37 hx rfl (hb hby at_181) rfl c39 k) ?_
              show Go p e below W T37 (mkF m 182 #[.val (.int p1), .val (.int p2), .val (.int p3), .val (.int p4), .val (.int p5), .val (.int p6), .val (.ref b1), .val (.int (v0_3 p1 p2 p3 p4 p5 p6)), .val (.int (v0_6 p1 p2 p3 p4 p5 p6)), .val (.int (v0_7 p1 p2 p3 p4 p5 p6)), .val (.int (v0_8 p1 p2 p3 p4 p5 p6)), .val (.int (v0_9 p1 p2 p3 p4 p5 p6)), .val (.ref b10), .val (.int (v0_17 p1 p2 p3 p4 p5 p6)), .val (.int (v0_33 p1 p2 p3 p4 p5 p6)), .val (.ref b13), .unset, .unset] [(.int ((p5 &&& (2147483647 : Int32)) % (v0_33 p1 p2 p3 p4 p5 p6)))])
              refine Go.of (fun _ k => XS.istore X37.here hx rfl (hb hby at_182) rfl (l' := #[.val (.int p1), .val (.int p2), .val (.int p3), .val (.int p4), .val (.int p5), .val (.int p6), .val (.ref b1), .val (.int (v0_3 p1 p2 p3 p4 p5 p6)), .val (.int (v0_6 p1 p2 p3 p4 p5 p6)), .val (.int (v0_7 p1 p2 p3 p4 p5 p6)), .val (.int (v0_8 p1 p2 p3 p4 p5 p6)), .val (.int (v0_9 p1 p2 p3 p4 p5 p6)), .val (.ref b10), .val (.int (v0_17 p1 p2 p3 p4 p5 p6)), .val (.int (v0_33 p1 p2 p3 p4 p5 p6)), .val (.ref b13), .val (.int (v0_40 p1 p2 p3 p4 p5 p6)), .unset]) rfl k) ?_
              show Go p e below W T37 (mkF m 184 #[.val (.int p1), .val (.int p2), .val (.int p3), .val (.int p4), .val (.int p5), .val (.int p6), .val (.ref b1), .val (.int (v0_3 p1 p2 p3 p4 p5 p6)), .val (.int (v0_6 p1 p2 p3 p4 p5 p6)), .val (.int (v0_7 p1 p2 p3 p4 p5 p6)), .val (.int (v0_8 p1 p2 p3 p4 p5 p6)), .val (.int (v0_9 p1 p2 p3 p4 p5 p6)), .val (.ref b10), .val (.int (v0_17 p1 p2 p3 p4 p5 p6)), .val (.int (v0_33 p1 p2 p3 p4 p5 p6)), .val (.ref b13), .val (.int (v0_40 p1 p2 p3 p4 p5 p6)), .unset] [])
              refine Go.of (fun _ k => XS.iload X37.here hx rfl (hb hby at_184) rfl k) ?_
              show Go p e below W T37 (mkF m 186 #[.val (.int p1), .val (.int p2), .val (.int p3), .val (.int p4), .val (.int p5), .val (.int p6), .val (.ref b1), .val (.int (v0_3 p1 p2 p3 p4 p5 p6)), .val (.int (v0_6 p1 p2 p3 p4 p5 p6)), .val (.int (v0_7 p1 p2 p3 p4 p5 p6)), .val (.int (v0_8 p1 p2 p3 p4 p5 p6)), .val (.int (v0_9 p1 p2 p3 p4 p5 p6)), .val (.ref b10), .val (.int (v0_17 p1 p2 p3 p4 p5 p6)), .val (.int (v0_33 p1 p2 p3 p4 p5 p6)), .val (.ref b13), .val (.int (v0_40 p1 p2 p3 p4 p5 p6)), .unset] [(.int (v0_40 p1 p2 p3 p4 p5 p6))])
              refine Go.of (fun _ k => XS.iload X37.here hx rfl (hb hby at_186) rfl k) ?_
              show Go p e below W T37 (mkF m 188 #[.val (.int p1), .val (.int p2), .val (.int p3), .val (.int p4), .val (.int p5), .val (.int p6), .val (.ref b1), .val (.int (v0_3 p1 p2 p3 p4 p5 p6)), .val (.int (v0_6 p1 p2 p3 p4 p5 p6)), .val (.int (v0_7 p1 p2 p3 p4 p5 p6)), .val (.int (v0_8 p1 p2 p3 p4 p5 p6)), .val (.int (v0_9 p1 p2 p3 p4 p5 p6)), .val (.ref b10), .val (.int (v0_17 p1 p2 p3 p4 p5 p6)), .val (.int (v0_33 p1 p2 p3 p4 p5 p6)), .val (.ref b13), .val (.int (v0_40 p1 p2 p3 p4 p5 p6)), .unset] [(.int (v0_6 p1 p2 p3 p4 p5 p6)), (.int (v0_40 p1 p2 p3 p4 p5 p6))])
              suffices G42 : ∀ T', Stand p l e room_1 s m #[(.int p1), (.int p2), (.int p3), (.int p4), (.int p5), (.int p6)] below meth c T' L32 4 7626 → T'.heap = T32.heap → Go p e below W T' (mkF m 213 #[.val (.int p1), .val (.int p2), .val (.int p3), .val (.int p4), .val (.int p5), .val (.int p6), .val (.ref b1), .val (.int (v0_3 p1 p2 p3 p4 p5 p6)), .val (.int (v0_6 p1 p2 p3 p4 p5 p6)), .val (.int (v0_7 p1 p2 p3 p4 p5 p6)), .val (.int (v0_8 p1 p2 p3 p4 p5 p6)), .val (.int (v0_9 p1 p2 p3 p4 p5 p6)), .val (.ref b10), .val (.int (v0_17 p1 p2 p3 p4 p5 p6)), .val (.int (v0_33 p1 p2 p3 p4 p5 p6)), .val (.ref b13), .val (.int (v0_40 p1 p2 p3 p4 p5 p6)), .unset] [(.int (v0_43 p1 p2 p3 p4 p5 p6))]) by
                by_cases c41 : (v0_40 p1 p2 p3 p4 p5 p6) < (v0_6 p1 p2 p3 p4 p5 p6)
                · refine Go.of (fun _ k => XS.icmpNo X37.here hx rfl (hb hby at_188) rfl (Jvm.Free.XT.ii_ge_f c41) k) ?_
                  show Go p e below W T37 (mkF m 191 #[.val (.int p1), .val (.int p2), .val (.int p3), .val (.int p4), .val (.int p5), .val (.int p6), .val (.ref b1), .val (.int (v0_3 p1 p2 p3 p4 p5 p6)), .val (.int (v0_6 p1 p2 p3 p4 p5 p6)), .val (.int (v0_7 p1 p2 p3 p4 p5 p6)), .val (.int (v0_8 p1 p2 p3 p4 p5 p6)), .val (.int (v0_9 p1 p2 p3 p4 p5 p6)), .val (.ref b10), .val (.int (v0_17 p1 p2 p3 p4 p5 p6)), .val (.int (v0_33 p1 p2 p3 p4 p5 p6)), .val (.ref b13), .val (.int (v0_40 p1 p2 p3 p4 p5 p6)), .unset] [])
                  refine Go.of (fun _ k => XS.aload X37.here hx rfl (hb hby at_191) rfl rfl k) ?_
                  show Go p e below W T37 (mkF m 193 #[.val (.int p1), .val (.int p2), .val (.int p3), .val (.int p4), .val (.int p5), .val (.int p6), .val (.ref b1), .val (.int (v0_3 p1 p2 p3 p4 p5 p6)), .val (.int (v0_6 p1 p2 p3 p4 p5 p6)), .val (.int (v0_7 p1 p2 p3 p4 p5 p6)), .val (.int (v0_8 p1 p2 p3 p4 p5 p6)), .val (.int (v0_9 p1 p2 p3 p4 p5 p6)), .val (.ref b10), .val (.int (v0_17 p1 p2 p3 p4 p5 p6)), .val (.int (v0_33 p1 p2 p3 p4 p5 p6)), .val (.ref b13), .val (.int (v0_40 p1 p2 p3 p4 p5 p6)), .unset] [(.ref b1)])
                  refine Go.of (fun _ k => XS.iload X37.here hx rfl (hb hby at_193) rfl k) ?_
                  show Go p e below W T37 (mkF m 195 #[.val (.int p1), .val (.int p2), .val (.int p3), .val (.int p4), .val (.int p5), .val (.int p6), .val (.ref b1), .val (.int (v0_3 p1 p2 p3 p4 p5 p6)), .val (.int (v0_6 p1 p2 p3 p4 p5 p6)), .val (.int (v0_7 p1 p2 p3 p4 p5 p6)), .val (.int (v0_8 p1 p2 p3 p4 p5 p6)), .val (.int (v0_9 p1 p2 p3 p4 p5 p6)), .val (.ref b10), .val (.int (v0_17 p1 p2 p3 p4 p5 p6)), .val (.int (v0_33 p1 p2 p3 p4 p5 p6)), .val (.ref b13), .val (.int (v0_40 p1 p2 p3 p4 p5 p6)), .unset] [(.int (v0_7 p1 p2 p3 p4 p5 p6)), (.ref b1)])
                  refine Go.of (fun _ k => XS.iload X37.here hx rfl (hb hby at_195) rfl k) ?_
                  show Go p e below W T37 (mkF m 197 #[.val (.int p1), .val (.int p2), .val (.int p3), .val (.int p4), .val (.int p5), .val (.int p6), .val (.ref b1), .val (.int (v0_3 p1 p2 p3 p4 p5 p6)), .val (.int (v0_6 p1 p2 p3 p4 p5 p6)), .val (.int (v0_7 p1 p2 p3 p4 p5 p6)), .val (.int (v0_8 p1 p2 p3 p4 p5 p6)), .val (.int (v0_9 p1 p2 p3 p4 p5 p6)), .val (.ref b10), .val (.int (v0_17 p1 p2 p3 p4 p5 p6)), .val (.int (v0_33 p1 p2 p3 p4 p5 p6)), .val (.ref b13), .val (.int (v0_40 p1 p2 p3 p4 p5 p6)), .unset] [(.int (v0_40 p1 p2 p3 p4 p5 p6)), (.int (v0_7 p1 p2 p3 p4 p5 p6)), (.ref b1)])
                  refine Go.of (fun _ k => XS.iadd X37.here hx rfl (hb hby at_197) rfl k) ?_
                  show Go p e below W T37 (mkF m 198 #[.val (.int p1), .val (.int p2), .val (.int p3), .val (.int p4), .val (.int p5), .val (.int p6), .val (.ref b1), .val (.int (v0_3 p1 p2 p3 p4 p5 p6)), .val (.int (v0_6 p1 p2 p3 p4 p5 p6)), .val (.int (v0_7 p1 p2 p3 p4 p5 p6)), .val (.int (v0_8 p1 p2 p3 p4 p5 p6)), .val (.int (v0_9 p1 p2 p3 p4 p5 p6)), .val (.ref b10), .val (.int (v0_17 p1 p2 p3 p4 p5 p6)), .val (.int (v0_33 p1 p2 p3 p4 p5 p6)), .val (.ref b13), .val (.int (v0_40 p1 p2 p3 p4 p5 p6)), .unset] [(.int ((v0_7 p1 p2 p3 p4 p5 p6) + (v0_40 p1 p2 p3 p4 p5 p6))), (.ref b1)])
                  refine Go.bald X37 hx hZ e37 A_b1 (own_ia p1 p2 p3 p4 p5 p6 c39 c41) (hb hby at_198) ?_
                  show Go p e below W T37 (mkF m 199 #[.val (.int p1), .val (.int p2), .val (.int p3), .val (.int p4), .val (.int p5), .val (.int p6), .val (.ref b1), .val (.int (v0_3 p1 p2 p3 p4 p5 p6)), .val (.int (v0_6 p1 p2 p3 p4 p5 p6)), .val (.int (v0_7 p1 p2 p3 p4 p5 p6)), .val (.int (v0_8 p1 p2 p3 p4 p5 p6)), .val (.int (v0_9 p1 p2 p3 p4 p5 p6)), .val (.ref b10), .val (.int (v0_17 p1 p2 p3 p4 p5 p6)), .val (.int (v0_33 p1 p2 p3 p4 p5 p6)), .val (.ref b13), .val (.int (v0_40 p1 p2 p3 p4 p5 p6)), .unset] [(.int (w0_5 p1 p2 p3 p4 p5 p6 ((v0_7 p1 p2 p3 p4 p5 p6) + (v0_40 p1 p2 p3 p4 p5 p6)).toNatClampNeg))])
                  refine Go.of (fun _ k => XS.goto X37.here hx rfl (pc0 := 199) (pc' := 213) rfl (hb hby at_199) (by decide) (by decide) k) ?_
                  have G42 := G42
                  have q_v0_43 : (v0_43 p1 p2 p3 p4 p5 p6) = (w0_5 p1 p2 p3 p4 p5 p6 ((v0_7 p1 p2 p3 p4 p5 p6) + (v0_40 p1 p2 p3 p4 p5 p6)).toNatClampNeg) := by rw [v0_43, if_pos c41]
                  rw [q_v0_43] at G42
                  exact G42 _ X37 e37
                · refine Go.of (fun _ k => XS.icmpYes X37.here hx rfl (pc0 := 188) (pc' := 202) rfl (hb hby at_188) rfl (Jvm.Free.XT.ii_ge_t c41) (by decide) (by decide) k) ?_
                  show Go p e below W T37 (mkF m 202 #[.val (.int p1), .val (.int p2), .val (.int p3), .val (.int p4), .val (.int p5), .val (.int p6), .val (.ref b1), .val (.int (v0_3 p1 p2 p3 p4 p5 p6)), .val (.int (v0_6 p1 p2 p3 p4 p5 p6)), .val (.int (v0_7 p1 p2 p3 p4 p5 p6)), .val (.int (v0_8 p1 p2 p3 p4 p5 p6)), .val (.int (v0_9 p1 p2 p3 p4 p5 p6)), .val (.ref b10), .val (.int (v0_17 p1 p2 p3 p4 p5 p6)), .val (.int (v0_33 p1 p2 p3 p4 p5 p6)), .val (.ref b13), .val (.int (v0_40 p1 p2 p3 p4 p5 p6)), .unset] [])
                  refine Go.of (fun _ k => XS.aload X37.here hx rfl (hb hby at_202) rfl rfl k) ?_
                  show Go p e below W T37 (mkF m 204 #[.val (.int p1), .val (.int p2), .val (.int p3), .val (.int p4), .val (.int p5), .val (.int p6), .val (.ref b1), .val (.int (v0_3 p1 p2 p3 p4 p5 p6)), .val (.int (v0_6 p1 p2 p3 p4 p5 p6)), .val (.int (v0_7 p1 p2 p3 p4 p5 p6)), .val (.int (v0_8 p1 p2 p3 p4 p5 p6)), .val (.int (v0_9 p1 p2 p3 p4 p5 p6)), .val (.ref b10), .val (.int (v0_17 p1 p2 p3 p4 p5 p6)), .val (.int (v0_33 p1 p2 p3 p4 p5 p6)), .val (.ref b13), .val (.int (v0_40 p1 p2 p3 p4 p5 p6)), .unset] [(.ref b1)])
                  refine Go.of (fun _ k => XS.iload X37.here hx rfl (hb hby at_204) rfl k) ?_
                  show Go p e below W T37 (mkF m 206 #[.val (.int p1), .val (.int p2), .val (.int p3), .val (.int p4), .val (.int p5), .val (.int p6), .val (.ref b1), .val (.int (v0_3 p1 p2 p3 p4 p5 p6)), .val (.int (v0_6 p1 p2 p3 p4 p5 p6)), .val (.int (v0_7 p1 p2 p3 p4 p5 p6)), .val (.int (v0_8 p1 p2 p3 p4 p5 p6)), .val (.int (v0_9 p1 p2 p3 p4 p5 p6)), .val (.ref b10), .val (.int (v0_17 p1 p2 p3 p4 p5 p6)), .val (.int (v0_33 p1 p2 p3 p4 p5 p6)), .val (.ref b13), .val (.int (v0_40 p1 p2 p3 p4 p5 p6)), .unset] [(.int (v0_9 p1 p2 p3 p4 p5 p6)), (.ref b1)])
                  refine Go.of (fun _ k => XS.iload X37.here hx rfl (hb hby at_206) rfl k) ?_
                  show Go p e below W T37 (mkF m 208 #[.val (.int p1), .val (.int p2), .val (.int p3), .val (.int p4), .val (.int p5), .val (.int p6), .val (.ref b1), .val (.int (v0_3 p1 p2 p3 p4 p5 p6)), .val (.int (v0_6 p1 p2 p3 p4 p5 p6)), .val (.int (v0_7 p1 p2 p3 p4 p5 p6)), .val (.int (v0_8 p1 p2 p3 p4 p5 p6)), .val (.int (v0_9 p1 p2 p3 p4 p5 p6)), .val (.ref b10), .val (.int (v0_17 p1 p2 p3 p4 p5 p6)), .val (.int (v0_33 p1 p2 p3 p4 p5 p6)), .val (.ref b13), .val (.int (v0_40 p1 p2 p3 p4 p5 p6)), .unset] [(.int (v0_40 p1 p2 p3 p4 p5 p6)), (.int (v0_9 p1 p2 p3 p4 p5 p6)), (.ref b1)])
                  refine Go.of (fun _ k => XS.iadd X37.here hx rfl (hb hby at_208) rfl k) ?_
                  show Go p e below W T37 (mkF m 209 #[.val (.int p1), .val (.int p2), .val (.int p3), .val (.int p4), .val (.int p5), .val (.int p6), .val (.ref b1), .val (.int (v0_3 p1 p2 p3 p4 p5 p6)), .val (.int (v0_6 p1 p2 p3 p4 p5 p6)), .val (.int (v0_7 p1 p2 p3 p4 p5 p6)), .val (.int (v0_8 p1 p2 p3 p4 p5 p6)), .val (.int (v0_9 p1 p2 p3 p4 p5 p6)), .val (.ref b10), .val (.int (v0_17 p1 p2 p3 p4 p5 p6)), .val (.int (v0_33 p1 p2 p3 p4 p5 p6)), .val (.ref b13), .val (.int (v0_40 p1 p2 p3 p4 p5 p6)), .unset] [(.int ((v0_9 p1 p2 p3 p4 p5 p6) + (v0_40 p1 p2 p3 p4 p5 p6))), (.ref b1)])
                  refine Go.of (fun _ k => XS.iload X37.here hx rfl (hb hby at_209) rfl k) ?_
                  show Go p e below W T37 (mkF m 211 #[.val (.int p1), .val (.int p2), .val (.int p3), .val (.int p4), .val (.int p5), .val (.int p6), .val (.ref b1), .val (.int (v0_3 p1 p2 p3 p4 p5 p6)), .val (.int (v0_6 p1 p2 p3 p4 p5 p6)), .val (.int (v0_7 p1 p2 p3 p4 p5 p6)), .val (.int (v0_8 p1 p2 p3 p4 p5 p6)), .val (.int (v0_9 p1 p2 p3 p4 p5 p6)), .val (.ref b10), .val (.int (v0_17 p1 p2 p3 p4 p5 p6)), .val (.int (v0_33 p1 p2 p3 p4 p5 p6)), .val (.ref b13), .val (.int (v0_40 p1 p2 p3 p4 p5 p6)), .unset] [(.int (v0_6 p1 p2 p3 p4 p5 p6)), (.int ((v0_9 p1 p2 p3 p4 p5 p6) + (v0_40 p1 p2 p3 p4 p5 p6))), (.ref b1)])
                  refine Go.of (fun _ k => XS.isub X37.here hx rfl (hb hby at_211) rfl k) ?_
                  show Go p e below W T37 (mkF m 212 #[.val (.int p1), .val (.int p2), .val (.int p3), .val (.int p4), .val (.int p5), .val (.int p6), .val (.ref b1), .val (.int (v0_3 p1 p2 p3 p4 p5 p6)), .val (.int (v0_6 p1 p2 p3 p4 p5 p6)), .val (.int (v0_7 p1 p2 p3 p4 p5 p6)), .val (.int (v0_8 p1 p2 p3 p4 p5 p6)), .val (.int (v0_9 p1 p2 p3 p4 p5 p6)), .val (.ref b10), .val (.int (v0_17 p1 p2 p3 p4 p5 p6)), .val (.int (v0_33 p1 p2 p3 p4 p5 p6)), .val (.ref b13), .val (.int (v0_40 p1 p2 p3 p4 p5 p6)), .unset] [(.int (((v0_9 p1 p2 p3 p4 p5 p6) + (v0_40 p1 p2 p3 p4 p5 p6)) - (v0_6 p1 p2 p3 p4 p5 p6))), (.ref b1)])
                  refine Go.bald X37 hx hZ e37 A_b1 (own_ib p1 p2 p3 p4 p5 p6 c39 c41) (hb hby at_212) ?_
                  have G42 := G42
                  have q_v0_43 : (v0_43 p1 p2 p3 p4 p5 p6) = (w0_5 p1 p2 p3 p4 p5 p6 (((v0_9 p1 p2 p3 p4 p5 p6) + (v0_40 p1 p2 p3 p4 p5 p6)) - (v0_6 p1 p2 p3 p4 p5 p6)).toNatClampNeg) := by rw [v0_43, if_neg c41]
                  rw [q_v0_43] at G42
                  exact G42 _ X37 e37
              intro T42 X42 e42
              show Go p e below W T42 (mkF m 213 #[.val (.int p1), .val (.int p2), .val (.int p3), .val (.int p4), .val (.int p5), .val (.int p6), .val (.ref b1), .val (.int (v0_3 p1 p2 p3 p4 p5 p6)), .val (.int (v0_6 p1 p2 p3 p4 p5 p6)), .val (.int (v0_7 p1 p2 p3 p4 p5 p6)), .val (.int (v0_8 p1 p2 p3 p4 p5 p6)), .val (.int (v0_9 p1 p2 p3 p4 p5 p6)), .val (.ref b10), .val (.int (v0_17 p1 p2 p3 p4 p5 p6)), .val (.int (v0_33 p1 p2 p3 p4 p5 p6)), .val (.ref b13), .val (.int (v0_40 p1 p2 p3 p4 p5 p6)), .unset] [(.int (v0_43 p1 p2 p3 p4 p5 p6))])
              refine Go.of (fun _ k => XS.istore X42.here hx rfl (hb hby at_213) rfl (l' := #[.val (.int p1), .val (.int p2), .val (.int p3), .val (.int p4), .val (.int p5), .val (.int p6), .val (.ref b1), .val (.int (v0_3 p1 p2 p3 p4 p5 p6)), .val (.int (v0_6 p1 p2 p3 p4 p5 p6)), .val (.int (v0_7 p1 p2 p3 p4 p5 p6)), .val (.int (v0_8 p1 p2 p3 p4 p5 p6)), .val (.int (v0_9 p1 p2 p3 p4 p5 p6)), .val (.ref b10), .val (.int (v0_17 p1 p2 p3 p4 p5 p6)), .val (.int (v0_33 p1 p2 p3 p4 p5 p6)), .val (.ref b13), .val (.int (v0_40 p1 p2 p3 p4 p5 p6)), .val (.int (v0_43 p1 p2 p3 p4 p5 p6))]) rfl k) ?_
              show Go p e below W T42 (mkF m 215 #[.val (.int p1), .val (.int p2), .val (.int p3), .val (.int p4), .val (.int p5), .val (.int p6), .val (.ref b1), .val (.int (v0_3 p1 p2 p3 p4 p5 p6)), .val (.int (v0_6 p1 p2 p3 p4 p5 p6)), .val (.int (v0_7 p1 p2 p3 p4 p5 p6)), .val (.int (v0_8 p1 p2 p3 p4 p5 p6)), .val (.int (v0_9 p1 p2 p3 p4 p5 p6)), .val (.ref b10), .val (.int (v0_17 p1 p2 p3 p4 p5 p6)), .val (.int (v0_33 p1 p2 p3 p4 p5 p6)), .val (.ref b13), .val (.int (v0_40 p1 p2 p3 p4 p5 p6)), .val (.int (v0_43 p1 p2 p3 p4 p5 p6))] [])
              refine Go.of (fun _ k => XS.aload X42.here hx rfl (hb hby at_215) rfl rfl k) ?_
              show Go p e below W T42 (mkF m 217 #[.val (.int p1), .val (.int p2), .val (.int p3), .val (.int p4), .val (.int p5), .val (.int p6), .val (.ref b1), .val (.int (v0_3 p1 p2 p3 p4 p5 p6)), .val (.int (v0_6 p1 p2 p3 p4 p5 p6)), .val (.int (v0_7 p1 p2 p3 p4 p5 p6)), .val (.int (v0_8 p1 p2 p3 p4 p5 p6)), .val (.int (v0_9 p1 p2 p3 p4 p5 p6)), .val (.ref b10), .val (.int (v0_17 p1 p2 p3 p4 p5 p6)), .val (.int (v0_33 p1 p2 p3 p4 p5 p6)), .val (.ref b13), .val (.int (v0_40 p1 p2 p3 p4 p5 p6)), .val (.int (v0_43 p1 p2 p3 p4 p5 p6))] [(.ref b13)])
              refine Go.of (fun _ k => XS.iload X42.here hx rfl (hb hby at_217) rfl k) ?_
              show Go p e below W T42 (mkF m 219 #[.val (.int p1), .val (.int p2), .val (.int p3), .val (.int p4), .val (.int p5), .val (.int p6), .val (.ref b1), .val (.int (v0_3 p1 p2 p3 p4 p5 p6)), .val (.int (v0_6 p1 p2 p3 p4 p5 p6)), .val (.int (v0_7 p1 p2 p3 p4 p5 p6)), .val (.int (v0_8 p1 p2 p3 p4 p5 p6)), .val (.int (v0_9 p1 p2 p3 p4 p5 p6)), .val (.ref b10), .val (.int (v0_17 p1 p2 p3 p4 p5 p6)), .val (.int (v0_33 p1 p2 p3 p4 p5 p6)), .val (.ref b13), .val (.int (v0_40 p1 p2 p3 p4 p5 p6)), .val (.int (v0_43 p1 p2 p3 p4 p5 p6))] [(.int (v0_40 p1 p2 p3 p4 p5 p6)), (.ref b13)])
              refine Go.bald X42 hx hZ e42 A_b13 (own_ic p1 p2 p3 p4 p5 p6 A_b13.small c38 c39) (hb hby at_219) ?_
              show Go p e below W T42 (mkF m 220 #[.val (.int p1), .val (.int p2), .val (.int p3), .val (.int p4), .val (.int p5), .val (.int p6), .val (.ref b1), .val (.int (v0_3 p1 p2 p3 p4 p5 p6)), .val (.int (v0_6 p1 p2 p3 p4 p5 p6)), .val (.int (v0_7 p1 p2 p3 p4 p5 p6)), .val (.int (v0_8 p1 p2 p3 p4 p5 p6)), .val (.int (v0_9 p1 p2 p3 p4 p5 p6)), .val (.ref b10), .val (.int (v0_17 p1 p2 p3 p4 p5 p6)), .val (.int (v0_33 p1 p2 p3 p4 p5 p6)), .val (.ref b13), .val (.int (v0_40 p1 p2 p3 p4 p5 p6)), .val (.int (v0_43 p1 p2 p3 p4 p5 p6))] [(.int ((f4k_ab (v0_9 p1 p2 p3 p4 p5 p6) (v0_8 p1 p2 p3 p4 p5 p6) (f4g_size (v0_7 p1 p2 p3 p4 p5 p6) (v0_6 p1 p2 p3 p4 p5 p6) (0 : Int32) f1_nb (w0_5 p1 p2 p3 p4 p5 p6) (1024 : Nat)) (f4g_nb (v0_7 p1 p2 p3 p4 p5 p6) (v0_6 p1 p2 p3 p4 p5 p6) (0 : Int32) f1_nb (w0_5 p1 p2 p3 p4 p5 p6) (1024 : Nat)) (w0_5 p1 p2 p3 p4 p5 p6) (f8 ((2 : Int32) * (1024 : Nat).toInt32) ((0 : Int32) + (v0_6 p1 p2 p3 p4 p5 p6))).toNatClampNeg) (v0_40 p1 p2 p3 p4 p5 p6).toNatClampNeg))])
              refine Go.of (fun _ k => XS.iload X42.here hx rfl (hb hby at_220) rfl k) ?_
              show Go p e below W T42 (mkF m 222 #[.val (.int p1), .val (.int p2), .val (.int p3), .val (.int p4), .val (.int p5), .val (.int p6), .val (.ref b1), .val (.int (v0_3 p1 p2 p3 p4 p5 p6)), .val (.int (v0_6 p1 p2 p3 p4 p5 p6)), .val (.int (v0_7 p1 p2 p3 p4 p5 p6)), .val (.int (v0_8 p1 p2 p3 p4 p5 p6)), .val (.int (v0_9 p1 p2 p3 p4 p5 p6)), .val (.ref b10), .val (.int (v0_17 p1 p2 p3 p4 p5 p6)), .val (.int (v0_33 p1 p2 p3 p4 p5 p6)), .val (.ref b13), .val (.int (v0_40 p1 p2 p3 p4 p5 p6)), .val (.int (v0_43 p1 p2 p3 p4 p5 p6))] [(.int (v0_43 p1 p2 p3 p4 p5 p6)), (.int ((f4k_ab (v0_9 p1 p2 p3 p4 p5 p6) (v0_8 p1 p2 p3 p4 p5 p6) (f4g_size (v0_7 p1 p2 p3 p4 p5 p6) (v0_6 p1 p2 p3 p4 p5 p6) (0 : Int32) f1_nb (w0_5 p1 p2 p3 p4 p5 p6) (1024 : Nat)) (f4g_nb (v0_7 p1 p2 p3 p4 p5 p6) (v0_6 p1 p2 p3 p4 p5 p6) (0 : Int32) f1_nb (w0_5 p1 p2 p3 p4 p5 p6) (1024 : Nat)) (w0_5 p1 p2 p3 p4 p5 p6) (f8 ((2 : Int32) * (1024 : Nat).toInt32) ((0 : Int32) + (v0_6 p1 p2 p3 p4 p5 p6))).toNatClampNeg) (v0_40 p1 p2 p3 p4 p5 p6).toNatClampNeg))])
              by_cases c44 : ((f4k_ab (v0_9 p1 p2 p3 p4 p5 p6) (v0_8 p1 p2 p3 p4 p5 p6) (f4g_size (v0_7 p1 p2 p3 p4 p5 p6) (v0_6 p1 p2 p3 p4 p5 p6) (0 : Int32) f1_nb (w0_5 p1 p2 p3 p4 p5 p6) (1024 : Nat)) (f4g_nb (v0_7 p1 p2 p3 p4 p5 p6) (v0_6 p1 p2 p3 p4 p5 p6) (0 : Int32) f1_nb (w0_5 p1 p2 p3 p4 p5 p6) (1024 : Nat)) (w0_5 p1 p2 p3 p4 p5 p6) (f8 ((2 : Int32) * (1024 : Nat).toInt32) ((0 : Int32) + (v0_6 p1 p2 p3 p4 p5 p6))).toNatClampNeg) (v0_40 p1 p2 p3 p4 p5 p6).toNatClampNeg) = (v0_43 p1 p2 p3 p4 p5 p6)
              · refine Go.of (fun _ k => XS.icmpNo X42.here hx rfl (hb hby at_222) rfl (Jvm.Free.XT.ii_ne_f c44) k) ?_
                show Go p e below W T42 (mkF m 225 #[.val (.int p1), .val (.int p2), .val (.int p3), .val (.int p4), .val (.int p5), .val (.int p6), .val (.ref b1), .val (.int (v0_3 p1 p2 p3 p4 p5 p6)), .val (.int (v0_6 p1 p2 p3 p4 p5 p6)), .val (.int (v0_7 p1 p2 p3 p4 p5 p6)), .val (.int (v0_8 p1 p2 p3 p4 p5 p6)), .val (.int (v0_9 p1 p2 p3 p4 p5 p6)), .val (.ref b10), .val (.int (v0_17 p1 p2 p3 p4 p5 p6)), .val (.int (v0_33 p1 p2 p3 p4 p5 p6)), .val (.ref b13), .val (.int (v0_40 p1 p2 p3 p4 p5 p6)), .val (.int (v0_43 p1 p2 p3 p4 p5 p6))] [])
                refine Go.of (fun _ k => XS.iconst X42.here hx rfl (hb hby at_225) k) ?_
                show Go p e below W T42 (mkF m 226 #[.val (.int p1), .val (.int p2), .val (.int p3), .val (.int p4), .val (.int p5), .val (.int p6), .val (.ref b1), .val (.int (v0_3 p1 p2 p3 p4 p5 p6)), .val (.int (v0_6 p1 p2 p3 p4 p5 p6)), .val (.int (v0_7 p1 p2 p3 p4 p5 p6)), .val (.int (v0_8 p1 p2 p3 p4 p5 p6)), .val (.int (v0_9 p1 p2 p3 p4 p5 p6)), .val (.ref b10), .val (.int (v0_17 p1 p2 p3 p4 p5 p6)), .val (.int (v0_33 p1 p2 p3 p4 p5 p6)), .val (.ref b13), .val (.int (v0_40 p1 p2 p3 p4 p5 p6)), .val (.int (v0_43 p1 p2 p3 p4 p5 p6))] [(.int (1 : Int32))])
                refine Go.of (fun _ k => XS.goto X42.here hx rfl (pc0 := 226) (pc' := 230) rfl (hb hby at_226) (by decide) (by decide) k) ?_
                show Go p e below W T42 (mkF m 230 #[.val (.int p1), .val (.int p2), .val (.int p3), .val (.int p4), .val (.int p5), .val (.int p6), .val (.ref b1), .val (.int (v0_3 p1 p2 p3 p4 p5 p6)), .val (.int (v0_6 p1 p2 p3 p4 p5 p6)), .val (.int (v0_7 p1 p2 p3 p4 p5 p6)), .val (.int (v0_8 p1 p2 p3 p4 p5 p6)), .val (.int (v0_9 p1 p2 p3 p4 p5 p6)), .val (.ref b10), .val (.int (v0_17 p1 p2 p3 p4 p5 p6)), .val (.int (v0_33 p1 p2 p3 p4 p5 p6)), .val (.ref b13), .val (.int (v0_40 p1 p2 p3 p4 p5 p6)), .val (.int (v0_43 p1 p2 p3 p4 p5 p6))] [(.int (1 : Int32))])
                have u_f0 : (f0 p1 p2 p3 p4 p5 p6) = (1 : Int32) := by rw [f0, if_pos c12, if_neg c18, if_neg c34, if_pos c36, if_neg c38, if_neg c39, if_pos c44]
                have fin : Q0 Z p1 p2 p3 p4 p5 p6 h0 n0 (some (.int (f0 p1 p2 p3 p4 p5 p6))) T32.heap L32 := ⟨rfl, N, K⟩
                exact Go.retN X42 hx hret (Or.inl rfl) (hb hby at_230) hlk (Eq.trans rfl u_f0.symm) (fun t ht fe => hW t _ _ _ _ (by rw [ht, e42]; exact fin) fe (by decide) (by decide))
              · refine Go.of (fun _ k => XS.icmpYes X42.here hx rfl (pc0 := 222) (pc' := 229) rfl (hb hby at_222) rfl (Jvm.Free.XT.ii_ne_t c44) (by decide) (by decide) k) ?_
                show Go p e below W T42 (mkF m 229 #[.val (.int p1), .val (.int p2), .val (.int p3), .val (.int p4), .val (.int p5), .val (.int p6), .val (.ref b1), .val (.int (v0_3 p1 p2 p3 p4 p5 p6)), .val (.int (v0_6 p1 p2 p3 p4 p5 p6)), .val (.int (v0_7 p1 p2 p3 p4 p5 p6)), .val (.int (v0_8 p1 p2 p3 p4 p5 p6)), .val (.int (v0_9 p1 p2 p3 p4 p5 p6)), .val (.ref b10), .val (.int (v0_17 p1 p2 p3 p4 p5 p6)), .val (.int (v0_33 p1 p2 p3 p4 p5 p6)), .val (.ref b13), .val (.int (v0_40 p1 p2 p3 p4 p5 p6)), .val (.int (v0_43 p1 p2 p3 p4 p5 p6))] [])
                refine Go.of (fun _ k => XS.iconst X42.here hx rfl (hb hby at_229) k) ?_
                show Go p e below W T42 (mkF m 230 #[.val (.int p1), .val (.int p2), .val (.int p3), .val (.int p4), .val (.int p5), .val (.int p6), .val (.ref b1), .val (.int (v0_3 p1 p2 p3 p4 p5 p6)), .val (.int (v0_6 p1 p2 p3 p4 p5 p6)), .val (.int (v0_7 p1 p2 p3 p4 p5 p6)), .val (.int (v0_8 p1 p2 p3 p4 p5 p6)), .val (.int (v0_9 p1 p2 p3 p4 p5 p6)), .val (.ref b10), .val (.int (v0_17 p1 p2 p3 p4 p5 p6)), .val (.int (v0_33 p1 p2 p3 p4 p5 p6)), .val (.ref b13), .val (.int (v0_40 p1 p2 p3 p4 p5 p6)), .val (.int (v0_43 p1 p2 p3 p4 p5 p6))] [(.int (0 : Int32))])
                have u_f0 : (f0 p1 p2 p3 p4 p5 p6) = (0 : Int32) := by rw [f0, if_pos c12, if_neg c18, if_neg c34, if_pos c36, if_neg c38, if_neg c39, if_neg c44]
                have fin : Q0 Z p1 p2 p3 p4 p5 p6 h0 n0 (some (.int (f0 p1 p2 p3 p4 p5 p6))) T32.heap L32 := ⟨rfl, N, K⟩
                exact Go.retN X42 hx hret (Or.inl rfl) (hb hby at_230) hlk (Eq.trans rfl u_f0.symm) (fun t ht fe => hW t _ _ _ _ (by rw [ht, e42]; exact fin) fe (by decide) (by decide))
        · refine Go.of (fun _ k => XS.icmpNo X35.here hx rfl (hb hby at_145) rfl (Jvm.Free.XT.ii_eq_f c36) k) ?_
          show Go p e below W T35 (mkF m 148 #[.val (.int p1), .val (.int p2), .val (.int p3), .val (.int p4), .val (.int p5), .val (.int p6), .val (.ref b1), .val (.int (v0_3 p1 p2 p3 p4 p5 p6)), .val (.int (v0_6 p1 p2 p3 p4 p5 p6)), .val (.int (v0_7 p1 p2 p3 p4 p5 p6)), .val (.int (v0_8 p1 p2 p3 p4 p5 p6)), .val (.int (v0_9 p1 p2 p3 p4 p5 p6)), .val (.ref b10), .val (.int (v0_17 p1 p2 p3 p4 p5 p6)), .val (.int (v0_33 p1 p2 p3 p4 p5 p6)), .unset, .unset, .unset] [])
          refine Go.of (fun _ k => XS.iconst X35.here hx rfl (hb hby at_148) k) ?_
          show Go p e below W T35 (mkF m 149 #[.val (.int p1), .val (.int p2), .val (.int p3), .val (.int p4), .val (.int p5), .val (.int p6), .val (.ref b1), .val (.int (v0_3 p1 p2 p3 p4 p5 p6)), .val (.int (v0_6 p1 p2 p3 p4 p5 p6)), .val (.int (v0_7 p1 p2 p3 p4 p5 p6)), .val (.int (v0_8 p1 p2 p3 p4 p5 p6)), .val (.int (v0_9 p1 p2 p3 p4 p5 p6)), .val (.ref b10), .val (.int (v0_17 p1 p2 p3 p4 p5 p6)), .val (.int (v0_33 p1 p2 p3 p4 p5 p6)), .unset, .unset, .unset] [(.int (0 : Int32))])
          have u_f0 : (f0 p1 p2 p3 p4 p5 p6) = (0 : Int32) := by rw [f0, if_pos c12, if_neg c18, if_neg c34, if_neg c36]
          have fin : Q0 Z p1 p2 p3 p4 p5 p6 h0 n0 (some (.int (f0 p1 p2 p3 p4 p5 p6))) T32.heap L32 := ⟨rfl, N, K⟩
          exact Go.retN X35 hx hret (Or.inl rfl) (hb hby at_149) hlk (Eq.trans rfl u_f0.symm) (fun t ht fe => hW t _ _ _ _ (by rw [ht, e35]; exact fin) fe (by decide) (by decide))
  · show Go p e below W T11 (mkF m 95 #[.val (.int p1), .val (.int p2), .val (.int p3), .val (.int p4), .val (.int p5), .val (.int p6), .val (.ref b1), .val (.int (v0_3 p1 p2 p3 p4 p5 p6)), .val (.int (v0_6 p1 p2 p3 p4 p5 p6)), .val (.int (v0_7 p1 p2 p3 p4 p5 p6)), .val (.int (v0_8 p1 p2 p3 p4 p5 p6)), .val (.int (v0_9 p1 p2 p3 p4 p5 p6)), .val (.ref b10), .unset, .unset, .unset, .unset, .unset] [(.int (v0_6 p1 p2 p3 p4 p5 p6)), (.int (v0_7 p1 p2 p3 p4 p5 p6)), (.ref b1), (.ref b10)])
    refine Go.callV X11 hx hZ hown (hw _ (List.mem_of_getElem? (i := 18) rfl)) (hw _ (List.mem_of_getElem? (i := 19) rfl)) (hw _ (List.mem_of_getElem? (i := 21) rfl)) (hw _ (List.mem_of_getElem? (i := 20) rfl)) (hw _ (List.mem_of_getElem? (i := 4) rfl)) (hw _ (List.mem_of_getElem? (i := 22) rfl)) (by decide) rfl E_b10 (rm4k l Z a0 hw [] b10 b1 (v0_7 p1 p2 p3 p4 p5 p6) (v0_6 p1 p2 p3 p4 p5 p6) (0 : Int32) b11 f1_nb (1024 : Nat) (w0_5 p1 p2 p3 p4 p5 p6) T11.heap n0 Z0 E_b10 F_b10_size F_b10_bytes A_b11 A_b1 g_b10 ne_b10_b11 (Ne.symm ne_b1_b10) (Ne.symm ne_b1_b11) g_b11 c12 (own_h95 p1 p2 p3 p4 p5 p6)) (V := 0) (by decide) (by decide) (by decide) (by decide) (by rw [hml]; rfl) (argsL := [(.ref b1), (.int (v0_7 p1 p2 p3 p4 p5 p6)), (.int (v0_6 p1 p2 p3 p4 p5 p6))]) (rest := []) rfl (lenOf pd___BII_V rfl) rfl (Nat.le_of_ble_eq_true rfl) (hb hby at_95) ?_
    rintro T45 _ M45 ⟨rfl, N45, K45, F_b10_size, F_b10_bytes, A_b11⟩ X45
    obtain ⟨L45, zq45⟩ : ∃ z, z = L11 ++ M45 := ⟨_, rfl⟩
    have N := Fr.app N N45
    rw [← zq45] at X45 N
    have A_b1 := A_b1.keep K45 (ninS ne_b1_b10 (ninS ne_b1_b11 nin0))
    have E_b10 := E_b10.keep K45
    have K := K.trans K45 (by
      intro x hx
      simp only [List.mem_cons, List.not_mem_nil, or_false] at hx
      rcases hx with rfl | rfl
      · exact Or.inr s_b10
      · exact Or.inr s_b11)
    have Z0 := Nat.le_trans Z0 K45.1
    show Go p e below W T45 (mkF m 98 #[.val (.int p1), .val (.int p2), .val (.int p3), .val (.int p4), .val (.int p5), .val (.int p6), .val (.ref b1), .val (.int (v0_3 p1 p2 p3 p4 p5 p6)), .val (.int (v0_6 p1 p2 p3 p4 p5 p6)), .val (.int (v0_7 p1 p2 p3 p4 p5 p6)), .val (.int (v0_8 p1 p2 p3 p4 p5 p6)), .val (.int (v0_9 p1 p2 p3 p4 p5 p6)), .val (.ref b10), .unset, .unset, .unset, .unset, .unset] [])
    refine Go.of (fun _ k => XS.aload X45.here hx rfl (hb hby at_98) rfl rfl k) ?_
    show Go p e below W T45 (mkF m 100 #[.val (.int p1), .val (.int p2), .val (.int p3), .val (.int p4), .val (.int p5), .val (.int p6), .val (.ref b1), .val (.int (v0_3 p1 p2 p3 p4 p5 p6)), .val (.int (v0_6 p1 p2 p3 p4 p5 p6)), .val (.int (v0_7 p1 p2 p3 p4 p5 p6)), .val (.int (v0_8 p1 p2 p3 p4 p5 p6)), .val (.int (v0_9 p1 p2 p3 p4 p5 p6)), .val (.ref b10), .unset, .unset, .unset, .unset, .unset] [(.ref b10)])
    refine Go.callV X45 hx hZ hown (hw _ (List.mem_of_getElem? (i := 33) rfl)) (hw _ (List.mem_of_getElem? (i := 34) rfl)) (hw _ (List.mem_of_getElem? (i := 36) rfl)) (hw _ (List.mem_of_getElem? (i := 35) rfl)) (hw _ (List.mem_of_getElem? (i := 4) rfl)) (hw _ (List.mem_of_getElem? (i := 37) rfl)) (by decide) rfl E_b10 (rm6 l Z a0 hw [] b10 (f4k_size (v0_7 p1 p2 p3 p4 p5 p6) (v0_6 p1 p2 p3 p4 p5 p6) (0 : Int32) f1_nb (w0_5 p1 p2 p3 p4 p5 p6) (1024 : Nat)) T45.heap F_b10_size) (V := 0) (by decide) (by decide) (by decide) (by decide) (by rw [hml]; rfl) (argsL := []) (rest := []) rfl (lenOf pd___I rfl) rfl (Nat.le_of_ble_eq_true rfl) (hb hby at_100) ?_
    rintro T46 _ _ ⟨rfl, rfl, e46⟩ X46
    rw [List.append_nil] at X46
    show Go p e below W T46 (mkF m 103 #[.val (.int p1), .val (.int p2), .val (.int p3), .val (.int p4), .val (.int p5), .val (.int p6), .val (.ref b1), .val (.int (v0_3 p1 p2 p3 p4 p5 p6)), .val (.int (v0_6 p1 p2 p3 p4 p5 p6)), .val (.int (v0_7 p1 p2 p3 p4 p5 p6)), .val (.int (v0_8 p1 p2 p3 p4 p5 p6)), .val (.int (v0_9 p1 p2 p3 p4 p5 p6)), .val (.ref b10), .unset, .unset, .unset, .unset, .unset] [(.int (f6 (f4k_size (v0_7 p1 p2 p3 p4 p5 p6) (v0_6 p1 p2 p3 p4 p5 p6) (0 : Int32) f1_nb (w0_5 p1 p2 p3 p4 p5 p6) (1024 : Nat))))])
    refine Go.of (fun _ k => XS.iload X46.here hx rfl (hb hby at_103) rfl k) ?_
    show Go p e below W T46 (mkF m 105 #[.val (.int p1), .val (.int p2), .val (.int p3), .val (.int p4), .val (.int p5), .val (.int p6), .val (.ref b1), .val (.int (v0_3 p1 p2 p3 p4 p5 p6)), .val (.int (v0_6 p1 p2 p3 p4 p5 p6)), .val (.int (v0_7 p1 p2 p3 p4 p5 p6)), .val (.int (v0_8 p1 p2 p3 p4 p5 p6)), .val (.int (v0_9 p1 p2 p3 p4 p5 p6)), .val (.ref b10), .unset, .unset, .unset, .unset, .unset] [(.int (v0_6 p1 p2 p3 p4 p5 p6)), (.int (f6 (f4k_size (v0_7 p1 p2 p3 p4 p5 p6) (v0_6 p1 p2 p3 p4 p5 p6) (0 : Int32) f1_nb (w0_5 p1 p2 p3 p4 p5 p6) (1024 : Nat))))])
    suffices G48 : ∀ T', Stand p l e room_1 s m #[(.int p1), (.int p2), (.int p3), (.int p4), (.int p5), (.int p6)] below meth c T' L45 3 3226 → T'.heap = T45.heap → Go p e below W T' (mkF m 113 #[.val (.int p1), .val (.int p2), .val (.int p3), .val (.int p4), .val (.int p5), .val (.int p6), .val (.ref b1), .val (.int (v0_3 p1 p2 p3 p4 p5 p6)), .val (.int (v0_6 p1 p2 p3 p4 p5 p6)), .val (.int (v0_7 p1 p2 p3 p4 p5 p6)), .val (.int (v0_8 p1 p2 p3 p4 p5 p6)), .val (.int (v0_9 p1 p2 p3 p4 p5 p6)), .val (.ref b10), .unset, .unset, .unset, .unset, .unset] [(.int (v0_49 p1 p2 p3 p4 p5 p6))]) by
      by_cases c47 : (f6 (f4k_size (v0_7 p1 p2 p3 p4 p5 p6) (v0_6 p1 p2 p3 p4 p5 p6) (0 : Int32) f1_nb (w0_5 p1 p2 p3 p4 p5 p6) (1024 : Nat))) = (v0_6 p1 p2 p3 p4 p5 p6)
      · refine Go.of (fun _ k => XS.icmpNo X46.here hx rfl (hb hby at_105) rfl (Jvm.Free.XT.ii_ne_f c47) k) ?_
        show Go p e below W T46 (mkF m 108 #[.val (.int p1), .val (.int p2), .val (.int p3), .val (.int p4), .val (.int p5), .val (.int p6), .val (.ref b1), .val (.int (v0_3 p1 p2 p3 p4 p5 p6)), .val (.int (v0_6 p1 p2 p3 p4 p5 p6)), .val (.int (v0_7 p1 p2 p3 p4 p5 p6)), .val (.int (v0_8 p1 p2 p3 p4 p5 p6)), .val (.int (v0_9 p1 p2 p3 p4 p5 p6)), .val (.ref b10), .unset, .unset, .unset, .unset, .unset] [])
        refine Go.of (fun _ k => XS.iconst X46.here hx rfl (hb hby at_108) k) ?_
        show Go p e below W T46 (mkF m 109 #[.val (.int p1), .val (.int p2), .val (.int p3), .val (.int p4), .val (.int p5), .val (.int p6), .val (.ref b1), .val (.int (v0_3 p1 p2 p3 p4 p5 p6)), .val (.int (v0_6 p1 p2 p3 p4 p5 p6)), .val (.int (v0_7 p1 p2 p3 p4 p5 p6)), .val (.int (v0_8 p1 p2 p3 p4 p5 p6)), .val (.int (v0_9 p1 p2 p3 p4 p5 p6)), .val (.ref b10), .unset, .unset, .unset, .unset, .unset] [(.int (1 : Int32))])
        refine Go.of (fun _ k => XS.goto X46.here hx rfl (pc0 := 109) (pc' := 113) rfl (hb hby at_109) (by decide) (by decide) k) ?_
        have G48 := G48
        have q_v0_49 : (v0_49 p1 p2 p3 p4 p5 p6) = (1 : Int32) := by rw [v0_49, if_pos c47]
        rw [q_v0_49] at G48
        exact G48 _ X46 e46
      · refine Go.of (fun _ k => XS.icmpYes X46.here hx rfl (pc0 := 105) (pc' := 112) rfl (hb hby at_105) rfl (Jvm.Free.XT.ii_ne_t c47) (by decide) (by decide) k) ?_
        show Go p e below W T46 (mkF m 112 #[.val (.int p1), .val (.int p2), .val (.int p3), .val (.int p4), .val (.int p5), .val (.int p6), .val (.ref b1), .val (.int (v0_3 p1 p2 p3 p4 p5 p6)), .val (.int (v0_6 p1 p2 p3 p4 p5 p6)), .val (.int (v0_7 p1 p2 p3 p4 p5 p6)), .val (.int (v0_8 p1 p2 p3 p4 p5 p6)), .val (.int (v0_9 p1 p2 p3 p4 p5 p6)), .val (.ref b10), .unset, .unset, .unset, .unset, .unset] [])
        refine Go.of (fun _ k => XS.iconst X46.here hx rfl (hb hby at_112) k) ?_
        have G48 := G48
        have q_v0_49 : (v0_49 p1 p2 p3 p4 p5 p6) = (0 : Int32) := by rw [v0_49, if_neg c47]
        rw [q_v0_49] at G48
        exact G48 _ X46 e46
    intro T48 X48 e48
    show Go p e below W T48 (mkF m 113 #[.val (.int p1), .val (.int p2), .val (.int p3), .val (.int p4), .val (.int p5), .val (.int p6), .val (.ref b1), .val (.int (v0_3 p1 p2 p3 p4 p5 p6)), .val (.int (v0_6 p1 p2 p3 p4 p5 p6)), .val (.int (v0_7 p1 p2 p3 p4 p5 p6)), .val (.int (v0_8 p1 p2 p3 p4 p5 p6)), .val (.int (v0_9 p1 p2 p3 p4 p5 p6)), .val (.ref b10), .unset, .unset, .unset, .unset, .unset] [(.int (v0_49 p1 p2 p3 p4 p5 p6))])
    refine Go.of (fun _ k => XS.istore X48.here hx rfl (hb hby at_113) rfl (l' := #[.val (.int p1), .val (.int p2), .val (.int p3), .val (.int p4), .val (.int p5), .val (.int p6), .val (.ref b1), .val (.int (v0_3 p1 p2 p3 p4 p5 p6)), .val (.int (v0_6 p1 p2 p3 p4 p5 p6)), .val (.int (v0_7 p1 p2 p3 p4 p5 p6)), .val (.int (v0_8 p1 p2 p3 p4 p5 p6)), .val (.int (v0_9 p1 p2 p3 p4 p5 p6)), .val (.ref b10), .val (.int (v0_49 p1 p2 p3 p4 p5 p6)), .unset, .unset, .unset, .unset]) rfl k) ?_
    show Go p e below W T48 (mkF m 115 #[.val (.int p1), .val (.int p2), .val (.int p3), .val (.int p4), .val (.int p5), .val (.int p6), .val (.ref b1), .val (.int (v0_3 p1 p2 p3 p4 p5 p6)), .val (.int (v0_6 p1 p2 p3 p4 p5 p6)), .val (.int (v0_7 p1 p2 p3 p4 p5 p6)), .val (.int (v0_8 p1 p2 p3 p4 p5 p6)), .val (.int (v0_9 p1 p2 p3 p4 p5 p6)), .val (.ref b10), .val (.int (v0_49 p1 p2 p3 p4 p5 p6)), .unset, .unset, .unset, .unset] [])
    refine Go.of (fun _ k => XS.aload X48.here hx rfl (hb hby at_115) rfl rfl k) ?_
    show Go p e below W T48 (mkF m 117 #[.val (.int p1), .val (.int p2), .val (.int p3), .val (.int p4), .val (.int p5), .val (.int p6), .val (.ref b1), .val (.int (v0_3 p1 p2 p3 p4 p5 p6)), .val (.int (v0_6 p1 p2 p3 p4 p5 p6)), .val (.int (v0_7 p1 p2 p3 p4 p5 p6)), .val (.int (v0_8 p1 p2 p3 p4 p5 p6)), .val (.int (v0_9 p1 p2 p3 p4 p5 p6)), .val (.ref b10), .val (.int (v0_49 p1 p2 p3 p4 p5 p6)), .unset, .unset, .unset, .unset] [(.ref b10)])
    refine Go.of (fun _ k => XS.aload X48.here hx rfl (hb hby at_117) rfl rfl k) ?_
    show Go p e below W T48 (mkF m 119 #[.val (.int p1), .val (.int p2), .val (.int p3), .val (.int p4), .val (.int p5), .val (.int p6), .val (.ref b1), .val (.int (v0_3 p1 p2 p3 p4 p5 p6)), .val (.int (v0_6 p1 p2 p3 p4 p5 p6)), .val (.int (v0_7 p1 p2 p3 p4 p5 p6)), .val (.int (v0_8 p1 p2 p3 p4 p5 p6)), .val (.int (v0_9 p1 p2 p3 p4 p5 p6)), .val (.ref b10), .val (.int (v0_49 p1 p2 p3 p4 p5 p6)), .unset, .unset, .unset, .unset] [(.ref b1), (.ref b10)])
    refine Go.of (fun _ k => XS.iload X48.here hx rfl (hb hby at_119) rfl k) ?_
    show Go p e below W T48 (mkF m 121 #[.val (.int p1), .val (.int p2), .val (.int p3), .val (.int p4), .val (.int p5), .val (.int p6), .val (.ref b1), .val (.int (v0_3 p1 p2 p3 p4 p5 p6)), .val (.int (v0_6 p1 p2 p3 p4 p5 p6)), .val (.int (v0_7 p1 p2 p3 p4 p5 p6)), .val (.int (v0_8 p1 p2 p3 p4 p5 p6)), .val (.int (v0_9 p1 p2 p3 p4 p5 p6)), .val (.ref b10), .val (.int (v0_49 p1 p2 p3 p4 p5 p6)), .unset, .unset, .unset, .unset] [(.int (v0_9 p1 p2 p3 p4 p5 p6)), (.ref b1), (.ref b10)])
    refine Go.of (fun _ k => XS.iload X48.here hx rfl (hb hby at_121) rfl k) ?_
    by_cases c50 : (1024 : Nat).toInt32 < ((f4k_size (v0_7 p1 p2 p3 p4 p5 p6) (v0_6 p1 p2 p3 p4 p5 p6) (0 : Int32) f1_nb (w0_5 p1 p2 p3 p4 p5 p6) (1024 : Nat)) + (v0_8 p1 p2 p3 p4 p5 p6))
    · show Go p e below W T48 (mkF m 123 #[.val (.int p1), .val (.int p2), .val (.int p3), .val (.int p4), .val (.int p5), .val (.int p6), .val (.ref b1), .val (.int (v0_3 p1 p2 p3 p4 p5 p6)), .val (.int (v0_6 p1 p2 p3 p4 p5 p6)), .val (.int (v0_7 p1 p2 p3 p4 p5 p6)), .val (.int (v0_8 p1 p2 p3 p4 p5 p6)), .val (.int (v0_9 p1 p2 p3 p4 p5 p6)), .val (.ref b10), .val (.int (v0_49 p1 p2 p3 p4 p5 p6)), .unset, .unset, .unset, .unset] [(.int (v0_8 p1 p2 p3 p4 p5 p6)), (.int (v0_9 p1 p2 p3 p4 p5 p6)), (.ref b1), (.ref b10)])
      refine Go.callV X48 hx hZ hown (hw _ (List.mem_of_getElem? (i := 18) rfl)) (hw _ (List.mem_of_getElem? (i := 19) rfl)) (hw _ (List.mem_of_getElem? (i := 21) rfl)) (hw _ (List.mem_of_getElem? (i := 20) rfl)) (hw _ (List.mem_of_getElem? (i := 4) rfl)) (hw _ (List.mem_of_getElem? (i := 22) rfl)) (by decide) e48 E_b10 (rm4g l Z a0 hw [] b10 b1 (v0_9 p1 p2 p3 p4 p5 p6) (v0_8 p1 p2 p3 p4 p5 p6) (f4k_size (v0_7 p1 p2 p3 p4 p5 p6) (v0_6 p1 p2 p3 p4 p5 p6) (0 : Int32) f1_nb (w0_5 p1 p2 p3 p4 p5 p6) (1024 : Nat)) b11 (f4k_ab (v0_7 p1 p2 p3 p4 p5 p6) (v0_6 p1 p2 p3 p4 p5 p6) (0 : Int32) f1_nb (w0_5 p1 p2 p3 p4 p5 p6) (1024 : Nat)) (1024 : Nat) (w0_5 p1 p2 p3 p4 p5 p6) T45.heap n0 Z0 E_b10 F_b10_size F_b10_bytes A_b11 A_b1 g_b10 ne_b10_b11 (Ne.symm ne_b1_b10) (Ne.symm ne_b1_b11) c50 (own_h123k p1 p2 p3 p4 p5 p6 c12) (own_hgk p1 p2 p3 p4 p5 p6 c12)) (V := 0) (by decide) (by decide) (by decide) (by decide) (by rw [hml]; rfl) (argsL := [(.ref b1), (.int (v0_9 p1 p2 p3 p4 p5 p6)), (.int (v0_8 p1 p2 p3 p4 p5 p6))]) (rest := []) rfl (lenOf pd___BII_V rfl) rfl (Nat.le_of_ble_eq_true rfl) (hb hby at_123) ?_
      rintro T51 _ M51 ⟨b51, rfl, N51, K51, s_b51, F_b10_size, F_b10_bytes, A_b51⟩ X51
      obtain ⟨L51, zq51⟩ : ∃ z, z = L45 ++ M51 := ⟨_, rfl⟩
      have N := Fr.app N N51
      rw [← zq51] at X51 N
      have ne_b1_b51 : b1 ≠ b51 := Nat.ne_of_lt (Nat.lt_of_lt_of_le A_b1.lt s_b51)
      have ne_b10_b51 : b10 ≠ b51 := Nat.ne_of_lt (Nat.lt_of_lt_of_le E_b10.lt s_b51)
      have ne_b11_b51 : b11 ≠ b51 := Nat.ne_of_lt (Nat.lt_of_lt_of_le A_b11.lt s_b51)
      have g_b51 : n0 ≤ b51 := Nat.le_trans Z0 s_b51
      have s_b51 : h0.size ≤ b51 := Nat.le_trans K.1 s_b51
      have A_b1 := A_b1.keep K51 (ninS ne_b1_b10 nin0)
      have E_b10 := E_b10.keep K51
      have A_b11 := A_b11.keep K51 (ninS (Ne.symm ne_b10_b11) nin0)
      have K := K.trans K51 (by
        intro x hx
        simp only [List.mem_cons, List.not_mem_nil, or_false] at hx
        rcases hx with rfl
        · exact Or.inr s_b10)
      have Z0 := Nat.le_trans Z0 K51.1
      show Go p e below W T51 (mkF m 126 #[.val (.int p1), .val (.int p2), .val (.int p3), .val (.int p4), .val (.int p5), .val (.int p6), .val (.ref b1), .val (.int (v0_3 p1 p2 p3 p4 p5 p6)), .val (.int (v0_6 p1 p2 p3 p4 p5 p6)), .val (.int (v0_7 p1 p2 p3 p4 p5 p6)), .val (.int (v0_8 p1 p2 p3 p4 p5 p6)), .val (.int (v0_9 p1 p2 p3 p4 p5 p6)), .val (.ref b10), .val (.int (v0_49 p1 p2 p3 p4 p5 p6)), .unset, .unset, .unset, .unset] [])
      refine Go.of (fun _ k => XS.iload X51.here hx rfl (hb hby at_126) rfl k) ?_
      show Go p e below W T51 (mkF m 128 #[.val (.int p1), .val (.int p2), .val (.int p3), .val (.int p4), .val (.int p5), .val (.int p6), .val (.ref b1), .val (.int (v0_3 p1 p2 p3 p4 p5 p6)), .val (.int (v0_6 p1 p2 p3 p4 p5 p6)), .val (.int (v0_7 p1 p2 p3 p4 p5 p6)), .val (.int (v0_8 p1 p2 p3 p4 p5 p6)), .val (.int (v0_9 p1 p2 p3 p4 p5 p6)), .val (.ref b10), .val (.int (v0_49 p1 p2 p3 p4 p5 p6)), .unset, .unset, .unset, .unset] [(.int (v0_6 p1 p2 p3 p4 p5 p6))])
      refine Go.of (fun _ k => XS.iload X51.here hx rfl (hb hby at_128) rfl k) ?_
      show Go p e below W T51 (mkF m 130 #[.val (.int p1), .val (.int p2), .val (.int p3), .val (.int p4), .val (.int p5), .val (.int p6), .val (.ref b1), .val (.int (v0_3 p1 p2 p3 p4 p5 p6)), .val (.int (v0_6 p1 p2 p3 p4 p5 p6)), .val (.int (v0_7 p1 p2 p3 p4 p5 p6)), .val (.int (v0_8 p1 p2 p3 p4 p5 p6)), .val (.int (v0_9 p1 p2 p3 p4 p5 p6)), .val (.ref b10), .val (.int (v0_49 p1 p2 p3 p4 p5 p6)), .unset, .unset, .unset, .unset] [(.int (v0_8 p1 p2 p3 p4 p5 p6)), (.int (v0_6 p1 p2 p3 p4 p5 p6))])
      refine Go.of (fun _ k => XS.iadd X51.here hx rfl (hb hby at_130) rfl k) ?_
      show Go p e below W T51 (mkF m 131 #[.val (.int p1), .val (.int p2), .val (.int p3), .val (.int p4), .val (.int p5), .val (.int p6), .val (.ref b1), .val (.int (v0_3 p1 p2 p3 p4 p5 p6)), .val (.int (v0_6 p1 p2 p3 p4 p5 p6)), .val (.int (v0_7 p1 p2 p3 p4 p5 p6)), .val (.int (v0_8 p1 p2 p3 p4 p5 p6)), .val (.int (v0_9 p1 p2 p3 p4 p5 p6)), .val (.ref b10), .val (.int (v0_49 p1 p2 p3 p4 p5 p6)), .unset, .unset, .unset, .unset] [(.int ((v0_6 p1 p2 p3 p4 p5 p6) + (v0_8 p1 p2 p3 p4 p5 p6)))])
      refine Go.of (fun _ k => XS.istore X51.here hx rfl (hb hby at_131) rfl (l' := #[.val (.int p1), .val (.int p2), .val (.int p3), .val (.int p4), .val (.int p5), .val (.int p6), .val (.ref b1), .val (.int (v0_3 p1 p2 p3 p4 p5 p6)), .val (.int (v0_6 p1 p2 p3 p4 p5 p6)), .val (.int (v0_7 p1 p2 p3 p4 p5 p6)), .val (.int (v0_8 p1 p2 p3 p4 p5 p6)), .val (.int (v0_9 p1 p2 p3 p4 p5 p6)), .val (.ref b10), .val (.int (v0_49 p1 p2 p3 p4 p5 p6)), .val (.int (v0_52 p1 p2 p3 p4 p5 p6)), .unset, .unset, .unset]) rfl k) ?_
      show Go p e below W T51 (mkF m 133 #[.val (.int p1), .val (.int p2), .val (.int p3), .val (.int p4), .val (.int p5), .val (.int p6), .val (.ref b1), .val (.int (v0_3 p1 p2 p3 p4 p5 p6)), .val (.int (v0_6 p1 p2 p3 p4 p5 p6)), .val (.int (v0_7 p1 p2 p3 p4 p5 p6)), .val (.int (v0_8 p1 p2 p3 p4 p5 p6)), .val (.int (v0_9 p1 p2 p3 p4 p5 p6)), .val (.ref b10), .val (.int (v0_49 p1 p2 p3 p4 p5 p6)), .val (.int (v0_52 p1 p2 p3 p4 p5 p6)), .unset, .unset, .unset] [])
      refine Go.of (fun _ k => XS.iload X51.here hx rfl (hb hby at_133) rfl k) ?_
      show Go p e below W T51 (mkF m 135 #[.val (.int p1), .val (.int p2), .val (.int p3), .val (.int p4), .val (.int p5), .val (.int p6), .val (.ref b1), .val (.int (v0_3 p1 p2 p3 p4 p5 p6)), .val (.int (v0_6 p1 p2 p3 p4 p5 p6)), .val (.int (v0_7 p1 p2 p3 p4 p5 p6)), .val (.int (v0_8 p1 p2 p3 p4 p5 p6)), .val (.int (v0_9 p1 p2 p3 p4 p5 p6)), .val (.ref b10), .val (.int (v0_49 p1 p2 p3 p4 p5 p6)), .val (.int (v0_52 p1 p2 p3 p4 p5 p6)), .unset, .unset, .unset] [(.int (v0_49 p1 p2 p3 p4 p5 p6))])
      by_cases c53 : (v0_49 p1 p2 p3 p4 p5 p6) = (0 : Int32)
      · refine Go.of (fun _ k => XS.ifYes X51.here hx rfl (pc0 := 135) (pc' := 148) rfl (hb hby at_135) rfl (Jvm.Free.XT.i0_eq_t c53) (by decide) (by decide) k) ?_
        show Go p e below W T51 (mkF m 148 #[.val (.int p1), .val (.int p2), .val (.int p3), .val (.int p4), .val (.int p5), .val (.int p6), .val (.ref b1), .val (.int (v0_3 p1 p2 p3 p4 p5 p6)), .val (.int (v0_6 p1 p2 p3 p4 p5 p6)), .val (.int (v0_7 p1 p2 p3 p4 p5 p6)), .val (.int (v0_8 p1 p2 p3 p4 p5 p6)), .val (.int (v0_9 p1 p2 p3 p4 p5 p6)), .val (.ref b10), .val (.int (v0_49 p1 p2 p3 p4 p5 p6)), .val (.int (v0_52 p1 p2 p3 p4 p5 p6)), .unset, .unset, .unset] [])
        refine Go.of (fun _ k => XS.iconst X51.here hx rfl (hb hby at_148) k) ?_
        show Go p e below W T51 (mkF m 149 #[.val (.int p1), .val (.int p2), .val (.int p3), .val (.int p4), .val (.int p5), .val (.int p6), .val (.ref b1), .val (.int (v0_3 p1 p2 p3 p4 p5 p6)), .val (.int (v0_6 p1 p2 p3 p4 p5 p6)), .val (.int (v0_7 p1 p2 p3 p4 p5 p6)), .val (.int (v0_8 p1 p2 p3 p4 p5 p6)), .val (.int (v0_9 p1 p2 p3 p4 p5 p6)), .val (.ref b10), .val (.int (v0_49 p1 p2 p3 p4 p5 p6)), .val (.int (v0_52 p1 p2 p3 p4 p5 p6)), .unset, .unset, .unset] [(.int (0 : Int32))])
        have u_f0 : (f0 p1 p2 p3 p4 p5 p6) = (0 : Int32) := by rw [f0, if_neg c12, if_pos c50, if_pos c53]
        have fin : Q0 Z p1 p2 p3 p4 p5 p6 h0 n0 (some (.int (f0 p1 p2 p3 p4 p5 p6))) T51.heap L51 := ⟨rfl, N, K⟩
        exact Go.retN X51 hx hret (Or.inl rfl) (hb hby at_149) hlk (Eq.trans rfl u_f0.symm) (fun t ht fe => hW t _ _ _ _ (by rw [ht]; exact fin) fe (by decide) (by decide))
      · refine Go.of (fun _ k => XS.ifNo X51.here hx rfl (hb hby at_135) rfl (Jvm.Free.XT.i0_eq_f c53) k) ?_
        show Go p e below W T51 (mkF m 138 #[.val (.int p1), .val (.int p2), .val (.int p3), .val (.int p4), .val (.int p5), .val (.int p6), .val (.ref b1), .val (.int (v0_3 p1 p2 p3 p4 p5 p6)), .val (.int (v0_6 p1 p2 p3 p4 p5 p6)), .val (.int (v0_7 p1 p2 p3 p4 p5 p6)), .val (.int (v0_8 p1 p2 p3 p4 p5 p6)), .val (.int (v0_9 p1 p2 p3 p4 p5 p6)), .val (.ref b10), .val (.int (v0_49 p1 p2 p3 p4 p5 p6)), .val (.int (v0_52 p1 p2 p3 p4 p5 p6)), .unset, .unset, .unset] [])
        refine Go.of (fun _ k => XS.aload X51.here hx rfl (hb hby at_138) rfl rfl k) ?_
        show Go p e below W T51 (mkF m 140 #[.val (.int p1), .val (.int p2), .val (.int p3), .val (.int p4), .val (.int p5), .val (.int p6), .val (.ref b1), .val (.int (v0_3 p1 p2 p3 p4 p5 p6)), .val (.int (v0_6 p1 p2 p3 p4 p5 p6)), .val (.int (v0_7 p1 p2 p3 p4 p5 p6)), .val (.int (v0_8 p1 p2 p3 p4 p5 p6)), .val (.int (v0_9 p1 p2 p3 p4 p5 p6)), .val (.ref b10), .val (.int (v0_49 p1 p2 p3 p4 p5 p6)), .val (.int (v0_52 p1 p2 p3 p4 p5 p6)), .unset, .unset, .unset] [(.ref b10)])
        refine Go.callV X51 hx hZ hown (hw _ (List.mem_of_getElem? (i := 33) rfl)) (hw _ (List.mem_of_getElem? (i := 34) rfl)) (hw _ (List.mem_of_getElem? (i := 36) rfl)) (hw _ (List.mem_of_getElem? (i := 35) rfl)) (hw _ (List.mem_of_getElem? (i := 4) rfl)) (hw _ (List.mem_of_getElem? (i := 37) rfl)) (by decide) rfl E_b10 (rm6 l Z a0 hw [] b10 (f4g_size (v0_9 p1 p2 p3 p4 p5 p6) (v0_8 p1 p2 p3 p4 p5 p6) (f4k_size (v0_7 p1 p2 p3 p4 p5 p6) (v0_6 p1 p2 p3 p4 p5 p6) (0 : Int32) f1_nb (w0_5 p1 p2 p3 p4 p5 p6) (1024 : Nat)) (f4k_ab (v0_7 p1 p2 p3 p4 p5 p6) (v0_6 p1 p2 p3 p4 p5 p6) (0 : Int32) f1_nb (w0_5 p1 p2 p3 p4 p5 p6) (1024 : Nat)) (w0_5 p1 p2 p3 p4 p5 p6) (1024 : Nat)) T51.heap F_b10_size) (V := 0) (by decide) (by decide) (by decide) (by decide) (by rw [hml]; rfl) (argsL := []) (rest := []) rfl (lenOf pd___I rfl) rfl (Nat.le_of_ble_eq_true rfl) (hb hby at_140) ?_
        rintro T54 _ _ ⟨rfl, rfl, e54⟩ X54
        rw [List.append_nil] at X54
        show Go p e below W T54 (mkF m 143 #[.val (.int p1), .val (.int p2), .val (.int p3), .val (.int p4), .val (.int p5), .val (.int p6), .val (.ref b1), .val (.int (v0_3 p1 p2 p3 p4 p5 p6)), .val (.int (v0_6 p1 p2 p3 p4 p5 p6)), .val (.int (v0_7 p1 p2 p3 p4 p5 p6)), .val (.int (v0_8 p1 p2 p3 p4 p5 p6)), .val (.int (v0_9 p1 p2 p3 p4 p5 p6)), .val (.ref b10), .val (.int (v0_49 p1 p2 p3 p4 p5 p6)), .val (.int (v0_52 p1 p2 p3 p4 p5 p6)), .unset, .unset, .unset] [(.int (f6 (f4g_size (v0_9 p1 p2 p3 p4 p5 p6) (v0_8 p1 p2 p3 p4 p5 p6) (f4k_size (v0_7 p1 p2 p3 p4 p5 p6) (v0_6 p1 p2 p3 p4 p5 p6) (0 : Int32) f1_nb (w0_5 p1 p2 p3 p4 p5 p6) (1024 : Nat)) (f4k_ab (v0_7 p1 p2 p3 p4 p5 p6) (v0_6 p1 p2 p3 p4 p5 p6) (0 : Int32) f1_nb (w0_5 p1 p2 p3 p4 p5 p6) (1024 : Nat)) (w0_5 p1 p2 p3 p4 p5 p6) (1024 : Nat))))])
        refine Go.of (fun _ k => XS.iload X54.here hx rfl (hb hby at_143) rfl k) ?_
        show Go p e below W T54 (mkF m 145 #[.val (.int p1), .val (.int p2), .val (.int p3), .val (.int p4), .val (.int p5), .val (.int p6), .val (.ref b1), .val (.int (v0_3 p1 p2 p3 p4 p5 p6)), .val (.int (v0_6 p1 p2 p3 p4 p5 p6)), .val (.int (v0_7 p1 p2 p3 p4 p5 p6)), .val (.int (v0_8 p1 p2 p3 p4 p5 p6)), .val (.int (v0_9 p1 p2 p3 p4 p5 p6)), .val (.ref b10), .val (.int (v0_49 p1 p2 p3 p4 p5 p6)), .val (.int (v0_52 p1 p2 p3 p4 p5 p6)), .unset, .unset, .unset] [(.int (v0_52 p1 p2 p3 p4 p5 p6)), (.int (f6 (f4g_size (v0_9 p1 p2 p3 p4 p5 p6) (v0_8 p1 p2 p3 p4 p5 p6) (f4k_size (v0_7 p1 p2 p3 p4 p5 p6) (v0_6 p1 p2 p3 p4 p5 p6) (0 : Int32) f1_nb (w0_5 p1 p2 p3 p4 p5 p6) (1024 : Nat)) (f4k_ab (v0_7 p1 p2 p3 p4 p5 p6) (v0_6 p1 p2 p3 p4 p5 p6) (0 : Int32) f1_nb (w0_5 p1 p2 p3 p4 p5 p6) (1024 : Nat)) (w0_5 p1 p2 p3 p4 p5 p6) (1024 : Nat))))])
        by_cases c55 : (f6 (f4g_size (v0_9 p1 p2 p3 p4 p5 p6) (v0_8 p1 p2 p3 p4 p5 p6) (f4k_size (v0_7 p1 p2 p3 p4 p5 p6) (v0_6 p1 p2 p3 p4 p5 p6) (0 : Int32) f1_nb (w0_5 p1 p2 p3 p4 p5 p6) (1024 : Nat)) (f4k_ab (v0_7 p1 p2 p3 p4 p5 p6) (v0_6 p1 p2 p3 p4 p5 p6) (0 : Int32) f1_nb (w0_5 p1 p2 p3 p4 p5 p6) (1024 : Nat)) (w0_5 p1 p2 p3 p4 p5 p6) (1024 : Nat))) = (v0_52 p1 p2 p3 p4 p5 p6)
        · refine Go.of (fun _ k => XS.icmpYes X54.here hx rfl (pc0 := 145) (pc' := 150) rfl (hb hby at_145) rfl (Jvm.Free.XT.ii_eq_t c55) (by decide) (by decide) k) ?_
          show Go p e below W T54 (mkF m 150 #[.val (.int p1), .val (.int p2), .val (.int p3), .val (.int p4), .val (.int p5), .val (.int p6), .val (.ref b1), .val (.int (v0_3 p1 p2 p3 p4 p5 p6)), .val (.int (v0_6 p1 p2 p3 p4 p5 p6)), .val (.int (v0_7 p1 p2 p3 p4 p5 p6)), .val (.int (v0_8 p1 p2 p3 p4 p5 p6)), .val (.int (v0_9 p1 p2 p3 p4 p5 p6)), .val (.ref b10), .val (.int (v0_49 p1 p2 p3 p4 p5 p6)), .val (.int (v0_52 p1 p2 p3 p4 p5 p6)), .unset, .unset, .unset] [])
          refine Go.of (fun _ k => XS.aload X54.here hx rfl (hb hby at_150) rfl rfl k) ?_
          show Go p e below W T54 (mkF m 152 #[.val (.int p1), .val (.int p2), .val (.int p3), .val (.int p4), .val (.int p5), .val (.int p6), .val (.ref b1), .val (.int (v0_3 p1 p2 p3 p4 p5 p6)), .val (.int (v0_6 p1 p2 p3 p4 p5 p6)), .val (.int (v0_7 p1 p2 p3 p4 p5 p6)), .val (.int (v0_8 p1 p2 p3 p4 p5 p6)), .val (.int (v0_9 p1 p2 p3 p4 p5 p6)), .val (.ref b10), .val (.int (v0_49 p1 p2 p3 p4 p5 p6)), .val (.int (v0_52 p1 p2 p3 p4 p5 p6)), .unset, .unset, .unset] [(.ref b10)])
          refine Go.callV X54 hx hZ hown (hw _ (List.mem_of_getElem? (i := 38) rfl)) (hw _ (List.mem_of_getElem? (i := 39) rfl)) (hw _ (List.mem_of_getElem? (i := 41) rfl)) (hw _ (List.mem_of_getElem? (i := 40) rfl)) (hw _ (List.mem_of_getElem? (i := 4) rfl)) (hw _ (List.mem_of_getElem? (i := 42) rfl)) (by decide) e54 E_b10 (rm7 l Z a0 hw [] b10 b51 T51.heap F_b10_bytes) (V := 0) (by decide) (by decide) (by decide) (by decide) (by rw [hml]; rfl) (argsL := []) (rest := []) rfl (lenOf pd____B rfl) rfl (Nat.le_of_ble_eq_true rfl) (hb hby at_152) ?_
          rintro T56 _ _ ⟨rfl, rfl, e56⟩ X56
          rw [List.append_nil] at X56
          show Go p e below W T56 (mkF m 155 #[.val (.int p1), .val (.int p2), .val (.int p3), .val (.int p4), .val (.int p5), .val (.int p6), .val (.ref b1), .val (.int (v0_3 p1 p2 p3 p4 p5 p6)), .val (.int (v0_6 p1 p2 p3 p4 p5 p6)), .val (.int (v0_7 p1 p2 p3 p4 p5 p6)), .val (.int (v0_8 p1 p2 p3 p4 p5 p6)), .val (.int (v0_9 p1 p2 p3 p4 p5 p6)), .val (.ref b10), .val (.int (v0_49 p1 p2 p3 p4 p5 p6)), .val (.int (v0_52 p1 p2 p3 p4 p5 p6)), .unset, .unset, .unset] [(.ref b51)])
          refine Go.of (fun _ k => XS.astore X56.here hx rfl (hb hby at_155) rfl rfl (l' := #[.val (.int p1), .val (.int p2), .val (.int p3), .val (.int p4), .val (.int p5), .val (.int p6), .val (.ref b1), .val (.int (v0_3 p1 p2 p3 p4 p5 p6)), .val (.int (v0_6 p1 p2 p3 p4 p5 p6)), .val (.int (v0_7 p1 p2 p3 p4 p5 p6)), .val (.int (v0_8 p1 p2 p3 p4 p5 p6)), .val (.int (v0_9 p1 p2 p3 p4 p5 p6)), .val (.ref b10), .val (.int (v0_49 p1 p2 p3 p4 p5 p6)), .val (.int (v0_52 p1 p2 p3 p4 p5 p6)), .val (.ref b51), .unset, .unset]) rfl k) ?_
          show Go p e below W T56 (mkF m 157 #[.val (.int p1), .val (.int p2), .val (.int p3), .val (.int p4), .val (.int p5), .val (.int p6), .val (.ref b1), .val (.int (v0_3 p1 p2 p3 p4 p5 p6)), .val (.int (v0_6 p1 p2 p3 p4 p5 p6)), .val (.int (v0_7 p1 p2 p3 p4 p5 p6)), .val (.int (v0_8 p1 p2 p3 p4 p5 p6)), .val (.int (v0_9 p1 p2 p3 p4 p5 p6)), .val (.ref b10), .val (.int (v0_49 p1 p2 p3 p4 p5 p6)), .val (.int (v0_52 p1 p2 p3 p4 p5 p6)), .val (.ref b51), .unset, .unset] [])
          refine Go.of (fun _ k => XS.aload X56.here hx rfl (hb hby at_157) rfl rfl k) ?_
          show Go p e below W T56 (mkF m 159 #[.val (.int p1), .val (.int p2), .val (.int p3), .val (.int p4), .val (.int p5), .val (.int p6), .val (.ref b1), .val (.int (v0_3 p1 p2 p3 p4 p5 p6)), .val (.int (v0_6 p1 p2 p3 p4 p5 p6)), .val (.int (v0_7 p1 p2 p3 p4 p5 p6)), .val (.int (v0_8 p1 p2 p3 p4 p5 p6)), .val (.int (v0_9 p1 p2 p3 p4 p5 p6)), .val (.ref b10), .val (.int (v0_49 p1 p2 p3 p4 p5 p6)), .val (.int (v0_52 p1 p2 p3 p4 p5 p6)), .val (.ref b51), .unset, .unset] [(.ref b51)])
          refine Go.alen X56 hx hZ e56 A_b51 (hb hby at_159) ?_
          show Go p e below W T56 (mkF m 160 #[.val (.int p1), .val (.int p2), .val (.int p3), .val (.int p4), .val (.int p5), .val (.int p6), .val (.ref b1), .val (.int (v0_3 p1 p2 p3 p4 p5 p6)), .val (.int (v0_6 p1 p2 p3 p4 p5 p6)), .val (.int (v0_7 p1 p2 p3 p4 p5 p6)), .val (.int (v0_8 p1 p2 p3 p4 p5 p6)), .val (.int (v0_9 p1 p2 p3 p4 p5 p6)), .val (.ref b10), .val (.int (v0_49 p1 p2 p3 p4 p5 p6)), .val (.int (v0_52 p1 p2 p3 p4 p5 p6)), .val (.ref b51), .unset, .unset] [(.int (f8 ((2 : Int32) * (1024 : Nat).toInt32) ((f4k_size (v0_7 p1 p2 p3 p4 p5 p6) (v0_6 p1 p2 p3 p4 p5 p6) (0 : Int32) f1_nb (w0_5 p1 p2 p3 p4 p5 p6) (1024 : Nat)) + (v0_8 p1 p2 p3 p4 p5 p6))).toNatClampNeg.toInt32)])
          refine Go.of (fun _ k => XS.iload X56.here hx rfl (hb hby at_160) rfl k) ?_
          show Go p e below W T56 (mkF m 162 #[.val (.int p1), .val (.int p2), .val (.int p3), .val (.int p4), .val (.int p5), .val (.int p6), .val (.ref b1), .val (.int (v0_3 p1 p2 p3 p4 p5 p6)), .val (.int (v0_6 p1 p2 p3 p4 p5 p6)), .val (.int (v0_7 p1 p2 p3 p4 p5 p6)), .val (.int (v0_8 p1 p2 p3 p4 p5 p6)), .val (.int (v0_9 p1 p2 p3 p4 p5 p6)), .val (.ref b10), .val (.int (v0_49 p1 p2 p3 p4 p5 p6)), .val (.int (v0_52 p1 p2 p3 p4 p5 p6)), .val (.ref b51), .unset, .unset] [(.int (v0_52 p1 p2 p3 p4 p5 p6)), (.int (f8 ((2 : Int32) * (1024 : Nat).toInt32) ((f4k_size (v0_7 p1 p2 p3 p4 p5 p6) (v0_6 p1 p2 p3 p4 p5 p6) (0 : Int32) f1_nb (w0_5 p1 p2 p3 p4 p5 p6) (1024 : Nat)) + (v0_8 p1 p2 p3 p4 p5 p6))).toNatClampNeg.toInt32)])
          by_cases c57 : (f8 ((2 : Int32) * (1024 : Nat).toInt32) ((f4k_size (v0_7 p1 p2 p3 p4 p5 p6) (v0_6 p1 p2 p3 p4 p5 p6) (0 : Int32) f1_nb (w0_5 p1 p2 p3 p4 p5 p6) (1024 : Nat)) + (v0_8 p1 p2 p3 p4 p5 p6))).toNatClampNeg.toInt32 < (v0_52 p1 p2 p3 p4 p5 p6)
          · refine Go.of (fun _ k => XS.icmpNo X56.here hx rfl (hb hby at_162) rfl (Jvm.Free.XT.ii_ge_f c57) k) ?_
            show Go p e below W T56 (mkF m 165 #[.val (.int p1), .val (.int p2), .val (.int p3), .val (.int p4), .val (.int p5), .val (.int p6), .val (.ref b1), .val (.int (v0_3 p1 p2 p3 p4 p5 p6)), .val (.int (v0_6 p1 p2 p3 p4 p5 p6)), .val (.int (v0_7 p1 p2 p3 p4 p5 p6)), .val (.int (v0_8 p1 p2 p3 p4 p5 p6)), .val (.int (v0_9 p1 p2 p3 p4 p5 p6)), .val (.ref b10), .val (.int (v0_49 p1 p2 p3 p4 p5 p6)), .val (.int (v0_52 p1 p2 p3 p4 p5 p6)), .val (.ref b51), .unset, .unset] [])
            refine Go.of (fun _ k => XS.iconst X56.here hx rfl (hb hby at_165) k) ?_
            show Go p e below W T56 (mkF m 166 #[.val (.int p1), .val (.int p2), .val (.int p3), .val (.int p4), .val (.int p5), .val (.int p6), .val (.ref b1), .val (.int (v0_3 p1 p2 p3 p4 p5 p6)), .val (.int (v0_6 p1 p2 p3 p4 p5 p6)), .val (.int (v0_7 p1 p2 p3 p4 p5 p6)), .val (.int (v0_8 p1 p2 p3 p4 p5 p6)), .val (.int (v0_9 p1 p2 p3 p4 p5 p6)), .val (.ref b10), .val (.int (v0_49 p1 p2 p3 p4 p5 p6)), .val (.int (v0_52 p1 p2 p3 p4 p5 p6)), .val (.ref b51), .unset, .unset] [(.int (0 : Int32))])
            have u_f0 : (f0 p1 p2 p3 p4 p5 p6) = (0 : Int32) := by rw [f0, if_neg c12, if_pos c50, if_neg c53, if_pos c55, if_pos c57]
            have fin : Q0 Z p1 p2 p3 p4 p5 p6 h0 n0 (some (.int (f0 p1 p2 p3 p4 p5 p6))) T51.heap L51 := ⟨rfl, N, K⟩
            exact Go.retN X56 hx hret (Or.inl rfl) (hb hby at_166) hlk (Eq.trans rfl u_f0.symm) (fun t ht fe => hW t _ _ _ _ (by rw [ht, e56]; exact fin) fe (by decide) (by decide))
          · refine Go.of (fun _ k => XS.icmpYes X56.here hx rfl (pc0 := 162) (pc' := 167) rfl (hb hby at_162) rfl (Jvm.Free.XT.ii_ge_t c57) (by decide) (by decide) k) ?_
            show Go p e below W T56 (mkF m 167 #[.val (.int p1), .val (.int p2), .val (.int p3), .val (.int p4), .val (.int p5), .val (.int p6), .val (.ref b1), .val (.int (v0_3 p1 p2 p3 p4 p5 p6)), .val (.int (v0_6 p1 p2 p3 p4 p5 p6)), .val (.int (v0_7 p1 p2 p3 p4 p5 p6)), .val (.int (v0_8 p1 p2 p3 p4 p5 p6)), .val (.int (v0_9 p1 p2 p3 p4 p5 p6)), .val (.ref b10), .val (.int (v0_49 p1 p2 p3 p4 p5 p6)), .val (.int (v0_52 p1 p2 p3 p4 p5 p6)), .val (.ref b51), .unset, .unset] [])
            refine Go.of (fun _ k => XS.iload X56.here hx rfl (hb hby at_167) rfl k) ?_
            show Go p e below W T56 (mkF m 169 #[.val (.int p1), .val (.int p2), .val (.int p3), .val (.int p4), .val (.int p5), .val (.int p6), .val (.ref b1), .val (.int (v0_3 p1 p2 p3 p4 p5 p6)), .val (.int (v0_6 p1 p2 p3 p4 p5 p6)), .val (.int (v0_7 p1 p2 p3 p4 p5 p6)), .val (.int (v0_8 p1 p2 p3 p4 p5 p6)), .val (.int (v0_9 p1 p2 p3 p4 p5 p6)), .val (.ref b10), .val (.int (v0_49 p1 p2 p3 p4 p5 p6)), .val (.int (v0_52 p1 p2 p3 p4 p5 p6)), .val (.ref b51), .unset, .unset] [(.int (v0_52 p1 p2 p3 p4 p5 p6))])
            by_cases c58 : (v0_52 p1 p2 p3 p4 p5 p6) = (0 : Int32)
            · refine Go.of (fun _ k => XS.ifNo X56.here hx rfl (hb hby at_169) rfl (Jvm.Free.XT.i0_ne_f c58) k) ?_
              show Go p e below W T56 (mkF m 172 #[.val (.int p1), .val (.int p2), .val (.int p3), .val (.int p4), .val (.int p5), .val (.int p6), .val (.ref b1), .val (.int (v0_3 p1 p2 p3 p4 p5 p6)), .val (.int (v0_6 p1 p2 p3 p4 p5 p6)), .val (.int (v0_7 p1 p2 p3 p4 p5 p6)), .val (.int (v0_8 p1 p2 p3 p4 p5 p6)), .val (.int (v0_9 p1 p2 p3 p4 p5 p6)), .val (.ref b10), .val (.int (v0_49 p1 p2 p3 p4 p5 p6)), .val (.int (v0_52 p1 p2 p3 p4 p5 p6)), .val (.ref b51), .unset, .unset] [])
              refine Go.of (fun _ k => XS.iconst X56.here hx rfl (hb hby at_172) k) ?_
              show Go p e below W T56 (mkF m 173 #[.val (.int p1), .val (.int p2), .val (.int p3), .val (.int p4), .val (.int p5), .val (.int p6), .val (.ref b1), .val (.int (v0_3 p1 p2 p3 p4 p5 p6)), .val (.int (v0_6 p1 p2 p3 p4 p5 p6)), .val (.int (v0_7 p1 p2 p3 p4 p5 p6)), .val (.int (v0_8 p1 p2 p3 p4 p5 p6)), .val (.int (v0_9 p1 p2 p3 p4 p5 p6)), .val (.ref b10), .val (.int (v0_49 p1 p2 p3 p4 p5 p6)), .val (.int (v0_52 p1 p2 p3 p4 p5 p6)), .val (.ref b51), .unset, .unset] [(.int (1 : Int32))])
              have u_f0 : (f0 p1 p2 p3 p4 p5 p6) = (1 : Int32) := by rw [f0, if_neg c12, if_pos c50, if_neg c53, if_pos c55, if_neg c57, if_pos c58]
              have fin : Q0 Z p1 p2 p3 p4 p5 p6 h0 n0 (some (.int (f0 p1 p2 p3 p4 p5 p6))) T51.heap L51 := ⟨rfl, N, K⟩
              exact Go.retN X56 hx hret (Or.inl rfl) (hb hby at_173) hlk (Eq.trans rfl u_f0.symm) (fun t ht fe => hW t _ _ _ _ (by rw [ht, e56]; exact fin) fe (by decide) (by decide))
            · refine Go.of (fun _ k => XS.ifYes X56.here hx rfl (pc0 := 169) (pc' := 174) rfl (hb hby at_169) rfl (Jvm.Free.XT.i0_ne_t c58) (by decide) (by decide) k) ?_
              show Go p e below W T56 (mkF m 174 #[.val (.int p1), .val (.int p2), .val (.int p3), .val (.int p4), .val (.int p5), .val (.int p6), .val (.ref b1), .val (.int (v0_3 p1 p2 p3 p4 p5 p6)), .val (.int (v0_6 p1 p2 p3 p4 p5 p6)), .val (.int (v0_7 p1 p2 p3 p4 p5 p6)), .val (.int (v0_8 p1 p2 p3 p4 p5 p6)), .val (.int (v0_9 p1 p2 p3 p4 p5 p6)), .val (.ref b10), .val (.int (v0_49 p1 p2 p3 p4 p5 p6)), .val (.int (v0_52 p1 p2 p3 p4 p5 p6)), .val (.ref b51), .unset, .unset] [])
              refine Go.of (fun _ k => XS.iload X56.here hx rfl (hb hby at_174) rfl k) ?_
              show Go p e below W T56 (mkF m 176 #[.val (.int p1), .val (.int p2), .val (.int p3), .val (.int p4), .val (.int p5), .val (.int p6), .val (.ref b1), .val (.int (v0_3 p1 p2 p3 p4 p5 p6)), .val (.int (v0_6 p1 p2 p3 p4 p5 p6)), .val (.int (v0_7 p1 p2 p3 p4 p5 p6)), .val (.int (v0_8 p1 p2 p3 p4 p5 p6)), .val (.int (v0_9 p1 p2 p3 p4 p5 p6)), .val (.ref b10), .val (.int (v0_49 p1 p2 p3 p4 p5 p6)), .val (.int (v0_52 p1 p2 p3 p4 p5 p6)), .val (.ref b51), .unset, .unset] [(.int p5)])
              refine Go.of (fun _ k => X56.ldcI hx hown (mvT hZ (hw _ (List.mem_of_getElem? (i := 1) rfl))) rfl (hb hby at_176) k) ?_
              show Go p e below W T56 (mkF m 178 #[.val (.int p1), .val (.int p2), .val (.int p3), .val (.int p4), .val (.int p5), .val (.int p6), .val (.ref b1), .val (.int (v0_3 p1 p2 p3 p4 p5 p6)), .val (.int (v0_6 p1 p2 p3 p4 p5 p6)), .val (.int (v0_7 p1 p2 p3 p4 p5 p6)), .val (.int (v0_8 p1 p2 p3 p4 p5 p6)), .val (.int (v0_9 p1 p2 p3 p4 p5 p6)), .val (.ref b10), .val (.int (v0_49 p1 p2 p3 p4 p5 p6)), .val (.int (v0_52 p1 p2 p3 p4 p5 p6)), .val (.ref b51), .unset, .unset] [(.int (2147483647 : Int32)), (.int p5)])
              refine Go.of (fun _ k => XS.iand X56.here hx rfl (hb hby at_178) rfl k) ?_
              show Go p e below W T56 (mkF m 179 #[.val (.int p1), .val (.int p2), .val (.int p3), .val (.int p4), .val (.int p5), .val (.int p6), .val (.ref b1), .val (.int (v0_3 p1 p2 p3 p4 p5 p6)), .val (.int (v0_6 p1 p2 p3 p4 p5 p6)), .val (.int (v0_7 p1 p2 p3 p4 p5 p6)), .val (.int (v0_8 p1 p2 p3 p4 p5 p6)), .val (.int (v0_9 p1 p2 p3 p4 p5 p6)), .val (.ref b10), .val (.int (v0_49 p1 p2 p3 p4 p5 p6)), .val (.int (v0_52 p1 p2 p3 p4 p5 p6)), .val (.ref b51), .unset, .unset] [(.int (p5 &&& (2147483647 : Int32)))])
              refine Go.of (fun _ k => XS.iload X56.here hx rfl (hb hby at_179) rfl k) ?_
              show Go p e below W T56 (mkF m 181 #[.val (.int p1), .val (.int p2), .val (.int p3), .val (.int p4), .val (.int p5), .val (.int p6), .val (.ref b1), .val (.int (v0_3 p1 p2 p3 p4 p5 p6)), .val (.int (v0_6 p1 p2 p3 p4 p5 p6)), .val (.int (v0_7 p1 p2 p3 p4 p5 p6)), .val (.int (v0_8 p1 p2 p3 p4 p5 p6)), .val (.int (v0_9 p1 p2 p3 p4 p5 p6)), .val (.ref b10), .val (.int (v0_49 p1 p2 p3 p4 p5 p6)), .val (.int (v0_52 p1 p2 p3 p4 p5 p6)), .val (.ref b51), .unset, .unset] [(.int (v0_52 p1 p2 p3 p4 p5 p6)), (.int (p5 &&& (2147483647 : Int32)))])
              refine Go.of (fun _ k => iremM X56 hx rfl (hb hby at_181) rfl c58 k) ?_
              show Go p e below W T56 (mkF m 182 #[.val (.int p1), .val (.int p2), .val (.int p3), .val (.int p4), .val (.int p5), .val (.int p6), .val (.ref b1), .val (.int (v0_3 p1 p2 p3 p4 p5 p6)), .val (.int (v0_6 p1 p2 p3 p4 p5 p6)), .val (.int (v0_7 p1 p2 p3 p4 p5 p6)), .val (.int (v0_8 p1 p2 p3 p4 p5 p6)), .val (.int (v0_9 p1 p2 p3 p4 p5 p6)), .val (.ref b10), .val (.int (v0_49 p1 p2 p3 p4 p5 p6)), .val (.int (v0_52 p1 p2 p3 p4 p5 p6)), .val (.ref b51), .unset, .unset] [(.int ((p5 &&& (2147483647 : Int32)) % (v0_52 p1 p2 p3 p4 p5 p6)))])
              refine Go.of (fun _ k => XS.istore X56.here hx rfl (hb hby at_182) rfl (l' := #[.val (.int p1), .val (.int p2), .val (.int p3), .val (.int p4), .val (.int p5), .val (.int p6), .val (.ref b1), .val (.int (v0_3 p1 p2 p3 p4 p5 p6)), .val (.int (v0_6 p1 p2 p3 p4 p5 p6)), .val (.int (v0_7 p1 p2 p3 p4 p5 p6)), .val (.int (v0_8 p1 p2 p3 p4 p5 p6)), .val (.int (v0_9 p1 p2 p3 p4 p5 p6)), .val (.ref b10), .val (.int (v0_49 p1 p2 p3 p4 p5 p6)), .val (.int (v0_52 p1 p2 p3 p4 p5 p6)), .val (.ref b51), .val (.int (v0_59 p1 p2 p3 p4 p5 p6)), .unset]) rfl k) ?_
              show Go p e below W T56 (mkF m 184 #[.val (.int p1), .val (.int p2), .val (.int p3), .val (.int p4), .val (.int p5), .val (.int p6), .val (.ref b1), .val (.int (v0_3 p1 p2 p3 p4 p5 p6)), .val (.int (v0_6 p1 p2 p3 p4 p5 p6)), .val (.int (v0_7 p1 p2 p3 p4 p5 p6)), .val (.int (v0_8 p1 p2 p3 p4 p5 p6)), .val (.int (v0_9 p1 p2 p3 p4 p5 p6)), .val (.ref b10), .val (.int (v0_49 p1 p2 p3 p4 p5 p6)), .val (.int (v0_52 p1 p2 p3 p4 p5 p6)), .val (.ref b51), .val (.int (v0_59 p1 p2 p3 p4 p5 p6)), .unset] [])
              refine Go.of (fun _ k => XS.iload X56.here hx rfl (hb hby at_184) rfl k) ?_
              show Go p e below W T56 (mkF m 186 #[.val (.int p1), .val (.int p2), .val (.int p3), .val (.int p4), .val (.int p5), .val (.int p6), .val (.ref b1), .val (.int (v0_3 p1 p2 p3 p4 p5 p6)), .val (.int (v0_6 p1 p2 p3 p4 p5 p6)), .val (.int (v0_7 p1 p2 p3 p4 p5 p6)), .val (.int (v0_8 p1 p2 p3 p4 p5 p6)), .val (.int (v0_9 p1 p2 p3 p4 p5 p6)), .val (.ref b10), .val (.int (v0_49 p1 p2 p3 p4 p5 p6)), .val (.int (v0_52 p1 p2 p3 p4 p5 p6)), .val (.ref b51), .val (.int (v0_59 p1 p2 p3 p4 p5 p6)), .unset] [(.int (v0_59 p1 p2 p3 p4 p5 p6))])
              refine Go.of (fun _ k => XS.iload X56.here hx rfl (hb hby at_186) rfl k) ?_
              show Go p e below W T56 (mkF m 188 #[.val (.int p1), .val (.int p2), .val (.int p3), .val (.int p4), .val (.int p5), .val (.int p6), .val (.ref b1), .val (.int (v0_3 p1 p2 p3 p4 p5 p6)), .val (.int (v0_6 p1 p2 p3 p4 p5 p6)), .val (.int (v0_7 p1 p2 p3 p4 p5 p6)), .val (.int (v0_8 p1 p2 p3 p4 p5 p6)), .val (.int (v0_9 p1 p2 p3 p4 p5 p6)), .val (.ref b10), .val (.int (v0_49 p1 p2 p3 p4 p5 p6)), .val (.int (v0_52 p1 p2 p3 p4 p5 p6)), .val (.ref b51), .val (.int (v0_59 p1 p2 p3 p4 p5 p6)), .unset] [(.int (v0_6 p1 p2 p3 p4 p5 p6)), (.int (v0_59 p1 p2 p3 p4 p5 p6))])
              suffices G61 : ∀ T', Stand p l e room_1 s m #[(.int p1), (.int p2), (.int p3), (.int p4), (.int p5), (.int p6)] below meth c T' L51 4 7626 → T'.heap = T51.heap → Go p e below W T' (mkF m 213 #[.val (.int p1), .val (.int p2), .val (.int p3), .val (.int p4), .val (.int p5), .val (.int p6), .val (.ref b1), .val (.int (v0_3 p1 p2 p3 p4 p5 p6)), .val (.int (v0_6 p1 p2 p3 p4 p5 p6)), .val (.int (v0_7 p1 p2 p3 p4 p5 p6)), .val (.int (v0_8 p1 p2 p3 p4 p5 p6)), .val (.int (v0_9 p1 p2 p3 p4 p5 p6)), .val (.ref b10), .val (.int (v0_49 p1 p2 p3 p4 p5 p6)), .val (.int (v0_52 p1 p2 p3 p4 p5 p6)), .val (.ref b51), .val (.int (v0_59 p1 p2 p3 p4 p5 p6)), .unset] [(.int (v0_62 p1 p2 p3 p4 p5 p6))]) by
                by_cases c60 : (v0_59 p1 p2 p3 p4 p5 p6) < (v0_6 p1 p2 p3 p4 p5 p6)
                · refine Go.of (fun _ k => XS.icmpNo X56.here hx rfl (hb hby at_188) rfl (Jvm.Free.XT.ii_ge_f c60) k) ?_
                  show Go p e below W T56 (mkF m 191 #[.val (.int p1), .val (.int p2), .val (.int p3), .val (.int p4), .val (.int p5), .val (.int p6), .val (.ref b1), .val (.int (v0_3 p1 p2 p3 p4 p5 p6)), .val (.int (v0_6 p1 p2 p3 p4 p5 p6)), .val (.int (v0_7 p1 p2 p3 p4 p5 p6)), .val (.int (v0_8 p1 p2 p3 p4 p5 p6)), .val (.int (v0_9 p1 p2 p3 p4 p5 p6)), .val (.ref b10), .val (.int (v0_49 p1 p2 p3 p4 p5 p6)), .val (.int (v0_52 p1 p2 p3 p4 p5 p6)), .val (.ref b51), .val (.int (v0_59 p1 p2 p3 p4 p5 p6)), .unset] [])
                  refine Go.of (fun _ k => XS.aload X56.here hx rfl (hb hby at_191) rfl rfl k) ?_
                  show Go p e below W T56 (mkF m 193 #[.val (.int p1), .val (.int p2), .val (.int p3), .val (.int p4), .val (.int p5), .val (.int p6), .val (.ref b1), .val (.int (v0_3 p1 p2 p3 p4 p5 p6)), .val (.int (v0_6 p1 p2 p3 p4 p5 p6)), .val (.int (v0_7 p1 p2 p3 p4 p5 p6)), .val (.int (v0_8 p1 p2 p3 p4 p5 p6)), .val (.int (v0_9 p1 p2 p3 p4 p5 p6)), .val (.ref b10), .val (.int (v0_49 p1 p2 p3 p4 p5 p6)), .val (.int (v0_52 p1 p2 p3 p4 p5 p6)), .val (.ref b51), .val (.int (v0_59 p1 p2 p3 p4 p5 p6)), .unset] [(.ref b1)])
                  refine Go.of (fun _ k => XS.iload X56.here hx rfl (hb hby at_193) rfl k) ?_
                  show Go p e below W T56 (mkF m 195 #[.val (.int p1), .val (.int p2), .val (.int p3), .val (.int p4), .val (.int p5), .val (.int p6), .val (.ref b1), .val (.int (v0_3 p1 p2 p3 p4 p5 p6)), .val (.int (v0_6 p1 p2 p3 p4 p5 p6)), .val (.int (v0_7 p1 p2 p3 p4 p5 p6)), .val (.int (v0_8 p1 p2 p3 p4 p5 p6)), .val (.int (v0_9 p1 p2 p3 p4 p5 p6)), .val (.ref b10), .val (.int (v0_49 p1 p2 p3 p4 p5 p6)), .val (.int (v0_52 p1 p2 p3 p4 p5 p6)), .val (.ref b51), .val (.int (v0_59 p1 p2 p3 p4 p5 p6)), .unset] [(.int (v0_7 p1 p2 p3 p4 p5 p6)), (.ref b1)])
                  refine Go.of (fun _ k => XS.iload X56.here hx rfl (hb hby at_195) rfl k) ?_
                  show Go p e below W T56 (mkF m 197 #[.val (.int p1), .val (.int p2), .val (.int p3), .val (.int p4), .val (.int p5), .val (.int p6), .val (.ref b1), .val (.int (v0_3 p1 p2 p3 p4 p5 p6)), .val (.int (v0_6 p1 p2 p3 p4 p5 p6)), .val (.int (v0_7 p1 p2 p3 p4 p5 p6)), .val (.int (v0_8 p1 p2 p3 p4 p5 p6)), .val (.int (v0_9 p1 p2 p3 p4 p5 p6)), .val (.ref b10), .val (.int (v0_49 p1 p2 p3 p4 p5 p6)), .val (.int (v0_52 p1 p2 p3 p4 p5 p6)), .val (.ref b51), .val (.int (v0_59 p1 p2 p3 p4 p5 p6)), .unset] [(.int (v0_59 p1 p2 p3 p4 p5 p6)), (.int (v0_7 p1 p2 p3 p4 p5 p6)), (.ref b1)])
                  refine Go.of (fun _ k => XS.iadd X56.here hx rfl (hb hby at_197) rfl k) ?_
                  show Go p e below W T56 (mkF m 198 #[.val (.int p1), .val (.int p2), .val (.int p3), .val (.int p4), .val (.int p5), .val (.int p6), .val (.ref b1), .val (.int (v0_3 p1 p2 p3 p4 p5 p6)), .val (.int (v0_6 p1 p2 p3 p4 p5 p6)), .val (.int (v0_7 p1 p2 p3 p4 p5 p6)), .val (.int (v0_8 p1 p2 p3 p4 p5 p6)), .val (.int (v0_9 p1 p2 p3 p4 p5 p6)), .val (.ref b10), .val (.int (v0_49 p1 p2 p3 p4 p5 p6)), .val (.int (v0_52 p1 p2 p3 p4 p5 p6)), .val (.ref b51), .val (.int (v0_59 p1 p2 p3 p4 p5 p6)), .unset] [(.int ((v0_7 p1 p2 p3 p4 p5 p6) + (v0_59 p1 p2 p3 p4 p5 p6))), (.ref b1)])
                  refine Go.bald X56 hx hZ e56 A_b1 (own_ia p1 p2 p3 p4 p5 p6 c58 c60) (hb hby at_198) ?_
                  show Go p e below W T56 (mkF m 199 #[.val (.int p1), .val (.int p2), .val (.int p3), .val (.int p4), .val (.int p5), .val (.int p6), .val (.ref b1), .val (.int (v0_3 p1 p2 p3 p4 p5 p6)), .val (.int (v0_6 p1 p2 p3 p4 p5 p6)), .val (.int (v0_7 p1 p2 p3 p4 p5 p6)), .val (.int (v0_8 p1 p2 p3 p4 p5 p6)), .val (.int (v0_9 p1 p2 p3 p4 p5 p6)), .val (.ref b10), .val (.int (v0_49 p1 p2 p3 p4 p5 p6)), .val (.int (v0_52 p1 p2 p3 p4 p5 p6)), .val (.ref b51), .val (.int (v0_59 p1 p2 p3 p4 p5 p6)), .unset] [(.int (w0_5 p1 p2 p3 p4 p5 p6 ((v0_7 p1 p2 p3 p4 p5 p6) + (v0_59 p1 p2 p3 p4 p5 p6)).toNatClampNeg))])
                  refine Go.of (fun _ k => XS.goto X56.here hx rfl (pc0 := 199) (pc' := 213) rfl (hb hby at_199) (by decide) (by decide) k) ?_
                  have G61 := G61
                  have q_v0_62 : (v0_62 p1 p2 p3 p4 p5 p6) = (w0_5 p1 p2 p3 p4 p5 p6 ((v0_7 p1 p2 p3 p4 p5 p6) + (v0_59 p1 p2 p3 p4 p5 p6)).toNatClampNeg) := by rw [v0_62, if_pos c60]
                  rw [q_v0_62] at G61
                  exact G61 _ X56 e56
                · refine Go.of (fun _ k => XS.icmpYes X56.here hx rfl (pc0 := 188) (pc' := 202) rfl (hb hby at_188) rfl (Jvm.Free.XT.ii_ge_t c60) (by decide) (by decide) k) ?_
                  show Go p e below W T56 (mkF m 202 #[.val (.int p1), .val (.int p2), .val (.int p3), .val (.int p4), .val (.int p5), .val (.int p6), .val (.ref b1), .val (.int (v0_3 p1 p2 p3 p4 p5 p6)), .val (.int (v0_6 p1 p2 p3 p4 p5 p6)), .val (.int (v0_7 p1 p2 p3 p4 p5 p6)), .val (.int (v0_8 p1 p2 p3 p4 p5 p6)), .val (.int (v0_9 p1 p2 p3 p4 p5 p6)), .val (.ref b10), .val (.int (v0_49 p1 p2 p3 p4 p5 p6)), .val (.int (v0_52 p1 p2 p3 p4 p5 p6)), .val (.ref b51), .val (.int (v0_59 p1 p2 p3 p4 p5 p6)), .unset] [])
                  refine Go.of (fun _ k => XS.aload X56.here hx rfl (hb hby at_202) rfl rfl k) ?_
                  show Go p e below W T56 (mkF m 204 #[.val (.int p1), .val (.int p2), .val (.int p3), .val (.int p4), .val (.int p5), .val (.int p6), .val (.ref b1), .val (.int (v0_3 p1 p2 p3 p4 p5 p6)), .val (.int (v0_6 p1 p2 p3 p4 p5 p6)), .val (.int (v0_7 p1 p2 p3 p4 p5 p6)), .val (.int (v0_8 p1 p2 p3 p4 p5 p6)), .val (.int (v0_9 p1 p2 p3 p4 p5 p6)), .val (.ref b10), .val (.int (v0_49 p1 p2 p3 p4 p5 p6)), .val (.int (v0_52 p1 p2 p3 p4 p5 p6)), .val (.ref b51), .val (.int (v0_59 p1 p2 p3 p4 p5 p6)), .unset] [(.ref b1)])
                  refine Go.of (fun _ k => XS.iload X56.here hx rfl (hb hby at_204) rfl k) ?_
                  show Go p e below W T56 (mkF m 206 #[.val (.int p1), .val (.int p2), .val (.int p3), .val (.int p4), .val (.int p5), .val (.int p6), .val (.ref b1), .val (.int (v0_3 p1 p2 p3 p4 p5 p6)), .val (.int (v0_6 p1 p2 p3 p4 p5 p6)), .val (.int (v0_7 p1 p2 p3 p4 p5 p6)), .val (.int (v0_8 p1 p2 p3 p4 p5 p6)), .val (.int (v0_9 p1 p2 p3 p4 p5 p6)), .val (.ref b10), .val (.int (v0_49 p1 p2 p3 p4 p5 p6)), .val (.int (v0_52 p1 p2 p3 p4 p5 p6)), .val (.ref b51), .val (.int (v0_59 p1 p2 p3 p4 p5 p6)), .unset] [(.int (v0_9 p1 p2 p3 p4 p5 p6)), (.ref b1)])
                  refine Go.of (fun _ k => XS.iload X56.here hx rfl (hb hby at_206) rfl k) ?_
                  show Go p e below W T56 (mkF m 208 #[.val (.int p1), .val (.int p2), .val (.int p3), .val (.int p4), .val (.int p5), .val (.int p6), .val (.ref b1), .val (.int (v0_3 p1 p2 p3 p4 p5 p6)), .val (.int (v0_6 p1 p2 p3 p4 p5 p6)), .val (.int (v0_7 p1 p2 p3 p4 p5 p6)), .val (.int (v0_8 p1 p2 p3 p4 p5 p6)), .val (.int (v0_9 p1 p2 p3 p4 p5 p6)), .val (.ref b10), .val (.int (v0_49 p1 p2 p3 p4 p5 p6)), .val (.int (v0_52 p1 p2 p3 p4 p5 p6)), .val (.ref b51), .val (.int (v0_59 p1 p2 p3 p4 p5 p6)), .unset] [(.int (v0_59 p1 p2 p3 p4 p5 p6)), (.int (v0_9 p1 p2 p3 p4 p5 p6)), (.ref b1)])
                  refine Go.of (fun _ k => XS.iadd X56.here hx rfl (hb hby at_208) rfl k) ?_
                  show Go p e below W T56 (mkF m 209 #[.val (.int p1), .val (.int p2), .val (.int p3), .val (.int p4), .val (.int p5), .val (.int p6), .val (.ref b1), .val (.int (v0_3 p1 p2 p3 p4 p5 p6)), .val (.int (v0_6 p1 p2 p3 p4 p5 p6)), .val (.int (v0_7 p1 p2 p3 p4 p5 p6)), .val (.int (v0_8 p1 p2 p3 p4 p5 p6)), .val (.int (v0_9 p1 p2 p3 p4 p5 p6)), .val (.ref b10), .val (.int (v0_49 p1 p2 p3 p4 p5 p6)), .val (.int (v0_52 p1 p2 p3 p4 p5 p6)), .val (.ref b51), .val (.int (v0_59 p1 p2 p3 p4 p5 p6)), .unset] [(.int ((v0_9 p1 p2 p3 p4 p5 p6) + (v0_59 p1 p2 p3 p4 p5 p6))), (.ref b1)])
                  refine Go.of (fun _ k => XS.iload X56.here hx rfl (hb hby at_209) rfl k) ?_
                  show Go p e below W T56 (mkF m 211 #[.val (.int p1), .val (.int p2), .val (.int p3), .val (.int p4), .val (.int p5), .val (.int p6), .val (.ref b1), .val (.int (v0_3 p1 p2 p3 p4 p5 p6)), .val (.int (v0_6 p1 p2 p3 p4 p5 p6)), .val (.int (v0_7 p1 p2 p3 p4 p5 p6)), .val (.int (v0_8 p1 p2 p3 p4 p5 p6)), .val (.int (v0_9 p1 p2 p3 p4 p5 p6)), .val (.ref b10), .val (.int (v0_49 p1 p2 p3 p4 p5 p6)), .val (.int (v0_52 p1 p2 p3 p4 p5 p6)), .val (.ref b51), .val (.int (v0_59 p1 p2 p3 p4 p5 p6)), .unset] [(.int (v0_6 p1 p2 p3 p4 p5 p6)), (.int ((v0_9 p1 p2 p3 p4 p5 p6) + (v0_59 p1 p2 p3 p4 p5 p6))), (.ref b1)])
                  refine Go.of (fun _ k => XS.isub X56.here hx rfl (hb hby at_211) rfl k) ?_
                  show Go p e below W T56 (mkF m 212 #[.val (.int p1), .val (.int p2), .val (.int p3), .val (.int p4), .val (.int p5), .val (.int p6), .val (.ref b1), .val (.int (v0_3 p1 p2 p3 p4 p5 p6)), .val (.int (v0_6 p1 p2 p3 p4 p5 p6)), .val (.int (v0_7 p1 p2 p3 p4 p5 p6)), .val (.int (v0_8 p1 p2 p3 p4 p5 p6)), .val (.int (v0_9 p1 p2 p3 p4 p5 p6)), .val (.ref b10), .val (.int (v0_49 p1 p2 p3 p4 p5 p6)), .val (.int (v0_52 p1 p2 p3 p4 p5 p6)), .val (.ref b51), .val (.int (v0_59 p1 p2 p3 p4 p5 p6)), .unset] [(.int (((v0_9 p1 p2 p3 p4 p5 p6) + (v0_59 p1 p2 p3 p4 p5 p6)) - (v0_6 p1 p2 p3 p4 p5 p6))), (.ref b1)])
                  refine Go.bald X56 hx hZ e56 A_b1 (own_ib p1 p2 p3 p4 p5 p6 c58 c60) (hb hby at_212) ?_
                  have G61 := G61
                  have q_v0_62 : (v0_62 p1 p2 p3 p4 p5 p6) = (w0_5 p1 p2 p3 p4 p5 p6 (((v0_9 p1 p2 p3 p4 p5 p6) + (v0_59 p1 p2 p3 p4 p5 p6)) - (v0_6 p1 p2 p3 p4 p5 p6)).toNatClampNeg) := by rw [v0_62, if_neg c60]
                  rw [q_v0_62] at G61
                  exact G61 _ X56 e56
              intro T61 X61 e61
              show Go p e below W T61 (mkF m 213 #[.val (.int p1), .val (.int p2), .val (.int p3), .val (.int p4), .val (.int p5), .val (.int p6), .val (.ref b1), .val (.int (v0_3 p1 p2 p3 p4 p5 p6)), .val (.int (v0_6 p1 p2 p3 p4 p5 p6)), .val (.int (v0_7 p1 p2 p3 p4 p5 p6)), .val (.int (v0_8 p1 p2 p3 p4 p5 p6)), .val (.int (v0_9 p1 p2 p3 p4 p5 p6)), .val (.ref b10), .val (.int (v0_49 p1 p2 p3 p4 p5 p6)), .val (.int (v0_52 p1 p2 p3 p4 p5 p6)), .val (.ref b51), .val (.int (v0_59 p1 p2 p3 p4 p5 p6)), .unset] [(.int (v0_62 p1 p2 p3 p4 p5 p6))])
              refine Go.of (fun _ k => XS.istore X61.here hx rfl (hb hby at_213) rfl (l' := #[.val (.int p1), .val (.int p2), .val (.int p3), .val (.int p4), .val (.int p5), .val (.int p6), .val (.ref b1), .val (.int (v0_3 p1 p2 p3 p4 p5 p6)), .val (.int (v0_6 p1 p2 p3 p4 p5 p6)), .val (.int (v0_7 p1 p2 p3 p4 p5 p6)), .val (.int (v0_8 p1 p2 p3 p4 p5 p6)), .val (.int (v0_9 p1 p2 p3 p4 p5 p6)), .val (.ref b10), .val (.int (v0_49 p1 p2 p3 p4 p5 p6)), .val (.int (v0_52 p1 p2 p3 p4 p5 p6)), .val (.ref b51), .val (.int (v0_59 p1 p2 p3 p4 p5 p6)), .val (.int (v0_62 p1 p2 p3 p4 p5 p6))]) rfl k) ?_
              show Go p e below W T61 (mkF m 215 #[.val (.int p1), .val (.int p2), .val (.int p3), .val (.int p4), .val (.int p5), .val (.int p6), .val (.ref b1), .val (.int (v0_3 p1 p2 p3 p4 p5 p6)), .val (.int (v0_6 p1 p2 p3 p4 p5 p6)), .val (.int (v0_7 p1 p2 p3 p4 p5 p6)), .val (.int (v0_8 p1 p2 p3 p4 p5 p6)), .val (.int (v0_9 p1 p2 p3 p4 p5 p6)), .val (.ref b10), .val (.int (v0_49 p1 p2 p3 p4 p5 p6)), .val (.int (v0_52 p1 p2 p3 p4 p5 p6)), .val (.ref b51), .val (.int (v0_59 p1 p2 p3 p4 p5 p6)), .val (.int (v0_62 p1 p2 p3 p4 p5 p6))] [])
              refine Go.of (fun _ k => XS.aload X61.here hx rfl (hb hby at_215) rfl rfl k) ?_
              show Go p e below W T61 (mkF m 217 #[.val (.int p1), .val (.int p2), .val (.int p3), .val (.int p4), .val (.int p5), .val (.int p6), .val (.ref b1), .val (.int (v0_3 p1 p2 p3 p4 p5 p6)), .val (.int (v0_6 p1 p2 p3 p4 p5 p6)), .val (.int (v0_7 p1 p2 p3 p4 p5 p6)), .val (.int (v0_8 p1 p2 p3 p4 p5 p6)), .val (.int (v0_9 p1 p2 p3 p4 p5 p6)), .val (.ref b10), .val (.int (v0_49 p1 p2 p3 p4 p5 p6)), .val (.int (v0_52 p1 p2 p3 p4 p5 p6)), .val (.ref b51), .val (.int (v0_59 p1 p2 p3 p4 p5 p6)), .val (.int (v0_62 p1 p2 p3 p4 p5 p6))] [(.ref b51)])
              refine Go.of (fun _ k => XS.iload X61.here hx rfl (hb hby at_217) rfl k) ?_
              show Go p e below W T61 (mkF m 219 #[.val (.int p1), .val (.int p2), .val (.int p3), .val (.int p4), .val (.int p5), .val (.int p6), .val (.ref b1), .val (.int (v0_3 p1 p2 p3 p4 p5 p6)), .val (.int (v0_6 p1 p2 p3 p4 p5 p6)), .val (.int (v0_7 p1 p2 p3 p4 p5 p6)), .val (.int (v0_8 p1 p2 p3 p4 p5 p6)), .val (.int (v0_9 p1 p2 p3 p4 p5 p6)), .val (.ref b10), .val (.int (v0_49 p1 p2 p3 p4 p5 p6)), .val (.int (v0_52 p1 p2 p3 p4 p5 p6)), .val (.ref b51), .val (.int (v0_59 p1 p2 p3 p4 p5 p6)), .val (.int (v0_62 p1 p2 p3 p4 p5 p6))] [(.int (v0_59 p1 p2 p3 p4 p5 p6)), (.ref b51)])
              refine Go.bald X61 hx hZ e61 A_b51 (own_ic p1 p2 p3 p4 p5 p6 A_b51.small c57 c58) (hb hby at_219) ?_
              show Go p e below W T61 (mkF m 220 #[.val (.int p1), .val (.int p2), .val (.int p3), .val (.int p4), .val (.int p5), .val (.int p6), .val (.ref b1), .val (.int (v0_3 p1 p2 p3 p4 p5 p6)), .val (.int (v0_6 p1 p2 p3 p4 p5 p6)), .val (.int (v0_7 p1 p2 p3 p4 p5 p6)), .val (.int (v0_8 p1 p2 p3 p4 p5 p6)), .val (.int (v0_9 p1 p2 p3 p4 p5 p6)), .val (.ref b10), .val (.int (v0_49 p1 p2 p3 p4 p5 p6)), .val (.int (v0_52 p1 p2 p3 p4 p5 p6)), .val (.ref b51), .val (.int (v0_59 p1 p2 p3 p4 p5 p6)), .val (.int (v0_62 p1 p2 p3 p4 p5 p6))] [(.int ((f4g_nb (v0_9 p1 p2 p3 p4 p5 p6) (v0_8 p1 p2 p3 p4 p5 p6) (f4k_size (v0_7 p1 p2 p3 p4 p5 p6) (v0_6 p1 p2 p3 p4 p5 p6) (0 : Int32) f1_nb (w0_5 p1 p2 p3 p4 p5 p6) (1024 : Nat)) (f4k_ab (v0_7 p1 p2 p3 p4 p5 p6) (v0_6 p1 p2 p3 p4 p5 p6) (0 : Int32) f1_nb (w0_5 p1 p2 p3 p4 p5 p6) (1024 : Nat)) (w0_5 p1 p2 p3 p4 p5 p6) (1024 : Nat)) (v0_59 p1 p2 p3 p4 p5 p6).toNatClampNeg))])
              refine Go.of (fun _ k => XS.iload X61.here hx rfl (hb hby at_220) rfl k) ?_
              show Go p e below W T61 (mkF m 222 #[.val (.int p1), .val (.int p2), .val (.int p3), .val (.int p4), .val (.int p5), .val (.int p6), .val (.ref b1), .val (.int (v0_3 p1 p2 p3 p4 p5 p6)), .val (.int (v0_6 p1 p2 p3 p4 p5 p6)), .val (.int (v0_7 p1 p2 p3 p4 p5 p6)), .val (.int (v0_8 p1 p2 p3 p4 p5 p6)), .val (.int (v0_9 p1 p2 p3 p4 p5 p6)), .val (.ref b10), .val (.int (v0_49 p1 p2 p3 p4 p5 p6)), .val (.int (v0_52 p1 p2 p3 p4 p5 p6)), .val (.ref b51), .val (.int (v0_59 p1 p2 p3 p4 p5 p6)), .val (.int (v0_62 p1 p2 p3 p4 p5 p6))] [(.int (v0_62 p1 p2 p3 p4 p5 p6)), (.int ((f4g_nb (v0_9 p1 p2 p3 p4 p5 p6) (v0_8 p1 p2 p3 p4 p5 p6) (f4k_size (v0_7 p1 p2 p3 p4 p5 p6) (v0_6 p1 p2 p3 p4 p5 p6) (0 : Int32) f1_nb (w0_5 p1 p2 p3 p4 p5 p6) (1024 : Nat)) (f4k_ab (v0_7 p1 p2 p3 p4 p5 p6) (v0_6 p1 p2 p3 p4 p5 p6) (0 : Int32) f1_nb (w0_5 p1 p2 p3 p4 p5 p6) (1024 : Nat)) (w0_5 p1 p2 p3 p4 p5 p6) (1024 : Nat)) (v0_59 p1 p2 p3 p4 p5 p6).toNatClampNeg))])
              by_cases c63 : ((f4g_nb (v0_9 p1 p2 p3 p4 p5 p6) (v0_8 p1 p2 p3 p4 p5 p6) (f4k_size (v0_7 p1 p2 p3 p4 p5 p6) (v0_6 p1 p2 p3 p4 p5 p6) (0 : Int32) f1_nb (w0_5 p1 p2 p3 p4 p5 p6) (1024 : Nat)) (f4k_ab (v0_7 p1 p2 p3 p4 p5 p6) (v0_6 p1 p2 p3 p4 p5 p6) (0 : Int32) f1_nb (w0_5 p1 p2 p3 p4 p5 p6) (1024 : Nat)) (w0_5 p1 p2 p3 p4 p5 p6) (1024 : Nat)) (v0_59 p1 p2 p3 p4 p5 p6).toNatClampNeg) = (v0_62 p1 p2 p3 p4 p5 p6)
              · refine Go.of (fun _ k => XS.icmpNo X61.here hx rfl (hb hby at_222) rfl (Jvm.Free.XT.ii_ne_f c63) k) ?_
                show Go p e below W T61 (mkF m 225 #[.val (.int p1), .val (.int p2), .val (.int p3), .val (.int p4), .val (.int p5), .val (.int p6), .val (.ref b1), .val (.int (v0_3 p1 p2 p3 p4 p5 p6)), .val (.int (v0_6 p1 p2 p3 p4 p5 p6)), .val (.int (v0_7 p1 p2 p3 p4 p5 p6)), .val (.int (v0_8 p1 p2 p3 p4 p5 p6)), .val (.int (v0_9 p1 p2 p3 p4 p5 p6)), .val (.ref b10), .val (.int (v0_49 p1 p2 p3 p4 p5 p6)), .val (.int (v0_52 p1 p2 p3 p4 p5 p6)), .val (.ref b51), .val (.int (v0_59 p1 p2 p3 p4 p5 p6)), .val (.int (v0_62 p1 p2 p3 p4 p5 p6))] [])
                refine Go.of (fun _ k => XS.iconst X61.here hx rfl (hb hby at_225) k) ?_
                show Go p e below W T61 (mkF m 226 #[.val (.int p1), .val (.int p2), .val (.int p3), .val (.int p4), .val (.int p5), .val (.int p6), .val (.ref b1), .val (.int (v0_3 p1 p2 p3 p4 p5 p6)), .val (.int (v0_6 p1 p2 p3 p4 p5 p6)), .val (.int (v0_7 p1 p2 p3 p4 p5 p6)), .val (.int (v0_8 p1 p2 p3 p4 p5 p6)), .val (.int (v0_9 p1 p2 p3 p4 p5 p6)), .val (.ref b10), .val (.int (v0_49 p1 p2 p3 p4 p5 p6)), .val (.int (v0_52 p1 p2 p3 p4 p5 p6)), .val (.ref b51), .val (.int (v0_59 p1 p2 p3 p4 p5 p6)), .val (.int (v0_62 p1 p2 p3 p4 p5 p6))] [(.int (1 : Int32))])
                refine Go.of (fun _ k => XS.goto X61.here hx rfl (pc0 := 226) (pc' := 230) rfl (hb hby at_226) (by decide) (by decide) k) ?_
                show Go p e below W T61 (mkF m 230 #[.val (.int p1), .val (.int p2), .val (.int p3), .val (.int p4), .val (.int p5), .val (.int p6), .val (.ref b1), .val (.int (v0_3 p1 p2 p3 p4 p5 p6)), .val (.int (v0_6 p1 p2 p3 p4 p5 p6)), .val (.int (v0_7 p1 p2 p3 p4 p5 p6)), .val (.int (v0_8 p1 p2 p3 p4 p5 p6)), .val (.int (v0_9 p1 p2 p3 p4 p5 p6)), .val (.ref b10), .val (.int (v0_49 p1 p2 p3 p4 p5 p6)), .val (.int (v0_52 p1 p2 p3 p4 p5 p6)), .val (.ref b51), .val (.int (v0_59 p1 p2 p3 p4 p5 p6)), .val (.int (v0_62 p1 p2 p3 p4 p5 p6))] [(.int (1 : Int32))])
                have u_f0 : (f0 p1 p2 p3 p4 p5 p6) = (1 : Int32) := by rw [f0, if_neg c12, if_pos c50, if_neg c53, if_pos c55, if_neg c57, if_neg c58, if_pos c63]
                have fin : Q0 Z p1 p2 p3 p4 p5 p6 h0 n0 (some (.int (f0 p1 p2 p3 p4 p5 p6))) T51.heap L51 := ⟨rfl, N, K⟩
                exact Go.retN X61 hx hret (Or.inl rfl) (hb hby at_230) hlk (Eq.trans rfl u_f0.symm) (fun t ht fe => hW t _ _ _ _ (by rw [ht, e61]; exact fin) fe (by decide) (by decide))
              · refine Go.of (fun _ k => XS.icmpYes X61.here hx rfl (pc0 := 222) (pc' := 229) rfl (hb hby at_222) rfl (Jvm.Free.XT.ii_ne_t c63) (by decide) (by decide) k) ?_
                show Go p e below W T61 (mkF m 229 #[.val (.int p1), .val (.int p2), .val (.int p3), .val (.int p4), .val (.int p5), .val (.int p6), .val (.ref b1), .val (.int (v0_3 p1 p2 p3 p4 p5 p6)), .val (.int (v0_6 p1 p2 p3 p4 p5 p6)), .val (.int (v0_7 p1 p2 p3 p4 p5 p6)), .val (.int (v0_8 p1 p2 p3 p4 p5 p6)), .val (.int (v0_9 p1 p2 p3 p4 p5 p6)), .val (.ref b10), .val (.int (v0_49 p1 p2 p3 p4 p5 p6)), .val (.int (v0_52 p1 p2 p3 p4 p5 p6)), .val (.ref b51), .val (.int (v0_59 p1 p2 p3 p4 p5 p6)), .val (.int (v0_62 p1 p2 p3 p4 p5 p6))] [])
                refine Go.of (fun _ k => XS.iconst X61.here hx rfl (hb hby at_229) k) ?_
                show Go p e below W T61 (mkF m 230 #[.val (.int p1), .val (.int p2), .val (.int p3), .val (.int p4), .val (.int p5), .val (.int p6), .val (.ref b1), .val (.int (v0_3 p1 p2 p3 p4 p5 p6)), .val (.int (v0_6 p1 p2 p3 p4 p5 p6)), .val (.int (v0_7 p1 p2 p3 p4 p5 p6)), .val (.int (v0_8 p1 p2 p3 p4 p5 p6)), .val (.int (v0_9 p1 p2 p3 p4 p5 p6)), .val (.ref b10), .val (.int (v0_49 p1 p2 p3 p4 p5 p6)), .val (.int (v0_52 p1 p2 p3 p4 p5 p6)), .val (.ref b51), .val (.int (v0_59 p1 p2 p3 p4 p5 p6)), .val (.int (v0_62 p1 p2 p3 p4 p5 p6))] [(.int (0 : Int32))])
                have u_f0 : (f0 p1 p2 p3 p4 p5 p6) = (0 : Int32) := by rw [f0, if_neg c12, if_pos c50, if_neg c53, if_pos c55, if_neg c57, if_neg c58, if_neg c63]
                have fin : Q0 Z p1 p2 p3 p4 p5 p6 h0 n0 (some (.int (f0 p1 p2 p3 p4 p5 p6))) T51.heap L51 := ⟨rfl, N, K⟩
                exact Go.retN X61 hx hret (Or.inl rfl) (hb hby at_230) hlk (Eq.trans rfl u_f0.symm) (fun t ht fe => hW t _ _ _ _ (by rw [ht, e61]; exact fin) fe (by decide) (by decide))
        · refine Go.of (fun _ k => XS.icmpNo X54.here hx rfl (hb hby at_145) rfl (Jvm.Free.XT.ii_eq_f c55) k) ?_
          show Go p e below W T54 (mkF m 148 #[.val (.int p1), .val (.int p2), .val (.int p3), .val (.int p4), .val (.int p5), .val (.int p6), .val (.ref b1), .val (.int (v0_3 p1 p2 p3 p4 p5 p6)), .val (.int (v0_6 p1 p2 p3 p4 p5 p6)), .val (.int (v0_7 p1 p2 p3 p4 p5 p6)), .val (.int (v0_8 p1 p2 p3 p4 p5 p6)), .val (.int (v0_9 p1 p2 p3 p4 p5 p6)), .val (.ref b10), .val (.int (v0_49 p1 p2 p3 p4 p5 p6)), .val (.int (v0_52 p1 p2 p3 p4 p5 p6)), .unset, .unset, .unset] [])
          refine Go.of (fun _ k => XS.iconst X54.here hx rfl (hb hby at_148) k) ?_
          show Go p e below W T54 (mkF m 149 #[.val (.int p1), .val (.int p2), .val (.int p3), .val (.int p4), .val (.int p5), .val (.int p6), .val (.ref b1), .val (.int (v0_3 p1 p2 p3 p4 p5 p6)), .val (.int (v0_6 p1 p2 p3 p4 p5 p6)), .val (.int (v0_7 p1 p2 p3 p4 p5 p6)), .val (.int (v0_8 p1 p2 p3 p4 p5 p6)), .val (.int (v0_9 p1 p2 p3 p4 p5 p6)), .val (.ref b10), .val (.int (v0_49 p1 p2 p3 p4 p5 p6)), .val (.int (v0_52 p1 p2 p3 p4 p5 p6)), .unset, .unset, .unset] [(.int (0 : Int32))])
          have u_f0 : (f0 p1 p2 p3 p4 p5 p6) = (0 : Int32) := by rw [f0, if_neg c12, if_pos c50, if_neg c53, if_neg c55]
          have fin : Q0 Z p1 p2 p3 p4 p5 p6 h0 n0 (some (.int (f0 p1 p2 p3 p4 p5 p6))) T51.heap L51 := ⟨rfl, N, K⟩
          exact Go.retN X54 hx hret (Or.inl rfl) (hb hby at_149) hlk (Eq.trans rfl u_f0.symm) (fun t ht fe => hW t _ _ _ _ (by rw [ht, e54]; exact fin) fe (by decide) (by decide))
    · show Go p e below W T48 (mkF m 123 #[.val (.int p1), .val (.int p2), .val (.int p3), .val (.int p4), .val (.int p5), .val (.int p6), .val (.ref b1), .val (.int (v0_3 p1 p2 p3 p4 p5 p6)), .val (.int (v0_6 p1 p2 p3 p4 p5 p6)), .val (.int (v0_7 p1 p2 p3 p4 p5 p6)), .val (.int (v0_8 p1 p2 p3 p4 p5 p6)), .val (.int (v0_9 p1 p2 p3 p4 p5 p6)), .val (.ref b10), .val (.int (v0_49 p1 p2 p3 p4 p5 p6)), .unset, .unset, .unset, .unset] [(.int (v0_8 p1 p2 p3 p4 p5 p6)), (.int (v0_9 p1 p2 p3 p4 p5 p6)), (.ref b1), (.ref b10)])
      refine Go.callV X48 hx hZ hown (hw _ (List.mem_of_getElem? (i := 18) rfl)) (hw _ (List.mem_of_getElem? (i := 19) rfl)) (hw _ (List.mem_of_getElem? (i := 21) rfl)) (hw _ (List.mem_of_getElem? (i := 20) rfl)) (hw _ (List.mem_of_getElem? (i := 4) rfl)) (hw _ (List.mem_of_getElem? (i := 22) rfl)) (by decide) e48 E_b10 (rm4k l Z a0 hw [] b10 b1 (v0_9 p1 p2 p3 p4 p5 p6) (v0_8 p1 p2 p3 p4 p5 p6) (f4k_size (v0_7 p1 p2 p3 p4 p5 p6) (v0_6 p1 p2 p3 p4 p5 p6) (0 : Int32) f1_nb (w0_5 p1 p2 p3 p4 p5 p6) (1024 : Nat)) b11 (f4k_ab (v0_7 p1 p2 p3 p4 p5 p6) (v0_6 p1 p2 p3 p4 p5 p6) (0 : Int32) f1_nb (w0_5 p1 p2 p3 p4 p5 p6) (1024 : Nat)) (1024 : Nat) (w0_5 p1 p2 p3 p4 p5 p6) T45.heap n0 Z0 E_b10 F_b10_size F_b10_bytes A_b11 A_b1 g_b10 ne_b10_b11 (Ne.symm ne_b1_b10) (Ne.symm ne_b1_b11) g_b11 c50 (own_h123k p1 p2 p3 p4 p5 p6 c12)) (V := 0) (by decide) (by decide) (by decide) (by decide) (by rw [hml]; rfl) (argsL := [(.ref b1), (.int (v0_9 p1 p2 p3 p4 p5 p6)), (.int (v0_8 p1 p2 p3 p4 p5 p6))]) (rest := []) rfl (lenOf pd___BII_V rfl) rfl (Nat.le_of_ble_eq_true rfl) (hb hby at_123) ?_
      rintro T64 _ M64 ⟨rfl, N64, K64, F_b10_size, F_b10_bytes, A_b11⟩ X64
      obtain ⟨L64, zq64⟩ : ∃ z, z = L45 ++ M64 := ⟨_, rfl⟩
      have N := Fr.app N N64
      rw [← zq64] at X64 N
      have A_b1 := A_b1.keep K64 (ninS ne_b1_b10 (ninS ne_b1_b11 nin0))
      have E_b10 := E_b10.keep K64
      have K := K.trans K64 (by
        intro x hx
        simp only [List.mem_cons, List.not_mem_nil, or_false] at hx
        rcases hx with rfl | rfl
        · exact Or.inr s_b10
        · exact Or.inr s_b11)
      have Z0 := Nat.le_trans Z0 K64.1
      show Go p e below W T64 (mkF m 126 #[.val (.int p1), .val (.int p2), .val (.int p3), .val (.int p4), .val (.int p5), .val (.int p6), .val (.ref b1), .val (.int (v0_3 p1 p2 p3 p4 p5 p6)), .val (.int (v0_6 p1 p2 p3 p4 p5 p6)), .val (.int (v0_7 p1 p2 p3 p4 p5 p6)), .val (.int (v0_8 p1 p2 p3 p4 p5 p6)), .val (.int (v0_9 p1 p2 p3 p4 p5 p6)), .val (.ref b10), .val (.int (v0_49 p1 p2 p3 p4 p5 p6)), .unset, .unset, .unset, .unset] [])
      refine Go.of (fun _ k => XS.iload X64.here hx rfl (hb hby at_126) rfl k) ?_
      show Go p e below W T64 (mkF m 128 #[.val (.int p1), .val (.int p2), .val (.int p3), .val (.int p4), .val (.int p5), .val (.int p6), .val (.ref b1), .val (.int (v0_3 p1 p2 p3 p4 p5 p6)), .val (.int (v0_6 p1 p2 p3 p4 p5 p6)), .val (.int (v0_7 p1 p2 p3 p4 p5 p6)), .val (.int (v0_8 p1 p2 p3 p4 p5 p6)), .val (.int (v0_9 p1 p2 p3 p4 p5 p6)), .val (.ref b10), .val (.int (v0_49 p1 p2 p3 p4 p5 p6)), .unset, .unset, .unset, .unset] [(.int (v0_6 p1 p2 p3 p4 p5 p6))])
      refine Go.of (fun _ k => XS.iload X64.here hx rfl (hb hby at_128) rfl k) ?_
      show Go p e below W T64 (mkF m 130 #[.val (.int p1), .val (.int p2), .val (.int p3), .val (.int p4), .val (.int p5), .val (.int p6), .val (.ref b1), .val (.int (v0_3 p1 p2 p3 p4 p5 p6)), .val (.int (v0_6 p1 p2 p3 p4 p5 p6)), .val (.int (v0_7 p1 p2 p3 p4 p5 p6)), .val (.int (v0_8 p1 p2 p3 p4 p5 p6)), .val (.int (v0_9 p1 p2 p3 p4 p5 p6)), .val (.ref b10), .val (.int (v0_49 p1 p2 p3 p4 p5 p6)), .unset, .unset, .unset, .unset] [(.int (v0_8 p1 p2 p3 p4 p5 p6)), (.int (v0_6 p1 p2 p3 p4 p5 p6))])
      refine Go.of (fun _ k => XS.iadd X64.here hx rfl (hb hby at_130) rfl k) ?_
      show Go p e below W T64 (mkF m 131 #[.val (.int p1), .val (.int p2), .val (.int p3), .val (.int p4), .val (.int p5), .val (.int p6), .val (.ref b1), .val (.int (v0_3 p1 p2 p3 p4 p5 p6)), .val (.int (v0_6 p1 p2 p3 p4 p5 p6)), .val (.int (v0_7 p1 p2 p3 p4 p5 p6)), .val (.int (v0_8 p1 p2 p3 p4 p5 p6)), .val (.int (v0_9 p1 p2 p3 p4 p5 p6)), .val (.ref b10), .val (.int (v0_49 p1 p2 p3 p4 p5 p6)), .unset, .unset, .unset, .unset] [(.int ((v0_6 p1 p2 p3 p4 p5 p6) + (v0_8 p1 p2 p3 p4 p5 p6)))])
      refine Go.of (fun _ k => XS.istore X64.here hx rfl (hb hby at_131) rfl (l' := #[.val (.int p1), .val (.int p2), .val (.int p3), .val (.int p4), .val (.int p5), .val (.int p6), .val (.ref b1), .val (.int (v0_3 p1 p2 p3 p4 p5 p6)), .val (.int (v0_6 p1 p2 p3 p4 p5 p6)), .val (.int (v0_7 p1 p2 p3 p4 p5 p6)), .val (.int (v0_8 p1 p2 p3 p4 p5 p6)), .val (.int (v0_9 p1 p2 p3 p4 p5 p6)), .val (.ref b10), .val (.int (v0_49 p1 p2 p3 p4 p5 p6)), .val (.int (v0_65 p1 p2 p3 p4 p5 p6)), .unset, .unset, .unset]) rfl k) ?_
      show Go p e below W T64 (mkF m 133 #[.val (.int p1), .val (.int p2), .val (.int p3), .val (.int p4), .val (.int p5), .val (.int p6), .val (.ref b1), .val (.int (v0_3 p1 p2 p3 p4 p5 p6)), .val (.int (v0_6 p1 p2 p3 p4 p5 p6)), .val (.int (v0_7 p1 p2 p3 p4 p5 p6)), .val (.int (v0_8 p1 p2 p3 p4 p5 p6)), .val (.int (v0_9 p1 p2 p3 p4 p5 p6)), .val (.ref b10), .val (.int (v0_49 p1 p2 p3 p4 p5 p6)), .val (.int (v0_65 p1 p2 p3 p4 p5 p6)), .unset, .unset, .unset] [])
      refine Go.of (fun _ k => XS.iload X64.here hx rfl (hb hby at_133) rfl k) ?_
      show Go p e below W T64 (mkF m 135 #[.val (.int p1), .val (.int p2), .val (.int p3), .val (.int p4), .val (.int p5), .val (.int p6), .val (.ref b1), .val (.int (v0_3 p1 p2 p3 p4 p5 p6)), .val (.int (v0_6 p1 p2 p3 p4 p5 p6)), .val (.int (v0_7 p1 p2 p3 p4 p5 p6)), .val (.int (v0_8 p1 p2 p3 p4 p5 p6)), .val (.int (v0_9 p1 p2 p3 p4 p5 p6)), .val (.ref b10), .val (.int (v0_49 p1 p2 p3 p4 p5 p6)), .val (.int (v0_65 p1 p2 p3 p4 p5 p6)), .unset, .unset, .unset] [(.int (v0_49 p1 p2 p3 p4 p5 p6))])
      by_cases c66 : (v0_49 p1 p2 p3 p4 p5 p6) = (0 : Int32)
      · refine Go.of (fun _ k => XS.ifYes X64.here hx rfl (pc0 := 135) (pc' := 148) rfl (hb hby at_135) rfl (Jvm.Free.XT.i0_eq_t c66) (by decide) (by decide) k) ?_
        show Go p e below W T64 (mkF m 148 #[.val (.int p1), .val (.int p2), .val (.int p3), .val (.int p4), .val (.int p5), .val (.int p6), .val (.ref b1), .val (.int (v0_3 p1 p2 p3 p4 p5 p6)), .val (.int (v0_6 p1 p2 p3 p4 p5 p6)), .val (.int (v0_7 p1 p2 p3 p4 p5 p6)), .val (.int (v0_8 p1 p2 p3 p4 p5 p6)), .val (.int (v0_9 p1 p2 p3 p4 p5 p6)), .val (.ref b10), .val (.int (v0_49 p1 p2 p3 p4 p5 p6)), .val (.int (v0_65 p1 p2 p3 p4 p5 p6)), .unset, .unset, .unset] [])
        refine Go.of (fun _ k => XS.iconst X64.here hx rfl (hb hby at_148) k) ?_
        show Go p e below W T64 (mkF m 149 #[.val (.int p1), .val (.int p2), .val (.int p3), .val (.int p4), .val (.int p5), .val (.int p6), .val (.ref b1), .val (.int (v0_3 p1 p2 p3 p4 p5 p6)), .val (.int (v0_6 p1 p2 p3 p4 p5 p6)), .val (.int (v0_7 p1 p2 p3 p4 p5 p6)), .val (.int (v0_8 p1 p2 p3 p4 p5 p6)), .val (.int (v0_9 p1 p2 p3 p4 p5 p6)), .val (.ref b10), .val (.int (v0_49 p1 p2 p3 p4 p5 p6)), .val (.int (v0_65 p1 p2 p3 p4 p5 p6)), .unset, .unset, .unset] [(.int (0 : Int32))])
        have u_f0 : (f0 p1 p2 p3 p4 p5 p6) = (0 : Int32) := by rw [f0, if_neg c12, if_neg c50, if_pos c66]
        have fin : Q0 Z p1 p2 p3 p4 p5 p6 h0 n0 (some (.int (f0 p1 p2 p3 p4 p5 p6))) T64.heap L64 := ⟨rfl, N, K⟩
        exact Go.retN X64 hx hret (Or.inl rfl) (hb hby at_149) hlk (Eq.trans rfl u_f0.symm) (fun t ht fe => hW t _ _ _ _ (by rw [ht]; exact fin) fe (by decide) (by decide))
      · refine Go.of (fun _ k => XS.ifNo X64.here hx rfl (hb hby at_135) rfl (Jvm.Free.XT.i0_eq_f c66) k) ?_
        show Go p e below W T64 (mkF m 138 #[.val (.int p1), .val (.int p2), .val (.int p3), .val (.int p4), .val (.int p5), .val (.int p6), .val (.ref b1), .val (.int (v0_3 p1 p2 p3 p4 p5 p6)), .val (.int (v0_6 p1 p2 p3 p4 p5 p6)), .val (.int (v0_7 p1 p2 p3 p4 p5 p6)), .val (.int (v0_8 p1 p2 p3 p4 p5 p6)), .val (.int (v0_9 p1 p2 p3 p4 p5 p6)), .val (.ref b10), .val (.int (v0_49 p1 p2 p3 p4 p5 p6)), .val (.int (v0_65 p1 p2 p3 p4 p5 p6)), .unset, .unset, .unset] [])
        refine Go.of (fun _ k => XS.aload X64.here hx rfl (hb hby at_138) rfl rfl k) ?_
        show Go p e below W T64 (mkF m 140 #[.val (.int p1), .val (.int p2), .val (.int p3), .val (.int p4), .val (.int p5), .val (.int p6), .val (.ref b1), .val (.int (v0_3 p1 p2 p3 p4 p5 p6)), .val (.int (v0_6 p1 p2 p3 p4 p5 p6)), .val (.int (v0_7 p1 p2 p3 p4 p5 p6)), .val (.int (v0_8 p1 p2 p3 p4 p5 p6)), .val (.int (v0_9 p1 p2 p3 p4 p5 p6)), .val (.ref b10), .val (.int (v0_49 p1 p2 p3 p4 p5 p6)), .val (.int (v0_65 p1 p2 p3 p4 p5 p6)), .unset, .unset, .unset] [(.ref b10)])
        refine Go.callV X64 hx hZ hown (hw _ (List.mem_of_getElem? (i := 33) rfl)) (hw _ (List.mem_of_getElem? (i := 34) rfl)) (hw _ (List.mem_of_getElem? (i := 36) rfl)) (hw _ (List.mem_of_getElem? (i := 35) rfl)) (hw _ (List.mem_of_getElem? (i := 4) rfl)) (hw _ (List.mem_of_getElem? (i := 37) rfl)) (by decide) rfl E_b10 (rm6 l Z a0 hw [] b10 (f4k_size (v0_9 p1 p2 p3 p4 p5 p6) (v0_8 p1 p2 p3 p4 p5 p6) (f4k_size (v0_7 p1 p2 p3 p4 p5 p6) (v0_6 p1 p2 p3 p4 p5 p6) (0 : Int32) f1_nb (w0_5 p1 p2 p3 p4 p5 p6) (1024 : Nat)) (f4k_ab (v0_7 p1 p2 p3 p4 p5 p6) (v0_6 p1 p2 p3 p4 p5 p6) (0 : Int32) f1_nb (w0_5 p1 p2 p3 p4 p5 p6) (1024 : Nat)) (w0_5 p1 p2 p3 p4 p5 p6) (1024 : Nat)) T64.heap F_b10_size) (V := 0) (by decide) (by decide) (by decide) (by decide) (by rw [hml]; rfl) (argsL := []) (rest := []) rfl (lenOf pd___I rfl) rfl (Nat.le_of_ble_eq_true rfl) (hb hby at_140) ?_
        rintro T67 _ _ ⟨rfl, rfl, e67⟩ X67
        rw [List.append_nil] at X67
        show Go p e below W T67 (mkF m 143 #[.val (.int p1), .val (.int p2), .val (.int p3), .val (.int p4), .val (.int p5), .val (.int p6), .val (.ref b1), .val (.int (v0_3 p1 p2 p3 p4 p5 p6)), .val (.int (v0_6 p1 p2 p3 p4 p5 p6)), .val (.int (v0_7 p1 p2 p3 p4 p5 p6)), .val (.int (v0_8 p1 p2 p3 p4 p5 p6)), .val (.int (v0_9 p1 p2 p3 p4 p5 p6)), .val (.ref b10), .val (.int (v0_49 p1 p2 p3 p4 p5 p6)), .val (.int (v0_65 p1 p2 p3 p4 p5 p6)), .unset, .unset, .unset] [(.int (f6 (f4k_size (v0_9 p1 p2 p3 p4 p5 p6) (v0_8 p1 p2 p3 p4 p5 p6) (f4k_size (v0_7 p1 p2 p3 p4 p5 p6) (v0_6 p1 p2 p3 p4 p5 p6) (0 : Int32) f1_nb (w0_5 p1 p2 p3 p4 p5 p6) (1024 : Nat)) (f4k_ab (v0_7 p1 p2 p3 p4 p5 p6) (v0_6 p1 p2 p3 p4 p5 p6) (0 : Int32) f1_nb (w0_5 p1 p2 p3 p4 p5 p6) (1024 : Nat)) (w0_5 p1 p2 p3 p4 p5 p6) (1024 : Nat))))])
        refine Go.of (fun _ k => XS.iload X67.here hx rfl (hb hby at_143) rfl k) ?_
        show Go p e below W T67 (mkF m 145 #[.val (.int p1), .val (.int p2), .val (.int p3), .val (.int p4), .val (.int p5), .val (.int p6), .val (.ref b1), .val (.int (v0_3 p1 p2 p3 p4 p5 p6)), .val (.int (v0_6 p1 p2 p3 p4 p5 p6)), .val (.int (v0_7 p1 p2 p3 p4 p5 p6)), .val (.int (v0_8 p1 p2 p3 p4 p5 p6)), .val (.int (v0_9 p1 p2 p3 p4 p5 p6)), .val (.ref b10), .val (.int (v0_49 p1 p2 p3 p4 p5 p6)), .val (.int (v0_65 p1 p2 p3 p4 p5 p6)), .unset, .unset, .unset] [(.int (v0_65 p1 p2 p3 p4 p5 p6)), (.int (f6 (f4k_size (v0_9 p1 p2 p3 p4 p5 p6) (v0_8 p1 p2 p3 p4 p5 p6) (f4k_size (v0_7 p1 p2 p3 p4 p5 p6) (v0_6 p1 p2 p3 p4 p5 p6) (0 : Int32) f1_nb (w0_5 p1 p2 p3 p4 p5 p6) (1024 : Nat)) (f4k_ab (v0_7 p1 p2 p3 p4 p5 p6) (v0_6 p1 p2 p3 p4 p5 p6) (0 : Int32) f1_nb (w0_5 p1 p2 p3 p4 p5 p6) (1024 : Nat)) (w0_5 p1 p2 p3 p4 p5 p6) (1024 : Nat))))])
        by_cases c68 : (f6 (f4k_size (v0_9 p1 p2 p3 p4 p5 p6) (v0_8 p1 p2 p3 p4 p5 p6) (f4k_size (v0_7 p1 p2 p3 p4 p5 p6) (v0_6 p1 p2 p3 p4 p5 p6) (0 : Int32) f1_nb (w0_5 p1 p2 p3 p4 p5 p6) (1024 : Nat)) (f4k_ab (v0_7 p1 p2 p3 p4 p5 p6) (v0_6 p1 p2 p3 p4 p5 p6) (0 : Int32) f1_nb (w0_5 p1 p2 p3 p4 p5 p6) (1024 : Nat)) (w0_5 p1 p2 p3 p4 p5 p6) (1024 : Nat))) = (v0_65 p1 p2 p3 p4 p5 p6)
        · refine Go.of (fun _ k => XS.icmpYes X67.here hx rfl (pc0 := 145) (pc' := 150) rfl (hb hby at_145) rfl (Jvm.Free.XT.ii_eq_t c68) (by decide) (by decide) k) ?_
          show Go p e below W T67 (mkF m 150 #[.val (.int p1), .val (.int p2), .val (.int p3), .val (.int p4), .val (.int p5), .val (.int p6), .val (.ref b1), .val (.int (v0_3 p1 p2 p3 p4 p5 p6)), .val (.int (v0_6 p1 p2 p3 p4 p5 p6)), .val (.int (v0_7 p1 p2 p3 p4 p5 p6)), .val (.int (v0_8 p1 p2 p3 p4 p5 p6)), .val (.int (v0_9 p1 p2 p3 p4 p5 p6)), .val (.ref b10), .val (.int (v0_49 p1 p2 p3 p4 p5 p6)), .val (.int (v0_65 p1 p2 p3 p4 p5 p6)), .unset, .unset, .unset] [])
          refine Go.of (fun _ k => XS.aload X67.here hx rfl (hb hby at_150) rfl rfl k) ?_
          show Go p e below W T67 (mkF m 152 #[.val (.int p1), .val (.int p2), .val (.int p3), .val (.int p4), .val (.int p5), .val (.int p6), .val (.ref b1), .val (.int (v0_3 p1 p2 p3 p4 p5 p6)), .val (.int (v0_6 p1 p2 p3 p4 p5 p6)), .val (.int (v0_7 p1 p2 p3 p4 p5 p6)), .val (.int (v0_8 p1 p2 p3 p4 p5 p6)), .val (.int (v0_9 p1 p2 p3 p4 p5 p6)), .val (.ref b10), .val (.int (v0_49 p1 p2 p3 p4 p5 p6)), .val (.int (v0_65 p1 p2 p3 p4 p5 p6)), .unset, .unset, .unset] [(.ref b10)])
          refine Go.callV X67 hx hZ hown (hw _ (List.mem_of_getElem? (i := 38) rfl)) (hw _ (List.mem_of_getElem? (i := 39) rfl)) (hw _ (List.mem_of_getElem? (i := 41) rfl)) (hw _ (List.mem_of_getElem? (i := 40) rfl)) (hw _ (List.mem_of_getElem? (i := 4) rfl)) (hw _ (List.mem_of_getElem? (i := 42) rfl)) (by decide) e67 E_b10 (rm7 l Z a0 hw [] b10 b11 T64.heap F_b10_bytes) (V := 0) (by decide) (by decide) (by decide) (by decide) (by rw [hml]; rfl) (argsL := []) (rest := []) rfl (lenOf pd____B rfl) rfl (Nat.le_of_ble_eq_true rfl) (hb hby at_152) ?_
          rintro T69 _ _ ⟨rfl, rfl, e69⟩ X69
          rw [List.append_nil] at X69
          show Go p e below W T69 (mkF m 155 #[.val (.int p1), .val (.int p2), .val (.int p3), .val (.int p4), .val (.int p5), .val (.int p6), .val (.ref b1), .val (.int (v0_3 p1 p2 p3 p4 p5 p6)), .val (.int (v0_6 p1 p2 p3 p4 p5 p6)), .val (.int (v0_7 p1 p2 p3 p4 p5 p6)), .val (.int (v0_8 p1 p2 p3 p4 p5 p6)), .val (.int (v0_9 p1 p2 p3 p4 p5 p6)), .val (.ref b10), .val (.int (v0_49 p1 p2 p3 p4 p5 p6)), .val (.int (v0_65 p1 p2 p3 p4 p5 p6)), .unset, .unset, .unset] [(.ref b11)])
          refine Go.of (fun _ k => XS.astore X69.here hx rfl (hb hby at_155) rfl rfl (l' := #[.val (.int p1), .val (.int p2), .val (.int p3), .val (.int p4), .val (.int p5), .val (.int p6), .val (.ref b1), .val (.int (v0_3 p1 p2 p3 p4 p5 p6)), .val (.int (v0_6 p1 p2 p3 p4 p5 p6)), .val (.int (v0_7 p1 p2 p3 p4 p5 p6)), .val (.int (v0_8 p1 p2 p3 p4 p5 p6)), .val (.int (v0_9 p1 p2 p3 p4 p5 p6)), .val (.ref b10), .val (.int (v0_49 p1 p2 p3 p4 p5 p6)), .val (.int (v0_65 p1 p2 p3 p4 p5 p6)), .val (.ref b11), .unset, .unset]) rfl k) ?_
          show Go p e below W T69 (mkF m 157 #[.val (.int p1), .val (.int p2), .val (.int p3), .val (.int p4), .val (.int p5), .val (.int p6), .val (.ref b1), .val (.int (v0_3 p1 p2 p3 p4 p5 p6)), .val (.int (v0_6 p1 p2 p3 p4 p5 p6)), .val (.int (v0_7 p1 p2 p3 p4 p5 p6)), .val (.int (v0_8 p1 p2 p3 p4 p5 p6)), .val (.int (v0_9 p1 p2 p3 p4 p5 p6)), .val (.ref b10), .val (.int (v0_49 p1 p2 p3 p4 p5 p6)), .val (.int (v0_65 p1 p2 p3 p4 p5 p6)), .val (.ref b11), .unset, .unset] [])
          refine Go.of (fun _ k => XS.aload X69.here hx rfl (hb hby at_157) rfl rfl k) ?_
          show Go p e below W T69 (mkF m 159 #[.val (.int p1), .val (.int p2), .val (.int p3), .val (.int p4), .val (.int p5), .val (.int p6), .val (.ref b1), .val (.int (v0_3 p1 p2 p3 p4 p5 p6)), .val (.int (v0_6 p1 p2 p3 p4 p5 p6)), .val (.int (v0_7 p1 p2 p3 p4 p5 p6)), .val (.int (v0_8 p1 p2 p3 p4 p5 p6)), .val (.int (v0_9 p1 p2 p3 p4 p5 p6)), .val (.ref b10), .val (.int (v0_49 p1 p2 p3 p4 p5 p6)), .val (.int (v0_65 p1 p2 p3 p4 p5 p6)), .val (.ref b11), .unset, .unset] [(.ref b11)])
          refine Go.alen X69 hx hZ e69 A_b11 (hb hby at_159) ?_
          show Go p e below W T69 (mkF m 160 #[.val (.int p1), .val (.int p2), .val (.int p3), .val (.int p4), .val (.int p5), .val (.int p6), .val (.ref b1), .val (.int (v0_3 p1 p2 p3 p4 p5 p6)), .val (.int (v0_6 p1 p2 p3 p4 p5 p6)), .val (.int (v0_7 p1 p2 p3 p4 p5 p6)), .val (.int (v0_8 p1 p2 p3 p4 p5 p6)), .val (.int (v0_9 p1 p2 p3 p4 p5 p6)), .val (.ref b10), .val (.int (v0_49 p1 p2 p3 p4 p5 p6)), .val (.int (v0_65 p1 p2 p3 p4 p5 p6)), .val (.ref b11), .unset, .unset] [(.int (1024 : Nat).toInt32)])
          refine Go.of (fun _ k => XS.iload X69.here hx rfl (hb hby at_160) rfl k) ?_
          show Go p e below W T69 (mkF m 162 #[.val (.int p1), .val (.int p2), .val (.int p3), .val (.int p4), .val (.int p5), .val (.int p6), .val (.ref b1), .val (.int (v0_3 p1 p2 p3 p4 p5 p6)), .val (.int (v0_6 p1 p2 p3 p4 p5 p6)), .val (.int (v0_7 p1 p2 p3 p4 p5 p6)), .val (.int (v0_8 p1 p2 p3 p4 p5 p6)), .val (.int (v0_9 p1 p2 p3 p4 p5 p6)), .val (.ref b10), .val (.int (v0_49 p1 p2 p3 p4 p5 p6)), .val (.int (v0_65 p1 p2 p3 p4 p5 p6)), .val (.ref b11), .unset, .unset] [(.int (v0_65 p1 p2 p3 p4 p5 p6)), (.int (1024 : Nat).toInt32)])
          by_cases c70 : (1024 : Nat).toInt32 < (v0_65 p1 p2 p3 p4 p5 p6)
          · refine Go.of (fun _ k => XS.icmpNo X69.here hx rfl (hb hby at_162) rfl (Jvm.Free.XT.ii_ge_f c70) k) ?_
            show Go p e below W T69 (mkF m 165 #[.val (.int p1), .val (.int p2), .val (.int p3), .val (.int p4), .val (.int p5), .val (.int p6), .val (.ref b1), .val (.int (v0_3 p1 p2 p3 p4 p5 p6)), .val (.int (v0_6 p1 p2 p3 p4 p5 p6)), .val (.int (v0_7 p1 p2 p3 p4 p5 p6)), .val (.int (v0_8 p1 p2 p3 p4 p5 p6)), .val (.int (v0_9 p1 p2 p3 p4 p5 p6)), .val (.ref b10), .val (.int (v0_49 p1 p2 p3 p4 p5 p6)), .val (.int (v0_65 p1 p2 p3 p4 p5 p6)), .val (.ref b11), .unset, .unset] [])
            refine Go.of (fun _ k => XS.iconst X69.here hx rfl (hb hby at_165) k) ?_
            show Go p e below W T69 (mkF m 166 #[.val (.int p1), .val (.int p2), .val (.int p3), .val (.int p4), .val (.int p5), .val (.int p6), .val (.ref b1), .val (.int (v0_3 p1 p2 p3 p4 p5 p6)), .val (.int (v0_6 p1 p2 p3 p4 p5 p6)), .val (.int (v0_7 p1 p2 p3 p4 p5 p6)), .val (.int (v0_8 p1 p2 p3 p4 p5 p6)), .val (.int (v0_9 p1 p2 p3 p4 p5 p6)), .val (.ref b10), .val (.int (v0_49 p1 p2 p3 p4 p5 p6)), .val (.int (v0_65 p1 p2 p3 p4 p5 p6)), .val (.ref b11), .unset, .unset] [(.int (0 : Int32))])
            have u_f0 : (f0 p1 p2 p3 p4 p5 p6) = (0 : Int32) := by rw [f0, if_neg c12, if_neg c50, if_neg c66, if_pos c68, if_pos c70]
            have fin : Q0 Z p1 p2 p3 p4 p5 p6 h0 n0 (some (.int (f0 p1 p2 p3 p4 p5 p6))) T64.heap L64 := ⟨rfl, N, K⟩
            exact Go.retN X69 hx hret (Or.inl rfl) (hb hby at_166) hlk (Eq.trans rfl u_f0.symm) (fun t ht fe => hW t _ _ _ _ (by rw [ht, e69]; exact fin) fe (by decide) (by decide))
          · refine Go.of (fun _ k => XS.icmpYes X69.here hx rfl (pc0 := 162) (pc' := 167) rfl (hb hby at_162) rfl (Jvm.Free.XT.ii_ge_t c70) (by decide) (by decide) k) ?_
            show Go p e below W T69 (mkF m 167 #[.val (.int p1), .val (.int p2), .val (.int p3), .val (.int p4), .val (.int p5), .val (.int p6), .val (.ref b1), .val (.int (v0_3 p1 p2 p3 p4 p5 p6)), .val (.int (v0_6 p1 p2 p3 p4 p5 p6)), .val (.int (v0_7 p1 p2 p3 p4 p5 p6)), .val (.int (v0_8 p1 p2 p3 p4 p5 p6)), .val (.int (v0_9 p1 p2 p3 p4 p5 p6)), .val (.ref b10), .val (.int (v0_49 p1 p2 p3 p4 p5 p6)), .val (.int (v0_65 p1 p2 p3 p4 p5 p6)), .val (.ref b11), .unset, .unset] [])
            refine Go.of (fun _ k => XS.iload X69.here hx rfl (hb hby at_167) rfl k) ?_
            show Go p e below W T69 (mkF m 169 #[.val (.int p1), .val (.int p2), .val (.int p3), .val (.int p4), .val (.int p5), .val (.int p6), .val (.ref b1), .val (.int (v0_3 p1 p2 p3 p4 p5 p6)), .val (.int (v0_6 p1 p2 p3 p4 p5 p6)), .val (.int (v0_7 p1 p2 p3 p4 p5 p6)), .val (.int (v0_8 p1 p2 p3 p4 p5 p6)), .val (.int (v0_9 p1 p2 p3 p4 p5 p6)), .val (.ref b10), .val (.int (v0_49 p1 p2 p3 p4 p5 p6)), .val (.int (v0_65 p1 p2 p3 p4 p5 p6)), .val (.ref b11), .unset, .unset] [(.int (v0_65 p1 p2 p3 p4 p5 p6))])
            by_cases c71 : (v0_65 p1 p2 p3 p4 p5 p6) = (0 : Int32)
            · refine Go.of (fun _ k => XS.ifNo X69.here hx rfl (hb hby at_169) rfl (Jvm.Free.XT.i0_ne_f c71) k) ?_
              show Go p e below W T69 (mkF m 172 #[.val (.int p1), .val (.int p2), .val (.int p3), .val (.int p4), .val (.int p5), .val (.int p6), .val (.ref b1), .val (.int (v0_3 p1 p2 p3 p4 p5 p6)), .val (.int (v0_6 p1 p2 p3 p4 p5 p6)), .val (.int (v0_7 p1 p2 p3 p4 p5 p6)), .val (.int (v0_8 p1 p2 p3 p4 p5 p6)), .val (.int (v0_9 p1 p2 p3 p4 p5 p6)), .val (.ref b10), .val (.int (v0_49 p1 p2 p3 p4 p5 p6)), .val (.int (v0_65 p1 p2 p3 p4 p5 p6)), .val (.ref b11), .unset, .unset] [])
              refine Go.of (fun _ k => XS.iconst X69.here hx rfl (hb hby at_172) k) ?_
              show Go p e below W T69 (mkF m 173 #[.val (.int p1), .val (.int p2), .val (.int p3), .val (.int p4), .val (.int p5), .val (.int p6), .val (.ref b1), .val (.int (v0_3 p1 p2 p3 p4 p5 p6)), .val (.int (v0_6 p1 p2 p3 p4 p5 p6)), .val (.int (v0_7 p1 p2 p3 p4 p5 p6)), .val (.int (v0_8 p1 p2 p3 p4 p5 p6)), .val (.int (v0_9 p1 p2 p3 p4 p5 p6)), .val (.ref b10), .val (.int (v0_49 p1 p2 p3 p4 p5 p6)), .val (.int (v0_65 p1 p2 p3 p4 p5 p6)), .val (.ref b11), .unset, .unset] [(.int (1 : Int32))])
              have u_f0 : (f0 p1 p2 p3 p4 p5 p6) = (1 : Int32) := by rw [f0, if_neg c12, if_neg c50, if_neg c66, if_pos c68, if_neg c70, if_pos c71]
              have fin : Q0 Z p1 p2 p3 p4 p5 p6 h0 n0 (some (.int (f0 p1 p2 p3 p4 p5 p6))) T64.heap L64 := ⟨rfl, N, K⟩
              exact Go.retN X69 hx hret (Or.inl rfl) (hb hby at_173) hlk (Eq.trans rfl u_f0.symm) (fun t ht fe => hW t _ _ _ _ (by rw [ht, e69]; exact fin) fe (by decide) (by decide))
            · refine Go.of (fun _ k => XS.ifYes X69.here hx rfl (pc0 := 169) (pc' := 174) rfl (hb hby at_169) rfl (Jvm.Free.XT.i0_ne_t c71) (by decide) (by decide) k) ?_
              show Go p e below W T69 (mkF m 174 #[.val (.int p1), .val (.int p2), .val (.int p3), .val (.int p4), .val (.int p5), .val (.int p6), .val (.ref b1), .val (.int (v0_3 p1 p2 p3 p4 p5 p6)), .val (.int (v0_6 p1 p2 p3 p4 p5 p6)), .val (.int (v0_7 p1 p2 p3 p4 p5 p6)), .val (.int (v0_8 p1 p2 p3 p4 p5 p6)), .val (.int (v0_9 p1 p2 p3 p4 p5 p6)), .val (.ref b10), .val (.int (v0_49 p1 p2 p3 p4 p5 p6)), .val (.int (v0_65 p1 p2 p3 p4 p5 p6)), .val (.ref b11), .unset, .unset] [])
              refine Go.of (fun _ k => XS.iload X69.here hx rfl (hb hby at_174) rfl k) ?_
              show Go p e below W T69 (mkF m 176 #[.val (.int p1), .val (.int p2), .val (.int p3), .val (.int p4), .val (.int p5), .val (.int p6), .val (.ref b1), .val (.int (v0_3 p1 p2 p3 p4 p5 p6)), .val (.int (v0_6 p1 p2 p3 p4 p5 p6)), .val (.int (v0_7 p1 p2 p3 p4 p5 p6)), .val (.int (v0_8 p1 p2 p3 p4 p5 p6)), .val (.int (v0_9 p1 p2 p3 p4 p5 p6)), .val (.ref b10), .val (.int (v0_49 p1 p2 p3 p4 p5 p6)), .val (.int (v0_65 p1 p2 p3 p4 p5 p6)), .val (.ref b11), .unset, .unset] [(.int p5)])
              refine Go.of (fun _ k => X69.ldcI hx hown (mvT hZ (hw _ (List.mem_of_getElem? (i := 1) rfl))) rfl (hb hby at_176) k) ?_
              show Go p e below W T69 (mkF m 178 #[.val (.int p1), .val (.int p2), .val (.int p3), .val (.int p4), .val (.int p5), .val (.int p6), .val (.ref b1), .val (.int (v0_3 p1 p2 p3 p4 p5 p6)), .val (.int (v0_6 p1 p2 p3 p4 p5 p6)), .val (.int (v0_7 p1 p2 p3 p4 p5 p6)), .val (.int (v0_8 p1 p2 p3 p4 p5 p6)), .val (.int (v0_9 p1 p2 p3 p4 p5 p6)), .val (.ref b10), .val (.int (v0_49 p1 p2 p3 p4 p5 p6)), .val (.int (v0_65 p1 p2 p3 p4 p5 p6)), .val (.ref b11), .unset, .unset] [(.int (2147483647 : Int32)), (.int p5)])
              refine Go.of (fun _ k => XS.iand X69.here hx rfl (hb hby at_178) rfl k) ?_
              show Go p e below W T69 (mkF m 179 #[.val (.int p1), .val (.int p2), .val (.int p3), .val (.int p4), .val (.int p5), .val (.int p6), .val (.ref b1), .val (.int (v0_3 p1 p2 p3 p4 p5 p6)), .val (.int (v0_6 p1 p2 p3 p4 p5 p6)), .val (.int (v0_7 p1 p2 p3 p4 p5 p6)), .val (.int (v0_8 p1 p2 p3 p4 p5 p6)), .val (.int (v0_9 p1 p2 p3 p4 p5 p6)), .val (.ref b10), .val (.int (v0_49 p1 p2 p3 p4 p5 p6)), .val (.int (v0_65 p1 p2 p3 p4 p5 p6)), .val (.ref b11), .unset, .unset] [(.int (p5 &&& (2147483647 : Int32)))])
              refine Go.of (fun _ k => XS.iload X69.here hx rfl (hb hby at_179) rfl k) ?_
              show Go p e below W T69 (mkF m 181 #[.val (.int p1), .val (.int p2), .val (.int p3), .val (.int p4), .val (.int p5), .val (.int p6), .val (.ref b1), .val (.int (v0_3 p1 p2 p3 p4 p5 p6)), .val (.int (v0_6 p1 p2 p3 p4 p5 p6)), .val (.int (v0_7 p1 p2 p3 p4 p5 p6)), .val (.int (v0_8 p1 p2 p3 p4 p5 p6)), .val (.int (v0_9 p1 p2 p3 p4 p5 p6)), .val (.ref b10), .val (.int (v0_49 p1 p2 p3 p4 p5 p6)), .val (.int (v0_65 p1 p2 p3 p4 p5 p6)), .val (.ref b11), .unset, .unset] [(.int (v0_65 p1 p2 p3 p4 p5 p6)), (.int (p5 &&& (2147483647 : Int32)))])
              refine Go.of (fun _ k => iremM X69 hx rfl (hb hby at_181) rfl c71 k) ?_
              show Go p e below W T69 (mkF m 182 #[.val (.int p1), .val (.int p2), .val (.int p3), .val (.int p4), .val (.int p5), .val (.int p6), .val (.ref b1), .val (.int (v0_3 p1 p2 p3 p4 p5 p6)), .val (.int (v0_6 p1 p2 p3 p4 p5 p6)), .val (.int (v0_7 p1 p2 p3 p4 p5 p6)), .val (.int (v0_8 p1 p2 p3 p4 p5 p6)), .val (.int (v0_9 p1 p2 p3 p4 p5 p6)), .val (.ref b10), .val (.int (v0_49 p1 p2 p3 p4 p5 p6)), .val (.int (v0_65 p1 p2 p3 p4 p5 p6)), .val (.ref b11), .unset, .unset] [(.int ((p5 &&& (2147483647 : Int32)) % (v0_65 p1 p2 p3 p4 p5 p6)))])
              refine Go.of (fun _ k => XS.istore X69.here hx rfl (hb hby at_182) rfl (l' := #[.val (.int p1), .val (.int p2), .val (.int p3), .val (.int p4), .val (.int p5), .val (.int p6), .val (.ref b1), .val (.int (v0_3 p1 p2 p3 p4 p5 p6)), .val (.int (v0_6 p1 p2 p3 p4 p5 p6)), .val (.int (v0_7 p1 p2 p3 p4 p5 p6)), .val (.int (v0_8 p1 p2 p3 p4 p5 p6)), .val (.int (v0_9 p1 p2 p3 p4 p5 p6)), .val (.ref b10), .val (.int (v0_49 p1 p2 p3 p4 p5 p6)), .val (.int (v0_65 p1 p2 p3 p4 p5 p6)), .val (.ref b11), .val (.int (v0_72 p1 p2 p3 p4 p5 p6)), .unset]) rfl k) ?_
              show Go p e below W T69 (mkF m 184 #[.val (.int p1), .val (.int p2), .val (.int p3), .val (.int p4), .val (.int p5), .val (.int p6), .val (.ref b1), .val (.int (v0_3 p1 p2 p3 p4 p5 p6)), .val (.int (v0_6 p1 p2 p3 p4 p5 p6)), .val (.int (v0_7 p1 p2 p3 p4 p5 p6)), .val (.int (v0_8 p1 p2 p3 p4 p5 p6)), .val (.int (v0_9 p1 p2 p3 p4 p5 p6)), .val (.ref b10), .val (.int (v0_49 p1 p2 p3 p4 p5 p6)), .val (.int (v0_65 p1 p2 p3 p4 p5 p6)), .val (.ref b11), .val (.int (v0_72 p1 p2 p3 p4 p5 p6)), .unset] [])
              refine Go.of (fun _ k => XS.iload X69.here hx rfl (hb hby at_184) rfl k) ?_
              show Go p e below W T69 (mkF m 186 #[.val (.int p1), .val (.int p2), .val (.int p3), .val (.int p4), .val (.int p5), .val (.int p6), .val (.ref b1), .val (.int (v0_3 p1 p2 p3 p4 p5 p6)), .val (.int (v0_6 p1 p2 p3 p4 p5 p6)), .val (.int (v0_7 p1 p2 p3 p4 p5 p6)), .val (.int (v0_8 p1 p2 p3 p4 p5 p6)), .val (.int (v0_9 p1 p2 p3 p4 p5 p6)), .val (.ref b10), .val (.int (v0_49 p1 p2 p3 p4 p5 p6)), .val (.int (v0_65 p1 p2 p3 p4 p5 p6)), .val (.ref b11), .val (.int (v0_72 p1 p2 p3 p4 p5 p6)), .unset] [(.int (v0_72 p1 p2 p3 p4 p5 p6))])
              refine Go.of (fun _ k => XS.iload X69.here hx rfl (hb hby at_186) rfl k) ?_
              show Go p e below W T69 (mkF m 188 #[.val (.int p1), .val (.int p2), .val (.int p3), .val (.int p4), .val (.int p5), .val (.int p6), .val (.ref b1), .val (.int (v0_3 p1 p2 p3 p4 p5 p6)), .val (.int (v0_6 p1 p2 p3 p4 p5 p6)), .val (.int (v0_7 p1 p2 p3 p4 p5 p6)), .val (.int (v0_8 p1 p2 p3 p4 p5 p6)), .val (.int (v0_9 p1 p2 p3 p4 p5 p6)), .val (.ref b10), .val (.int (v0_49 p1 p2 p3 p4 p5 p6)), .val (.int (v0_65 p1 p2 p3 p4 p5 p6)), .val (.ref b11), .val (.int (v0_72 p1 p2 p3 p4 p5 p6)), .unset] [(.int (v0_6 p1 p2 p3 p4 p5 p6)), (.int (v0_72 p1 p2 p3 p4 p5 p6))])
              suffices G74 : ∀ T', Stand p l e room_1 s m #[(.int p1), (.int p2), (.int p3), (.int p4), (.int p5), (.int p6)] below meth c T' L64 3 3226 → T'.heap = T64.heap → Go p e below W T' (mkF m 213 #[.val (.int p1), .val (.int p2), .val (.int p3), .val (.int p4), .val (.int p5), .val (.int p6), .val (.ref b1), .val (.int (v0_3 p1 p2 p3 p4 p5 p6)), .val (.int (v0_6 p1 p2 p3 p4 p5 p6)), .val (.int (v0_7 p1 p2 p3 p4 p5 p6)), .val (.int (v0_8 p1 p2 p3 p4 p5 p6)), .val (.int (v0_9 p1 p2 p3 p4 p5 p6)), .val (.ref b10), .val (.int (v0_49 p1 p2 p3 p4 p5 p6)), .val (.int (v0_65 p1 p2 p3 p4 p5 p6)), .val (.ref b11), .val (.int (v0_72 p1 p2 p3 p4 p5 p6)), .unset] [(.int (v0_75 p1 p2 p3 p4 p5 p6))]) by
                by_cases c73 : (v0_72 p1 p2 p3 p4 p5 p6) < (v0_6 p1 p2 p3 p4 p5 p6)
                · refine Go.of (fun _ k => XS.icmpNo X69.here hx rfl (hb hby at_188) rfl (Jvm.Free.XT.ii_ge_f c73) k) ?_
                  show Go p e below W T69 (mkF m 191 #[.val (.int p1), .val (.int p2), .val (.int p3), .val (.int p4), .val (.int p5), .val (.int p6), .val (.ref b1), .val (.int (v0_3 p1 p2 p3 p4 p5 p6)), .val (.int (v0_6 p1 p2 p3 p4 p5 p6)), .val (.int (v0_7 p1 p2 p3 p4 p5 p6)), .val (.int (v0_8 p1 p2 p3 p4 p5 p6)), .val (.int (v0_9 p1 p2 p3 p4 p5 p6)), .val (.ref b10), .val (.int (v0_49 p1 p2 p3 p4 p5 p6)), .val (.int (v0_65 p1 p2 p3 p4 p5 p6)), .val (.ref b11), .val (.int (v0_72 p1 p2 p3 p4 p5 p6)), .unset] [])
                  refine Go.of (fun _ k => XS.aload X69.here hx rfl (hb hby at_191) rfl rfl k) ?_
                  show Go p e below W T69 (mkF m 193 #[.val (.int p1), .val (.int p2), .val (.int p3), .val (.int p4), .val (.int p5), .val (.int p6), .val (.ref b1), .val (.int (v0_3 p1 p2 p3 p4 p5 p6)), .val (.int (v0_6 p1 p2 p3 p4 p5 p6)), .val (.int (v0_7 p1 p2 p3 p4 p5 p6)), .val (.int (v0_8 p1 p2 p3 p4 p5 p6)), .val (.int (v0_9 p1 p2 p3 p4 p5 p6)), .val (.ref b10), .val (.int (v0_49 p1 p2 p3 p4 p5 p6)), .val (.int (v0_65 p1 p2 p3 p4 p5 p6)), .val (.ref b11), .val (.int (v0_72 p1 p2 p3 p4 p5 p6)), .unset] [(.ref b1)])
                  refine Go.of (fun _ k => XS.iload X69.here hx rfl (hb hby at_193) rfl k) ?_
                  show Go p e below W T69 (mkF m 195 #[.val (.int p1), .val (.int p2), .val (.int p3), .val (.int p4), .val (.int p5), .val (.int p6), .val (.ref b1), .val (.int (v0_3 p1 p2 p3 p4 p5 p6)), .val (.int (v0_6 p1 p2 p3 p4 p5 p6)), .val (.int (v0_7 p1 p2 p3 p4 p5 p6)), .val (.int (v0_8 p1 p2 p3 p4 p5 p6)), .val (.int (v0_9 p1 p2 p3 p4 p5 p6)), .val (.ref b10), .val (.int (v0_49 p1 p2 p3 p4 p5 p6)), .val (.int (v0_65 p1 p2 p3 p4 p5 p6)), .val (.ref b11), .val (.int (v0_72 p1 p2 p3 p4 p5 p6)), .unset] [(.int (v0_7 p1 p2 p3 p4 p5 p6)), (.ref b1)])
                  refine Go.of (fun _ k => XS.iload X69.here hx rfl (hb hby at_195) rfl k) ?_
                  show Go p e below W T69 (mkF m 197 #[.val (.int p1), .val (.int p2), .val (.int p3), .val (.int p4), .val (.int p5), .val (.int p6), .val (.ref b1), .val (.int (v0_3 p1 p2 p3 p4 p5 p6)), .val (.int (v0_6 p1 p2 p3 p4 p5 p6)), .val (.int (v0_7 p1 p2 p3 p4 p5 p6)), .val (.int (v0_8 p1 p2 p3 p4 p5 p6)), .val (.int (v0_9 p1 p2 p3 p4 p5 p6)), .val (.ref b10), .val (.int (v0_49 p1 p2 p3 p4 p5 p6)), .val (.int (v0_65 p1 p2 p3 p4 p5 p6)), .val (.ref b11), .val (.int (v0_72 p1 p2 p3 p4 p5 p6)), .unset] [(.int (v0_72 p1 p2 p3 p4 p5 p6)), (.int (v0_7 p1 p2 p3 p4 p5 p6)), (.ref b1)])
                  refine Go.of (fun _ k => XS.iadd X69.here hx rfl (hb hby at_197) rfl k) ?_
                  show Go p e below W T69 (mkF m 198 #[.val (.int p1), .val (.int p2), .val (.int p3), .val (.int p4), .val (.int p5), .val (.int p6), .val (.ref b1), .val (.int (v0_3 p1 p2 p3 p4 p5 p6)), .val (.int (v0_6 p1 p2 p3 p4 p5 p6)), .val (.int (v0_7 p1 p2 p3 p4 p5 p6)), .val (.int (v0_8 p1 p2 p3 p4 p5 p6)), .val (.int (v0_9 p1 p2 p3 p4 p5 p6)), .val (.ref b10), .val (.int (v0_49 p1 p2 p3 p4 p5 p6)), .val (.int (v0_65 p1 p2 p3 p4 p5 p6)), .val (.ref b11), .val (.int (v0_72 p1 p2 p3 p4 p5 p6)), .unset] [(.int ((v0_7 p1 p2 p3 p4 p5 p6) + (v0_72 p1 p2 p3 p4 p5 p6))), (.ref b1)])
                  refine Go.bald X69 hx hZ e69 A_b1 (own_ia p1 p2 p3 p4 p5 p6 c71 c73) (hb hby at_198) ?_
                  show Go p e below W T69 (mkF m 199 #[.val (.int p1), .val (.int p2), .val (.int p3), .val (.int p4), .val (.int p5), .val (.int p6), .val (.ref b1), .val (.int (v0_3 p1 p2 p3 p4 p5 p6)), .val (.int (v0_6 p1 p2 p3 p4 p5 p6)), .val (.int (v0_7 p1 p2 p3 p4 p5 p6)), .val (.int (v0_8 p1 p2 p3 p4 p5 p6)), .val (.int (v0_9 p1 p2 p3 p4 p5 p6)), .val (.ref b10), .val (.int (v0_49 p1 p2 p3 p4 p5 p6)), .val (.int (v0_65 p1 p2 p3 p4 p5 p6)), .val (.ref b11), .val (.int (v0_72 p1 p2 p3 p4 p5 p6)), .unset] [(.int (w0_5 p1 p2 p3 p4 p5 p6 ((v0_7 p1 p2 p3 p4 p5 p6) + (v0_72 p1 p2 p3 p4 p5 p6)).toNatClampNeg))])
                  refine Go.of (fun _ k => XS.goto X69.here hx rfl (pc0 := 199) (pc' := 213) rfl (hb hby at_199) (by decide) (by decide) k) ?_
                  have G74 := G74
                  have q_v0_75 : (v0_75 p1 p2 p3 p4 p5 p6) = (w0_5 p1 p2 p3 p4 p5 p6 ((v0_7 p1 p2 p3 p4 p5 p6) + (v0_72 p1 p2 p3 p4 p5 p6)).toNatClampNeg) := by rw [v0_75, if_pos c73]
                  rw [q_v0_75] at G74
                  exact G74 _ X69 e69
                · refine Go.of (fun _ k => XS.icmpYes X69.here hx rfl (pc0 := 188) (pc' := 202) rfl (hb hby at_188) rfl (Jvm.Free.XT.ii_ge_t c73) (by decide) (by decide) k) ?_
                  show Go p e below W T69 (mkF m 202 #[.val (.int p1), .val (.int p2), .val (.int p3), .val (.int p4), .val (.int p5), .val (.int p6), .val (.ref b1), .val (.int (v0_3 p1 p2 p3 p4 p5 p6)), .val (.int (v0_6 p1 p2 p3 p4 p5 p6)), .val (.int (v0_7 p1 p2 p3 p4 p5 p6)), .val (.int (v0_8 p1 p2 p3 p4 p5 p6)), .val (.int (v0_9 p1 p2 p3 p4 p5 p6)), .val (.ref b10), .val (.int (v0_49 p1 p2 p3 p4 p5 p6)), .val (.int (v0_65 p1 p2 p3 p4 p5 p6)), .val (.ref b11), .val (.int (v0_72 p1 p2 p3 p4 p5 p6)), .unset] [])
                  refine Go.of (fun _ k => XS.aload X69.here hx rfl (hb hby at_202) rfl rfl k) ?_
                  show Go p e below W T69 (mkF m 204 #[.val (.int p1), .val (.int p2), .val (.int p3), .val (.int p4), .val (.int p5), .val (.int p6), .val (.ref b1), .val (.int (v0_3 p1 p2 p3 p4 p5 p6)), .val (.int (v0_6 p1 p2 p3 p4 p5 p6)), .val (.int (v0_7 p1 p2 p3 p4 p5 p6)), .val (.int (v0_8 p1 p2 p3 p4 p5 p6)), .val (.int (v0_9 p1 p2 p3 p4 p5 p6)), .val (.ref b10), .val (.int (v0_49 p1 p2 p3 p4 p5 p6)), .val (.int (v0_65 p1 p2 p3 p4 p5 p6)), .val (.ref b11), .val (.int (v0_72 p1 p2 p3 p4 p5 p6)), .unset] [(.ref b1)])
                  refine Go.of (fun _ k => XS.iload X69.here hx rfl (hb hby at_204) rfl k) ?_
                  show Go p e below W T69 (mkF m 206 #[.val (.int p1), .val (.int p2), .val (.int p3), .val (.int p4), .val (.int p5), .val (.int p6), .val (.ref b1), .val (.int (v0_3 p1 p2 p3 p4 p5 p6)), .val (.int (v0_6 p1 p2 p3 p4 p5 p6)), .val (.int (v0_7 p1 p2 p3 p4 p5 p6)), .val (.int (v0_8 p1 p2 p3 p4 p5 p6)), .val (.int (v0_9 p1 p2 p3 p4 p5 p6)), .val (.ref b10), .val (.int (v0_49 p1 p2 p3 p4 p5 p6)), .val (.int (v0_65 p1 p2 p3 p4 p5 p6)), .val (.ref b11), .val (.int (v0_72 p1 p2 p3 p4 p5 p6)), .unset] [(.int (v0_9 p1 p2 p3 p4 p5 p6)), (.ref b1)])
                  refine Go.of (fun _ k => XS.iload X69.here hx rfl (hb hby at_206) rfl k) ?_
                  show Go p e below W T69 (mkF m 208 #[.val (.int p1), .val (.int p2), .val (.int p3), .val (.int p4), .val (.int p5), .val (.int p6), .val (.ref b1), .val (.int (v0_3 p1 p2 p3 p4 p5 p6)), .val (.int (v0_6 p1 p2 p3 p4 p5 p6)), .val (.int (v0_7 p1 p2 p3 p4 p5 p6)), .val (.int (v0_8 p1 p2 p3 p4 p5 p6)), .val (.int (v0_9 p1 p2 p3 p4 p5 p6)), .val (.ref b10), .val (.int (v0_49 p1 p2 p3 p4 p5 p6)), .val (.int (v0_65 p1 p2 p3 p4 p5 p6)), .val (.ref b11), .val (.int (v0_72 p1 p2 p3 p4 p5 p6)), .unset] [(.int (v0_72 p1 p2 p3 p4 p5 p6)), (.int (v0_9 p1 p2 p3 p4 p5 p6)), (.ref b1)])
                  refine Go.of (fun _ k => XS.iadd X69.here hx rfl (hb hby at_208) rfl k) ?_
                  show Go p e below W T69 (mkF m 209 #[.val (.int p1), .val (.int p2), .val (.int p3), .val (.int p4), .val (.int p5), .val (.int p6), .val (.ref b1), .val (.int (v0_3 p1 p2 p3 p4 p5 p6)), .val (.int (v0_6 p1 p2 p3 p4 p5 p6)), .val (.int (v0_7 p1 p2 p3 p4 p5 p6)), .val (.int (v0_8 p1 p2 p3 p4 p5 p6)), .val (.int (v0_9 p1 p2 p3 p4 p5 p6)), .val (.ref b10), .val (.int (v0_49 p1 p2 p3 p4 p5 p6)), .val (.int (v0_65 p1 p2 p3 p4 p5 p6)), .val (.ref b11), .val (.int (v0_72 p1 p2 p3 p4 p5 p6)), .unset] [(.int ((v0_9 p1 p2 p3 p4 p5 p6) + (v0_72 p1 p2 p3 p4 p5 p6))), (.ref b1)])
                  refine Go.of (fun _ k => XS.iload X69.here hx rfl (hb hby at_209) rfl k) ?_
                  show Go p e below W T69 (mkF m 211 #[.val (.int p1), .val (.int p2), .val (.int p3), .val (.int p4), .val (.int p5), .val (.int p6), .val (.ref b1), .val (.int (v0_3 p1 p2 p3 p4 p5 p6)), .val (.int (v0_6 p1 p2 p3 p4 p5 p6)), .val (.int (v0_7 p1 p2 p3 p4 p5 p6)), .val (.int (v0_8 p1 p2 p3 p4 p5 p6)), .val (.int (v0_9 p1 p2 p3 p4 p5 p6)), .val (.ref b10), .val (.int (v0_49 p1 p2 p3 p4 p5 p6)), .val (.int (v0_65 p1 p2 p3 p4 p5 p6)), .val (.ref b11), .val (.int (v0_72 p1 p2 p3 p4 p5 p6)), .unset] [(.int (v0_6 p1 p2 p3 p4 p5 p6)), (.int ((v0_9 p1 p2 p3 p4 p5 p6) + (v0_72 p1 p2 p3 p4 p5 p6))), (.ref b1)])
                  refine Go.of (fun _ k => XS.isub X69.here hx rfl (hb hby at_211) rfl k) ?_
                  show Go p e below W T69 (mkF m 212 #[.val (.int p1), .val (.int p2), .val (.int p3), .val (.int p4), .val (.int p5), .val (.int p6), .val (.ref b1), .val (.int (v0_3 p1 p2 p3 p4 p5 p6)), .val (.int (v0_6 p1 p2 p3 p4 p5 p6)), .val (.int (v0_7 p1 p2 p3 p4 p5 p6)), .val (.int (v0_8 p1 p2 p3 p4 p5 p6)), .val (.int (v0_9 p1 p2 p3 p4 p5 p6)), .val (.ref b10), .val (.int (v0_49 p1 p2 p3 p4 p5 p6)), .val (.int (v0_65 p1 p2 p3 p4 p5 p6)), .val (.ref b11), .val (.int (v0_72 p1 p2 p3 p4 p5 p6)), .unset] [(.int (((v0_9 p1 p2 p3 p4 p5 p6) + (v0_72 p1 p2 p3 p4 p5 p6)) - (v0_6 p1 p2 p3 p4 p5 p6))), (.ref b1)])
                  refine Go.bald X69 hx hZ e69 A_b1 (own_ib p1 p2 p3 p4 p5 p6 c71 c73) (hb hby at_212) ?_
                  have G74 := G74
                  have q_v0_75 : (v0_75 p1 p2 p3 p4 p5 p6) = (w0_5 p1 p2 p3 p4 p5 p6 (((v0_9 p1 p2 p3 p4 p5 p6) + (v0_72 p1 p2 p3 p4 p5 p6)) - (v0_6 p1 p2 p3 p4 p5 p6)).toNatClampNeg) := by rw [v0_75, if_neg c73]
                  rw [q_v0_75] at G74
                  exact G74 _ X69 e69
              intro T74 X74 e74
              show Go p e below W T74 (mkF m 213 #[.val (.int p1), .val (.int p2), .val (.int p3), .val (.int p4), .val (.int p5), .val (.int p6), .val (.ref b1), .val (.int (v0_3 p1 p2 p3 p4 p5 p6)), .val (.int (v0_6 p1 p2 p3 p4 p5 p6)), .val (.int (v0_7 p1 p2 p3 p4 p5 p6)), .val (.int (v0_8 p1 p2 p3 p4 p5 p6)), .val (.int (v0_9 p1 p2 p3 p4 p5 p6)), .val (.ref b10), .val (.int (v0_49 p1 p2 p3 p4 p5 p6)), .val (.int (v0_65 p1 p2 p3 p4 p5 p6)), .val (.ref b11), .val (.int (v0_72 p1 p2 p3 p4 p5 p6)), .unset] [(.int (v0_75 p1 p2 p3 p4 p5 p6))])
              refine Go.of (fun _ k => XS.istore X74.here hx rfl (hb hby at_213) rfl (l' := #[.val (.int p1), .val (.int p2), .val (.int p3), .val (.int p4), .val (.int p5), .val (.int p6), .val (.ref b1), .val (.int (v0_3 p1 p2 p3 p4 p5 p6)), .val (.int (v0_6 p1 p2 p3 p4 p5 p6)), .val (.int (v0_7 p1 p2 p3 p4 p5 p6)), .val (.int (v0_8 p1 p2 p3 p4 p5 p6)), .val (.int (v0_9 p1 p2 p3 p4 p5 p6)), .val (.ref b10), .val (.int (v0_49 p1 p2 p3 p4 p5 p6)), .val (.int (v0_65 p1 p2 p3 p4 p5 p6)), .val (.ref b11), .val (.int (v0_72 p1 p2 p3 p4 p5 p6)), .val (.int (v0_75 p1 p2 p3 p4 p5 p6))]) rfl k) ?_
              show Go p e below W T74 (mkF m 215 #[.val (.int p1), .val (.int p2), .val (.int p3), .val (.int p4), .val (.int p5), .val (.int p6), .val (.ref b1), .val (.int (v0_3 p1 p2 p3 p4 p5 p6)), .val (.int (v0_6 p1 p2 p3 p4 p5 p6)), .val (.int (v0_7 p1 p2 p3 p4 p5 p6)), .val (.int (v0_8 p1 p2 p3 p4 p5 p6)), .val (.int (v0_9 p1 p2 p3 p4 p5 p6)), .val (.ref b10), .val (.int (v0_49 p1 p2 p3 p4 p5 p6)), .val (.int (v0_65 p1 p2 p3 p4 p5 p6)), .val (.ref b11), .val (.int (v0_72 p1 p2 p3 p4 p5 p6)), .val (.int (v0_75 p1 p2 p3 p4 p5 p6))] [])
              refine Go.of (fun _ k => XS.aload X74.here hx rfl (hb hby at_215) rfl rfl k) ?_
              show Go p e below W T74 (mkF m 217 #[.val (.int p1), .val (.int p2), .val (.int p3), .val (.int p4), .val (.int p5), .val (.int p6), .val (.ref b1), .val (.int (v0_3 p1 p2 p3 p4 p5 p6)), .val (.int (v0_6 p1 p2 p3 p4 p5 p6)), .val (.int (v0_7 p1 p2 p3 p4 p5 p6)), .val (.int (v0_8 p1 p2 p3 p4 p5 p6)), .val (.int (v0_9 p1 p2 p3 p4 p5 p6)), .val (.ref b10), .val (.int (v0_49 p1 p2 p3 p4 p5 p6)), .val (.int (v0_65 p1 p2 p3 p4 p5 p6)), .val (.ref b11), .val (.int (v0_72 p1 p2 p3 p4 p5 p6)), .val (.int (v0_75 p1 p2 p3 p4 p5 p6))] [(.ref b11)])
              refine Go.of (fun _ k => XS.iload X74.here hx rfl (hb hby at_217) rfl k) ?_
              show Go p e below W T74 (mkF m 219 #[.val (.int p1), .val (.int p2), .val (.int p3), .val (.int p4), .val (.int p5), .val (.int p6), .val (.ref b1), .val (.int (v0_3 p1 p2 p3 p4 p5 p6)), .val (.int (v0_6 p1 p2 p3 p4 p5 p6)), .val (.int (v0_7 p1 p2 p3 p4 p5 p6)), .val (.int (v0_8 p1 p2 p3 p4 p5 p6)), .val (.int (v0_9 p1 p2 p3 p4 p5 p6)), .val (.ref b10), .val (.int (v0_49 p1 p2 p3 p4 p5 p6)), .val (.int (v0_65 p1 p2 p3 p4 p5 p6)), .val (.ref b11), .val (.int (v0_72 p1 p2 p3 p4 p5 p6)), .val (.int (v0_75 p1 p2 p3 p4 p5 p6))] [(.int (v0_72 p1 p2 p3 p4 p5 p6)), (.ref b11)])
              refine Go.bald X74 hx hZ e74 A_b11 (own_ic p1 p2 p3 p4 p5 p6 A_b11.small c70 c71) (hb hby at_219) ?_
              show Go p e below W T74 (mkF m 220 #[.val (.int p1), .val (.int p2), .val (.int p3), .val (.int p4), .val (.int p5), .val (.int p6), .val (.ref b1), .val (.int (v0_3 p1 p2 p3 p4 p5 p6)), .val (.int (v0_6 p1 p2 p3 p4 p5 p6)), .val (.int (v0_7 p1 p2 p3 p4 p5 p6)), .val (.int (v0_8 p1 p2 p3 p4 p5 p6)), .val (.int (v0_9 p1 p2 p3 p4 p5 p6)), .val (.ref b10), .val (.int (v0_49 p1 p2 p3 p4 p5 p6)), .val (.int (v0_65 p1 p2 p3 p4 p5 p6)), .val (.ref b11), .val (.int (v0_72 p1 p2 p3 p4 p5 p6)), .val (.int (v0_75 p1 p2 p3 p4 p5 p6))] [(.int ((f4k_ab (v0_9 p1 p2 p3 p4 p5 p6) (v0_8 p1 p2 p3 p4 p5 p6) (f4k_size (v0_7 p1 p2 p3 p4 p5 p6) (v0_6 p1 p2 p3 p4 p5 p6) (0 : Int32) f1_nb (w0_5 p1 p2 p3 p4 p5 p6) (1024 : Nat)) (f4k_ab (v0_7 p1 p2 p3 p4 p5 p6) (v0_6 p1 p2 p3 p4 p5 p6) (0 : Int32) f1_nb (w0_5 p1 p2 p3 p4 p5 p6) (1024 : Nat)) (w0_5 p1 p2 p3 p4 p5 p6) (1024 : Nat)) (v0_72 p1 p2 p3 p4 p5 p6).toNatClampNeg))])
              refine Go.of (fun _ k => XS.iload X74.here hx rfl (hb hby at_220) rfl k) ?_
              show Go p e below W T74 (mkF m 222 #[.val (.int p1), .val (.int p2), .val (.int p3), .val (.int p4), .val (.int p5), .val (.int p6), .val (.ref b1), .val (.int (v0_3 p1 p2 p3 p4 p5 p6)), .val (.int (v0_6 p1 p2 p3 p4 p5 p6)), .val (.int (v0_7 p1 p2 p3 p4 p5 p6)), .val (.int (v0_8 p1 p2 p3 p4 p5 p6)), .val (.int (v0_9 p1 p2 p3 p4 p5 p6)), .val (.ref b10), .val (.int (v0_49 p1 p2 p3 p4 p5 p6)), .val (.int (v0_65 p1 p2 p3 p4 p5 p6)), .val (.ref b11), .val (.int (v0_72 p1 p2 p3 p4 p5 p6)), .val (.int (v0_75 p1 p2 p3 p4 p5 p6))] [(.int (v0_75 p1 p2 p3 p4 p5 p6)), (.int ((f4k_ab (v0_9 p1 p2 p3 p4 p5 p6) (v0_8 p1 p2 p3 p4 p5 p6) (f4k_size (v0_7 p1 p2 p3 p4 p5 p6) (v0_6 p1 p2 p3 p4 p5 p6) (0 : Int32) f1_nb (w0_5 p1 p2 p3 p4 p5 p6) (1024 : Nat)) (f4k_ab (v0_7 p1 p2 p3 p4 p5 p6) (v0_6 p1 p2 p3 p4 p5 p6) (0 : Int32) f1_nb (w0_5 p1 p2 p3 p4 p5 p6) (1024 : Nat)) (w0_5 p1 p2 p3 p4 p5 p6) (1024 : Nat)) (v0_72 p1 p2 p3 p4 p5 p6).toNatClampNeg))])
              by_cases c76 : ((f4k_ab (v0_9 p1 p2 p3 p4 p5 p6) (v0_8 p1 p2 p3 p4 p5 p6) (f4k_size (v0_7 p1 p2 p3 p4 p5 p6) (v0_6 p1 p2 p3 p4 p5 p6) (0 : Int32) f1_nb (w0_5 p1 p2 p3 p4 p5 p6) (1024 : Nat)) (f4k_ab (v0_7 p1 p2 p3 p4 p5 p6) (v0_6 p1 p2 p3 p4 p5 p6) (0 : Int32) f1_nb (w0_5 p1 p2 p3 p4 p5 p6) (1024 : Nat)) (w0_5 p1 p2 p3 p4 p5 p6) (1024 : Nat)) (v0_72 p1 p2 p3 p4 p5 p6).toNatClampNeg) = (v0_75 p1 p2 p3 p4 p5 p6)
              · refine Go.of (fun _ k => XS.icmpNo X74.here hx rfl (hb hby at_222) rfl (Jvm.Free.XT.ii_ne_f c76) k) ?_
                show Go p e below W T74 (mkF m 225 #[.val (.int p1), .val (.int p2), .val (.int p3), .val (.int p4), .val (.int p5), .val (.int p6), .val (.ref b1), .val (.int (v0_3 p1 p2 p3 p4 p5 p6)), .val (.int (v0_6 p1 p2 p3 p4 p5 p6)), .val (.int (v0_7 p1 p2 p3 p4 p5 p6)), .val (.int (v0_8 p1 p2 p3 p4 p5 p6)), .val (.int (v0_9 p1 p2 p3 p4 p5 p6)), .val (.ref b10), .val (.int (v0_49 p1 p2 p3 p4 p5 p6)), .val (.int (v0_65 p1 p2 p3 p4 p5 p6)), .val (.ref b11), .val (.int (v0_72 p1 p2 p3 p4 p5 p6)), .val (.int (v0_75 p1 p2 p3 p4 p5 p6))] [])
                refine Go.of (fun _ k => XS.iconst X74.here hx rfl (hb hby at_225) k) ?_
                show Go p e below W T74 (mkF m 226 #[.val (.int p1), .val (.int p2), .val (.int p3), .val (.int p4), .val (.int p5), .val (.int p6), .val (.ref b1), .val (.int (v0_3 p1 p2 p3 p4 p5 p6)), .val (.int (v0_6 p1 p2 p3 p4 p5 p6)), .val (.int (v0_7 p1 p2 p3 p4 p5 p6)), .val (.int (v0_8 p1 p2 p3 p4 p5 p6)), .val (.int (v0_9 p1 p2 p3 p4 p5 p6)), .val (.ref b10), .val (.int (v0_49 p1 p2 p3 p4 p5 p6)), .val (.int (v0_65 p1 p2 p3 p4 p5 p6)), .val (.ref b11), .val (.int (v0_72 p1 p2 p3 p4 p5 p6)), .val (.int (v0_75 p1 p2 p3 p4 p5 p6))] [(.int (1 : Int32))])
                refine Go.of (fun _ k => XS.goto X74.here hx rfl (pc0 := 226) (pc' := 230) rfl (hb hby at_226) (by decide) (by decide) k) ?_
                show Go p e below W T74 (mkF m 230 #[.val (.int p1), .val (.int p2), .val (.int p3), .val (.int p4), .val (.int p5), .val (.int p6), .val (.ref b1), .val (.int (v0_3 p1 p2 p3 p4 p5 p6)), .val (.int (v0_6 p1 p2 p3 p4 p5 p6)), .val (.int (v0_7 p1 p2 p3 p4 p5 p6)), .val (.int (v0_8 p1 p2 p3 p4 p5 p6)), .val (.int (v0_9 p1 p2 p3 p4 p5 p6)), .val (.ref b10), .val (.int (v0_49 p1 p2 p3 p4 p5 p6)), .val (.int (v0_65 p1 p2 p3 p4 p5 p6)), .val (.ref b11), .val (.int (v0_72 p1 p2 p3 p4 p5 p6)), .val (.int (v0_75 p1 p2 p3 p4 p5 p6))] [(.int (1 : Int32))])
                have u_f0 : (f0 p1 p2 p3 p4 p5 p6) = (1 : Int32) := by rw [f0, if_neg c12, if_neg c50, if_neg c66, if_pos c68, if_neg c70, if_neg c71, if_pos c76]
                have fin : Q0 Z p1 p2 p3 p4 p5 p6 h0 n0 (some (.int (f0 p1 p2 p3 p4 p5 p6))) T64.heap L64 := ⟨rfl, N, K⟩
                exact Go.retN X74 hx hret (Or.inl rfl) (hb hby at_230) hlk (Eq.trans rfl u_f0.symm) (fun t ht fe => hW t _ _ _ _ (by rw [ht, e74]; exact fin) fe (by decide) (by decide))
              · refine Go.of (fun _ k => XS.icmpYes X74.here hx rfl (pc0 := 222) (pc' := 229) rfl (hb hby at_222) rfl (Jvm.Free.XT.ii_ne_t c76) (by decide) (by decide) k) ?_
                show Go p e below W T74 (mkF m 229 #[.val (.int p1), .val (.int p2), .val (.int p3), .val (.int p4), .val (.int p5), .val (.int p6), .val (.ref b1), .val (.int (v0_3 p1 p2 p3 p4 p5 p6)), .val (.int (v0_6 p1 p2 p3 p4 p5 p6)), .val (.int (v0_7 p1 p2 p3 p4 p5 p6)), .val (.int (v0_8 p1 p2 p3 p4 p5 p6)), .val (.int (v0_9 p1 p2 p3 p4 p5 p6)), .val (.ref b10), .val (.int (v0_49 p1 p2 p3 p4 p5 p6)), .val (.int (v0_65 p1 p2 p3 p4 p5 p6)), .val (.ref b11), .val (.int (v0_72 p1 p2 p3 p4 p5 p6)), .val (.int (v0_75 p1 p2 p3 p4 p5 p6))] [])
                refine Go.of (fun _ k => XS.iconst X74.here hx rfl (hb hby at_229) k) ?_
                show Go p e below W T74 (mkF m 230 #[.val (.int p1), .val (.int p2), .val (.int p3), .val (.int p4), .val (.int p5), .val (.int p6), .val (.ref b1), .val (.int (v0_3 p1 p2 p3 p4 p5 p6)), .val (.int (v0_6 p1 p2 p3 p4 p5 p6)), .val (.int (v0_7 p1 p2 p3 p4 p5 p6)), .val (.int (v0_8 p1 p2 p3 p4 p5 p6)), .val (.int (v0_9 p1 p2 p3 p4 p5 p6)), .val (.ref b10), .val (.int (v0_49 p1 p2 p3 p4 p5 p6)), .val (.int (v0_65 p1 p2 p3 p4 p5 p6)), .val (.ref b11), .val (.int (v0_72 p1 p2 p3 p4 p5 p6)), .val (.int (v0_75 p1 p2 p3 p4 p5 p6))] [(.int (0 : Int32))])
                have u_f0 : (f0 p1 p2 p3 p4 p5 p6) = (0 : Int32) := by rw [f0, if_neg c12, if_neg c50, if_neg c66, if_pos c68, if_neg c70, if_neg c71, if_neg c76]
                have fin : Q0 Z p1 p2 p3 p4 p5 p6 h0 n0 (some (.int (f0 p1 p2 p3 p4 p5 p6))) T64.heap L64 := ⟨rfl, N, K⟩
                exact Go.retN X74 hx hret (Or.inl rfl) (hb hby at_230) hlk (Eq.trans rfl u_f0.symm) (fun t ht fe => hW t _ _ _ _ (by rw [ht, e74]; exact fin) fe (by decide) (by decide))
        · refine Go.of (fun _ k => XS.icmpNo X67.here hx rfl (hb hby at_145) rfl (Jvm.Free.XT.ii_eq_f c68) k) ?_
          show Go p e below W T67 (mkF m 148 #[.val (.int p1), .val (.int p2), .val (.int p3), .val (.int p4), .val (.int p5), .val (.int p6), .val (.ref b1), .val (.int (v0_3 p1 p2 p3 p4 p5 p6)), .val (.int (v0_6 p1 p2 p3 p4 p5 p6)), .val (.int (v0_7 p1 p2 p3 p4 p5 p6)), .val (.int (v0_8 p1 p2 p3 p4 p5 p6)), .val (.int (v0_9 p1 p2 p3 p4 p5 p6)), .val (.ref b10), .val (.int (v0_49 p1 p2 p3 p4 p5 p6)), .val (.int (v0_65 p1 p2 p3 p4 p5 p6)), .unset, .unset, .unset] [])
          refine Go.of (fun _ k => XS.iconst X67.here hx rfl (hb hby at_148) k) ?_
          show Go p e below W T67 (mkF m 149 #[.val (.int p1), .val (.int p2), .val (.int p3), .val (.int p4), .val (.int p5), .val (.int p6), .val (.ref b1), .val (.int (v0_3 p1 p2 p3 p4 p5 p6)), .val (.int (v0_6 p1 p2 p3 p4 p5 p6)), .val (.int (v0_7 p1 p2 p3 p4 p5 p6)), .val (.int (v0_8 p1 p2 p3 p4 p5 p6)), .val (.int (v0_9 p1 p2 p3 p4 p5 p6)), .val (.ref b10), .val (.int (v0_49 p1 p2 p3 p4 p5 p6)), .val (.int (v0_65 p1 p2 p3 p4 p5 p6)), .unset, .unset, .unset] [(.int (0 : Int32))])
          have u_f0 : (f0 p1 p2 p3 p4 p5 p6) = (0 : Int32) := by rw [f0, if_neg c12, if_neg c50, if_neg c66, if_neg c68]
          have fin : Q0 Z p1 p2 p3 p4 p5 p6 h0 n0 (some (.int (f0 p1 p2 p3 p4 p5 p6))) T64.heap L64 := ⟨rfl, N, K⟩
          exact Go.retN X67 hx hret (Or.inl rfl) (hb hby at_149) hlk (Eq.trans rfl u_f0.symm) (fun t ht fe => hW t _ _ _ _ (by rw [ht, e67]; exact fin) fe (by decide) (by decide))
set_option maxRecDepth 65536 in
set_option maxHeartbeats 40000000 in
theorem comes_1 {Post : Tables → Env → Array Value → State → Outcome → State → Prop} (hpost : ∀ tb e args s v u, (limb_1_1.after args s (.returned v) u = true ∧ limb_1_2.after args s (.returned v) u = true ∧ True) → FrameEnd s (.returned v) u (Jvm.fieldLocs frame_1_writes args s ++ Jvm.arrayLocs frame_1_arrays args s ++ Jvm.staticLocs frame_1_statics s) 24 19776 → Post tb e args s (.returned v) u) :
    ArmFor flags0 classFile x code maxLocals ret World_1 tables_1 room_1 Calls_1 rest_1 Pre_1 Post := by
  intro l hfl _ _ p e ha hc hk s m args below hf hA hF happ hP
  obtain ⟨hcalls, hrest, hpre⟩ := hP
  obtain ⟨-, -, -, hnamed, -, -, -, hat⟩ := (Spec.applies_iff hf).mp happ
  obtain ⟨hg, hn⟩ := and_e (Cond.before_iff.mp (show (Jvm.Cond.and given_1 narrow_1).before args s = true from hpre))
  obtain ⟨g0, y0⟩ := and_e hg
  obtain ⟨x0, y1⟩ := and_e y0
  obtain ⟨x1, y2⟩ := and_e y1
  obtain ⟨x2, y3⟩ := and_e y2
  obtain ⟨x3, y4⟩ := and_e y3
  obtain ⟨x4, y5⟩ := and_e y4
  obtain ⟨w0, w1, w2, w3, w4, w5, rfl⟩ : ∃ w0 w1 w2 w3 w4 w5 : Value, args = #[w0, w1, w2, w3, w4, w5] := by
    have hs : args.size = 6 := by simpa [Cond.value, given_1] using g0
    obtain ⟨L⟩ := args
    match L, hs with
    | [w0, w1, w2, w3, w4, w5], _ => exact ⟨w0, w1, w2, w3, w4, w5, rfl⟩
  have hw := fun d (hd : d ∈ tables_1) => atoms_spec (ws := Jvm.Cond.code x code maxLocals ret :: tables_1) hat d (List.mem_cons_of_mem _ hd)
  obtain ⟨i0, ei0⟩ := is_v x0
  obtain rfl : w0 = (.int i0) := Option.some.inj ei0
  obtain ⟨i1, ei1⟩ := is_v x1
  obtain rfl : w1 = (.int i1) := Option.some.inj ei1
  obtain ⟨i2, ei2⟩ := is_v x2
  obtain rfl : w2 = (.int i2) := Option.some.inj ei2
  obtain ⟨i3, ei3⟩ := is_v x3
  obtain rfl : w3 = (.int i3) := Option.some.inj ei3
  obtain ⟨i4, ei4⟩ := is_v x4
  obtain rfl : w4 = (.int i4) := Option.some.inj ei4
  obtain ⟨i5, ei5⟩ := is_v y5
  obtain rfl : w5 = (.int i5) := Option.some.inj ei5
  obtain ⟨n, o, h1, h2, h3, _, L, rfl, ⟨rfl, N, -⟩, hq⟩ := rm0 l s _ hw tables_1 i0 i1 i2 i3 i4 i5 s.heap s.heap.size (Nat.le_refl _) p e ha hc hk s m _ below hf ((Spec.applies_iff_loose hf).mp happ).1 ⟨rfl, State.Warmed39.refl s, rfl⟩ trivial
  rw [own_law i0 i1 i2 i3 i4 i5] at h3 hq
  refine ⟨n, _, h1, h2, h3, hpost _ _ _ _ _ _ ⟨Cond.after_iff.mpr rfl, Cond.after_iff.mpr (eq_i res_at (Term.int_eval (1)) rfl), trivial⟩ ⟨hq.1, hq.2.1, (hq.2.2.sift fun y hy => Or.inr (N y hy)).mono (by decide) (by decide)⟩⟩
theorem main_1_1 : Claimed_1_1 := comes_1 fun _ _ _ _ _ _ h hF => ⟨h.1, hF⟩
theorem main_1_2 : Claimed_1_2 := comes_1 fun _ _ _ _ _ _ h hF => ⟨h.2.1, hF⟩
end Jvm.Pilot.@@N@@
namespace Jvm.Pilot.@@N@@
open Jvm Jvm.ClassFile Sem Op Lib Jvm.Free Jvm.Stand Jvm.Pilot.@@N@@.Jvm.D
/-! MADE BY PROGRAM (witnessworld.py) out of the Statement's table words and the real class files: 16 classes; the members and pool entries that the words name. The judged class is class 1, her method 1. -/
namespace start1
open Jvm.ClassFile
def u (s : String) : CpInfo := .utf8 (stringToUtf16 s)
/-- a pool by its gaps: so many unusable entries, then the entry; so many at the end -/
def gap : Nat → List CpInfo → List CpInfo
  | 0, r => r
  | n + 1, r => .unusable :: gap n r
def poolList (es : List (Nat × CpInfo)) (last : Nat) : List CpInfo := es.foldr (fun e r => gap e.1 (e.2 :: r)) (gap last [])
def pool (es : List (Nat × CpInfo)) (last : Nat) : Array CpInfo := ⟨poolList es last⟩
def fileOf (pool : Array CpInfo) (this : Nat) (attrs : Array Attribute := #[]) (ms : Array MethodInfo := #[]) (fl : Nat := 33) (sup : Nat := 0) (ifs : Array Nat := #[]) (fds : Array FieldInfo := #[]) : ClassFile where
  minorVersion := 0
  majorVersion := 65
  constantPool := pool
  accessFlags := fl
  thisClass := this
  superClass := sup
  interfaces := ifs
  fields := fds
  methods := ms
  attributes := attrs
def plain (name : String) (sup : Option ClassId) : Class where
  name := name
  kind := .ordinary
  loader := none
  accessFlags := 33
  super := sup
  interfaces := #[]
  cf := none
  fields := #[]
  methods := #[]
  instanceTypes := #[]
  staticTypes := #[]
  resolved := #[]
  callSites := []
  init := .initialized
  statics := none
  mirror := none

def pool0 : Array CpInfo := pool [(5, u "<init>"), (0, u "()V"), (1, .class_ 10), (1, u "java/lang/Object")] 113

def k0c0 : Code := { maxStack := 0, maxLocals := 1, code := object_method_1_code, exceptionTable := #[], attributes := #[] }
def k0m0 : Method := { name := "<init>", desc := "()V", sig := { parameters := [], returnType := none }, accessFlags := 1, code := some k0c0 }
/-- java/lang/Object -/
def k0 : Class := { plain "java/lang/Object" none with
  accessFlags := 33
  interfaces := #[]
  cf := some (fileOf pool0 8 #[] #[{ accessFlags := 1, nameIndex := 5, descriptorIndex := 6, attributes := #[] }] 33 0 #[] #[])
  fields := #[]
  methods := #[k0m0]
  instanceTypes := #[]
  staticTypes := #[]
  resolved := Array.replicate 124 none
  statics := none }

def pool1 : Array CpInfo := pool [(2, .class_ 4), (0, .nameAndType 5 6), (0, u "java/lang/Object"), (0, u "<init>"), (0, u "()V"), (0, .integer 2147483647), (0, .class_ 9), (0, u "com/example/gridtally/gridtally/io/ByteStreams$Buffer"), (0, .methodref 8 3), (0, .methodref 8 12), (0, .nameAndType 13 14), (0, u "write"), (0, u "([BII)V"), (0, .methodref 8 16), (0, .nameAndType 17 18), (0, u "size"), (0, u "()I"), (0, .methodref 8 20), (0, .nameAndType 21 22), (0, u "array"), (0, u "()[B"), (0, .class_ 24), (0, u "com/example/gridtally/gridtally/io/BufferWrite372PinLaw"), (2, u "law"), (0, u "(IIIIII)Z")] 9

def k1m0 : Method := { name := "<init>", desc := "()V", sig := { parameters := [], returnType := none }, accessFlags := 2, code := none }
def k1c1 : Code := { maxStack := 4, maxLocals := 18, code := code, exceptionTable := #[], attributes := #[] }
def k1m1 : Method := { name := "law", desc := "(IIIIII)Z", sig := { parameters := [.int, .int, .int, .int, .int, .int], returnType := some .boolean }, accessFlags := 9, code := some k1c1 }
/-- com/example/gridtally/gridtally/io/BufferWrite372PinLaw -/
def k1 : Class := { plain "com/example/gridtally/gridtally/io/BufferWrite372PinLaw" (some 0) with
  accessFlags := 49
  interfaces := #[]
  cf := some (fileOf pool1 23 #[] #[{ accessFlags := 2, nameIndex := 5, descriptorIndex := 6, attributes := #[] }, { accessFlags := 9, nameIndex := 27, descriptorIndex := 28, attributes := #[] }] 49 2 #[] #[])
  fields := #[]
  methods := #[k1m0, k1m1]
  instanceTypes := #[]
  staticTypes := #[]
  resolved := Array.replicate 38 none
  statics := none }

def pool2 : Array CpInfo := pool [(1, .class_ 2), (0, u "java/lang/AutoCloseable"), (0, .class_ 4), (0, u "java/lang/Object")] 7

/-- java/lang/AutoCloseable -/
def k2 : Class := { plain "java/lang/AutoCloseable" (some 0) with
  accessFlags := 1537
  interfaces := #[]
  cf := some (fileOf pool2 1 #[] #[] 1537 3 #[] #[])
  fields := #[]
  methods := #[]
  instanceTypes := #[]
  staticTypes := #[]
  resolved := Array.replicate 12 none
  statics := none }

def pool3 : Array CpInfo := pool [(1, .class_ 2), (0, u "java/io/Closeable"), (0, .class_ 4), (0, u "java/lang/Object"), (0, .class_ 6), (0, u "java/lang/AutoCloseable")] 7

/-- java/io/Closeable -/
def k3 : Class := { plain "java/io/Closeable" (some 0) with
  accessFlags := 1537
  interfaces := #[2]
  cf := some (fileOf pool3 1 #[] #[] 1537 3 #[5] #[])
  fields := #[]
  methods := #[]
  instanceTypes := #[]
  staticTypes := #[]
  resolved := Array.replicate 14 none
  statics := none }

def pool4 : Array CpInfo := pool [(1, .class_ 2), (0, u "java/io/Flushable"), (0, .class_ 4), (0, u "java/lang/Object")] 7

/-- java/io/Flushable -/
def k4 : Class := { plain "java/io/Flushable" (some 0) with
  accessFlags := 1537
  interfaces := #[]
  cf := some (fileOf pool4 1 #[] #[] 1537 3 #[] #[])
  fields := #[]
  methods := #[]
  instanceTypes := #[]
  staticTypes := #[]
  resolved := Array.replicate 12 none
  statics := none }

def pool5 : Array CpInfo := pool [(1, .methodref 2 3), (0, .class_ 4), (0, .nameAndType 5 6), (0, u "java/lang/Object"), (0, u "<init>"), (0, u "()V"), (0, .class_ 8), (0, u "java/io/OutputStream$1"), (2, .class_ 13), (1, u "java/io/OutputStream"), (11, .class_ 26), (0, u "java/io/Closeable"), (0, .class_ 28), (0, u "java/io/Flushable")] 24

def k5c0 : Code := { maxStack := 1, maxLocals := 1, code := jdk_2038_method_1_code, exceptionTable := #[], attributes := #[] }
def k5m0 : Method := { name := "<init>", desc := "()V", sig := { parameters := [], returnType := none }, accessFlags := 1, code := some k5c0 }
/-- java/io/OutputStream -/
def k5 : Class := { plain "java/io/OutputStream" (some 0) with
  accessFlags := 1057
  interfaces := #[3, 4]
  cf := some (fileOf pool5 11 #[.nestMembers #[7]] #[{ accessFlags := 1, nameIndex := 5, descriptorIndex := 6, attributes := #[] }] 1057 2 #[25, 27] #[])
  fields := #[]
  methods := #[k5m0]
  instanceTypes := #[]
  staticTypes := #[]
  resolved := Array.replicate 53 none
  statics := none }

def pool6 : Array CpInfo := pool [(1, .class_ 2), (0, u "com/example/gridtally/gridtally/io/ByteStreams"), (0, .methodref 4 5), (0, .class_ 6), (0, .nameAndType 7 8), (0, u "java/io/OutputStream"), (0, u "<init>"), (0, u "()V"), (0, .fieldref 10 11), (0, .class_ 12), (0, .nameAndType 13 14), (0, u "com/example/gridtally/gridtally/io/ByteStreams$Buffer"), (0, u "bytes"), (0, u "[B"), (0, .methodref 10 16), (0, .nameAndType 17 18), (0, u "ensure"), (0, u "(I)V"), (0, .fieldref 10 20), (0, .nameAndType 21 22), (0, u "size"), (0, u "I"), (0, .methodref 24 25), (0, .class_ 26), (0, .nameAndType 27 28), (0, u "java/lang/System"), (0, u "arraycopy"), (0, u "(Ljava/lang/Object;ILjava/lang/Object;II)V"), (5, .methodref 35 36), (0, .class_ 37), (0, .nameAndType 38 39), (0, u "java/lang/Math"), (0, u "max"), (0, u "(II)I"), (0, .methodref 41 42), (0, .class_ 43), (0, .nameAndType 44 45), (0, u "java/util/Arrays"), (0, u "copyOf"), (0, u "([BI)[B"), (2, u "write"), (0, u "([BII)V"), (0, u "()I"), (0, u "array"), (0, u "()[B")] 10

def k6c0 : Code := { maxStack := 2, maxLocals := 1, code := prog_35_method_1_code, exceptionTable := #[], attributes := #[] }
def k6m0 : Method := { name := "<init>", desc := "()V", sig := { parameters := [], returnType := none }, accessFlags := 0, code := some k6c0 }
def k6c1 : Code := { maxStack := 5, maxLocals := 4, code := prog_35_method_3_code, exceptionTable := #[], attributes := #[] }
def k6m1 : Method := { name := "write", desc := "([BII)V", sig := { parameters := [(.array .byte), .int, .int], returnType := none }, accessFlags := 1, code := some k6c1 }
def k6c2 : Code := { maxStack := 1, maxLocals := 1, code := prog_35_method_4_code, exceptionTable := #[], attributes := #[] }
def k6m2 : Method := { name := "size", desc := "()I", sig := { parameters := [], returnType := some .int }, accessFlags := 0, code := some k6c2 }
def k6c3 : Code := { maxStack := 1, maxLocals := 1, code := prog_35_method_5_code, exceptionTable := #[], attributes := #[] }
def k6m3 : Method := { name := "array", desc := "()[B", sig := { parameters := [], returnType := some (.array .byte) }, accessFlags := 0, code := some k6c3 }
def k6c4 : Code := { maxStack := 5, maxLocals := 2, code := prog_35_method_8_code, exceptionTable := #[], attributes := #[] }
def k6m4 : Method := { name := "ensure", desc := "(I)V", sig := { parameters := [.int], returnType := none }, accessFlags := 2, code := some k6c4 }
/-- com/example/gridtally/gridtally/io/ByteStreams$Buffer -/
def k6 : Class := { plain "com/example/gridtally/gridtally/io/ByteStreams$Buffer" (some 5) with
  accessFlags := 48
  interfaces := #[]
  cf := some (fileOf pool6 10 #[.nestHost 1] #[{ accessFlags := 0, nameIndex := 7, descriptorIndex := 8, attributes := #[] }, { accessFlags := 1, nameIndex := 48, descriptorIndex := 49, attributes := #[] }, { accessFlags := 0, nameIndex := 21, descriptorIndex := 50, attributes := #[] }, { accessFlags := 0, nameIndex := 51, descriptorIndex := 52, attributes := #[] }, { accessFlags := 2, nameIndex := 17, descriptorIndex := 18, attributes := #[] }] 48 4 #[] #[{ accessFlags := 2, nameIndex := 13, descriptorIndex := 14, attributes := #[] }, { accessFlags := 2, nameIndex := 21, descriptorIndex := 22, attributes := #[] }])
  fields := #[{ name := "bytes", type := (.array .byte), accessFlags := 2, slot := 0, constantValue := 0 }, { name := "size", type := .int, accessFlags := 2, slot := 1, constantValue := 0 }]
  methods := #[k6m0, k6m1, k6m2, k6m3, k6m4]
  instanceTypes := #[(.array .byte), .int]
  staticTypes := #[]
  resolved := Array.replicate 63 none
  statics := none }

def pool7 : Array CpInfo := pool [(2, .class_ 4), (1, u "java/lang/Object"), (0, u "<init>"), (0, u "()V"), (1, .class_ 10), (1, u "java/lang/System"), (0, u "allowSecurityManager"), (0, u "I"), (16, u "cons"), (0, u "Ljava/io/Console;"), (77, .class_ 110), (1, u "java/lang/System$CallersHolder"), (43, u "initialErrStream"), (0, u "Ljava/io/PrintStream;"), (19, u "security"), (0, u "Ljava/lang/SecurityManager;"), (31, .class_ 209), (0, u "java/lang/System$1"), (7, u "props"), (0, u "Ljava/util/Properties;"), (2, u "lineSeparator"), (0, u "Ljava/lang/String;"), (96, .class_ 321), (1, u "java/lang/System$LoggerFinder"), (5, .class_ 328), (0, u "java/lang/System$Logger"), (67, u "err"), (2, u "out"), (91, u "notSupportedJnuEncoding"), (15, u "in"), (17, u "initialIn"), (0, u "Ljava/io/InputStream;"), (35, u "bootLayer"), (0, u "Ljava/lang/ModuleLayer;"), (99, .class_ 664), (0, u "java/lang/System$2"), (9, u "NEVER"), (2, u "MAYBE"), (49, u "arraycopy"), (0, u "(Ljava/lang/Object;ILjava/lang/Object;II)V"), (72, .class_ 802), (0, u "java/lang/System$Logger$Level")] 31

def k7m0 : Method := { name := "<init>", desc := "()V", sig := { parameters := [], returnType := none }, accessFlags := 2, code := none }
def k7m1 : Method := { name := "arraycopy", desc := "(Ljava/lang/Object;ILjava/lang/Object;II)V", sig := { parameters := [(.object "java/lang/Object"), .int, (.object "java/lang/Object"), .int, .int], returnType := none }, accessFlags := 265, code := none }
/-- java/lang/System -/
def k7 : Class := { plain "java/lang/System" (some 0) with
  accessFlags := 49
  interfaces := #[]
  cf := some (fileOf pool7 8 #[.nestMembers #[319, 327, 801, 108, 663, 208]] #[{ accessFlags := 2, nameIndex := 5, descriptorIndex := 6, attributes := #[] }, { accessFlags := 265, nameIndex := 727, descriptorIndex := 728, attributes := #[] }] 49 2 #[] #[{ accessFlags := 25, nameIndex := 507, descriptorIndex := 526, attributes := #[] }, { accessFlags := 25, nameIndex := 399, descriptorIndex := 155, attributes := #[] }, { accessFlags := 25, nameIndex := 396, descriptorIndex := 155, attributes := #[] }, { accessFlags := 10, nameIndex := 525, descriptorIndex := 526, attributes := #[] }, { accessFlags := 26, nameIndex := 674, descriptorIndex := 12, attributes := #[] }, { accessFlags := 26, nameIndex := 677, descriptorIndex := 12, attributes := #[] }, { accessFlags := 10, nameIndex := 11, descriptorIndex := 12, attributes := #[] }, { accessFlags := 74, nameIndex := 175, descriptorIndex := 176, attributes := #[] }, { accessFlags := 10, nameIndex := 491, descriptorIndex := 222, attributes := #[] }, { accessFlags := 74, nameIndex := 29, descriptorIndex := 30, attributes := #[] }, { accessFlags := 74, nameIndex := 154, descriptorIndex := 155, attributes := #[] }, { accessFlags := 10, nameIndex := 217, descriptorIndex := 218, attributes := #[] }, { accessFlags := 10, nameIndex := 221, descriptorIndex := 222, attributes := #[] }, { accessFlags := 8, nameIndex := 562, descriptorIndex := 563, attributes := #[] }])
  fields := #[{ name := "in", type := (.object "java/io/InputStream"), accessFlags := 25, slot := 0, constantValue := 0 }, { name := "out", type := (.object "java/io/PrintStream"), accessFlags := 25, slot := 1, constantValue := 0 }, { name := "err", type := (.object "java/io/PrintStream"), accessFlags := 25, slot := 2, constantValue := 0 }, { name := "initialIn", type := (.object "java/io/InputStream"), accessFlags := 10, slot := 3, constantValue := 0 }, { name := "NEVER", type := .int, accessFlags := 26, slot := 4, constantValue := 0 }, { name := "MAYBE", type := .int, accessFlags := 26, slot := 5, constantValue := 0 }, { name := "allowSecurityManager", type := .int, accessFlags := 10, slot := 6, constantValue := 0 }, { name := "security", type := (.object "java/lang/SecurityManager"), accessFlags := 74, slot := 7, constantValue := 0 }, { name := "notSupportedJnuEncoding", type := (.object "java/lang/String"), accessFlags := 10, slot := 8, constantValue := 0 }, { name := "cons", type := (.object "java/io/Console"), accessFlags := 74, slot := 9, constantValue := 0 }, { name := "initialErrStream", type := (.object "java/io/PrintStream"), accessFlags := 74, slot := 10, constantValue := 0 }, { name := "props", type := (.object "java/util/Properties"), accessFlags := 10, slot := 11, constantValue := 0 }, { name := "lineSeparator", type := (.object "java/lang/String"), accessFlags := 10, slot := 12, constantValue := 0 }, { name := "bootLayer", type := (.object "java/lang/ModuleLayer"), accessFlags := 8, slot := 13, constantValue := 0 }]
  methods := #[k7m0, k7m1]
  instanceTypes := #[]
  staticTypes := #[(.object "java/io/InputStream"), (.object "java/io/PrintStream"), (.object "java/io/PrintStream"), (.object "java/io/InputStream"), .int, .int, .int, (.object "java/lang/SecurityManager"), (.object "java/lang/String"), (.object "java/io/Console"), (.object "java/io/PrintStream"), (.object "java/util/Properties"), (.object "java/lang/String"), (.object "java/lang/ModuleLayer")]
  resolved := Array.replicate 834 none
  statics := none }

def pool8 : Array CpInfo := pool [(1, .class_ 2), (0, u "java/lang/Math"), (1, .class_ 6), (1, u "java/lang/Object"), (0, u "<init>"), (0, u "()V"), (89, .class_ 100), (1, u "java/lang/Math$RandomNumberGeneratorHolder"), (71, u "negativeZeroFloatBits"), (0, u "J"), (2, u "negativeZeroDoubleBits"), (21, u "max"), (2, u "min"), (43, u "$assertionsDisabled"), (0, u "Z"), (88, u "(II)I"), (2, u "twoToTheDoubleScaleDown"), (0, u "D"), (4, u "twoToTheDoubleScaleUp"), (9, u "E"), (3, u "PI"), (2, u "TAU"), (2, u "DEGREES_TO_RADIANS"), (0, u "RADIANS_TO_DEGREES")] 94

def k8m0 : Method := { name := "<init>", desc := "()V", sig := { parameters := [], returnType := none }, accessFlags := 2, code := none }
def k8c1 : Code := { maxStack := 2, maxLocals := 2, code := jdk_29_method_65_code, exceptionTable := #[], attributes := #[] }
def k8m1 : Method := { name := "max", desc := "(II)I", sig := { parameters := [.int, .int], returnType := some .int }, accessFlags := 9, code := some k8c1 }
def k8c2 : Code := { maxStack := 2, maxLocals := 2, code := jdk_29_method_69_code, exceptionTable := #[], attributes := #[] }
def k8m2 : Method := { name := "min", desc := "(II)I", sig := { parameters := [.int, .int], returnType := some .int }, accessFlags := 9, code := some k8c2 }
/-- java/lang/Math -/
def k8 : Class := { plain "java/lang/Math" (some 0) with
  accessFlags := 49
  interfaces := #[]
  cf := some (fileOf pool8 1 #[.nestMembers #[98]] #[{ accessFlags := 2, nameIndex := 7, descriptorIndex := 8, attributes := #[] }, { accessFlags := 9, nameIndex := 198, descriptorIndex := 335, attributes := #[] }, { accessFlags := 9, nameIndex := 201, descriptorIndex := 335, attributes := #[] }] 49 4 #[] #[{ accessFlags := 25, nameIndex := 354, descriptorIndex := 339, attributes := #[] }, { accessFlags := 25, nameIndex := 358, descriptorIndex := 339, attributes := #[] }, { accessFlags := 25, nameIndex := 361, descriptorIndex := 339, attributes := #[] }, { accessFlags := 26, nameIndex := 364, descriptorIndex := 339, attributes := #[] }, { accessFlags := 26, nameIndex := 365, descriptorIndex := 339, attributes := #[] }, { accessFlags := 26, nameIndex := 172, descriptorIndex := 173, attributes := #[] }, { accessFlags := 26, nameIndex := 176, descriptorIndex := 173, attributes := #[] }, { accessFlags := 8, nameIndex := 344, descriptorIndex := 339, attributes := #[] }, { accessFlags := 8, nameIndex := 338, descriptorIndex := 339, attributes := #[] }, { accessFlags := 4120, nameIndex := 245, descriptorIndex := 246, attributes := #[] }])
  fields := #[{ name := "E", type := .double, accessFlags := 25, slot := 0, constantValue := 0 }, { name := "PI", type := .double, accessFlags := 25, slot := 1, constantValue := 0 }, { name := "TAU", type := .double, accessFlags := 25, slot := 2, constantValue := 0 }, { name := "DEGREES_TO_RADIANS", type := .double, accessFlags := 26, slot := 3, constantValue := 0 }, { name := "RADIANS_TO_DEGREES", type := .double, accessFlags := 26, slot := 4, constantValue := 0 }, { name := "negativeZeroFloatBits", type := .long, accessFlags := 26, slot := 5, constantValue := 0 }, { name := "negativeZeroDoubleBits", type := .long, accessFlags := 26, slot := 6, constantValue := 0 }, { name := "twoToTheDoubleScaleUp", type := .double, accessFlags := 8, slot := 7, constantValue := 0 }, { name := "twoToTheDoubleScaleDown", type := .double, accessFlags := 8, slot := 8, constantValue := 0 }, { name := "$assertionsDisabled", type := .boolean, accessFlags := 4120, slot := 9, constantValue := 0 }]
  methods := #[k8m0, k8m1, k8m2]
  instanceTypes := #[]
  staticTypes := #[.double, .double, .double, .double, .double, .long, .long, .double, .double, .boolean]
  resolved := Array.replicate 460 none
  statics := none }

def pool9 : Array CpInfo := pool [(2, .class_ 4), (1, u "java/lang/Object"), (0, u "<init>"), (0, u "()V"), (7, .class_ 16), (1, u "java/util/Arrays"), (57, .class_ 76), (1, u "java/util/Arrays$NaturalOrder"), (36, .class_ 115), (1, u "java/util/Arrays$LegacyMergeSort"), (1, u "Z"), (32, .methodref 151 152), (0, .class_ 153), (0, .nameAndType 154 155), (0, u "java/lang/System"), (0, u "arraycopy"), (0, u "(Ljava/lang/Object;ILjava/lang/Object;II)V"), (146, u "copyOf"), (1, .methodref 305 306), (0, .class_ 307), (0, .nameAndType 308 309), (0, u "java/lang/Math"), (0, u "min"), (0, u "(II)I"), (65, .class_ 376), (0, u "java/util/Arrays$ArrayList"), (68, u "$assertionsDisabled"), (269, u "MIN_ARRAY_SORT_GRAN"), (0, u "I"), (2, u "INSERTIONSORT_THRESHOLD"), (149, u "([BI)[B"), (105, .class_ 976), (0, u "java/util/Arrays$ArrayItr")] 52

def k9m0 : Method := { name := "<init>", desc := "()V", sig := { parameters := [], returnType := none }, accessFlags := 2, code := none }
def k9c1 : Code := { maxStack := 6, maxLocals := 3, code := jdk_65_method_121_code, exceptionTable := #[], attributes := #[] }
def k9m1 : Method := { name := "copyOf", desc := "([BI)[B", sig := { parameters := [(.array .byte), .int], returnType := some (.array .byte) }, accessFlags := 9, code := some k9c1 }
/-- java/util/Arrays -/
def k9 : Class := { plain "java/util/Arrays" (some 0) with
  accessFlags := 49
  interfaces := #[]
  cf := some (fileOf pool9 14 #[.nestMembers #[975, 375, 113, 74]] #[{ accessFlags := 2, nameIndex := 5, descriptorIndex := 6, attributes := #[] }, { accessFlags := 9, nameIndex := 302, descriptorIndex := 869, attributes := #[] }] 49 2 #[] #[{ accessFlags := 26, nameIndex := 715, descriptorIndex := 716, attributes := #[] }, { accessFlags := 26, nameIndex := 719, descriptorIndex := 716, attributes := #[] }, { accessFlags := 4120, nameIndex := 445, descriptorIndex := 117, attributes := #[] }])
  fields := #[{ name := "MIN_ARRAY_SORT_GRAN", type := .int, accessFlags := 26, slot := 0, constantValue := 0 }, { name := "INSERTIONSORT_THRESHOLD", type := .int, accessFlags := 26, slot := 1, constantValue := 0 }, { name := "$assertionsDisabled", type := .boolean, accessFlags := 4120, slot := 2, constantValue := 0 }]
  methods := #[k9m0, k9m1]
  instanceTypes := #[]
  staticTypes := #[.int, .int, .boolean]
  resolved := Array.replicate 1029 none
  statics := none }

def pool10 : Array CpInfo := pool [(1, u "java/lang/Cloneable"), (0, .class_ 1), (0, u "java/lang/Object"), (0, .class_ 3)] 3

/-- java/lang/Cloneable -/
def k10 : Class := { plain "java/lang/Cloneable" (some 0) with
  accessFlags := 1537
  interfaces := #[]
  cf := some (fileOf pool10 2 #[] #[] 1537 4 #[] #[])
  fields := #[]
  methods := #[]
  instanceTypes := #[]
  staticTypes := #[]
  resolved := Array.replicate 8 none
  statics := none }

def pool11 : Array CpInfo := pool [(1, u "java/io/Serializable"), (0, .class_ 1), (0, u "java/lang/Object"), (0, .class_ 3)] 3

/-- java/io/Serializable -/
def k11 : Class := { plain "java/io/Serializable" (some 0) with
  accessFlags := 1537
  interfaces := #[]
  cf := some (fileOf pool11 2 #[] #[] 1537 4 #[] #[])
  fields := #[]
  methods := #[]
  instanceTypes := #[]
  staticTypes := #[]
  resolved := Array.replicate 8 none
  statics := none }

/-- the primitive byte -/
def k12 : Class := { plain "byte" none with kind := .primitive 'B', accessFlags := 0x411 }
/-- [B -/
def k13 : Class := { plain "[B" (some 0) with kind := .array 12 .byte, interfaces := #[10, 11], accessFlags := 1041 }

/-- the primitive int -/
def k14 : Class := { plain "int" none with kind := .primitive 'I', accessFlags := 0x411 }
/-- [I -/
def k15 : Class := { plain "[I" (some 0) with kind := .array 14 .int, interfaces := #[10, 11], accessFlags := 1041 }

def heap : Heap := #[]
def classes : Array Class := #[k0, k1, k2, k3, k4, k5, k6, k7, k8, k9, k10, k11, k12, k13, k14, k15]
def interned : List (Array UInt16 × Addr) := []
def slotsUsed : Nat := 0
def theMethod : MethodId := ⟨1, 1⟩
def args0 : Array Value := #[.int 5, .int 6, .int 7, .int 8, .int 9, .int 10]
def aboutOver (below : List Frame) : State where
  vm := { classes := classes, interned := interned.toArray }
  heap := heap
  slotsUsed := slotsUsed
  threads := #[{ frames := .invoking theMethod args0 :: below }]
def below0 : List Frame := [.native { method := ⟨0, 0⟩, args := #[] }]
def about1 : State := aboutOver below0
def p0 : Program := .bare "" "" ""
def e0 : Env := launch0.env 0 0 0
theorem w_frames : about1.frames = Frame.invoking theMethod args0 :: below0 := rfl
set_option maxRecDepth 65536 in
theorem w_args : argsFit about1.vm theMethod args0 = true := by decide +kernel
set_option maxRecDepth 65536 in
theorem w_heap : heapFits about1 = true := by decide +kernel
set_option maxRecDepth 65536 in
theorem w_runnable : about1.curStatus? = some .runnable := by decide +kernel
set_option maxRecDepth 65536 in
theorem w_alone : about1.alone = true := by decide +kernel
set_option maxRecDepth 65536 in
theorem w_named : about1.methodNamed? x = some theMethod := by decide +kernel
set_option maxRecDepth 65536 in
theorem w_hears : about1.hears theMethod below0 = true := by decide +kernel
set_option maxRecDepth 65536 in
theorem w_ripe : about1.ripe theMethod args0 below0 = true := by decide +kernel
theorem w_running : about1.status = .running := rfl
set_option maxRecDepth 65536 in
theorem w_room : about1.hasRoom e0.platform room_1 = true :=
  launch0.hasRoom_least _ room_1 (by decide +kernel) (by decide +kernel) (by decide +kernel) (by decide +kernel) (by decide +kernel) (by decide +kernel)
theorem allAtoms_all (ts : List Jvm.Cond) (a : Array Jvm.Value) (st : Jvm.State) : (allAtoms ts).before a st = ts.all (fun c => c.before a st) := by
  induction ts with
  | nil => rfl
  | cons c t ih =>
    show (Jvm.Cond.and c (allAtoms t)).before a st = _
    rw [Jvm.Cond.before_and, ih, List.all_cons]
def words1 : List Jvm.Cond := Jvm.Cond.code x code maxLocals ret :: tables_1
/-- a 'code' word, met by the world's own term for the bytes: nothing is compared byte by byte -/
theorem code_word {y : MethodName} {bytes : ByteArray} {mx : Nat} {rt : Option FieldType} {a : Array Value} {s : State} {m : MethodId} {meth : Method} {c : Code} (h1 : s.methodNamed? y = some m) (h2 : s.vm.method? m = some meth) (h3 : meth.code = some c) (h4 : c.code = bytes)
    (h5 : (c.maxLocals == mx && c.exceptionTable.isEmpty && decide (c.maxStack ≤ mostOperands) && decide (meth.sig.returnType = rt) && !meth.locks && decide (parseMethodDescriptor y.desc = some meth.sig)) = true) : (Jvm.Cond.code y bytes mx rt).before a s = true := by
  simp only [Bool.and_eq_true, beq_iff_eq, Bool.not_eq_true', decide_eq_true_eq] at h5
  obtain ⟨⟨⟨⟨⟨g1, g2⟩, g3⟩, g4⟩, g5⟩, g6⟩ := h5
  simp [Cond.before, Cond.holds, Cond.value, h1, h2, h3, h4, g1, g2, g3, g4, g5, g6]
def isCode : Jvm.Cond → Bool
  | .code _ _ _ _ => true
  | _ => false
theorem all_split {L : List Jvm.Cond} {P : Jvm.Cond → Bool} (h1 : L.all (fun c => isCode c || P c) = true) (h2 : ∀ c ∈ L.filter isCode, P c = true) : L.all P = true := by
  refine List.all_eq_true.mpr fun c hc => ?_
  have h := List.all_eq_true.mp h1 c hc
  rcases Bool.eq_false_or_eq_true (isCode c) with hi | hi
  · exact h2 c (List.mem_filter.mpr ⟨hc, hi⟩)
  · simpa [hi] using h
set_option maxRecDepth 65536 in
theorem w_c0 : (Jvm.Cond.code x code maxLocals ret).before args0 about1 = true := code_word (m := ⟨1, 1⟩) (meth := k1m1) (c := k1c1) (by decide +kernel) rfl rfl rfl (by decide +kernel)
set_option maxRecDepth 65536 in
theorem w_c1 : (Jvm.Cond.code ({ cls := "com/example/gridtally/gridtally/io/ByteStreams$Buffer", name := "<init>", desc := "()V" } : Jvm.MethodName) prog_35_method_1_code (1 : Nat) (Option.none : Option Jvm.ClassFile.FieldType)).before args0 about1 = true := code_word (m := ⟨6, 0⟩) (meth := k6m0) (c := k6c0) (by decide +kernel) rfl rfl rfl (by decide +kernel)
set_option maxRecDepth 65536 in
theorem w_c2 : (Jvm.Cond.code ({ cls := "java/io/OutputStream", name := "<init>", desc := "()V" } : Jvm.MethodName) jdk_2038_method_1_code (1 : Nat) (Option.none : Option Jvm.ClassFile.FieldType)).before args0 about1 = true := code_word (m := ⟨5, 0⟩) (meth := k5m0) (c := k5c0) (by decide +kernel) rfl rfl rfl (by decide +kernel)
set_option maxRecDepth 65536 in
theorem w_c3 : (Jvm.Cond.code ({ cls := "java/lang/Object", name := "<init>", desc := "()V" } : Jvm.MethodName) object_method_1_code (1 : Nat) (Option.none : Option Jvm.ClassFile.FieldType)).before args0 about1 = true := code_word (m := ⟨0, 0⟩) (meth := k0m0) (c := k0c0) (by decide +kernel) rfl rfl rfl (by decide +kernel)
set_option maxRecDepth 65536 in
theorem w_c4 : (Jvm.Cond.code ({ cls := "com/example/gridtally/gridtally/io/ByteStreams$Buffer", name := "write", desc := "([BII)V" } : Jvm.MethodName) prog_35_method_3_code (4 : Nat) (Option.none : Option Jvm.ClassFile.FieldType)).before args0 about1 = true := code_word (m := ⟨6, 1⟩) (meth := k6m1) (c := k6c1) (by decide +kernel) rfl rfl rfl (by decide +kernel)
set_option maxRecDepth 65536 in
theorem w_c5 : (Jvm.Cond.code ({ cls := "com/example/gridtally/gridtally/io/ByteStreams$Buffer", name := "ensure", desc := "(I)V" } : Jvm.MethodName) prog_35_method_8_code (2 : Nat) (Option.none : Option Jvm.ClassFile.FieldType)).before args0 about1 = true := code_word (m := ⟨6, 4⟩) (meth := k6m4) (c := k6c4) (by decide +kernel) rfl rfl rfl (by decide +kernel)
set_option maxRecDepth 65536 in
theorem w_c6 : (Jvm.Cond.code ({ cls := "com/example/gridtally/gridtally/io/ByteStreams$Buffer", name := "size", desc := "()I" } : Jvm.MethodName) prog_35_method_4_code (1 : Nat) (Option.some Jvm.ClassFile.FieldType.int)).before args0 about1 = true := code_word (m := ⟨6, 2⟩) (meth := k6m2) (c := k6c2) (by decide +kernel) rfl rfl rfl (by decide +kernel)
set_option maxRecDepth 65536 in
theorem w_c7 : (Jvm.Cond.code ({ cls := "com/example/gridtally/gridtally/io/ByteStreams$Buffer", name := "array", desc := "()[B" } : Jvm.MethodName) prog_35_method_5_code (1 : Nat) (Option.some (Jvm.ClassFile.FieldType.array Jvm.ClassFile.FieldType.byte))).before args0 about1 = true := code_word (m := ⟨6, 3⟩) (meth := k6m3) (c := k6c3) (by decide +kernel) rfl rfl rfl (by decide +kernel)
set_option maxRecDepth 65536 in
theorem w_c8 : (Jvm.Cond.code ({ cls := "java/lang/Math", name := "max", desc := "(II)I" } : Jvm.MethodName) jdk_29_method_65_code (2 : Nat) (Option.some Jvm.ClassFile.FieldType.int)).before args0 about1 = true := code_word (m := ⟨8, 1⟩) (meth := k8m1) (c := k8c1) (by decide +kernel) rfl rfl rfl (by decide +kernel)
set_option maxRecDepth 65536 in
theorem w_c9 : (Jvm.Cond.code ({ cls := "java/util/Arrays", name := "copyOf", desc := "([BI)[B" } : Jvm.MethodName) jdk_65_method_121_code (3 : Nat) (Option.some (Jvm.ClassFile.FieldType.array Jvm.ClassFile.FieldType.byte))).before args0 about1 = true := code_word (m := ⟨9, 1⟩) (meth := k9m1) (c := k9c1) (by decide +kernel) rfl rfl rfl (by decide +kernel)
set_option maxRecDepth 65536 in
theorem w_c10 : (Jvm.Cond.code ({ cls := "java/lang/Math", name := "min", desc := "(II)I" } : Jvm.MethodName) jdk_29_method_69_code (2 : Nat) (Option.some Jvm.ClassFile.FieldType.int)).before args0 about1 = true := code_word (m := ⟨8, 2⟩) (meth := k8m2) (c := k8c2) (by decide +kernel) rfl rfl rfl (by decide +kernel)
def codes1 : List Jvm.Cond := [Jvm.Cond.code x code maxLocals ret, Jvm.Cond.code ({ cls := "com/example/gridtally/gridtally/io/ByteStreams$Buffer", name := "<init>", desc := "()V" } : Jvm.MethodName) prog_35_method_1_code (1 : Nat) (Option.none : Option Jvm.ClassFile.FieldType), Jvm.Cond.code ({ cls := "java/io/OutputStream", name := "<init>", desc := "()V" } : Jvm.MethodName) jdk_2038_method_1_code (1 : Nat) (Option.none : Option Jvm.ClassFile.FieldType), Jvm.Cond.code ({ cls := "java/lang/Object", name := "<init>", desc := "()V" } : Jvm.MethodName) object_method_1_code (1 : Nat) (Option.none : Option Jvm.ClassFile.FieldType), Jvm.Cond.code ({ cls := "com/example/gridtally/gridtally/io/ByteStreams$Buffer", name := "write", desc := "([BII)V" } : Jvm.MethodName) prog_35_method_3_code (4 : Nat) (Option.none : Option Jvm.ClassFile.FieldType), Jvm.Cond.code ({ cls := "com/example/gridtally/gridtally/io/ByteStreams$Buffer", name := "ensure", desc := "(I)V" } : Jvm.MethodName) prog_35_method_8_code (2 : Nat) (Option.none : Option Jvm.ClassFile.FieldType), Jvm.Cond.code ({ cls := "com/example/gridtally/gridtally/io/ByteStreams$Buffer", name := "size", desc := "()I" } : Jvm.MethodName) prog_35_method_4_code (1 : Nat) (Option.some Jvm.ClassFile.FieldType.int), Jvm.Cond.code ({ cls := "com/example/gridtally/gridtally/io/ByteStreams$Buffer", name := "array", desc := "()[B" } : Jvm.MethodName) prog_35_method_5_code (1 : Nat) (Option.some (Jvm.ClassFile.FieldType.array Jvm.ClassFile.FieldType.byte)), Jvm.Cond.code ({ cls := "java/lang/Math", name := "max", desc := "(II)I" } : Jvm.MethodName) jdk_29_method_65_code (2 : Nat) (Option.some Jvm.ClassFile.FieldType.int), Jvm.Cond.code ({ cls := "java/util/Arrays", name := "copyOf", desc := "([BI)[B" } : Jvm.MethodName) jdk_65_method_121_code (3 : Nat) (Option.some (Jvm.ClassFile.FieldType.array Jvm.ClassFile.FieldType.byte)), Jvm.Cond.code ({ cls := "java/lang/Math", name := "min", desc := "(II)I" } : Jvm.MethodName) jdk_29_method_69_code (2 : Nat) (Option.some Jvm.ClassFile.FieldType.int)]
set_option maxRecDepth 65536 in
theorem codes_eq : words1.filter isCode = codes1 := rfl
theorem w_codes : ∀ c ∈ words1.filter isCode, c.before args0 about1 = true := by
  rw [codes_eq]
  intro c hc
  simp only [codes1, List.mem_cons, List.not_mem_nil, or_false] at hc
  rcases hc with rfl | rfl | rfl | rfl | rfl | rfl | rfl | rfl | rfl | rfl | rfl
  · exact w_c0
  · exact w_c1
  · exact w_c2
  · exact w_c3
  · exact w_c4
  · exact w_c5
  · exact w_c6
  · exact w_c7
  · exact w_c8
  · exact w_c9
  · exact w_c10
set_option maxRecDepth 65536 in
theorem w_t1 : (words1.take 24).all (fun c => isCode c || c.before args0 about1) = true := by decide +kernel
set_option maxRecDepth 65536 in
theorem w_t2 : ((words1.drop 24).take 24).all (fun c => isCode c || c.before args0 about1) = true := by decide +kernel
set_option maxRecDepth 65536 in
theorem w_t3 : ((words1.drop 24).drop 24).all (fun c => isCode c || c.before args0 about1) = true := by decide +kernel
theorem w_tables : (allAtoms (Jvm.Cond.code x code maxLocals ret :: tables_1)).before args0 about1 = true := by
  rw [allAtoms_all]
  show words1.all (fun c => c.before args0 about1) = true
  refine all_split ?_ w_codes
  rw [← List.take_append_drop 24 words1, List.all_append, w_t1, ← List.take_append_drop 24 (words1.drop 24), List.all_append, w_t2, w_t3]
  rfl
set_option maxRecDepth 65536 in
theorem w_case : (Jvm.Cond.and given_1 narrow_1).before args0 about1 = true := by decide +kernel
theorem w_applies : (headSpec (Jvm.Cond.code x code maxLocals ret :: tables_1) room_1).applies x e0.platform about1 = true :=
  (Spec.applies_iff w_frames).mpr ⟨w_running, w_runnable, w_alone, w_named, w_hears, w_ripe, w_room, w_tables⟩
theorem atStart : AtStart classFile x code maxLocals ret World_1 tables_1 room_1 Calls_1 rest_1 Pre_1 launch0 p0 e0 about1 theMethod args0 below0 :=
  ⟨lists_1, trivial, launch0.admits_env _ _ _, launch0.least_env, fairChoices_fair.cas, fairChoices_fair.clock, w_frames, w_args, w_heap, w_applies, trivial, trivial, w_case⟩
end start1
theorem witness_1 : WitnessClaimed_1 := ⟨start1.p0, start1.e0, start1.about1, start1.theMethod, start1.args0, start1.below0, start1.atStart⟩
end Jvm.Pilot.@@N@@
