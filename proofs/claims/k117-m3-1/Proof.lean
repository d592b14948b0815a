import JvmDerived
import JvmDerived.Pilot.@@N@@Statement
import JvmDerived.Pilot.@@N@@Code
set_option linter.unusedVariables false
set_option linter.unusedSimpArgs false
namespace Jvm.Pilot.@@N@@
open Jvm Jvm.ClassFile Sem Op Lib Jvm.Free Jvm.Stand Jvm.LawKit Jvm.RoadKit Bundle Jvm.Pilot.@@N@@.Jvm.D
section OwnKit
variable {p : Program} {l : Launch} {e : Env} {R : Room} {s : State} {m : MethodId} {args : Array Value} {below : List Frame} {meth : Method} {c : Code} {T : State} {locs : List Loc} {cells slots : Nat} {Z : State} {a0 : Array Value} {h : Heap} {W : State → Outcome → Prop}
/-- what a walk owes from a frame on -/
def Go (p : Program) (e : Env) (below : List Frame) (W : State → Outcome → Prop) (T : State) (g : JFrame) : Prop := ∃ t o, Steps p.tables e below (T.setTop g) t ∧ t.status = .running ∧ Ended t below o ∧ W t o
theorem Go.of {T T' : State} {g g' : JFrame} (q : ∀ t, Steps p.tables e below (T'.setTop g') t → Steps p.tables e below (T.setTop g) t) (k : Go p e below W T' g') : Go p e below W T g := by
  obtain ⟨t, o, h1, h2⟩ := k
  exact ⟨t, o, q t h1, h2⟩
theorem Go.ret (X : Stand p l e R s m args below meth c T locs cells slots) {g : JFrame} {v : Option Value} (hv : meth.sig.returnType = none → v = none) (hk : meth.locks = false)
    (st : ∀ fs, (∀ (f : JFrame) (acts : List Action), f.method = m → f.locked = none → f.entered = [] → (doReturn e (T.setTop f) acts v).1 = T.setFrames fs) → Steps p.tables e below (T.setTop g) (T.setFrames fs))
    (hq : ∀ t : State, t.heap = T.heap → FrameEnd s (.returned v) t locs cells slots → W t (.returned v)) : Go p e below W T g := by
  obtain ⟨fs, hr, hrun, hended, hW, hsame⟩ := X.leave (v := v) hv hk
  exact ⟨_, _, st fs hr, hrun, hended, hq _ rfl ⟨⟨_, rfl⟩, hW, hsame⟩⟩
/-- ireturn of a boolean, byte, char, short -/
theorem Go.retN (X : Stand p l e R s m args below meth c T locs cells slots) (hx : p.tables.exec = Jvm.exec) {pc : Nat} {Ls : Array Slot} {z w : Int32} {t : FieldType} {rest : List Value} (hret : meth.sig.returnType = some t) (ht : t = .boolean ∨ t = .byte ∨ t = .char ∨ t = .short) (hd : decode c.code pc = .ok (.ireturn, 1)) (hk : meth.locks = false) (hn : nar t z = w)
    (hq : ∀ t : State, t.heap = T.heap → FrameEnd s (.returned (some (.int w))) t locs cells slots → W t (.returned (some (.int w)))) : Go p e below W T (mkF m pc Ls (.int z :: rest)) := by
  subst hn
  exact Go.ret X (fun q => by rw [hret] at q; cases q) hk (fun fs hr => Jvm.RoadKit.retN X hx hret ht hd hr) hq
theorem Go.retI (X : Stand p l e R s m args below meth c T locs cells slots) (hx : p.tables.exec = Jvm.exec) {pc : Nat} {Ls : Array Slot} {z w : Int32} {rest : List Value} (hret : meth.sig.returnType = some .int) (hd : decode c.code pc = .ok (.ireturn, 1)) (hk : meth.locks = false) (hn : z = w)
    (hq : ∀ t : State, t.heap = T.heap → FrameEnd s (.returned (some (.int w))) t locs cells slots → W t (.returned (some (.int w)))) : Go p e below W T (mkF m pc Ls (.int z :: rest)) := by
  subst hn
  exact Go.ret X (fun q => by rw [hret] at q; cases q) hk (fun fs hr => retOut X hx hret rfl (Or.inl ⟨rfl, Or.inl rfl, z, rfl⟩) hd hr) hq
theorem Go.retJ (X : Stand p l e R s m args below meth c T locs cells slots) (hx : p.tables.exec = Jvm.exec) {pc : Nat} {Ls : Array Slot} {z w : Int64} {rest : List Value} (hret : meth.sig.returnType = some .long) (hd : decode c.code pc = .ok (.lreturn, 1)) (hk : meth.locks = false) (hn : z = w)
    (hq : ∀ t : State, t.heap = T.heap → FrameEnd s (.returned (some (.long w))) t locs cells slots → W t (.returned (some (.long w)))) : Go p e below W T (mkF m pc Ls (.long z :: rest)) := by
  subst hn
  exact Go.ret X (fun q => by rw [hret] at q; cases q) hk (fun fs hr => retOut X hx hret rfl (Or.inr (Or.inl ⟨rfl, rfl, z, rfl⟩)) hd hr) hq
theorem Go.retA (X : Stand p l e R s m args below meth c T locs cells slots) (hx : p.tables.exec = Jvm.exec) {pc : Nat} {Ls : Array Slot} {t : FieldType} {a : Addr} {rest : List Value} (hret : meth.sig.returnType = some t) (ht : t.isReference = true) (hnr : narrow t (.ref a) = .ref a) (hd : decode c.code pc = .ok (.areturn, 1)) (hk : meth.locks = false)
    (hq : ∀ t : State, t.heap = T.heap → FrameEnd s (.returned (some (.ref a))) t locs cells slots → W t (.returned (some (.ref a)))) : Go p e below W T (mkF m pc Ls (.ref a :: rest)) :=
  Go.ret X (fun q => by rw [hret] at q; cases q) hk (fun fs hr => retOut X hx hret hnr (Or.inr (Or.inr (Or.inr (Or.inr ⟨rfl, ht, rfl⟩)))) hd hr) hq
theorem Go.retV (X : Stand p l e R s m args below meth c T locs cells slots) (hx : p.tables.exec = Jvm.exec) {pc : Nat} {Ls : Array Slot} (hret : meth.sig.returnType = none) (hd : decode c.code pc = .ok (.return_, 1)) (hk : meth.locks = false)
    (hq : ∀ t : State, t.heap = T.heap → FrameEnd s (.returned none) t locs cells slots → W t (.returned none)) : Go p e below W T (mkF m pc Ls []) :=
  Go.ret X (fun _ => rfl) hk (fun fs hr => X.returnOut hx hret hd hr) hq
/-- a body's contract out of its walk -/
theorem own_body {y : MethodName} {bytes : ByteArray} {maxL : Nat} {ret : Option FieldType} {ws : List Jvm.Cond} {rm : Room} {as' : Array Value} {Q : Option Value → Heap → List Loc → Prop} {Ls : Array Slot} (hpn : plainFor y = true) (hef : ∀ m, entryFrame m as' maxL = mkF m 0 Ls [])
    (walk : ∀ (p : Program) (e : Env) (s : State) (m : MethodId) (below : List Frame) (meth : Method) (c : Code) (T : State) (W : State → Outcome → Prop), Stand p l e rm s m as' below meth c T [] 0 0 → p.tables.exec = Jvm.exec → c.code = bytes → c.maxLocals = maxL → meth.sig.returnType = ret → meth.locks = false → s.vm.findClass y.cls = some m.cls → meth.name = y.name → Z.Warmed39 s.vm → T.heap = h →
      (∀ (t : State) v L cells slots, Q v t.heap L → FrameEnd s (.returned v) t L cells slots → cells ≤ rm.cells → slots ≤ rm.slots → W t (.returned v)) → Go p e below W T (mkF m 0 Ls [])) :
    MetFree l y (head1 (Jvm.Cond.code y bytes maxL ret :: ws) rm) (fun a U => a = as' ∧ Z.Warmed39 U.vm ∧ U.heap = h) (fun _ _ _ _ _ => True) (fun _ U o U' => ∃ v L, o = .returned v ∧ Q v U'.heap L ∧ FrameEnd U o U' L rm.cells rm.slots) := by
  refine MetFree.of_bodySF hpn hisR ?_
  intro p e s m args below meth c s₁ Bd hml hP hK
  obtain ⟨rfl, hZ, hh⟩ := hP
  obtain ⟨t, o, h1, h2, h3, h4⟩ := walk p e s m below meth c s₁ (fun t o => ∃ v L, o = .returned v ∧ Q v t.heap L ∧ FrameEnd s o t L rm.cells rm.slots) (Stand.of_body Bd) Bd.exec Bd.bytes hml Bd.returns (BodyLoose.notSynchronized Bd) (findClass_of_methodNamed Bd.named) (name_of_methodNamed Bd.named Bd.method).1 hZ (by rw [← hh, Bd.state]; rfl)
    (fun t v L cells slots hQ hF hc hs => ⟨v, L, rfl, hQ, hF.1, hF.2.1, hF.2.2.mono hc hs⟩)
  exact ⟨t, o, castTop (hef m) h1, h2, h3, h4⟩
/-- a contract, written short -/
abbrev Con (l : Launch) (Z : State) (y : MethodName) (bytes : ByteArray) (maxL : Nat) (ret : Option FieldType) (ws : List Jvm.Cond) (rm : Room) (as' : Array Value) (h : Heap) (Q : Option Value → Heap → List Loc → Prop) : Prop :=
  MetFree l y (head1 (Jvm.Cond.code y bytes maxL ret :: ws) rm) (fun a U => a = as' ∧ Z.Warmed39 U.vm ∧ U.heap = h) (fun _ _ _ _ _ => True) (fun _ U o U' => ∃ v L, o = .returned v ∧ Q v U'.heap L ∧ FrameEnd U o U' L rm.cells rm.slots)
/-- what a callee that leaves the heap as it is says -/
def PQ (w : Value) (h0 : Heap) (v : Option Value) (h : Heap) (L : List Loc) : Prop := v = some w ∧ L = [] ∧ h = h0
theorem Go.callS (X : Stand p l e R s m args below meth c T locs cells slots) (hx : p.tables.exec = Jvm.exec) (hZ : Z.Warmed39 s.vm) {own : String} {index : Nat} {y : MethodName} {bytes : ByteArray} {maxL : Nat} {ret : Option FieldType} {rm : Room} {as' : Array Value} {Q : Option Value → Heap → List Loc → Prop} (hown : s.vm.findClass own = some m.cls)
    (w1 : (Jvm.Cond.methodLink own index y).before a0 Z = true) (w2 : (Jvm.Cond.static y).before a0 Z = true) (w3 : (Jvm.Cond.initialized y.cls).before a0 Z = true) (w4 : (Jvm.Cond.code y bytes maxL ret).before a0 Z = true) (hy : y.cls ≠ "java/lang/invoke/MethodHandle" ∧ y.cls ≠ "java/lang/invoke/VarHandle") (eT : T.heap = h)
    (hM : Con l Z y bytes maxL ret [] rm as' h Q) {V : Nat} (hf : rm.frames + 1 ≤ R.frames) (hl : V + (maxL + 11) + rm.locals ≤ R.locals) (hc : cells + rm.cells ≤ R.cells) (hs : slots + rm.slots ≤ R.slots)
    {pc : Nat} {Ls : Array Slot} {st : List Value} (hsize : Ls.size = c.maxLocals) {argsL rest : List Value} (has : argsL.toArray = as') (hlen : ∀ sig, parseMethodDescriptor y.desc = some sig → argsL.length = sig.parameters.length) (hstack : st = argsL.reverse ++ rest) (hV : (rest.map fun v => v.category).sum ≤ V) (hd : decode c.code pc = .ok (.invokestatic index, 3))
    (K : ∀ T' v L, Q v T'.heap L → Stand p l e R s m args below meth c T' (locs ++ L) (cells + rm.cells) (slots + rm.slots) → Go p e below W T' (mkF m (pc + 3) Ls (v.toList ++ rest))) : Go p e below W T (mkF m pc Ls st) := by
  obtain ⟨v, vm₁, ⟨T', L', k', n'⟩, -, X', ⟨L, hQ, e1, e2, e3⟩, st'⟩ := Jvm.LawKit.callS X hx hown (mvT hZ w1) (mvT hZ w2) (mvT hZ w3) (mvT hZ w4) hy (backOf (W := V) hM hZ w4 w3 hf hl) (g := mkF m pc Ls st) rfl hsize hlen hstack (by show 2 * 0 + _ ≤ _; omega) hd (fun _ _ => ⟨has, eT, hc, hs⟩)
  dsimp only [Pt.U, Pt.locs, Pt.cells, Pt.slots] at X' e1 e2 e3 st' hQ
  subst e1 e2 e3
  exact Go.of st' (K _ _ _ hQ X')
theorem Go.callP (X : Stand p l e R s m args below meth c T locs cells slots) (hx : p.tables.exec = Jvm.exec) (hZ : Z.Warmed39 s.vm) {own : String} {index : Nat} {y : MethodName} {bytes : ByteArray} {maxL : Nat} {ret : Option FieldType} {rm : Room} {as' : Array Value} {w : Value} (hown : s.vm.findClass own = some m.cls)
    (w1 : (Jvm.Cond.methodLink own index y).before a0 Z = true) (w2 : (Jvm.Cond.static y).before a0 Z = true) (w3 : (Jvm.Cond.initialized y.cls).before a0 Z = true) (w4 : (Jvm.Cond.code y bytes maxL ret).before a0 Z = true) (hy : y.cls ≠ "java/lang/invoke/MethodHandle" ∧ y.cls ≠ "java/lang/invoke/VarHandle") (eT : T.heap = h)
    (hM : Con l Z y bytes maxL ret [] rm as' h (PQ w h)) {V : Nat} (hf : rm.frames + 1 ≤ R.frames) (hl : V + (maxL + 11) + rm.locals ≤ R.locals) (z1 : rm.cells = 0) (z2 : rm.slots = 0) (hc : cells ≤ R.cells) (hs : slots ≤ R.slots)
    {pc : Nat} {Ls : Array Slot} {st : List Value} (hsize : Ls.size = c.maxLocals) {argsL rest : List Value} (has : argsL.toArray = as') (hlen : ∀ sig, parseMethodDescriptor y.desc = some sig → argsL.length = sig.parameters.length) (hstack : st = argsL.reverse ++ rest) (hV : (rest.map fun v => v.category).sum ≤ V) (hd : decode c.code pc = .ok (.invokestatic index, 3))
    (K : ∀ T', Stand p l e R s m args below meth c T' locs cells slots → T'.heap = h → Go p e below W T' (mkF m (pc + 3) Ls (w :: rest))) : Go p e below W T (mkF m pc Ls st) := by
  refine Go.callS X hx hZ hown w1 w2 w3 w4 hy eT hM hf hl (by rw [z1]; exact hc) (by rw [z2]; exact hs) hsize has hlen hstack hV hd ?_
  rintro T' v L ⟨rfl, rfl, h3⟩ X'
  rw [z1, z2, List.append_nil] at X'
  exact K T' X' h3
end OwnKit
theorem pd__JJ_J : parseMethodDescriptor "(JJ)J" = some ⟨[.long, .long], some .long⟩ := by decide +kernel
theorem d1_0 : decode prog_3_method_4_code 0 = .ok (.lload_n 2, 1) := by decide +kernel
theorem d1_1 : decode prog_3_method_4_code 1 = .ok (.lconst 0, 1) := by decide +kernel
theorem d1_2 : decode prog_3_method_4_code 2 = .ok (.lcmp, 1) := by decide +kernel
theorem d1_3 : decode prog_3_method_4_code 3 = .ok (.ifCond .lt 13, 3) := by decide +kernel
theorem d1_6 : decode prog_3_method_4_code 6 = .ok (.lload_n 2, 1) := by decide +kernel
theorem d1_7 : decode prog_3_method_4_code 7 = .ok (.lload_n 0, 1) := by decide +kernel
theorem d1_8 : decode prog_3_method_4_code 8 = .ok (.ldc2_w 158, 3) := by decide +kernel
theorem d1_11 : decode prog_3_method_4_code 11 = .ok (.ldiv, 1) := by decide +kernel
theorem d1_12 : decode prog_3_method_4_code 12 = .ok (.lcmp, 1) := by decide +kernel
theorem d1_13 : decode prog_3_method_4_code 13 = .ok (.ifCond .le 23, 3) := by decide +kernel
theorem d1_36 : decode prog_3_method_4_code 36 = .ok (.lload_n 2, 1) := by decide +kernel
theorem d1_37 : decode prog_3_method_4_code 37 = .ok (.lreturn, 1) := by decide +kernel
theorem pn_1 : plainFor (⟨"com/example/elect/elect/election/Election", "checkStop", "(JJ)J"⟩ : MethodName) = true := plainFor_of_name (by show plainName "com/example/elect/elect/election/Election" = true; first | (simp [plainName, overriddenIn]; done) | decide +kernel)
theorem ef_1 (m : MethodId) (q1 : Int64) (q2 : Int64) : entryFrame m #[(.long q1), (.long q2)] 4 = mkF m 0 #[.val (.long q1), .second, .val (.long q2), .second] [] := by first | (simp [entryFrame, mkF, argsToLocals, Value.category]; done) | rfl
def f1 (q1 : Int64) (q2 : Int64) : Int64 := q2
theorem pn_0 : plainFor x = true := plainFor_of_name (by show plainName "com/example/elect/elect/election/ElectionCheckStopPinLaw" = true; first | (simp [plainName, overriddenIn]; done) | decide +kernel)
theorem ef_0 (m : MethodId) (q1 : Int64) (q2 : Int64) (p3 : Int32) : entryFrame m #[(.long q1), (.long q2), (.int p3)] maxLocals = mkF m 0 #[.val (.long q1), .second, .val (.long q2), .second, .val (.int p3), .unset, .unset, .unset, .unset, .unset, .unset, .unset] [] := by first | (simp [entryFrame, mkF, argsToLocals, Value.category, maxLocals]; done) | rfl
def v0_1 (q1 : Int64) (q2 : Int64) (p3 : Int32) : Int64 := (q1 &&& (9223372036854775807 : Int64))
def v0_2 (q1 : Int64) (q2 : Int64) (p3 : Int32) : Int64 := ((v0_1 q1 q2 p3) / (2 : Int64))
def v0_3 (q1 : Int64) (q2 : Int64) (p3 : Int32) : Int32 := (p3 &&& (3 : Int32))
def v0_6 (q1 : Int64) (q2 : Int64) (p3 : Int32) : Int64 := ((q2 &&& (9223372036854775807 : Int64)) - ((q2 &&& (9223372036854775807 : Int64)) / ((v0_2 q1 q2 p3) + (1 : Int64))) * ((v0_2 q1 q2 p3) + (1 : Int64)))
def v0_8 (q1 : Int64) (q2 : Int64) (p3 : Int32) : Int64 := (if (v0_3 q1 q2 p3) = (0 : Int32) then (0 : Int64) else (if (v0_3 q1 q2 p3) = (1 : Int32) then (v0_2 q1 q2 p3) else (v0_6 q1 q2 p3)))
def f0 (q1 : Int64) (q2 : Int64) (p3 : Int32) : Int32 := (if (f1 (v0_1 q1 q2 p3) (v0_8 q1 q2 p3)) = (v0_8 q1 q2 p3) then (1 : Int32) else (0 : Int32))
theorem own_facts (q1 q2 : Int64) (p3 : Int32) : (v0_2 q1 q2 p3).toInt = (v0_1 q1 q2 p3).toInt / 2 ∧ 0 ≤ (v0_1 q1 q2 p3).toInt ∧ (v0_2 q1 q2 p3 + 1).toInt = (v0_2 q1 q2 p3).toInt + 1 ∧ 0 ≤ (v0_6 q1 q2 p3).toInt ∧ (v0_6 q1 q2 p3).toInt ≤ (v0_2 q1 q2 p3).toInt := by
  have a1 : (v0_1 q1 q2 p3).toInt = q1.toInt % (2 ^ 63 : Nat) := c_maskL q1 9223372036854775807 63 (by decide) (by decide)
  have z1 : 0 ≤ (v0_1 q1 q2 p3).toInt := by omega
  have a2 : (v0_2 q1 q2 p3).toInt = (v0_1 q1 q2 p3).toInt / 2 := (c_ldiv (v0_1 q1 q2 p3) 2 2 rfl (by decide)).1 z1
  have a3 : ((v0_2 q1 q2 p3 + 1).toInt - ((v0_2 q1 q2 p3).toInt + 1)) % 18446744073709551616 = 0 := c_ladd _ 1
  have r3 := rng64 (v0_2 q1 q2 p3 + 1)
  have e3 : (v0_2 q1 q2 p3 + 1).toInt = (v0_2 q1 q2 p3).toInt + 1 := by omega
  have a6 : (q2 &&& 9223372036854775807).toInt = q2.toInt % (2 ^ 63 : Nat) := c_maskL q2 9223372036854775807 63 (by decide) (by decide)
  have e6 : (v0_6 q1 q2 p3) = (q2 &&& 9223372036854775807) % (v0_2 q1 q2 p3 + 1) := lrem_mod _ _
  have t6 : (v0_6 q1 q2 p3).toInt = (q2 &&& 9223372036854775807).toInt % (v0_2 q1 q2 p3 + 1).toInt := by
    rw [e6, Int64.toInt_mod, Int.tmod_eq_emod_of_nonneg (by omega)]
  have g1 := Int.emod_nonneg (q2 &&& 9223372036854775807).toInt (b := (v0_2 q1 q2 p3 + 1).toInt) (by omega)
  have g2 := Int.emod_lt_of_pos (q2 &&& 9223372036854775807).toInt (b := (v0_2 q1 q2 p3 + 1).toInt) (by omega)
  exact ⟨a2, z1, e3, by omega, by omega⟩
theorem own_nz (q1 q2 : Int64) (p3 : Int32) : (v0_2 q1 q2 p3) + (1 : Int64) ≠ 0 := by
  obtain ⟨h1, h2, h3, -⟩ := own_facts q1 q2 p3
  intro q
  rw [q, show (0 : Int64).toInt = 0 from rfl] at h3
  omega
theorem own_c (q1 q2 : Int64) (p3 : Int32) : 0 ≤ (v0_8 q1 q2 p3).toInt ∧ (v0_8 q1 q2 p3).toInt ≤ (v0_2 q1 q2 p3).toInt := by
  obtain ⟨h1, h2, h3, h4, h5⟩ := own_facts q1 q2 p3
  rw [v0_8]
  split
  · rw [show (0 : Int64).toInt = 0 from rfl]; omega
  · split <;> omega
theorem own_c3 (q1 q2 : Int64) (p3 : Int32) : ¬ (v0_8 q1 q2 p3) < (0 : Int64) := by
  have := own_c q1 q2 p3
  rw [Int64.lt_iff_toInt_lt, show (0 : Int64).toInt = 0 from rfl]; omega
theorem own_c13 (q1 q2 : Int64) (p3 : Int32) : ¬ ((v0_1 q1 q2 p3) / (2 : Int64)) < (v0_8 q1 q2 p3) := by
  have := own_c q1 q2 p3
  rw [Int64.lt_iff_toInt_lt]
  have e : ((v0_1 q1 q2 p3) / (2 : Int64)) = v0_2 q1 q2 p3 := rfl
  rw [e]; omega
theorem own_law (x y : Int64) (z : Int32) : f0 x y z = 1 := by
  rw [f0, f1, if_pos rfl]
set_option maxRecDepth 65536 in
set_option maxHeartbeats 40000000 in
theorem rm1 (l : Launch) (Z : State) (a0 : Array Value) (hw : ∀ d ∈ tables_1, d.before a0 Z = true) (ws : List Jvm.Cond) (q1 : Int64) (q2 : Int64) (h0 : Heap) (hc3 : ¬ q2 < (0 : Int64)) (hc13 : ¬ (q1 / (2 : Int64)) < q2) :
    Con l Z (⟨"com/example/elect/elect/election/Election", "checkStop", "(JJ)J"⟩ : MethodName) prog_3_method_4_code 4 (some .long) ws ({ frames := 0, cells := 0, slots := 0, locals := 0 } : Room) #[(.long q1), (.long q2)] h0 (PQ (.long (f1 q1 q2)) h0) := by
  refine own_body pn_1 (fun m => ef_1 m q1 q2) ?_
  intro p e s m below meth c T0 W X0 hx hby hml hret hlk hown hnm hZ e0 hW
  show Go p e below W T0 (mkF m 0 #[.val (.long q1), .second, .val (.long q2), .second] [])
  refine Go.of (fun _ k => XS.lloadN X0.here hx rfl (hb hby d1_0) rfl k) ?_
  show Go p e below W T0 (mkF m 1 #[.val (.long q1), .second, .val (.long q2), .second] [(.long q2)])
  refine Go.of (fun _ k => XS.lconst X0.here hx rfl (hb hby d1_1) k) ?_
  show Go p e below W T0 (mkF m 2 #[.val (.long q1), .second, .val (.long q2), .second] [(.long (0 : Int64)), (.long q2)])
  refine Go.of (fun _ k => XS.lcmp X0.here hx rfl (hb hby d1_2) rfl k) ?_
  show Go p e below W T0 (mkF m 3 #[.val (.long q1), .second, .val (.long q2), .second] [(.int (Jvm.Free.XT.cmpL q2 (0 : Int64)))])
  refine Go.of (fun _ k => XS.ifNo X0.here hx rfl (hb hby d1_3) rfl (Jvm.Free.XT.ll_lt_f hc3) k) ?_
  show Go p e below W T0 (mkF m 6 #[.val (.long q1), .second, .val (.long q2), .second] [])
  refine Go.of (fun _ k => XS.lloadN X0.here hx rfl (hb hby d1_6) rfl k) ?_
  show Go p e below W T0 (mkF m 7 #[.val (.long q1), .second, .val (.long q2), .second] [(.long q2)])
  refine Go.of (fun _ k => XS.lloadN X0.here hx rfl (hb hby d1_7) rfl k) ?_
  show Go p e below W T0 (mkF m 8 #[.val (.long q1), .second, .val (.long q2), .second] [(.long q1), (.long q2)])
  refine Go.of (fun _ k => X0.ldc2J hx hown (mvT hZ (hw _ (List.mem_of_getElem? (i := 6) rfl))) rfl (hb hby d1_8) k) ?_
  show Go p e below W T0 (mkF m 11 #[.val (.long q1), .second, .val (.long q2), .second] [(.long (2 : Int64)), (.long q1), (.long q2)])
  refine Go.of (fun _ k => XS.ldiv X0.here hx rfl (hb hby d1_11) rfl (by decide) k) ?_
  show Go p e below W T0 (mkF m 12 #[.val (.long q1), .second, .val (.long q2), .second] [(.long (q1 / (2 : Int64))), (.long q2)])
  refine Go.of (fun _ k => XS.lcmp X0.here hx rfl (hb hby d1_12) rfl k) ?_
  show Go p e below W T0 (mkF m 13 #[.val (.long q1), .second, .val (.long q2), .second] [(.int (Jvm.Free.XT.cmpL q2 (q1 / (2 : Int64))))])
  refine Go.of (fun _ k => XS.ifYes X0.here hx rfl (pc0 := 13) (pc' := 36) rfl (hb hby d1_13) rfl (Jvm.Free.XT.ll_le_t hc13) (by decide) (by decide) k) ?_
  show Go p e below W T0 (mkF m 36 #[.val (.long q1), .second, .val (.long q2), .second] [])
  refine Go.of (fun _ k => XS.lloadN X0.here hx rfl (hb hby d1_36) rfl k) ?_
  show Go p e below W T0 (mkF m 37 #[.val (.long q1), .second, .val (.long q2), .second] [(.long q2)])
  have q : (f1 q1 q2) = q2 := by rw [f1]
  exact Go.retJ X0 hx hret (hb hby d1_37) hlk q.symm (fun t ht fe => hW t _ _ _ _ ⟨rfl, rfl, ht.trans e0⟩ fe (by decide) (by decide))
set_option maxRecDepth 65536 in
set_option maxHeartbeats 40000000 in
theorem rm0 (l : Launch) (Z : State) (a0 : Array Value) (hw : ∀ d ∈ tables_1, d.before a0 Z = true) (ws : List Jvm.Cond) (q1 : Int64) (q2 : Int64) (p3 : Int32) (h0 : Heap) :
    Con l Z x code maxLocals ret ws room_1 #[(.long q1), (.long q2), (.int p3)] h0 (PQ (.int (f0 q1 q2 p3)) h0) := by
  refine own_body pn_0 (fun m => ef_0 m q1 q2 p3) ?_
  intro p e s m below meth c T0 W X0 hx hby hml hret hlk hown hnm hZ e0 hW
  show Go p e below W T0 (mkF m 0 #[.val (.long q1), .second, .val (.long q2), .second, .val (.int p3), .unset, .unset, .unset, .unset, .unset, .unset, .unset] [])
  refine Go.of (fun _ k => XS.lloadN X0.here hx rfl (hb hby at_0) rfl k) ?_
  show Go p e below W T0 (mkF m 1 #[.val (.long q1), .second, .val (.long q2), .second, .val (.int p3), .unset, .unset, .unset, .unset, .unset, .unset, .unset] [(.long q1)])
  refine Go.of (fun _ k => X0.ldc2J hx hown (mvT hZ (hw _ (List.mem_of_getElem? (i := 0) rfl))) rfl (hb hby at_1) k) ?_
  show Go p e below W T0 (mkF m 4 #[.val (.long q1), .second, .val (.long q2), .second, .val (.int p3), .unset, .unset, .unset, .unset, .unset, .unset, .unset] [(.long (9223372036854775807 : Int64)), (.long q1)])
  refine Go.of (fun _ k => XS.land X0.here hx rfl (hb hby at_4) rfl k) ?_
  show Go p e below W T0 (mkF m 5 #[.val (.long q1), .second, .val (.long q2), .second, .val (.int p3), .unset, .unset, .unset, .unset, .unset, .unset, .unset] [(.long (q1 &&& (9223372036854775807 : Int64)))])
  refine Go.of (fun _ k => XS.lstore X0.here hx rfl (hb hby at_5) rfl (l' := #[.val (.long q1), .second, .val (.long q2), .second, .val (.int p3), .val (.long (v0_1 q1 q2 p3)), .second, .unset, .unset, .unset, .unset, .unset]) rfl k) ?_
  show Go p e below W T0 (mkF m 7 #[.val (.long q1), .second, .val (.long q2), .second, .val (.int p3), .val (.long (v0_1 q1 q2 p3)), .second, .unset, .unset, .unset, .unset, .unset] [])
  refine Go.of (fun _ k => XS.lload X0.here hx rfl (hb hby at_7) rfl k) ?_
  show Go p e below W T0 (mkF m 9 #[.val (.long q1), .second, .val (.long q2), .second, .val (.int p3), .val (.long (v0_1 q1 q2 p3)), .second, .unset, .unset, .unset, .unset, .unset] [(.long (v0_1 q1 q2 p3))])
  refine Go.of (fun _ k => X0.ldc2J hx hown (mvT hZ (hw _ (List.mem_of_getElem? (i := 1) rfl))) rfl (hb hby at_9) k) ?_
  show Go p e below W T0 (mkF m 12 #[.val (.long q1), .second, .val (.long q2), .second, .val (.int p3), .val (.long (v0_1 q1 q2 p3)), .second, .unset, .unset, .unset, .unset, .unset] [(.long (2 : Int64)), (.long (v0_1 q1 q2 p3))])
  refine Go.of (fun _ k => XS.ldiv X0.here hx rfl (hb hby at_12) rfl (by decide) k) ?_
  show Go p e below W T0 (mkF m 13 #[.val (.long q1), .second, .val (.long q2), .second, .val (.int p3), .val (.long (v0_1 q1 q2 p3)), .second, .unset, .unset, .unset, .unset, .unset] [(.long ((v0_1 q1 q2 p3) / (2 : Int64)))])
  refine Go.of (fun _ k => XS.lstore X0.here hx rfl (hb hby at_13) rfl (l' := #[.val (.long q1), .second, .val (.long q2), .second, .val (.int p3), .val (.long (v0_1 q1 q2 p3)), .second, .val (.long (v0_2 q1 q2 p3)), .second, .unset, .unset, .unset]) rfl k) ?_
  show Go p e below W T0 (mkF m 15 #[.val (.long q1), .second, .val (.long q2), .second, .val (.int p3), .val (.long (v0_1 q1 q2 p3)), .second, .val (.long (v0_2 q1 q2 p3)), .second, .unset, .unset, .unset] [])
  refine Go.of (fun _ k => XS.iload X0.here hx rfl (hb hby at_15) rfl k) ?_
  show Go p e below W T0 (mkF m 17 #[.val (.long q1), .second, .val (.long q2), .second, .val (.int p3), .val (.long (v0_1 q1 q2 p3)), .second, .val (.long (v0_2 q1 q2 p3)), .second, .unset, .unset, .unset] [(.int p3)])
  refine Go.of (fun _ k => XS.iconst X0.here hx rfl (hb hby at_17) k) ?_
  show Go p e below W T0 (mkF m 18 #[.val (.long q1), .second, .val (.long q2), .second, .val (.int p3), .val (.long (v0_1 q1 q2 p3)), .second, .val (.long (v0_2 q1 q2 p3)), .second, .unset, .unset, .unset] [(.int (3 : Int32)), (.int p3)])
  refine Go.of (fun _ k => XS.iand X0.here hx rfl (hb hby at_18) rfl k) ?_
  show Go p e below W T0 (mkF m 19 #[.val (.long q1), .second, .val (.long q2), .second, .val (.int p3), .val (.long (v0_1 q1 q2 p3)), .second, .val (.long (v0_2 q1 q2 p3)), .second, .unset, .unset, .unset] [(.int (p3 &&& (3 : Int32)))])
  refine Go.of (fun _ k => XS.istore X0.here hx rfl (hb hby at_19) rfl (l' := #[.val (.long q1), .second, .val (.long q2), .second, .val (.int p3), .val (.long (v0_1 q1 q2 p3)), .second, .val (.long (v0_2 q1 q2 p3)), .second, .unset, .unset, .val (.int (v0_3 q1 q2 p3))]) rfl k) ?_
  show Go p e below W T0 (mkF m 21 #[.val (.long q1), .second, .val (.long q2), .second, .val (.int p3), .val (.long (v0_1 q1 q2 p3)), .second, .val (.long (v0_2 q1 q2 p3)), .second, .unset, .unset, .val (.int (v0_3 q1 q2 p3))] [])
  refine Go.of (fun _ k => XS.iload X0.here hx rfl (hb hby at_21) rfl k) ?_
  show Go p e below W T0 (mkF m 23 #[.val (.long q1), .second, .val (.long q2), .second, .val (.int p3), .val (.long (v0_1 q1 q2 p3)), .second, .val (.long (v0_2 q1 q2 p3)), .second, .unset, .unset, .val (.int (v0_3 q1 q2 p3))] [(.int (v0_3 q1 q2 p3))])
  suffices G7 : ∀ T', Stand p l e room_1 s m #[(.long q1), (.long q2), (.int p3)] below meth c T' [] 0 0 → T'.heap = h0 → Go p e below W T' (mkF m 57 #[.val (.long q1), .second, .val (.long q2), .second, .val (.int p3), .val (.long (v0_1 q1 q2 p3)), .second, .val (.long (v0_2 q1 q2 p3)), .second, .val (.long (v0_8 q1 q2 p3)), .second, .val (.int (v0_3 q1 q2 p3))] []) by
    by_cases c4 : (v0_3 q1 q2 p3) = (0 : Int32)
    · refine Go.of (fun _ k => XS.ifNo X0.here hx rfl (hb hby at_23) rfl (Jvm.Free.XT.i0_ne_f c4) k) ?_
      show Go p e below W T0 (mkF m 26 #[.val (.long q1), .second, .val (.long q2), .second, .val (.int p3), .val (.long (v0_1 q1 q2 p3)), .second, .val (.long (v0_2 q1 q2 p3)), .second, .unset, .unset, .val (.int (v0_3 q1 q2 p3))] [])
      refine Go.of (fun _ k => XS.lconst X0.here hx rfl (hb hby at_26) k) ?_
      show Go p e below W T0 (mkF m 27 #[.val (.long q1), .second, .val (.long q2), .second, .val (.int p3), .val (.long (v0_1 q1 q2 p3)), .second, .val (.long (v0_2 q1 q2 p3)), .second, .unset, .unset, .val (.int (v0_3 q1 q2 p3))] [(.long (0 : Int64))])
      refine Go.of (fun _ k => XS.lstore X0.here hx rfl (hb hby at_27) rfl (l' := #[.val (.long q1), .second, .val (.long q2), .second, .val (.int p3), .val (.long (v0_1 q1 q2 p3)), .second, .val (.long (v0_2 q1 q2 p3)), .second, .val (.long (0 : Int64)), .second, .val (.int (v0_3 q1 q2 p3))]) rfl k) ?_
      show Go p e below W T0 (mkF m 29 #[.val (.long q1), .second, .val (.long q2), .second, .val (.int p3), .val (.long (v0_1 q1 q2 p3)), .second, .val (.long (v0_2 q1 q2 p3)), .second, .val (.long (0 : Int64)), .second, .val (.int (v0_3 q1 q2 p3))] [])
      refine Go.of (fun _ k => XS.goto X0.here hx rfl (pc0 := 29) (pc' := 57) rfl (hb hby at_29) (by decide) (by decide) k) ?_
      have G7 := G7
      have q_v0_8 : (v0_8 q1 q2 p3) = (0 : Int64) := by rw [v0_8, if_pos c4]
      rw [q_v0_8] at G7
      exact G7 _ X0 e0
    · refine Go.of (fun _ k => XS.ifYes X0.here hx rfl (pc0 := 23) (pc' := 32) rfl (hb hby at_23) rfl (Jvm.Free.XT.i0_ne_t c4) (by decide) (by decide) k) ?_
      show Go p e below W T0 (mkF m 32 #[.val (.long q1), .second, .val (.long q2), .second, .val (.int p3), .val (.long (v0_1 q1 q2 p3)), .second, .val (.long (v0_2 q1 q2 p3)), .second, .unset, .unset, .val (.int (v0_3 q1 q2 p3))] [])
      refine Go.of (fun _ k => XS.iload X0.here hx rfl (hb hby at_32) rfl k) ?_
      show Go p e below W T0 (mkF m 34 #[.val (.long q1), .second, .val (.long q2), .second, .val (.int p3), .val (.long (v0_1 q1 q2 p3)), .second, .val (.long (v0_2 q1 q2 p3)), .second, .unset, .unset, .val (.int (v0_3 q1 q2 p3))] [(.int (v0_3 q1 q2 p3))])
      refine Go.of (fun _ k => XS.iconst X0.here hx rfl (hb hby at_34) k) ?_
      show Go p e below W T0 (mkF m 35 #[.val (.long q1), .second, .val (.long q2), .second, .val (.int p3), .val (.long (v0_1 q1 q2 p3)), .second, .val (.long (v0_2 q1 q2 p3)), .second, .unset, .unset, .val (.int (v0_3 q1 q2 p3))] [(.int (1 : Int32)), (.int (v0_3 q1 q2 p3))])
      by_cases c5 : (v0_3 q1 q2 p3) = (1 : Int32)
      · refine Go.of (fun _ k => XS.icmpNo X0.here hx rfl (hb hby at_35) rfl (Jvm.Free.XT.ii_ne_f c5) k) ?_
        show Go p e below W T0 (mkF m 38 #[.val (.long q1), .second, .val (.long q2), .second, .val (.int p3), .val (.long (v0_1 q1 q2 p3)), .second, .val (.long (v0_2 q1 q2 p3)), .second, .unset, .unset, .val (.int (v0_3 q1 q2 p3))] [])
        refine Go.of (fun _ k => XS.lload X0.here hx rfl (hb hby at_38) rfl k) ?_
        show Go p e below W T0 (mkF m 40 #[.val (.long q1), .second, .val (.long q2), .second, .val (.int p3), .val (.long (v0_1 q1 q2 p3)), .second, .val (.long (v0_2 q1 q2 p3)), .second, .unset, .unset, .val (.int (v0_3 q1 q2 p3))] [(.long (v0_2 q1 q2 p3))])
        refine Go.of (fun _ k => XS.lstore X0.here hx rfl (hb hby at_40) rfl (l' := #[.val (.long q1), .second, .val (.long q2), .second, .val (.int p3), .val (.long (v0_1 q1 q2 p3)), .second, .val (.long (v0_2 q1 q2 p3)), .second, .val (.long (v0_2 q1 q2 p3)), .second, .val (.int (v0_3 q1 q2 p3))]) rfl k) ?_
        show Go p e below W T0 (mkF m 42 #[.val (.long q1), .second, .val (.long q2), .second, .val (.int p3), .val (.long (v0_1 q1 q2 p3)), .second, .val (.long (v0_2 q1 q2 p3)), .second, .val (.long (v0_2 q1 q2 p3)), .second, .val (.int (v0_3 q1 q2 p3))] [])
        refine Go.of (fun _ k => XS.goto X0.here hx rfl (pc0 := 42) (pc' := 57) rfl (hb hby at_42) (by decide) (by decide) k) ?_
        have G7 := G7
        have q_v0_8 : (v0_8 q1 q2 p3) = (v0_2 q1 q2 p3) := by rw [v0_8, if_neg c4, if_pos c5]
        rw [q_v0_8] at G7
        exact G7 _ X0 e0
      · refine Go.of (fun _ k => XS.icmpYes X0.here hx rfl (pc0 := 35) (pc' := 45) rfl (hb hby at_35) rfl (Jvm.Free.XT.ii_ne_t c5) (by decide) (by decide) k) ?_
        show Go p e below W T0 (mkF m 45 #[.val (.long q1), .second, .val (.long q2), .second, .val (.int p3), .val (.long (v0_1 q1 q2 p3)), .second, .val (.long (v0_2 q1 q2 p3)), .second, .unset, .unset, .val (.int (v0_3 q1 q2 p3))] [])
        refine Go.of (fun _ k => XS.lloadN X0.here hx rfl (hb hby at_45) rfl k) ?_
        show Go p e below W T0 (mkF m 46 #[.val (.long q1), .second, .val (.long q2), .second, .val (.int p3), .val (.long (v0_1 q1 q2 p3)), .second, .val (.long (v0_2 q1 q2 p3)), .second, .unset, .unset, .val (.int (v0_3 q1 q2 p3))] [(.long q2)])
        refine Go.of (fun _ k => X0.ldc2J hx hown (mvT hZ (hw _ (List.mem_of_getElem? (i := 0) rfl))) rfl (hb hby at_46) k) ?_
        show Go p e below W T0 (mkF m 49 #[.val (.long q1), .second, .val (.long q2), .second, .val (.int p3), .val (.long (v0_1 q1 q2 p3)), .second, .val (.long (v0_2 q1 q2 p3)), .second, .unset, .unset, .val (.int (v0_3 q1 q2 p3))] [(.long (9223372036854775807 : Int64)), (.long q2)])
        refine Go.of (fun _ k => XS.land X0.here hx rfl (hb hby at_49) rfl k) ?_
        show Go p e below W T0 (mkF m 50 #[.val (.long q1), .second, .val (.long q2), .second, .val (.int p3), .val (.long (v0_1 q1 q2 p3)), .second, .val (.long (v0_2 q1 q2 p3)), .second, .unset, .unset, .val (.int (v0_3 q1 q2 p3))] [(.long (q2 &&& (9223372036854775807 : Int64)))])
        refine Go.of (fun _ k => XS.lload X0.here hx rfl (hb hby at_50) rfl k) ?_
        show Go p e below W T0 (mkF m 52 #[.val (.long q1), .second, .val (.long q2), .second, .val (.int p3), .val (.long (v0_1 q1 q2 p3)), .second, .val (.long (v0_2 q1 q2 p3)), .second, .unset, .unset, .val (.int (v0_3 q1 q2 p3))] [(.long (v0_2 q1 q2 p3)), (.long (q2 &&& (9223372036854775807 : Int64)))])
        refine Go.of (fun _ k => XS.lconst X0.here hx rfl (hb hby at_52) k) ?_
        show Go p e below W T0 (mkF m 53 #[.val (.long q1), .second, .val (.long q2), .second, .val (.int p3), .val (.long (v0_1 q1 q2 p3)), .second, .val (.long (v0_2 q1 q2 p3)), .second, .unset, .unset, .val (.int (v0_3 q1 q2 p3))] [(.long (1 : Int64)), (.long (v0_2 q1 q2 p3)), (.long (q2 &&& (9223372036854775807 : Int64)))])
        refine Go.of (fun _ k => XS.ladd X0.here hx rfl (hb hby at_53) rfl k) ?_
        show Go p e below W T0 (mkF m 54 #[.val (.long q1), .second, .val (.long q2), .second, .val (.int p3), .val (.long (v0_1 q1 q2 p3)), .second, .val (.long (v0_2 q1 q2 p3)), .second, .unset, .unset, .val (.int (v0_3 q1 q2 p3))] [(.long ((v0_2 q1 q2 p3) + (1 : Int64))), (.long (q2 &&& (9223372036854775807 : Int64)))])
        refine Go.of (fun _ k => XS.lrem X0.here hx rfl (hb hby at_54) rfl (own_nz q1 q2 p3) k) ?_
        show Go p e below W T0 (mkF m 55 #[.val (.long q1), .second, .val (.long q2), .second, .val (.int p3), .val (.long (v0_1 q1 q2 p3)), .second, .val (.long (v0_2 q1 q2 p3)), .second, .unset, .unset, .val (.int (v0_3 q1 q2 p3))] [(.long ((q2 &&& (9223372036854775807 : Int64)) - ((q2 &&& (9223372036854775807 : Int64)) / ((v0_2 q1 q2 p3) + (1 : Int64))) * ((v0_2 q1 q2 p3) + (1 : Int64))))])
        refine Go.of (fun _ k => XS.lstore X0.here hx rfl (hb hby at_55) rfl (l' := #[.val (.long q1), .second, .val (.long q2), .second, .val (.int p3), .val (.long (v0_1 q1 q2 p3)), .second, .val (.long (v0_2 q1 q2 p3)), .second, .val (.long (v0_6 q1 q2 p3)), .second, .val (.int (v0_3 q1 q2 p3))]) rfl k) ?_
        have G7 := G7
        have q_v0_8 : (v0_8 q1 q2 p3) = (v0_6 q1 q2 p3) := by rw [v0_8, if_neg c4, if_neg c5]
        rw [q_v0_8] at G7
        exact G7 _ X0 e0
  intro T7 X7 e7
  show Go p e below W T7 (mkF m 57 #[.val (.long q1), .second, .val (.long q2), .second, .val (.int p3), .val (.long (v0_1 q1 q2 p3)), .second, .val (.long (v0_2 q1 q2 p3)), .second, .val (.long (v0_8 q1 q2 p3)), .second, .val (.int (v0_3 q1 q2 p3))] [])
  refine Go.of (fun _ k => XS.lload X7.here hx rfl (hb hby at_57) rfl k) ?_
  show Go p e below W T7 (mkF m 59 #[.val (.long q1), .second, .val (.long q2), .second, .val (.int p3), .val (.long (v0_1 q1 q2 p3)), .second, .val (.long (v0_2 q1 q2 p3)), .second, .val (.long (v0_8 q1 q2 p3)), .second, .val (.int (v0_3 q1 q2 p3))] [(.long (v0_1 q1 q2 p3))])
  refine Go.of (fun _ k => XS.lload X7.here hx rfl (hb hby at_59) rfl k) ?_
  show Go p e below W T7 (mkF m 61 #[.val (.long q1), .second, .val (.long q2), .second, .val (.int p3), .val (.long (v0_1 q1 q2 p3)), .second, .val (.long (v0_2 q1 q2 p3)), .second, .val (.long (v0_8 q1 q2 p3)), .second, .val (.int (v0_3 q1 q2 p3))] [(.long (v0_8 q1 q2 p3)), (.long (v0_1 q1 q2 p3))])
  refine Go.callP X7 hx hZ hown (hw _ (List.mem_of_getElem? (i := 2) rfl)) (hw _ (List.mem_of_getElem? (i := 3) rfl)) (hw _ (List.mem_of_getElem? (i := 4) rfl)) (hw _ (List.mem_of_getElem? (i := 5) rfl)) (by decide) e7 (rm1 l Z a0 hw [] (v0_1 q1 q2 p3) (v0_8 q1 q2 p3) h0 (own_c3 q1 q2 p3) (own_c13 q1 q2 p3)) (V := 0) (by decide) (by decide) rfl rfl (by decide) (by decide) (by rw [hml]; rfl) (argsL := [(.long (v0_1 q1 q2 p3)), (.long (v0_8 q1 q2 p3))]) (rest := []) rfl (lenOf pd__JJ_J rfl) rfl (Nat.le_of_ble_eq_true rfl) (hb hby at_61) ?_
  intro T9 X9 e9
  show Go p e below W T9 (mkF m 64 #[.val (.long q1), .second, .val (.long q2), .second, .val (.int p3), .val (.long (v0_1 q1 q2 p3)), .second, .val (.long (v0_2 q1 q2 p3)), .second, .val (.long (v0_8 q1 q2 p3)), .second, .val (.int (v0_3 q1 q2 p3))] [(.long (f1 (v0_1 q1 q2 p3) (v0_8 q1 q2 p3)))])
  refine Go.of (fun _ k => XS.lload X9.here hx rfl (hb hby at_64) rfl k) ?_
  show Go p e below W T9 (mkF m 66 #[.val (.long q1), .second, .val (.long q2), .second, .val (.int p3), .val (.long (v0_1 q1 q2 p3)), .second, .val (.long (v0_2 q1 q2 p3)), .second, .val (.long (v0_8 q1 q2 p3)), .second, .val (.int (v0_3 q1 q2 p3))] [(.long (v0_8 q1 q2 p3)), (.long (f1 (v0_1 q1 q2 p3) (v0_8 q1 q2 p3)))])
  refine Go.of (fun _ k => XS.lcmp X9.here hx rfl (hb hby at_66) rfl k) ?_
  show Go p e below W T9 (mkF m 67 #[.val (.long q1), .second, .val (.long q2), .second, .val (.int p3), .val (.long (v0_1 q1 q2 p3)), .second, .val (.long (v0_2 q1 q2 p3)), .second, .val (.long (v0_8 q1 q2 p3)), .second, .val (.int (v0_3 q1 q2 p3))] [(.int (Jvm.Free.XT.cmpL (f1 (v0_1 q1 q2 p3) (v0_8 q1 q2 p3)) (v0_8 q1 q2 p3)))])
  by_cases c10 : (f1 (v0_1 q1 q2 p3) (v0_8 q1 q2 p3)) = (v0_8 q1 q2 p3)
  · refine Go.of (fun _ k => XS.ifNo X9.here hx rfl (hb hby at_67) rfl (Jvm.Free.XT.ll_ne_f c10) k) ?_
    show Go p e below W T9 (mkF m 70 #[.val (.long q1), .second, .val (.long q2), .second, .val (.int p3), .val (.long (v0_1 q1 q2 p3)), .second, .val (.long (v0_2 q1 q2 p3)), .second, .val (.long (v0_8 q1 q2 p3)), .second, .val (.int (v0_3 q1 q2 p3))] [])
    refine Go.of (fun _ k => XS.iconst X9.here hx rfl (hb hby at_70) k) ?_
    show Go p e below W T9 (mkF m 71 #[.val (.long q1), .second, .val (.long q2), .second, .val (.int p3), .val (.long (v0_1 q1 q2 p3)), .second, .val (.long (v0_2 q1 q2 p3)), .second, .val (.long (v0_8 q1 q2 p3)), .second, .val (.int (v0_3 q1 q2 p3))] [(.int (1 : Int32))])
    refine Go.of (fun _ k => XS.goto X9.here hx rfl (pc0 := 71) (pc' := 75) rfl (hb hby at_71) (by decide) (by decide) k) ?_
    show Go p e below W T9 (mkF m 75 #[.val (.long q1), .second, .val (.long q2), .second, .val (.int p3), .val (.long (v0_1 q1 q2 p3)), .second, .val (.long (v0_2 q1 q2 p3)), .second, .val (.long (v0_8 q1 q2 p3)), .second, .val (.int (v0_3 q1 q2 p3))] [(.int (1 : Int32))])
    have q : (f0 q1 q2 p3) = (1 : Int32) := by rw [f0, if_pos c10]
    exact Go.retN X9 hx hret (Or.inl rfl) (hb hby at_75) hlk (Eq.trans rfl q.symm) (fun t ht fe => hW t _ _ _ _ ⟨rfl, rfl, ht.trans e9⟩ fe (by decide) (by decide))
  · refine Go.of (fun _ k => XS.ifYes X9.here hx rfl (pc0 := 67) (pc' := 74) rfl (hb hby at_67) rfl (Jvm.Free.XT.ll_ne_t c10) (by decide) (by decide) k) ?_
    show Go p e below W T9 (mkF m 74 #[.val (.long q1), .second, .val (.long q2), .second, .val (.int p3), .val (.long (v0_1 q1 q2 p3)), .second, .val (.long (v0_2 q1 q2 p3)), .second, .val (.long (v0_8 q1 q2 p3)), .second, .val (.int (v0_3 q1 q2 p3))] [])
    refine Go.of (fun _ k => XS.iconst X9.here hx rfl (hb hby at_74) k) ?_
    show Go p e below W T9 (mkF m 75 #[.val (.long q1), .second, .val (.long q2), .second, .val (.int p3), .val (.long (v0_1 q1 q2 p3)), .second, .val (.long (v0_2 q1 q2 p3)), .second, .val (.long (v0_8 q1 q2 p3)), .second, .val (.int (v0_3 q1 q2 p3))] [(.int (0 : Int32))])
    have q : (f0 q1 q2 p3) = (0 : Int32) := by rw [f0, if_neg c10]
    exact Go.retN X9 hx hret (Or.inl rfl) (hb hby at_75) hlk (Eq.trans rfl q.symm) (fun t ht fe => hW t _ _ _ _ ⟨rfl, rfl, ht.trans e9⟩ fe (by decide) (by decide))
set_option maxRecDepth 65536 in
set_option maxHeartbeats 40000000 in
theorem comes_1 {Post : Tables → Env → Array Value → State → Outcome → State → Prop} (hpost : ∀ tb e args s v u, (limb_1_1.after args s (.returned v) u = true ∧ limb_1_2.after args s (.returned v) u = true ∧ True) → FrameEnd s (.returned v) u (Jvm.fieldLocs frame_1_writes args s ++ Jvm.arrayLocs frame_1_arrays args s ++ Jvm.staticLocs frame_1_statics s) 0 0 → Post tb e args s (.returned v) u) :
    ArmFor flags0 classFile x code maxLocals ret World_1 tables_1 room_1 Calls_1 rest_1 Pre_1 Post := by
  intro l hfl _ _ p e ha hc hk s m args below hf hA hF happ hP
  obtain ⟨hcalls, hrest, hpre⟩ := hP
  obtain ⟨-, -, -, hnamed, -, -, -, hat⟩ := (Spec.applies_iff hf).mp happ
  obtain ⟨hg, hn⟩ := and_e (Cond.before_iff.mp (show (Jvm.Cond.and given_1 narrow_1).before args s = true from hpre))
  obtain ⟨g0, y0⟩ := and_e hg
  obtain ⟨x0, y1⟩ := and_e y0
  obtain ⟨x1, y2⟩ := and_e y1
  obtain ⟨w0, w1, w2, rfl⟩ : ∃ w0 w1 w2 : Value, args = #[w0, w1, w2] := by
    have hs : args.size = 3 := by simpa [Cond.value, given_1] using g0
    obtain ⟨L⟩ := args
    match L, hs with
    | [w0, w1, w2], _ => exact ⟨w0, w1, w2, rfl⟩
  have hw := fun d (hd : d ∈ tables_1) => atoms_spec (ws := Jvm.Cond.code x code maxLocals ret :: tables_1) hat d (List.mem_cons_of_mem _ hd)
  obtain ⟨i0, ei0⟩ := isL_v x0
  obtain rfl : w0 = (.long i0) := Option.some.inj ei0
  obtain ⟨i1, ei1⟩ := isL_v x1
  obtain rfl : w1 = (.long i1) := Option.some.inj ei1
  obtain ⟨i2, ei2⟩ := is_v y2
  obtain rfl : w2 = (.int i2) := Option.some.inj ei2
  obtain ⟨n, o, h1, h2, h3, _, L, rfl, ⟨rfl, rfl, -⟩, hq⟩ := rm0 l s _ hw tables_1 i0 i1 i2 s.heap p e ha hc hk s m _ below hf ((Spec.applies_iff_loose hf).mp happ).1 ⟨rfl, State.Warmed39.refl s, rfl⟩ trivial
  rw [own_law i0 i1 i2] at h3 hq
  refine ⟨n, _, h1, h2, h3, hpost _ _ _ _ _ _ ⟨Cond.after_iff.mpr rfl, Cond.after_iff.mpr (eq_i res_at (Term.int_eval (1)) rfl), trivial⟩ ⟨hq.1, hq.2.1, (hq.2.2.sift fun y hy => nomatch hy).mono (by decide) (by decide)⟩⟩
theorem main_1_1 : Claimed_1_1 := comes_1 fun _ _ _ _ _ _ h hF => ⟨h.1, hF⟩
theorem main_1_2 : Claimed_1_2 := comes_1 fun _ _ _ _ _ _ h hF => ⟨h.2.1, hF⟩
end Jvm.Pilot.@@N@@
namespace Jvm.Pilot.@@N@@
open Jvm Jvm.ClassFile Sem Op Lib Jvm.Free Jvm.Stand Jvm.Pilot.@@N@@.Jvm.D
/-! MADE BY PROGRAM (witnessworld.py) out of the Statement's table words and the real class files: 7 classes; the members and pool entries that the words name. The judged class is class 1, her method 1. -/
namespace start1
open Jvm.ClassFile
def u (s : String) : CpInfo := .utf8 (stringToUtf16 s)
/-- a pool by its gaps: so many unusable entries, then the entry; so many at the end -/
def gap : Nat → List CpInfo → List CpInfo
  | 0, r => r
  | n + 1, r => .unusable :: gap n r
def poolList (es : List (Nat × CpInfo)) (last : Nat) : List CpInfo := es.foldr (fun e r => gap e.1 (e.2 :: r)) (gap last [])
def pool (es : List (Nat × CpInfo)) (last : Nat) : Array CpInfo := ⟨poolList es last⟩
def fileOf (pool : Array CpInfo) (this : Nat) (attrs : Array Attribute := #[]) (ms : Array MethodInfo := #[]) (fl : Nat := 33) (sup : Nat := 0) (ifs : Array Nat := #[]) (fds : Array FieldInfo := #[]) : ClassFile where
  minorVersion := 0
  majorVersion := 65
  constantPool := pool
  accessFlags := fl
  thisClass := this
  superClass := sup
  interfaces := ifs
  fields := fds
  methods := ms
  attributes := attrs
def plain (name : String) (sup : Option ClassId) : Class where
  name := name
  kind := .ordinary
  loader := none
  accessFlags := 33
  super := sup
  interfaces := #[]
  cf := none
  fields := #[]
  methods := #[]
  instanceTypes := #[]
  staticTypes := #[]
  resolved := #[]
  callSites := []
  init := .initialized
  statics := none
  mirror := none

def pool0 : Array CpInfo := pool [(5, u "<init>"), (0, u "()V"), (1, .class_ 10), (1, u "java/lang/Object")] 113

def k0m0 : Method := { name := "<init>", desc := "()V", sig := { parameters := [], returnType := none }, accessFlags := 1, code := none }
/-- java/lang/Object -/
def k0 : Class := { plain "java/lang/Object" none with
  accessFlags := 33
  interfaces := #[]
  cf := some (fileOf pool0 8 #[] #[{ accessFlags := 1, nameIndex := 5, descriptorIndex := 6, attributes := #[] }] 33 0 #[] #[])
  fields := #[]
  methods := #[k0m0]
  instanceTypes := #[]
  staticTypes := #[]
  resolved := Array.replicate 124 none
  statics := none }

def pool1 : Array CpInfo := pool [(2, .class_ 4), (1, u "java/lang/Object"), (0, u "<init>"), (0, u "()V"), (2, .long 9223372036854775807), (1, .long 2), (1, .methodref 14 15), (0, .class_ 16), (0, .nameAndType 17 18), (0, u "com/example/elect/elect/election/Election"), (0, u "checkStop"), (0, u "(JJ)J"), (0, .class_ 20), (0, u "com/example/elect/elect/election/ElectionCheckStopPinLaw"), (2, u "law"), (0, u "(JJI)Z")] 3

def k1m0 : Method := { name := "<init>", desc := "()V", sig := { parameters := [], returnType := none }, accessFlags := 2, code := none }
def k1c1 : Code := { maxStack := 6, maxLocals := 12, code := code, exceptionTable := #[], attributes := #[] }
def k1m1 : Method := { name := "law", desc := "(JJI)Z", sig := { parameters := [.long, .long, .int], returnType := some .boolean }, accessFlags := 9, code := some k1c1 }
/-- com/example/elect/elect/election/ElectionCheckStopPinLaw -/
def k1 : Class := { plain "com/example/elect/elect/election/ElectionCheckStopPinLaw" (some 0) with
  accessFlags := 49
  interfaces := #[]
  cf := some (fileOf pool1 19 #[] #[{ accessFlags := 2, nameIndex := 5, descriptorIndex := 6, attributes := #[] }, { accessFlags := 9, nameIndex := 23, descriptorIndex := 24, attributes := #[] }] 49 2 #[] #[])
  fields := #[]
  methods := #[k1m0, k1m1]
  instanceTypes := #[]
  staticTypes := #[]
  resolved := Array.replicate 28 none
  statics := none }

def pool2 : Array CpInfo := pool [(2, .class_ 4), (1, u "com/example/elect/elect/election/Election"), (3, .class_ 10), (1, u "java/lang/Object"), (6, u "Lcom/example/elect/elect/election/View;"), (2, u "view"), (2, u "promisedTo"), (0, u "I"), (6, u "promisedUntil"), (0, u "J"), (2, u "promisedTermTo"), (2, u "leaderKnownUntil"), (5, u "liveUntil"), (0, u "Ljava/util/Map;"), (1, .class_ 49), (1, u "com/example/elect/elect/election/Election$Role"), (1, u "Lcom/example/elect/elect/election/Election$Role;"), (2, u "role"), (2, u "grants"), (1, u "members"), (10, u "Lcom/example/elect/elect/group/MemberList;"), (12, u "self"), (6, u "lease"), (1, u "outbox"), (4, u "Lcom/example/elect/elect/election/Outbox;"), (1, u "views"), (4, u "Ljava/util/function/Consumer;"), (6, u "checkStop"), (0, u "(JJ)J"), (2, u "leaderLease"), (24, u "standDelay"), (5, u "place"), (11, .long 2), (6, u "started"), (0, u "Z"), (8, u "startedAt"), (9, u "leaseEnd"), (71, u "nextAsk"), (2, u "outbid"), (5, u "ownTerm"), (22, u "highestTerm"), (19, u "promisedTerm"), (103, u "DEFAULT_LEASE_MS"), (3, u "MIN_LEASE_MS"), (0, u "MAX_LEASE_MS"), (0, u "LEADER_LEASE_PERCENT"), (0, u "ASKS_PER_LEASE"), (0, u "STAND_STEPS_PER_LEASE")] 55

def k2c0 : Code := { maxStack := 8, maxLocals := 4, code := prog_3_method_4_code, exceptionTable := #[], attributes := #[] }
def k2m0 : Method := { name := "checkStop", desc := "(JJ)J", sig := { parameters := [.long, .long], returnType := some .long }, accessFlags := 9, code := some k2c0 }
/-- com/example/elect/elect/election/Election -/
def k2 : Class := { plain "com/example/elect/elect/election/Election" (some 0) with
  accessFlags := 49
  interfaces := #[]
  cf := some (fileOf pool2 2 #[.nestMembers #[47]] #[{ accessFlags := 9, nameIndex := 111, descriptorIndex := 112, attributes := #[] }] 49 8 #[] #[{ accessFlags := 25, nameIndex := 413, descriptorIndex := 32, attributes := #[] }, { accessFlags := 25, nameIndex := 417, descriptorIndex := 32, attributes := #[] }, { accessFlags := 25, nameIndex := 418, descriptorIndex := 32, attributes := #[] }, { accessFlags := 26, nameIndex := 419, descriptorIndex := 32, attributes := #[] }, { accessFlags := 26, nameIndex := 420, descriptorIndex := 32, attributes := #[] }, { accessFlags := 26, nameIndex := 421, descriptorIndex := 32, attributes := #[] }, { accessFlags := 18, nameIndex := 59, descriptorIndex := 70, attributes := #[] }, { accessFlags := 18, nameIndex := 83, descriptorIndex := 24, attributes := #[] }, { accessFlags := 18, nameIndex := 90, descriptorIndex := 32, attributes := #[] }, { accessFlags := 18, nameIndex := 115, descriptorIndex := 32, attributes := #[] }, { accessFlags := 18, nameIndex := 140, descriptorIndex := 32, attributes := #[] }, { accessFlags := 18, nameIndex := 146, descriptorIndex := 32, attributes := #[] }, { accessFlags := 18, nameIndex := 92, descriptorIndex := 97, attributes := #[] }, { accessFlags := 18, nameIndex := 99, descriptorIndex := 104, attributes := #[] }, { accessFlags := 2, nameIndex := 165, descriptorIndex := 166, attributes := #[] }, { accessFlags := 2, nameIndex := 175, descriptorIndex := 32, attributes := #[] }, { accessFlags := 2, nameIndex := 20, descriptorIndex := 17, attributes := #[] }, { accessFlags := 2, nameIndex := 289, descriptorIndex := 32, attributes := #[] }, { accessFlags := 2, nameIndex := 23, descriptorIndex := 24, attributes := #[] }, { accessFlags := 2, nameIndex := 31, descriptorIndex := 32, attributes := #[] }, { accessFlags := 2, nameIndex := 309, descriptorIndex := 32, attributes := #[] }, { accessFlags := 2, nameIndex := 35, descriptorIndex := 24, attributes := #[] }, { accessFlags := 2, nameIndex := 38, descriptorIndex := 32, attributes := #[] }, { accessFlags := 18, nameIndex := 44, descriptorIndex := 45, attributes := #[] }, { accessFlags := 2, nameIndex := 54, descriptorIndex := 51, attributes := #[] }, { accessFlags := 2, nameIndex := 266, descriptorIndex := 32, attributes := #[] }, { accessFlags := 2, nameIndex := 260, descriptorIndex := 166, attributes := #[] }, { accessFlags := 18, nameIndex := 57, descriptorIndex := 45, attributes := #[] }, { accessFlags := 2, nameIndex := 257, descriptorIndex := 32, attributes := #[] }, { accessFlags := 2, nameIndex := 185, descriptorIndex := 32, attributes := #[] }])
  fields := #[{ name := "DEFAULT_LEASE_MS", type := .long, accessFlags := 25, slot := 0, constantValue := 0 }, { name := "MIN_LEASE_MS", type := .long, accessFlags := 25, slot := 1, constantValue := 0 }, { name := "MAX_LEASE_MS", type := .long, accessFlags := 25, slot := 2, constantValue := 0 }, { name := "LEADER_LEASE_PERCENT", type := .long, accessFlags := 26, slot := 3, constantValue := 0 }, { name := "ASKS_PER_LEASE", type := .long, accessFlags := 26, slot := 4, constantValue := 0 }, { name := "STAND_STEPS_PER_LEASE", type := .long, accessFlags := 26, slot := 5, constantValue := 0 }, { name := "members", type := (.object "com/example/elect/elect/group/MemberList"), accessFlags := 18, slot := 0, constantValue := 0 }, { name := "self", type := .int, accessFlags := 18, slot := 1, constantValue := 0 }, { name := "lease", type := .long, accessFlags := 18, slot := 2, constantValue := 0 }, { name := "leaderLease", type := .long, accessFlags := 18, slot := 3, constantValue := 0 }, { name := "standDelay", type := .long, accessFlags := 18, slot := 4, constantValue := 0 }, { name := "place", type := .long, accessFlags := 18, slot := 5, constantValue := 0 }, { name := "outbox", type := (.object "com/example/elect/elect/election/Outbox"), accessFlags := 18, slot := 6, constantValue := 0 }, { name := "views", type := (.object "java/util/function/Consumer"), accessFlags := 18, slot := 7, constantValue := 0 }, { name := "started", type := .boolean, accessFlags := 2, slot := 8, constantValue := 0 }, { name := "startedAt", type := .long, accessFlags := 2, slot := 9, constantValue := 0 }, { name := "view", type := (.object "com/example/elect/elect/election/View"), accessFlags := 2, slot := 10, constantValue := 0 }, { name := "highestTerm", type := .long, accessFlags := 2, slot := 11, constantValue := 0 }, { name := "promisedTo", type := .int, accessFlags := 2, slot := 12, constantValue := 0 }, { name := "promisedUntil", type := .long, accessFlags := 2, slot := 13, constantValue := 0 }, { name := "promisedTerm", type := .long, accessFlags := 2, slot := 14, constantValue := 0 }, { name := "promisedTermTo", type := .int, accessFlags := 2, slot := 15, constantValue := 0 }, { name := "leaderKnownUntil", type := .long, accessFlags := 2, slot := 16, constantValue := 0 }, { name := "liveUntil", type := (.object "java/util/Map"), accessFlags := 18, slot := 17, constantValue := 0 }, { name := "role", type := (.object "com/example/elect/elect/election/Election$Role"), accessFlags := 2, slot := 18, constantValue := 0 }, { name := "ownTerm", type := .long, accessFlags := 2, slot := 19, constantValue := 0 }, { name := "outbid", type := .boolean, accessFlags := 2, slot := 20, constantValue := 0 }, { name := "grants", type := (.object "java/util/Map"), accessFlags := 18, slot := 21, constantValue := 0 }, { name := "nextAsk", type := .long, accessFlags := 2, slot := 22, constantValue := 0 }, { name := "leaseEnd", type := .long, accessFlags := 2, slot := 23, constantValue := 0 }]
  methods := #[k2m0]
  instanceTypes := #[(.object "com/example/elect/elect/group/MemberList"), .int, .long, .long, .long, .long, (.object "com/example/elect/elect/election/Outbox"), (.object "java/util/function/Consumer"), .boolean, .long, (.object "com/example/elect/elect/election/View"), .long, .int, .long, .long, .int, .long, (.object "java/util/Map"), (.object "com/example/elect/elect/election/Election$Role"), .long, .boolean, (.object "java/util/Map"), .long, .long]
  staticTypes := #[.long, .long, .long, .long, .long, .long]
  resolved := Array.replicate 477 none
  statics := none }

def pool3 : Array CpInfo := pool [(1, u "java/lang/Cloneable"), (0, .class_ 1), (0, u "java/lang/Object"), (0, .class_ 3)] 3

/-- java/lang/Cloneable -/
def k3 : Class := { plain "java/lang/Cloneable" (some 0) with
  accessFlags := 1537
  interfaces := #[]
  cf := some (fileOf pool3 2 #[] #[] 1537 4 #[] #[])
  fields := #[]
  methods := #[]
  instanceTypes := #[]
  staticTypes := #[]
  resolved := Array.replicate 8 none
  statics := none }

def pool4 : Array CpInfo := pool [(1, u "java/io/Serializable"), (0, .class_ 1), (0, u "java/lang/Object"), (0, .class_ 3)] 3

/-- java/io/Serializable -/
def k4 : Class := { plain "java/io/Serializable" (some 0) with
  accessFlags := 1537
  interfaces := #[]
  cf := some (fileOf pool4 2 #[] #[] 1537 4 #[] #[])
  fields := #[]
  methods := #[]
  instanceTypes := #[]
  staticTypes := #[]
  resolved := Array.replicate 8 none
  statics := none }

/-- the primitive byte -/
def k5 : Class := { plain "byte" none with kind := .primitive 'B', accessFlags := 0x411 }
/-- [B -/
def k6 : Class := { plain "[B" (some 0) with kind := .array 5 .byte, interfaces := #[3, 4], accessFlags := 1041 }

def heap : Heap := #[]
def classes : Array Class := #[k0, k1, k2, k3, k4, k5, k6]
def interned : List (Array UInt16 × Addr) := []
def slotsUsed : Nat := 0
def theMethod : MethodId := ⟨1, 1⟩
def args0 : Array Value := #[.long 5, .long 7, .int 2]
def aboutOver (below : List Frame) : State where
  vm := { classes := classes, interned := interned.toArray }
  heap := heap
  slotsUsed := slotsUsed
  threads := #[{ frames := .invoking theMethod args0 :: below }]
def below0 : List Frame := [.native { method := ⟨0, 0⟩, args := #[] }]
def about1 : State := aboutOver below0
def p0 : Program := .bare "" "" ""
def e0 : Env := launch0.env 0 0 0
theorem w_frames : about1.frames = Frame.invoking theMethod args0 :: below0 := rfl
set_option maxRecDepth 65536 in
theorem w_args : argsFit about1.vm theMethod args0 = true := by decide +kernel
set_option maxRecDepth 65536 in
theorem w_heap : heapFits about1 = true := by decide +kernel
set_option maxRecDepth 65536 in
theorem w_runnable : about1.curStatus? = some .runnable := by decide +kernel
set_option maxRecDepth 65536 in
theorem w_alone : about1.alone = true := by decide +kernel
set_option maxRecDepth 65536 in
theorem w_named : about1.methodNamed? x = some theMethod := by decide +kernel
set_option maxRecDepth 65536 in
theorem w_hears : about1.hears theMethod below0 = true := by decide +kernel
set_option maxRecDepth 65536 in
theorem w_ripe : about1.ripe theMethod args0 below0 = true := by decide +kernel
theorem w_running : about1.status = .running := rfl
set_option maxRecDepth 65536 in
theorem w_room : about1.hasRoom e0.platform room_1 = true :=
  launch0.hasRoom_least _ room_1 (by decide +kernel) (by decide +kernel) (by decide +kernel) (by decide +kernel) (by decide +kernel) (by decide +kernel)
theorem allAtoms_all (ts : List Jvm.Cond) (a : Array Jvm.Value) (st : Jvm.State) : (allAtoms ts).before a st = ts.all (fun c => c.before a st) := by
  induction ts with
  | nil => rfl
  | cons c t ih =>
    show (Jvm.Cond.and c (allAtoms t)).before a st = _
    rw [Jvm.Cond.before_and, ih, List.all_cons]
def words1 : List Jvm.Cond := Jvm.Cond.code x code maxLocals ret :: tables_1
/-- a 'code' word, met by the world's own term for the bytes: nothing is compared byte by byte -/
theorem code_word {y : MethodName} {bytes : ByteArray} {mx : Nat} {rt : Option FieldType} {a : Array Value} {s : State} {m : MethodId} {meth : Method} {c : Code} (h1 : s.methodNamed? y = some m) (h2 : s.vm.method? m = some meth) (h3 : meth.code = some c) (h4 : c.code = bytes)
    (h5 : (c.maxLocals == mx && c.exceptionTable.isEmpty && decide (c.maxStack ≤ mostOperands) && decide (meth.sig.returnType = rt) && !meth.locks && decide (parseMethodDescriptor y.desc = some meth.sig)) = true) : (Jvm.Cond.code y bytes mx rt).before a s = true := by
  simp only [Bool.and_eq_true, beq_iff_eq, Bool.not_eq_true', decide_eq_true_eq] at h5
  obtain ⟨⟨⟨⟨⟨g1, g2⟩, g3⟩, g4⟩, g5⟩, g6⟩ := h5
  simp [Cond.before, Cond.holds, Cond.value, h1, h2, h3, h4, g1, g2, g3, g4, g5, g6]
def isCode : Jvm.Cond → Bool
  | .code _ _ _ _ => true
  | _ => false
theorem all_split {L : List Jvm.Cond} {P : Jvm.Cond → Bool} (h1 : L.all (fun c => isCode c || P c) = true) (h2 : ∀ c ∈ L.filter isCode, P c = true) : L.all P = true := by
  refine List.all_eq_true.mpr fun c hc => ?_
  have h := List.all_eq_true.mp h1 c hc
  rcases Bool.eq_false_or_eq_true (isCode c) with hi | hi
  · exact h2 c (List.mem_filter.mpr ⟨hc, hi⟩)
  · simpa [hi] using h
set_option maxRecDepth 65536 in
theorem w_c0 : (Jvm.Cond.code x code maxLocals ret).before args0 about1 = true := code_word (m := ⟨1, 1⟩) (meth := k1m1) (c := k1c1) (by decide +kernel) rfl rfl rfl (by decide +kernel)
set_option maxRecDepth 65536 in
theorem w_c1 : (Jvm.Cond.code ({ cls := "com/example/elect/elect/election/Election", name := "checkStop", desc := "(JJ)J" } : Jvm.MethodName) prog_3_method_4_code (4 : Nat) (Option.some Jvm.ClassFile.FieldType.long)).before args0 about1 = true := code_word (m := ⟨2, 0⟩) (meth := k2m0) (c := k2c0) (by decide +kernel) rfl rfl rfl (by decide +kernel)
def codes1 : List Jvm.Cond := [Jvm.Cond.code x code maxLocals ret, Jvm.Cond.code ({ cls := "com/example/elect/elect/election/Election", name := "checkStop", desc := "(JJ)J" } : Jvm.MethodName) prog_3_method_4_code (4 : Nat) (Option.some Jvm.ClassFile.FieldType.long)]
set_option maxRecDepth 65536 in
theorem codes_eq : words1.filter isCode = codes1 := rfl
theorem w_codes : ∀ c ∈ words1.filter isCode, c.before args0 about1 = true := by
  rw [codes_eq]
  intro c hc
  simp only [codes1, List.mem_cons, List.not_mem_nil, or_false] at hc
  rcases hc with rfl | rfl
  · exact w_c0
  · exact w_c1
set_option maxRecDepth 65536 in
theorem w_t1 : words1.all (fun c => isCode c || c.before args0 about1) = true := by decide +kernel
theorem w_tables : (allAtoms (Jvm.Cond.code x code maxLocals ret :: tables_1)).before args0 about1 = true := by
  rw [allAtoms_all]
  show words1.all (fun c => c.before args0 about1) = true
  refine all_split ?_ w_codes
  rw [w_t1]
set_option maxRecDepth 65536 in
theorem w_case : (Jvm.Cond.and given_1 narrow_1).before args0 about1 = true := by decide +kernel
theorem w_applies : (headSpec (Jvm.Cond.code x code maxLocals ret :: tables_1) room_1).applies x e0.platform about1 = true :=
  (Spec.applies_iff w_frames).mpr ⟨w_running, w_runnable, w_alone, w_named, w_hears, w_ripe, w_room, w_tables⟩
theorem atStart : AtStart classFile x code maxLocals ret World_1 tables_1 room_1 Calls_1 rest_1 Pre_1 launch0 p0 e0 about1 theMethod args0 below0 :=
  ⟨lists_1, trivial, launch0.admits_env _ _ _, launch0.least_env, fairChoices_fair.cas, fairChoices_fair.clock, w_frames, w_args, w_heap, w_applies, trivial, trivial, w_case⟩
end start1
theorem witness_1 : WitnessClaimed_1 := ⟨start1.p0, start1.e0, start1.about1, start1.theMethod, start1.args0, start1.below0, start1.atStart⟩
end Jvm.Pilot.@@N@@
