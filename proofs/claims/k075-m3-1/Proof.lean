import JvmDerived
import JvmDerived.Pilot.@@N@@Statement
import JvmDerived.Pilot.@@N@@Code
set_option linter.unusedVariables false
set_option linter.unusedSimpArgs false
namespace Jvm.Pilot.@@N@@
open Jvm Jvm.ClassFile Sem Op Lib Jvm.Free Jvm.Stand Jvm.LawKit Jvm.RoadKit Bundle Jvm.Pilot.@@N@@.Jvm.D
section OwnKit
variable {p : Program} {l : Launch} {e : Env} {R : Room} {s : State} {m : MethodId} {args : Array Value} {below : List Frame} {meth : Method} {c : Code} {T : State} {locs : List Loc} {cells slots : Nat} {Z : State} {a0 : Array Value} {h : Heap} {W : State → Outcome → Prop}
/-- what a walk owes from a frame on -/
def Go (p : Program) (e : Env) (below : List Frame) (W : State → Outcome → Prop) (T : State) (g : JFrame) : Prop := ∃ t o, Steps p.tables e below (T.setTop g) t ∧ t.status = .running ∧ Ended t below o ∧ W t o
theorem Go.of {T T' : State} {g g' : JFrame} (q : ∀ t, Steps p.tables e below (T'.setTop g') t → Steps p.tables e below (T.setTop g) t) (k : Go p e below W T' g') : Go p e below W T g := by
  obtain ⟨t, o, h1, h2⟩ := k
  exact ⟨t, o, q t h1, h2⟩
theorem Go.ret (X : Stand p l e R s m args below meth c T locs cells slots) {g : JFrame} {v : Option Value} (hv : meth.sig.returnType = none → v = none) (hk : meth.locks = false)
    (st : ∀ fs, (∀ (f : JFrame) (acts : List Action), f.method = m → f.locked = none → f.entered = [] → (doReturn e (T.setTop f) acts v).1 = T.setFrames fs) → Steps p.tables e below (T.setTop g) (T.setFrames fs))
    (hq : ∀ t : State, t.heap = T.heap → FrameEnd s (.returned v) t locs cells slots → W t (.returned v)) : Go p e below W T g := by
  obtain ⟨fs, hr, hrun, hended, hW, hsame⟩ := X.leave (v := v) hv hk
  exact ⟨_, _, st fs hr, hrun, hended, hq _ rfl ⟨⟨_, rfl⟩, hW, hsame⟩⟩
/-- ireturn of a boolean, byte, char, short -/
theorem Go.retN (X : Stand p l e R s m args below meth c T locs cells slots) (hx : p.tables.exec = Jvm.exec) {pc : Nat} {Ls : Array Slot} {z w : Int32} {t : FieldType} {rest : List Value} (hret : meth.sig.returnType = some t) (ht : t = .boolean ∨ t = .byte ∨ t = .char ∨ t = .short) (hd : decode c.code pc = .ok (.ireturn, 1)) (hk : meth.locks = false) (hn : nar t z = w)
    (hq : ∀ t : State, t.heap = T.heap → FrameEnd s (.returned (some (.int w))) t locs cells slots → W t (.returned (some (.int w)))) : Go p e below W T (mkF m pc Ls (.int z :: rest)) := by
  subst hn
  exact Go.ret X (fun q => by rw [hret] at q; cases q) hk (fun fs hr => Jvm.RoadKit.retN X hx hret ht hd hr) hq
theorem Go.retI (X : Stand p l e R s m args below meth c T locs cells slots) (hx : p.tables.exec = Jvm.exec) {pc : Nat} {Ls : Array Slot} {z w : Int32} {rest : List Value} (hret : meth.sig.returnType = some .int) (hd : decode c.code pc = .ok (.ireturn, 1)) (hk : meth.locks = false) (hn : z = w)
    (hq : ∀ t : State, t.heap = T.heap → FrameEnd s (.returned (some (.int w))) t locs cells slots → W t (.returned (some (.int w)))) : Go p e below W T (mkF m pc Ls (.int z :: rest)) := by
  subst hn
  exact Go.ret X (fun q => by rw [hret] at q; cases q) hk (fun fs hr => retOut X hx hret rfl (Or.inl ⟨rfl, Or.inl rfl, z, rfl⟩) hd hr) hq
theorem Go.retJ (X : Stand p l e R s m args below meth c T locs cells slots) (hx : p.tables.exec = Jvm.exec) {pc : Nat} {Ls : Array Slot} {z w : Int64} {rest : List Value} (hret : meth.sig.returnType = some .long) (hd : decode c.code pc = .ok (.lreturn, 1)) (hk : meth.locks = false) (hn : z = w)
    (hq : ∀ t : State, t.heap = T.heap → FrameEnd s (.returned (some (.long w))) t locs cells slots → W t (.returned (some (.long w)))) : Go p e below W T (mkF m pc Ls (.long z :: rest)) := by
  subst hn
  exact Go.ret X (fun q => by rw [hret] at q; cases q) hk (fun fs hr => retOut X hx hret rfl (Or.inr (Or.inl ⟨rfl, rfl, z, rfl⟩)) hd hr) hq
theorem Go.retA (X : Stand p l e R s m args below meth c T locs cells slots) (hx : p.tables.exec = Jvm.exec) {pc : Nat} {Ls : Array Slot} {t : FieldType} {a : Addr} {rest : List Value} (hret : meth.sig.returnType = some t) (ht : t.isReference = true) (hnr : narrow t (.ref a) = .ref a) (hd : decode c.code pc = .ok (.areturn, 1)) (hk : meth.locks = false)
    (hq : ∀ t : State, t.heap = T.heap → FrameEnd s (.returned (some (.ref a))) t locs cells slots → W t (.returned (some (.ref a)))) : Go p e below W T (mkF m pc Ls (.ref a :: rest)) :=
  Go.ret X (fun q => by rw [hret] at q; cases q) hk (fun fs hr => retOut X hx hret hnr (Or.inr (Or.inr (Or.inr (Or.inr ⟨rfl, ht, rfl⟩)))) hd hr) hq
theorem Go.retV (X : Stand p l e R s m args below meth c T locs cells slots) (hx : p.tables.exec = Jvm.exec) {pc : Nat} {Ls : Array Slot} (hret : meth.sig.returnType = none) (hd : decode c.code pc = .ok (.return_, 1)) (hk : meth.locks = false)
    (hq : ∀ t : State, t.heap = T.heap → FrameEnd s (.returned none) t locs cells slots → W t (.returned none)) : Go p e below W T (mkF m pc Ls []) :=
  Go.ret X (fun _ => rfl) hk (fun fs hr => X.returnOut hx hret hd hr) hq
/-- a body's contract out of its walk -/
theorem own_body {y : MethodName} {bytes : ByteArray} {maxL : Nat} {ret : Option FieldType} {ws : List Jvm.Cond} {rm : Room} {as' : Array Value} {Q : Option Value → Heap → List Loc → Prop} {Ls : Array Slot} (hpn : plainFor y = true) (hef : ∀ m, entryFrame m as' maxL = mkF m 0 Ls [])
    (walk : ∀ (p : Program) (e : Env) (s : State) (m : MethodId) (below : List Frame) (meth : Method) (c : Code) (T : State) (W : State → Outcome → Prop), Stand p l e rm s m as' below meth c T [] 0 0 → p.tables.exec = Jvm.exec → c.code = bytes → c.maxLocals = maxL → meth.sig.returnType = ret → meth.locks = false → s.vm.findClass y.cls = some m.cls → meth.name = y.name → Z.Warmed39 s.vm → T.heap = h →
      (∀ (t : State) v L cells slots, Q v t.heap L → FrameEnd s (.returned v) t L cells slots → cells ≤ rm.cells → slots ≤ rm.slots → W t (.returned v)) → Go p e below W T (mkF m 0 Ls [])) :
    MetFree l y (head1 (Jvm.Cond.code y bytes maxL ret :: ws) rm) (fun a U => a = as' ∧ Z.Warmed39 U.vm ∧ U.heap = h) (fun _ _ _ _ _ => True) (fun _ U o U' => ∃ v L, o = .returned v ∧ Q v U'.heap L ∧ FrameEnd U o U' L rm.cells rm.slots) := by
  refine MetFree.of_bodySF hpn hisR ?_
  intro p e s m args below meth c s₁ Bd hml hP hK
  obtain ⟨rfl, hZ, hh⟩ := hP
  obtain ⟨t, o, h1, h2, h3, h4⟩ := walk p e s m below meth c s₁ (fun t o => ∃ v L, o = .returned v ∧ Q v t.heap L ∧ FrameEnd s o t L rm.cells rm.slots) (Stand.of_body Bd) Bd.exec Bd.bytes hml Bd.returns (BodyLoose.notSynchronized Bd) (findClass_of_methodNamed Bd.named) (name_of_methodNamed Bd.named Bd.method).1 hZ (by rw [← hh, Bd.state]; rfl)
    (fun t v L cells slots hQ hF hc hs => ⟨v, L, rfl, hQ, hF.1, hF.2.1, hF.2.2.mono hc hs⟩)
  exact ⟨t, o, castTop (hef m) h1, h2, h3, h4⟩
/-- a contract, written short -/
abbrev Con (l : Launch) (Z : State) (y : MethodName) (bytes : ByteArray) (maxL : Nat) (ret : Option FieldType) (ws : List Jvm.Cond) (rm : Room) (as' : Array Value) (h : Heap) (Q : Option Value → Heap → List Loc → Prop) : Prop :=
  MetFree l y (head1 (Jvm.Cond.code y bytes maxL ret :: ws) rm) (fun a U => a = as' ∧ Z.Warmed39 U.vm ∧ U.heap = h) (fun _ _ _ _ _ => True) (fun _ U o U' => ∃ v L, o = .returned v ∧ Q v U'.heap L ∧ FrameEnd U o U' L rm.cells rm.slots)
/-- what a callee that leaves the heap as it is says -/
def PQ (w : Value) (h0 : Heap) (v : Option Value) (h : Heap) (L : List Loc) : Prop := v = some w ∧ L = [] ∧ h = h0
theorem Go.callS (X : Stand p l e R s m args below meth c T locs cells slots) (hx : p.tables.exec = Jvm.exec) (hZ : Z.Warmed39 s.vm) {own : String} {index : Nat} {y : MethodName} {bytes : ByteArray} {maxL : Nat} {ret : Option FieldType} {rm : Room} {as' : Array Value} {Q : Option Value → Heap → List Loc → Prop} (hown : s.vm.findClass own = some m.cls)
    (w1 : (Jvm.Cond.methodLink own index y).before a0 Z = true) (w2 : (Jvm.Cond.static y).before a0 Z = true) (w3 : (Jvm.Cond.initialized y.cls).before a0 Z = true) (w4 : (Jvm.Cond.code y bytes maxL ret).before a0 Z = true) (hy : y.cls ≠ "java/lang/invoke/MethodHandle" ∧ y.cls ≠ "java/lang/invoke/VarHandle") (eT : T.heap = h)
    (hM : Con l Z y bytes maxL ret [] rm as' h Q) {V : Nat} (hf : rm.frames + 1 ≤ R.frames) (hl : V + (maxL + 11) + rm.locals ≤ R.locals) (hc : cells + rm.cells ≤ R.cells) (hs : slots + rm.slots ≤ R.slots)
    {pc : Nat} {Ls : Array Slot} {st : List Value} (hsize : Ls.size = c.maxLocals) {argsL rest : List Value} (has : argsL.toArray = as') (hlen : ∀ sig, parseMethodDescriptor y.desc = some sig → argsL.length = sig.parameters.length) (hstack : st = argsL.reverse ++ rest) (hV : (rest.map fun v => v.category).sum ≤ V) (hd : decode c.code pc = .ok (.invokestatic index, 3))
    (K : ∀ T' v L, Q v T'.heap L → Stand p l e R s m args below meth c T' (locs ++ L) (cells + rm.cells) (slots + rm.slots) → Go p e below W T' (mkF m (pc + 3) Ls (v.toList ++ rest))) : Go p e below W T (mkF m pc Ls st) := by
  obtain ⟨v, vm₁, ⟨T', L', k', n'⟩, -, X', ⟨L, hQ, e1, e2, e3⟩, st'⟩ := Jvm.LawKit.callS X hx hown (mvT hZ w1) (mvT hZ w2) (mvT hZ w3) (mvT hZ w4) hy (backOf (W := V) hM hZ w4 w3 hf hl) (g := mkF m pc Ls st) rfl hsize hlen hstack (by show 2 * 0 + _ ≤ _; omega) hd (fun _ _ => ⟨has, eT, hc, hs⟩)
  dsimp only [Pt.U, Pt.locs, Pt.cells, Pt.slots] at X' e1 e2 e3 st' hQ
  subst e1 e2 e3
  exact Go.of st' (K _ _ _ hQ X')
theorem Go.callP (X : Stand p l e R s m args below meth c T locs cells slots) (hx : p.tables.exec = Jvm.exec) (hZ : Z.Warmed39 s.vm) {own : String} {index : Nat} {y : MethodName} {bytes : ByteArray} {maxL : Nat} {ret : Option FieldType} {rm : Room} {as' : Array Value} {w : Value} (hown : s.vm.findClass own = some m.cls)
    (w1 : (Jvm.Cond.methodLink own index y).before a0 Z = true) (w2 : (Jvm.Cond.static y).before a0 Z = true) (w3 : (Jvm.Cond.initialized y.cls).before a0 Z = true) (w4 : (Jvm.Cond.code y bytes maxL ret).before a0 Z = true) (hy : y.cls ≠ "java/lang/invoke/MethodHandle" ∧ y.cls ≠ "java/lang/invoke/VarHandle") (eT : T.heap = h)
    (hM : Con l Z y bytes maxL ret [] rm as' h (PQ w h)) {V : Nat} (hf : rm.frames + 1 ≤ R.frames) (hl : V + (maxL + 11) + rm.locals ≤ R.locals) (z1 : rm.cells = 0) (z2 : rm.slots = 0) (hc : cells ≤ R.cells) (hs : slots ≤ R.slots)
    {pc : Nat} {Ls : Array Slot} {st : List Value} (hsize : Ls.size = c.maxLocals) {argsL rest : List Value} (has : argsL.toArray = as') (hlen : ∀ sig, parseMethodDescriptor y.desc = some sig → argsL.length = sig.parameters.length) (hstack : st = argsL.reverse ++ rest) (hV : (rest.map fun v => v.category).sum ≤ V) (hd : decode c.code pc = .ok (.invokestatic index, 3))
    (K : ∀ T', Stand p l e R s m args below meth c T' locs cells slots → T'.heap = h → Go p e below W T' (mkF m (pc + 3) Ls (w :: rest))) : Go p e below W T (mkF m pc Ls st) := by
  refine Go.callS X hx hZ hown w1 w2 w3 w4 hy eT hM hf hl (by rw [z1]; exact hc) (by rw [z2]; exact hs) hsize has hlen hstack hV hd ?_
  rintro T' v L ⟨rfl, rfl, h3⟩ X'
  rw [z1, z2, List.append_nil] at X'
  exact K T' X' h3
end OwnKit
theorem pd__I_Z : parseMethodDescriptor "(I)Z" = some ⟨[.int], some .boolean⟩ := by decide +kernel
theorem d1_0 : decode prog_3_method_3_code 0 = .ok (.iload_n 0, 1) := by decide +kernel
theorem d1_1 : decode prog_3_method_3_code 1 = .ok (.ldc 11, 2) := by decide +kernel
theorem d1_3 : decode prog_3_method_3_code 3 = .ok (.if_icmp .lt 9, 3) := by decide +kernel
theorem d1_6 : decode prog_3_method_3_code 6 = .ok (.iload_n 0, 1) := by decide +kernel
theorem d1_7 : decode prog_3_method_3_code 7 = .ok (.ldc 12, 2) := by decide +kernel
theorem d1_9 : decode prog_3_method_3_code 9 = .ok (.if_icmp .le 16, 3) := by decide +kernel
theorem d1_12 : decode prog_3_method_3_code 12 = .ok (.iload_n 0, 1) := by decide +kernel
theorem d1_13 : decode prog_3_method_3_code 13 = .ok (.ifCond .lt 16, 3) := by decide +kernel
theorem d1_16 : decode prog_3_method_3_code 16 = .ok (.iload_n 0, 1) := by decide +kernel
theorem d1_17 : decode prog_3_method_3_code 17 = .ok (.ldc 13, 2) := by decide +kernel
theorem d1_19 : decode prog_3_method_3_code 19 = .ok (.iand, 1) := by decide +kernel
theorem d1_20 : decode prog_3_method_3_code 20 = .ok (.ldc 13, 2) := by decide +kernel
theorem d1_22 : decode prog_3_method_3_code 22 = .ok (.if_icmp .ne 7, 3) := by decide +kernel
theorem d1_25 : decode prog_3_method_3_code 25 = .ok (.iconst 1, 1) := by decide +kernel
theorem d1_26 : decode prog_3_method_3_code 26 = .ok (.goto 4, 3) := by decide +kernel
theorem d1_29 : decode prog_3_method_3_code 29 = .ok (.iconst 0, 1) := by decide +kernel
theorem d1_30 : decode prog_3_method_3_code 30 = .ok (.ireturn, 1) := by decide +kernel
theorem pn_1 : plainFor (⟨"com/example/tok6/tok6/CodePoints", "isNoncharacter", "(I)Z"⟩ : MethodName) = true := plainFor_of_name (by show plainName "com/example/tok6/tok6/CodePoints" = true; first | (simp [plainName, overriddenIn]; done) | decide +kernel)
theorem ef_1 (m : MethodId) (p1 : Int32) : entryFrame m #[(.int p1)] 1 = mkF m 0 #[.val (.int p1)] [] := by first | (simp [entryFrame, mkF, argsToLocals, Value.category]; done) | rfl
def f1_12 (p1 : Int32) : Int32 := (if p1 < (0 : Int32) then (0 : Int32) else (if (p1 &&& (65534 : Int32)) = (65534 : Int32) then (1 : Int32) else (0 : Int32)))
def f1 (p1 : Int32) : Int32 := (if p1 < (64976 : Int32) then (f1_12 p1) else (if (65007 : Int32) < p1 then (f1_12 p1) else (1 : Int32)))
theorem pn_0 : plainFor x = true := plainFor_of_name (by show plainName "com/example/tok6/tok6/CodePointsIsNoncharacterPinLaw" = true; first | (simp [plainName, overriddenIn]; done) | decide +kernel)
theorem ef_0 (m : MethodId) (p1 : Int32) (p2 : Int32) : entryFrame m #[(.int p1), (.int p2)] maxLocals = mkF m 0 #[.val (.int p1), .val (.int p2), .unset, .unset, .unset, .unset, .unset, .unset, .unset, .unset] [] := by first | (simp [entryFrame, mkF, argsToLocals, Value.category, maxLocals]; done) | rfl
def v0_1 (p1 : Int32) (p2 : Int32) : Int32 := (p2 &&& (3 : Int32))
def v0_2 (p1 : Int32) (p2 : Int32) : Int32 := ((p2.toUInt32 >>> ((2 : Int32) &&& 31).toUInt32).toInt32)
def v0_4 (p1 : Int32) (p2 : Int32) : Int32 := ((p1 &&& (2147483647 : Int32)) % (17 : Int32))
def v0_7 (p1 : Int32) (p2 : Int32) : Int32 := ((v0_2 p1 p2) &&& (65535 : Int32))
def v0_8 (p1 : Int32) (p2 : Int32) : Int32 := ((64960 : Int32) + ((v0_2 p1 p2) &&& (63 : Int32)))
def v0_9 (p1 : Int32) (p2 : Int32) : Int32 := ((65520 : Int32) + ((v0_2 p1 p2) &&& (15 : Int32)))
def v0_11 (p1 : Int32) (p2 : Int32) : Int32 := (if (v0_1 p1 p2) = (0 : Int32) then (v0_9 p1 p2) else (if (v0_1 p1 p2) = (1 : Int32) then (v0_8 p1 p2) else (v0_7 p1 p2)))
def v0_12 (p1 : Int32) (p2 : Int32) : Int32 := (((v0_4 p1 p2) * (65536 : Int32)) + (v0_11 p1 p2))
def v0_17 (p1 : Int32) (p2 : Int32) : Int32 := (if (v0_4 p1 p2) = (0 : Int32) then (if (v0_11 p1 p2) < (64976 : Int32) then (0 : Int32) else (if (65007 : Int32) < (v0_11 p1 p2) then (0 : Int32) else (1 : Int32))) else (0 : Int32))
def v0_21 (p1 : Int32) (p2 : Int32) : Int32 := (if (v0_11 p1 p2) = (65534 : Int32) then (1 : Int32) else (if (v0_11 p1 p2) = (65535 : Int32) then (1 : Int32) else (0 : Int32)))
def v0_25 (p1 : Int32) (p2 : Int32) : Int32 := (if (v0_17 p1 p2) = (0 : Int32) then (if (v0_21 p1 p2) = (0 : Int32) then (0 : Int32) else (1 : Int32)) else (1 : Int32))
def v0_28 (p1 : Int32) (p2 : Int32) : Int32 := (p1 ||| (-2147483648 : Int32))
def f0 (p1 : Int32) (p2 : Int32) : Int32 := (if (v0_1 p1 p2) = (3 : Int32) then (if (f1 (v0_28 p1 p2)) = (0 : Int32) then (1 : Int32) else (0 : Int32)) else (if (f1 (v0_12 p1 p2)) = (v0_25 p1 p2) then (1 : Int32) else (0 : Int32)))
theorem own_andN (x : Nat) : x &&& 65534 = x % 65536 - x % 2 := by
  have h1 : (x &&& 65534) / 2 = (x / 2) &&& 32767 := by
    have := Nat.and_div_two_pow (a := x) (b := 65534) (n := 1)
    simpa using this
  have h2 : (x &&& 65534) % 2 = 0 := by
    have := Nat.and_mod_two_pow (a := x) (b := 65534) (n := 1)
    simpa using this
  have h3 : (x / 2) &&& 32767 = (x / 2) % 32768 := Nat.and_two_pow_sub_one_eq_mod (x / 2) 15
  omega
theorem own_and (c : Int32) (h : 0 ≤ c.toInt) : (c &&& 65534).toInt = c.toInt % 65536 - c.toInt % 2 := by
  have k := own_andN c.toBitVec.toNat
  have e : (c &&& 65534).toBitVec.toNat = c.toBitVec.toNat &&& 65534 := by
    rw [Int32.toBitVec_and, BitVec.toNat_and]; rfl
  have r1 : (c &&& 65534).toInt = (c &&& 65534).toBitVec.toInt := rfl
  have r2 : c.toInt = c.toBitVec.toInt := rfl
  have b := c.toBitVec.isLt
  rw [r2, BitVec.toInt_eq_toNat_cond] at h
  rw [r1, r2, BitVec.toInt_eq_toNat_cond, BitVec.toInt_eq_toNat_cond, e, k]
  split at h <;> split <;> omega
theorem own_neg (x : Int32) : (x ||| -2147483648) < 0 := by
  rw [Jvm.Free.XT.neg32, Int32.toBitVec_or, BitVec.msb_or]
  have : (-2147483648 : Int32).toBitVec.msb = true := by decide
  rw [this, Bool.or_true]
theorem own_f1 (c : Int32) : f1 c = if 0 ≤ c.toInt ∧ ((64976 ≤ c.toInt ∧ c.toInt ≤ 65007) ∨ c.toInt % 65536 - c.toInt % 2 = 65534) then 1 else 0 := by
  by_cases h : 0 ≤ c.toInt
  · simp only [f1, f1_12, Int32.lt_iff_toInt_lt, ← Int32.toInt_inj, own_and c h, show (0 : Int32).toInt = 0 from rfl, show (64976 : Int32).toInt = 64976 from rfl, show (65007 : Int32).toInt = 65007 from rfl, show (65534 : Int32).toInt = 65534 from rfl]
    generalize c.toInt = n at h ⊢
    repeat' split
    all_goals first | rfl | (exfalso; omega)
  · simp only [f1, f1_12, Int32.lt_iff_toInt_lt, show (0 : Int32).toInt = 0 from rfl, show (64976 : Int32).toInt = 64976 from rfl]
    rw [if_pos (by omega), if_pos (by omega), if_neg (by omega)]
theorem own_law (x y : Int32) : f0 x y = 1 := by
  by_cases hm : v0_1 x y = 3
  · have h : f1 (v0_28 x y) = 0 := by
      have k : (v0_28 x y) < 0 := own_neg x
      simp only [Int32.lt_iff_toInt_lt, show (0 : Int32).toInt = 0 from rfl] at k
      rw [own_f1, if_neg (by omega)]
    rw [f0, if_pos hm, if_pos h]
  · have a4 : (x &&& 2147483647).toInt = x.toInt % (2 ^ 31 : Nat) := c_mask x 2147483647 31 (by decide) (by decide)
    have z4 : 0 ≤ (x &&& 2147483647).toInt := by omega
    have m4 : (v0_4 x y).toInt = (x &&& 2147483647).toInt % 17 := (c_irem (x &&& 2147483647) 17 17 rfl).1 z4
    have a7 : (v0_7 x y).toInt = (v0_2 x y).toInt % (2 ^ 16 : Nat) := c_mask (v0_2 x y) 65535 16 (by decide) (by decide)
    have k8 : (v0_2 x y &&& 63).toInt = (v0_2 x y).toInt % (2 ^ 6 : Nat) := c_mask (v0_2 x y) 63 6 (by decide) (by decide)
    have k9 : (v0_2 x y &&& 15).toInt = (v0_2 x y).toInt % (2 ^ 4 : Nat) := c_mask (v0_2 x y) 15 4 (by decide) (by decide)
    have a8 : ((v0_8 x y).toInt - (64960 + (v0_2 x y &&& 63).toInt)) % 4294967296 = 0 := c_iadd 64960 _
    have a9 : ((v0_9 x y).toInt - (65520 + (v0_2 x y &&& 15).toInt)) % 4294967296 = 0 := c_iadd 65520 _
    have r8 := rng32 (v0_8 x y)
    have r9 := rng32 (v0_9 x y)
    have a11 : 0 ≤ (v0_11 x y).toInt ∧ (v0_11 x y).toInt ≤ 65535 := by
      rw [v0_11]
      repeat' split
      all_goals omega
    have a12 : ((v0_12 x y).toInt - ((v0_4 x y * 65536).toInt + (v0_11 x y).toInt)) % 4294967296 = 0 := c_iadd _ _
    have b12 : ((v0_4 x y * 65536).toInt - ((v0_4 x y).toInt * 65536)) % 4294967296 = 0 := c_imul (v0_4 x y) 65536
    have r12 := rng32 (v0_12 x y)
    have r13 := rng32 (v0_4 x y * 65536)
    have e12 : (v0_12 x y).toInt = (v0_4 x y).toInt * 65536 + (v0_11 x y).toInt := by omega
    have h17 : v0_17 x y = if (v0_4 x y).toInt = 0 ∧ 64976 ≤ (v0_11 x y).toInt ∧ (v0_11 x y).toInt ≤ 65007 then 1 else 0 := by
      simp only [v0_17, Int32.lt_iff_toInt_lt, ← Int32.toInt_inj, show (0 : Int32).toInt = 0 from rfl, show (64976 : Int32).toInt = 64976 from rfl, show (65007 : Int32).toInt = 65007 from rfl]
      repeat' split
      all_goals first | rfl | (exfalso; omega)
    have h21 : v0_21 x y = if 65534 ≤ (v0_11 x y).toInt then 1 else 0 := by
      simp only [v0_21, ← Int32.toInt_inj, show (65534 : Int32).toInt = 65534 from rfl, show (65535 : Int32).toInt = 65535 from rfl]
      repeat' split
      all_goals first | rfl | (exfalso; omega)
    have h : f1 (v0_12 x y) = v0_25 x y := by
      rw [own_f1, v0_25, h17, h21, e12]
      have d1 : ¬ (1 : Int32) = 0 := by decide
      repeat' split
      all_goals first | rfl | (exfalso; simp_all; done) | (exfalso; omega) | (exfalso; simp_all; omega)
    rw [f0, if_neg hm, if_pos h]
set_option maxRecDepth 65536 in
set_option maxHeartbeats 40000000 in
theorem rm1 (l : Launch) (Z : State) (a0 : Array Value) (hw : ∀ d ∈ tables_1, d.before a0 Z = true) (ws : List Jvm.Cond) (p1 : Int32) (h0 : Heap) :
    Con l Z (⟨"com/example/tok6/tok6/CodePoints", "isNoncharacter", "(I)Z"⟩ : MethodName) prog_3_method_3_code 1 (some .boolean) ws ({ frames := 0, cells := 0, slots := 0, locals := 0 } : Room) #[(.int p1)] h0 (PQ (.int (f1 p1)) h0) := by
  refine own_body pn_1 (fun m => ef_1 m p1) ?_
  intro p e s m below meth c T0 W X0 hx hby hml hret hlk hown hnm hZ e0 hW
  show Go p e below W T0 (mkF m 0 #[.val (.int p1)] [])
  refine Go.of (fun _ k => XS.iloadN X0.here hx rfl (hb hby d1_0) rfl k) ?_
  show Go p e below W T0 (mkF m 1 #[.val (.int p1)] [(.int p1)])
  refine Go.of (fun _ k => X0.ldcI hx hown (mvT hZ (hw _ (List.mem_of_getElem? (i := 5) rfl))) rfl (hb hby d1_1) k) ?_
  show Go p e below W T0 (mkF m 3 #[.val (.int p1)] [(.int (64976 : Int32)), (.int p1)])
  have J3 : (f1 p1) = (f1_12 p1) → Go p e below W T0 (mkF m 12 #[.val (.int p1)] []) := by
    intro hJ3
    show Go p e below W T0 (mkF m 12 #[.val (.int p1)] [])
    refine Go.of (fun _ k => XS.iloadN X0.here hx rfl (hb hby d1_12) rfl k) ?_
    show Go p e below W T0 (mkF m 13 #[.val (.int p1)] [(.int p1)])
    by_cases c4 : p1 < (0 : Int32)
    · refine Go.of (fun _ k => XS.ifYes X0.here hx rfl (pc0 := 13) (pc' := 29) rfl (hb hby d1_13) rfl (Jvm.Free.XT.i0_lt_t c4) (by decide) (by decide) k) ?_
      show Go p e below W T0 (mkF m 29 #[.val (.int p1)] [])
      refine Go.of (fun _ k => XS.iconst X0.here hx rfl (hb hby d1_29) k) ?_
      show Go p e below W T0 (mkF m 30 #[.val (.int p1)] [(.int (0 : Int32))])
      have q : (f1_12 p1) = (0 : Int32) := by rw [f1_12, if_pos c4]
      replace q : (f1 p1) = (0 : Int32) := hJ3.trans q
      exact Go.retN X0 hx hret (Or.inl rfl) (hb hby d1_30) hlk (Eq.trans rfl q.symm) (fun t ht fe => hW t _ _ _ _ ⟨rfl, rfl, ht.trans e0⟩ fe (by decide) (by decide))
    · refine Go.of (fun _ k => XS.ifNo X0.here hx rfl (hb hby d1_13) rfl (Jvm.Free.XT.i0_lt_f c4) k) ?_
      show Go p e below W T0 (mkF m 16 #[.val (.int p1)] [])
      refine Go.of (fun _ k => XS.iloadN X0.here hx rfl (hb hby d1_16) rfl k) ?_
      show Go p e below W T0 (mkF m 17 #[.val (.int p1)] [(.int p1)])
      refine Go.of (fun _ k => X0.ldcI hx hown (mvT hZ (hw _ (List.mem_of_getElem? (i := 12) rfl))) rfl (hb hby d1_17) k) ?_
      show Go p e below W T0 (mkF m 19 #[.val (.int p1)] [(.int (65534 : Int32)), (.int p1)])
      refine Go.of (fun _ k => XS.iand X0.here hx rfl (hb hby d1_19) rfl k) ?_
      show Go p e below W T0 (mkF m 20 #[.val (.int p1)] [(.int (p1 &&& (65534 : Int32)))])
      refine Go.of (fun _ k => X0.ldcI hx hown (mvT hZ (hw _ (List.mem_of_getElem? (i := 12) rfl))) rfl (hb hby d1_20) k) ?_
      show Go p e below W T0 (mkF m 22 #[.val (.int p1)] [(.int (65534 : Int32)), (.int (p1 &&& (65534 : Int32)))])
      by_cases c5 : (p1 &&& (65534 : Int32)) = (65534 : Int32)
      · refine Go.of (fun _ k => XS.icmpNo X0.here hx rfl (hb hby d1_22) rfl (Jvm.Free.XT.ii_ne_f c5) k) ?_
        show Go p e below W T0 (mkF m 25 #[.val (.int p1)] [])
        refine Go.of (fun _ k => XS.iconst X0.here hx rfl (hb hby d1_25) k) ?_
        show Go p e below W T0 (mkF m 26 #[.val (.int p1)] [(.int (1 : Int32))])
        refine Go.of (fun _ k => XS.goto X0.here hx rfl (pc0 := 26) (pc' := 30) rfl (hb hby d1_26) (by decide) (by decide) k) ?_
        show Go p e below W T0 (mkF m 30 #[.val (.int p1)] [(.int (1 : Int32))])
        have q : (f1_12 p1) = (1 : Int32) := by rw [f1_12, if_neg c4, if_pos c5]
        replace q : (f1 p1) = (1 : Int32) := hJ3.trans q
        exact Go.retN X0 hx hret (Or.inl rfl) (hb hby d1_30) hlk (Eq.trans rfl q.symm) (fun t ht fe => hW t _ _ _ _ ⟨rfl, rfl, ht.trans e0⟩ fe (by decide) (by decide))
      · refine Go.of (fun _ k => XS.icmpYes X0.here hx rfl (pc0 := 22) (pc' := 29) rfl (hb hby d1_22) rfl (Jvm.Free.XT.ii_ne_t c5) (by decide) (by decide) k) ?_
        show Go p e below W T0 (mkF m 29 #[.val (.int p1)] [])
        refine Go.of (fun _ k => XS.iconst X0.here hx rfl (hb hby d1_29) k) ?_
        show Go p e below W T0 (mkF m 30 #[.val (.int p1)] [(.int (0 : Int32))])
        have q : (f1_12 p1) = (0 : Int32) := by rw [f1_12, if_neg c4, if_neg c5]
        replace q : (f1 p1) = (0 : Int32) := hJ3.trans q
        exact Go.retN X0 hx hret (Or.inl rfl) (hb hby d1_30) hlk (Eq.trans rfl q.symm) (fun t ht fe => hW t _ _ _ _ ⟨rfl, rfl, ht.trans e0⟩ fe (by decide) (by decide))
  by_cases c1 : p1 < (64976 : Int32)
  · refine Go.of (fun _ k => XS.icmpYes X0.here hx rfl (pc0 := 3) (pc' := 12) rfl (hb hby d1_3) rfl (Jvm.Free.XT.ii_lt_t c1) (by decide) (by decide) k) ?_
    exact J3 (by rw [f1, if_pos c1])
  · refine Go.of (fun _ k => XS.icmpNo X0.here hx rfl (hb hby d1_3) rfl (Jvm.Free.XT.ii_lt_f c1) k) ?_
    show Go p e below W T0 (mkF m 6 #[.val (.int p1)] [])
    refine Go.of (fun _ k => XS.iloadN X0.here hx rfl (hb hby d1_6) rfl k) ?_
    show Go p e below W T0 (mkF m 7 #[.val (.int p1)] [(.int p1)])
    refine Go.of (fun _ k => X0.ldcI hx hown (mvT hZ (hw _ (List.mem_of_getElem? (i := 11) rfl))) rfl (hb hby d1_7) k) ?_
    show Go p e below W T0 (mkF m 9 #[.val (.int p1)] [(.int (65007 : Int32)), (.int p1)])
    by_cases c2 : (65007 : Int32) < p1
    · refine Go.of (fun _ k => XS.icmpNo X0.here hx rfl (hb hby d1_9) rfl (Jvm.Free.XT.ii_le_f c2) k) ?_
      exact J3 (by rw [f1, if_neg c1, if_pos c2])
    · refine Go.of (fun _ k => XS.icmpYes X0.here hx rfl (pc0 := 9) (pc' := 25) rfl (hb hby d1_9) rfl (Jvm.Free.XT.ii_le_t c2) (by decide) (by decide) k) ?_
      show Go p e below W T0 (mkF m 25 #[.val (.int p1)] [])
      refine Go.of (fun _ k => XS.iconst X0.here hx rfl (hb hby d1_25) k) ?_
      show Go p e below W T0 (mkF m 26 #[.val (.int p1)] [(.int (1 : Int32))])
      refine Go.of (fun _ k => XS.goto X0.here hx rfl (pc0 := 26) (pc' := 30) rfl (hb hby d1_26) (by decide) (by decide) k) ?_
      show Go p e below W T0 (mkF m 30 #[.val (.int p1)] [(.int (1 : Int32))])
      have q : (f1 p1) = (1 : Int32) := by rw [f1, if_neg c1, if_neg c2]
      exact Go.retN X0 hx hret (Or.inl rfl) (hb hby d1_30) hlk (Eq.trans rfl q.symm) (fun t ht fe => hW t _ _ _ _ ⟨rfl, rfl, ht.trans e0⟩ fe (by decide) (by decide))
set_option maxRecDepth 65536 in
set_option maxHeartbeats 40000000 in
theorem rm0 (l : Launch) (Z : State) (a0 : Array Value) (hw : ∀ d ∈ tables_1, d.before a0 Z = true) (ws : List Jvm.Cond) (p1 : Int32) (p2 : Int32) (h0 : Heap) :
    Con l Z x code maxLocals ret ws room_1 #[(.int p1), (.int p2)] h0 (PQ (.int (f0 p1 p2)) h0) := by
  refine own_body pn_0 (fun m => ef_0 m p1 p2) ?_
  intro p e s m below meth c T0 W X0 hx hby hml hret hlk hown hnm hZ e0 hW
  show Go p e below W T0 (mkF m 0 #[.val (.int p1), .val (.int p2), .unset, .unset, .unset, .unset, .unset, .unset, .unset, .unset] [])
  refine Go.of (fun _ k => XS.iloadN X0.here hx rfl (hb hby at_0) rfl k) ?_
  show Go p e below W T0 (mkF m 1 #[.val (.int p1), .val (.int p2), .unset, .unset, .unset, .unset, .unset, .unset, .unset, .unset] [(.int p2)])
  refine Go.of (fun _ k => XS.iconst X0.here hx rfl (hb hby at_1) k) ?_
  show Go p e below W T0 (mkF m 2 #[.val (.int p1), .val (.int p2), .unset, .unset, .unset, .unset, .unset, .unset, .unset, .unset] [(.int (3 : Int32)), (.int p2)])
  refine Go.of (fun _ k => XS.iand X0.here hx rfl (hb hby at_2) rfl k) ?_
  show Go p e below W T0 (mkF m 3 #[.val (.int p1), .val (.int p2), .unset, .unset, .unset, .unset, .unset, .unset, .unset, .unset] [(.int (p2 &&& (3 : Int32)))])
  refine Go.of (fun _ k => XS.istoreN X0.here hx rfl (hb hby at_3) rfl (l' := #[.val (.int p1), .val (.int p2), .val (.int (v0_1 p1 p2)), .unset, .unset, .unset, .unset, .unset, .unset, .unset]) rfl k) ?_
  show Go p e below W T0 (mkF m 4 #[.val (.int p1), .val (.int p2), .val (.int (v0_1 p1 p2)), .unset, .unset, .unset, .unset, .unset, .unset, .unset] [])
  refine Go.of (fun _ k => XS.iloadN X0.here hx rfl (hb hby at_4) rfl k) ?_
  show Go p e below W T0 (mkF m 5 #[.val (.int p1), .val (.int p2), .val (.int (v0_1 p1 p2)), .unset, .unset, .unset, .unset, .unset, .unset, .unset] [(.int p2)])
  refine Go.of (fun _ k => XS.iconst X0.here hx rfl (hb hby at_5) k) ?_
  show Go p e below W T0 (mkF m 6 #[.val (.int p1), .val (.int p2), .val (.int (v0_1 p1 p2)), .unset, .unset, .unset, .unset, .unset, .unset, .unset] [(.int (2 : Int32)), (.int p2)])
  refine Go.of (fun _ k => XS.iushr X0.here hx rfl (hb hby at_6) rfl k) ?_
  show Go p e below W T0 (mkF m 7 #[.val (.int p1), .val (.int p2), .val (.int (v0_1 p1 p2)), .unset, .unset, .unset, .unset, .unset, .unset, .unset] [(.int ((p2.toUInt32 >>> ((2 : Int32) &&& 31).toUInt32).toInt32))])
  refine Go.of (fun _ k => XS.istoreN X0.here hx rfl (hb hby at_7) rfl (l' := #[.val (.int p1), .val (.int p2), .val (.int (v0_1 p1 p2)), .val (.int (v0_2 p1 p2)), .unset, .unset, .unset, .unset, .unset, .unset]) rfl k) ?_
  show Go p e below W T0 (mkF m 8 #[.val (.int p1), .val (.int p2), .val (.int (v0_1 p1 p2)), .val (.int (v0_2 p1 p2)), .unset, .unset, .unset, .unset, .unset, .unset] [])
  refine Go.of (fun _ k => XS.iloadN X0.here hx rfl (hb hby at_8) rfl k) ?_
  show Go p e below W T0 (mkF m 9 #[.val (.int p1), .val (.int p2), .val (.int (v0_1 p1 p2)), .val (.int (v0_2 p1 p2)), .unset, .unset, .unset, .unset, .unset, .unset] [(.int (v0_1 p1 p2))])
  refine Go.of (fun _ k => XS.iconst X0.here hx rfl (hb hby at_9) k) ?_
  show Go p e below W T0 (mkF m 10 #[.val (.int p1), .val (.int p2), .val (.int (v0_1 p1 p2)), .val (.int (v0_2 p1 p2)), .unset, .unset, .unset, .unset, .unset, .unset] [(.int (3 : Int32)), (.int (v0_1 p1 p2))])
  by_cases c3 : (v0_1 p1 p2) = (3 : Int32)
  · refine Go.of (fun _ k => XS.icmpNo X0.here hx rfl (hb hby at_10) rfl (Jvm.Free.XT.ii_ne_f c3) k) ?_
    show Go p e below W T0 (mkF m 13 #[.val (.int p1), .val (.int p2), .val (.int (v0_1 p1 p2)), .val (.int (v0_2 p1 p2)), .unset, .unset, .unset, .unset, .unset, .unset] [])
    refine Go.of (fun _ k => XS.iloadN X0.here hx rfl (hb hby at_13) rfl k) ?_
    show Go p e below W T0 (mkF m 14 #[.val (.int p1), .val (.int p2), .val (.int (v0_1 p1 p2)), .val (.int (v0_2 p1 p2)), .unset, .unset, .unset, .unset, .unset, .unset] [(.int p1)])
    refine Go.of (fun _ k => X0.ldcI hx hown (mvT hZ (hw _ (List.mem_of_getElem? (i := 0) rfl))) rfl (hb hby at_14) k) ?_
    show Go p e below W T0 (mkF m 16 #[.val (.int p1), .val (.int p2), .val (.int (v0_1 p1 p2)), .val (.int (v0_2 p1 p2)), .unset, .unset, .unset, .unset, .unset, .unset] [(.int (-2147483648 : Int32)), (.int p1)])
    refine Go.of (fun _ k => XS.ior X0.here hx rfl (hb hby at_16) rfl k) ?_
    show Go p e below W T0 (mkF m 17 #[.val (.int p1), .val (.int p2), .val (.int (v0_1 p1 p2)), .val (.int (v0_2 p1 p2)), .unset, .unset, .unset, .unset, .unset, .unset] [(.int (p1 ||| (-2147483648 : Int32)))])
    refine Go.of (fun _ k => XS.istore X0.here hx rfl (hb hby at_17) rfl (l' := #[.val (.int p1), .val (.int p2), .val (.int (v0_1 p1 p2)), .val (.int (v0_2 p1 p2)), .val (.int (v0_28 p1 p2)), .unset, .unset, .unset, .unset, .unset]) rfl k) ?_
    show Go p e below W T0 (mkF m 19 #[.val (.int p1), .val (.int p2), .val (.int (v0_1 p1 p2)), .val (.int (v0_2 p1 p2)), .val (.int (v0_28 p1 p2)), .unset, .unset, .unset, .unset, .unset] [])
    refine Go.of (fun _ k => XS.iload X0.here hx rfl (hb hby at_19) rfl k) ?_
    show Go p e below W T0 (mkF m 21 #[.val (.int p1), .val (.int p2), .val (.int (v0_1 p1 p2)), .val (.int (v0_2 p1 p2)), .val (.int (v0_28 p1 p2)), .unset, .unset, .unset, .unset, .unset] [(.int (v0_28 p1 p2))])
    refine Go.callP X0 hx hZ hown (hw _ (List.mem_of_getElem? (i := 1) rfl)) (hw _ (List.mem_of_getElem? (i := 2) rfl)) (hw _ (List.mem_of_getElem? (i := 3) rfl)) (hw _ (List.mem_of_getElem? (i := 4) rfl)) (by decide) e0 (rm1 l Z a0 hw [] (v0_28 p1 p2) h0) (V := 0) (by decide) (by decide) rfl rfl (by decide) (by decide) (by rw [hml]; rfl) (argsL := [(.int (v0_28 p1 p2))]) (rest := []) rfl (lenOf pd__I_Z rfl) rfl (Nat.le_of_ble_eq_true rfl) (hb hby at_21) ?_
    intro T29 X29 e29
    show Go p e below W T29 (mkF m 24 #[.val (.int p1), .val (.int p2), .val (.int (v0_1 p1 p2)), .val (.int (v0_2 p1 p2)), .val (.int (v0_28 p1 p2)), .unset, .unset, .unset, .unset, .unset] [(.int (f1 (v0_28 p1 p2)))])
    by_cases c30 : (f1 (v0_28 p1 p2)) = (0 : Int32)
    · refine Go.of (fun _ k => XS.ifNo X29.here hx rfl (hb hby at_24) rfl (Jvm.Free.XT.i0_ne_f c30) k) ?_
      show Go p e below W T29 (mkF m 27 #[.val (.int p1), .val (.int p2), .val (.int (v0_1 p1 p2)), .val (.int (v0_2 p1 p2)), .val (.int (v0_28 p1 p2)), .unset, .unset, .unset, .unset, .unset] [])
      refine Go.of (fun _ k => XS.iconst X29.here hx rfl (hb hby at_27) k) ?_
      show Go p e below W T29 (mkF m 28 #[.val (.int p1), .val (.int p2), .val (.int (v0_1 p1 p2)), .val (.int (v0_2 p1 p2)), .val (.int (v0_28 p1 p2)), .unset, .unset, .unset, .unset, .unset] [(.int (1 : Int32))])
      refine Go.of (fun _ k => XS.goto X29.here hx rfl (pc0 := 28) (pc' := 32) rfl (hb hby at_28) (by decide) (by decide) k) ?_
      show Go p e below W T29 (mkF m 32 #[.val (.int p1), .val (.int p2), .val (.int (v0_1 p1 p2)), .val (.int (v0_2 p1 p2)), .val (.int (v0_28 p1 p2)), .unset, .unset, .unset, .unset, .unset] [(.int (1 : Int32))])
      have q : (f0 p1 p2) = (1 : Int32) := by rw [f0, if_pos c3, if_pos c30]
      exact Go.retN X29 hx hret (Or.inl rfl) (hb hby at_32) hlk (Eq.trans rfl q.symm) (fun t ht fe => hW t _ _ _ _ ⟨rfl, rfl, ht.trans e29⟩ fe (by decide) (by decide))
    · refine Go.of (fun _ k => XS.ifYes X29.here hx rfl (pc0 := 24) (pc' := 31) rfl (hb hby at_24) rfl (Jvm.Free.XT.i0_ne_t c30) (by decide) (by decide) k) ?_
      show Go p e below W T29 (mkF m 31 #[.val (.int p1), .val (.int p2), .val (.int (v0_1 p1 p2)), .val (.int (v0_2 p1 p2)), .val (.int (v0_28 p1 p2)), .unset, .unset, .unset, .unset, .unset] [])
      refine Go.of (fun _ k => XS.iconst X29.here hx rfl (hb hby at_31) k) ?_
      show Go p e below W T29 (mkF m 32 #[.val (.int p1), .val (.int p2), .val (.int (v0_1 p1 p2)), .val (.int (v0_2 p1 p2)), .val (.int (v0_28 p1 p2)), .unset, .unset, .unset, .unset, .unset] [(.int (0 : Int32))])
      have q : (f0 p1 p2) = (0 : Int32) := by rw [f0, if_pos c3, if_neg c30]
      exact Go.retN X29 hx hret (Or.inl rfl) (hb hby at_32) hlk (Eq.trans rfl q.symm) (fun t ht fe => hW t _ _ _ _ ⟨rfl, rfl, ht.trans e29⟩ fe (by decide) (by decide))
  · refine Go.of (fun _ k => XS.icmpYes X0.here hx rfl (pc0 := 10) (pc' := 33) rfl (hb hby at_10) rfl (Jvm.Free.XT.ii_ne_t c3) (by decide) (by decide) k) ?_
    show Go p e below W T0 (mkF m 33 #[.val (.int p1), .val (.int p2), .val (.int (v0_1 p1 p2)), .val (.int (v0_2 p1 p2)), .unset, .unset, .unset, .unset, .unset, .unset] [])
    refine Go.of (fun _ k => XS.iloadN X0.here hx rfl (hb hby at_33) rfl k) ?_
    show Go p e below W T0 (mkF m 34 #[.val (.int p1), .val (.int p2), .val (.int (v0_1 p1 p2)), .val (.int (v0_2 p1 p2)), .unset, .unset, .unset, .unset, .unset, .unset] [(.int p1)])
    refine Go.of (fun _ k => X0.ldcI hx hown (mvT hZ (hw _ (List.mem_of_getElem? (i := 6) rfl))) rfl (hb hby at_34) k) ?_
    show Go p e below W T0 (mkF m 36 #[.val (.int p1), .val (.int p2), .val (.int (v0_1 p1 p2)), .val (.int (v0_2 p1 p2)), .unset, .unset, .unset, .unset, .unset, .unset] [(.int (2147483647 : Int32)), (.int p1)])
    refine Go.of (fun _ k => XS.iand X0.here hx rfl (hb hby at_36) rfl k) ?_
    show Go p e below W T0 (mkF m 37 #[.val (.int p1), .val (.int p2), .val (.int (v0_1 p1 p2)), .val (.int (v0_2 p1 p2)), .unset, .unset, .unset, .unset, .unset, .unset] [(.int (p1 &&& (2147483647 : Int32)))])
    refine Go.of (fun _ k => XS.bipush X0.here hx rfl (hb hby at_37) k) ?_
    show Go p e below W T0 (mkF m 39 #[.val (.int p1), .val (.int p2), .val (.int (v0_1 p1 p2)), .val (.int (v0_2 p1 p2)), .unset, .unset, .unset, .unset, .unset, .unset] [(.int (17 : Int32)), (.int (p1 &&& (2147483647 : Int32)))])
    refine Go.of (fun _ k => iremM X0 hx rfl (hb hby at_39) rfl (by decide) k) ?_
    show Go p e below W T0 (mkF m 40 #[.val (.int p1), .val (.int p2), .val (.int (v0_1 p1 p2)), .val (.int (v0_2 p1 p2)), .unset, .unset, .unset, .unset, .unset, .unset] [(.int ((p1 &&& (2147483647 : Int32)) % (17 : Int32)))])
    refine Go.of (fun _ k => XS.istore X0.here hx rfl (hb hby at_40) rfl (l' := #[.val (.int p1), .val (.int p2), .val (.int (v0_1 p1 p2)), .val (.int (v0_2 p1 p2)), .val (.int (v0_4 p1 p2)), .unset, .unset, .unset, .unset, .unset]) rfl k) ?_
    show Go p e below W T0 (mkF m 42 #[.val (.int p1), .val (.int p2), .val (.int (v0_1 p1 p2)), .val (.int (v0_2 p1 p2)), .val (.int (v0_4 p1 p2)), .unset, .unset, .unset, .unset, .unset] [])
    refine Go.of (fun _ k => XS.iloadN X0.here hx rfl (hb hby at_42) rfl k) ?_
    show Go p e below W T0 (mkF m 43 #[.val (.int p1), .val (.int p2), .val (.int (v0_1 p1 p2)), .val (.int (v0_2 p1 p2)), .val (.int (v0_4 p1 p2)), .unset, .unset, .unset, .unset, .unset] [(.int (v0_1 p1 p2))])
    suffices G10 : ∀ T', Stand p l e room_1 s m #[(.int p1), (.int p2)] below meth c T' [] 0 0 → T'.heap = h0 → Go p e below W T' (mkF m 81 #[.val (.int p1), .val (.int p2), .val (.int (v0_1 p1 p2)), .val (.int (v0_2 p1 p2)), .val (.int (v0_4 p1 p2)), .val (.int (v0_11 p1 p2)), .unset, .unset, .unset, .unset] []) by
      by_cases c5 : (v0_1 p1 p2) = (0 : Int32)
      · refine Go.of (fun _ k => XS.ifNo X0.here hx rfl (hb hby at_43) rfl (Jvm.Free.XT.i0_ne_f c5) k) ?_
        show Go p e below W T0 (mkF m 46 #[.val (.int p1), .val (.int p2), .val (.int (v0_1 p1 p2)), .val (.int (v0_2 p1 p2)), .val (.int (v0_4 p1 p2)), .unset, .unset, .unset, .unset, .unset] [])
        refine Go.of (fun _ k => X0.ldcI hx hown (mvT hZ (hw _ (List.mem_of_getElem? (i := 13) rfl))) rfl (hb hby at_46) k) ?_
        show Go p e below W T0 (mkF m 48 #[.val (.int p1), .val (.int p2), .val (.int (v0_1 p1 p2)), .val (.int (v0_2 p1 p2)), .val (.int (v0_4 p1 p2)), .unset, .unset, .unset, .unset, .unset] [(.int (65520 : Int32))])
        refine Go.of (fun _ k => XS.iloadN X0.here hx rfl (hb hby at_48) rfl k) ?_
        show Go p e below W T0 (mkF m 49 #[.val (.int p1), .val (.int p2), .val (.int (v0_1 p1 p2)), .val (.int (v0_2 p1 p2)), .val (.int (v0_4 p1 p2)), .unset, .unset, .unset, .unset, .unset] [(.int (v0_2 p1 p2)), (.int (65520 : Int32))])
        refine Go.of (fun _ k => XS.bipush X0.here hx rfl (hb hby at_49) k) ?_
        show Go p e below W T0 (mkF m 51 #[.val (.int p1), .val (.int p2), .val (.int (v0_1 p1 p2)), .val (.int (v0_2 p1 p2)), .val (.int (v0_4 p1 p2)), .unset, .unset, .unset, .unset, .unset] [(.int (15 : Int32)), (.int (v0_2 p1 p2)), (.int (65520 : Int32))])
        refine Go.of (fun _ k => XS.iand X0.here hx rfl (hb hby at_51) rfl k) ?_
        show Go p e below W T0 (mkF m 52 #[.val (.int p1), .val (.int p2), .val (.int (v0_1 p1 p2)), .val (.int (v0_2 p1 p2)), .val (.int (v0_4 p1 p2)), .unset, .unset, .unset, .unset, .unset] [(.int ((v0_2 p1 p2) &&& (15 : Int32))), (.int (65520 : Int32))])
        refine Go.of (fun _ k => XS.iadd X0.here hx rfl (hb hby at_52) rfl k) ?_
        show Go p e below W T0 (mkF m 53 #[.val (.int p1), .val (.int p2), .val (.int (v0_1 p1 p2)), .val (.int (v0_2 p1 p2)), .val (.int (v0_4 p1 p2)), .unset, .unset, .unset, .unset, .unset] [(.int ((65520 : Int32) + ((v0_2 p1 p2) &&& (15 : Int32))))])
        refine Go.of (fun _ k => XS.istore X0.here hx rfl (hb hby at_53) rfl (l' := #[.val (.int p1), .val (.int p2), .val (.int (v0_1 p1 p2)), .val (.int (v0_2 p1 p2)), .val (.int (v0_4 p1 p2)), .val (.int (v0_9 p1 p2)), .unset, .unset, .unset, .unset]) rfl k) ?_
        show Go p e below W T0 (mkF m 55 #[.val (.int p1), .val (.int p2), .val (.int (v0_1 p1 p2)), .val (.int (v0_2 p1 p2)), .val (.int (v0_4 p1 p2)), .val (.int (v0_9 p1 p2)), .unset, .unset, .unset, .unset] [])
        refine Go.of (fun _ k => XS.goto X0.here hx rfl (pc0 := 55) (pc' := 81) rfl (hb hby at_55) (by decide) (by decide) k) ?_
        have G10 := G10
        have q_v0_11 : (v0_11 p1 p2) = (v0_9 p1 p2) := by rw [v0_11, if_pos c5]
        rw [q_v0_11] at G10
        exact G10 _ X0 e0
      · refine Go.of (fun _ k => XS.ifYes X0.here hx rfl (pc0 := 43) (pc' := 58) rfl (hb hby at_43) rfl (Jvm.Free.XT.i0_ne_t c5) (by decide) (by decide) k) ?_
        show Go p e below W T0 (mkF m 58 #[.val (.int p1), .val (.int p2), .val (.int (v0_1 p1 p2)), .val (.int (v0_2 p1 p2)), .val (.int (v0_4 p1 p2)), .unset, .unset, .unset, .unset, .unset] [])
        refine Go.of (fun _ k => XS.iloadN X0.here hx rfl (hb hby at_58) rfl k) ?_
        show Go p e below W T0 (mkF m 59 #[.val (.int p1), .val (.int p2), .val (.int (v0_1 p1 p2)), .val (.int (v0_2 p1 p2)), .val (.int (v0_4 p1 p2)), .unset, .unset, .unset, .unset, .unset] [(.int (v0_1 p1 p2))])
        refine Go.of (fun _ k => XS.iconst X0.here hx rfl (hb hby at_59) k) ?_
        show Go p e below W T0 (mkF m 60 #[.val (.int p1), .val (.int p2), .val (.int (v0_1 p1 p2)), .val (.int (v0_2 p1 p2)), .val (.int (v0_4 p1 p2)), .unset, .unset, .unset, .unset, .unset] [(.int (1 : Int32)), (.int (v0_1 p1 p2))])
        by_cases c6 : (v0_1 p1 p2) = (1 : Int32)
        · refine Go.of (fun _ k => XS.icmpNo X0.here hx rfl (hb hby at_60) rfl (Jvm.Free.XT.ii_ne_f c6) k) ?_
          show Go p e below W T0 (mkF m 63 #[.val (.int p1), .val (.int p2), .val (.int (v0_1 p1 p2)), .val (.int (v0_2 p1 p2)), .val (.int (v0_4 p1 p2)), .unset, .unset, .unset, .unset, .unset] [])
          refine Go.of (fun _ k => X0.ldcI hx hown (mvT hZ (hw _ (List.mem_of_getElem? (i := 7) rfl))) rfl (hb hby at_63) k) ?_
          show Go p e below W T0 (mkF m 65 #[.val (.int p1), .val (.int p2), .val (.int (v0_1 p1 p2)), .val (.int (v0_2 p1 p2)), .val (.int (v0_4 p1 p2)), .unset, .unset, .unset, .unset, .unset] [(.int (64960 : Int32))])
          refine Go.of (fun _ k => XS.iloadN X0.here hx rfl (hb hby at_65) rfl k) ?_
          show Go p e below W T0 (mkF m 66 #[.val (.int p1), .val (.int p2), .val (.int (v0_1 p1 p2)), .val (.int (v0_2 p1 p2)), .val (.int (v0_4 p1 p2)), .unset, .unset, .unset, .unset, .unset] [(.int (v0_2 p1 p2)), (.int (64960 : Int32))])
          refine Go.of (fun _ k => XS.bipush X0.here hx rfl (hb hby at_66) k) ?_
          show Go p e below W T0 (mkF m 68 #[.val (.int p1), .val (.int p2), .val (.int (v0_1 p1 p2)), .val (.int (v0_2 p1 p2)), .val (.int (v0_4 p1 p2)), .unset, .unset, .unset, .unset, .unset] [(.int (63 : Int32)), (.int (v0_2 p1 p2)), (.int (64960 : Int32))])
          refine Go.of (fun _ k => XS.iand X0.here hx rfl (hb hby at_68) rfl k) ?_
          show Go p e below W T0 (mkF m 69 #[.val (.int p1), .val (.int p2), .val (.int (v0_1 p1 p2)), .val (.int (v0_2 p1 p2)), .val (.int (v0_4 p1 p2)), .unset, .unset, .unset, .unset, .unset] [(.int ((v0_2 p1 p2) &&& (63 : Int32))), (.int (64960 : Int32))])
          refine Go.of (fun _ k => XS.iadd X0.here hx rfl (hb hby at_69) rfl k) ?_
          show Go p e below W T0 (mkF m 70 #[.val (.int p1), .val (.int p2), .val (.int (v0_1 p1 p2)), .val (.int (v0_2 p1 p2)), .val (.int (v0_4 p1 p2)), .unset, .unset, .unset, .unset, .unset] [(.int ((64960 : Int32) + ((v0_2 p1 p2) &&& (63 : Int32))))])
          refine Go.of (fun _ k => XS.istore X0.here hx rfl (hb hby at_70) rfl (l' := #[.val (.int p1), .val (.int p2), .val (.int (v0_1 p1 p2)), .val (.int (v0_2 p1 p2)), .val (.int (v0_4 p1 p2)), .val (.int (v0_8 p1 p2)), .unset, .unset, .unset, .unset]) rfl k) ?_
          show Go p e below W T0 (mkF m 72 #[.val (.int p1), .val (.int p2), .val (.int (v0_1 p1 p2)), .val (.int (v0_2 p1 p2)), .val (.int (v0_4 p1 p2)), .val (.int (v0_8 p1 p2)), .unset, .unset, .unset, .unset] [])
          refine Go.of (fun _ k => XS.goto X0.here hx rfl (pc0 := 72) (pc' := 81) rfl (hb hby at_72) (by decide) (by decide) k) ?_
          have G10 := G10
          have q_v0_11 : (v0_11 p1 p2) = (v0_8 p1 p2) := by rw [v0_11, if_neg c5, if_pos c6]
          rw [q_v0_11] at G10
          exact G10 _ X0 e0
        · refine Go.of (fun _ k => XS.icmpYes X0.here hx rfl (pc0 := 60) (pc' := 75) rfl (hb hby at_60) rfl (Jvm.Free.XT.ii_ne_t c6) (by decide) (by decide) k) ?_
          show Go p e below W T0 (mkF m 75 #[.val (.int p1), .val (.int p2), .val (.int (v0_1 p1 p2)), .val (.int (v0_2 p1 p2)), .val (.int (v0_4 p1 p2)), .unset, .unset, .unset, .unset, .unset] [])
          refine Go.of (fun _ k => XS.iloadN X0.here hx rfl (hb hby at_75) rfl k) ?_
          show Go p e below W T0 (mkF m 76 #[.val (.int p1), .val (.int p2), .val (.int (v0_1 p1 p2)), .val (.int (v0_2 p1 p2)), .val (.int (v0_4 p1 p2)), .unset, .unset, .unset, .unset, .unset] [(.int (v0_2 p1 p2))])
          refine Go.of (fun _ k => X0.ldcI hx hown (mvT hZ (hw _ (List.mem_of_getElem? (i := 10) rfl))) rfl (hb hby at_76) k) ?_
          show Go p e below W T0 (mkF m 78 #[.val (.int p1), .val (.int p2), .val (.int (v0_1 p1 p2)), .val (.int (v0_2 p1 p2)), .val (.int (v0_4 p1 p2)), .unset, .unset, .unset, .unset, .unset] [(.int (65535 : Int32)), (.int (v0_2 p1 p2))])
          refine Go.of (fun _ k => XS.iand X0.here hx rfl (hb hby at_78) rfl k) ?_
          show Go p e below W T0 (mkF m 79 #[.val (.int p1), .val (.int p2), .val (.int (v0_1 p1 p2)), .val (.int (v0_2 p1 p2)), .val (.int (v0_4 p1 p2)), .unset, .unset, .unset, .unset, .unset] [(.int ((v0_2 p1 p2) &&& (65535 : Int32)))])
          refine Go.of (fun _ k => XS.istore X0.here hx rfl (hb hby at_79) rfl (l' := #[.val (.int p1), .val (.int p2), .val (.int (v0_1 p1 p2)), .val (.int (v0_2 p1 p2)), .val (.int (v0_4 p1 p2)), .val (.int (v0_7 p1 p2)), .unset, .unset, .unset, .unset]) rfl k) ?_
          have G10 := G10
          have q_v0_11 : (v0_11 p1 p2) = (v0_7 p1 p2) := by rw [v0_11, if_neg c5, if_neg c6]
          rw [q_v0_11] at G10
          exact G10 _ X0 e0
    intro T10 X10 e10
    show Go p e below W T10 (mkF m 81 #[.val (.int p1), .val (.int p2), .val (.int (v0_1 p1 p2)), .val (.int (v0_2 p1 p2)), .val (.int (v0_4 p1 p2)), .val (.int (v0_11 p1 p2)), .unset, .unset, .unset, .unset] [])
    refine Go.of (fun _ k => XS.iload X10.here hx rfl (hb hby at_81) rfl k) ?_
    show Go p e below W T10 (mkF m 83 #[.val (.int p1), .val (.int p2), .val (.int (v0_1 p1 p2)), .val (.int (v0_2 p1 p2)), .val (.int (v0_4 p1 p2)), .val (.int (v0_11 p1 p2)), .unset, .unset, .unset, .unset] [(.int (v0_4 p1 p2))])
    refine Go.of (fun _ k => X10.ldcI hx hown (mvT hZ (hw _ (List.mem_of_getElem? (i := 8) rfl))) rfl (hb hby at_83) k) ?_
    show Go p e below W T10 (mkF m 85 #[.val (.int p1), .val (.int p2), .val (.int (v0_1 p1 p2)), .val (.int (v0_2 p1 p2)), .val (.int (v0_4 p1 p2)), .val (.int (v0_11 p1 p2)), .unset, .unset, .unset, .unset] [(.int (65536 : Int32)), (.int (v0_4 p1 p2))])
    refine Go.of (fun _ k => XS.imul X10.here hx rfl (hb hby at_85) rfl k) ?_
    show Go p e below W T10 (mkF m 86 #[.val (.int p1), .val (.int p2), .val (.int (v0_1 p1 p2)), .val (.int (v0_2 p1 p2)), .val (.int (v0_4 p1 p2)), .val (.int (v0_11 p1 p2)), .unset, .unset, .unset, .unset] [(.int ((v0_4 p1 p2) * (65536 : Int32)))])
    refine Go.of (fun _ k => XS.iload X10.here hx rfl (hb hby at_86) rfl k) ?_
    show Go p e below W T10 (mkF m 88 #[.val (.int p1), .val (.int p2), .val (.int (v0_1 p1 p2)), .val (.int (v0_2 p1 p2)), .val (.int (v0_4 p1 p2)), .val (.int (v0_11 p1 p2)), .unset, .unset, .unset, .unset] [(.int (v0_11 p1 p2)), (.int ((v0_4 p1 p2) * (65536 : Int32)))])
    refine Go.of (fun _ k => XS.iadd X10.here hx rfl (hb hby at_88) rfl k) ?_
    show Go p e below W T10 (mkF m 89 #[.val (.int p1), .val (.int p2), .val (.int (v0_1 p1 p2)), .val (.int (v0_2 p1 p2)), .val (.int (v0_4 p1 p2)), .val (.int (v0_11 p1 p2)), .unset, .unset, .unset, .unset] [(.int (((v0_4 p1 p2) * (65536 : Int32)) + (v0_11 p1 p2)))])
    refine Go.of (fun _ k => XS.istore X10.here hx rfl (hb hby at_89) rfl (l' := #[.val (.int p1), .val (.int p2), .val (.int (v0_1 p1 p2)), .val (.int (v0_2 p1 p2)), .val (.int (v0_4 p1 p2)), .val (.int (v0_11 p1 p2)), .val (.int (v0_12 p1 p2)), .unset, .unset, .unset]) rfl k) ?_
    show Go p e below W T10 (mkF m 91 #[.val (.int p1), .val (.int p2), .val (.int (v0_1 p1 p2)), .val (.int (v0_2 p1 p2)), .val (.int (v0_4 p1 p2)), .val (.int (v0_11 p1 p2)), .val (.int (v0_12 p1 p2)), .unset, .unset, .unset] [])
    refine Go.of (fun _ k => XS.iload X10.here hx rfl (hb hby at_91) rfl k) ?_
    show Go p e below W T10 (mkF m 93 #[.val (.int p1), .val (.int p2), .val (.int (v0_1 p1 p2)), .val (.int (v0_2 p1 p2)), .val (.int (v0_4 p1 p2)), .val (.int (v0_11 p1 p2)), .val (.int (v0_12 p1 p2)), .unset, .unset, .unset] [(.int (v0_4 p1 p2))])
    suffices G16 : ∀ T', Stand p l e room_1 s m #[(.int p1), (.int p2)] below meth c T' [] 0 0 → T'.heap = h0 → Go p e below W T' (mkF m 115 #[.val (.int p1), .val (.int p2), .val (.int (v0_1 p1 p2)), .val (.int (v0_2 p1 p2)), .val (.int (v0_4 p1 p2)), .val (.int (v0_11 p1 p2)), .val (.int (v0_12 p1 p2)), .unset, .unset, .unset] [(.int (v0_17 p1 p2))]) by
      by_cases c13 : (v0_4 p1 p2) = (0 : Int32)
      · refine Go.of (fun _ k => XS.ifNo X10.here hx rfl (hb hby at_93) rfl (Jvm.Free.XT.i0_ne_f c13) k) ?_
        show Go p e below W T10 (mkF m 96 #[.val (.int p1), .val (.int p2), .val (.int (v0_1 p1 p2)), .val (.int (v0_2 p1 p2)), .val (.int (v0_4 p1 p2)), .val (.int (v0_11 p1 p2)), .val (.int (v0_12 p1 p2)), .unset, .unset, .unset] [])
        refine Go.of (fun _ k => XS.iload X10.here hx rfl (hb hby at_96) rfl k) ?_
        show Go p e below W T10 (mkF m 98 #[.val (.int p1), .val (.int p2), .val (.int (v0_1 p1 p2)), .val (.int (v0_2 p1 p2)), .val (.int (v0_4 p1 p2)), .val (.int (v0_11 p1 p2)), .val (.int (v0_12 p1 p2)), .unset, .unset, .unset] [(.int (v0_11 p1 p2))])
        refine Go.of (fun _ k => X10.ldcI hx hown (mvT hZ (hw _ (List.mem_of_getElem? (i := 14) rfl))) rfl (hb hby at_98) k) ?_
        show Go p e below W T10 (mkF m 100 #[.val (.int p1), .val (.int p2), .val (.int (v0_1 p1 p2)), .val (.int (v0_2 p1 p2)), .val (.int (v0_4 p1 p2)), .val (.int (v0_11 p1 p2)), .val (.int (v0_12 p1 p2)), .unset, .unset, .unset] [(.int (64976 : Int32)), (.int (v0_11 p1 p2))])
        by_cases c14 : (v0_11 p1 p2) < (64976 : Int32)
        · refine Go.of (fun _ k => XS.icmpYes X10.here hx rfl (pc0 := 100) (pc' := 114) rfl (hb hby at_100) rfl (Jvm.Free.XT.ii_lt_t c14) (by decide) (by decide) k) ?_
          show Go p e below W T10 (mkF m 114 #[.val (.int p1), .val (.int p2), .val (.int (v0_1 p1 p2)), .val (.int (v0_2 p1 p2)), .val (.int (v0_4 p1 p2)), .val (.int (v0_11 p1 p2)), .val (.int (v0_12 p1 p2)), .unset, .unset, .unset] [])
          refine Go.of (fun _ k => XS.iconst X10.here hx rfl (hb hby at_114) k) ?_
          have G16 := G16
          have q_v0_17 : (v0_17 p1 p2) = (0 : Int32) := by rw [v0_17, if_pos c13, if_pos c14]
          rw [q_v0_17] at G16
          exact G16 _ X10 e10
        · refine Go.of (fun _ k => XS.icmpNo X10.here hx rfl (hb hby at_100) rfl (Jvm.Free.XT.ii_lt_f c14) k) ?_
          show Go p e below W T10 (mkF m 103 #[.val (.int p1), .val (.int p2), .val (.int (v0_1 p1 p2)), .val (.int (v0_2 p1 p2)), .val (.int (v0_4 p1 p2)), .val (.int (v0_11 p1 p2)), .val (.int (v0_12 p1 p2)), .unset, .unset, .unset] [])
          refine Go.of (fun _ k => XS.iload X10.here hx rfl (hb hby at_103) rfl k) ?_
          show Go p e below W T10 (mkF m 105 #[.val (.int p1), .val (.int p2), .val (.int (v0_1 p1 p2)), .val (.int (v0_2 p1 p2)), .val (.int (v0_4 p1 p2)), .val (.int (v0_11 p1 p2)), .val (.int (v0_12 p1 p2)), .unset, .unset, .unset] [(.int (v0_11 p1 p2))])
          refine Go.of (fun _ k => X10.ldcI hx hown (mvT hZ (hw _ (List.mem_of_getElem? (i := 15) rfl))) rfl (hb hby at_105) k) ?_
          show Go p e below W T10 (mkF m 107 #[.val (.int p1), .val (.int p2), .val (.int (v0_1 p1 p2)), .val (.int (v0_2 p1 p2)), .val (.int (v0_4 p1 p2)), .val (.int (v0_11 p1 p2)), .val (.int (v0_12 p1 p2)), .unset, .unset, .unset] [(.int (65007 : Int32)), (.int (v0_11 p1 p2))])
          by_cases c15 : (65007 : Int32) < (v0_11 p1 p2)
          · refine Go.of (fun _ k => XS.icmpYes X10.here hx rfl (pc0 := 107) (pc' := 114) rfl (hb hby at_107) rfl (Jvm.Free.XT.ii_gt_t c15) (by decide) (by decide) k) ?_
            show Go p e below W T10 (mkF m 114 #[.val (.int p1), .val (.int p2), .val (.int (v0_1 p1 p2)), .val (.int (v0_2 p1 p2)), .val (.int (v0_4 p1 p2)), .val (.int (v0_11 p1 p2)), .val (.int (v0_12 p1 p2)), .unset, .unset, .unset] [])
            refine Go.of (fun _ k => XS.iconst X10.here hx rfl (hb hby at_114) k) ?_
            have G16 := G16
            have q_v0_17 : (v0_17 p1 p2) = (0 : Int32) := by rw [v0_17, if_pos c13, if_neg c14, if_pos c15]
            rw [q_v0_17] at G16
            exact G16 _ X10 e10
          · refine Go.of (fun _ k => XS.icmpNo X10.here hx rfl (hb hby at_107) rfl (Jvm.Free.XT.ii_gt_f c15) k) ?_
            show Go p e below W T10 (mkF m 110 #[.val (.int p1), .val (.int p2), .val (.int (v0_1 p1 p2)), .val (.int (v0_2 p1 p2)), .val (.int (v0_4 p1 p2)), .val (.int (v0_11 p1 p2)), .val (.int (v0_12 p1 p2)), .unset, .unset, .unset] [])
            refine Go.of (fun _ k => XS.iconst X10.here hx rfl (hb hby at_110) k) ?_
            show Go p e below W T10 (mkF m 111 #[.val (.int p1), .val (.int p2), .val (.int (v0_1 p1 p2)), .val (.int (v0_2 p1 p2)), .val (.int (v0_4 p1 p2)), .val (.int (v0_11 p1 p2)), .val (.int (v0_12 p1 p2)), .unset, .unset, .unset] [(.int (1 : Int32))])
            refine Go.of (fun _ k => XS.goto X10.here hx rfl (pc0 := 111) (pc' := 115) rfl (hb hby at_111) (by decide) (by decide) k) ?_
            have G16 := G16
            have q_v0_17 : (v0_17 p1 p2) = (1 : Int32) := by rw [v0_17, if_pos c13, if_neg c14, if_neg c15]
            rw [q_v0_17] at G16
            exact G16 _ X10 e10
      · refine Go.of (fun _ k => XS.ifYes X10.here hx rfl (pc0 := 93) (pc' := 114) rfl (hb hby at_93) rfl (Jvm.Free.XT.i0_ne_t c13) (by decide) (by decide) k) ?_
        show Go p e below W T10 (mkF m 114 #[.val (.int p1), .val (.int p2), .val (.int (v0_1 p1 p2)), .val (.int (v0_2 p1 p2)), .val (.int (v0_4 p1 p2)), .val (.int (v0_11 p1 p2)), .val (.int (v0_12 p1 p2)), .unset, .unset, .unset] [])
        refine Go.of (fun _ k => XS.iconst X10.here hx rfl (hb hby at_114) k) ?_
        have G16 := G16
        have q_v0_17 : (v0_17 p1 p2) = (0 : Int32) := by rw [v0_17, if_neg c13]
        rw [q_v0_17] at G16
        exact G16 _ X10 e10
    intro T16 X16 e16
    show Go p e below W T16 (mkF m 115 #[.val (.int p1), .val (.int p2), .val (.int (v0_1 p1 p2)), .val (.int (v0_2 p1 p2)), .val (.int (v0_4 p1 p2)), .val (.int (v0_11 p1 p2)), .val (.int (v0_12 p1 p2)), .unset, .unset, .unset] [(.int (v0_17 p1 p2))])
    refine Go.of (fun _ k => XS.istore X16.here hx rfl (hb hby at_115) rfl (l' := #[.val (.int p1), .val (.int p2), .val (.int (v0_1 p1 p2)), .val (.int (v0_2 p1 p2)), .val (.int (v0_4 p1 p2)), .val (.int (v0_11 p1 p2)), .val (.int (v0_12 p1 p2)), .val (.int (v0_17 p1 p2)), .unset, .unset]) rfl k) ?_
    show Go p e below W T16 (mkF m 117 #[.val (.int p1), .val (.int p2), .val (.int (v0_1 p1 p2)), .val (.int (v0_2 p1 p2)), .val (.int (v0_4 p1 p2)), .val (.int (v0_11 p1 p2)), .val (.int (v0_12 p1 p2)), .val (.int (v0_17 p1 p2)), .unset, .unset] [])
    refine Go.of (fun _ k => XS.iload X16.here hx rfl (hb hby at_117) rfl k) ?_
    show Go p e below W T16 (mkF m 119 #[.val (.int p1), .val (.int p2), .val (.int (v0_1 p1 p2)), .val (.int (v0_2 p1 p2)), .val (.int (v0_4 p1 p2)), .val (.int (v0_11 p1 p2)), .val (.int (v0_12 p1 p2)), .val (.int (v0_17 p1 p2)), .unset, .unset] [(.int (v0_11 p1 p2))])
    refine Go.of (fun _ k => X16.ldcI hx hown (mvT hZ (hw _ (List.mem_of_getElem? (i := 9) rfl))) rfl (hb hby at_119) k) ?_
    show Go p e below W T16 (mkF m 121 #[.val (.int p1), .val (.int p2), .val (.int (v0_1 p1 p2)), .val (.int (v0_2 p1 p2)), .val (.int (v0_4 p1 p2)), .val (.int (v0_11 p1 p2)), .val (.int (v0_12 p1 p2)), .val (.int (v0_17 p1 p2)), .unset, .unset] [(.int (65534 : Int32)), (.int (v0_11 p1 p2))])
    suffices G20 : ∀ T', Stand p l e room_1 s m #[(.int p1), (.int p2)] below meth c T' [] 0 0 → T'.heap = h0 → Go p e below W T' (mkF m 136 #[.val (.int p1), .val (.int p2), .val (.int (v0_1 p1 p2)), .val (.int (v0_2 p1 p2)), .val (.int (v0_4 p1 p2)), .val (.int (v0_11 p1 p2)), .val (.int (v0_12 p1 p2)), .val (.int (v0_17 p1 p2)), .unset, .unset] [(.int (v0_21 p1 p2))]) by
      by_cases c18 : (v0_11 p1 p2) = (65534 : Int32)
      · refine Go.of (fun _ k => XS.icmpYes X16.here hx rfl (pc0 := 121) (pc' := 131) rfl (hb hby at_121) rfl (Jvm.Free.XT.ii_eq_t c18) (by decide) (by decide) k) ?_
        show Go p e below W T16 (mkF m 131 #[.val (.int p1), .val (.int p2), .val (.int (v0_1 p1 p2)), .val (.int (v0_2 p1 p2)), .val (.int (v0_4 p1 p2)), .val (.int (v0_11 p1 p2)), .val (.int (v0_12 p1 p2)), .val (.int (v0_17 p1 p2)), .unset, .unset] [])
        refine Go.of (fun _ k => XS.iconst X16.here hx rfl (hb hby at_131) k) ?_
        show Go p e below W T16 (mkF m 132 #[.val (.int p1), .val (.int p2), .val (.int (v0_1 p1 p2)), .val (.int (v0_2 p1 p2)), .val (.int (v0_4 p1 p2)), .val (.int (v0_11 p1 p2)), .val (.int (v0_12 p1 p2)), .val (.int (v0_17 p1 p2)), .unset, .unset] [(.int (1 : Int32))])
        refine Go.of (fun _ k => XS.goto X16.here hx rfl (pc0 := 132) (pc' := 136) rfl (hb hby at_132) (by decide) (by decide) k) ?_
        have G20 := G20
        have q_v0_21 : (v0_21 p1 p2) = (1 : Int32) := by rw [v0_21, if_pos c18]
        rw [q_v0_21] at G20
        exact G20 _ X16 e16
      · refine Go.of (fun _ k => XS.icmpNo X16.here hx rfl (hb hby at_121) rfl (Jvm.Free.XT.ii_eq_f c18) k) ?_
        show Go p e below W T16 (mkF m 124 #[.val (.int p1), .val (.int p2), .val (.int (v0_1 p1 p2)), .val (.int (v0_2 p1 p2)), .val (.int (v0_4 p1 p2)), .val (.int (v0_11 p1 p2)), .val (.int (v0_12 p1 p2)), .val (.int (v0_17 p1 p2)), .unset, .unset] [])
        refine Go.of (fun _ k => XS.iload X16.here hx rfl (hb hby at_124) rfl k) ?_
        show Go p e below W T16 (mkF m 126 #[.val (.int p1), .val (.int p2), .val (.int (v0_1 p1 p2)), .val (.int (v0_2 p1 p2)), .val (.int (v0_4 p1 p2)), .val (.int (v0_11 p1 p2)), .val (.int (v0_12 p1 p2)), .val (.int (v0_17 p1 p2)), .unset, .unset] [(.int (v0_11 p1 p2))])
        refine Go.of (fun _ k => X16.ldcI hx hown (mvT hZ (hw _ (List.mem_of_getElem? (i := 10) rfl))) rfl (hb hby at_126) k) ?_
        show Go p e below W T16 (mkF m 128 #[.val (.int p1), .val (.int p2), .val (.int (v0_1 p1 p2)), .val (.int (v0_2 p1 p2)), .val (.int (v0_4 p1 p2)), .val (.int (v0_11 p1 p2)), .val (.int (v0_12 p1 p2)), .val (.int (v0_17 p1 p2)), .unset, .unset] [(.int (65535 : Int32)), (.int (v0_11 p1 p2))])
        by_cases c19 : (v0_11 p1 p2) = (65535 : Int32)
        · refine Go.of (fun _ k => XS.icmpNo X16.here hx rfl (hb hby at_128) rfl (Jvm.Free.XT.ii_ne_f c19) k) ?_
          show Go p e below W T16 (mkF m 131 #[.val (.int p1), .val (.int p2), .val (.int (v0_1 p1 p2)), .val (.int (v0_2 p1 p2)), .val (.int (v0_4 p1 p2)), .val (.int (v0_11 p1 p2)), .val (.int (v0_12 p1 p2)), .val (.int (v0_17 p1 p2)), .unset, .unset] [])
          refine Go.of (fun _ k => XS.iconst X16.here hx rfl (hb hby at_131) k) ?_
          show Go p e below W T16 (mkF m 132 #[.val (.int p1), .val (.int p2), .val (.int (v0_1 p1 p2)), .val (.int (v0_2 p1 p2)), .val (.int (v0_4 p1 p2)), .val (.int (v0_11 p1 p2)), .val (.int (v0_12 p1 p2)), .val (.int (v0_17 p1 p2)), .unset, .unset] [(.int (1 : Int32))])
          refine Go.of (fun _ k => XS.goto X16.here hx rfl (pc0 := 132) (pc' := 136) rfl (hb hby at_132) (by decide) (by decide) k) ?_
          have G20 := G20
          have q_v0_21 : (v0_21 p1 p2) = (1 : Int32) := by rw [v0_21, if_neg c18, if_pos c19]
          rw [q_v0_21] at G20
          exact G20 _ X16 e16
        · refine Go.of (fun _ k => XS.icmpYes X16.here hx rfl (pc0 := 128) (pc' := 135) rfl (hb hby at_128) rfl (Jvm.Free.XT.ii_ne_t c19) (by decide) (by decide) k) ?_
          show Go p e below W T16 (mkF m 135 #[.val (.int p1), .val (.int p2), .val (.int (v0_1 p1 p2)), .val (.int (v0_2 p1 p2)), .val (.int (v0_4 p1 p2)), .val (.int (v0_11 p1 p2)), .val (.int (v0_12 p1 p2)), .val (.int (v0_17 p1 p2)), .unset, .unset] [])
          refine Go.of (fun _ k => XS.iconst X16.here hx rfl (hb hby at_135) k) ?_
          have G20 := G20
          have q_v0_21 : (v0_21 p1 p2) = (0 : Int32) := by rw [v0_21, if_neg c18, if_neg c19]
          rw [q_v0_21] at G20
          exact G20 _ X16 e16
    intro T20 X20 e20
    show Go p e below W T20 (mkF m 136 #[.val (.int p1), .val (.int p2), .val (.int (v0_1 p1 p2)), .val (.int (v0_2 p1 p2)), .val (.int (v0_4 p1 p2)), .val (.int (v0_11 p1 p2)), .val (.int (v0_12 p1 p2)), .val (.int (v0_17 p1 p2)), .unset, .unset] [(.int (v0_21 p1 p2))])
    refine Go.of (fun _ k => XS.istore X20.here hx rfl (hb hby at_136) rfl (l' := #[.val (.int p1), .val (.int p2), .val (.int (v0_1 p1 p2)), .val (.int (v0_2 p1 p2)), .val (.int (v0_4 p1 p2)), .val (.int (v0_11 p1 p2)), .val (.int (v0_12 p1 p2)), .val (.int (v0_17 p1 p2)), .val (.int (v0_21 p1 p2)), .unset]) rfl k) ?_
    show Go p e below W T20 (mkF m 138 #[.val (.int p1), .val (.int p2), .val (.int (v0_1 p1 p2)), .val (.int (v0_2 p1 p2)), .val (.int (v0_4 p1 p2)), .val (.int (v0_11 p1 p2)), .val (.int (v0_12 p1 p2)), .val (.int (v0_17 p1 p2)), .val (.int (v0_21 p1 p2)), .unset] [])
    refine Go.of (fun _ k => XS.iload X20.here hx rfl (hb hby at_138) rfl k) ?_
    show Go p e below W T20 (mkF m 140 #[.val (.int p1), .val (.int p2), .val (.int (v0_1 p1 p2)), .val (.int (v0_2 p1 p2)), .val (.int (v0_4 p1 p2)), .val (.int (v0_11 p1 p2)), .val (.int (v0_12 p1 p2)), .val (.int (v0_17 p1 p2)), .val (.int (v0_21 p1 p2)), .unset] [(.int (v0_17 p1 p2))])
    suffices G24 : ∀ T', Stand p l e room_1 s m #[(.int p1), (.int p2)] below meth c T' [] 0 0 → T'.heap = h0 → Go p e below W T' (mkF m 153 #[.val (.int p1), .val (.int p2), .val (.int (v0_1 p1 p2)), .val (.int (v0_2 p1 p2)), .val (.int (v0_4 p1 p2)), .val (.int (v0_11 p1 p2)), .val (.int (v0_12 p1 p2)), .val (.int (v0_17 p1 p2)), .val (.int (v0_21 p1 p2)), .unset] [(.int (v0_25 p1 p2))]) by
      by_cases c22 : (v0_17 p1 p2) = (0 : Int32)
      · refine Go.of (fun _ k => XS.ifNo X20.here hx rfl (hb hby at_140) rfl (Jvm.Free.XT.i0_ne_f c22) k) ?_
        show Go p e below W T20 (mkF m 143 #[.val (.int p1), .val (.int p2), .val (.int (v0_1 p1 p2)), .val (.int (v0_2 p1 p2)), .val (.int (v0_4 p1 p2)), .val (.int (v0_11 p1 p2)), .val (.int (v0_12 p1 p2)), .val (.int (v0_17 p1 p2)), .val (.int (v0_21 p1 p2)), .unset] [])
        refine Go.of (fun _ k => XS.iload X20.here hx rfl (hb hby at_143) rfl k) ?_
        show Go p e below W T20 (mkF m 145 #[.val (.int p1), .val (.int p2), .val (.int (v0_1 p1 p2)), .val (.int (v0_2 p1 p2)), .val (.int (v0_4 p1 p2)), .val (.int (v0_11 p1 p2)), .val (.int (v0_12 p1 p2)), .val (.int (v0_17 p1 p2)), .val (.int (v0_21 p1 p2)), .unset] [(.int (v0_21 p1 p2))])
        by_cases c23 : (v0_21 p1 p2) = (0 : Int32)
        · refine Go.of (fun _ k => XS.ifYes X20.here hx rfl (pc0 := 145) (pc' := 152) rfl (hb hby at_145) rfl (Jvm.Free.XT.i0_eq_t c23) (by decide) (by decide) k) ?_
          show Go p e below W T20 (mkF m 152 #[.val (.int p1), .val (.int p2), .val (.int (v0_1 p1 p2)), .val (.int (v0_2 p1 p2)), .val (.int (v0_4 p1 p2)), .val (.int (v0_11 p1 p2)), .val (.int (v0_12 p1 p2)), .val (.int (v0_17 p1 p2)), .val (.int (v0_21 p1 p2)), .unset] [])
          refine Go.of (fun _ k => XS.iconst X20.here hx rfl (hb hby at_152) k) ?_
          have G24 := G24
          have q_v0_25 : (v0_25 p1 p2) = (0 : Int32) := by rw [v0_25, if_pos c22, if_pos c23]
          rw [q_v0_25] at G24
          exact G24 _ X20 e20
        · refine Go.of (fun _ k => XS.ifNo X20.here hx rfl (hb hby at_145) rfl (Jvm.Free.XT.i0_eq_f c23) k) ?_
          show Go p e below W T20 (mkF m 148 #[.val (.int p1), .val (.int p2), .val (.int (v0_1 p1 p2)), .val (.int (v0_2 p1 p2)), .val (.int (v0_4 p1 p2)), .val (.int (v0_11 p1 p2)), .val (.int (v0_12 p1 p2)), .val (.int (v0_17 p1 p2)), .val (.int (v0_21 p1 p2)), .unset] [])
          refine Go.of (fun _ k => XS.iconst X20.here hx rfl (hb hby at_148) k) ?_
          show Go p e below W T20 (mkF m 149 #[.val (.int p1), .val (.int p2), .val (.int (v0_1 p1 p2)), .val (.int (v0_2 p1 p2)), .val (.int (v0_4 p1 p2)), .val (.int (v0_11 p1 p2)), .val (.int (v0_12 p1 p2)), .val (.int (v0_17 p1 p2)), .val (.int (v0_21 p1 p2)), .unset] [(.int (1 : Int32))])
          refine Go.of (fun _ k => XS.goto X20.here hx rfl (pc0 := 149) (pc' := 153) rfl (hb hby at_149) (by decide) (by decide) k) ?_
          have G24 := G24
          have q_v0_25 : (v0_25 p1 p2) = (1 : Int32) := by rw [v0_25, if_pos c22, if_neg c23]
          rw [q_v0_25] at G24
          exact G24 _ X20 e20
      · refine Go.of (fun _ k => XS.ifYes X20.here hx rfl (pc0 := 140) (pc' := 148) rfl (hb hby at_140) rfl (Jvm.Free.XT.i0_ne_t c22) (by decide) (by decide) k) ?_
        show Go p e below W T20 (mkF m 148 #[.val (.int p1), .val (.int p2), .val (.int (v0_1 p1 p2)), .val (.int (v0_2 p1 p2)), .val (.int (v0_4 p1 p2)), .val (.int (v0_11 p1 p2)), .val (.int (v0_12 p1 p2)), .val (.int (v0_17 p1 p2)), .val (.int (v0_21 p1 p2)), .unset] [])
        refine Go.of (fun _ k => XS.iconst X20.here hx rfl (hb hby at_148) k) ?_
        show Go p e below W T20 (mkF m 149 #[.val (.int p1), .val (.int p2), .val (.int (v0_1 p1 p2)), .val (.int (v0_2 p1 p2)), .val (.int (v0_4 p1 p2)), .val (.int (v0_11 p1 p2)), .val (.int (v0_12 p1 p2)), .val (.int (v0_17 p1 p2)), .val (.int (v0_21 p1 p2)), .unset] [(.int (1 : Int32))])
        refine Go.of (fun _ k => XS.goto X20.here hx rfl (pc0 := 149) (pc' := 153) rfl (hb hby at_149) (by decide) (by decide) k) ?_
        have G24 := G24
        have q_v0_25 : (v0_25 p1 p2) = (1 : Int32) := by rw [v0_25, if_neg c22]
        rw [q_v0_25] at G24
        exact G24 _ X20 e20
    intro T24 X24 e24
    show Go p e below W T24 (mkF m 153 #[.val (.int p1), .val (.int p2), .val (.int (v0_1 p1 p2)), .val (.int (v0_2 p1 p2)), .val (.int (v0_4 p1 p2)), .val (.int (v0_11 p1 p2)), .val (.int (v0_12 p1 p2)), .val (.int (v0_17 p1 p2)), .val (.int (v0_21 p1 p2)), .unset] [(.int (v0_25 p1 p2))])
    refine Go.of (fun _ k => XS.istore X24.here hx rfl (hb hby at_153) rfl (l' := #[.val (.int p1), .val (.int p2), .val (.int (v0_1 p1 p2)), .val (.int (v0_2 p1 p2)), .val (.int (v0_4 p1 p2)), .val (.int (v0_11 p1 p2)), .val (.int (v0_12 p1 p2)), .val (.int (v0_17 p1 p2)), .val (.int (v0_21 p1 p2)), .val (.int (v0_25 p1 p2))]) rfl k) ?_
    show Go p e below W T24 (mkF m 155 #[.val (.int p1), .val (.int p2), .val (.int (v0_1 p1 p2)), .val (.int (v0_2 p1 p2)), .val (.int (v0_4 p1 p2)), .val (.int (v0_11 p1 p2)), .val (.int (v0_12 p1 p2)), .val (.int (v0_17 p1 p2)), .val (.int (v0_21 p1 p2)), .val (.int (v0_25 p1 p2))] [])
    refine Go.of (fun _ k => XS.iload X24.here hx rfl (hb hby at_155) rfl k) ?_
    show Go p e below W T24 (mkF m 157 #[.val (.int p1), .val (.int p2), .val (.int (v0_1 p1 p2)), .val (.int (v0_2 p1 p2)), .val (.int (v0_4 p1 p2)), .val (.int (v0_11 p1 p2)), .val (.int (v0_12 p1 p2)), .val (.int (v0_17 p1 p2)), .val (.int (v0_21 p1 p2)), .val (.int (v0_25 p1 p2))] [(.int (v0_12 p1 p2))])
    refine Go.callP X24 hx hZ hown (hw _ (List.mem_of_getElem? (i := 1) rfl)) (hw _ (List.mem_of_getElem? (i := 2) rfl)) (hw _ (List.mem_of_getElem? (i := 3) rfl)) (hw _ (List.mem_of_getElem? (i := 4) rfl)) (by decide) e24 (rm1 l Z a0 hw [] (v0_12 p1 p2) h0) (V := 0) (by decide) (by decide) rfl rfl (by decide) (by decide) (by rw [hml]; rfl) (argsL := [(.int (v0_12 p1 p2))]) (rest := []) rfl (lenOf pd__I_Z rfl) rfl (Nat.le_of_ble_eq_true rfl) (hb hby at_157) ?_
    intro T26 X26 e26
    show Go p e below W T26 (mkF m 160 #[.val (.int p1), .val (.int p2), .val (.int (v0_1 p1 p2)), .val (.int (v0_2 p1 p2)), .val (.int (v0_4 p1 p2)), .val (.int (v0_11 p1 p2)), .val (.int (v0_12 p1 p2)), .val (.int (v0_17 p1 p2)), .val (.int (v0_21 p1 p2)), .val (.int (v0_25 p1 p2))] [(.int (f1 (v0_12 p1 p2)))])
    refine Go.of (fun _ k => XS.iload X26.here hx rfl (hb hby at_160) rfl k) ?_
    show Go p e below W T26 (mkF m 162 #[.val (.int p1), .val (.int p2), .val (.int (v0_1 p1 p2)), .val (.int (v0_2 p1 p2)), .val (.int (v0_4 p1 p2)), .val (.int (v0_11 p1 p2)), .val (.int (v0_12 p1 p2)), .val (.int (v0_17 p1 p2)), .val (.int (v0_21 p1 p2)), .val (.int (v0_25 p1 p2))] [(.int (v0_25 p1 p2)), (.int (f1 (v0_12 p1 p2)))])
    by_cases c27 : (f1 (v0_12 p1 p2)) = (v0_25 p1 p2)
    · refine Go.of (fun _ k => XS.icmpNo X26.here hx rfl (hb hby at_162) rfl (Jvm.Free.XT.ii_ne_f c27) k) ?_
      show Go p e below W T26 (mkF m 165 #[.val (.int p1), .val (.int p2), .val (.int (v0_1 p1 p2)), .val (.int (v0_2 p1 p2)), .val (.int (v0_4 p1 p2)), .val (.int (v0_11 p1 p2)), .val (.int (v0_12 p1 p2)), .val (.int (v0_17 p1 p2)), .val (.int (v0_21 p1 p2)), .val (.int (v0_25 p1 p2))] [])
      refine Go.of (fun _ k => XS.iconst X26.here hx rfl (hb hby at_165) k) ?_
      show Go p e below W T26 (mkF m 166 #[.val (.int p1), .val (.int p2), .val (.int (v0_1 p1 p2)), .val (.int (v0_2 p1 p2)), .val (.int (v0_4 p1 p2)), .val (.int (v0_11 p1 p2)), .val (.int (v0_12 p1 p2)), .val (.int (v0_17 p1 p2)), .val (.int (v0_21 p1 p2)), .val (.int (v0_25 p1 p2))] [(.int (1 : Int32))])
      refine Go.of (fun _ k => XS.goto X26.here hx rfl (pc0 := 166) (pc' := 170) rfl (hb hby at_166) (by decide) (by decide) k) ?_
      show Go p e below W T26 (mkF m 170 #[.val (.int p1), .val (.int p2), .val (.int (v0_1 p1 p2)), .val (.int (v0_2 p1 p2)), .val (.int (v0_4 p1 p2)), .val (.int (v0_11 p1 p2)), .val (.int (v0_12 p1 p2)), .val (.int (v0_17 p1 p2)), .val (.int (v0_21 p1 p2)), .val (.int (v0_25 p1 p2))] [(.int (1 : Int32))])
      have q : (f0 p1 p2) = (1 : Int32) := by rw [f0, if_neg c3, if_pos c27]
      exact Go.retN X26 hx hret (Or.inl rfl) (hb hby at_170) hlk (Eq.trans rfl q.symm) (fun t ht fe => hW t _ _ _ _ ⟨rfl, rfl, ht.trans e26⟩ fe (by decide) (by decide))
    · refine Go.of (fun _ k => XS.icmpYes X26.here hx rfl (pc0 := 162) (pc' := 169) rfl (hb hby at_162) rfl (Jvm.Free.XT.ii_ne_t c27) (by decide) (by decide) k) ?_
      show Go p e below W T26 (mkF m 169 #[.val (.int p1), .val (.int p2), .val (.int (v0_1 p1 p2)), .val (.int (v0_2 p1 p2)), .val (.int (v0_4 p1 p2)), .val (.int (v0_11 p1 p2)), .val (.int (v0_12 p1 p2)), .val (.int (v0_17 p1 p2)), .val (.int (v0_21 p1 p2)), .val (.int (v0_25 p1 p2))] [])
      refine Go.of (fun _ k => XS.iconst X26.here hx rfl (hb hby at_169) k) ?_
      show Go p e below W T26 (mkF m 170 #[.val (.int p1), .val (.int p2), .val (.int (v0_1 p1 p2)), .val (.int (v0_2 p1 p2)), .val (.int (v0_4 p1 p2)), .val (.int (v0_11 p1 p2)), .val (.int (v0_12 p1 p2)), .val (.int (v0_17 p1 p2)), .val (.int (v0_21 p1 p2)), .val (.int (v0_25 p1 p2))] [(.int (0 : Int32))])
      have q : (f0 p1 p2) = (0 : Int32) := by rw [f0, if_neg c3, if_neg c27]
      exact Go.retN X26 hx hret (Or.inl rfl) (hb hby at_170) hlk (Eq.trans rfl q.symm) (fun t ht fe => hW t _ _ _ _ ⟨rfl, rfl, ht.trans e26⟩ fe (by decide) (by decide))
set_option maxRecDepth 65536 in
set_option maxHeartbeats 40000000 in
theorem comes_1 {Post : Tables → Env → Array Value → State → Outcome → State → Prop} (hpost : ∀ tb e args s v u, (limb_1_1.after args s (.returned v) u = true ∧ limb_1_2.after args s (.returned v) u = true ∧ True) → FrameEnd s (.returned v) u (Jvm.fieldLocs frame_1_writes args s ++ Jvm.arrayLocs frame_1_arrays args s ++ Jvm.staticLocs frame_1_statics s) 0 0 → Post tb e args s (.returned v) u) :
    ArmFor flags0 classFile x code maxLocals ret World_1 tables_1 room_1 Calls_1 rest_1 Pre_1 Post := by
  intro l hfl _ _ p e ha hc hk s m args below hf hA hF happ hP
  obtain ⟨hcalls, hrest, hpre⟩ := hP
  obtain ⟨-, -, -, hnamed, -, -, -, hat⟩ := (Spec.applies_iff hf).mp happ
  obtain ⟨hg, hn⟩ := and_e (Cond.before_iff.mp (show (Jvm.Cond.and given_1 narrow_1).before args s = true from hpre))
  obtain ⟨g0, y0⟩ := and_e hg
  obtain ⟨x0, y1⟩ := and_e y0
  obtain ⟨w0, w1, rfl⟩ : ∃ w0 w1 : Value, args = #[w0, w1] := by
    have hs : args.size = 2 := by simpa [Cond.value, given_1] using g0
    obtain ⟨L⟩ := args
    match L, hs with
    | [w0, w1], _ => exact ⟨w0, w1, rfl⟩
  have hw := fun d (hd : d ∈ tables_1) => atoms_spec (ws := Jvm.Cond.code x code maxLocals ret :: tables_1) hat d (List.mem_cons_of_mem _ hd)
  obtain ⟨i0, ei0⟩ := is_v x0
  obtain rfl : w0 = (.int i0) := Option.some.inj ei0
  obtain ⟨i1, ei1⟩ := is_v y1
  obtain rfl : w1 = (.int i1) := Option.some.inj ei1
  obtain ⟨n, o, h1, h2, h3, _, L, rfl, ⟨rfl, rfl, -⟩, hq⟩ := rm0 l s _ hw tables_1 i0 i1 s.heap p e ha hc hk s m _ below hf ((Spec.applies_iff_loose hf).mp happ).1 ⟨rfl, State.Warmed39.refl s, rfl⟩ trivial
  rw [own_law i0 i1] at h3 hq
  refine ⟨n, _, h1, h2, h3, hpost _ _ _ _ _ _ ⟨Cond.after_iff.mpr rfl, Cond.after_iff.mpr (eq_i res_at (Term.int_eval (1)) rfl), trivial⟩ ⟨hq.1, hq.2.1, (hq.2.2.sift fun y hy => nomatch hy).mono (by decide) (by decide)⟩⟩
theorem main_1_1 : Claimed_1_1 := comes_1 fun _ _ _ _ _ _ h hF => ⟨h.1, hF⟩
theorem main_1_2 : Claimed_1_2 := comes_1 fun _ _ _ _ _ _ h hF => ⟨h.2.1, hF⟩
end Jvm.Pilot.@@N@@
namespace Jvm.Pilot.@@N@@
open Jvm Jvm.ClassFile Sem Op Lib Jvm.Free Jvm.Stand Jvm.Pilot.@@N@@.Jvm.D
/-! MADE BY PROGRAM (witnessworld.py) out of the Statement's table words and the real class files: 7 classes; the members and pool entries that the words name. The judged class is class 1, her method 1. -/
namespace start1
open Jvm.ClassFile
def u (s : String) : CpInfo := .utf8 (stringToUtf16 s)
/-- a pool by its gaps: so many unusable entries, then the entry; so many at the end -/
def gap : Nat → List CpInfo → List CpInfo
  | 0, r => r
  | n + 1, r => .unusable :: gap n r
def poolList (es : List (Nat × CpInfo)) (last : Nat) : List CpInfo := es.foldr (fun e r => gap e.1 (e.2 :: r)) (gap last [])
def pool (es : List (Nat × CpInfo)) (last : Nat) : Array CpInfo := ⟨poolList es last⟩
def fileOf (pool : Array CpInfo) (this : Nat) (attrs : Array Attribute := #[]) (ms : Array MethodInfo := #[]) (fl : Nat := 33) (sup : Nat := 0) (ifs : Array Nat := #[]) (fds : Array FieldInfo := #[]) : ClassFile where
  minorVersion := 0
  majorVersion := 65
  constantPool := pool
  accessFlags := fl
  thisClass := this
  superClass := sup
  interfaces := ifs
  fields := fds
  methods := ms
  attributes := attrs
def plain (name : String) (sup : Option ClassId) : Class where
  name := name
  kind := .ordinary
  loader := none
  accessFlags := 33
  super := sup
  interfaces := #[]
  cf := none
  fields := #[]
  methods := #[]
  instanceTypes := #[]
  staticTypes := #[]
  resolved := #[]
  callSites := []
  init := .initialized
  statics := none
  mirror := none

def pool0 : Array CpInfo := pool [(5, u "<init>"), (0, u "()V"), (1, .class_ 10), (1, u "java/lang/Object")] 113

def k0m0 : Method := { name := "<init>", desc := "()V", sig := { parameters := [], returnType := none }, accessFlags := 1, code := none }
/-- java/lang/Object -/
def k0 : Class := { plain "java/lang/Object" none with
  accessFlags := 33
  interfaces := #[]
  cf := some (fileOf pool0 8 #[] #[{ accessFlags := 1, nameIndex := 5, descriptorIndex := 6, attributes := #[] }] 33 0 #[] #[])
  fields := #[]
  methods := #[k0m0]
  instanceTypes := #[]
  staticTypes := #[]
  resolved := Array.replicate 124 none
  statics := none }

def pool1 : Array CpInfo := pool [(2, .class_ 4), (1, u "java/lang/Object"), (0, u "<init>"), (0, u "()V"), (2, .integer 2147483648), (0, .methodref 11 12), (0, .class_ 13), (0, .nameAndType 14 15), (0, u "com/example/tok6/tok6/CodePoints"), (0, u "isNoncharacter"), (0, u "(I)Z"), (0, .integer 2147483647), (0, .integer 65520), (0, .integer 64960), (0, .integer 65535), (0, .integer 65536), (0, .integer 64976), (0, .integer 65007), (0, .integer 65534), (0, .class_ 25), (0, u "com/example/tok6/tok6/CodePointsIsNoncharacterPinLaw"), (2, u "law"), (0, u "(II)Z")] 3

def k1m0 : Method := { name := "<init>", desc := "()V", sig := { parameters := [], returnType := none }, accessFlags := 2, code := none }
def k1c1 : Code := { maxStack := 3, maxLocals := 10, code := code, exceptionTable := #[], attributes := #[] }
def k1m1 : Method := { name := "law", desc := "(II)Z", sig := { parameters := [.int, .int], returnType := some .boolean }, accessFlags := 9, code := some k1c1 }
/-- com/example/tok6/tok6/CodePointsIsNoncharacterPinLaw -/
def k1 : Class := { plain "com/example/tok6/tok6/CodePointsIsNoncharacterPinLaw" (some 0) with
  accessFlags := 49
  interfaces := #[]
  cf := some (fileOf pool1 24 #[] #[{ accessFlags := 2, nameIndex := 5, descriptorIndex := 6, attributes := #[] }, { accessFlags := 9, nameIndex := 28, descriptorIndex := 29, attributes := #[] }] 49 2 #[] #[])
  fields := #[]
  methods := #[k1m0, k1m1]
  instanceTypes := #[]
  staticTypes := #[]
  resolved := Array.replicate 33 none
  statics := none }

def pool2 : Array CpInfo := pool [(2, .class_ 4), (1, u "java/lang/Object"), (0, u "<init>"), (0, u "()V"), (4, .integer 64976), (0, .integer 65007), (0, .integer 65534), (1, .class_ 17), (1, u "com/example/tok6/tok6/CodePoints"), (1, u "(I)Z"), (8, u "isNoncharacter")] 7

def k2m0 : Method := { name := "<init>", desc := "()V", sig := { parameters := [], returnType := none }, accessFlags := 2, code := none }
def k2c1 : Code := { maxStack := 2, maxLocals := 1, code := prog_3_method_3_code, exceptionTable := #[], attributes := #[] }
def k2m1 : Method := { name := "isNoncharacter", desc := "(I)Z", sig := { parameters := [.int], returnType := some .boolean }, accessFlags := 8, code := some k2c1 }
/-- com/example/tok6/tok6/CodePoints -/
def k2 : Class := { plain "com/example/tok6/tok6/CodePoints" (some 0) with
  accessFlags := 48
  interfaces := #[]
  cf := some (fileOf pool2 15 #[] #[{ accessFlags := 2, nameIndex := 5, descriptorIndex := 6, attributes := #[] }, { accessFlags := 8, nameIndex := 28, descriptorIndex := 19, attributes := #[] }] 48 2 #[] #[])
  fields := #[]
  methods := #[k2m0, k2m1]
  instanceTypes := #[]
  staticTypes := #[]
  resolved := Array.replicate 36 none
  statics := none }

def pool3 : Array CpInfo := pool [(1, u "java/lang/Cloneable"), (0, .class_ 1), (0, u "java/lang/Object"), (0, .class_ 3)] 3

/-- java/lang/Cloneable -/
def k3 : Class := { plain "java/lang/Cloneable" (some 0) with
  accessFlags := 1537
  interfaces := #[]
  cf := some (fileOf pool3 2 #[] #[] 1537 4 #[] #[])
  fields := #[]
  methods := #[]
  instanceTypes := #[]
  staticTypes := #[]
  resolved := Array.replicate 8 none
  statics := none }

def pool4 : Array CpInfo := pool [(1, u "java/io/Serializable"), (0, .class_ 1), (0, u "java/lang/Object"), (0, .class_ 3)] 3

/-- java/io/Serializable -/
def k4 : Class := { plain "java/io/Serializable" (some 0) with
  accessFlags := 1537
  interfaces := #[]
  cf := some (fileOf pool4 2 #[] #[] 1537 4 #[] #[])
  fields := #[]
  methods := #[]
  instanceTypes := #[]
  staticTypes := #[]
  resolved := Array.replicate 8 none
  statics := none }

/-- the primitive byte -/
def k5 : Class := { plain "byte" none with kind := .primitive 'B', accessFlags := 0x411 }
/-- [B -/
def k6 : Class := { plain "[B" (some 0) with kind := .array 5 .byte, interfaces := #[3, 4], accessFlags := 1041 }

def heap : Heap := #[]
def classes : Array Class := #[k0, k1, k2, k3, k4, k5, k6]
def interned : List (Array UInt16 × Addr) := []
def slotsUsed : Nat := 0
def theMethod : MethodId := ⟨1, 1⟩
def args0 : Array Value := #[.int 5, .int 7]
def aboutOver (below : List Frame) : State where
  vm := { classes := classes, interned := interned.toArray }
  heap := heap
  slotsUsed := slotsUsed
  threads := #[{ frames := .invoking theMethod args0 :: below }]
def below0 : List Frame := [.native { method := ⟨0, 0⟩, args := #[] }]
def about1 : State := aboutOver below0
def p0 : Program := .bare "" "" ""
def e0 : Env := launch0.env 0 0 0
theorem w_frames : about1.frames = Frame.invoking theMethod args0 :: below0 := rfl
set_option maxRecDepth 65536 in
theorem w_args : argsFit about1.vm theMethod args0 = true := by decide +kernel
set_option maxRecDepth 65536 in
theorem w_heap : heapFits about1 = true := by decide +kernel
set_option maxRecDepth 65536 in
theorem w_runnable : about1.curStatus? = some .runnable := by decide +kernel
set_option maxRecDepth 65536 in
theorem w_alone : about1.alone = true := by decide +kernel
set_option maxRecDepth 65536 in
theorem w_named : about1.methodNamed? x = some theMethod := by decide +kernel
set_option maxRecDepth 65536 in
theorem w_hears : about1.hears theMethod below0 = true := by decide +kernel
set_option maxRecDepth 65536 in
theorem w_ripe : about1.ripe theMethod args0 below0 = true := by decide +kernel
theorem w_running : about1.status = .running := rfl
set_option maxRecDepth 65536 in
theorem w_room : about1.hasRoom e0.platform room_1 = true :=
  launch0.hasRoom_least _ room_1 (by decide +kernel) (by decide +kernel) (by decide +kernel) (by decide +kernel) (by decide +kernel) (by decide +kernel)
theorem allAtoms_all (ts : List Jvm.Cond) (a : Array Jvm.Value) (st : Jvm.State) : (allAtoms ts).before a st = ts.all (fun c => c.before a st) := by
  induction ts with
  | nil => rfl
  | cons c t ih =>
    show (Jvm.Cond.and c (allAtoms t)).before a st = _
    rw [Jvm.Cond.before_and, ih, List.all_cons]
def words1 : List Jvm.Cond := Jvm.Cond.code x code maxLocals ret :: tables_1
/-- a 'code' word, met by the world's own term for the bytes: nothing is compared byte by byte -/
theorem code_word {y : MethodName} {bytes : ByteArray} {mx : Nat} {rt : Option FieldType} {a : Array Value} {s : State} {m : MethodId} {meth : Method} {c : Code} (h1 : s.methodNamed? y = some m) (h2 : s.vm.method? m = some meth) (h3 : meth.code = some c) (h4 : c.code = bytes)
    (h5 : (c.maxLocals == mx && c.exceptionTable.isEmpty && decide (c.maxStack ≤ mostOperands) && decide (meth.sig.returnType = rt) && !meth.locks && decide (parseMethodDescriptor y.desc = some meth.sig)) = true) : (Jvm.Cond.code y bytes mx rt).before a s = true := by
  simp only [Bool.and_eq_true, beq_iff_eq, Bool.not_eq_true', decide_eq_true_eq] at h5
  obtain ⟨⟨⟨⟨⟨g1, g2⟩, g3⟩, g4⟩, g5⟩, g6⟩ := h5
  simp [Cond.before, Cond.holds, Cond.value, h1, h2, h3, h4, g1, g2, g3, g4, g5, g6]
def isCode : Jvm.Cond → Bool
  | .code _ _ _ _ => true
  | _ => false
theorem all_split {L : List Jvm.Cond} {P : Jvm.Cond → Bool} (h1 : L.all (fun c => isCode c || P c) = true) (h2 : ∀ c ∈ L.filter isCode, P c = true) : L.all P = true := by
  refine List.all_eq_true.mpr fun c hc => ?_
  have h := List.all_eq_true.mp h1 c hc
  rcases Bool.eq_false_or_eq_true (isCode c) with hi | hi
  · exact h2 c (List.mem_filter.mpr ⟨hc, hi⟩)
  · simpa [hi] using h
set_option maxRecDepth 65536 in
theorem w_c0 : (Jvm.Cond.code x code maxLocals ret).before args0 about1 = true := code_word (m := ⟨1, 1⟩) (meth := k1m1) (c := k1c1) (by decide +kernel) rfl rfl rfl (by decide +kernel)
set_option maxRecDepth 65536 in
theorem w_c1 : (Jvm.Cond.code ({ cls := "com/example/tok6/tok6/CodePoints", name := "isNoncharacter", desc := "(I)Z" } : Jvm.MethodName) prog_3_method_3_code (1 : Nat) (Option.some Jvm.ClassFile.FieldType.boolean)).before args0 about1 = true := code_word (m := ⟨2, 1⟩) (meth := k2m1) (c := k2c1) (by decide +kernel) rfl rfl rfl (by decide +kernel)
def codes1 : List Jvm.Cond := [Jvm.Cond.code x code maxLocals ret, Jvm.Cond.code ({ cls := "com/example/tok6/tok6/CodePoints", name := "isNoncharacter", desc := "(I)Z" } : Jvm.MethodName) prog_3_method_3_code (1 : Nat) (Option.some Jvm.ClassFile.FieldType.boolean)]
set_option maxRecDepth 65536 in
theorem codes_eq : words1.filter isCode = codes1 := rfl
theorem w_codes : ∀ c ∈ words1.filter isCode, c.before args0 about1 = true := by
  rw [codes_eq]
  intro c hc
  simp only [codes1, List.mem_cons, List.not_mem_nil, or_false] at hc
  rcases hc with rfl | rfl
  · exact w_c0
  · exact w_c1
set_option maxRecDepth 65536 in
theorem w_t1 : words1.all (fun c => isCode c || c.before args0 about1) = true := by decide +kernel
theorem w_tables : (allAtoms (Jvm.Cond.code x code maxLocals ret :: tables_1)).before args0 about1 = true := by
  rw [allAtoms_all]
  show words1.all (fun c => c.before args0 about1) = true
  refine all_split ?_ w_codes
  rw [w_t1]
set_option maxRecDepth 65536 in
theorem w_case : (Jvm.Cond.and given_1 narrow_1).before args0 about1 = true := by decide +kernel
theorem w_applies : (headSpec (Jvm.Cond.code x code maxLocals ret :: tables_1) room_1).applies x e0.platform about1 = true :=
  (Spec.applies_iff w_frames).mpr ⟨w_running, w_runnable, w_alone, w_named, w_hears, w_ripe, w_room, w_tables⟩
theorem atStart : AtStart classFile x code maxLocals ret World_1 tables_1 room_1 Calls_1 rest_1 Pre_1 launch0 p0 e0 about1 theMethod args0 below0 :=
  ⟨lists_1, trivial, launch0.admits_env _ _ _, launch0.least_env, fairChoices_fair.cas, fairChoices_fair.clock, w_frames, w_args, w_heap, w_applies, trivial, trivial, w_case⟩
end start1
theorem witness_1 : WitnessClaimed_1 := ⟨start1.p0, start1.e0, start1.about1, start1.theMethod, start1.args0, start1.below0, start1.atStart⟩
end Jvm.Pilot.@@N@@
