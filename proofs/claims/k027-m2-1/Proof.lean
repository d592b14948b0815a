import JvmDerived
import JvmDerived.Pilot.@@N@@Statement
import JvmDerived.Pilot.@@N@@Code
set_option linter.unusedVariables false
set_option linter.unusedSimpArgs false
namespace Jvm.Pilot.@@N@@
open Jvm Jvm.ClassFile Sem Op Lib Jvm.Free Jvm.Stand Jvm.LawKit Jvm.RoadKit Bundle Jvm.Pilot.@@N@@.Jvm.D
section OwnKit
variable {p : Program} {l : Launch} {e : Env} {R : Room} {s : State} {m : MethodId} {args : Array Value} {below : List Frame} {meth : Method} {c : Code} {T : State} {locs : List Loc} {cells slots : Nat} {Z : State} {a0 : Array Value} {h : Heap} {W : State → Outcome → Prop}
/-- what a walk owes from a frame on -/
def Go (p : Program) (e : Env) (below : List Frame) (W : State → Outcome → Prop) (T : State) (g : JFrame) : Prop := ∃ t o, Steps p.tables e below (T.setTop g) t ∧ t.status = .running ∧ Ended t below o ∧ W t o
theorem Go.of {T T' : State} {g g' : JFrame} (q : ∀ t, Steps p.tables e below (T'.setTop g') t → Steps p.tables e below (T.setTop g) t) (k : Go p e below W T' g') : Go p e below W T g := by
  obtain ⟨t, o, h1, h2⟩ := k
  exact ⟨t, o, q t h1, h2⟩
theorem Go.ret (X : Stand p l e R s m args below meth c T locs cells slots) {g : JFrame} {v : Option Value} (hv : meth.sig.returnType = none → v = none) (hk : meth.locks = false)
    (st : ∀ fs, (∀ (f : JFrame) (acts : List Action), f.method = m → f.locked = none → f.entered = [] → (doReturn e (T.setTop f) acts v).1 = T.setFrames fs) → Steps p.tables e below (T.setTop g) (T.setFrames fs))
    (hq : ∀ t : State, t.heap = T.heap → FrameEnd s (.returned v) t locs cells slots → W t (.returned v)) : Go p e below W T g := by
  obtain ⟨fs, hr, hrun, hended, hW, hsame⟩ := X.leave (v := v) hv hk
  exact ⟨_, _, st fs hr, hrun, hended, hq _ rfl ⟨⟨_, rfl⟩, hW, hsame⟩⟩
/-- ireturn of a boolean, byte, char, short -/
theorem Go.retN (X : Stand p l e R s m args below meth c T locs cells slots) (hx : p.tables.exec = Jvm.exec) {pc : Nat} {Ls : Array Slot} {z w : Int32} {t : FieldType} {rest : List Value} (hret : meth.sig.returnType = some t) (ht : t = .boolean ∨ t = .byte ∨ t = .char ∨ t = .short) (hd : decode c.code pc = .ok (.ireturn, 1)) (hk : meth.locks = false) (hn : nar t z = w)
    (hq : ∀ t : State, t.heap = T.heap → FrameEnd s (.returned (some (.int w))) t locs cells slots → W t (.returned (some (.int w)))) : Go p e below W T (mkF m pc Ls (.int z :: rest)) := by
  subst hn
  exact Go.ret X (fun q => by rw [hret] at q; cases q) hk (fun fs hr => Jvm.RoadKit.retN X hx hret ht hd hr) hq
theorem Go.retI (X : Stand p l e R s m args below meth c T locs cells slots) (hx : p.tables.exec = Jvm.exec) {pc : Nat} {Ls : Array Slot} {z w : Int32} {rest : List Value} (hret : meth.sig.returnType = some .int) (hd : decode c.code pc = .ok (.ireturn, 1)) (hk : meth.locks = false) (hn : z = w)
    (hq : ∀ t : State, t.heap = T.heap → FrameEnd s (.returned (some (.int w))) t locs cells slots → W t (.returned (some (.int w)))) : Go p e below W T (mkF m pc Ls (.int z :: rest)) := by
  subst hn
  exact Go.ret X (fun q => by rw [hret] at q; cases q) hk (fun fs hr => retOut X hx hret rfl (Or.inl ⟨rfl, Or.inl rfl, z, rfl⟩) hd hr) hq
theorem Go.retJ (X : Stand p l e R s m args below meth c T locs cells slots) (hx : p.tables.exec = Jvm.exec) {pc : Nat} {Ls : Array Slot} {z w : Int64} {rest : List Value} (hret : meth.sig.returnType = some .long) (hd : decode c.code pc = .ok (.lreturn, 1)) (hk : meth.locks = false) (hn : z = w)
    (hq : ∀ t : State, t.heap = T.heap → FrameEnd s (.returned (some (.long w))) t locs cells slots → W t (.returned (some (.long w)))) : Go p e below W T (mkF m pc Ls (.long z :: rest)) := by
  subst hn
  exact Go.ret X (fun q => by rw [hret] at q; cases q) hk (fun fs hr => retOut X hx hret rfl (Or.inr (Or.inl ⟨rfl, rfl, z, rfl⟩)) hd hr) hq
theorem Go.retA (X : Stand p l e R s m args below meth c T locs cells slots) (hx : p.tables.exec = Jvm.exec) {pc : Nat} {Ls : Array Slot} {t : FieldType} {a : Addr} {rest : List Value} (hret : meth.sig.returnType = some t) (ht : t.isReference = true) (hnr : narrow t (.ref a) = .ref a) (hd : decode c.code pc = .ok (.areturn, 1)) (hk : meth.locks = false)
    (hq : ∀ t : State, t.heap = T.heap → FrameEnd s (.returned (some (.ref a))) t locs cells slots → W t (.returned (some (.ref a)))) : Go p e below W T (mkF m pc Ls (.ref a :: rest)) :=
  Go.ret X (fun q => by rw [hret] at q; cases q) hk (fun fs hr => retOut X hx hret hnr (Or.inr (Or.inr (Or.inr (Or.inr ⟨rfl, ht, rfl⟩)))) hd hr) hq
theorem Go.retV (X : Stand p l e R s m args below meth c T locs cells slots) (hx : p.tables.exec = Jvm.exec) {pc : Nat} {Ls : Array Slot} (hret : meth.sig.returnType = none) (hd : decode c.code pc = .ok (.return_, 1)) (hk : meth.locks = false)
    (hq : ∀ t : State, t.heap = T.heap → FrameEnd s (.returned none) t locs cells slots → W t (.returned none)) : Go p e below W T (mkF m pc Ls []) :=
  Go.ret X (fun _ => rfl) hk (fun fs hr => X.returnOut hx hret hd hr) hq
/-- a body's contract out of its walk -/
theorem own_body {y : MethodName} {bytes : ByteArray} {maxL : Nat} {ret : Option FieldType} {ws : List Jvm.Cond} {rm : Room} {as' : Array Value} {Q : Option Value → Heap → List Loc → Prop} {Ls : Array Slot} (hpn : plainFor y = true) (hef : ∀ m, entryFrame m as' maxL = mkF m 0 Ls [])
    (walk : ∀ (p : Program) (e : Env) (s : State) (m : MethodId) (below : List Frame) (meth : Method) (c : Code) (T : State) (W : State → Outcome → Prop), Stand p l e rm s m as' below meth c T [] 0 0 → p.tables.exec = Jvm.exec → c.code = bytes → c.maxLocals = maxL → meth.sig.returnType = ret → meth.locks = false → s.vm.findClass y.cls = some m.cls → meth.name = y.name → Z.Warmed39 s.vm → T.heap = h →
      (∀ (t : State) v L cells slots, Q v t.heap L → FrameEnd s (.returned v) t L cells slots → cells ≤ rm.cells → slots ≤ rm.slots → W t (.returned v)) → Go p e below W T (mkF m 0 Ls [])) :
    MetFree l y (head1 (Jvm.Cond.code y bytes maxL ret :: ws) rm) (fun a U => a = as' ∧ Z.Warmed39 U.vm ∧ U.heap = h) (fun _ _ _ _ _ => True) (fun _ U o U' => ∃ v L, o = .returned v ∧ Q v U'.heap L ∧ FrameEnd U o U' L rm.cells rm.slots) := by
  refine MetFree.of_bodySF hpn hisR ?_
  intro p e s m args below meth c s₁ Bd hml hP hK
  obtain ⟨rfl, hZ, hh⟩ := hP
  obtain ⟨t, o, h1, h2, h3, h4⟩ := walk p e s m below meth c s₁ (fun t o => ∃ v L, o = .returned v ∧ Q v t.heap L ∧ FrameEnd s o t L rm.cells rm.slots) (Stand.of_body Bd) Bd.exec Bd.bytes hml Bd.returns (BodyLoose.notSynchronized Bd) (findClass_of_methodNamed Bd.named) (name_of_methodNamed Bd.named Bd.method).1 hZ (by rw [← hh, Bd.state]; rfl)
    (fun t v L cells slots hQ hF hc hs => ⟨v, L, rfl, hQ, hF.1, hF.2.1, hF.2.2.mono hc hs⟩)
  exact ⟨t, o, castTop (hef m) h1, h2, h3, h4⟩
/-- a contract, written short -/
abbrev Con (l : Launch) (Z : State) (y : MethodName) (bytes : ByteArray) (maxL : Nat) (ret : Option FieldType) (ws : List Jvm.Cond) (rm : Room) (as' : Array Value) (h : Heap) (Q : Option Value → Heap → List Loc → Prop) : Prop :=
  MetFree l y (head1 (Jvm.Cond.code y bytes maxL ret :: ws) rm) (fun a U => a = as' ∧ Z.Warmed39 U.vm ∧ U.heap = h) (fun _ _ _ _ _ => True) (fun _ U o U' => ∃ v L, o = .returned v ∧ Q v U'.heap L ∧ FrameEnd U o U' L rm.cells rm.slots)
/-- what a callee that leaves the heap as it is says -/
def PQ (w : Value) (h0 : Heap) (v : Option Value) (h : Heap) (L : List Loc) : Prop := v = some w ∧ L = [] ∧ h = h0
theorem Go.callS (X : Stand p l e R s m args below meth c T locs cells slots) (hx : p.tables.exec = Jvm.exec) (hZ : Z.Warmed39 s.vm) {own : String} {index : Nat} {y : MethodName} {bytes : ByteArray} {maxL : Nat} {ret : Option FieldType} {rm : Room} {as' : Array Value} {Q : Option Value → Heap → List Loc → Prop} (hown : s.vm.findClass own = some m.cls)
    (w1 : (Jvm.Cond.methodLink own index y).before a0 Z = true) (w2 : (Jvm.Cond.static y).before a0 Z = true) (w3 : (Jvm.Cond.initialized y.cls).before a0 Z = true) (w4 : (Jvm.Cond.code y bytes maxL ret).before a0 Z = true) (hy : y.cls ≠ "java/lang/invoke/MethodHandle" ∧ y.cls ≠ "java/lang/invoke/VarHandle") (eT : T.heap = h)
    (hM : Con l Z y bytes maxL ret [] rm as' h Q) {V : Nat} (hf : rm.frames + 1 ≤ R.frames) (hl : V + (maxL + 11) + rm.locals ≤ R.locals) (hc : cells + rm.cells ≤ R.cells) (hs : slots + rm.slots ≤ R.slots)
    {pc : Nat} {Ls : Array Slot} {st : List Value} (hsize : Ls.size = c.maxLocals) {argsL rest : List Value} (has : argsL.toArray = as') (hlen : ∀ sig, parseMethodDescriptor y.desc = some sig → argsL.length = sig.parameters.length) (hstack : st = argsL.reverse ++ rest) (hV : (rest.map fun v => v.category).sum ≤ V) (hd : decode c.code pc = .ok (.invokestatic index, 3))
    (K : ∀ T' v L, Q v T'.heap L → Stand p l e R s m args below meth c T' (locs ++ L) (cells + rm.cells) (slots + rm.slots) → Go p e below W T' (mkF m (pc + 3) Ls (v.toList ++ rest))) : Go p e below W T (mkF m pc Ls st) := by
  obtain ⟨v, vm₁, ⟨T', L', k', n'⟩, -, X', ⟨L, hQ, e1, e2, e3⟩, st'⟩ := Jvm.LawKit.callS X hx hown (mvT hZ w1) (mvT hZ w2) (mvT hZ w3) (mvT hZ w4) hy (backOf (W := V) hM hZ w4 w3 hf hl) (g := mkF m pc Ls st) rfl hsize hlen hstack (by show 2 * 0 + _ ≤ _; omega) hd (fun _ _ => ⟨has, eT, hc, hs⟩)
  dsimp only [Pt.U, Pt.locs, Pt.cells, Pt.slots] at X' e1 e2 e3 st' hQ
  subst e1 e2 e3
  exact Go.of st' (K _ _ _ hQ X')
theorem Go.callP (X : Stand p l e R s m args below meth c T locs cells slots) (hx : p.tables.exec = Jvm.exec) (hZ : Z.Warmed39 s.vm) {own : String} {index : Nat} {y : MethodName} {bytes : ByteArray} {maxL : Nat} {ret : Option FieldType} {rm : Room} {as' : Array Value} {w : Value} (hown : s.vm.findClass own = some m.cls)
    (w1 : (Jvm.Cond.methodLink own index y).before a0 Z = true) (w2 : (Jvm.Cond.static y).before a0 Z = true) (w3 : (Jvm.Cond.initialized y.cls).before a0 Z = true) (w4 : (Jvm.Cond.code y bytes maxL ret).before a0 Z = true) (hy : y.cls ≠ "java/lang/invoke/MethodHandle" ∧ y.cls ≠ "java/lang/invoke/VarHandle") (eT : T.heap = h)
    (hM : Con l Z y bytes maxL ret [] rm as' h (PQ w h)) {V : Nat} (hf : rm.frames + 1 ≤ R.frames) (hl : V + (maxL + 11) + rm.locals ≤ R.locals) (z1 : rm.cells = 0) (z2 : rm.slots = 0) (hc : cells ≤ R.cells) (hs : slots ≤ R.slots)
    {pc : Nat} {Ls : Array Slot} {st : List Value} (hsize : Ls.size = c.maxLocals) {argsL rest : List Value} (has : argsL.toArray = as') (hlen : ∀ sig, parseMethodDescriptor y.desc = some sig → argsL.length = sig.parameters.length) (hstack : st = argsL.reverse ++ rest) (hV : (rest.map fun v => v.category).sum ≤ V) (hd : decode c.code pc = .ok (.invokestatic index, 3))
    (K : ∀ T', Stand p l e R s m args below meth c T' locs cells slots → T'.heap = h → Go p e below W T' (mkF m (pc + 3) Ls (w :: rest))) : Go p e below W T (mkF m pc Ls st) := by
  refine Go.callS X hx hZ hown w1 w2 w3 w4 hy eT hM hf hl (by rw [z1]; exact hc) (by rw [z2]; exact hs) hsize has hlen hstack hV hd ?_
  rintro T' v L ⟨rfl, rfl, h3⟩ X'
  rw [z1, z2, List.append_nil] at X'
  exact K T' X' h3
end OwnKit
theorem pd__IZ_I : parseMethodDescriptor "(IZ)I" = some ⟨[.int, .boolean], some .int⟩ := by decide +kernel
theorem d1_0 : decode prog_60_method_13_code 0 = .ok (.iload_n 0, 1) := by decide +kernel
theorem d1_1 : decode prog_60_method_13_code 1 = .ok (.iconst 2, 1) := by decide +kernel
theorem d1_2 : decode prog_60_method_13_code 2 = .ok (.if_icmp .ne 18, 3) := by decide +kernel
theorem d1_5 : decode prog_60_method_13_code 5 = .ok (.iload_n 1, 1) := by decide +kernel
theorem d1_6 : decode prog_60_method_13_code 6 = .ok (.ifCond .eq 8, 3) := by decide +kernel
theorem d1_9 : decode prog_60_method_13_code 9 = .ok (.bipush 29, 2) := by decide +kernel
theorem d1_11 : decode prog_60_method_13_code 11 = .ok (.goto 5, 3) := by decide +kernel
theorem d1_14 : decode prog_60_method_13_code 14 = .ok (.bipush 28, 2) := by decide +kernel
theorem d1_16 : decode prog_60_method_13_code 16 = .ok (.istore_n 2, 1) := by decide +kernel
theorem d1_17 : decode prog_60_method_13_code 17 = .ok (.goto 35, 3) := by decide +kernel
theorem d1_20 : decode prog_60_method_13_code 20 = .ok (.iload_n 0, 1) := by decide +kernel
theorem d1_21 : decode prog_60_method_13_code 21 = .ok (.iconst 4, 1) := by decide +kernel
theorem d1_22 : decode prog_60_method_13_code 22 = .ok (.if_icmp .eq 21, 3) := by decide +kernel
theorem d1_25 : decode prog_60_method_13_code 25 = .ok (.iload_n 0, 1) := by decide +kernel
theorem d1_26 : decode prog_60_method_13_code 26 = .ok (.bipush 6, 2) := by decide +kernel
theorem d1_28 : decode prog_60_method_13_code 28 = .ok (.if_icmp .eq 15, 3) := by decide +kernel
theorem d1_31 : decode prog_60_method_13_code 31 = .ok (.iload_n 0, 1) := by decide +kernel
theorem d1_32 : decode prog_60_method_13_code 32 = .ok (.bipush 9, 2) := by decide +kernel
theorem d1_34 : decode prog_60_method_13_code 34 = .ok (.if_icmp .eq 9, 3) := by decide +kernel
theorem d1_37 : decode prog_60_method_13_code 37 = .ok (.iload_n 0, 1) := by decide +kernel
theorem d1_38 : decode prog_60_method_13_code 38 = .ok (.bipush 11, 2) := by decide +kernel
theorem d1_40 : decode prog_60_method_13_code 40 = .ok (.if_icmp .ne 9, 3) := by decide +kernel
theorem d1_43 : decode prog_60_method_13_code 43 = .ok (.bipush 30, 2) := by decide +kernel
theorem d1_45 : decode prog_60_method_13_code 45 = .ok (.istore_n 2, 1) := by decide +kernel
theorem d1_46 : decode prog_60_method_13_code 46 = .ok (.goto 6, 3) := by decide +kernel
theorem d1_49 : decode prog_60_method_13_code 49 = .ok (.bipush 31, 2) := by decide +kernel
theorem d1_51 : decode prog_60_method_13_code 51 = .ok (.istore_n 2, 1) := by decide +kernel
theorem d1_52 : decode prog_60_method_13_code 52 = .ok (.iload_n 2, 1) := by decide +kernel
theorem d1_53 : decode prog_60_method_13_code 53 = .ok (.ireturn, 1) := by decide +kernel
theorem pn_1 : plainFor (⟨"com/example/redefine/redefine/assessment/DateTimeLiteral", "daysInMonth", "(IZ)I"⟩ : MethodName) = true := plainFor_of_name (by show plainName "com/example/redefine/redefine/assessment/DateTimeLiteral" = true; first | (simp [plainName, overriddenIn]; done) | decide +kernel)
theorem ef_1 (m : MethodId) (p1 : Int32) (p2 : Int32) : entryFrame m #[(.int p1), (.int p2)] 3 = mkF m 0 #[.val (.int p1), .val (.int p2), .unset] [] := by first | (simp [entryFrame, mkF, argsToLocals, Value.category]; done) | rfl
def v1_8 (p1 : Int32) (p2 : Int32) : Int32 := (if p2 = (0 : Int32) then (28 : Int32) else (29 : Int32))
def v1_10 (p1 : Int32) (p2 : Int32) : Int32 := (if p1 = (2 : Int32) then (v1_8 p1 p2) else (if p1 = (4 : Int32) then (30 : Int32) else (if p1 = (6 : Int32) then (30 : Int32) else (if p1 = (9 : Int32) then (30 : Int32) else (if p1 = (11 : Int32) then (30 : Int32) else (31 : Int32))))))
def f1 (p1 : Int32) (p2 : Int32) : Int32 := (v1_10 p1 p2)
theorem pn_0 : plainFor x = true := plainFor_of_name (by show plainName "com/example/redefine/redefine/assessment/DateTimeLiteralDaysInMonthPinLaw" = true; first | (simp [plainName, overriddenIn]; done) | decide +kernel)
theorem ef_0 (m : MethodId) (p1 : Int32) (p2 : Int32) : entryFrame m #[(.int p1), (.int p2)] maxLocals = mkF m 0 #[.val (.int p1), .val (.int p2), .unset, .unset, .unset] [] := by first | (simp [entryFrame, mkF, argsToLocals, Value.category, maxLocals]; done) | rfl
def v0_1 (p1 : Int32) (p2 : Int32) : Int32 := (((p1 &&& (2147483647 : Int32)) % (12 : Int32)) + (1 : Int32))
def v0_4 (p1 : Int32) (p2 : Int32) : Int32 := (if (p2 &&& (1 : Int32)) = (0 : Int32) then (0 : Int32) else (1 : Int32))
def v0_6 (p1 : Int32) (p2 : Int32) : Int32 := ((30 : Int32) + (((v0_1 p1 p2) + ((v0_1 p1 p2) / (8 : Int32))) &&& (1 : Int32)))
def v0_9 (p1 : Int32) (p2 : Int32) : Int32 := (if (v0_4 p1 p2) = (0 : Int32) then (0 : Int32) else (1 : Int32))
def v0_10 (p1 : Int32) (p2 : Int32) : Int32 := ((28 : Int32) + (v0_9 p1 p2))
def v0_12 (p1 : Int32) (p2 : Int32) : Int32 := (if (v0_1 p1 p2) = (2 : Int32) then (v0_10 p1 p2) else (v0_6 p1 p2))
def f0 (p1 : Int32) (p2 : Int32) : Int32 := (if (f1 (v0_1 p1 p2) (v0_4 p1 p2)) = (v0_12 p1 p2) then (1 : Int32) else (0 : Int32))
def own_g (m b : Int32) : Int32 := if m = 2 then 28 + (if b = 0 then 0 else 1) else 30 + ((m + m / 8) &&& 1)
theorem own_all : ∀ k : Fin 12, f1 (k.val.toInt32 + 1) 0 = own_g (k.val.toInt32 + 1) 0 ∧ f1 (k.val.toInt32 + 1) 1 = own_g (k.val.toInt32 + 1) 1 := by decide +kernel
theorem own_law (x y : Int32) : f0 x y = 1 := by
  have a1 : (x &&& 2147483647).toInt = x.toInt % (2 ^ 31 : Nat) := c_mask x 2147483647 31 (by decide) (by decide)
  have z1 : 0 ≤ (x &&& 2147483647).toInt := by omega
  have m1 : ((x &&& 2147483647) % 12).toInt = (x &&& 2147483647).toInt % 12 := (c_irem (x &&& 2147483647) 12 12 rfl).1 z1
  have n1 : ¬ ((x &&& 2147483647) % 12) < 0 := by
    rw [Int32.lt_iff_toInt_lt, show (0 : Int32).toInt = 0 from rfl]; omega
  have e := (back32 n1).1
  have l1 : ((x &&& 2147483647) % 12).toNatClampNeg < 12 := by
    show ((x &&& 2147483647) % 12).toInt.toNat < 12
    omega
  have k := own_all ⟨_, l1⟩
  simp only [e] at k
  have k1 : v0_1 x y = (x &&& 2147483647) % 12 + 1 := rfl
  rw [← k1] at k
  have h4 : v0_4 x y = 0 ∨ v0_4 x y = 1 := by
    rw [v0_4]; split
    · exact Or.inl rfl
    · exact Or.inr rfl
  have h12 : v0_12 x y = own_g (v0_1 x y) (v0_4 x y) := by rw [v0_12, own_g, v0_10, v0_9, v0_6]
  have h : f1 (v0_1 x y) (v0_4 x y) = v0_12 x y := by
    rw [h12]
    rcases h4 with q | q
    · rw [q]; exact k.1
    · rw [q]; exact k.2
  rw [f0, if_pos h]
set_option maxRecDepth 65536 in
set_option maxHeartbeats 40000000 in
theorem rm1 (l : Launch) (Z : State) (a0 : Array Value) (hw : ∀ d ∈ tables_1, d.before a0 Z = true) (ws : List Jvm.Cond) (p1 : Int32) (p2 : Int32) (h0 : Heap) :
    Con l Z (⟨"com/example/redefine/redefine/assessment/DateTimeLiteral", "daysInMonth", "(IZ)I"⟩ : MethodName) prog_60_method_13_code 3 (some .int) ws ({ frames := 0, cells := 0, slots := 0, locals := 0 } : Room) #[(.int p1), (.int p2)] h0 (PQ (.int (f1 p1 p2)) h0) := by
  refine own_body pn_1 (fun m => ef_1 m p1 p2) ?_
  intro p e s m below meth c T0 W X0 hx hby hml hret hlk hown hnm hZ e0 hW
  show Go p e below W T0 (mkF m 0 #[.val (.int p1), .val (.int p2), .unset] [])
  refine Go.of (fun _ k => XS.iloadN X0.here hx rfl (hb hby d1_0) rfl k) ?_
  show Go p e below W T0 (mkF m 1 #[.val (.int p1), .val (.int p2), .unset] [(.int p1)])
  refine Go.of (fun _ k => XS.iconst X0.here hx rfl (hb hby d1_1) k) ?_
  show Go p e below W T0 (mkF m 2 #[.val (.int p1), .val (.int p2), .unset] [(.int (2 : Int32)), (.int p1)])
  suffices G9 : ∀ T', Stand p l e ({ frames := 0, cells := 0, slots := 0, locals := 0 } : Room) s m #[(.int p1), (.int p2)] below meth c T' [] 0 0 → T'.heap = h0 → Go p e below W T' (mkF m 52 #[.val (.int p1), .val (.int p2), .val (.int (v1_10 p1 p2))] []) by
    by_cases c1 : p1 = (2 : Int32)
    · refine Go.of (fun _ k => XS.icmpNo X0.here hx rfl (hb hby d1_2) rfl (Jvm.Free.XT.ii_ne_f c1) k) ?_
      show Go p e below W T0 (mkF m 5 #[.val (.int p1), .val (.int p2), .unset] [])
      refine Go.of (fun _ k => XS.iloadN X0.here hx rfl (hb hby d1_5) rfl k) ?_
      show Go p e below W T0 (mkF m 6 #[.val (.int p1), .val (.int p2), .unset] [(.int p2)])
      suffices G7 : ∀ T', Stand p l e ({ frames := 0, cells := 0, slots := 0, locals := 0 } : Room) s m #[(.int p1), (.int p2)] below meth c T' [] 0 0 → T'.heap = h0 → Go p e below W T' (mkF m 16 #[.val (.int p1), .val (.int p2), .unset] [(.int (v1_8 p1 p2))]) by
        by_cases c6 : p2 = (0 : Int32)
        · refine Go.of (fun _ k => XS.ifYes X0.here hx rfl (pc0 := 6) (pc' := 14) rfl (hb hby d1_6) rfl (Jvm.Free.XT.i0_eq_t c6) (by decide) (by decide) k) ?_
          show Go p e below W T0 (mkF m 14 #[.val (.int p1), .val (.int p2), .unset] [])
          refine Go.of (fun _ k => XS.bipush X0.here hx rfl (hb hby d1_14) k) ?_
          have G7 := G7
          have q_v1_8 : (v1_8 p1 p2) = (28 : Int32) := by rw [v1_8, if_pos c6]
          rw [q_v1_8] at G7
          exact G7 _ X0 e0
        · refine Go.of (fun _ k => XS.ifNo X0.here hx rfl (hb hby d1_6) rfl (Jvm.Free.XT.i0_eq_f c6) k) ?_
          show Go p e below W T0 (mkF m 9 #[.val (.int p1), .val (.int p2), .unset] [])
          refine Go.of (fun _ k => XS.bipush X0.here hx rfl (hb hby d1_9) k) ?_
          show Go p e below W T0 (mkF m 11 #[.val (.int p1), .val (.int p2), .unset] [(.int (29 : Int32))])
          refine Go.of (fun _ k => XS.goto X0.here hx rfl (pc0 := 11) (pc' := 16) rfl (hb hby d1_11) (by decide) (by decide) k) ?_
          have G7 := G7
          have q_v1_8 : (v1_8 p1 p2) = (29 : Int32) := by rw [v1_8, if_neg c6]
          rw [q_v1_8] at G7
          exact G7 _ X0 e0
      intro T7 X7 e7
      show Go p e below W T7 (mkF m 16 #[.val (.int p1), .val (.int p2), .unset] [(.int (v1_8 p1 p2))])
      refine Go.of (fun _ k => XS.istoreN X7.here hx rfl (hb hby d1_16) rfl (l' := #[.val (.int p1), .val (.int p2), .val (.int (v1_8 p1 p2))]) rfl k) ?_
      show Go p e below W T7 (mkF m 17 #[.val (.int p1), .val (.int p2), .val (.int (v1_8 p1 p2))] [])
      refine Go.of (fun _ k => XS.goto X7.here hx rfl (pc0 := 17) (pc' := 52) rfl (hb hby d1_17) (by decide) (by decide) k) ?_
      have G9 := G9
      have q_v1_10 : (v1_10 p1 p2) = (v1_8 p1 p2) := by rw [v1_10, if_pos c1]
      rw [q_v1_10] at G9
      exact G9 _ X7 e7
    · refine Go.of (fun _ k => XS.icmpYes X0.here hx rfl (pc0 := 2) (pc' := 20) rfl (hb hby d1_2) rfl (Jvm.Free.XT.ii_ne_t c1) (by decide) (by decide) k) ?_
      show Go p e below W T0 (mkF m 20 #[.val (.int p1), .val (.int p2), .unset] [])
      refine Go.of (fun _ k => XS.iloadN X0.here hx rfl (hb hby d1_20) rfl k) ?_
      show Go p e below W T0 (mkF m 21 #[.val (.int p1), .val (.int p2), .unset] [(.int p1)])
      refine Go.of (fun _ k => XS.iconst X0.here hx rfl (hb hby d1_21) k) ?_
      show Go p e below W T0 (mkF m 22 #[.val (.int p1), .val (.int p2), .unset] [(.int (4 : Int32)), (.int p1)])
      by_cases c2 : p1 = (4 : Int32)
      · refine Go.of (fun _ k => XS.icmpYes X0.here hx rfl (pc0 := 22) (pc' := 43) rfl (hb hby d1_22) rfl (Jvm.Free.XT.ii_eq_t c2) (by decide) (by decide) k) ?_
        show Go p e below W T0 (mkF m 43 #[.val (.int p1), .val (.int p2), .unset] [])
        refine Go.of (fun _ k => XS.bipush X0.here hx rfl (hb hby d1_43) k) ?_
        show Go p e below W T0 (mkF m 45 #[.val (.int p1), .val (.int p2), .unset] [(.int (30 : Int32))])
        refine Go.of (fun _ k => XS.istoreN X0.here hx rfl (hb hby d1_45) rfl (l' := #[.val (.int p1), .val (.int p2), .val (.int (30 : Int32))]) rfl k) ?_
        show Go p e below W T0 (mkF m 46 #[.val (.int p1), .val (.int p2), .val (.int (30 : Int32))] [])
        refine Go.of (fun _ k => XS.goto X0.here hx rfl (pc0 := 46) (pc' := 52) rfl (hb hby d1_46) (by decide) (by decide) k) ?_
        have G9 := G9
        have q_v1_10 : (v1_10 p1 p2) = (30 : Int32) := by rw [v1_10, if_neg c1, if_pos c2]
        rw [q_v1_10] at G9
        exact G9 _ X0 e0
      · refine Go.of (fun _ k => XS.icmpNo X0.here hx rfl (hb hby d1_22) rfl (Jvm.Free.XT.ii_eq_f c2) k) ?_
        show Go p e below W T0 (mkF m 25 #[.val (.int p1), .val (.int p2), .unset] [])
        refine Go.of (fun _ k => XS.iloadN X0.here hx rfl (hb hby d1_25) rfl k) ?_
        show Go p e below W T0 (mkF m 26 #[.val (.int p1), .val (.int p2), .unset] [(.int p1)])
        refine Go.of (fun _ k => XS.bipush X0.here hx rfl (hb hby d1_26) k) ?_
        show Go p e below W T0 (mkF m 28 #[.val (.int p1), .val (.int p2), .unset] [(.int (6 : Int32)), (.int p1)])
        by_cases c3 : p1 = (6 : Int32)
        · refine Go.of (fun _ k => XS.icmpYes X0.here hx rfl (pc0 := 28) (pc' := 43) rfl (hb hby d1_28) rfl (Jvm.Free.XT.ii_eq_t c3) (by decide) (by decide) k) ?_
          show Go p e below W T0 (mkF m 43 #[.val (.int p1), .val (.int p2), .unset] [])
          refine Go.of (fun _ k => XS.bipush X0.here hx rfl (hb hby d1_43) k) ?_
          show Go p e below W T0 (mkF m 45 #[.val (.int p1), .val (.int p2), .unset] [(.int (30 : Int32))])
          refine Go.of (fun _ k => XS.istoreN X0.here hx rfl (hb hby d1_45) rfl (l' := #[.val (.int p1), .val (.int p2), .val (.int (30 : Int32))]) rfl k) ?_
          show Go p e below W T0 (mkF m 46 #[.val (.int p1), .val (.int p2), .val (.int (30 : Int32))] [])
          refine Go.of (fun _ k => XS.goto X0.here hx rfl (pc0 := 46) (pc' := 52) rfl (hb hby d1_46) (by decide) (by decide) k) ?_
          have G9 := G9
          have q_v1_10 : (v1_10 p1 p2) = (30 : Int32) := by rw [v1_10, if_neg c1, if_neg c2, if_pos c3]
          rw [q_v1_10] at G9
          exact G9 _ X0 e0
        · refine Go.of (fun _ k => XS.icmpNo X0.here hx rfl (hb hby d1_28) rfl (Jvm.Free.XT.ii_eq_f c3) k) ?_
          show Go p e below W T0 (mkF m 31 #[.val (.int p1), .val (.int p2), .unset] [])
          refine Go.of (fun _ k => XS.iloadN X0.here hx rfl (hb hby d1_31) rfl k) ?_
          show Go p e below W T0 (mkF m 32 #[.val (.int p1), .val (.int p2), .unset] [(.int p1)])
          refine Go.of (fun _ k => XS.bipush X0.here hx rfl (hb hby d1_32) k) ?_
          show Go p e below W T0 (mkF m 34 #[.val (.int p1), .val (.int p2), .unset] [(.int (9 : Int32)), (.int p1)])
          by_cases c4 : p1 = (9 : Int32)
          · refine Go.of (fun _ k => XS.icmpYes X0.here hx rfl (pc0 := 34) (pc' := 43) rfl (hb hby d1_34) rfl (Jvm.Free.XT.ii_eq_t c4) (by decide) (by decide) k) ?_
            show Go p e below W T0 (mkF m 43 #[.val (.int p1), .val (.int p2), .unset] [])
            refine Go.of (fun _ k => XS.bipush X0.here hx rfl (hb hby d1_43) k) ?_
            show Go p e below W T0 (mkF m 45 #[.val (.int p1), .val (.int p2), .unset] [(.int (30 : Int32))])
            refine Go.of (fun _ k => XS.istoreN X0.here hx rfl (hb hby d1_45) rfl (l' := #[.val (.int p1), .val (.int p2), .val (.int (30 : Int32))]) rfl k) ?_
            show Go p e below W T0 (mkF m 46 #[.val (.int p1), .val (.int p2), .val (.int (30 : Int32))] [])
            refine Go.of (fun _ k => XS.goto X0.here hx rfl (pc0 := 46) (pc' := 52) rfl (hb hby d1_46) (by decide) (by decide) k) ?_
            have G9 := G9
            have q_v1_10 : (v1_10 p1 p2) = (30 : Int32) := by rw [v1_10, if_neg c1, if_neg c2, if_neg c3, if_pos c4]
            rw [q_v1_10] at G9
            exact G9 _ X0 e0
          · refine Go.of (fun _ k => XS.icmpNo X0.here hx rfl (hb hby d1_34) rfl (Jvm.Free.XT.ii_eq_f c4) k) ?_
            show Go p e below W T0 (mkF m 37 #[.val (.int p1), .val (.int p2), .unset] [])
            refine Go.of (fun _ k => XS.iloadN X0.here hx rfl (hb hby d1_37) rfl k) ?_
            show Go p e below W T0 (mkF m 38 #[.val (.int p1), .val (.int p2), .unset] [(.int p1)])
            refine Go.of (fun _ k => XS.bipush X0.here hx rfl (hb hby d1_38) k) ?_
            show Go p e below W T0 (mkF m 40 #[.val (.int p1), .val (.int p2), .unset] [(.int (11 : Int32)), (.int p1)])
            by_cases c5 : p1 = (11 : Int32)
            · refine Go.of (fun _ k => XS.icmpNo X0.here hx rfl (hb hby d1_40) rfl (Jvm.Free.XT.ii_ne_f c5) k) ?_
              show Go p e below W T0 (mkF m 43 #[.val (.int p1), .val (.int p2), .unset] [])
              refine Go.of (fun _ k => XS.bipush X0.here hx rfl (hb hby d1_43) k) ?_
              show Go p e below W T0 (mkF m 45 #[.val (.int p1), .val (.int p2), .unset] [(.int (30 : Int32))])
              refine Go.of (fun _ k => XS.istoreN X0.here hx rfl (hb hby d1_45) rfl (l' := #[.val (.int p1), .val (.int p2), .val (.int (30 : Int32))]) rfl k) ?_
              show Go p e below W T0 (mkF m 46 #[.val (.int p1), .val (.int p2), .val (.int (30 : Int32))] [])
              refine Go.of (fun _ k => XS.goto X0.here hx rfl (pc0 := 46) (pc' := 52) rfl (hb hby d1_46) (by decide) (by decide) k) ?_
              have G9 := G9
              have q_v1_10 : (v1_10 p1 p2) = (30 : Int32) := by rw [v1_10, if_neg c1, if_neg c2, if_neg c3, if_neg c4, if_pos c5]
              rw [q_v1_10] at G9
              exact G9 _ X0 e0
            · refine Go.of (fun _ k => XS.icmpYes X0.here hx rfl (pc0 := 40) (pc' := 49) rfl (hb hby d1_40) rfl (Jvm.Free.XT.ii_ne_t c5) (by decide) (by decide) k) ?_
              show Go p e below W T0 (mkF m 49 #[.val (.int p1), .val (.int p2), .unset] [])
              refine Go.of (fun _ k => XS.bipush X0.here hx rfl (hb hby d1_49) k) ?_
              show Go p e below W T0 (mkF m 51 #[.val (.int p1), .val (.int p2), .unset] [(.int (31 : Int32))])
              refine Go.of (fun _ k => XS.istoreN X0.here hx rfl (hb hby d1_51) rfl (l' := #[.val (.int p1), .val (.int p2), .val (.int (31 : Int32))]) rfl k) ?_
              have G9 := G9
              have q_v1_10 : (v1_10 p1 p2) = (31 : Int32) := by rw [v1_10, if_neg c1, if_neg c2, if_neg c3, if_neg c4, if_neg c5]
              rw [q_v1_10] at G9
              exact G9 _ X0 e0
  intro T9 X9 e9
  show Go p e below W T9 (mkF m 52 #[.val (.int p1), .val (.int p2), .val (.int (v1_10 p1 p2))] [])
  refine Go.of (fun _ k => XS.iloadN X9.here hx rfl (hb hby d1_52) rfl k) ?_
  show Go p e below W T9 (mkF m 53 #[.val (.int p1), .val (.int p2), .val (.int (v1_10 p1 p2))] [(.int (v1_10 p1 p2))])
  have q : (f1 p1 p2) = (v1_10 p1 p2) := by rw [f1]
  exact Go.retI X9 hx hret (hb hby d1_53) hlk q.symm (fun t ht fe => hW t _ _ _ _ ⟨rfl, rfl, ht.trans e9⟩ fe (by decide) (by decide))
set_option maxRecDepth 65536 in
set_option maxHeartbeats 40000000 in
theorem rm0 (l : Launch) (Z : State) (a0 : Array Value) (hw : ∀ d ∈ tables_1, d.before a0 Z = true) (ws : List Jvm.Cond) (p1 : Int32) (p2 : Int32) (h0 : Heap) :
    Con l Z x code maxLocals ret ws room_1 #[(.int p1), (.int p2)] h0 (PQ (.int (f0 p1 p2)) h0) := by
  refine own_body pn_0 (fun m => ef_0 m p1 p2) ?_
  intro p e s m below meth c T0 W X0 hx hby hml hret hlk hown hnm hZ e0 hW
  show Go p e below W T0 (mkF m 0 #[.val (.int p1), .val (.int p2), .unset, .unset, .unset] [])
  refine Go.of (fun _ k => XS.iloadN X0.here hx rfl (hb hby at_0) rfl k) ?_
  show Go p e below W T0 (mkF m 1 #[.val (.int p1), .val (.int p2), .unset, .unset, .unset] [(.int p1)])
  refine Go.of (fun _ k => X0.ldcI hx hown (mvT hZ (hw _ (List.mem_of_getElem? (i := 0) rfl))) rfl (hb hby at_1) k) ?_
  show Go p e below W T0 (mkF m 3 #[.val (.int p1), .val (.int p2), .unset, .unset, .unset] [(.int (2147483647 : Int32)), (.int p1)])
  refine Go.of (fun _ k => XS.iand X0.here hx rfl (hb hby at_3) rfl k) ?_
  show Go p e below W T0 (mkF m 4 #[.val (.int p1), .val (.int p2), .unset, .unset, .unset] [(.int (p1 &&& (2147483647 : Int32)))])
  refine Go.of (fun _ k => XS.bipush X0.here hx rfl (hb hby at_4) k) ?_
  show Go p e below W T0 (mkF m 6 #[.val (.int p1), .val (.int p2), .unset, .unset, .unset] [(.int (12 : Int32)), (.int (p1 &&& (2147483647 : Int32)))])
  refine Go.of (fun _ k => iremM X0 hx rfl (hb hby at_6) rfl (by decide) k) ?_
  show Go p e below W T0 (mkF m 7 #[.val (.int p1), .val (.int p2), .unset, .unset, .unset] [(.int ((p1 &&& (2147483647 : Int32)) % (12 : Int32)))])
  refine Go.of (fun _ k => XS.iconst X0.here hx rfl (hb hby at_7) k) ?_
  show Go p e below W T0 (mkF m 8 #[.val (.int p1), .val (.int p2), .unset, .unset, .unset] [(.int (1 : Int32)), (.int ((p1 &&& (2147483647 : Int32)) % (12 : Int32)))])
  refine Go.of (fun _ k => XS.iadd X0.here hx rfl (hb hby at_8) rfl k) ?_
  show Go p e below W T0 (mkF m 9 #[.val (.int p1), .val (.int p2), .unset, .unset, .unset] [(.int (((p1 &&& (2147483647 : Int32)) % (12 : Int32)) + (1 : Int32)))])
  refine Go.of (fun _ k => XS.istoreN X0.here hx rfl (hb hby at_9) rfl (l' := #[.val (.int p1), .val (.int p2), .val (.int (v0_1 p1 p2)), .unset, .unset]) rfl k) ?_
  show Go p e below W T0 (mkF m 10 #[.val (.int p1), .val (.int p2), .val (.int (v0_1 p1 p2)), .unset, .unset] [])
  refine Go.of (fun _ k => XS.iloadN X0.here hx rfl (hb hby at_10) rfl k) ?_
  show Go p e below W T0 (mkF m 11 #[.val (.int p1), .val (.int p2), .val (.int (v0_1 p1 p2)), .unset, .unset] [(.int p2)])
  refine Go.of (fun _ k => XS.iconst X0.here hx rfl (hb hby at_11) k) ?_
  show Go p e below W T0 (mkF m 12 #[.val (.int p1), .val (.int p2), .val (.int (v0_1 p1 p2)), .unset, .unset] [(.int (1 : Int32)), (.int p2)])
  refine Go.of (fun _ k => XS.iand X0.here hx rfl (hb hby at_12) rfl k) ?_
  show Go p e below W T0 (mkF m 13 #[.val (.int p1), .val (.int p2), .val (.int (v0_1 p1 p2)), .unset, .unset] [(.int (p2 &&& (1 : Int32)))])
  suffices G3 : ∀ T', Stand p l e room_1 s m #[(.int p1), (.int p2)] below meth c T' [] 0 0 → T'.heap = h0 → Go p e below W T' (mkF m 21 #[.val (.int p1), .val (.int p2), .val (.int (v0_1 p1 p2)), .unset, .unset] [(.int (v0_4 p1 p2))]) by
    by_cases c2 : (p2 &&& (1 : Int32)) = (0 : Int32)
    · refine Go.of (fun _ k => XS.ifYes X0.here hx rfl (pc0 := 13) (pc' := 20) rfl (hb hby at_13) rfl (Jvm.Free.XT.i0_eq_t c2) (by decide) (by decide) k) ?_
      show Go p e below W T0 (mkF m 20 #[.val (.int p1), .val (.int p2), .val (.int (v0_1 p1 p2)), .unset, .unset] [])
      refine Go.of (fun _ k => XS.iconst X0.here hx rfl (hb hby at_20) k) ?_
      have G3 := G3
      have q_v0_4 : (v0_4 p1 p2) = (0 : Int32) := by rw [v0_4, if_pos c2]
      rw [q_v0_4] at G3
      exact G3 _ X0 e0
    · refine Go.of (fun _ k => XS.ifNo X0.here hx rfl (hb hby at_13) rfl (Jvm.Free.XT.i0_eq_f c2) k) ?_
      show Go p e below W T0 (mkF m 16 #[.val (.int p1), .val (.int p2), .val (.int (v0_1 p1 p2)), .unset, .unset] [])
      refine Go.of (fun _ k => XS.iconst X0.here hx rfl (hb hby at_16) k) ?_
      show Go p e below W T0 (mkF m 17 #[.val (.int p1), .val (.int p2), .val (.int (v0_1 p1 p2)), .unset, .unset] [(.int (1 : Int32))])
      refine Go.of (fun _ k => XS.goto X0.here hx rfl (pc0 := 17) (pc' := 21) rfl (hb hby at_17) (by decide) (by decide) k) ?_
      have G3 := G3
      have q_v0_4 : (v0_4 p1 p2) = (1 : Int32) := by rw [v0_4, if_neg c2]
      rw [q_v0_4] at G3
      exact G3 _ X0 e0
  intro T3 X3 e3
  show Go p e below W T3 (mkF m 21 #[.val (.int p1), .val (.int p2), .val (.int (v0_1 p1 p2)), .unset, .unset] [(.int (v0_4 p1 p2))])
  refine Go.of (fun _ k => XS.istoreN X3.here hx rfl (hb hby at_21) rfl (l' := #[.val (.int p1), .val (.int p2), .val (.int (v0_1 p1 p2)), .val (.int (v0_4 p1 p2)), .unset]) rfl k) ?_
  show Go p e below W T3 (mkF m 22 #[.val (.int p1), .val (.int p2), .val (.int (v0_1 p1 p2)), .val (.int (v0_4 p1 p2)), .unset] [])
  refine Go.of (fun _ k => XS.iloadN X3.here hx rfl (hb hby at_22) rfl k) ?_
  show Go p e below W T3 (mkF m 23 #[.val (.int p1), .val (.int p2), .val (.int (v0_1 p1 p2)), .val (.int (v0_4 p1 p2)), .unset] [(.int (v0_1 p1 p2))])
  refine Go.of (fun _ k => XS.iconst X3.here hx rfl (hb hby at_23) k) ?_
  show Go p e below W T3 (mkF m 24 #[.val (.int p1), .val (.int p2), .val (.int (v0_1 p1 p2)), .val (.int (v0_4 p1 p2)), .unset] [(.int (2 : Int32)), (.int (v0_1 p1 p2))])
  suffices G11 : ∀ T', Stand p l e room_1 s m #[(.int p1), (.int p2)] below meth c T' [] 0 0 → T'.heap = h0 → Go p e below W T' (mkF m 57 #[.val (.int p1), .val (.int p2), .val (.int (v0_1 p1 p2)), .val (.int (v0_4 p1 p2)), .val (.int (v0_12 p1 p2))] []) by
    by_cases c5 : (v0_1 p1 p2) = (2 : Int32)
    · refine Go.of (fun _ k => XS.icmpNo X3.here hx rfl (hb hby at_24) rfl (Jvm.Free.XT.ii_ne_f c5) k) ?_
      show Go p e below W T3 (mkF m 27 #[.val (.int p1), .val (.int p2), .val (.int (v0_1 p1 p2)), .val (.int (v0_4 p1 p2)), .unset] [])
      refine Go.of (fun _ k => XS.bipush X3.here hx rfl (hb hby at_27) k) ?_
      show Go p e below W T3 (mkF m 29 #[.val (.int p1), .val (.int p2), .val (.int (v0_1 p1 p2)), .val (.int (v0_4 p1 p2)), .unset] [(.int (28 : Int32))])
      refine Go.of (fun _ k => XS.iloadN X3.here hx rfl (hb hby at_29) rfl k) ?_
      show Go p e below W T3 (mkF m 30 #[.val (.int p1), .val (.int p2), .val (.int (v0_1 p1 p2)), .val (.int (v0_4 p1 p2)), .unset] [(.int (v0_4 p1 p2)), (.int (28 : Int32))])
      suffices G8 : ∀ T', Stand p l e room_1 s m #[(.int p1), (.int p2)] below meth c T' [] 0 0 → T'.heap = h0 → Go p e below W T' (mkF m 38 #[.val (.int p1), .val (.int p2), .val (.int (v0_1 p1 p2)), .val (.int (v0_4 p1 p2)), .unset] [(.int (v0_9 p1 p2)), (.int (28 : Int32))]) by
        by_cases c7 : (v0_4 p1 p2) = (0 : Int32)
        · refine Go.of (fun _ k => XS.ifYes X3.here hx rfl (pc0 := 30) (pc' := 37) rfl (hb hby at_30) rfl (Jvm.Free.XT.i0_eq_t c7) (by decide) (by decide) k) ?_
          show Go p e below W T3 (mkF m 37 #[.val (.int p1), .val (.int p2), .val (.int (v0_1 p1 p2)), .val (.int (v0_4 p1 p2)), .unset] [(.int (28 : Int32))])
          refine Go.of (fun _ k => XS.iconst X3.here hx rfl (hb hby at_37) k) ?_
          have G8 := G8
          have q_v0_9 : (v0_9 p1 p2) = (0 : Int32) := by rw [v0_9, if_pos c7]
          rw [q_v0_9] at G8
          exact G8 _ X3 e3
        · refine Go.of (fun _ k => XS.ifNo X3.here hx rfl (hb hby at_30) rfl (Jvm.Free.XT.i0_eq_f c7) k) ?_
          show Go p e below W T3 (mkF m 33 #[.val (.int p1), .val (.int p2), .val (.int (v0_1 p1 p2)), .val (.int (v0_4 p1 p2)), .unset] [(.int (28 : Int32))])
          refine Go.of (fun _ k => XS.iconst X3.here hx rfl (hb hby at_33) k) ?_
          show Go p e below W T3 (mkF m 34 #[.val (.int p1), .val (.int p2), .val (.int (v0_1 p1 p2)), .val (.int (v0_4 p1 p2)), .unset] [(.int (1 : Int32)), (.int (28 : Int32))])
          refine Go.of (fun _ k => XS.goto X3.here hx rfl (pc0 := 34) (pc' := 38) rfl (hb hby at_34) (by decide) (by decide) k) ?_
          have G8 := G8
          have q_v0_9 : (v0_9 p1 p2) = (1 : Int32) := by rw [v0_9, if_neg c7]
          rw [q_v0_9] at G8
          exact G8 _ X3 e3
      intro T8 X8 e8
      show Go p e below W T8 (mkF m 38 #[.val (.int p1), .val (.int p2), .val (.int (v0_1 p1 p2)), .val (.int (v0_4 p1 p2)), .unset] [(.int (v0_9 p1 p2)), (.int (28 : Int32))])
      refine Go.of (fun _ k => XS.iadd X8.here hx rfl (hb hby at_38) rfl k) ?_
      show Go p e below W T8 (mkF m 39 #[.val (.int p1), .val (.int p2), .val (.int (v0_1 p1 p2)), .val (.int (v0_4 p1 p2)), .unset] [(.int ((28 : Int32) + (v0_9 p1 p2)))])
      refine Go.of (fun _ k => XS.istore X8.here hx rfl (hb hby at_39) rfl (l' := #[.val (.int p1), .val (.int p2), .val (.int (v0_1 p1 p2)), .val (.int (v0_4 p1 p2)), .val (.int (v0_10 p1 p2))]) rfl k) ?_
      show Go p e below W T8 (mkF m 41 #[.val (.int p1), .val (.int p2), .val (.int (v0_1 p1 p2)), .val (.int (v0_4 p1 p2)), .val (.int (v0_10 p1 p2))] [])
      refine Go.of (fun _ k => XS.goto X8.here hx rfl (pc0 := 41) (pc' := 57) rfl (hb hby at_41) (by decide) (by decide) k) ?_
      have G11 := G11
      have q_v0_12 : (v0_12 p1 p2) = (v0_10 p1 p2) := by rw [v0_12, if_pos c5]
      rw [q_v0_12] at G11
      exact G11 _ X8 e8
    · refine Go.of (fun _ k => XS.icmpYes X3.here hx rfl (pc0 := 24) (pc' := 44) rfl (hb hby at_24) rfl (Jvm.Free.XT.ii_ne_t c5) (by decide) (by decide) k) ?_
      show Go p e below W T3 (mkF m 44 #[.val (.int p1), .val (.int p2), .val (.int (v0_1 p1 p2)), .val (.int (v0_4 p1 p2)), .unset] [])
      refine Go.of (fun _ k => XS.bipush X3.here hx rfl (hb hby at_44) k) ?_
      show Go p e below W T3 (mkF m 46 #[.val (.int p1), .val (.int p2), .val (.int (v0_1 p1 p2)), .val (.int (v0_4 p1 p2)), .unset] [(.int (30 : Int32))])
      refine Go.of (fun _ k => XS.iloadN X3.here hx rfl (hb hby at_46) rfl k) ?_
      show Go p e below W T3 (mkF m 47 #[.val (.int p1), .val (.int p2), .val (.int (v0_1 p1 p2)), .val (.int (v0_4 p1 p2)), .unset] [(.int (v0_1 p1 p2)), (.int (30 : Int32))])
      refine Go.of (fun _ k => XS.iloadN X3.here hx rfl (hb hby at_47) rfl k) ?_
      show Go p e below W T3 (mkF m 48 #[.val (.int p1), .val (.int p2), .val (.int (v0_1 p1 p2)), .val (.int (v0_4 p1 p2)), .unset] [(.int (v0_1 p1 p2)), (.int (v0_1 p1 p2)), (.int (30 : Int32))])
      refine Go.of (fun _ k => XS.bipush X3.here hx rfl (hb hby at_48) k) ?_
      show Go p e below W T3 (mkF m 50 #[.val (.int p1), .val (.int p2), .val (.int (v0_1 p1 p2)), .val (.int (v0_4 p1 p2)), .unset] [(.int (8 : Int32)), (.int (v0_1 p1 p2)), (.int (v0_1 p1 p2)), (.int (30 : Int32))])
      refine Go.of (fun _ k => XS.idiv X3.here hx rfl (hb hby at_50) rfl (by decide) k) ?_
      show Go p e below W T3 (mkF m 51 #[.val (.int p1), .val (.int p2), .val (.int (v0_1 p1 p2)), .val (.int (v0_4 p1 p2)), .unset] [(.int ((v0_1 p1 p2) / (8 : Int32))), (.int (v0_1 p1 p2)), (.int (30 : Int32))])
      refine Go.of (fun _ k => XS.iadd X3.here hx rfl (hb hby at_51) rfl k) ?_
      show Go p e below W T3 (mkF m 52 #[.val (.int p1), .val (.int p2), .val (.int (v0_1 p1 p2)), .val (.int (v0_4 p1 p2)), .unset] [(.int ((v0_1 p1 p2) + ((v0_1 p1 p2) / (8 : Int32)))), (.int (30 : Int32))])
      refine Go.of (fun _ k => XS.iconst X3.here hx rfl (hb hby at_52) k) ?_
      show Go p e below W T3 (mkF m 53 #[.val (.int p1), .val (.int p2), .val (.int (v0_1 p1 p2)), .val (.int (v0_4 p1 p2)), .unset] [(.int (1 : Int32)), (.int ((v0_1 p1 p2) + ((v0_1 p1 p2) / (8 : Int32)))), (.int (30 : Int32))])
      refine Go.of (fun _ k => XS.iand X3.here hx rfl (hb hby at_53) rfl k) ?_
      show Go p e below W T3 (mkF m 54 #[.val (.int p1), .val (.int p2), .val (.int (v0_1 p1 p2)), .val (.int (v0_4 p1 p2)), .unset] [(.int (((v0_1 p1 p2) + ((v0_1 p1 p2) / (8 : Int32))) &&& (1 : Int32))), (.int (30 : Int32))])
      refine Go.of (fun _ k => XS.iadd X3.here hx rfl (hb hby at_54) rfl k) ?_
      show Go p e below W T3 (mkF m 55 #[.val (.int p1), .val (.int p2), .val (.int (v0_1 p1 p2)), .val (.int (v0_4 p1 p2)), .unset] [(.int ((30 : Int32) + (((v0_1 p1 p2) + ((v0_1 p1 p2) / (8 : Int32))) &&& (1 : Int32))))])
      refine Go.of (fun _ k => XS.istore X3.here hx rfl (hb hby at_55) rfl (l' := #[.val (.int p1), .val (.int p2), .val (.int (v0_1 p1 p2)), .val (.int (v0_4 p1 p2)), .val (.int (v0_6 p1 p2))]) rfl k) ?_
      have G11 := G11
      have q_v0_12 : (v0_12 p1 p2) = (v0_6 p1 p2) := by rw [v0_12, if_neg c5]
      rw [q_v0_12] at G11
      exact G11 _ X3 e3
  intro T11 X11 e11
  show Go p e below W T11 (mkF m 57 #[.val (.int p1), .val (.int p2), .val (.int (v0_1 p1 p2)), .val (.int (v0_4 p1 p2)), .val (.int (v0_12 p1 p2))] [])
  refine Go.of (fun _ k => XS.iloadN X11.here hx rfl (hb hby at_57) rfl k) ?_
  show Go p e below W T11 (mkF m 58 #[.val (.int p1), .val (.int p2), .val (.int (v0_1 p1 p2)), .val (.int (v0_4 p1 p2)), .val (.int (v0_12 p1 p2))] [(.int (v0_1 p1 p2))])
  refine Go.of (fun _ k => XS.iloadN X11.here hx rfl (hb hby at_58) rfl k) ?_
  show Go p e below W T11 (mkF m 59 #[.val (.int p1), .val (.int p2), .val (.int (v0_1 p1 p2)), .val (.int (v0_4 p1 p2)), .val (.int (v0_12 p1 p2))] [(.int (v0_4 p1 p2)), (.int (v0_1 p1 p2))])
  refine Go.callP X11 hx hZ hown (hw _ (List.mem_of_getElem? (i := 1) rfl)) (hw _ (List.mem_of_getElem? (i := 2) rfl)) (hw _ (List.mem_of_getElem? (i := 3) rfl)) (hw _ (List.mem_of_getElem? (i := 4) rfl)) (by decide) e11 (rm1 l Z a0 hw [] (v0_1 p1 p2) (v0_4 p1 p2) h0) (V := 0) (by decide) (by decide) rfl rfl (by decide) (by decide) (by rw [hml]; rfl) (argsL := [(.int (v0_1 p1 p2)), (.int (v0_4 p1 p2))]) (rest := []) rfl (lenOf pd__IZ_I rfl) rfl (Nat.le_of_ble_eq_true rfl) (hb hby at_59) ?_
  intro T13 X13 e13
  show Go p e below W T13 (mkF m 62 #[.val (.int p1), .val (.int p2), .val (.int (v0_1 p1 p2)), .val (.int (v0_4 p1 p2)), .val (.int (v0_12 p1 p2))] [(.int (f1 (v0_1 p1 p2) (v0_4 p1 p2)))])
  refine Go.of (fun _ k => XS.iload X13.here hx rfl (hb hby at_62) rfl k) ?_
  show Go p e below W T13 (mkF m 64 #[.val (.int p1), .val (.int p2), .val (.int (v0_1 p1 p2)), .val (.int (v0_4 p1 p2)), .val (.int (v0_12 p1 p2))] [(.int (v0_12 p1 p2)), (.int (f1 (v0_1 p1 p2) (v0_4 p1 p2)))])
  by_cases c14 : (f1 (v0_1 p1 p2) (v0_4 p1 p2)) = (v0_12 p1 p2)
  · refine Go.of (fun _ k => XS.icmpNo X13.here hx rfl (hb hby at_64) rfl (Jvm.Free.XT.ii_ne_f c14) k) ?_
    show Go p e below W T13 (mkF m 67 #[.val (.int p1), .val (.int p2), .val (.int (v0_1 p1 p2)), .val (.int (v0_4 p1 p2)), .val (.int (v0_12 p1 p2))] [])
    refine Go.of (fun _ k => XS.iconst X13.here hx rfl (hb hby at_67) k) ?_
    show Go p e below W T13 (mkF m 68 #[.val (.int p1), .val (.int p2), .val (.int (v0_1 p1 p2)), .val (.int (v0_4 p1 p2)), .val (.int (v0_12 p1 p2))] [(.int (1 : Int32))])
    refine Go.of (fun _ k => XS.goto X13.here hx rfl (pc0 := 68) (pc' := 72) rfl (hb hby at_68) (by decide) (by decide) k) ?_
    show Go p e below W T13 (mkF m 72 #[.val (.int p1), .val (.int p2), .val (.int (v0_1 p1 p2)), .val (.int (v0_4 p1 p2)), .val (.int (v0_12 p1 p2))] [(.int (1 : Int32))])
    have q : (f0 p1 p2) = (1 : Int32) := by rw [f0, if_pos c14]
    exact Go.retN X13 hx hret (Or.inl rfl) (hb hby at_72) hlk (Eq.trans rfl q.symm) (fun t ht fe => hW t _ _ _ _ ⟨rfl, rfl, ht.trans e13⟩ fe (by decide) (by decide))
  · refine Go.of (fun _ k => XS.icmpYes X13.here hx rfl (pc0 := 64) (pc' := 71) rfl (hb hby at_64) rfl (Jvm.Free.XT.ii_ne_t c14) (by decide) (by decide) k) ?_
    show Go p e below W T13 (mkF m 71 #[.val (.int p1), .val (.int p2), .val (.int (v0_1 p1 p2)), .val (.int (v0_4 p1 p2)), .val (.int (v0_12 p1 p2))] [])
    refine Go.of (fun _ k => XS.iconst X13.here hx rfl (hb hby at_71) k) ?_
    show Go p e below W T13 (mkF m 72 #[.val (.int p1), .val (.int p2), .val (.int (v0_1 p1 p2)), .val (.int (v0_4 p1 p2)), .val (.int (v0_12 p1 p2))] [(.int (0 : Int32))])
    have q : (f0 p1 p2) = (0 : Int32) := by rw [f0, if_neg c14]
    exact Go.retN X13 hx hret (Or.inl rfl) (hb hby at_72) hlk (Eq.trans rfl q.symm) (fun t ht fe => hW t _ _ _ _ ⟨rfl, rfl, ht.trans e13⟩ fe (by decide) (by decide))
set_option maxRecDepth 65536 in
set_option maxHeartbeats 40000000 in
theorem comes_1 {Post : Tables → Env → Array Value → State → Outcome → State → Prop} (hpost : ∀ tb e args s v u, (limb_1_1.after args s (.returned v) u = true ∧ limb_1_2.after args s (.returned v) u = true ∧ True) → FrameEnd s (.returned v) u (Jvm.fieldLocs frame_1_writes args s ++ Jvm.arrayLocs frame_1_arrays args s ++ Jvm.staticLocs frame_1_statics s) 0 0 → Post tb e args s (.returned v) u) :
    ArmFor flags0 classFile x code maxLocals ret World_1 tables_1 room_1 Calls_1 rest_1 Pre_1 Post := by
  intro l hfl _ _ p e ha hc hk s m args below hf hA hF happ hP
  obtain ⟨hcalls, hrest, hpre⟩ := hP
  obtain ⟨-, -, -, hnamed, -, -, -, hat⟩ := (Spec.applies_iff hf).mp happ
  obtain ⟨hg, hn⟩ := and_e (Cond.before_iff.mp (show (Jvm.Cond.and given_1 narrow_1).before args s = true from hpre))
  obtain ⟨g0, y0⟩ := and_e hg
  obtain ⟨x0, y1⟩ := and_e y0
  obtain ⟨w0, w1, rfl⟩ : ∃ w0 w1 : Value, args = #[w0, w1] := by
    have hs : args.size = 2 := by simpa [Cond.value, given_1] using g0
    obtain ⟨L⟩ := args
    match L, hs with
    | [w0, w1], _ => exact ⟨w0, w1, rfl⟩
  have hw := fun d (hd : d ∈ tables_1) => atoms_spec (ws := Jvm.Cond.code x code maxLocals ret :: tables_1) hat d (List.mem_cons_of_mem _ hd)
  obtain ⟨i0, ei0⟩ := is_v x0
  obtain rfl : w0 = (.int i0) := Option.some.inj ei0
  obtain ⟨i1, ei1⟩ := is_v y1
  obtain rfl : w1 = (.int i1) := Option.some.inj ei1
  obtain ⟨n, o, h1, h2, h3, _, L, rfl, ⟨rfl, rfl, -⟩, hq⟩ := rm0 l s _ hw tables_1 i0 i1 s.heap p e ha hc hk s m _ below hf ((Spec.applies_iff_loose hf).mp happ).1 ⟨rfl, State.Warmed39.refl s, rfl⟩ trivial
  rw [own_law i0 i1] at h3 hq
  refine ⟨n, _, h1, h2, h3, hpost _ _ _ _ _ _ ⟨Cond.after_iff.mpr rfl, Cond.after_iff.mpr (eq_i res_at (Term.int_eval (1)) rfl), trivial⟩ ⟨hq.1, hq.2.1, (hq.2.2.sift fun y hy => nomatch hy).mono (by decide) (by decide)⟩⟩
theorem main_1_1 : Claimed_1_1 := comes_1 fun _ _ _ _ _ _ h hF => ⟨h.1, hF⟩
theorem main_1_2 : Claimed_1_2 := comes_1 fun _ _ _ _ _ _ h hF => ⟨h.2.1, hF⟩
end Jvm.Pilot.@@N@@
namespace Jvm.Pilot.@@N@@
open Jvm Jvm.ClassFile Sem Op Lib Jvm.Free Jvm.Stand Jvm.Pilot.@@N@@.Jvm.D
/-! MADE BY PROGRAM (witnessworld.py) out of the Statement's table words and the real class files: 9 classes; the members and pool entries that the words name. The judged class is class 1, her method 1. -/
namespace start1
open Jvm.ClassFile
def u (s : String) : CpInfo := .utf8 (stringToUtf16 s)
/-- a pool by its gaps: so many unusable entries, then the entry; so many at the end -/
def gap : Nat → List CpInfo → List CpInfo
  | 0, r => r
  | n + 1, r => .unusable :: gap n r
def poolList (es : List (Nat × CpInfo)) (last : Nat) : List CpInfo := es.foldr (fun e r => gap e.1 (e.2 :: r)) (gap last [])
def pool (es : List (Nat × CpInfo)) (last : Nat) : Array CpInfo := ⟨poolList es last⟩
def fileOf (pool : Array CpInfo) (this : Nat) (attrs : Array Attribute := #[]) (ms : Array MethodInfo := #[]) (fl : Nat := 33) (sup : Nat := 0) (ifs : Array Nat := #[]) (fds : Array FieldInfo := #[]) : ClassFile where
  minorVersion := 0
  majorVersion := 65
  constantPool := pool
  accessFlags := fl
  thisClass := this
  superClass := sup
  interfaces := ifs
  fields := fds
  methods := ms
  attributes := attrs
def plain (name : String) (sup : Option ClassId) : Class where
  name := name
  kind := .ordinary
  loader := none
  accessFlags := 33
  super := sup
  interfaces := #[]
  cf := none
  fields := #[]
  methods := #[]
  instanceTypes := #[]
  staticTypes := #[]
  resolved := #[]
  callSites := []
  init := .initialized
  statics := none
  mirror := none

def pool0 : Array CpInfo := pool [(5, u "<init>"), (0, u "()V"), (1, .class_ 10), (1, u "java/lang/Object")] 113

def k0m0 : Method := { name := "<init>", desc := "()V", sig := { parameters := [], returnType := none }, accessFlags := 1, code := none }
/-- java/lang/Object -/
def k0 : Class := { plain "java/lang/Object" none with
  accessFlags := 33
  interfaces := #[]
  cf := some (fileOf pool0 8 #[] #[{ accessFlags := 1, nameIndex := 5, descriptorIndex := 6, attributes := #[] }] 33 0 #[] #[])
  fields := #[]
  methods := #[k0m0]
  instanceTypes := #[]
  staticTypes := #[]
  resolved := Array.replicate 124 none
  statics := none }

def pool1 : Array CpInfo := pool [(2, .class_ 4), (1, u "java/lang/Object"), (0, u "<init>"), (0, u "()V"), (0, .integer 2147483647), (0, .methodref 9 10), (0, .class_ 11), (0, .nameAndType 12 13), (0, u "com/example/redefine/redefine/assessment/DateTimeLiteral"), (0, u "daysInMonth"), (0, u "(IZ)I"), (0, .class_ 15), (0, u "com/example/redefine/redefine/assessment/DateTimeLiteralDaysInMonthPinLaw"), (2, u "law"), (0, u "(II)Z")] 3

def k1m0 : Method := { name := "<init>", desc := "()V", sig := { parameters := [], returnType := none }, accessFlags := 1, code := none }
def k1c1 : Code := { maxStack := 4, maxLocals := 5, code := code, exceptionTable := #[], attributes := #[] }
def k1m1 : Method := { name := "law", desc := "(II)Z", sig := { parameters := [.int, .int], returnType := some .boolean }, accessFlags := 9, code := some k1c1 }
/-- com/example/redefine/redefine/assessment/DateTimeLiteralDaysInMonthPinLaw -/
def k1 : Class := { plain "com/example/redefine/redefine/assessment/DateTimeLiteralDaysInMonthPinLaw" (some 0) with
  accessFlags := 49
  interfaces := #[]
  cf := some (fileOf pool1 14 #[] #[{ accessFlags := 1, nameIndex := 5, descriptorIndex := 6, attributes := #[] }, { accessFlags := 9, nameIndex := 18, descriptorIndex := 19, attributes := #[] }] 49 2 #[] #[])
  fields := #[]
  methods := #[k1m0, k1m1]
  instanceTypes := #[]
  staticTypes := #[]
  resolved := Array.replicate 23 none
  statics := none }

def pool2 : Array CpInfo := pool [(7, .class_ 8), (0, u "com/example/redefine/redefine/assessment/CharSink"), (14, .class_ 24), (0, u "java/lang/Object"), (0, u "STRING_PART"), (0, u "I")] 12

/-- com/example/redefine/redefine/assessment/CharSink -/
def k2 : Class := { plain "com/example/redefine/redefine/assessment/CharSink" (some 0) with
  accessFlags := 1536
  interfaces := #[]
  cf := some (fileOf pool2 7 #[] #[] 1536 23 #[] #[{ accessFlags := 25, nameIndex := 25, descriptorIndex := 26, attributes := #[] }])
  fields := #[{ name := "STRING_PART", type := .int, accessFlags := 25, slot := 0, constantValue := 0 }]
  methods := #[]
  instanceTypes := #[]
  staticTypes := #[.int]
  resolved := Array.replicate 39 none
  statics := none }

def pool3 : Array CpInfo := pool [(1, .class_ 2), (0, u "com/example/redefine/redefine/assessment/LiteralCheck"), (0, .class_ 4), (0, u "java/lang/Object"), (0, .class_ 6), (0, u "com/example/redefine/redefine/assessment/CharSink")] 20

/-- com/example/redefine/redefine/assessment/LiteralCheck -/
def k3 : Class := { plain "com/example/redefine/redefine/assessment/LiteralCheck" (some 0) with
  accessFlags := 1536
  interfaces := #[2]
  cf := some (fileOf pool3 1 #[] #[] 1536 3 #[5] #[])
  fields := #[]
  methods := #[]
  instanceTypes := #[]
  staticTypes := #[]
  resolved := Array.replicate 27 none
  statics := none }

def pool4 : Array CpInfo := pool [(2, .class_ 4), (1, u "java/lang/Object"), (2, .class_ 8), (0, u "com/example/redefine/redefine/assessment/DateTimeLiteral"), (10, u "fieldValues"), (0, u "[I"), (2, u "layout"), (0, u "Lcom/example/redefine/redefine/assessment/DateTimeLiteral$Layout;"), (2, u "timezoneRequired"), (0, u "Z"), (2, u "yearZero"), (7, u "year"), (0, u "Lcom/example/redefine/redefine/assessment/Digits;"), (2, u "fraction"), (2, u "fractionCheck"), (0, .class_ 48), (0, u "com/example/redefine/redefine/assessment/DateTimeLiteral$Space"), (5, u "refused"), (6, u "at"), (0, u "I"), (1, .class_ 66), (1, u "com/example/redefine/redefine/assessment/DateTimeLiteral$Layout"), (1, u "Ljava/lang/String;"), (20, u "negativeYear"), (6, u "fieldDigits"), (2, u "firstYearDigitZero"), (2, u "lastYearDigits"), (11, u "timezoneSign"), (2, u "utc"), (2, u "point"), (2, u "timezoneDigits"), (2, u "timezoneColon"), (2, u "timezoneHours"), (2, u "timezoneMinutes"), (17, u "daysInMonth"), (0, u "(IZ)I"), (31, .class_ 184), (0, u "com/example/redefine/redefine/assessment/DateTimeLiteral$DateTimeValue"), (37, u "DAY_SECONDS"), (0, u "Ljava/math/BigDecimal;"), (0, .class_ 225), (0, u "com/example/redefine/redefine/assessment/LiteralCheck"), (0, u "FIELDS"), (1, u "YEAR"), (1, u "MONTH"), (1, u "DAY"), (1, u "HOUR"), (1, u "MINUTE"), (1, u "SECOND"), (1, u "TIMEZONE_HOURS")] 23

def k4c0 : Code := { maxStack := 2, maxLocals := 3, code := prog_60_method_13_code, exceptionTable := #[], attributes := #[] }
def k4m0 : Method := { name := "daysInMonth", desc := "(IZ)I", sig := { parameters := [.int, .boolean], returnType := some .int }, accessFlags := 8, code := some k4c0 }
/-- com/example/redefine/redefine/assessment/DateTimeLiteral -/
def k4 : Class := { plain "com/example/redefine/redefine/assessment/DateTimeLiteral" (some 0) with
  accessFlags := 48
  interfaces := #[3]
  cf := some (fileOf pool4 7 #[.nestMembers #[183, 47, 64]] #[{ accessFlags := 8, nameIndex := 150, descriptorIndex := 151, attributes := #[] }] 48 2 #[224] #[{ accessFlags := 24, nameIndex := 222, descriptorIndex := 223, attributes := #[] }, { accessFlags := 26, nameIndex := 226, descriptorIndex := 68, attributes := #[] }, { accessFlags := 26, nameIndex := 228, descriptorIndex := 62, attributes := #[] }, { accessFlags := 26, nameIndex := 230, descriptorIndex := 62, attributes := #[] }, { accessFlags := 26, nameIndex := 232, descriptorIndex := 62, attributes := #[] }, { accessFlags := 26, nameIndex := 234, descriptorIndex := 62, attributes := #[] }, { accessFlags := 26, nameIndex := 236, descriptorIndex := 62, attributes := #[] }, { accessFlags := 26, nameIndex := 238, descriptorIndex := 62, attributes := #[] }, { accessFlags := 26, nameIndex := 240, descriptorIndex := 62, attributes := #[] }, { accessFlags := 18, nameIndex := 23, descriptorIndex := 24, attributes := #[] }, { accessFlags := 18, nameIndex := 27, descriptorIndex := 28, attributes := #[] }, { accessFlags := 18, nameIndex := 31, descriptorIndex := 28, attributes := #[] }, { accessFlags := 18, nameIndex := 19, descriptorIndex := 20, attributes := #[] }, { accessFlags := 18, nameIndex := 39, descriptorIndex := 40, attributes := #[] }, { accessFlags := 18, nameIndex := 43, descriptorIndex := 40, attributes := #[] }, { accessFlags := 18, nameIndex := 46, descriptorIndex := 40, attributes := #[] }, { accessFlags := 2, nameIndex := 54, descriptorIndex := 28, attributes := #[] }, { accessFlags := 2, nameIndex := 61, descriptorIndex := 62, attributes := #[] }, { accessFlags := 2, nameIndex := 96, descriptorIndex := 62, attributes := #[] }, { accessFlags := 2, nameIndex := 89, descriptorIndex := 28, attributes := #[] }, { accessFlags := 2, nameIndex := 99, descriptorIndex := 28, attributes := #[] }, { accessFlags := 2, nameIndex := 102, descriptorIndex := 62, attributes := #[] }, { accessFlags := 2, nameIndex := 120, descriptorIndex := 28, attributes := #[] }, { accessFlags := 2, nameIndex := 114, descriptorIndex := 62, attributes := #[] }, { accessFlags := 2, nameIndex := 117, descriptorIndex := 28, attributes := #[] }, { accessFlags := 2, nameIndex := 123, descriptorIndex := 62, attributes := #[] }, { accessFlags := 2, nameIndex := 126, descriptorIndex := 28, attributes := #[] }, { accessFlags := 2, nameIndex := 129, descriptorIndex := 62, attributes := #[] }, { accessFlags := 2, nameIndex := 132, descriptorIndex := 62, attributes := #[] }])
  fields := #[{ name := "DAY_SECONDS", type := (.object "java/math/BigDecimal"), accessFlags := 24, slot := 0, constantValue := 0 }, { name := "FIELDS", type := (.object "java/lang/String"), accessFlags := 26, slot := 1, constantValue := 0 }, { name := "YEAR", type := .int, accessFlags := 26, slot := 2, constantValue := 0 }, { name := "MONTH", type := .int, accessFlags := 26, slot := 3, constantValue := 0 }, { name := "DAY", type := .int, accessFlags := 26, slot := 4, constantValue := 0 }, { name := "HOUR", type := .int, accessFlags := 26, slot := 5, constantValue := 0 }, { name := "MINUTE", type := .int, accessFlags := 26, slot := 6, constantValue := 0 }, { name := "SECOND", type := .int, accessFlags := 26, slot := 7, constantValue := 0 }, { name := "TIMEZONE_HOURS", type := .int, accessFlags := 26, slot := 8, constantValue := 0 }, { name := "layout", type := (.object "com/example/redefine/redefine/assessment/DateTimeLiteral$Layout"), accessFlags := 18, slot := 0, constantValue := 0 }, { name := "timezoneRequired", type := .boolean, accessFlags := 18, slot := 1, constantValue := 0 }, { name := "yearZero", type := .boolean, accessFlags := 18, slot := 2, constantValue := 0 }, { name := "fieldValues", type := (.array .int), accessFlags := 18, slot := 3, constantValue := 0 }, { name := "year", type := (.object "com/example/redefine/redefine/assessment/Digits"), accessFlags := 18, slot := 4, constantValue := 0 }, { name := "fraction", type := (.object "com/example/redefine/redefine/assessment/Digits"), accessFlags := 18, slot := 5, constantValue := 0 }, { name := "fractionCheck", type := (.object "com/example/redefine/redefine/assessment/Digits"), accessFlags := 18, slot := 6, constantValue := 0 }, { name := "refused", type := .boolean, accessFlags := 2, slot := 7, constantValue := 0 }, { name := "at", type := .int, accessFlags := 2, slot := 8, constantValue := 0 }, { name := "fieldDigits", type := .int, accessFlags := 2, slot := 9, constantValue := 0 }, { name := "negativeYear", type := .boolean, accessFlags := 2, slot := 10, constantValue := 0 }, { name := "firstYearDigitZero", type := .boolean, accessFlags := 2, slot := 11, constantValue := 0 }, { name := "lastYearDigits", type := .int, accessFlags := 2, slot := 12, constantValue := 0 }, { name := "point", type := .boolean, accessFlags := 2, slot := 13, constantValue := 0 }, { name := "timezoneSign", type := .int, accessFlags := 2, slot := 14, constantValue := 0 }, { name := "utc", type := .boolean, accessFlags := 2, slot := 15, constantValue := 0 }, { name := "timezoneDigits", type := .int, accessFlags := 2, slot := 16, constantValue := 0 }, { name := "timezoneColon", type := .boolean, accessFlags := 2, slot := 17, constantValue := 0 }, { name := "timezoneHours", type := .int, accessFlags := 2, slot := 18, constantValue := 0 }, { name := "timezoneMinutes", type := .int, accessFlags := 2, slot := 19, constantValue := 0 }]
  methods := #[k4m0]
  instanceTypes := #[(.object "com/example/redefine/redefine/assessment/DateTimeLiteral$Layout"), .boolean, .boolean, (.array .int), (.object "com/example/redefine/redefine/assessment/Digits"), (.object "com/example/redefine/redefine/assessment/Digits"), (.object "com/example/redefine/redefine/assessment/Digits"), .boolean, .int, .int, .boolean, .boolean, .int, .boolean, .int, .boolean, .int, .boolean, .int, .int]
  staticTypes := #[(.object "java/math/BigDecimal"), (.object "java/lang/String"), .int, .int, .int, .int, .int, .int, .int]
  resolved := Array.replicate 264 none
  statics := none }

def pool5 : Array CpInfo := pool [(1, u "java/lang/Cloneable"), (0, .class_ 1), (0, u "java/lang/Object"), (0, .class_ 3)] 3

/-- java/lang/Cloneable -/
def k5 : Class := { plain "java/lang/Cloneable" (some 0) with
  accessFlags := 1537
  interfaces := #[]
  cf := some (fileOf pool5 2 #[] #[] 1537 4 #[] #[])
  fields := #[]
  methods := #[]
  instanceTypes := #[]
  staticTypes := #[]
  resolved := Array.replicate 8 none
  statics := none }

def pool6 : Array CpInfo := pool [(1, u "java/io/Serializable"), (0, .class_ 1), (0, u "java/lang/Object"), (0, .class_ 3)] 3

/-- java/io/Serializable -/
def k6 : Class := { plain "java/io/Serializable" (some 0) with
  accessFlags := 1537
  interfaces := #[]
  cf := some (fileOf pool6 2 #[] #[] 1537 4 #[] #[])
  fields := #[]
  methods := #[]
  instanceTypes := #[]
  staticTypes := #[]
  resolved := Array.replicate 8 none
  statics := none }

/-- the primitive byte -/
def k7 : Class := { plain "byte" none with kind := .primitive 'B', accessFlags := 0x411 }
/-- [B -/
def k8 : Class := { plain "[B" (some 0) with kind := .array 7 .byte, interfaces := #[5, 6], accessFlags := 1041 }

def heap : Heap := #[]
def classes : Array Class := #[k0, k1, k2, k3, k4, k5, k6, k7, k8]
def interned : List (Array UInt16 × Addr) := []
def slotsUsed : Nat := 0
def theMethod : MethodId := ⟨1, 1⟩
def args0 : Array Value := #[.int 5, .int 7]
def aboutOver (below : List Frame) : State where
  vm := { classes := classes, interned := interned.toArray }
  heap := heap
  slotsUsed := slotsUsed
  threads := #[{ frames := .invoking theMethod args0 :: below }]
def below0 : List Frame := [.native { method := ⟨0, 0⟩, args := #[] }]
def about1 : State := aboutOver below0
def p0 : Program := .bare "" "" ""
def e0 : Env := launch0.env 0 0 0
theorem w_frames : about1.frames = Frame.invoking theMethod args0 :: below0 := rfl
set_option maxRecDepth 65536 in
theorem w_args : argsFit about1.vm theMethod args0 = true := by decide +kernel
set_option maxRecDepth 65536 in
theorem w_heap : heapFits about1 = true := by decide +kernel
set_option maxRecDepth 65536 in
theorem w_runnable : about1.curStatus? = some .runnable := by decide +kernel
set_option maxRecDepth 65536 in
theorem w_alone : about1.alone = true := by decide +kernel
set_option maxRecDepth 65536 in
theorem w_named : about1.methodNamed? x = some theMethod := by decide +kernel
set_option maxRecDepth 65536 in
theorem w_hears : about1.hears theMethod below0 = true := by decide +kernel
set_option maxRecDepth 65536 in
theorem w_ripe : about1.ripe theMethod args0 below0 = true := by decide +kernel
theorem w_running : about1.status = .running := rfl
set_option maxRecDepth 65536 in
theorem w_room : about1.hasRoom e0.platform room_1 = true :=
  launch0.hasRoom_least _ room_1 (by decide +kernel) (by decide +kernel) (by decide +kernel) (by decide +kernel) (by decide +kernel) (by decide +kernel)
theorem allAtoms_all (ts : List Jvm.Cond) (a : Array Jvm.Value) (st : Jvm.State) : (allAtoms ts).before a st = ts.all (fun c => c.before a st) := by
  induction ts with
  | nil => rfl
  | cons c t ih =>
    show (Jvm.Cond.and c (allAtoms t)).before a st = _
    rw [Jvm.Cond.before_and, ih, List.all_cons]
def words1 : List Jvm.Cond := Jvm.Cond.code x code maxLocals ret :: tables_1
/-- a 'code' word, met by the world's own term for the bytes: nothing is compared byte by byte -/
theorem code_word {y : MethodName} {bytes : ByteArray} {mx : Nat} {rt : Option FieldType} {a : Array Value} {s : State} {m : MethodId} {meth : Method} {c : Code} (h1 : s.methodNamed? y = some m) (h2 : s.vm.method? m = some meth) (h3 : meth.code = some c) (h4 : c.code = bytes)
    (h5 : (c.maxLocals == mx && c.exceptionTable.isEmpty && decide (c.maxStack ≤ mostOperands) && decide (meth.sig.returnType = rt) && !meth.locks && decide (parseMethodDescriptor y.desc = some meth.sig)) = true) : (Jvm.Cond.code y bytes mx rt).before a s = true := by
  simp only [Bool.and_eq_true, beq_iff_eq, Bool.not_eq_true', decide_eq_true_eq] at h5
  obtain ⟨⟨⟨⟨⟨g1, g2⟩, g3⟩, g4⟩, g5⟩, g6⟩ := h5
  simp [Cond.before, Cond.holds, Cond.value, h1, h2, h3, h4, g1, g2, g3, g4, g5, g6]
def isCode : Jvm.Cond → Bool
  | .code _ _ _ _ => true
  | _ => false
theorem all_split {L : List Jvm.Cond} {P : Jvm.Cond → Bool} (h1 : L.all (fun c => isCode c || P c) = true) (h2 : ∀ c ∈ L.filter isCode, P c = true) : L.all P = true := by
  refine List.all_eq_true.mpr fun c hc => ?_
  have h := List.all_eq_true.mp h1 c hc
  rcases Bool.eq_false_or_eq_true (isCode c) with hi | hi
  · exact h2 c (List.mem_filter.mpr ⟨hc, hi⟩)
  · simpa [hi] using h
set_option maxRecDepth 65536 in
theorem w_c0 : (Jvm.Cond.code x code maxLocals ret).before args0 about1 = true := code_word (m := ⟨1, 1⟩) (meth := k1m1) (c := k1c1) (by decide +kernel) rfl rfl rfl (by decide +kernel)
set_option maxRecDepth 65536 in
theorem w_c1 : (Jvm.Cond.code ({ cls := "com/example/redefine/redefine/assessment/DateTimeLiteral", name := "daysInMonth", desc := "(IZ)I" } : Jvm.MethodName) prog_60_method_13_code (3 : Nat) (Option.some Jvm.ClassFile.FieldType.int)).before args0 about1 = true := code_word (m := ⟨4, 0⟩) (meth := k4m0) (c := k4c0) (by decide +kernel) rfl rfl rfl (by decide +kernel)
def codes1 : List Jvm.Cond := [Jvm.Cond.code x code maxLocals ret, Jvm.Cond.code ({ cls := "com/example/redefine/redefine/assessment/DateTimeLiteral", name := "daysInMonth", desc := "(IZ)I" } : Jvm.MethodName) prog_60_method_13_code (3 : Nat) (Option.some Jvm.ClassFile.FieldType.int)]
set_option maxRecDepth 65536 in
theorem codes_eq : words1.filter isCode = codes1 := rfl
theorem w_codes : ∀ c ∈ words1.filter isCode, c.before args0 about1 = true := by
  rw [codes_eq]
  intro c hc
  simp only [codes1, List.mem_cons, List.not_mem_nil, or_false] at hc
  rcases hc with rfl | rfl
  · exact w_c0
  · exact w_c1
set_option maxRecDepth 65536 in
theorem w_t1 : words1.all (fun c => isCode c || c.before args0 about1) = true := by decide +kernel
theorem w_tables : (allAtoms (Jvm.Cond.code x code maxLocals ret :: tables_1)).before args0 about1 = true := by
  rw [allAtoms_all]
  show words1.all (fun c => c.before args0 about1) = true
  refine all_split ?_ w_codes
  rw [w_t1]
set_option maxRecDepth 65536 in
theorem w_case : (Jvm.Cond.and given_1 narrow_1).before args0 about1 = true := by decide +kernel
theorem w_applies : (headSpec (Jvm.Cond.code x code maxLocals ret :: tables_1) room_1).applies x e0.platform about1 = true :=
  (Spec.applies_iff w_frames).mpr ⟨w_running, w_runnable, w_alone, w_named, w_hears, w_ripe, w_room, w_tables⟩
theorem atStart : AtStart classFile x code maxLocals ret World_1 tables_1 room_1 Calls_1 rest_1 Pre_1 launch0 p0 e0 about1 theMethod args0 below0 :=
  ⟨lists_1, trivial, launch0.admits_env _ _ _, launch0.least_env, fairChoices_fair.cas, fairChoices_fair.clock, w_frames, w_args, w_heap, w_applies, trivial, trivial, w_case⟩
end start1
theorem witness_1 : WitnessClaimed_1 := ⟨start1.p0, start1.e0, start1.about1, start1.theMethod, start1.args0, start1.below0, start1.atStart⟩
end Jvm.Pilot.@@N@@
