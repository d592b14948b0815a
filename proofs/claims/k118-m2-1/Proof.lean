import JvmDerived
import JvmDerived.Pilot.@@N@@Statement
import JvmDerived.Pilot.@@N@@Code
set_option linter.unusedVariables false
set_option linter.unusedSimpArgs false
namespace Jvm.Pilot.@@N@@
open Jvm Jvm.ClassFile Sem Op Lib Jvm.Free Jvm.Stand Jvm.LawKit Jvm.RoadKit Bundle Jvm.Pilot.@@N@@.Jvm.D
section OwnKit
variable {p : Program} {l : Launch} {e : Env} {R : Room} {s : State} {m : MethodId} {args : Array Value} {below : List Frame} {meth : Method} {c : Code} {T : State} {locs : List Loc} {cells slots : Nat} {Z : State} {a0 : Array Value} {h : Heap} {W : State → Outcome → Prop}
/-- what a walk owes from a frame on -/
def Go (p : Program) (e : Env) (below : List Frame) (W : State → Outcome → Prop) (T : State) (g : JFrame) : Prop := ∃ t o, Steps p.tables e below (T.setTop g) t ∧ t.status = .running ∧ Ended t below o ∧ W t o
theorem Go.of {T T' : State} {g g' : JFrame} (q : ∀ t, Steps p.tables e below (T'.setTop g') t → Steps p.tables e below (T.setTop g) t) (k : Go p e below W T' g') : Go p e below W T g := by
  obtain ⟨t, o, h1, h2⟩ := k
  exact ⟨t, o, q t h1, h2⟩
theorem Go.ret (X : Stand p l e R s m args below meth c T locs cells slots) {g : JFrame} {v : Option Value} (hv : meth.sig.returnType = none → v = none) (hk : meth.locks = false)
    (st : ∀ fs, (∀ (f : JFrame) (acts : List Action), f.method = m → f.locked = none → f.entered = [] → (doReturn e (T.setTop f) acts v).1 = T.setFrames fs) → Steps p.tables e below (T.setTop g) (T.setFrames fs))
    (hq : ∀ t : State, t.heap = T.heap → FrameEnd s (.returned v) t locs cells slots → W t (.returned v)) : Go p e below W T g := by
  obtain ⟨fs, hr, hrun, hended, hW, hsame⟩ := X.leave (v := v) hv hk
  exact ⟨_, _, st fs hr, hrun, hended, hq _ rfl ⟨⟨_, rfl⟩, hW, hsame⟩⟩
/-- ireturn of a boolean, byte, char, short -/
theorem Go.retN (X : Stand p l e R s m args below meth c T locs cells slots) (hx : p.tables.exec = Jvm.exec) {pc : Nat} {Ls : Array Slot} {z w : Int32} {t : FieldType} {rest : List Value} (hret : meth.sig.returnType = some t) (ht : t = .boolean ∨ t = .byte ∨ t = .char ∨ t = .short) (hd : decode c.code pc = .ok (.ireturn, 1)) (hk : meth.locks = false) (hn : nar t z = w)
    (hq : ∀ t : State, t.heap = T.heap → FrameEnd s (.returned (some (.int w))) t locs cells slots → W t (.returned (some (.int w)))) : Go p e below W T (mkF m pc Ls (.int z :: rest)) := by
  subst hn
  exact Go.ret X (fun q => by rw [hret] at q; cases q) hk (fun fs hr => Jvm.RoadKit.retN X hx hret ht hd hr) hq
theorem Go.retI (X : Stand p l e R s m args below meth c T locs cells slots) (hx : p.tables.exec = Jvm.exec) {pc : Nat} {Ls : Array Slot} {z w : Int32} {rest : List Value} (hret : meth.sig.returnType = some .int) (hd : decode c.code pc = .ok (.ireturn, 1)) (hk : meth.locks = false) (hn : z = w)
    (hq : ∀ t : State, t.heap = T.heap → FrameEnd s (.returned (some (.int w))) t locs cells slots → W t (.returned (some (.int w)))) : Go p e below W T (mkF m pc Ls (.int z :: rest)) := by
  subst hn
  exact Go.ret X (fun q => by rw [hret] at q; cases q) hk (fun fs hr => retOut X hx hret rfl (Or.inl ⟨rfl, Or.inl rfl, z, rfl⟩) hd hr) hq
theorem Go.retJ (X : Stand p l e R s m args below meth c T locs cells slots) (hx : p.tables.exec = Jvm.exec) {pc : Nat} {Ls : Array Slot} {z w : Int64} {rest : List Value} (hret : meth.sig.returnType = some .long) (hd : decode c.code pc = .ok (.lreturn, 1)) (hk : meth.locks = false) (hn : z = w)
    (hq : ∀ t : State, t.heap = T.heap → FrameEnd s (.returned (some (.long w))) t locs cells slots → W t (.returned (some (.long w)))) : Go p e below W T (mkF m pc Ls (.long z :: rest)) := by
  subst hn
  exact Go.ret X (fun q => by rw [hret] at q; cases q) hk (fun fs hr => retOut X hx hret rfl (Or.inr (Or.inl ⟨rfl, rfl, z, rfl⟩)) hd hr) hq
theorem Go.retA (X : Stand p l e R s m args below meth c T locs cells slots) (hx : p.tables.exec = Jvm.exec) {pc : Nat} {Ls : Array Slot} {t : FieldType} {a : Addr} {rest : List Value} (hret : meth.sig.returnType = some t) (ht : t.isReference = true) (hnr : narrow t (.ref a) = .ref a) (hd : decode c.code pc = .ok (.areturn, 1)) (hk : meth.locks = false)
    (hq : ∀ t : State, t.heap = T.heap → FrameEnd s (.returned (some (.ref a))) t locs cells slots → W t (.returned (some (.ref a)))) : Go p e below W T (mkF m pc Ls (.ref a :: rest)) :=
  Go.ret X (fun q => by rw [hret] at q; cases q) hk (fun fs hr => retOut X hx hret hnr (Or.inr (Or.inr (Or.inr (Or.inr ⟨rfl, ht, rfl⟩)))) hd hr) hq
theorem Go.retV (X : Stand p l e R s m args below meth c T locs cells slots) (hx : p.tables.exec = Jvm.exec) {pc : Nat} {Ls : Array Slot} (hret : meth.sig.returnType = none) (hd : decode c.code pc = .ok (.return_, 1)) (hk : meth.locks = false)
    (hq : ∀ t : State, t.heap = T.heap → FrameEnd s (.returned none) t locs cells slots → W t (.returned none)) : Go p e below W T (mkF m pc Ls []) :=
  Go.ret X (fun _ => rfl) hk (fun fs hr => X.returnOut hx hret hd hr) hq
/-- a body's contract out of its walk -/
theorem own_body {y : MethodName} {bytes : ByteArray} {maxL : Nat} {ret : Option FieldType} {ws : List Jvm.Cond} {rm : Room} {as' : Array Value} {Q : Option Value → Heap → List Loc → Prop} {Ls : Array Slot} (hpn : plainFor y = true) (hef : ∀ m, entryFrame m as' maxL = mkF m 0 Ls [])
    (walk : ∀ (p : Program) (e : Env) (s : State) (m : MethodId) (below : List Frame) (meth : Method) (c : Code) (T : State) (W : State → Outcome → Prop), Stand p l e rm s m as' below meth c T [] 0 0 → p.tables.exec = Jvm.exec → c.code = bytes → c.maxLocals = maxL → meth.sig.returnType = ret → meth.locks = false → s.vm.findClass y.cls = some m.cls → meth.name = y.name → Z.Warmed39 s.vm → T.heap = h →
      (∀ (t : State) v L cells slots, Q v t.heap L → FrameEnd s (.returned v) t L cells slots → cells ≤ rm.cells → slots ≤ rm.slots → W t (.returned v)) → Go p e below W T (mkF m 0 Ls [])) :
    MetFree l y (head1 (Jvm.Cond.code y bytes maxL ret :: ws) rm) (fun a U => a = as' ∧ Z.Warmed39 U.vm ∧ U.heap = h) (fun _ _ _ _ _ => True) (fun _ U o U' => ∃ v L, o = .returned v ∧ Q v U'.heap L ∧ FrameEnd U o U' L rm.cells rm.slots) := by
  refine MetFree.of_bodySF hpn hisR ?_
  intro p e s m args below meth c s₁ Bd hml hP hK
  obtain ⟨rfl, hZ, hh⟩ := hP
  obtain ⟨t, o, h1, h2, h3, h4⟩ := walk p e s m below meth c s₁ (fun t o => ∃ v L, o = .returned v ∧ Q v t.heap L ∧ FrameEnd s o t L rm.cells rm.slots) (Stand.of_body Bd) Bd.exec Bd.bytes hml Bd.returns (BodyLoose.notSynchronized Bd) (findClass_of_methodNamed Bd.named) (name_of_methodNamed Bd.named Bd.method).1 hZ (by rw [← hh, Bd.state]; rfl)
    (fun t v L cells slots hQ hF hc hs => ⟨v, L, rfl, hQ, hF.1, hF.2.1, hF.2.2.mono hc hs⟩)
  exact ⟨t, o, castTop (hef m) h1, h2, h3, h4⟩
/-- a contract, written short -/
abbrev Con (l : Launch) (Z : State) (y : MethodName) (bytes : ByteArray) (maxL : Nat) (ret : Option FieldType) (ws : List Jvm.Cond) (rm : Room) (as' : Array Value) (h : Heap) (Q : Option Value → Heap → List Loc → Prop) : Prop :=
  MetFree l y (head1 (Jvm.Cond.code y bytes maxL ret :: ws) rm) (fun a U => a = as' ∧ Z.Warmed39 U.vm ∧ U.heap = h) (fun _ _ _ _ _ => True) (fun _ U o U' => ∃ v L, o = .returned v ∧ Q v U'.heap L ∧ FrameEnd U o U' L rm.cells rm.slots)
/-- what a callee that leaves the heap as it is says -/
def PQ (w : Value) (h0 : Heap) (v : Option Value) (h : Heap) (L : List Loc) : Prop := v = some w ∧ L = [] ∧ h = h0
theorem Go.callS (X : Stand p l e R s m args below meth c T locs cells slots) (hx : p.tables.exec = Jvm.exec) (hZ : Z.Warmed39 s.vm) {own : String} {index : Nat} {y : MethodName} {bytes : ByteArray} {maxL : Nat} {ret : Option FieldType} {rm : Room} {as' : Array Value} {Q : Option Value → Heap → List Loc → Prop} (hown : s.vm.findClass own = some m.cls)
    (w1 : (Jvm.Cond.methodLink own index y).before a0 Z = true) (w2 : (Jvm.Cond.static y).before a0 Z = true) (w3 : (Jvm.Cond.initialized y.cls).before a0 Z = true) (w4 : (Jvm.Cond.code y bytes maxL ret).before a0 Z = true) (hy : y.cls ≠ "java/lang/invoke/MethodHandle" ∧ y.cls ≠ "java/lang/invoke/VarHandle") (eT : T.heap = h)
    (hM : Con l Z y bytes maxL ret [] rm as' h Q) {V : Nat} (hf : rm.frames + 1 ≤ R.frames) (hl : V + (maxL + 11) + rm.locals ≤ R.locals) (hc : cells + rm.cells ≤ R.cells) (hs : slots + rm.slots ≤ R.slots)
    {pc : Nat} {Ls : Array Slot} {st : List Value} (hsize : Ls.size = c.maxLocals) {argsL rest : List Value} (has : argsL.toArray = as') (hlen : ∀ sig, parseMethodDescriptor y.desc = some sig → argsL.length = sig.parameters.length) (hstack : st = argsL.reverse ++ rest) (hV : (rest.map fun v => v.category).sum ≤ V) (hd : decode c.code pc = .ok (.invokestatic index, 3))
    (K : ∀ T' v L, Q v T'.heap L → Stand p l e R s m args below meth c T' (locs ++ L) (cells + rm.cells) (slots + rm.slots) → Go p e below W T' (mkF m (pc + 3) Ls (v.toList ++ rest))) : Go p e below W T (mkF m pc Ls st) := by
  obtain ⟨v, vm₁, ⟨T', L', k', n'⟩, -, X', ⟨L, hQ, e1, e2, e3⟩, st'⟩ := Jvm.LawKit.callS X hx hown (mvT hZ w1) (mvT hZ w2) (mvT hZ w3) (mvT hZ w4) hy (backOf (W := V) hM hZ w4 w3 hf hl) (g := mkF m pc Ls st) rfl hsize hlen hstack (by show 2 * 0 + _ ≤ _; omega) hd (fun _ _ => ⟨has, eT, hc, hs⟩)
  dsimp only [Pt.U, Pt.locs, Pt.cells, Pt.slots] at X' e1 e2 e3 st' hQ
  subst e1 e2 e3
  exact Go.of st' (K _ _ _ hQ X')
theorem Go.callP (X : Stand p l e R s m args below meth c T locs cells slots) (hx : p.tables.exec = Jvm.exec) (hZ : Z.Warmed39 s.vm) {own : String} {index : Nat} {y : MethodName} {bytes : ByteArray} {maxL : Nat} {ret : Option FieldType} {rm : Room} {as' : Array Value} {w : Value} (hown : s.vm.findClass own = some m.cls)
    (w1 : (Jvm.Cond.methodLink own index y).before a0 Z = true) (w2 : (Jvm.Cond.static y).before a0 Z = true) (w3 : (Jvm.Cond.initialized y.cls).before a0 Z = true) (w4 : (Jvm.Cond.code y bytes maxL ret).before a0 Z = true) (hy : y.cls ≠ "java/lang/invoke/MethodHandle" ∧ y.cls ≠ "java/lang/invoke/VarHandle") (eT : T.heap = h)
    (hM : Con l Z y bytes maxL ret [] rm as' h (PQ w h)) {V : Nat} (hf : rm.frames + 1 ≤ R.frames) (hl : V + (maxL + 11) + rm.locals ≤ R.locals) (z1 : rm.cells = 0) (z2 : rm.slots = 0) (hc : cells ≤ R.cells) (hs : slots ≤ R.slots)
    {pc : Nat} {Ls : Array Slot} {st : List Value} (hsize : Ls.size = c.maxLocals) {argsL rest : List Value} (has : argsL.toArray = as') (hlen : ∀ sig, parseMethodDescriptor y.desc = some sig → argsL.length = sig.parameters.length) (hstack : st = argsL.reverse ++ rest) (hV : (rest.map fun v => v.category).sum ≤ V) (hd : decode c.code pc = .ok (.invokestatic index, 3))
    (K : ∀ T', Stand p l e R s m args below meth c T' locs cells slots → T'.heap = h → Go p e below W T' (mkF m (pc + 3) Ls (w :: rest))) : Go p e below W T (mkF m pc Ls st) := by
  refine Go.callS X hx hZ hown w1 w2 w3 w4 hy eT hM hf hl (by rw [z1]; exact hc) (by rw [z2]; exact hs) hsize has hlen hstack hV hd ?_
  rintro T' v L ⟨rfl, rfl, h3⟩ X'
  rw [z1, z2, List.append_nil] at X'
  exact K T' X' h3
end OwnKit
theorem pd__C_Z : parseMethodDescriptor "(C)Z" = some ⟨[.char], some .boolean⟩ := by decide +kernel
theorem d1_0 : decode method_2_code 0 = .ok (.iload_n 0, 1) := by decide +kernel
theorem d1_1 : decode method_2_code 1 = .ok (.bipush 48, 2) := by decide +kernel
theorem d1_3 : decode method_2_code 3 = .ok (.if_icmp .eq 57, 3) := by decide +kernel
theorem d1_6 : decode method_2_code 6 = .ok (.iload_n 0, 1) := by decide +kernel
theorem d1_7 : decode method_2_code 7 = .ok (.bipush 49, 2) := by decide +kernel
theorem d1_9 : decode method_2_code 9 = .ok (.if_icmp .eq 51, 3) := by decide +kernel
theorem d1_12 : decode method_2_code 12 = .ok (.iload_n 0, 1) := by decide +kernel
theorem d1_13 : decode method_2_code 13 = .ok (.bipush 50, 2) := by decide +kernel
theorem d1_15 : decode method_2_code 15 = .ok (.if_icmp .eq 45, 3) := by decide +kernel
theorem d1_18 : decode method_2_code 18 = .ok (.iload_n 0, 1) := by decide +kernel
theorem d1_19 : decode method_2_code 19 = .ok (.bipush 51, 2) := by decide +kernel
theorem d1_21 : decode method_2_code 21 = .ok (.if_icmp .eq 39, 3) := by decide +kernel
theorem d1_24 : decode method_2_code 24 = .ok (.iload_n 0, 1) := by decide +kernel
theorem d1_25 : decode method_2_code 25 = .ok (.bipush 52, 2) := by decide +kernel
theorem d1_27 : decode method_2_code 27 = .ok (.if_icmp .eq 33, 3) := by decide +kernel
theorem d1_30 : decode method_2_code 30 = .ok (.iload_n 0, 1) := by decide +kernel
theorem d1_31 : decode method_2_code 31 = .ok (.bipush 53, 2) := by decide +kernel
theorem d1_33 : decode method_2_code 33 = .ok (.if_icmp .eq 27, 3) := by decide +kernel
theorem d1_36 : decode method_2_code 36 = .ok (.iload_n 0, 1) := by decide +kernel
theorem d1_37 : decode method_2_code 37 = .ok (.bipush 54, 2) := by decide +kernel
theorem d1_39 : decode method_2_code 39 = .ok (.if_icmp .eq 21, 3) := by decide +kernel
theorem d1_42 : decode method_2_code 42 = .ok (.iload_n 0, 1) := by decide +kernel
theorem d1_43 : decode method_2_code 43 = .ok (.bipush 55, 2) := by decide +kernel
theorem d1_45 : decode method_2_code 45 = .ok (.if_icmp .eq 15, 3) := by decide +kernel
theorem d1_48 : decode method_2_code 48 = .ok (.iload_n 0, 1) := by decide +kernel
theorem d1_49 : decode method_2_code 49 = .ok (.bipush 56, 2) := by decide +kernel
theorem d1_51 : decode method_2_code 51 = .ok (.if_icmp .eq 9, 3) := by decide +kernel
theorem d1_54 : decode method_2_code 54 = .ok (.iload_n 0, 1) := by decide +kernel
theorem d1_55 : decode method_2_code 55 = .ok (.bipush 57, 2) := by decide +kernel
theorem d1_57 : decode method_2_code 57 = .ok (.if_icmp .ne 7, 3) := by decide +kernel
theorem d1_60 : decode method_2_code 60 = .ok (.iconst 1, 1) := by decide +kernel
theorem d1_61 : decode method_2_code 61 = .ok (.goto 4, 3) := by decide +kernel
theorem d1_64 : decode method_2_code 64 = .ok (.iconst 0, 1) := by decide +kernel
theorem d1_65 : decode method_2_code 65 = .ok (.ireturn, 1) := by decide +kernel
theorem pn_1 : plainFor (⟨"com/example/classmark/classmark/check/AsciiIsDigitPinLaw", "oneOfTenDigits", "(C)Z"⟩ : MethodName) = true := plainFor_of_name (by show plainName "com/example/classmark/classmark/check/AsciiIsDigitPinLaw" = true; first | (simp [plainName, overriddenIn]; done) | decide +kernel)
theorem ef_1 (m : MethodId) (p1 : Int32) : entryFrame m #[(.int p1)] 1 = mkF m 0 #[.val (.int p1)] [] := by first | (simp [entryFrame, mkF, argsToLocals, Value.category]; done) | rfl
def f1 (p1 : Int32) : Int32 := (if p1 = (48 : Int32) then (1 : Int32) else (if p1 = (49 : Int32) then (1 : Int32) else (if p1 = (50 : Int32) then (1 : Int32) else (if p1 = (51 : Int32) then (1 : Int32) else (if p1 = (52 : Int32) then (1 : Int32) else (if p1 = (53 : Int32) then (1 : Int32) else (if p1 = (54 : Int32) then (1 : Int32) else (if p1 = (55 : Int32) then (1 : Int32) else (if p1 = (56 : Int32) then (1 : Int32) else (if p1 = (57 : Int32) then (1 : Int32) else (0 : Int32)))))))))))
theorem d2_0 : decode prog_1_method_2_code 0 = .ok (.iload_n 0, 1) := by decide +kernel
theorem d2_1 : decode prog_1_method_2_code 1 = .ok (.bipush 48, 2) := by decide +kernel
theorem d2_3 : decode prog_1_method_2_code 3 = .ok (.if_icmp .lt 13, 3) := by decide +kernel
theorem d2_6 : decode prog_1_method_2_code 6 = .ok (.iload_n 0, 1) := by decide +kernel
theorem d2_7 : decode prog_1_method_2_code 7 = .ok (.bipush 57, 2) := by decide +kernel
theorem d2_9 : decode prog_1_method_2_code 9 = .ok (.if_icmp .gt 7, 3) := by decide +kernel
theorem d2_12 : decode prog_1_method_2_code 12 = .ok (.iconst 1, 1) := by decide +kernel
theorem d2_13 : decode prog_1_method_2_code 13 = .ok (.goto 4, 3) := by decide +kernel
theorem d2_16 : decode prog_1_method_2_code 16 = .ok (.iconst 0, 1) := by decide +kernel
theorem d2_17 : decode prog_1_method_2_code 17 = .ok (.ireturn, 1) := by decide +kernel
theorem pn_2 : plainFor (⟨"com/example/classmark/classmark/check/Ascii", "isDigit", "(C)Z"⟩ : MethodName) = true := plainFor_of_name (by show plainName "com/example/classmark/classmark/check/Ascii" = true; first | (simp [plainName, overriddenIn]; done) | decide +kernel)
theorem ef_2 (m : MethodId) (p1 : Int32) : entryFrame m #[(.int p1)] 1 = mkF m 0 #[.val (.int p1)] [] := by first | (simp [entryFrame, mkF, argsToLocals, Value.category]; done) | rfl
def f2 (p1 : Int32) : Int32 := (if p1 < (48 : Int32) then (0 : Int32) else (if (57 : Int32) < p1 then (0 : Int32) else (1 : Int32)))
theorem pn_0 : plainFor x = true := plainFor_of_name (by show plainName "com/example/classmark/classmark/check/AsciiIsDigitPinLaw" = true; first | (simp [plainName, overriddenIn]; done) | decide +kernel)
theorem ef_0 (m : MethodId) (p1 : Int32) : entryFrame m #[(.int p1)] maxLocals = mkF m 0 #[.val (.int p1), .unset, .unset] [] := by first | (simp [entryFrame, mkF, argsToLocals, Value.category, maxLocals]; done) | rfl
def v0_1 (p1 : Int32) : Int32 := (p1.toUInt32.toUInt16.toUInt32.toInt32)
def v0_3 (p1 : Int32) : Int32 := (f1 (v0_1 p1))
def f0 (p1 : Int32) : Int32 := (if (f2 (v0_1 p1)) = (v0_3 p1) then (1 : Int32) else (0 : Int32))
set_option maxHeartbeats 4000000 in
theorem own_eq (c : Int32) : f2 c = f1 c := by
  simp only [f1, f2, Int32.lt_iff_toInt_lt, ← Int32.toInt_inj, show (48 : Int32).toInt = 48 from rfl, show (49 : Int32).toInt = 49 from rfl, show (50 : Int32).toInt = 50 from rfl, show (51 : Int32).toInt = 51 from rfl, show (52 : Int32).toInt = 52 from rfl, show (53 : Int32).toInt = 53 from rfl, show (54 : Int32).toInt = 54 from rfl, show (55 : Int32).toInt = 55 from rfl, show (56 : Int32).toInt = 56 from rfl, show (57 : Int32).toInt = 57 from rfl]
  generalize c.toInt = n
  repeat' split
  all_goals first | rfl | (exfalso; omega)
theorem own_law (x : Int32) : f0 x = 1 := by
  rw [f0, v0_3, own_eq, if_pos rfl]
set_option maxRecDepth 65536 in
set_option maxHeartbeats 40000000 in
theorem rm1 (l : Launch) (Z : State) (a0 : Array Value) (hw : ∀ d ∈ tables_1, d.before a0 Z = true) (ws : List Jvm.Cond) (p1 : Int32) (h0 : Heap) :
    Con l Z (⟨"com/example/classmark/classmark/check/AsciiIsDigitPinLaw", "oneOfTenDigits", "(C)Z"⟩ : MethodName) method_2_code 1 (some .boolean) ws ({ frames := 0, cells := 0, slots := 0, locals := 0 } : Room) #[(.int p1)] h0 (PQ (.int (f1 p1)) h0) := by
  refine own_body pn_1 (fun m => ef_1 m p1) ?_
  intro p e s m below meth c T0 W X0 hx hby hml hret hlk hown hnm hZ e0 hW
  show Go p e below W T0 (mkF m 0 #[.val (.int p1)] [])
  refine Go.of (fun _ k => XS.iloadN X0.here hx rfl (hb hby d1_0) rfl k) ?_
  show Go p e below W T0 (mkF m 1 #[.val (.int p1)] [(.int p1)])
  refine Go.of (fun _ k => XS.bipush X0.here hx rfl (hb hby d1_1) k) ?_
  show Go p e below W T0 (mkF m 3 #[.val (.int p1)] [(.int (48 : Int32)), (.int p1)])
  by_cases c1 : p1 = (48 : Int32)
  · refine Go.of (fun _ k => XS.icmpYes X0.here hx rfl (pc0 := 3) (pc' := 60) rfl (hb hby d1_3) rfl (Jvm.Free.XT.ii_eq_t c1) (by decide) (by decide) k) ?_
    show Go p e below W T0 (mkF m 60 #[.val (.int p1)] [])
    refine Go.of (fun _ k => XS.iconst X0.here hx rfl (hb hby d1_60) k) ?_
    show Go p e below W T0 (mkF m 61 #[.val (.int p1)] [(.int (1 : Int32))])
    refine Go.of (fun _ k => XS.goto X0.here hx rfl (pc0 := 61) (pc' := 65) rfl (hb hby d1_61) (by decide) (by decide) k) ?_
    show Go p e below W T0 (mkF m 65 #[.val (.int p1)] [(.int (1 : Int32))])
    have q : (f1 p1) = (1 : Int32) := by rw [f1, if_pos c1]
    exact Go.retN X0 hx hret (Or.inl rfl) (hb hby d1_65) hlk (Eq.trans rfl q.symm) (fun t ht fe => hW t _ _ _ _ ⟨rfl, rfl, ht.trans e0⟩ fe (by decide) (by decide))
  · refine Go.of (fun _ k => XS.icmpNo X0.here hx rfl (hb hby d1_3) rfl (Jvm.Free.XT.ii_eq_f c1) k) ?_
    show Go p e below W T0 (mkF m 6 #[.val (.int p1)] [])
    refine Go.of (fun _ k => XS.iloadN X0.here hx rfl (hb hby d1_6) rfl k) ?_
    show Go p e below W T0 (mkF m 7 #[.val (.int p1)] [(.int p1)])
    refine Go.of (fun _ k => XS.bipush X0.here hx rfl (hb hby d1_7) k) ?_
    show Go p e below W T0 (mkF m 9 #[.val (.int p1)] [(.int (49 : Int32)), (.int p1)])
    by_cases c2 : p1 = (49 : Int32)
    · refine Go.of (fun _ k => XS.icmpYes X0.here hx rfl (pc0 := 9) (pc' := 60) rfl (hb hby d1_9) rfl (Jvm.Free.XT.ii_eq_t c2) (by decide) (by decide) k) ?_
      show Go p e below W T0 (mkF m 60 #[.val (.int p1)] [])
      refine Go.of (fun _ k => XS.iconst X0.here hx rfl (hb hby d1_60) k) ?_
      show Go p e below W T0 (mkF m 61 #[.val (.int p1)] [(.int (1 : Int32))])
      refine Go.of (fun _ k => XS.goto X0.here hx rfl (pc0 := 61) (pc' := 65) rfl (hb hby d1_61) (by decide) (by decide) k) ?_
      show Go p e below W T0 (mkF m 65 #[.val (.int p1)] [(.int (1 : Int32))])
      have q : (f1 p1) = (1 : Int32) := by rw [f1, if_neg c1, if_pos c2]
      exact Go.retN X0 hx hret (Or.inl rfl) (hb hby d1_65) hlk (Eq.trans rfl q.symm) (fun t ht fe => hW t _ _ _ _ ⟨rfl, rfl, ht.trans e0⟩ fe (by decide) (by decide))
    · refine Go.of (fun _ k => XS.icmpNo X0.here hx rfl (hb hby d1_9) rfl (Jvm.Free.XT.ii_eq_f c2) k) ?_
      show Go p e below W T0 (mkF m 12 #[.val (.int p1)] [])
      refine Go.of (fun _ k => XS.iloadN X0.here hx rfl (hb hby d1_12) rfl k) ?_
      show Go p e below W T0 (mkF m 13 #[.val (.int p1)] [(.int p1)])
      refine Go.of (fun _ k => XS.bipush X0.here hx rfl (hb hby d1_13) k) ?_
      show Go p e below W T0 (mkF m 15 #[.val (.int p1)] [(.int (50 : Int32)), (.int p1)])
      by_cases c3 : p1 = (50 : Int32)
      · refine Go.of (fun _ k => XS.icmpYes X0.here hx rfl (pc0 := 15) (pc' := 60) rfl (hb hby d1_15) rfl (Jvm.Free.XT.ii_eq_t c3) (by decide) (by decide) k) ?_
        show Go p e below W T0 (mkF m 60 #[.val (.int p1)] [])
        refine Go.of (fun _ k => XS.iconst X0.here hx rfl (hb hby d1_60) k) ?_
        show Go p e below W T0 (mkF m 61 #[.val (.int p1)] [(.int (1 : Int32))])
        refine Go.of (fun _ k => XS.goto X0.here hx rfl (pc0 := 61) (pc' := 65) rfl (hb hby d1_61) (by decide) (by decide) k) ?_
        show Go p e below W T0 (mkF m 65 #[.val (.int p1)] [(.int (1 : Int32))])
        have q : (f1 p1) = (1 : Int32) := by rw [f1, if_neg c1, if_neg c2, if_pos c3]
        exact Go.retN X0 hx hret (Or.inl rfl) (hb hby d1_65) hlk (Eq.trans rfl q.symm) (fun t ht fe => hW t _ _ _ _ ⟨rfl, rfl, ht.trans e0⟩ fe (by decide) (by decide))
      · refine Go.of (fun _ k => XS.icmpNo X0.here hx rfl (hb hby d1_15) rfl (Jvm.Free.XT.ii_eq_f c3) k) ?_
        show Go p e below W T0 (mkF m 18 #[.val (.int p1)] [])
        refine Go.of (fun _ k => XS.iloadN X0.here hx rfl (hb hby d1_18) rfl k) ?_
        show Go p e below W T0 (mkF m 19 #[.val (.int p1)] [(.int p1)])
        refine Go.of (fun _ k => XS.bipush X0.here hx rfl (hb hby d1_19) k) ?_
        show Go p e below W T0 (mkF m 21 #[.val (.int p1)] [(.int (51 : Int32)), (.int p1)])
        by_cases c4 : p1 = (51 : Int32)
        · refine Go.of (fun _ k => XS.icmpYes X0.here hx rfl (pc0 := 21) (pc' := 60) rfl (hb hby d1_21) rfl (Jvm.Free.XT.ii_eq_t c4) (by decide) (by decide) k) ?_
          show Go p e below W T0 (mkF m 60 #[.val (.int p1)] [])
          refine Go.of (fun _ k => XS.iconst X0.here hx rfl (hb hby d1_60) k) ?_
          show Go p e below W T0 (mkF m 61 #[.val (.int p1)] [(.int (1 : Int32))])
          refine Go.of (fun _ k => XS.goto X0.here hx rfl (pc0 := 61) (pc' := 65) rfl (hb hby d1_61) (by decide) (by decide) k) ?_
          show Go p e below W T0 (mkF m 65 #[.val (.int p1)] [(.int (1 : Int32))])
          have q : (f1 p1) = (1 : Int32) := by rw [f1, if_neg c1, if_neg c2, if_neg c3, if_pos c4]
          exact Go.retN X0 hx hret (Or.inl rfl) (hb hby d1_65) hlk (Eq.trans rfl q.symm) (fun t ht fe => hW t _ _ _ _ ⟨rfl, rfl, ht.trans e0⟩ fe (by decide) (by decide))
        · refine Go.of (fun _ k => XS.icmpNo X0.here hx rfl (hb hby d1_21) rfl (Jvm.Free.XT.ii_eq_f c4) k) ?_
          show Go p e below W T0 (mkF m 24 #[.val (.int p1)] [])
          refine Go.of (fun _ k => XS.iloadN X0.here hx rfl (hb hby d1_24) rfl k) ?_
          show Go p e below W T0 (mkF m 25 #[.val (.int p1)] [(.int p1)])
          refine Go.of (fun _ k => XS.bipush X0.here hx rfl (hb hby d1_25) k) ?_
          show Go p e below W T0 (mkF m 27 #[.val (.int p1)] [(.int (52 : Int32)), (.int p1)])
          by_cases c5 : p1 = (52 : Int32)
          · refine Go.of (fun _ k => XS.icmpYes X0.here hx rfl (pc0 := 27) (pc' := 60) rfl (hb hby d1_27) rfl (Jvm.Free.XT.ii_eq_t c5) (by decide) (by decide) k) ?_
            show Go p e below W T0 (mkF m 60 #[.val (.int p1)] [])
            refine Go.of (fun _ k => XS.iconst X0.here hx rfl (hb hby d1_60) k) ?_
            show Go p e below W T0 (mkF m 61 #[.val (.int p1)] [(.int (1 : Int32))])
            refine Go.of (fun _ k => XS.goto X0.here hx rfl (pc0 := 61) (pc' := 65) rfl (hb hby d1_61) (by decide) (by decide) k) ?_
            show Go p e below W T0 (mkF m 65 #[.val (.int p1)] [(.int (1 : Int32))])
            have q : (f1 p1) = (1 : Int32) := by rw [f1, if_neg c1, if_neg c2, if_neg c3, if_neg c4, if_pos c5]
            exact Go.retN X0 hx hret (Or.inl rfl) (hb hby d1_65) hlk (Eq.trans rfl q.symm) (fun t ht fe => hW t _ _ _ _ ⟨rfl, rfl, ht.trans e0⟩ fe (by decide) (by decide))
          · refine Go.of (fun _ k => XS.icmpNo X0.here hx rfl (hb hby d1_27) rfl (Jvm.Free.XT.ii_eq_f c5) k) ?_
            show Go p e below W T0 (mkF m 30 #[.val (.int p1)] [])
            refine Go.of (fun _ k => XS.iloadN X0.here hx rfl (hb hby d1_30) rfl k) ?_
            show Go p e below W T0 (mkF m 31 #[.val (.int p1)] [(.int p1)])
            refine Go.of (fun _ k => XS.bipush X0.here hx rfl (hb hby d1_31) k) ?_
            show Go p e below W T0 (mkF m 33 #[.val (.int p1)] [(.int (53 : Int32)), (.int p1)])
            by_cases c6 : p1 = (53 : Int32)
            · refine Go.of (fun _ k => XS.icmpYes X0.here hx rfl (pc0 := 33) (pc' := 60) rfl (hb hby d1_33) rfl (Jvm.Free.XT.ii_eq_t c6) (by decide) (by decide) k) ?_
              show Go p e below W T0 (mkF m 60 #[.val (.int p1)] [])
              refine Go.of (fun _ k => XS.iconst X0.here hx rfl (hb hby d1_60) k) ?_
              show Go p e below W T0 (mkF m 61 #[.val (.int p1)] [(.int (1 : Int32))])
              refine Go.of (fun _ k => XS.goto X0.here hx rfl (pc0 := 61) (pc' := 65) rfl (hb hby d1_61) (by decide) (by decide) k) ?_
              show Go p e below W T0 (mkF m 65 #[.val (.int p1)] [(.int (1 : Int32))])
              have q : (f1 p1) = (1 : Int32) := by rw [f1, if_neg c1, if_neg c2, if_neg c3, if_neg c4, if_neg c5, if_pos c6]
              exact Go.retN X0 hx hret (Or.inl rfl) (hb hby d1_65) hlk (Eq.trans rfl q.symm) (fun t ht fe => hW t _ _ _ _ ⟨rfl, rfl, ht.trans e0⟩ fe (by decide) (by decide))
            · refine Go.of (fun _ k => XS.icmpNo X0.here hx rfl (hb hby d1_33) rfl (Jvm.Free.XT.ii_eq_f c6) k) ?_
              show Go p e below W T0 (mkF m 36 #[.val (.int p1)] [])
              refine Go.of (fun _ k => XS.iloadN X0.here hx rfl (hb hby d1_36) rfl k) ?_
              show Go p e below W T0 (mkF m 37 #[.val (.int p1)] [(.int p1)])
              refine Go.of (fun _ k => XS.bipush X0.here hx rfl (hb hby d1_37) k) ?_
              show Go p e below W T0 (mkF m 39 #[.val (.int p1)] [(.int (54 : Int32)), (.int p1)])
              by_cases c7 : p1 = (54 : Int32)
              · refine Go.of (fun _ k => XS.icmpYes X0.here hx rfl (pc0 := 39) (pc' := 60) rfl (hb hby d1_39) rfl (Jvm.Free.XT.ii_eq_t c7) (by decide) (by decide) k) ?_
                show Go p e below W T0 (mkF m 60 #[.val (.int p1)] [])
                refine Go.of (fun _ k => XS.iconst X0.here hx rfl (hb hby d1_60) k) ?_
                show Go p e below W T0 (mkF m 61 #[.val (.int p1)] [(.int (1 : Int32))])
                refine Go.of (fun _ k => XS.goto X0.here hx rfl (pc0 := 61) (pc' := 65) rfl (hb hby d1_61) (by decide) (by decide) k) ?_
                show Go p e below W T0 (mkF m 65 #[.val (.int p1)] [(.int (1 : Int32))])
                have q : (f1 p1) = (1 : Int32) := by rw [f1, if_neg c1, if_neg c2, if_neg c3, if_neg c4, if_neg c5, if_neg c6, if_pos c7]
                exact Go.retN X0 hx hret (Or.inl rfl) (hb hby d1_65) hlk (Eq.trans rfl q.symm) (fun t ht fe => hW t _ _ _ _ ⟨rfl, rfl, ht.trans e0⟩ fe (by decide) (by decide))
              · refine Go.of (fun _ k => XS.icmpNo X0.here hx rfl (hb hby d1_39) rfl (Jvm.Free.XT.ii_eq_f c7) k) ?_
                show Go p e below W T0 (mkF m 42 #[.val (.int p1)] [])
                refine Go.of (fun _ k => XS.iloadN X0.here hx rfl (hb hby d1_42) rfl k) ?_
                show Go p e below W T0 (mkF m 43 #[.val (.int p1)] [(.int p1)])
                refine Go.of (fun _ k => XS.bipush X0.here hx rfl (hb hby d1_43) k) ?_
                show Go p e below W T0 (mkF m 45 #[.val (.int p1)] [(.int (55 : Int32)), (.int p1)])
                by_cases c8 : p1 = (55 : Int32)
                · refine Go.of (fun _ k => XS.icmpYes X0.here hx rfl (pc0 := 45) (pc' := 60) rfl (hb hby d1_45) rfl (Jvm.Free.XT.ii_eq_t c8) (by decide) (by decide) k) ?_
                  show Go p e below W T0 (mkF m 60 #[.val (.int p1)] [])
                  refine Go.of (fun _ k => XS.iconst X0.here hx rfl (hb hby d1_60) k) ?_
                  show Go p e below W T0 (mkF m 61 #[.val (.int p1)] [(.int (1 : Int32))])
                  refine Go.of (fun _ k => XS.goto X0.here hx rfl (pc0 := 61) (pc' := 65) rfl (hb hby d1_61) (by decide) (by decide) k) ?_
                  show Go p e below W T0 (mkF m 65 #[.val (.int p1)] [(.int (1 : Int32))])
                  have q : (f1 p1) = (1 : Int32) := by rw [f1, if_neg c1, if_neg c2, if_neg c3, if_neg c4, if_neg c5, if_neg c6, if_neg c7, if_pos c8]
                  exact Go.retN X0 hx hret (Or.inl rfl) (hb hby d1_65) hlk (Eq.trans rfl q.symm) (fun t ht fe => hW t _ _ _ _ ⟨rfl, rfl, ht.trans e0⟩ fe (by decide) (by decide))
                · refine Go.of (fun _ k => XS.icmpNo X0.here hx rfl (hb hby d1_45) rfl (Jvm.Free.XT.ii_eq_f c8) k) ?_
                  show Go p e below W T0 (mkF m 48 #[.val (.int p1)] [])
                  refine Go.of (fun _ k => XS.iloadN X0.here hx rfl (hb hby d1_48) rfl k) ?_
                  show Go p e below W T0 (mkF m 49 #[.val (.int p1)] [(.int p1)])
                  refine Go.of (fun _ k => XS.bipush X0.here hx rfl (hb hby d1_49) k) ?_
                  show Go p e below W T0 (mkF m 51 #[.val (.int p1)] [(.int (56 : Int32)), (.int p1)])
                  by_cases c9 : p1 = (56 : Int32)
                  · refine Go.of (fun _ k => XS.icmpYes X0.here hx rfl (pc0 := 51) (pc' := 60) rfl (hb hby d1_51) rfl (Jvm.Free.XT.ii_eq_t c9) (by decide) (by decide) k) ?_
                    show Go p e below W T0 (mkF m 60 #[.val (.int p1)] [])
                    refine Go.of (fun _ k => XS.iconst X0.here hx rfl (hb hby d1_60) k) ?_
                    show Go p e below W T0 (mkF m 61 #[.val (.int p1)] [(.int (1 : Int32))])
                    refine Go.of (fun _ k => XS.goto X0.here hx rfl (pc0 := 61) (pc' := 65) rfl (hb hby d1_61) (by decide) (by decide) k) ?_
                    show Go p e below W T0 (mkF m 65 #[.val (.int p1)] [(.int (1 : Int32))])
                    have q : (f1 p1) = (1 : Int32) := by rw [f1, if_neg c1, if_neg c2, if_neg c3, if_neg c4, if_neg c5, if_neg c6, if_neg c7, if_neg c8, if_pos c9]
                    exact Go.retN X0 hx hret (Or.inl rfl) (hb hby d1_65) hlk (Eq.trans rfl q.symm) (fun t ht fe => hW t _ _ _ _ ⟨rfl, rfl, ht.trans e0⟩ fe (by decide) (by decide))
                  · refine Go.of (fun _ k => XS.icmpNo X0.here hx rfl (hb hby d1_51) rfl (Jvm.Free.XT.ii_eq_f c9) k) ?_
                    show Go p e below W T0 (mkF m 54 #[.val (.int p1)] [])
                    refine Go.of (fun _ k => XS.iloadN X0.here hx rfl (hb hby d1_54) rfl k) ?_
                    show Go p e below W T0 (mkF m 55 #[.val (.int p1)] [(.int p1)])
                    refine Go.of (fun _ k => XS.bipush X0.here hx rfl (hb hby d1_55) k) ?_
                    show Go p e below W T0 (mkF m 57 #[.val (.int p1)] [(.int (57 : Int32)), (.int p1)])
                    by_cases c10 : p1 = (57 : Int32)
                    · refine Go.of (fun _ k => XS.icmpNo X0.here hx rfl (hb hby d1_57) rfl (Jvm.Free.XT.ii_ne_f c10) k) ?_
                      show Go p e below W T0 (mkF m 60 #[.val (.int p1)] [])
                      refine Go.of (fun _ k => XS.iconst X0.here hx rfl (hb hby d1_60) k) ?_
                      show Go p e below W T0 (mkF m 61 #[.val (.int p1)] [(.int (1 : Int32))])
                      refine Go.of (fun _ k => XS.goto X0.here hx rfl (pc0 := 61) (pc' := 65) rfl (hb hby d1_61) (by decide) (by decide) k) ?_
                      show Go p e below W T0 (mkF m 65 #[.val (.int p1)] [(.int (1 : Int32))])
                      have q : (f1 p1) = (1 : Int32) := by rw [f1, if_neg c1, if_neg c2, if_neg c3, if_neg c4, if_neg c5, if_neg c6, if_neg c7, if_neg c8, if_neg c9, if_pos c10]
                      exact Go.retN X0 hx hret (Or.inl rfl) (hb hby d1_65) hlk (Eq.trans rfl q.symm) (fun t ht fe => hW t _ _ _ _ ⟨rfl, rfl, ht.trans e0⟩ fe (by decide) (by decide))
                    · refine Go.of (fun _ k => XS.icmpYes X0.here hx rfl (pc0 := 57) (pc' := 64) rfl (hb hby d1_57) rfl (Jvm.Free.XT.ii_ne_t c10) (by decide) (by decide) k) ?_
                      show Go p e below W T0 (mkF m 64 #[.val (.int p1)] [])
                      refine Go.of (fun _ k => XS.iconst X0.here hx rfl (hb hby d1_64) k) ?_
                      show Go p e below W T0 (mkF m 65 #[.val (.int p1)] [(.int (0 : Int32))])
                      have q : (f1 p1) = (0 : Int32) := by rw [f1, if_neg c1, if_neg c2, if_neg c3, if_neg c4, if_neg c5, if_neg c6, if_neg c7, if_neg c8, if_neg c9, if_neg c10]
                      exact Go.retN X0 hx hret (Or.inl rfl) (hb hby d1_65) hlk (Eq.trans rfl q.symm) (fun t ht fe => hW t _ _ _ _ ⟨rfl, rfl, ht.trans e0⟩ fe (by decide) (by decide))
set_option maxRecDepth 65536 in
set_option maxHeartbeats 40000000 in
theorem rm2 (l : Launch) (Z : State) (a0 : Array Value) (hw : ∀ d ∈ tables_1, d.before a0 Z = true) (ws : List Jvm.Cond) (p1 : Int32) (h0 : Heap) :
    Con l Z (⟨"com/example/classmark/classmark/check/Ascii", "isDigit", "(C)Z"⟩ : MethodName) prog_1_method_2_code 1 (some .boolean) ws ({ frames := 0, cells := 0, slots := 0, locals := 0 } : Room) #[(.int p1)] h0 (PQ (.int (f2 p1)) h0) := by
  refine own_body pn_2 (fun m => ef_2 m p1) ?_
  intro p e s m below meth c T0 W X0 hx hby hml hret hlk hown hnm hZ e0 hW
  show Go p e below W T0 (mkF m 0 #[.val (.int p1)] [])
  refine Go.of (fun _ k => XS.iloadN X0.here hx rfl (hb hby d2_0) rfl k) ?_
  show Go p e below W T0 (mkF m 1 #[.val (.int p1)] [(.int p1)])
  refine Go.of (fun _ k => XS.bipush X0.here hx rfl (hb hby d2_1) k) ?_
  show Go p e below W T0 (mkF m 3 #[.val (.int p1)] [(.int (48 : Int32)), (.int p1)])
  by_cases c1 : p1 < (48 : Int32)
  · refine Go.of (fun _ k => XS.icmpYes X0.here hx rfl (pc0 := 3) (pc' := 16) rfl (hb hby d2_3) rfl (Jvm.Free.XT.ii_lt_t c1) (by decide) (by decide) k) ?_
    show Go p e below W T0 (mkF m 16 #[.val (.int p1)] [])
    refine Go.of (fun _ k => XS.iconst X0.here hx rfl (hb hby d2_16) k) ?_
    show Go p e below W T0 (mkF m 17 #[.val (.int p1)] [(.int (0 : Int32))])
    have q : (f2 p1) = (0 : Int32) := by rw [f2, if_pos c1]
    exact Go.retN X0 hx hret (Or.inl rfl) (hb hby d2_17) hlk (Eq.trans rfl q.symm) (fun t ht fe => hW t _ _ _ _ ⟨rfl, rfl, ht.trans e0⟩ fe (by decide) (by decide))
  · refine Go.of (fun _ k => XS.icmpNo X0.here hx rfl (hb hby d2_3) rfl (Jvm.Free.XT.ii_lt_f c1) k) ?_
    show Go p e below W T0 (mkF m 6 #[.val (.int p1)] [])
    refine Go.of (fun _ k => XS.iloadN X0.here hx rfl (hb hby d2_6) rfl k) ?_
    show Go p e below W T0 (mkF m 7 #[.val (.int p1)] [(.int p1)])
    refine Go.of (fun _ k => XS.bipush X0.here hx rfl (hb hby d2_7) k) ?_
    show Go p e below W T0 (mkF m 9 #[.val (.int p1)] [(.int (57 : Int32)), (.int p1)])
    by_cases c2 : (57 : Int32) < p1
    · refine Go.of (fun _ k => XS.icmpYes X0.here hx rfl (pc0 := 9) (pc' := 16) rfl (hb hby d2_9) rfl (Jvm.Free.XT.ii_gt_t c2) (by decide) (by decide) k) ?_
      show Go p e below W T0 (mkF m 16 #[.val (.int p1)] [])
      refine Go.of (fun _ k => XS.iconst X0.here hx rfl (hb hby d2_16) k) ?_
      show Go p e below W T0 (mkF m 17 #[.val (.int p1)] [(.int (0 : Int32))])
      have q : (f2 p1) = (0 : Int32) := by rw [f2, if_neg c1, if_pos c2]
      exact Go.retN X0 hx hret (Or.inl rfl) (hb hby d2_17) hlk (Eq.trans rfl q.symm) (fun t ht fe => hW t _ _ _ _ ⟨rfl, rfl, ht.trans e0⟩ fe (by decide) (by decide))
    · refine Go.of (fun _ k => XS.icmpNo X0.here hx rfl (hb hby d2_9) rfl (Jvm.Free.XT.ii_gt_f c2) k) ?_
      show Go p e below W T0 (mkF m 12 #[.val (.int p1)] [])
      refine Go.of (fun _ k => XS.iconst X0.here hx rfl (hb hby d2_12) k) ?_
      show Go p e below W T0 (mkF m 13 #[.val (.int p1)] [(.int (1 : Int32))])
      refine Go.of (fun _ k => XS.goto X0.here hx rfl (pc0 := 13) (pc' := 17) rfl (hb hby d2_13) (by decide) (by decide) k) ?_
      show Go p e below W T0 (mkF m 17 #[.val (.int p1)] [(.int (1 : Int32))])
      have q : (f2 p1) = (1 : Int32) := by rw [f2, if_neg c1, if_neg c2]
      exact Go.retN X0 hx hret (Or.inl rfl) (hb hby d2_17) hlk (Eq.trans rfl q.symm) (fun t ht fe => hW t _ _ _ _ ⟨rfl, rfl, ht.trans e0⟩ fe (by decide) (by decide))
set_option maxRecDepth 65536 in
set_option maxHeartbeats 40000000 in
theorem rm0 (l : Launch) (Z : State) (a0 : Array Value) (hw : ∀ d ∈ tables_1, d.before a0 Z = true) (ws : List Jvm.Cond) (p1 : Int32) (h0 : Heap) :
    Con l Z x code maxLocals ret ws room_1 #[(.int p1)] h0 (PQ (.int (f0 p1)) h0) := by
  refine own_body pn_0 (fun m => ef_0 m p1) ?_
  intro p e s m below meth c T0 W X0 hx hby hml hret hlk hown hnm hZ e0 hW
  show Go p e below W T0 (mkF m 0 #[.val (.int p1), .unset, .unset] [])
  refine Go.of (fun _ k => XS.iloadN X0.here hx rfl (hb hby at_0) rfl k) ?_
  show Go p e below W T0 (mkF m 1 #[.val (.int p1), .unset, .unset] [(.int p1)])
  refine Go.of (fun _ k => XS.i2c X0.here hx rfl (hb hby at_1) rfl k) ?_
  show Go p e below W T0 (mkF m 2 #[.val (.int p1), .unset, .unset] [(.int (p1.toUInt32.toUInt16.toUInt32.toInt32))])
  refine Go.of (fun _ k => XS.istoreN X0.here hx rfl (hb hby at_2) rfl (l' := #[.val (.int p1), .val (.int (v0_1 p1)), .unset]) rfl k) ?_
  show Go p e below W T0 (mkF m 3 #[.val (.int p1), .val (.int (v0_1 p1)), .unset] [])
  refine Go.of (fun _ k => XS.iloadN X0.here hx rfl (hb hby at_3) rfl k) ?_
  show Go p e below W T0 (mkF m 4 #[.val (.int p1), .val (.int (v0_1 p1)), .unset] [(.int (v0_1 p1))])
  refine Go.callP X0 hx hZ hown (hw _ (List.mem_of_getElem? (i := 0) rfl)) (hw _ (List.mem_of_getElem? (i := 1) rfl)) (hw _ (List.mem_of_getElem? (i := 2) rfl)) (hw _ (List.mem_of_getElem? (i := 3) rfl)) (by decide) e0 (rm1 l Z a0 hw [] (v0_1 p1) h0) (V := 0) (by decide) (by decide) rfl rfl (by decide) (by decide) (by rw [hml]; rfl) (argsL := [(.int (v0_1 p1))]) (rest := []) rfl (lenOf pd__C_Z rfl) rfl (Nat.le_of_ble_eq_true rfl) (hb hby at_4) ?_
  intro T2 X2 e2
  show Go p e below W T2 (mkF m 7 #[.val (.int p1), .val (.int (v0_1 p1)), .unset] [(.int (f1 (v0_1 p1)))])
  refine Go.of (fun _ k => XS.istoreN X2.here hx rfl (hb hby at_7) rfl (l' := #[.val (.int p1), .val (.int (v0_1 p1)), .val (.int (v0_3 p1))]) rfl k) ?_
  show Go p e below W T2 (mkF m 8 #[.val (.int p1), .val (.int (v0_1 p1)), .val (.int (v0_3 p1))] [])
  refine Go.of (fun _ k => XS.iloadN X2.here hx rfl (hb hby at_8) rfl k) ?_
  show Go p e below W T2 (mkF m 9 #[.val (.int p1), .val (.int (v0_1 p1)), .val (.int (v0_3 p1))] [(.int (v0_1 p1))])
  refine Go.callP X2 hx hZ hown (hw _ (List.mem_of_getElem? (i := 4) rfl)) (hw _ (List.mem_of_getElem? (i := 5) rfl)) (hw _ (List.mem_of_getElem? (i := 6) rfl)) (hw _ (List.mem_of_getElem? (i := 7) rfl)) (by decide) e2 (rm2 l Z a0 hw [] (v0_1 p1) h0) (V := 0) (by decide) (by decide) rfl rfl (by decide) (by decide) (by rw [hml]; rfl) (argsL := [(.int (v0_1 p1))]) (rest := []) rfl (lenOf pd__C_Z rfl) rfl (Nat.le_of_ble_eq_true rfl) (hb hby at_9) ?_
  intro T4 X4 e4
  show Go p e below W T4 (mkF m 12 #[.val (.int p1), .val (.int (v0_1 p1)), .val (.int (v0_3 p1))] [(.int (f2 (v0_1 p1)))])
  refine Go.of (fun _ k => XS.iloadN X4.here hx rfl (hb hby at_12) rfl k) ?_
  show Go p e below W T4 (mkF m 13 #[.val (.int p1), .val (.int (v0_1 p1)), .val (.int (v0_3 p1))] [(.int (v0_3 p1)), (.int (f2 (v0_1 p1)))])
  by_cases c5 : (f2 (v0_1 p1)) = (v0_3 p1)
  · refine Go.of (fun _ k => XS.icmpNo X4.here hx rfl (hb hby at_13) rfl (Jvm.Free.XT.ii_ne_f c5) k) ?_
    show Go p e below W T4 (mkF m 16 #[.val (.int p1), .val (.int (v0_1 p1)), .val (.int (v0_3 p1))] [])
    refine Go.of (fun _ k => XS.iconst X4.here hx rfl (hb hby at_16) k) ?_
    show Go p e below W T4 (mkF m 17 #[.val (.int p1), .val (.int (v0_1 p1)), .val (.int (v0_3 p1))] [(.int (1 : Int32))])
    refine Go.of (fun _ k => XS.goto X4.here hx rfl (pc0 := 17) (pc' := 21) rfl (hb hby at_17) (by decide) (by decide) k) ?_
    show Go p e below W T4 (mkF m 21 #[.val (.int p1), .val (.int (v0_1 p1)), .val (.int (v0_3 p1))] [(.int (1 : Int32))])
    have q : (f0 p1) = (1 : Int32) := by rw [f0, if_pos c5]
    exact Go.retN X4 hx hret (Or.inl rfl) (hb hby at_21) hlk (Eq.trans rfl q.symm) (fun t ht fe => hW t _ _ _ _ ⟨rfl, rfl, ht.trans e4⟩ fe (by decide) (by decide))
  · refine Go.of (fun _ k => XS.icmpYes X4.here hx rfl (pc0 := 13) (pc' := 20) rfl (hb hby at_13) rfl (Jvm.Free.XT.ii_ne_t c5) (by decide) (by decide) k) ?_
    show Go p e below W T4 (mkF m 20 #[.val (.int p1), .val (.int (v0_1 p1)), .val (.int (v0_3 p1))] [])
    refine Go.of (fun _ k => XS.iconst X4.here hx rfl (hb hby at_20) k) ?_
    show Go p e below W T4 (mkF m 21 #[.val (.int p1), .val (.int (v0_1 p1)), .val (.int (v0_3 p1))] [(.int (0 : Int32))])
    have q : (f0 p1) = (0 : Int32) := by rw [f0, if_neg c5]
    exact Go.retN X4 hx hret (Or.inl rfl) (hb hby at_21) hlk (Eq.trans rfl q.symm) (fun t ht fe => hW t _ _ _ _ ⟨rfl, rfl, ht.trans e4⟩ fe (by decide) (by decide))
set_option maxRecDepth 65536 in
set_option maxHeartbeats 40000000 in
theorem comes_1 {Post : Tables → Env → Array Value → State → Outcome → State → Prop} (hpost : ∀ tb e args s v u, (limb_1_1.after args s (.returned v) u = true ∧ limb_1_2.after args s (.returned v) u = true ∧ True) → FrameEnd s (.returned v) u (Jvm.fieldLocs frame_1_writes args s ++ Jvm.arrayLocs frame_1_arrays args s ++ Jvm.staticLocs frame_1_statics s) 0 0 → Post tb e args s (.returned v) u) :
    ArmFor flags0 classFile x code maxLocals ret World_1 tables_1 room_1 Calls_1 rest_1 Pre_1 Post := by
  intro l hfl _ _ p e ha hc hk s m args below hf hA hF happ hP
  obtain ⟨hcalls, hrest, hpre⟩ := hP
  obtain ⟨-, -, -, hnamed, -, -, -, hat⟩ := (Spec.applies_iff hf).mp happ
  obtain ⟨hg, hn⟩ := and_e (Cond.before_iff.mp (show (Jvm.Cond.and given_1 narrow_1).before args s = true from hpre))
  obtain ⟨g0, y0⟩ := and_e hg
  obtain ⟨w0, rfl⟩ : ∃ w0 : Value, args = #[w0] := by
    have hs : args.size = 1 := by simpa [Cond.value, given_1] using g0
    obtain ⟨L⟩ := args
    match L, hs with
    | [w0], _ => exact ⟨w0, rfl⟩
  have hw := fun d (hd : d ∈ tables_1) => atoms_spec (ws := Jvm.Cond.code x code maxLocals ret :: tables_1) hat d (List.mem_cons_of_mem _ hd)
  obtain ⟨i0, ei0⟩ := is_v y0
  obtain rfl : w0 = (.int i0) := Option.some.inj ei0
  obtain ⟨n, o, h1, h2, h3, _, L, rfl, ⟨rfl, rfl, -⟩, hq⟩ := rm0 l s _ hw tables_1 i0 s.heap p e ha hc hk s m _ below hf ((Spec.applies_iff_loose hf).mp happ).1 ⟨rfl, State.Warmed39.refl s, rfl⟩ trivial
  rw [own_law i0] at h3 hq
  refine ⟨n, _, h1, h2, h3, hpost _ _ _ _ _ _ ⟨Cond.after_iff.mpr rfl, Cond.after_iff.mpr (eq_i res_at (Term.int_eval (1)) rfl), trivial⟩ ⟨hq.1, hq.2.1, (hq.2.2.sift fun y hy => nomatch hy).mono (by decide) (by decide)⟩⟩
theorem main_1_1 : Claimed_1_1 := comes_1 fun _ _ _ _ _ _ h hF => ⟨h.1, hF⟩
theorem main_1_2 : Claimed_1_2 := comes_1 fun _ _ _ _ _ _ h hF => ⟨h.2.1, hF⟩
end Jvm.Pilot.@@N@@
namespace Jvm.Pilot.@@N@@
open Jvm Jvm.ClassFile Sem Op Lib Jvm.Free Jvm.Stand Jvm.Pilot.@@N@@.Jvm.D
/-! MADE BY PROGRAM (witnessworld.py) out of the Statement's table words and the real class files: 9 classes; the members and pool entries that the words name. The judged class is class 1, her method 2. -/
namespace start1
open Jvm.ClassFile
def u (s : String) : CpInfo := .utf8 (stringToUtf16 s)
/-- a pool by its gaps: so many unusable entries, then the entry; so many at the end -/
def gap : Nat → List CpInfo → List CpInfo
  | 0, r => r
  | n + 1, r => .unusable :: gap n r
def poolList (es : List (Nat × CpInfo)) (last : Nat) : List CpInfo := es.foldr (fun e r => gap e.1 (e.2 :: r)) (gap last [])
def pool (es : List (Nat × CpInfo)) (last : Nat) : Array CpInfo := ⟨poolList es last⟩
def fileOf (pool : Array CpInfo) (this : Nat) (attrs : Array Attribute := #[]) (ms : Array MethodInfo := #[]) (fl : Nat := 33) (sup : Nat := 0) (ifs : Array Nat := #[]) (fds : Array FieldInfo := #[]) : ClassFile where
  minorVersion := 0
  majorVersion := 65
  constantPool := pool
  accessFlags := fl
  thisClass := this
  superClass := sup
  interfaces := ifs
  fields := fds
  methods := ms
  attributes := attrs
def plain (name : String) (sup : Option ClassId) : Class where
  name := name
  kind := .ordinary
  loader := none
  accessFlags := 33
  super := sup
  interfaces := #[]
  cf := none
  fields := #[]
  methods := #[]
  instanceTypes := #[]
  staticTypes := #[]
  resolved := #[]
  callSites := []
  init := .initialized
  statics := none
  mirror := none

def pool0 : Array CpInfo := pool [(5, u "<init>"), (0, u "()V"), (1, .class_ 10), (1, u "java/lang/Object")] 113

def k0m0 : Method := { name := "<init>", desc := "()V", sig := { parameters := [], returnType := none }, accessFlags := 1, code := none }
/-- java/lang/Object -/
def k0 : Class := { plain "java/lang/Object" none with
  accessFlags := 33
  interfaces := #[]
  cf := some (fileOf pool0 8 #[] #[{ accessFlags := 1, nameIndex := 5, descriptorIndex := 6, attributes := #[] }] 33 0 #[] #[])
  fields := #[]
  methods := #[k0m0]
  instanceTypes := #[]
  staticTypes := #[]
  resolved := Array.replicate 124 none
  statics := none }

def pool1 : Array CpInfo := pool [(2, .class_ 4), (1, u "java/lang/Object"), (0, u "<init>"), (0, u "()V"), (0, .methodref 8 9), (0, .class_ 10), (0, .nameAndType 11 12), (0, u "com/example/classmark/classmark/check/AsciiIsDigitPinLaw"), (0, u "oneOfTenDigits"), (0, u "(C)Z"), (0, .methodref 14 15), (0, .class_ 16), (0, .nameAndType 17 12), (0, u "com/example/classmark/classmark/check/Ascii"), (0, u "isDigit"), (3, u "law"), (0, u "(I)Z")] 2

def k1m0 : Method := { name := "<init>", desc := "()V", sig := { parameters := [], returnType := none }, accessFlags := 2, code := none }
def k1c1 : Code := { maxStack := 2, maxLocals := 1, code := method_2_code, exceptionTable := #[], attributes := #[] }
def k1m1 : Method := { name := "oneOfTenDigits", desc := "(C)Z", sig := { parameters := [.char], returnType := some .boolean }, accessFlags := 10, code := some k1c1 }
def k1c2 : Code := { maxStack := 2, maxLocals := 3, code := code, exceptionTable := #[], attributes := #[] }
def k1m2 : Method := { name := "law", desc := "(I)Z", sig := { parameters := [.int], returnType := some .boolean }, accessFlags := 9, code := some k1c2 }
/-- com/example/classmark/classmark/check/AsciiIsDigitPinLaw -/
def k1 : Class := { plain "com/example/classmark/classmark/check/AsciiIsDigitPinLaw" (some 0) with
  accessFlags := 49
  interfaces := #[]
  cf := some (fileOf pool1 8 #[] #[{ accessFlags := 2, nameIndex := 5, descriptorIndex := 6, attributes := #[] }, { accessFlags := 10, nameIndex := 11, descriptorIndex := 12, attributes := #[] }, { accessFlags := 9, nameIndex := 21, descriptorIndex := 22, attributes := #[] }] 49 2 #[] #[])
  fields := #[]
  methods := #[k1m0, k1m1, k1m2]
  instanceTypes := #[]
  staticTypes := #[]
  resolved := Array.replicate 25 none
  statics := none }

def pool2 : Array CpInfo := pool [(2, .class_ 4), (1, u "java/lang/Object"), (0, u "<init>"), (0, u "()V"), (11, .class_ 20), (1, u "com/example/classmark/classmark/check/Ascii"), (0, u "isDigit"), (0, u "(C)Z")] 8

def k2m0 : Method := { name := "<init>", desc := "()V", sig := { parameters := [], returnType := none }, accessFlags := 2, code := none }
def k2c1 : Code := { maxStack := 2, maxLocals := 1, code := prog_1_method_2_code, exceptionTable := #[], attributes := #[] }
def k2m1 : Method := { name := "isDigit", desc := "(C)Z", sig := { parameters := [.char], returnType := some .boolean }, accessFlags := 8, code := some k2c1 }
/-- com/example/classmark/classmark/check/Ascii -/
def k2 : Class := { plain "com/example/classmark/classmark/check/Ascii" (some 0) with
  accessFlags := 48
  interfaces := #[]
  cf := some (fileOf pool2 18 #[] #[{ accessFlags := 2, nameIndex := 5, descriptorIndex := 6, attributes := #[] }, { accessFlags := 8, nameIndex := 21, descriptorIndex := 22, attributes := #[] }] 48 2 #[] #[])
  fields := #[]
  methods := #[k2m0, k2m1]
  instanceTypes := #[]
  staticTypes := #[]
  resolved := Array.replicate 31 none
  statics := none }

def pool3 : Array CpInfo := pool [(1, u "java/lang/Cloneable"), (0, .class_ 1), (0, u "java/lang/Object"), (0, .class_ 3)] 3

/-- java/lang/Cloneable -/
def k3 : Class := { plain "java/lang/Cloneable" (some 0) with
  accessFlags := 1537
  interfaces := #[]
  cf := some (fileOf pool3 2 #[] #[] 1537 4 #[] #[])
  fields := #[]
  methods := #[]
  instanceTypes := #[]
  staticTypes := #[]
  resolved := Array.replicate 8 none
  statics := none }

def pool4 : Array CpInfo := pool [(1, u "java/io/Serializable"), (0, .class_ 1), (0, u "java/lang/Object"), (0, .class_ 3)] 3

/-- java/io/Serializable -/
def k4 : Class := { plain "java/io/Serializable" (some 0) with
  accessFlags := 1537
  interfaces := #[]
  cf := some (fileOf pool4 2 #[] #[] 1537 4 #[] #[])
  fields := #[]
  methods := #[]
  instanceTypes := #[]
  staticTypes := #[]
  resolved := Array.replicate 8 none
  statics := none }

/-- the primitive byte -/
def k5 : Class := { plain "byte" none with kind := .primitive 'B', accessFlags := 0x411 }
/-- [B -/
def k6 : Class := { plain "[B" (some 0) with kind := .array 5 .byte, interfaces := #[3, 4], accessFlags := 1041 }

/-- the primitive int -/
def k7 : Class := { plain "int" none with kind := .primitive 'I', accessFlags := 0x411 }
/-- [I -/
def k8 : Class := { plain "[I" (some 0) with kind := .array 7 .int, interfaces := #[3, 4], accessFlags := 1041 }

def heap : Heap := #[]
def classes : Array Class := #[k0, k1, k2, k3, k4, k5, k6, k7, k8]
def interned : List (Array UInt16 × Addr) := []
def slotsUsed : Nat := 0
def theMethod : MethodId := ⟨1, 2⟩
def args0 : Array Value := #[.int 5]
def aboutOver (below : List Frame) : State where
  vm := { classes := classes, interned := interned.toArray }
  heap := heap
  slotsUsed := slotsUsed
  threads := #[{ frames := .invoking theMethod args0 :: below }]
def below0 : List Frame := [.native { method := ⟨0, 0⟩, args := #[] }]
def about1 : State := aboutOver below0
def p0 : Program := .bare "" "" ""
def e0 : Env := launch0.env 0 0 0
theorem w_frames : about1.frames = Frame.invoking theMethod args0 :: below0 := rfl
set_option maxRecDepth 65536 in
theorem w_args : argsFit about1.vm theMethod args0 = true := by decide +kernel
set_option maxRecDepth 65536 in
theorem w_heap : heapFits about1 = true := by decide +kernel
set_option maxRecDepth 65536 in
theorem w_runnable : about1.curStatus? = some .runnable := by decide +kernel
set_option maxRecDepth 65536 in
theorem w_alone : about1.alone = true := by decide +kernel
set_option maxRecDepth 65536 in
theorem w_named : about1.methodNamed? x = some theMethod := by decide +kernel
set_option maxRecDepth 65536 in
theorem w_hears : about1.hears theMethod below0 = true := by decide +kernel
set_option maxRecDepth 65536 in
theorem w_ripe : about1.ripe theMethod args0 below0 = true := by decide +kernel
theorem w_running : about1.status = .running := rfl
set_option maxRecDepth 65536 in
theorem w_room : about1.hasRoom e0.platform room_1 = true :=
  launch0.hasRoom_least _ room_1 (by decide +kernel) (by decide +kernel) (by decide +kernel) (by decide +kernel) (by decide +kernel) (by decide +kernel)
theorem allAtoms_all (ts : List Jvm.Cond) (a : Array Jvm.Value) (st : Jvm.State) : (allAtoms ts).before a st = ts.all (fun c => c.before a st) := by
  induction ts with
  | nil => rfl
  | cons c t ih =>
    show (Jvm.Cond.and c (allAtoms t)).before a st = _
    rw [Jvm.Cond.before_and, ih, List.all_cons]
def words1 : List Jvm.Cond := Jvm.Cond.code x code maxLocals ret :: tables_1
/-- a 'code' word, met by the world's own term for the bytes: nothing is compared byte by byte -/
theorem code_word {y : MethodName} {bytes : ByteArray} {mx : Nat} {rt : Option FieldType} {a : Array Value} {s : State} {m : MethodId} {meth : Method} {c : Code} (h1 : s.methodNamed? y = some m) (h2 : s.vm.method? m = some meth) (h3 : meth.code = some c) (h4 : c.code = bytes)
    (h5 : (c.maxLocals == mx && c.exceptionTable.isEmpty && decide (c.maxStack ≤ mostOperands) && decide (meth.sig.returnType = rt) && !meth.locks && decide (parseMethodDescriptor y.desc = some meth.sig)) = true) : (Jvm.Cond.code y bytes mx rt).before a s = true := by
  simp only [Bool.and_eq_true, beq_iff_eq, Bool.not_eq_true', decide_eq_true_eq] at h5
  obtain ⟨⟨⟨⟨⟨g1, g2⟩, g3⟩, g4⟩, g5⟩, g6⟩ := h5
  simp [Cond.before, Cond.holds, Cond.value, h1, h2, h3, h4, g1, g2, g3, g4, g5, g6]
def isCode : Jvm.Cond → Bool
  | .code _ _ _ _ => true
  | _ => false
theorem all_split {L : List Jvm.Cond} {P : Jvm.Cond → Bool} (h1 : L.all (fun c => isCode c || P c) = true) (h2 : ∀ c ∈ L.filter isCode, P c = true) : L.all P = true := by
  refine List.all_eq_true.mpr fun c hc => ?_
  have h := List.all_eq_true.mp h1 c hc
  rcases Bool.eq_false_or_eq_true (isCode c) with hi | hi
  · exact h2 c (List.mem_filter.mpr ⟨hc, hi⟩)
  · simpa [hi] using h
set_option maxRecDepth 65536 in
theorem w_c0 : (Jvm.Cond.code x code maxLocals ret).before args0 about1 = true := code_word (m := ⟨1, 2⟩) (meth := k1m2) (c := k1c2) (by decide +kernel) rfl rfl rfl (by decide +kernel)
set_option maxRecDepth 65536 in
theorem w_c1 : (Jvm.Cond.code ({ cls := "com/example/classmark/classmark/check/AsciiIsDigitPinLaw", name := "oneOfTenDigits", desc := "(C)Z" } : Jvm.MethodName) method_2_code (1 : Nat) (Option.some Jvm.ClassFile.FieldType.boolean)).before args0 about1 = true := code_word (m := ⟨1, 1⟩) (meth := k1m1) (c := k1c1) (by decide +kernel) rfl rfl rfl (by decide +kernel)
set_option maxRecDepth 65536 in
theorem w_c2 : (Jvm.Cond.code ({ cls := "com/example/classmark/classmark/check/Ascii", name := "isDigit", desc := "(C)Z" } : Jvm.MethodName) prog_1_method_2_code (1 : Nat) (Option.some Jvm.ClassFile.FieldType.boolean)).before args0 about1 = true := code_word (m := ⟨2, 1⟩) (meth := k2m1) (c := k2c1) (by decide +kernel) rfl rfl rfl (by decide +kernel)
def codes1 : List Jvm.Cond := [Jvm.Cond.code x code maxLocals ret, Jvm.Cond.code ({ cls := "com/example/classmark/classmark/check/AsciiIsDigitPinLaw", name := "oneOfTenDigits", desc := "(C)Z" } : Jvm.MethodName) method_2_code (1 : Nat) (Option.some Jvm.ClassFile.FieldType.boolean), Jvm.Cond.code ({ cls := "com/example/classmark/classmark/check/Ascii", name := "isDigit", desc := "(C)Z" } : Jvm.MethodName) prog_1_method_2_code (1 : Nat) (Option.some Jvm.ClassFile.FieldType.boolean)]
set_option maxRecDepth 65536 in
theorem codes_eq : words1.filter isCode = codes1 := rfl
theorem w_codes : ∀ c ∈ words1.filter isCode, c.before args0 about1 = true := by
  rw [codes_eq]
  intro c hc
  simp only [codes1, List.mem_cons, List.not_mem_nil, or_false] at hc
  rcases hc with rfl | rfl | rfl
  · exact w_c0
  · exact w_c1
  · exact w_c2
set_option maxRecDepth 65536 in
theorem w_t1 : words1.all (fun c => isCode c || c.before args0 about1) = true := by decide +kernel
theorem w_tables : (allAtoms (Jvm.Cond.code x code maxLocals ret :: tables_1)).before args0 about1 = true := by
  rw [allAtoms_all]
  show words1.all (fun c => c.before args0 about1) = true
  refine all_split ?_ w_codes
  rw [w_t1]
set_option maxRecDepth 65536 in
theorem w_case : (Jvm.Cond.and given_1 narrow_1).before args0 about1 = true := by decide +kernel
theorem w_applies : (headSpec (Jvm.Cond.code x code maxLocals ret :: tables_1) room_1).applies x e0.platform about1 = true :=
  (Spec.applies_iff w_frames).mpr ⟨w_running, w_runnable, w_alone, w_named, w_hears, w_ripe, w_room, w_tables⟩
theorem atStart : AtStart classFile x code maxLocals ret World_1 tables_1 room_1 Calls_1 rest_1 Pre_1 launch0 p0 e0 about1 theMethod args0 below0 :=
  ⟨lists_1, trivial, launch0.admits_env _ _ _, launch0.least_env, fairChoices_fair.cas, fairChoices_fair.clock, w_frames, w_args, w_heap, w_applies, trivial, trivial, w_case⟩
end start1
theorem witness_1 : WitnessClaimed_1 := ⟨start1.p0, start1.e0, start1.about1, start1.theMethod, start1.args0, start1.below0, start1.atStart⟩
end Jvm.Pilot.@@N@@
