import JvmDerived
import JvmDerived.Pilot.@@N@@Statement
import JvmDerived.Pilot.@@N@@Code
set_option linter.unusedVariables false
set_option linter.unusedSimpArgs false
namespace Jvm.Pilot.@@N@@
open Jvm Jvm.ClassFile Sem Op Lib Jvm.Free Jvm.Stand Jvm.LawKit Jvm.RoadKit Bundle Jvm.Pilot.@@N@@.Jvm.D
/-! the goal of a walk, read forwards: from the state S the run comes to an end that P likes -/
def own_G (p : Program) (e : Env) (below : List Frame) (S : State) (P : State → Outcome → Prop) : Prop := ∃ s₂ o, Steps p.tables e below S s₂ ∧ s₂.status = .running ∧ Ended s₂ below o ∧ P s₂ o
theorem own_go {p : Program} {e : Env} {below : List Frame} {A B : State} {P : State → Outcome → Prop} (h : ∀ t, Steps p.tables e below A t → Steps p.tables e below B t) (g : own_G p e below A P) : own_G p e below B P := by
  obtain ⟨s₂, o, h1, h2⟩ := g
  exact ⟨s₂, o, h _ h1, h2⟩
theorem own_ret {p : Program} {l : Launch} {e : Env} {R : Room} {s : State} {m : MethodId} {args : Array Value} {below : List Frame} {meth : Method} {c : Code} {T : State} {locs : List Loc} {cells slots : Nat} (X : Stand p l e R s m args below meth c T locs cells slots) (hlocks : meth.locks = false) {v : Option Value} (hv : meth.sig.returnType = none → v = none) {g : JFrame} (Q : Option Value → Heap → List Loc → Prop) {C S : Nat}
    (st : ∀ fs : List Frame, (∀ (f : JFrame) (acts : List Action), f.method = m → f.locked = none → f.entered = [] → (doReturn e (T.setTop f) acts v).1 = T.setFrames fs) → Steps p.tables e below (T.setTop g) (T.setFrames fs))
    (hc : cells ≤ C) (hs : slots ≤ S) (hQ : Q v T.heap locs) : own_G p e below (T.setTop g) (fun s₂ o => ∃ v L, o = .returned v ∧ Q v s₂.heap L ∧ FrameEnd s o s₂ L C S) := by
  obtain ⟨fs, hr, hrun, hended, hW, hsame⟩ := X.leave (v := v) hv hlocks
  exact ⟨_, _, st fs hr, hrun, hended, _, _, rfl, hQ, ⟨_, rfl⟩, hW, hsame.mono hc hs⟩
theorem own_retI {p : Program} {l : Launch} {e : Env} {R : Room} {s : State} {m : MethodId} {args : Array Value} {below : List Frame} {meth : Method} {c : Code} {T : State} {locs : List Loc} {cells slots : Nat} (X : Stand p l e R s m args below meth c T locs cells slots) (hx : p.tables.exec = Jvm.exec) {pc : Nat} {Ls : Array Slot} {w : Value} {t : FieldType} {i : Instr} {rest : List Value} (hret : meth.sig.returnType = some t) (hn : narrow t w = w)
    (hi : (i = .ireturn ∧ (t = .int ∨ t = .boolean ∨ t = .byte ∨ t = .char ∨ t = .short) ∧ ∃ z, w = .int z) ∨ (i = .lreturn ∧ t = .long ∧ ∃ z, w = .long z) ∨ (i = .dreturn ∧ t = .double ∧ ∃ z, w = .double z) ∨ (i = .freturn ∧ t = .float ∧ ∃ z, w = .float z) ∨ (i = .areturn ∧ t.isReference = true ∧ w.isRef = true))
    (hd : decode c.code pc = .ok (i, 1)) (fs : List Frame) (hl : ∀ (f : JFrame) (acts : List Action), f.method = m → f.locked = none → f.entered = [] → (doReturn e (T.setTop f) acts (some w)).1 = T.setFrames fs) :
    Steps p.tables e below (T.setTop (mkF m pc Ls (w :: rest))) (T.setFrames fs) := retOut X hx hret hn hi hd hl
theorem own_retV {p : Program} {l : Launch} {e : Env} {R : Room} {s : State} {m : MethodId} {args : Array Value} {below : List Frame} {meth : Method} {c : Code} {T : State} {locs : List Loc} {cells slots : Nat} (X : Stand p l e R s m args below meth c T locs cells slots) (hx : p.tables.exec = Jvm.exec) {pc : Nat} {Ls : Array Slot} (hret : meth.sig.returnType = none)
    (hd : decode c.code pc = .ok (.return_, 1)) (fs : List Frame) (hl : ∀ (f : JFrame) (acts : List Action), f.method = m → f.locked = none → f.entered = [] → (doReturn e (T.setTop f) acts none).1 = T.setFrames fs) :
    Steps p.tables e below (T.setTop (mkF m pc Ls [])) (T.setFrames fs) := X.returnOut hx hret hd hl
theorem own_char (x : Int32) : x.toUInt32.toUInt16.toUInt32.toInt32.toInt = ((x.toBitVec.toNat % 65536 : Nat) : Int) := by
  have h : x.toUInt32.toUInt16.toUInt32.toInt32.toBitVec.toNat = x.toBitVec.toNat % 65536 := by
    show (x.toUInt32.toUInt16.toUInt32).toNat = _
    simp
    rfl
  rw [← Int32.toInt_toBitVec, BitVec.toInt_eq_toNat_of_lt (by rw [h]; omega), h]
theorem own_char_nn (x : Int32) : ¬ x.toUInt32.toUInt16.toUInt32.toInt32 < 0 := by
  rw [Int32.lt_iff_toInt_lt, show (0 : Int32).toInt = 0 from rfl, own_char]
  omega
def own_ns (c : Int32) : Int32 := if (¬ c < 97 ∧ ¬ 122 < c) ∨ (¬ c < 65 ∧ ¬ 90 < c) ∨ c = 95 ∨ 127 < c then 1 else 0
def own_ex (c : Int32) : Int32 := if (¬ (c ||| 32) < 97 ∧ ¬ 122 < (c ||| 32)) ∨ c = 95 then 1 else 0
theorem own_tab : ∀ k : Fin 128, own_ns (Int32.ofNat k.val) = own_ex (Int32.ofNat k.val) := by decide +kernel
theorem own_small (c : Int32) (h0 : ¬ c < 0) (h1 : ¬ 127 < c) : own_ns c = own_ex c := by
  rw [Int32.lt_iff_toInt_lt] at h0 h1
  have e0 : (0 : Int32).toInt = 0 := rfl
  have e1 : (127 : Int32).toInt = 127 := rfl
  have hk : c.toInt.toNat < 128 := by omega
  have e : c = Int32.ofNat c.toInt.toNat := by
    apply Int32.toInt_inj.mp
    rw [Int32.toInt_ofNat_of_lt (by omega)]
    omega
  have := own_tab ⟨c.toInt.toNat, hk⟩
  rw [← e] at this
  exact this
theorem d1_0 : decode prog_150_method_26_code 0 = .ok (.iload_n 0, 1) := by decide +kernel
theorem d1_1 : decode prog_150_method_26_code 1 = .ok (.bipush 97, 2) := by decide +kernel
theorem d1_3 : decode prog_150_method_26_code 3 = .ok (.if_icmp .lt 9, 3) := by decide +kernel
theorem d1_6 : decode prog_150_method_26_code 6 = .ok (.iload_n 0, 1) := by decide +kernel
theorem d1_7 : decode prog_150_method_26_code 7 = .ok (.bipush 122, 2) := by decide +kernel
theorem d1_9 : decode prog_150_method_26_code 9 = .ok (.if_icmp .le 27, 3) := by decide +kernel
theorem d1_12 : decode prog_150_method_26_code 12 = .ok (.iload_n 0, 1) := by decide +kernel
theorem d1_13 : decode prog_150_method_26_code 13 = .ok (.bipush 65, 2) := by decide +kernel
theorem d1_15 : decode prog_150_method_26_code 15 = .ok (.if_icmp .lt 9, 3) := by decide +kernel
theorem d1_18 : decode prog_150_method_26_code 18 = .ok (.iload_n 0, 1) := by decide +kernel
theorem d1_19 : decode prog_150_method_26_code 19 = .ok (.bipush 90, 2) := by decide +kernel
theorem d1_21 : decode prog_150_method_26_code 21 = .ok (.if_icmp .le 15, 3) := by decide +kernel
theorem d1_24 : decode prog_150_method_26_code 24 = .ok (.iload_n 0, 1) := by decide +kernel
theorem d1_25 : decode prog_150_method_26_code 25 = .ok (.bipush 95, 2) := by decide +kernel
theorem d1_27 : decode prog_150_method_26_code 27 = .ok (.if_icmp .eq 9, 3) := by decide +kernel
theorem d1_30 : decode prog_150_method_26_code 30 = .ok (.iload_n 0, 1) := by decide +kernel
theorem d1_31 : decode prog_150_method_26_code 31 = .ok (.bipush 127, 2) := by decide +kernel
theorem d1_33 : decode prog_150_method_26_code 33 = .ok (.if_icmp .le 7, 3) := by decide +kernel
theorem d1_36 : decode prog_150_method_26_code 36 = .ok (.iconst 1, 1) := by decide +kernel
theorem d1_37 : decode prog_150_method_26_code 37 = .ok (.goto 4, 3) := by decide +kernel
theorem d1_40 : decode prog_150_method_26_code 40 = .ok (.iconst 0, 1) := by decide +kernel
theorem d1_41 : decode prog_150_method_26_code 41 = .ok (.ireturn, 1) := by decide +kernel
theorem pn_0 : plainName "com/example/resolvent/resolvent/SqlLexerIsNameStartPinLaw" = true := by first | (simp [plainName, overriddenIn]; done) | decide +kernel
theorem pn_1 : plainName "com/example/resolvent/resolvent/SqlLexer" = true := by first | (simp [plainName, overriddenIn]; done) | decide +kernel
theorem pd_0 : parseMethodDescriptor "(C)Z" = some ⟨[.char], some .boolean⟩ := by decide +kernel
theorem ef_1 (m : MethodId) (p1 : Int32) : entryFrame m #[(.int p1)] 1 = mkF m 0 #[.val (.int p1)] [] := by first | (simp [entryFrame, mkF, argsToLocals, Value.category]; done) | rfl
def Q1 (Z : State) (p1 : Int32) (h0 : Heap) (n0 : Nat) (v : Option Value) (h : Heap) (L : List Loc) : Prop := v = some (.int (own_ns p1)) ∧ Fr n0 L ∧ h = h0
set_option maxRecDepth 65536 in
set_option maxHeartbeats 40000000 in
theorem rm1 (l : Launch) (Z : State) (a0 : Array Value) (hw : ∀ d ∈ tables_1, d.before a0 Z = true) (ws : List Jvm.Cond) (p1 : Int32) (h0 : Heap) (n0 : Nat) (Z0 : n0 ≤ h0.size)  :
    MetFree l (⟨"com/example/resolvent/resolvent/SqlLexer", "isNameStart", "(C)Z"⟩ : MethodName) (head1 (Jvm.Cond.code (⟨"com/example/resolvent/resolvent/SqlLexer", "isNameStart", "(C)Z"⟩ : MethodName) prog_150_method_26_code 1 (some .boolean) :: ws) ({ frames := 0, cells := 0, slots := 0, locals := 0 } : Room)) (fun a U => a = #[(.int p1)] ∧ Z.Warmed39 U.vm ∧ U.heap = h0) (fun _ _ _ _ _ => True) (fun _ U o U' => ∃ v L, o = .returned v ∧ Q1 Z p1 h0 n0 v U'.heap L ∧ FrameEnd U o U' L ({ frames := 0, cells := 0, slots := 0, locals := 0 } : Room).cells ({ frames := 0, cells := 0, slots := 0, locals := 0 } : Room).slots) := by
  refine MetFree.of_bodySF (plainFor_of_name pn_1) hisR ?_
  intro p e s m args below meth c s₁ Bd hml0 hP hK
  obtain ⟨rfl, hZ, hh⟩ := hP
  have hx := Bd.exec
  have hby := Bd.bytes
  have hml : c.maxLocals = 1 := hml0
  have hown : s.vm.findClass "com/example/resolvent/resolvent/SqlLexer" = some m.cls := findClass_of_methodNamed Bd.named
  have hnm := (name_of_methodNamed Bd.named Bd.method).1
  have hlk := Bd.notSynchronized
  have hret := Bd.returns
  have X0 : Stand p l e ({ frames := 0, cells := 0, slots := 0, locals := 0 } : Room) s m #[(.int p1)] below meth c s₁ [] 0 0 := Stand.of_body Bd
  have e0 : s₁.heap = h0 := by rw [← hh, Bd.state]; rfl
  have N0 := Fr.nil n0
  show own_G p e below (s₁.setTop (entryFrame m #[(.int p1)] 1)) (fun s₂ o => ∃ v L, o = .returned v ∧ Q1 Z p1 h0 n0 v s₂.heap L ∧ FrameEnd s o s₂ L ({ frames := 0, cells := 0, slots := 0, locals := 0 } : Room).cells ({ frames := 0, cells := 0, slots := 0, locals := 0 } : Room).slots)
  refine own_go (fun t k => castTop (ef_1 m p1) k) ?_
  show own_G p e below (s₁.setTop (mkF m 0 #[.val (.int p1)] [])) _
  refine own_go (fun _ k => XS.iloadN X0.here hx rfl (hb hby d1_0) rfl k) ?_
  show own_G p e below (s₁.setTop (mkF m 1 #[.val (.int p1)] [(.int p1)])) _
  refine own_go (fun _ k => XS.bipush X0.here hx rfl (hb hby d1_1) k) ?_
  show own_G p e below (s₁.setTop (mkF m 3 #[.val (.int p1)] [(.int (97 : Int32)), (.int p1)])) _
  by_cases hc3_1 : p1 < (97 : Int32)
  · refine own_go (fun _ k => XS.icmpYes X0.here hx rfl (pc0 := 3) (pc' := 12) rfl (hb hby d1_3) rfl (tlt hc3_1).1 (by decide) (by decide) k) ?_
    show own_G p e below (s₁.setTop (mkF m 12 #[.val (.int p1)] [])) _
    refine own_go (fun _ k => XS.iloadN X0.here hx rfl (hb hby d1_12) rfl k) ?_
    show own_G p e below (s₁.setTop (mkF m 13 #[.val (.int p1)] [(.int p1)])) _
    refine own_go (fun _ k => XS.bipush X0.here hx rfl (hb hby d1_13) k) ?_
    show own_G p e below (s₁.setTop (mkF m 15 #[.val (.int p1)] [(.int (65 : Int32)), (.int p1)])) _
    by_cases hc15_2 : p1 < (65 : Int32)
    · refine own_go (fun _ k => XS.icmpYes X0.here hx rfl (pc0 := 15) (pc' := 24) rfl (hb hby d1_15) rfl (tlt hc15_2).1 (by decide) (by decide) k) ?_
      show own_G p e below (s₁.setTop (mkF m 24 #[.val (.int p1)] [])) _
      refine own_go (fun _ k => XS.iloadN X0.here hx rfl (hb hby d1_24) rfl k) ?_
      show own_G p e below (s₁.setTop (mkF m 25 #[.val (.int p1)] [(.int p1)])) _
      refine own_go (fun _ k => XS.bipush X0.here hx rfl (hb hby d1_25) k) ?_
      show own_G p e below (s₁.setTop (mkF m 27 #[.val (.int p1)] [(.int (95 : Int32)), (.int p1)])) _
      by_cases hc27_3 : p1 = (95 : Int32)
      · refine own_go (fun _ k => XS.icmpYes X0.here hx rfl (pc0 := 27) (pc' := 36) rfl (hb hby d1_27) rfl (teq hc27_3).1 (by decide) (by decide) k) ?_
        show own_G p e below (s₁.setTop (mkF m 36 #[.val (.int p1)] [])) _
        refine own_go (fun _ k => XS.iconst X0.here hx rfl (hb hby d1_36) k) ?_
        show own_G p e below (s₁.setTop (mkF m 37 #[.val (.int p1)] [(.int (1 : Int32))])) _
        refine own_go (fun _ k => XS.goto X0.here hx rfl (pc0 := 37) (pc' := 41) rfl (hb hby d1_37) (by decide) (by decide) k) ?_
        show own_G p e below (s₁.setTop (mkF m 41 #[.val (.int p1)] [(.int (1 : Int32))])) _
        refine own_ret X0 hlk (v := some (.int (1 : Int32))) (fun h => by rw [hret] at h; cases h) (Q1 Z p1 h0 n0) (own_retI X0 hx (t := .boolean) hret rfl (Or.inl ⟨rfl, by simp, _, rfl⟩) (hb hby d1_41)) (by decide) (by decide) ?_
        show Q1 Z p1 h0 n0 _ s₁.heap _
        rw [e0]
        exact ⟨by simp [own_ns, hc3_1, hc15_2, hc27_3], N0, rfl⟩
      · refine own_go (fun _ k => XS.icmpNo X0.here hx rfl (hb hby d1_27) rfl (feq hc27_3).1 k) ?_
        show own_G p e below (s₁.setTop (mkF m 30 #[.val (.int p1)] [])) _
        refine own_go (fun _ k => XS.iloadN X0.here hx rfl (hb hby d1_30) rfl k) ?_
        show own_G p e below (s₁.setTop (mkF m 31 #[.val (.int p1)] [(.int p1)])) _
        refine own_go (fun _ k => XS.bipush X0.here hx rfl (hb hby d1_31) k) ?_
        show own_G p e below (s₁.setTop (mkF m 33 #[.val (.int p1)] [(.int (127 : Int32)), (.int p1)])) _
        by_cases hc33_4 : (127 : Int32) < p1
        · refine own_go (fun _ k => XS.icmpNo X0.here hx rfl (hb hby d1_33) rfl (tlt hc33_4).2.2.2 k) ?_
          show own_G p e below (s₁.setTop (mkF m 36 #[.val (.int p1)] [])) _
          refine own_go (fun _ k => XS.iconst X0.here hx rfl (hb hby d1_36) k) ?_
          show own_G p e below (s₁.setTop (mkF m 37 #[.val (.int p1)] [(.int (1 : Int32))])) _
          refine own_go (fun _ k => XS.goto X0.here hx rfl (pc0 := 37) (pc' := 41) rfl (hb hby d1_37) (by decide) (by decide) k) ?_
          show own_G p e below (s₁.setTop (mkF m 41 #[.val (.int p1)] [(.int (1 : Int32))])) _
          refine own_ret X0 hlk (v := some (.int (1 : Int32))) (fun h => by rw [hret] at h; cases h) (Q1 Z p1 h0 n0) (own_retI X0 hx (t := .boolean) hret rfl (Or.inl ⟨rfl, by simp, _, rfl⟩) (hb hby d1_41)) (by decide) (by decide) ?_
          show Q1 Z p1 h0 n0 _ s₁.heap _
          rw [e0]
          exact ⟨by simp [own_ns, hc3_1, hc15_2, hc27_3, hc33_4], N0, rfl⟩
        · refine own_go (fun _ k => XS.icmpYes X0.here hx rfl (pc0 := 33) (pc' := 40) rfl (hb hby d1_33) rfl (flt hc33_4).2.2.2 (by decide) (by decide) k) ?_
          show own_G p e below (s₁.setTop (mkF m 40 #[.val (.int p1)] [])) _
          refine own_go (fun _ k => XS.iconst X0.here hx rfl (hb hby d1_40) k) ?_
          show own_G p e below (s₁.setTop (mkF m 41 #[.val (.int p1)] [(.int (0 : Int32))])) _
          refine own_ret X0 hlk (v := some (.int (0 : Int32))) (fun h => by rw [hret] at h; cases h) (Q1 Z p1 h0 n0) (own_retI X0 hx (t := .boolean) hret rfl (Or.inl ⟨rfl, by simp, _, rfl⟩) (hb hby d1_41)) (by decide) (by decide) ?_
          show Q1 Z p1 h0 n0 _ s₁.heap _
          rw [e0]
          exact ⟨by simp [own_ns, hc3_1, hc15_2, hc27_3, hc33_4], N0, rfl⟩
    · refine own_go (fun _ k => XS.icmpNo X0.here hx rfl (hb hby d1_15) rfl (flt hc15_2).1 k) ?_
      show own_G p e below (s₁.setTop (mkF m 18 #[.val (.int p1)] [])) _
      refine own_go (fun _ k => XS.iloadN X0.here hx rfl (hb hby d1_18) rfl k) ?_
      show own_G p e below (s₁.setTop (mkF m 19 #[.val (.int p1)] [(.int p1)])) _
      refine own_go (fun _ k => XS.bipush X0.here hx rfl (hb hby d1_19) k) ?_
      show own_G p e below (s₁.setTop (mkF m 21 #[.val (.int p1)] [(.int (90 : Int32)), (.int p1)])) _
      by_cases hc21_5 : (90 : Int32) < p1
      · refine own_go (fun _ k => XS.icmpNo X0.here hx rfl (hb hby d1_21) rfl (tlt hc21_5).2.2.2 k) ?_
        show own_G p e below (s₁.setTop (mkF m 24 #[.val (.int p1)] [])) _
        refine own_go (fun _ k => XS.iloadN X0.here hx rfl (hb hby d1_24) rfl k) ?_
        show own_G p e below (s₁.setTop (mkF m 25 #[.val (.int p1)] [(.int p1)])) _
        refine own_go (fun _ k => XS.bipush X0.here hx rfl (hb hby d1_25) k) ?_
        show own_G p e below (s₁.setTop (mkF m 27 #[.val (.int p1)] [(.int (95 : Int32)), (.int p1)])) _
        by_cases hc27_6 : p1 = (95 : Int32)
        · refine own_go (fun _ k => XS.icmpYes X0.here hx rfl (pc0 := 27) (pc' := 36) rfl (hb hby d1_27) rfl (teq hc27_6).1 (by decide) (by decide) k) ?_
          show own_G p e below (s₁.setTop (mkF m 36 #[.val (.int p1)] [])) _
          refine own_go (fun _ k => XS.iconst X0.here hx rfl (hb hby d1_36) k) ?_
          show own_G p e below (s₁.setTop (mkF m 37 #[.val (.int p1)] [(.int (1 : Int32))])) _
          refine own_go (fun _ k => XS.goto X0.here hx rfl (pc0 := 37) (pc' := 41) rfl (hb hby d1_37) (by decide) (by decide) k) ?_
          show own_G p e below (s₁.setTop (mkF m 41 #[.val (.int p1)] [(.int (1 : Int32))])) _
          refine own_ret X0 hlk (v := some (.int (1 : Int32))) (fun h => by rw [hret] at h; cases h) (Q1 Z p1 h0 n0) (own_retI X0 hx (t := .boolean) hret rfl (Or.inl ⟨rfl, by simp, _, rfl⟩) (hb hby d1_41)) (by decide) (by decide) ?_
          show Q1 Z p1 h0 n0 _ s₁.heap _
          rw [e0]
          exact ⟨by simp [own_ns, hc3_1, hc15_2, hc21_5, hc27_6], N0, rfl⟩
        · refine own_go (fun _ k => XS.icmpNo X0.here hx rfl (hb hby d1_27) rfl (feq hc27_6).1 k) ?_
          show own_G p e below (s₁.setTop (mkF m 30 #[.val (.int p1)] [])) _
          refine own_go (fun _ k => XS.iloadN X0.here hx rfl (hb hby d1_30) rfl k) ?_
          show own_G p e below (s₁.setTop (mkF m 31 #[.val (.int p1)] [(.int p1)])) _
          refine own_go (fun _ k => XS.bipush X0.here hx rfl (hb hby d1_31) k) ?_
          show own_G p e below (s₁.setTop (mkF m 33 #[.val (.int p1)] [(.int (127 : Int32)), (.int p1)])) _
          by_cases hc33_7 : (127 : Int32) < p1
          · refine own_go (fun _ k => XS.icmpNo X0.here hx rfl (hb hby d1_33) rfl (tlt hc33_7).2.2.2 k) ?_
            show own_G p e below (s₁.setTop (mkF m 36 #[.val (.int p1)] [])) _
            refine own_go (fun _ k => XS.iconst X0.here hx rfl (hb hby d1_36) k) ?_
            show own_G p e below (s₁.setTop (mkF m 37 #[.val (.int p1)] [(.int (1 : Int32))])) _
            refine own_go (fun _ k => XS.goto X0.here hx rfl (pc0 := 37) (pc' := 41) rfl (hb hby d1_37) (by decide) (by decide) k) ?_
            show own_G p e below (s₁.setTop (mkF m 41 #[.val (.int p1)] [(.int (1 : Int32))])) _
            refine own_ret X0 hlk (v := some (.int (1 : Int32))) (fun h => by rw [hret] at h; cases h) (Q1 Z p1 h0 n0) (own_retI X0 hx (t := .boolean) hret rfl (Or.inl ⟨rfl, by simp, _, rfl⟩) (hb hby d1_41)) (by decide) (by decide) ?_
            show Q1 Z p1 h0 n0 _ s₁.heap _
            rw [e0]
            exact ⟨by simp [own_ns, hc3_1, hc15_2, hc21_5, hc27_6, hc33_7], N0, rfl⟩
          · refine own_go (fun _ k => XS.icmpYes X0.here hx rfl (pc0 := 33) (pc' := 40) rfl (hb hby d1_33) rfl (flt hc33_7).2.2.2 (by decide) (by decide) k) ?_
            show own_G p e below (s₁.setTop (mkF m 40 #[.val (.int p1)] [])) _
            refine own_go (fun _ k => XS.iconst X0.here hx rfl (hb hby d1_40) k) ?_
            show own_G p e below (s₁.setTop (mkF m 41 #[.val (.int p1)] [(.int (0 : Int32))])) _
            refine own_ret X0 hlk (v := some (.int (0 : Int32))) (fun h => by rw [hret] at h; cases h) (Q1 Z p1 h0 n0) (own_retI X0 hx (t := .boolean) hret rfl (Or.inl ⟨rfl, by simp, _, rfl⟩) (hb hby d1_41)) (by decide) (by decide) ?_
            show Q1 Z p1 h0 n0 _ s₁.heap _
            rw [e0]
            exact ⟨by simp [own_ns, hc3_1, hc15_2, hc21_5, hc27_6, hc33_7], N0, rfl⟩
      · refine own_go (fun _ k => XS.icmpYes X0.here hx rfl (pc0 := 21) (pc' := 36) rfl (hb hby d1_21) rfl (flt hc21_5).2.2.2 (by decide) (by decide) k) ?_
        show own_G p e below (s₁.setTop (mkF m 36 #[.val (.int p1)] [])) _
        refine own_go (fun _ k => XS.iconst X0.here hx rfl (hb hby d1_36) k) ?_
        show own_G p e below (s₁.setTop (mkF m 37 #[.val (.int p1)] [(.int (1 : Int32))])) _
        refine own_go (fun _ k => XS.goto X0.here hx rfl (pc0 := 37) (pc' := 41) rfl (hb hby d1_37) (by decide) (by decide) k) ?_
        show own_G p e below (s₁.setTop (mkF m 41 #[.val (.int p1)] [(.int (1 : Int32))])) _
        refine own_ret X0 hlk (v := some (.int (1 : Int32))) (fun h => by rw [hret] at h; cases h) (Q1 Z p1 h0 n0) (own_retI X0 hx (t := .boolean) hret rfl (Or.inl ⟨rfl, by simp, _, rfl⟩) (hb hby d1_41)) (by decide) (by decide) ?_
        show Q1 Z p1 h0 n0 _ s₁.heap _
        rw [e0]
        exact ⟨by simp [own_ns, hc3_1, hc15_2, hc21_5], N0, rfl⟩
  · refine own_go (fun _ k => XS.icmpNo X0.here hx rfl (hb hby d1_3) rfl (flt hc3_1).1 k) ?_
    show own_G p e below (s₁.setTop (mkF m 6 #[.val (.int p1)] [])) _
    refine own_go (fun _ k => XS.iloadN X0.here hx rfl (hb hby d1_6) rfl k) ?_
    show own_G p e below (s₁.setTop (mkF m 7 #[.val (.int p1)] [(.int p1)])) _
    refine own_go (fun _ k => XS.bipush X0.here hx rfl (hb hby d1_7) k) ?_
    show own_G p e below (s₁.setTop (mkF m 9 #[.val (.int p1)] [(.int (122 : Int32)), (.int p1)])) _
    by_cases hc9_8 : (122 : Int32) < p1
    · refine own_go (fun _ k => XS.icmpNo X0.here hx rfl (hb hby d1_9) rfl (tlt hc9_8).2.2.2 k) ?_
      show own_G p e below (s₁.setTop (mkF m 12 #[.val (.int p1)] [])) _
      refine own_go (fun _ k => XS.iloadN X0.here hx rfl (hb hby d1_12) rfl k) ?_
      show own_G p e below (s₁.setTop (mkF m 13 #[.val (.int p1)] [(.int p1)])) _
      refine own_go (fun _ k => XS.bipush X0.here hx rfl (hb hby d1_13) k) ?_
      show own_G p e below (s₁.setTop (mkF m 15 #[.val (.int p1)] [(.int (65 : Int32)), (.int p1)])) _
      by_cases hc15_9 : p1 < (65 : Int32)
      · refine own_go (fun _ k => XS.icmpYes X0.here hx rfl (pc0 := 15) (pc' := 24) rfl (hb hby d1_15) rfl (tlt hc15_9).1 (by decide) (by decide) k) ?_
        show own_G p e below (s₁.setTop (mkF m 24 #[.val (.int p1)] [])) _
        refine own_go (fun _ k => XS.iloadN X0.here hx rfl (hb hby d1_24) rfl k) ?_
        show own_G p e below (s₁.setTop (mkF m 25 #[.val (.int p1)] [(.int p1)])) _
        refine own_go (fun _ k => XS.bipush X0.here hx rfl (hb hby d1_25) k) ?_
        show own_G p e below (s₁.setTop (mkF m 27 #[.val (.int p1)] [(.int (95 : Int32)), (.int p1)])) _
        by_cases hc27_10 : p1 = (95 : Int32)
        · refine own_go (fun _ k => XS.icmpYes X0.here hx rfl (pc0 := 27) (pc' := 36) rfl (hb hby d1_27) rfl (teq hc27_10).1 (by decide) (by decide) k) ?_
          show own_G p e below (s₁.setTop (mkF m 36 #[.val (.int p1)] [])) _
          refine own_go (fun _ k => XS.iconst X0.here hx rfl (hb hby d1_36) k) ?_
          show own_G p e below (s₁.setTop (mkF m 37 #[.val (.int p1)] [(.int (1 : Int32))])) _
          refine own_go (fun _ k => XS.goto X0.here hx rfl (pc0 := 37) (pc' := 41) rfl (hb hby d1_37) (by decide) (by decide) k) ?_
          show own_G p e below (s₁.setTop (mkF m 41 #[.val (.int p1)] [(.int (1 : Int32))])) _
          refine own_ret X0 hlk (v := some (.int (1 : Int32))) (fun h => by rw [hret] at h; cases h) (Q1 Z p1 h0 n0) (own_retI X0 hx (t := .boolean) hret rfl (Or.inl ⟨rfl, by simp, _, rfl⟩) (hb hby d1_41)) (by decide) (by decide) ?_
          show Q1 Z p1 h0 n0 _ s₁.heap _
          rw [e0]
          exact ⟨by simp [own_ns, hc3_1, hc9_8, hc15_9, hc27_10], N0, rfl⟩
        · refine own_go (fun _ k => XS.icmpNo X0.here hx rfl (hb hby d1_27) rfl (feq hc27_10).1 k) ?_
          show own_G p e below (s₁.setTop (mkF m 30 #[.val (.int p1)] [])) _
          refine own_go (fun _ k => XS.iloadN X0.here hx rfl (hb hby d1_30) rfl k) ?_
          show own_G p e below (s₁.setTop (mkF m 31 #[.val (.int p1)] [(.int p1)])) _
          refine own_go (fun _ k => XS.bipush X0.here hx rfl (hb hby d1_31) k) ?_
          show own_G p e below (s₁.setTop (mkF m 33 #[.val (.int p1)] [(.int (127 : Int32)), (.int p1)])) _
          by_cases hc33_11 : (127 : Int32) < p1
          · refine own_go (fun _ k => XS.icmpNo X0.here hx rfl (hb hby d1_33) rfl (tlt hc33_11).2.2.2 k) ?_
            show own_G p e below (s₁.setTop (mkF m 36 #[.val (.int p1)] [])) _
            refine own_go (fun _ k => XS.iconst X0.here hx rfl (hb hby d1_36) k) ?_
            show own_G p e below (s₁.setTop (mkF m 37 #[.val (.int p1)] [(.int (1 : Int32))])) _
            refine own_go (fun _ k => XS.goto X0.here hx rfl (pc0 := 37) (pc' := 41) rfl (hb hby d1_37) (by decide) (by decide) k) ?_
            show own_G p e below (s₁.setTop (mkF m 41 #[.val (.int p1)] [(.int (1 : Int32))])) _
            refine own_ret X0 hlk (v := some (.int (1 : Int32))) (fun h => by rw [hret] at h; cases h) (Q1 Z p1 h0 n0) (own_retI X0 hx (t := .boolean) hret rfl (Or.inl ⟨rfl, by simp, _, rfl⟩) (hb hby d1_41)) (by decide) (by decide) ?_
            show Q1 Z p1 h0 n0 _ s₁.heap _
            rw [e0]
            exact ⟨by simp [own_ns, hc3_1, hc9_8, hc15_9, hc27_10, hc33_11], N0, rfl⟩
          · refine own_go (fun _ k => XS.icmpYes X0.here hx rfl (pc0 := 33) (pc' := 40) rfl (hb hby d1_33) rfl (flt hc33_11).2.2.2 (by decide) (by decide) k) ?_
            show own_G p e below (s₁.setTop (mkF m 40 #[.val (.int p1)] [])) _
            refine own_go (fun _ k => XS.iconst X0.here hx rfl (hb hby d1_40) k) ?_
            show own_G p e below (s₁.setTop (mkF m 41 #[.val (.int p1)] [(.int (0 : Int32))])) _
            refine own_ret X0 hlk (v := some (.int (0 : Int32))) (fun h => by rw [hret] at h; cases h) (Q1 Z p1 h0 n0) (own_retI X0 hx (t := .boolean) hret rfl (Or.inl ⟨rfl, by simp, _, rfl⟩) (hb hby d1_41)) (by decide) (by decide) ?_
            show Q1 Z p1 h0 n0 _ s₁.heap _
            rw [e0]
            exact ⟨by simp [own_ns, hc3_1, hc9_8, hc15_9, hc27_10, hc33_11], N0, rfl⟩
      · refine own_go (fun _ k => XS.icmpNo X0.here hx rfl (hb hby d1_15) rfl (flt hc15_9).1 k) ?_
        show own_G p e below (s₁.setTop (mkF m 18 #[.val (.int p1)] [])) _
        refine own_go (fun _ k => XS.iloadN X0.here hx rfl (hb hby d1_18) rfl k) ?_
        show own_G p e below (s₁.setTop (mkF m 19 #[.val (.int p1)] [(.int p1)])) _
        refine own_go (fun _ k => XS.bipush X0.here hx rfl (hb hby d1_19) k) ?_
        show own_G p e below (s₁.setTop (mkF m 21 #[.val (.int p1)] [(.int (90 : Int32)), (.int p1)])) _
        by_cases hc21_12 : (90 : Int32) < p1
        · refine own_go (fun _ k => XS.icmpNo X0.here hx rfl (hb hby d1_21) rfl (tlt hc21_12).2.2.2 k) ?_
          show own_G p e below (s₁.setTop (mkF m 24 #[.val (.int p1)] [])) _
          refine own_go (fun _ k => XS.iloadN X0.here hx rfl (hb hby d1_24) rfl k) ?_
          show own_G p e below (s₁.setTop (mkF m 25 #[.val (.int p1)] [(.int p1)])) _
          refine own_go (fun _ k => XS.bipush X0.here hx rfl (hb hby d1_25) k) ?_
          show own_G p e below (s₁.setTop (mkF m 27 #[.val (.int p1)] [(.int (95 : Int32)), (.int p1)])) _
          by_cases hc27_13 : p1 = (95 : Int32)
          · refine own_go (fun _ k => XS.icmpYes X0.here hx rfl (pc0 := 27) (pc' := 36) rfl (hb hby d1_27) rfl (teq hc27_13).1 (by decide) (by decide) k) ?_
            show own_G p e below (s₁.setTop (mkF m 36 #[.val (.int p1)] [])) _
            refine own_go (fun _ k => XS.iconst X0.here hx rfl (hb hby d1_36) k) ?_
            show own_G p e below (s₁.setTop (mkF m 37 #[.val (.int p1)] [(.int (1 : Int32))])) _
            refine own_go (fun _ k => XS.goto X0.here hx rfl (pc0 := 37) (pc' := 41) rfl (hb hby d1_37) (by decide) (by decide) k) ?_
            show own_G p e below (s₁.setTop (mkF m 41 #[.val (.int p1)] [(.int (1 : Int32))])) _
            refine own_ret X0 hlk (v := some (.int (1 : Int32))) (fun h => by rw [hret] at h; cases h) (Q1 Z p1 h0 n0) (own_retI X0 hx (t := .boolean) hret rfl (Or.inl ⟨rfl, by simp, _, rfl⟩) (hb hby d1_41)) (by decide) (by decide) ?_
            show Q1 Z p1 h0 n0 _ s₁.heap _
            rw [e0]
            exact ⟨by simp [own_ns, hc3_1, hc9_8, hc15_9, hc21_12, hc27_13], N0, rfl⟩
          · refine own_go (fun _ k => XS.icmpNo X0.here hx rfl (hb hby d1_27) rfl (feq hc27_13).1 k) ?_
            show own_G p e below (s₁.setTop (mkF m 30 #[.val (.int p1)] [])) _
            refine own_go (fun _ k => XS.iloadN X0.here hx rfl (hb hby d1_30) rfl k) ?_
            show own_G p e below (s₁.setTop (mkF m 31 #[.val (.int p1)] [(.int p1)])) _
            refine own_go (fun _ k => XS.bipush X0.here hx rfl (hb hby d1_31) k) ?_
            show own_G p e below (s₁.setTop (mkF m 33 #[.val (.int p1)] [(.int (127 : Int32)), (.int p1)])) _
            by_cases hc33_14 : (127 : Int32) < p1
            · refine own_go (fun _ k => XS.icmpNo X0.here hx rfl (hb hby d1_33) rfl (tlt hc33_14).2.2.2 k) ?_
              show own_G p e below (s₁.setTop (mkF m 36 #[.val (.int p1)] [])) _
              refine own_go (fun _ k => XS.iconst X0.here hx rfl (hb hby d1_36) k) ?_
              show own_G p e below (s₁.setTop (mkF m 37 #[.val (.int p1)] [(.int (1 : Int32))])) _
              refine own_go (fun _ k => XS.goto X0.here hx rfl (pc0 := 37) (pc' := 41) rfl (hb hby d1_37) (by decide) (by decide) k) ?_
              show own_G p e below (s₁.setTop (mkF m 41 #[.val (.int p1)] [(.int (1 : Int32))])) _
              refine own_ret X0 hlk (v := some (.int (1 : Int32))) (fun h => by rw [hret] at h; cases h) (Q1 Z p1 h0 n0) (own_retI X0 hx (t := .boolean) hret rfl (Or.inl ⟨rfl, by simp, _, rfl⟩) (hb hby d1_41)) (by decide) (by decide) ?_
              show Q1 Z p1 h0 n0 _ s₁.heap _
              rw [e0]
              exact ⟨by simp [own_ns, hc3_1, hc9_8, hc15_9, hc21_12, hc27_13, hc33_14], N0, rfl⟩
            · refine own_go (fun _ k => XS.icmpYes X0.here hx rfl (pc0 := 33) (pc' := 40) rfl (hb hby d1_33) rfl (flt hc33_14).2.2.2 (by decide) (by decide) k) ?_
              show own_G p e below (s₁.setTop (mkF m 40 #[.val (.int p1)] [])) _
              refine own_go (fun _ k => XS.iconst X0.here hx rfl (hb hby d1_40) k) ?_
              show own_G p e below (s₁.setTop (mkF m 41 #[.val (.int p1)] [(.int (0 : Int32))])) _
              refine own_ret X0 hlk (v := some (.int (0 : Int32))) (fun h => by rw [hret] at h; cases h) (Q1 Z p1 h0 n0) (own_retI X0 hx (t := .boolean) hret rfl (Or.inl ⟨rfl, by simp, _, rfl⟩) (hb hby d1_41)) (by decide) (by decide) ?_
              show Q1 Z p1 h0 n0 _ s₁.heap _
              rw [e0]
              exact ⟨by simp [own_ns, hc3_1, hc9_8, hc15_9, hc21_12, hc27_13, hc33_14], N0, rfl⟩
        · refine own_go (fun _ k => XS.icmpYes X0.here hx rfl (pc0 := 21) (pc' := 36) rfl (hb hby d1_21) rfl (flt hc21_12).2.2.2 (by decide) (by decide) k) ?_
          show own_G p e below (s₁.setTop (mkF m 36 #[.val (.int p1)] [])) _
          refine own_go (fun _ k => XS.iconst X0.here hx rfl (hb hby d1_36) k) ?_
          show own_G p e below (s₁.setTop (mkF m 37 #[.val (.int p1)] [(.int (1 : Int32))])) _
          refine own_go (fun _ k => XS.goto X0.here hx rfl (pc0 := 37) (pc' := 41) rfl (hb hby d1_37) (by decide) (by decide) k) ?_
          show own_G p e below (s₁.setTop (mkF m 41 #[.val (.int p1)] [(.int (1 : Int32))])) _
          refine own_ret X0 hlk (v := some (.int (1 : Int32))) (fun h => by rw [hret] at h; cases h) (Q1 Z p1 h0 n0) (own_retI X0 hx (t := .boolean) hret rfl (Or.inl ⟨rfl, by simp, _, rfl⟩) (hb hby d1_41)) (by decide) (by decide) ?_
          show Q1 Z p1 h0 n0 _ s₁.heap _
          rw [e0]
          exact ⟨by simp [own_ns, hc3_1, hc9_8, hc15_9, hc21_12], N0, rfl⟩
    · refine own_go (fun _ k => XS.icmpYes X0.here hx rfl (pc0 := 9) (pc' := 36) rfl (hb hby d1_9) rfl (flt hc9_8).2.2.2 (by decide) (by decide) k) ?_
      show own_G p e below (s₁.setTop (mkF m 36 #[.val (.int p1)] [])) _
      refine own_go (fun _ k => XS.iconst X0.here hx rfl (hb hby d1_36) k) ?_
      show own_G p e below (s₁.setTop (mkF m 37 #[.val (.int p1)] [(.int (1 : Int32))])) _
      refine own_go (fun _ k => XS.goto X0.here hx rfl (pc0 := 37) (pc' := 41) rfl (hb hby d1_37) (by decide) (by decide) k) ?_
      show own_G p e below (s₁.setTop (mkF m 41 #[.val (.int p1)] [(.int (1 : Int32))])) _
      refine own_ret X0 hlk (v := some (.int (1 : Int32))) (fun h => by rw [hret] at h; cases h) (Q1 Z p1 h0 n0) (own_retI X0 hx (t := .boolean) hret rfl (Or.inl ⟨rfl, by simp, _, rfl⟩) (hb hby d1_41)) (by decide) (by decide) ?_
      show Q1 Z p1 h0 n0 _ s₁.heap _
      rw [e0]
      exact ⟨by simp [own_ns, hc3_1, hc9_8], N0, rfl⟩
theorem ef_0 (m : MethodId) (p1 : Int32) : entryFrame m #[(.int p1)] maxLocals = mkF m 0 #[.val (.int p1), .unset, .unset, .unset] [] := by first | (simp [entryFrame, mkF, argsToLocals, Value.category, maxLocals]; done) | rfl
def Q0 (Z : State) (p1 : Int32) (h0 : Heap) (n0 : Nat) (v : Option Value) (h : Heap) (L : List Loc) : Prop := v = some (.int (1 : Int32)) ∧ Fr n0 L
set_option maxRecDepth 65536 in
set_option maxHeartbeats 40000000 in
theorem rm0 (l : Launch) (Z : State) (a0 : Array Value) (hw : ∀ d ∈ tables_1, d.before a0 Z = true) (ws : List Jvm.Cond) (p1 : Int32) (h0 : Heap) (n0 : Nat) (Z0 : n0 ≤ h0.size)  :
    MetFree l x (head1 (Jvm.Cond.code x code maxLocals ret :: ws) room_1) (fun a U => a = #[(.int p1)] ∧ Z.Warmed39 U.vm ∧ U.heap = h0) (fun _ _ _ _ _ => True) (fun _ U o U' => ∃ v L, o = .returned v ∧ Q0 Z p1 h0 n0 v U'.heap L ∧ FrameEnd U o U' L room_1.cells room_1.slots) := by
  refine MetFree.of_bodySF (plainFor_of_name pn_0) hisR ?_
  intro p e s m args below meth c s₁ Bd hml0 hP hK
  obtain ⟨rfl, hZ, hh⟩ := hP
  have hx := Bd.exec
  have hby := Bd.bytes
  have hml : c.maxLocals = 4 := hml0
  have hown : s.vm.findClass "com/example/resolvent/resolvent/SqlLexerIsNameStartPinLaw" = some m.cls := findClass_of_methodNamed Bd.named
  have hnm := (name_of_methodNamed Bd.named Bd.method).1
  have hlk := Bd.notSynchronized
  have hret := Bd.returns
  have X0 : Stand p l e room_1 s m #[(.int p1)] below meth c s₁ [] 0 0 := Stand.of_body Bd
  have e0 : s₁.heap = h0 := by rw [← hh, Bd.state]; rfl
  have N0 := Fr.nil n0
  show own_G p e below (s₁.setTop (entryFrame m #[(.int p1)] maxLocals)) (fun s₂ o => ∃ v L, o = .returned v ∧ Q0 Z p1 h0 n0 v s₂.heap L ∧ FrameEnd s o s₂ L room_1.cells room_1.slots)
  refine own_go (fun t k => castTop (ef_0 m p1) k) ?_
  show own_G p e below (s₁.setTop (mkF m 0 #[.val (.int p1), .unset, .unset, .unset] [])) _
  refine own_go (fun _ k => XS.iloadN X0.here hx rfl (hb hby at_0) rfl k) ?_
  show own_G p e below (s₁.setTop (mkF m 1 #[.val (.int p1), .unset, .unset, .unset] [(.int p1)])) _
  refine own_go (X0.ldcInt hx hown (mvT hZ (hw _ (List.mem_of_getElem? (i := 0) rfl))) (g := (mkF m 1 #[.val (.int p1), .unset, .unset, .unset] [(.int p1)])) rfl (hb hby at_1)) ?_
  show own_G p e below (s₁.setTop (mkF m 3 #[.val (.int p1), .unset, .unset, .unset] [(.int (65535 : Int32)), (.int p1)])) _
  refine own_go (fun _ k => XS.iand X0.here hx rfl (hb hby at_3) rfl k) ?_
  show own_G p e below (s₁.setTop (mkF m 4 #[.val (.int p1), .unset, .unset, .unset] [(.int (p1 &&& (65535 : Int32)))])) _
  refine own_go (fun _ k => XS.i2c X0.here hx rfl (hb hby at_4) rfl k) ?_
  show own_G p e below (s₁.setTop (mkF m 5 #[.val (.int p1), .unset, .unset, .unset] [(.int ((p1 &&& (65535 : Int32)).toUInt32.toUInt16.toUInt32.toInt32))])) _
  generalize hcc : ((p1 &&& (65535 : Int32)).toUInt32.toUInt16.toUInt32.toInt32) = ch
  have hnn : ¬ ch < 0 := hcc ▸ own_char_nn _
  show own_G p e below (s₁.setTop (mkF m 5 #[.val (.int p1), .unset, .unset, .unset] [(.int ch)])) _
  refine own_go (fun _ k => XS.istoreN X0.here hx rfl (hb hby at_5) rfl (l' := #[.val (.int p1), .val (.int ch), .unset, .unset]) rfl k) ?_
  show own_G p e below (s₁.setTop (mkF m 6 #[.val (.int p1), .val (.int ch), .unset, .unset] [])) _
  refine own_go (fun _ k => XS.iloadN X0.here hx rfl (hb hby at_6) rfl k) ?_
  show own_G p e below (s₁.setTop (mkF m 7 #[.val (.int p1), .val (.int ch), .unset, .unset] [(.int ch)])) _
  refine own_go (fun _ k => XS.bipush X0.here hx rfl (hb hby at_7) k) ?_
  show own_G p e below (s₁.setTop (mkF m 9 #[.val (.int p1), .val (.int ch), .unset, .unset] [(.int (127 : Int32)), (.int ch)])) _
  by_cases hc9_15 : (127 : Int32) < ch
  · refine own_go (fun _ k => XS.icmpNo X0.here hx rfl (hb hby at_9) rfl (tlt hc9_15).2.2.2 k) ?_
    show own_G p e below (s₁.setTop (mkF m 12 #[.val (.int p1), .val (.int ch), .unset, .unset] [])) _
    refine own_go (fun _ k => XS.iconst X0.here hx rfl (hb hby at_12) k) ?_
    show own_G p e below (s₁.setTop (mkF m 13 #[.val (.int p1), .val (.int ch), .unset, .unset] [(.int (1 : Int32))])) _
    refine own_go (fun _ k => XS.istoreN X0.here hx rfl (hb hby at_13) rfl (l' := #[.val (.int p1), .val (.int ch), .val (.int (1 : Int32)), .unset]) rfl k) ?_
    show own_G p e below (s₁.setTop (mkF m 14 #[.val (.int p1), .val (.int ch), .val (.int (1 : Int32)), .unset] [])) _
    refine own_go (fun _ k => XS.goto X0.here hx rfl (pc0 := 14) (pc' := 46) rfl (hb hby at_14) (by decide) (by decide) k) ?_
    show own_G p e below (s₁.setTop (mkF m 46 #[.val (.int p1), .val (.int ch), .val (.int (1 : Int32)), .unset] [])) _
    refine own_go (fun _ k => XS.iloadN X0.here hx rfl (hb hby at_46) rfl k) ?_
    show own_G p e below (s₁.setTop (mkF m 47 #[.val (.int p1), .val (.int ch), .val (.int (1 : Int32)), .unset] [(.int ch)])) _
    obtain ⟨_, _, ⟨T16, L16, k16, n16⟩, -, X16, ⟨Lc16, hQ16, l16, y16, z16⟩, st16⟩ := Jvm.LawKit.callS X0 hx (y := (⟨"com/example/resolvent/resolvent/SqlLexer", "isNameStart", "(C)Z"⟩ : MethodName)) hown (mvT hZ (hw _ (List.mem_of_getElem? (i := 1) rfl))) (mvT hZ (hw _ (List.mem_of_getElem? (i := 2) rfl))) (mvT hZ (hw _ (List.mem_of_getElem? (i := 3) rfl))) (mvT hZ (hw _ (List.mem_of_getElem? (i := 4) rfl))) (by decide) (backOf (W := 0) (rm1 l Z a0 hw [] ch h0 n0 Z0 ) hZ (hw _ (List.mem_of_getElem? (i := 4) rfl)) (hw _ (List.mem_of_getElem? (i := 3) rfl)) (by decide) (by decide)) (g := (mkF m 47 #[.val (.int p1), .val (.int ch), .val (.int (1 : Int32)), .unset] [(.int ch)])) rfl (by rw [hml]; rfl) (argsL := [(.int ch)]) (rest := []) (lenOf pd_0 rfl) rfl (by show 2 * 0 + _ ≤ _; exact Nat.le_of_eq rfl) (hb hby at_47) (fun _ _ => ⟨rfl, e0, (by decide : 0 + 0 ≤ _), (by decide : 0 + 0 ≤ _)⟩)
    dsimp only [Pt.U, Pt.locs, Pt.cells, Pt.slots] at X16 l16 y16 z16 st16 hQ16
    subst l16 y16 z16
    obtain ⟨rfl, Nq16, hh16⟩ := hQ16
    have N16 := Fr.app N0 Nq16
    refine own_go st16 ?_
    have e16 : T16.heap = h0 := hh16
    show own_G p e below (T16.setTop (mkF m 50 #[.val (.int p1), .val (.int ch), .val (.int (1 : Int32)), .unset] [(.int (own_ns ch))])) _
    refine own_go (fun _ k => XS.iloadN X16.here hx rfl (hb hby at_50) rfl k) ?_
    show own_G p e below (T16.setTop (mkF m 51 #[.val (.int p1), .val (.int ch), .val (.int (1 : Int32)), .unset] [(.int (1 : Int32)), (.int (own_ns ch))])) _
    refine own_go (fun _ k => XS.icmpNo X16.here hx rfl (hb hby at_51) rfl (teq (by simp [own_ns, hc9_15] : (own_ns ch) = (1 : Int32))).2 k) ?_
    show own_G p e below (T16.setTop (mkF m 54 #[.val (.int p1), .val (.int ch), .val (.int (1 : Int32)), .unset] [])) _
    refine own_go (fun _ k => XS.iconst X16.here hx rfl (hb hby at_54) k) ?_
    show own_G p e below (T16.setTop (mkF m 55 #[.val (.int p1), .val (.int ch), .val (.int (1 : Int32)), .unset] [(.int (1 : Int32))])) _
    refine own_go (fun _ k => XS.goto X16.here hx rfl (pc0 := 55) (pc' := 59) rfl (hb hby at_55) (by decide) (by decide) k) ?_
    show own_G p e below (T16.setTop (mkF m 59 #[.val (.int p1), .val (.int ch), .val (.int (1 : Int32)), .unset] [(.int (1 : Int32))])) _
    refine own_ret X16 hlk (v := some (.int (1 : Int32))) (fun h => by rw [hret] at h; cases h) (Q0 Z p1 h0 n0) (own_retI X16 hx (t := .boolean) hret rfl (Or.inl ⟨rfl, by simp, _, rfl⟩) (hb hby at_59)) (by decide) (by decide) ?_
    show Q0 Z p1 h0 n0 _ T16.heap _
    rw [e16]
    exact ⟨rfl, N16⟩
  · refine own_go (fun _ k => XS.icmpYes X0.here hx rfl (pc0 := 9) (pc' := 17) rfl (hb hby at_9) rfl (flt hc9_15).2.2.2 (by decide) (by decide) k) ?_
    show own_G p e below (s₁.setTop (mkF m 17 #[.val (.int p1), .val (.int ch), .unset, .unset] [])) _
    refine own_go (fun _ k => XS.iloadN X0.here hx rfl (hb hby at_17) rfl k) ?_
    show own_G p e below (s₁.setTop (mkF m 18 #[.val (.int p1), .val (.int ch), .unset, .unset] [(.int ch)])) _
    refine own_go (fun _ k => XS.bipush X0.here hx rfl (hb hby at_18) k) ?_
    show own_G p e below (s₁.setTop (mkF m 20 #[.val (.int p1), .val (.int ch), .unset, .unset] [(.int (32 : Int32)), (.int ch)])) _
    refine own_go (fun _ k => XS.ior X0.here hx rfl (hb hby at_20) rfl k) ?_
    show own_G p e below (s₁.setTop (mkF m 21 #[.val (.int p1), .val (.int ch), .unset, .unset] [(.int (ch ||| (32 : Int32)))])) _
    refine own_go (fun _ k => XS.istoreN X0.here hx rfl (hb hby at_21) rfl (l' := #[.val (.int p1), .val (.int ch), .unset, .val (.int (ch ||| (32 : Int32)))]) rfl k) ?_
    show own_G p e below (s₁.setTop (mkF m 22 #[.val (.int p1), .val (.int ch), .unset, .val (.int (ch ||| (32 : Int32)))] [])) _
    refine own_go (fun _ k => XS.iloadN X0.here hx rfl (hb hby at_22) rfl k) ?_
    show own_G p e below (s₁.setTop (mkF m 23 #[.val (.int p1), .val (.int ch), .unset, .val (.int (ch ||| (32 : Int32)))] [(.int (ch ||| (32 : Int32)))])) _
    refine own_go (fun _ k => XS.bipush X0.here hx rfl (hb hby at_23) k) ?_
    show own_G p e below (s₁.setTop (mkF m 25 #[.val (.int p1), .val (.int ch), .unset, .val (.int (ch ||| (32 : Int32)))] [(.int (97 : Int32)), (.int (ch ||| (32 : Int32)))])) _
    by_cases hc25_17 : (ch ||| (32 : Int32)) < (97 : Int32)
    · refine own_go (fun _ k => XS.icmpYes X0.here hx rfl (pc0 := 25) (pc' := 34) rfl (hb hby at_25) rfl (tlt hc25_17).1 (by decide) (by decide) k) ?_
      show own_G p e below (s₁.setTop (mkF m 34 #[.val (.int p1), .val (.int ch), .unset, .val (.int (ch ||| (32 : Int32)))] [])) _
      refine own_go (fun _ k => XS.iloadN X0.here hx rfl (hb hby at_34) rfl k) ?_
      show own_G p e below (s₁.setTop (mkF m 35 #[.val (.int p1), .val (.int ch), .unset, .val (.int (ch ||| (32 : Int32)))] [(.int ch)])) _
      refine own_go (fun _ k => XS.bipush X0.here hx rfl (hb hby at_35) k) ?_
      show own_G p e below (s₁.setTop (mkF m 37 #[.val (.int p1), .val (.int ch), .unset, .val (.int (ch ||| (32 : Int32)))] [(.int (95 : Int32)), (.int ch)])) _
      by_cases hc37_18 : ch = (95 : Int32)
      · refine own_go (fun _ k => XS.icmpNo X0.here hx rfl (hb hby at_37) rfl (teq hc37_18).2 k) ?_
        show own_G p e below (s₁.setTop (mkF m 40 #[.val (.int p1), .val (.int ch), .unset, .val (.int (ch ||| (32 : Int32)))] [])) _
        refine own_go (fun _ k => XS.iconst X0.here hx rfl (hb hby at_40) k) ?_
        show own_G p e below (s₁.setTop (mkF m 41 #[.val (.int p1), .val (.int ch), .unset, .val (.int (ch ||| (32 : Int32)))] [(.int (1 : Int32))])) _
        refine own_go (fun _ k => XS.goto X0.here hx rfl (pc0 := 41) (pc' := 45) rfl (hb hby at_41) (by decide) (by decide) k) ?_
        show own_G p e below (s₁.setTop (mkF m 45 #[.val (.int p1), .val (.int ch), .unset, .val (.int (ch ||| (32 : Int32)))] [(.int (1 : Int32))])) _
        refine own_go (fun _ k => XS.istoreN X0.here hx rfl (hb hby at_45) rfl (l' := #[.val (.int p1), .val (.int ch), .val (.int (1 : Int32)), .val (.int (ch ||| (32 : Int32)))]) rfl k) ?_
        show own_G p e below (s₁.setTop (mkF m 46 #[.val (.int p1), .val (.int ch), .val (.int (1 : Int32)), .val (.int (ch ||| (32 : Int32)))] [])) _
        refine own_go (fun _ k => XS.iloadN X0.here hx rfl (hb hby at_46) rfl k) ?_
        show own_G p e below (s₁.setTop (mkF m 47 #[.val (.int p1), .val (.int ch), .val (.int (1 : Int32)), .val (.int (ch ||| (32 : Int32)))] [(.int ch)])) _
        obtain ⟨_, _, ⟨T19, L19, k19, n19⟩, -, X19, ⟨Lc19, hQ19, l19, y19, z19⟩, st19⟩ := Jvm.LawKit.callS X0 hx (y := (⟨"com/example/resolvent/resolvent/SqlLexer", "isNameStart", "(C)Z"⟩ : MethodName)) hown (mvT hZ (hw _ (List.mem_of_getElem? (i := 1) rfl))) (mvT hZ (hw _ (List.mem_of_getElem? (i := 2) rfl))) (mvT hZ (hw _ (List.mem_of_getElem? (i := 3) rfl))) (mvT hZ (hw _ (List.mem_of_getElem? (i := 4) rfl))) (by decide) (backOf (W := 0) (rm1 l Z a0 hw [] ch h0 n0 Z0 ) hZ (hw _ (List.mem_of_getElem? (i := 4) rfl)) (hw _ (List.mem_of_getElem? (i := 3) rfl)) (by decide) (by decide)) (g := (mkF m 47 #[.val (.int p1), .val (.int ch), .val (.int (1 : Int32)), .val (.int (ch ||| (32 : Int32)))] [(.int ch)])) rfl (by rw [hml]; rfl) (argsL := [(.int ch)]) (rest := []) (lenOf pd_0 rfl) rfl (by show 2 * 0 + _ ≤ _; exact Nat.le_of_eq rfl) (hb hby at_47) (fun _ _ => ⟨rfl, e0, (by decide : 0 + 0 ≤ _), (by decide : 0 + 0 ≤ _)⟩)
        dsimp only [Pt.U, Pt.locs, Pt.cells, Pt.slots] at X19 l19 y19 z19 st19 hQ19
        subst l19 y19 z19
        obtain ⟨rfl, Nq19, hh19⟩ := hQ19
        have N19 := Fr.app N0 Nq19
        refine own_go st19 ?_
        have e19 : T19.heap = h0 := hh19
        show own_G p e below (T19.setTop (mkF m 50 #[.val (.int p1), .val (.int ch), .val (.int (1 : Int32)), .val (.int (ch ||| (32 : Int32)))] [(.int (own_ns ch))])) _
        refine own_go (fun _ k => XS.iloadN X19.here hx rfl (hb hby at_50) rfl k) ?_
        show own_G p e below (T19.setTop (mkF m 51 #[.val (.int p1), .val (.int ch), .val (.int (1 : Int32)), .val (.int (ch ||| (32 : Int32)))] [(.int (1 : Int32)), (.int (own_ns ch))])) _
        refine own_go (fun _ k => XS.icmpNo X19.here hx rfl (hb hby at_51) rfl (teq (by rw [own_small ch hnn hc9_15]; simp [own_ex, hc9_15, hc25_17, hc37_18] : (own_ns ch) = (1 : Int32))).2 k) ?_
        show own_G p e below (T19.setTop (mkF m 54 #[.val (.int p1), .val (.int ch), .val (.int (1 : Int32)), .val (.int (ch ||| (32 : Int32)))] [])) _
        refine own_go (fun _ k => XS.iconst X19.here hx rfl (hb hby at_54) k) ?_
        show own_G p e below (T19.setTop (mkF m 55 #[.val (.int p1), .val (.int ch), .val (.int (1 : Int32)), .val (.int (ch ||| (32 : Int32)))] [(.int (1 : Int32))])) _
        refine own_go (fun _ k => XS.goto X19.here hx rfl (pc0 := 55) (pc' := 59) rfl (hb hby at_55) (by decide) (by decide) k) ?_
        show own_G p e below (T19.setTop (mkF m 59 #[.val (.int p1), .val (.int ch), .val (.int (1 : Int32)), .val (.int (ch ||| (32 : Int32)))] [(.int (1 : Int32))])) _
        refine own_ret X19 hlk (v := some (.int (1 : Int32))) (fun h => by rw [hret] at h; cases h) (Q0 Z p1 h0 n0) (own_retI X19 hx (t := .boolean) hret rfl (Or.inl ⟨rfl, by simp, _, rfl⟩) (hb hby at_59)) (by decide) (by decide) ?_
        show Q0 Z p1 h0 n0 _ T19.heap _
        rw [e19]
        exact ⟨rfl, N19⟩
      · refine own_go (fun _ k => XS.icmpYes X0.here hx rfl (pc0 := 37) (pc' := 44) rfl (hb hby at_37) rfl (feq hc37_18).2 (by decide) (by decide) k) ?_
        show own_G p e below (s₁.setTop (mkF m 44 #[.val (.int p1), .val (.int ch), .unset, .val (.int (ch ||| (32 : Int32)))] [])) _
        refine own_go (fun _ k => XS.iconst X0.here hx rfl (hb hby at_44) k) ?_
        show own_G p e below (s₁.setTop (mkF m 45 #[.val (.int p1), .val (.int ch), .unset, .val (.int (ch ||| (32 : Int32)))] [(.int (0 : Int32))])) _
        refine own_go (fun _ k => XS.istoreN X0.here hx rfl (hb hby at_45) rfl (l' := #[.val (.int p1), .val (.int ch), .val (.int (0 : Int32)), .val (.int (ch ||| (32 : Int32)))]) rfl k) ?_
        show own_G p e below (s₁.setTop (mkF m 46 #[.val (.int p1), .val (.int ch), .val (.int (0 : Int32)), .val (.int (ch ||| (32 : Int32)))] [])) _
        refine own_go (fun _ k => XS.iloadN X0.here hx rfl (hb hby at_46) rfl k) ?_
        show own_G p e below (s₁.setTop (mkF m 47 #[.val (.int p1), .val (.int ch), .val (.int (0 : Int32)), .val (.int (ch ||| (32 : Int32)))] [(.int ch)])) _
        obtain ⟨_, _, ⟨T20, L20, k20, n20⟩, -, X20, ⟨Lc20, hQ20, l20, y20, z20⟩, st20⟩ := Jvm.LawKit.callS X0 hx (y := (⟨"com/example/resolvent/resolvent/SqlLexer", "isNameStart", "(C)Z"⟩ : MethodName)) hown (mvT hZ (hw _ (List.mem_of_getElem? (i := 1) rfl))) (mvT hZ (hw _ (List.mem_of_getElem? (i := 2) rfl))) (mvT hZ (hw _ (List.mem_of_getElem? (i := 3) rfl))) (mvT hZ (hw _ (List.mem_of_getElem? (i := 4) rfl))) (by decide) (backOf (W := 0) (rm1 l Z a0 hw [] ch h0 n0 Z0 ) hZ (hw _ (List.mem_of_getElem? (i := 4) rfl)) (hw _ (List.mem_of_getElem? (i := 3) rfl)) (by decide) (by decide)) (g := (mkF m 47 #[.val (.int p1), .val (.int ch), .val (.int (0 : Int32)), .val (.int (ch ||| (32 : Int32)))] [(.int ch)])) rfl (by rw [hml]; rfl) (argsL := [(.int ch)]) (rest := []) (lenOf pd_0 rfl) rfl (by show 2 * 0 + _ ≤ _; exact Nat.le_of_eq rfl) (hb hby at_47) (fun _ _ => ⟨rfl, e0, (by decide : 0 + 0 ≤ _), (by decide : 0 + 0 ≤ _)⟩)
        dsimp only [Pt.U, Pt.locs, Pt.cells, Pt.slots] at X20 l20 y20 z20 st20 hQ20
        subst l20 y20 z20
        obtain ⟨rfl, Nq20, hh20⟩ := hQ20
        have N20 := Fr.app N0 Nq20
        refine own_go st20 ?_
        have e20 : T20.heap = h0 := hh20
        show own_G p e below (T20.setTop (mkF m 50 #[.val (.int p1), .val (.int ch), .val (.int (0 : Int32)), .val (.int (ch ||| (32 : Int32)))] [(.int (own_ns ch))])) _
        refine own_go (fun _ k => XS.iloadN X20.here hx rfl (hb hby at_50) rfl k) ?_
        show own_G p e below (T20.setTop (mkF m 51 #[.val (.int p1), .val (.int ch), .val (.int (0 : Int32)), .val (.int (ch ||| (32 : Int32)))] [(.int (0 : Int32)), (.int (own_ns ch))])) _
        refine own_go (fun _ k => XS.icmpNo X20.here hx rfl (hb hby at_51) rfl (teq (by rw [own_small ch hnn hc9_15]; simp [own_ex, hc9_15, hc25_17, hc37_18] : (own_ns ch) = (0 : Int32))).2 k) ?_
        show own_G p e below (T20.setTop (mkF m 54 #[.val (.int p1), .val (.int ch), .val (.int (0 : Int32)), .val (.int (ch ||| (32 : Int32)))] [])) _
        refine own_go (fun _ k => XS.iconst X20.here hx rfl (hb hby at_54) k) ?_
        show own_G p e below (T20.setTop (mkF m 55 #[.val (.int p1), .val (.int ch), .val (.int (0 : Int32)), .val (.int (ch ||| (32 : Int32)))] [(.int (1 : Int32))])) _
        refine own_go (fun _ k => XS.goto X20.here hx rfl (pc0 := 55) (pc' := 59) rfl (hb hby at_55) (by decide) (by decide) k) ?_
        show own_G p e below (T20.setTop (mkF m 59 #[.val (.int p1), .val (.int ch), .val (.int (0 : Int32)), .val (.int (ch ||| (32 : Int32)))] [(.int (1 : Int32))])) _
        refine own_ret X20 hlk (v := some (.int (1 : Int32))) (fun h => by rw [hret] at h; cases h) (Q0 Z p1 h0 n0) (own_retI X20 hx (t := .boolean) hret rfl (Or.inl ⟨rfl, by simp, _, rfl⟩) (hb hby at_59)) (by decide) (by decide) ?_
        show Q0 Z p1 h0 n0 _ T20.heap _
        rw [e20]
        exact ⟨rfl, N20⟩
    · refine own_go (fun _ k => XS.icmpNo X0.here hx rfl (hb hby at_25) rfl (flt hc25_17).1 k) ?_
      show own_G p e below (s₁.setTop (mkF m 28 #[.val (.int p1), .val (.int ch), .unset, .val (.int (ch ||| (32 : Int32)))] [])) _
      refine own_go (fun _ k => XS.iloadN X0.here hx rfl (hb hby at_28) rfl k) ?_
      show own_G p e below (s₁.setTop (mkF m 29 #[.val (.int p1), .val (.int ch), .unset, .val (.int (ch ||| (32 : Int32)))] [(.int (ch ||| (32 : Int32)))])) _
      refine own_go (fun _ k => XS.bipush X0.here hx rfl (hb hby at_29) k) ?_
      show own_G p e below (s₁.setTop (mkF m 31 #[.val (.int p1), .val (.int ch), .unset, .val (.int (ch ||| (32 : Int32)))] [(.int (122 : Int32)), (.int (ch ||| (32 : Int32)))])) _
      by_cases hc31_21 : (122 : Int32) < (ch ||| (32 : Int32))
      · refine own_go (fun _ k => XS.icmpNo X0.here hx rfl (hb hby at_31) rfl (tlt hc31_21).2.2.2 k) ?_
        show own_G p e below (s₁.setTop (mkF m 34 #[.val (.int p1), .val (.int ch), .unset, .val (.int (ch ||| (32 : Int32)))] [])) _
        refine own_go (fun _ k => XS.iloadN X0.here hx rfl (hb hby at_34) rfl k) ?_
        show own_G p e below (s₁.setTop (mkF m 35 #[.val (.int p1), .val (.int ch), .unset, .val (.int (ch ||| (32 : Int32)))] [(.int ch)])) _
        refine own_go (fun _ k => XS.bipush X0.here hx rfl (hb hby at_35) k) ?_
        show own_G p e below (s₁.setTop (mkF m 37 #[.val (.int p1), .val (.int ch), .unset, .val (.int (ch ||| (32 : Int32)))] [(.int (95 : Int32)), (.int ch)])) _
        by_cases hc37_22 : ch = (95 : Int32)
        · refine own_go (fun _ k => XS.icmpNo X0.here hx rfl (hb hby at_37) rfl (teq hc37_22).2 k) ?_
          show own_G p e below (s₁.setTop (mkF m 40 #[.val (.int p1), .val (.int ch), .unset, .val (.int (ch ||| (32 : Int32)))] [])) _
          refine own_go (fun _ k => XS.iconst X0.here hx rfl (hb hby at_40) k) ?_
          show own_G p e below (s₁.setTop (mkF m 41 #[.val (.int p1), .val (.int ch), .unset, .val (.int (ch ||| (32 : Int32)))] [(.int (1 : Int32))])) _
          refine own_go (fun _ k => XS.goto X0.here hx rfl (pc0 := 41) (pc' := 45) rfl (hb hby at_41) (by decide) (by decide) k) ?_
          show own_G p e below (s₁.setTop (mkF m 45 #[.val (.int p1), .val (.int ch), .unset, .val (.int (ch ||| (32 : Int32)))] [(.int (1 : Int32))])) _
          refine own_go (fun _ k => XS.istoreN X0.here hx rfl (hb hby at_45) rfl (l' := #[.val (.int p1), .val (.int ch), .val (.int (1 : Int32)), .val (.int (ch ||| (32 : Int32)))]) rfl k) ?_
          show own_G p e below (s₁.setTop (mkF m 46 #[.val (.int p1), .val (.int ch), .val (.int (1 : Int32)), .val (.int (ch ||| (32 : Int32)))] [])) _
          refine own_go (fun _ k => XS.iloadN X0.here hx rfl (hb hby at_46) rfl k) ?_
          show own_G p e below (s₁.setTop (mkF m 47 #[.val (.int p1), .val (.int ch), .val (.int (1 : Int32)), .val (.int (ch ||| (32 : Int32)))] [(.int ch)])) _
          obtain ⟨_, _, ⟨T23, L23, k23, n23⟩, -, X23, ⟨Lc23, hQ23, l23, y23, z23⟩, st23⟩ := Jvm.LawKit.callS X0 hx (y := (⟨"com/example/resolvent/resolvent/SqlLexer", "isNameStart", "(C)Z"⟩ : MethodName)) hown (mvT hZ (hw _ (List.mem_of_getElem? (i := 1) rfl))) (mvT hZ (hw _ (List.mem_of_getElem? (i := 2) rfl))) (mvT hZ (hw _ (List.mem_of_getElem? (i := 3) rfl))) (mvT hZ (hw _ (List.mem_of_getElem? (i := 4) rfl))) (by decide) (backOf (W := 0) (rm1 l Z a0 hw [] ch h0 n0 Z0 ) hZ (hw _ (List.mem_of_getElem? (i := 4) rfl)) (hw _ (List.mem_of_getElem? (i := 3) rfl)) (by decide) (by decide)) (g := (mkF m 47 #[.val (.int p1), .val (.int ch), .val (.int (1 : Int32)), .val (.int (ch ||| (32 : Int32)))] [(.int ch)])) rfl (by rw [hml]; rfl) (argsL := [(.int ch)]) (rest := []) (lenOf pd_0 rfl) rfl (by show 2 * 0 + _ ≤ _; exact Nat.le_of_eq rfl) (hb hby at_47) (fun _ _ => ⟨rfl, e0, (by decide : 0 + 0 ≤ _), (by decide : 0 + 0 ≤ _)⟩)
          dsimp only [Pt.U, Pt.locs, Pt.cells, Pt.slots] at X23 l23 y23 z23 st23 hQ23
          subst l23 y23 z23
          obtain ⟨rfl, Nq23, hh23⟩ := hQ23
          have N23 := Fr.app N0 Nq23
          refine own_go st23 ?_
          have e23 : T23.heap = h0 := hh23
          show own_G p e below (T23.setTop (mkF m 50 #[.val (.int p1), .val (.int ch), .val (.int (1 : Int32)), .val (.int (ch ||| (32 : Int32)))] [(.int (own_ns ch))])) _
          refine own_go (fun _ k => XS.iloadN X23.here hx rfl (hb hby at_50) rfl k) ?_
          show own_G p e below (T23.setTop (mkF m 51 #[.val (.int p1), .val (.int ch), .val (.int (1 : Int32)), .val (.int (ch ||| (32 : Int32)))] [(.int (1 : Int32)), (.int (own_ns ch))])) _
          refine own_go (fun _ k => XS.icmpNo X23.here hx rfl (hb hby at_51) rfl (teq (by rw [own_small ch hnn hc9_15]; simp [own_ex, hc9_15, hc25_17, hc31_21, hc37_22] : (own_ns ch) = (1 : Int32))).2 k) ?_
          show own_G p e below (T23.setTop (mkF m 54 #[.val (.int p1), .val (.int ch), .val (.int (1 : Int32)), .val (.int (ch ||| (32 : Int32)))] [])) _
          refine own_go (fun _ k => XS.iconst X23.here hx rfl (hb hby at_54) k) ?_
          show own_G p e below (T23.setTop (mkF m 55 #[.val (.int p1), .val (.int ch), .val (.int (1 : Int32)), .val (.int (ch ||| (32 : Int32)))] [(.int (1 : Int32))])) _
          refine own_go (fun _ k => XS.goto X23.here hx rfl (pc0 := 55) (pc' := 59) rfl (hb hby at_55) (by decide) (by decide) k) ?_
          show own_G p e below (T23.setTop (mkF m 59 #[.val (.int p1), .val (.int ch), .val (.int (1 : Int32)), .val (.int (ch ||| (32 : Int32)))] [(.int (1 : Int32))])) _
          refine own_ret X23 hlk (v := some (.int (1 : Int32))) (fun h => by rw [hret] at h; cases h) (Q0 Z p1 h0 n0) (own_retI X23 hx (t := .boolean) hret rfl (Or.inl ⟨rfl, by simp, _, rfl⟩) (hb hby at_59)) (by decide) (by decide) ?_
          show Q0 Z p1 h0 n0 _ T23.heap _
          rw [e23]
          exact ⟨rfl, N23⟩
        · refine own_go (fun _ k => XS.icmpYes X0.here hx rfl (pc0 := 37) (pc' := 44) rfl (hb hby at_37) rfl (feq hc37_22).2 (by decide) (by decide) k) ?_
          show own_G p e below (s₁.setTop (mkF m 44 #[.val (.int p1), .val (.int ch), .unset, .val (.int (ch ||| (32 : Int32)))] [])) _
          refine own_go (fun _ k => XS.iconst X0.here hx rfl (hb hby at_44) k) ?_
          show own_G p e below (s₁.setTop (mkF m 45 #[.val (.int p1), .val (.int ch), .unset, .val (.int (ch ||| (32 : Int32)))] [(.int (0 : Int32))])) _
          refine own_go (fun _ k => XS.istoreN X0.here hx rfl (hb hby at_45) rfl (l' := #[.val (.int p1), .val (.int ch), .val (.int (0 : Int32)), .val (.int (ch ||| (32 : Int32)))]) rfl k) ?_
          show own_G p e below (s₁.setTop (mkF m 46 #[.val (.int p1), .val (.int ch), .val (.int (0 : Int32)), .val (.int (ch ||| (32 : Int32)))] [])) _
          refine own_go (fun _ k => XS.iloadN X0.here hx rfl (hb hby at_46) rfl k) ?_
          show own_G p e below (s₁.setTop (mkF m 47 #[.val (.int p1), .val (.int ch), .val (.int (0 : Int32)), .val (.int (ch ||| (32 : Int32)))] [(.int ch)])) _
          obtain ⟨_, _, ⟨T24, L24, k24, n24⟩, -, X24, ⟨Lc24, hQ24, l24, y24, z24⟩, st24⟩ := Jvm.LawKit.callS X0 hx (y := (⟨"com/example/resolvent/resolvent/SqlLexer", "isNameStart", "(C)Z"⟩ : MethodName)) hown (mvT hZ (hw _ (List.mem_of_getElem? (i := 1) rfl))) (mvT hZ (hw _ (List.mem_of_getElem? (i := 2) rfl))) (mvT hZ (hw _ (List.mem_of_getElem? (i := 3) rfl))) (mvT hZ (hw _ (List.mem_of_getElem? (i := 4) rfl))) (by decide) (backOf (W := 0) (rm1 l Z a0 hw [] ch h0 n0 Z0 ) hZ (hw _ (List.mem_of_getElem? (i := 4) rfl)) (hw _ (List.mem_of_getElem? (i := 3) rfl)) (by decide) (by decide)) (g := (mkF m 47 #[.val (.int p1), .val (.int ch), .val (.int (0 : Int32)), .val (.int (ch ||| (32 : Int32)))] [(.int ch)])) rfl (by rw [hml]; rfl) (argsL := [(.int ch)]) (rest := []) (lenOf pd_0 rfl) rfl (by show 2 * 0 + _ ≤ _; exact Nat.le_of_eq rfl) (hb hby at_47) (fun _ _ => ⟨rfl, e0, (by decide : 0 + 0 ≤ _), (by decide : 0 + 0 ≤ _)⟩)
          dsimp only [Pt.U, Pt.locs, Pt.cells, Pt.slots] at X24 l24 y24 z24 st24 hQ24
          subst l24 y24 z24
          obtain ⟨rfl, Nq24, hh24⟩ := hQ24
          have N24 := Fr.app N0 Nq24
          refine own_go st24 ?_
          have e24 : T24.heap = h0 := hh24
          show own_G p e below (T24.setTop (mkF m 50 #[.val (.int p1), .val (.int ch), .val (.int (0 : Int32)), .val (.int (ch ||| (32 : Int32)))] [(.int (own_ns ch))])) _
          refine own_go (fun _ k => XS.iloadN X24.here hx rfl (hb hby at_50) rfl k) ?_
          show own_G p e below (T24.setTop (mkF m 51 #[.val (.int p1), .val (.int ch), .val (.int (0 : Int32)), .val (.int (ch ||| (32 : Int32)))] [(.int (0 : Int32)), (.int (own_ns ch))])) _
          refine own_go (fun _ k => XS.icmpNo X24.here hx rfl (hb hby at_51) rfl (teq (by rw [own_small ch hnn hc9_15]; simp [own_ex, hc9_15, hc25_17, hc31_21, hc37_22] : (own_ns ch) = (0 : Int32))).2 k) ?_
          show own_G p e below (T24.setTop (mkF m 54 #[.val (.int p1), .val (.int ch), .val (.int (0 : Int32)), .val (.int (ch ||| (32 : Int32)))] [])) _
          refine own_go (fun _ k => XS.iconst X24.here hx rfl (hb hby at_54) k) ?_
          show own_G p e below (T24.setTop (mkF m 55 #[.val (.int p1), .val (.int ch), .val (.int (0 : Int32)), .val (.int (ch ||| (32 : Int32)))] [(.int (1 : Int32))])) _
          refine own_go (fun _ k => XS.goto X24.here hx rfl (pc0 := 55) (pc' := 59) rfl (hb hby at_55) (by decide) (by decide) k) ?_
          show own_G p e below (T24.setTop (mkF m 59 #[.val (.int p1), .val (.int ch), .val (.int (0 : Int32)), .val (.int (ch ||| (32 : Int32)))] [(.int (1 : Int32))])) _
          refine own_ret X24 hlk (v := some (.int (1 : Int32))) (fun h => by rw [hret] at h; cases h) (Q0 Z p1 h0 n0) (own_retI X24 hx (t := .boolean) hret rfl (Or.inl ⟨rfl, by simp, _, rfl⟩) (hb hby at_59)) (by decide) (by decide) ?_
          show Q0 Z p1 h0 n0 _ T24.heap _
          rw [e24]
          exact ⟨rfl, N24⟩
      · refine own_go (fun _ k => XS.icmpYes X0.here hx rfl (pc0 := 31) (pc' := 40) rfl (hb hby at_31) rfl (flt hc31_21).2.2.2 (by decide) (by decide) k) ?_
        show own_G p e below (s₁.setTop (mkF m 40 #[.val (.int p1), .val (.int ch), .unset, .val (.int (ch ||| (32 : Int32)))] [])) _
        refine own_go (fun _ k => XS.iconst X0.here hx rfl (hb hby at_40) k) ?_
        show own_G p e below (s₁.setTop (mkF m 41 #[.val (.int p1), .val (.int ch), .unset, .val (.int (ch ||| (32 : Int32)))] [(.int (1 : Int32))])) _
        refine own_go (fun _ k => XS.goto X0.here hx rfl (pc0 := 41) (pc' := 45) rfl (hb hby at_41) (by decide) (by decide) k) ?_
        show own_G p e below (s₁.setTop (mkF m 45 #[.val (.int p1), .val (.int ch), .unset, .val (.int (ch ||| (32 : Int32)))] [(.int (1 : Int32))])) _
        refine own_go (fun _ k => XS.istoreN X0.here hx rfl (hb hby at_45) rfl (l' := #[.val (.int p1), .val (.int ch), .val (.int (1 : Int32)), .val (.int (ch ||| (32 : Int32)))]) rfl k) ?_
        show own_G p e below (s₁.setTop (mkF m 46 #[.val (.int p1), .val (.int ch), .val (.int (1 : Int32)), .val (.int (ch ||| (32 : Int32)))] [])) _
        refine own_go (fun _ k => XS.iloadN X0.here hx rfl (hb hby at_46) rfl k) ?_
        show own_G p e below (s₁.setTop (mkF m 47 #[.val (.int p1), .val (.int ch), .val (.int (1 : Int32)), .val (.int (ch ||| (32 : Int32)))] [(.int ch)])) _
        obtain ⟨_, _, ⟨T25, L25, k25, n25⟩, -, X25, ⟨Lc25, hQ25, l25, y25, z25⟩, st25⟩ := Jvm.LawKit.callS X0 hx (y := (⟨"com/example/resolvent/resolvent/SqlLexer", "isNameStart", "(C)Z"⟩ : MethodName)) hown (mvT hZ (hw _ (List.mem_of_getElem? (i := 1) rfl))) (mvT hZ (hw _ (List.mem_of_getElem? (i := 2) rfl))) (mvT hZ (hw _ (List.mem_of_getElem? (i := 3) rfl))) (mvT hZ (hw _ (List.mem_of_getElem? (i := 4) rfl))) (by decide) (backOf (W := 0) (rm1 l Z a0 hw [] ch h0 n0 Z0 ) hZ (hw _ (List.mem_of_getElem? (i := 4) rfl)) (hw _ (List.mem_of_getElem? (i := 3) rfl)) (by decide) (by decide)) (g := (mkF m 47 #[.val (.int p1), .val (.int ch), .val (.int (1 : Int32)), .val (.int (ch ||| (32 : Int32)))] [(.int ch)])) rfl (by rw [hml]; rfl) (argsL := [(.int ch)]) (rest := []) (lenOf pd_0 rfl) rfl (by show 2 * 0 + _ ≤ _; exact Nat.le_of_eq rfl) (hb hby at_47) (fun _ _ => ⟨rfl, e0, (by decide : 0 + 0 ≤ _), (by decide : 0 + 0 ≤ _)⟩)
        dsimp only [Pt.U, Pt.locs, Pt.cells, Pt.slots] at X25 l25 y25 z25 st25 hQ25
        subst l25 y25 z25
        obtain ⟨rfl, Nq25, hh25⟩ := hQ25
        have N25 := Fr.app N0 Nq25
        refine own_go st25 ?_
        have e25 : T25.heap = h0 := hh25
        show own_G p e below (T25.setTop (mkF m 50 #[.val (.int p1), .val (.int ch), .val (.int (1 : Int32)), .val (.int (ch ||| (32 : Int32)))] [(.int (own_ns ch))])) _
        refine own_go (fun _ k => XS.iloadN X25.here hx rfl (hb hby at_50) rfl k) ?_
        show own_G p e below (T25.setTop (mkF m 51 #[.val (.int p1), .val (.int ch), .val (.int (1 : Int32)), .val (.int (ch ||| (32 : Int32)))] [(.int (1 : Int32)), (.int (own_ns ch))])) _
        refine own_go (fun _ k => XS.icmpNo X25.here hx rfl (hb hby at_51) rfl (teq (by rw [own_small ch hnn hc9_15]; simp [own_ex, hc9_15, hc25_17, hc31_21] : (own_ns ch) = (1 : Int32))).2 k) ?_
        show own_G p e below (T25.setTop (mkF m 54 #[.val (.int p1), .val (.int ch), .val (.int (1 : Int32)), .val (.int (ch ||| (32 : Int32)))] [])) _
        refine own_go (fun _ k => XS.iconst X25.here hx rfl (hb hby at_54) k) ?_
        show own_G p e below (T25.setTop (mkF m 55 #[.val (.int p1), .val (.int ch), .val (.int (1 : Int32)), .val (.int (ch ||| (32 : Int32)))] [(.int (1 : Int32))])) _
        refine own_go (fun _ k => XS.goto X25.here hx rfl (pc0 := 55) (pc' := 59) rfl (hb hby at_55) (by decide) (by decide) k) ?_
        show own_G p e below (T25.setTop (mkF m 59 #[.val (.int p1), .val (.int ch), .val (.int (1 : Int32)), .val (.int (ch ||| (32 : Int32)))] [(.int (1 : Int32))])) _
        refine own_ret X25 hlk (v := some (.int (1 : Int32))) (fun h => by rw [hret] at h; cases h) (Q0 Z p1 h0 n0) (own_retI X25 hx (t := .boolean) hret rfl (Or.inl ⟨rfl, by simp, _, rfl⟩) (hb hby at_59)) (by decide) (by decide) ?_
        show Q0 Z p1 h0 n0 _ T25.heap _
        rw [e25]
        exact ⟨rfl, N25⟩
set_option maxRecDepth 65536 in
set_option maxHeartbeats 40000000 in
theorem comes_1 {Post : Tables → Env → Array Value → State → Outcome → State → Prop} (hpost : ∀ tb e args s v u, (limb_1_1.after args s (.returned v) u = true ∧ limb_1_2.after args s (.returned v) u = true ∧ True) → FrameEnd s (.returned v) u (Jvm.fieldLocs frame_1_writes args s ++ Jvm.arrayLocs frame_1_arrays args s ++ Jvm.staticLocs frame_1_statics s) 0 0 → Post tb e args s (.returned v) u) :
    ArmFor flags0 classFile x code maxLocals ret World_1 tables_1 room_1 Calls_1 rest_1 Pre_1 Post := by
  intro l hfl _ _ p e ha hc hk s m args below hf hA hF happ hP
  obtain ⟨hcalls, hrest, hpre⟩ := hP
  obtain ⟨-, -, -, hnamed, -, -, -, hat⟩ := (Spec.applies_iff hf).mp happ
  obtain ⟨hg, hn⟩ := and_e (Cond.before_iff.mp (show (Jvm.Cond.and given_1 narrow_1).before args s = true from hpre))
  obtain ⟨g1, g2⟩ := and_e hg
  obtain ⟨w0, rfl⟩ : ∃ w0 : Value, args = #[w0] := by
    have hs : args.size = 1 := by simpa [Cond.value, given_1] using g1
    obtain ⟨L⟩ := args
    match L, hs with
    | [w0], _ => exact ⟨w0, rfl⟩
  have hw := fun d (hd : d ∈ tables_1) => atoms_spec (ws := Jvm.Cond.code x code maxLocals ret :: tables_1) hat d (List.mem_cons_of_mem _ hd)
  obtain ⟨i0, ei0⟩ := is_v g2
  obtain rfl : w0 = (.int i0) := Option.some.inj ei0
  obtain ⟨n, o, h1, h2, h3, _, L, rfl, ⟨rfl, N⟩, hq⟩ := rm0 l s _ hw tables_1 i0 s.heap s.heap.size (Nat.le_refl _) p e ha hc hk s m _ below hf ((Spec.applies_iff_loose hf).mp happ).1 ⟨rfl, State.Warmed39.refl s, rfl⟩ trivial
  refine ⟨n, _, h1, h2, h3, hpost _ _ _ _ _ _ ⟨Cond.after_iff.mpr rfl, Cond.after_iff.mpr (eq_i res_at (Term.int_eval (1)) rfl), trivial⟩ ⟨hq.1, hq.2.1, (hq.2.2.sift fun y hy => Or.inr (N y hy)).mono (by decide) (by decide)⟩⟩
theorem main_1_1 : Claimed_1_1 := comes_1 fun _ _ _ _ _ _ h hF => ⟨h.1, hF⟩
theorem main_1_2 : Claimed_1_2 := comes_1 fun _ _ _ _ _ _ h hF => ⟨h.2.1, hF⟩
end Jvm.Pilot.@@N@@
namespace Jvm.Pilot.@@N@@
open Jvm Jvm.ClassFile Sem Op Lib Jvm.Free Jvm.Stand Jvm.Pilot.@@N@@.Jvm.D
/-! MADE BY PROGRAM (witnessworld.py) out of the Statement's table words and the real class files: 9 classes; the members and pool entries that the words name. The judged class is class 1, her method 1. -/
namespace start1
open Jvm.ClassFile
def u (s : String) : CpInfo := .utf8 (stringToUtf16 s)
/-- a pool by its gaps: so many unusable entries, then the entry; so many at the end -/
def gap : Nat → List CpInfo → List CpInfo
  | 0, r => r
  | n + 1, r => .unusable :: gap n r
def poolList (es : List (Nat × CpInfo)) (last : Nat) : List CpInfo := es.foldr (fun e r => gap e.1 (e.2 :: r)) (gap last [])
def pool (es : List (Nat × CpInfo)) (last : Nat) : Array CpInfo := ⟨poolList es last⟩
def fileOf (pool : Array CpInfo) (this : Nat) (attrs : Array Attribute := #[]) (ms : Array MethodInfo := #[]) (fl : Nat := 33) (sup : Nat := 0) (ifs : Array Nat := #[]) (fds : Array FieldInfo := #[]) : ClassFile where
  minorVersion := 0
  majorVersion := 65
  constantPool := pool
  accessFlags := fl
  thisClass := this
  superClass := sup
  interfaces := ifs
  fields := fds
  methods := ms
  attributes := attrs
def plain (name : String) (sup : Option ClassId) : Class where
  name := name
  kind := .ordinary
  loader := none
  accessFlags := 33
  super := sup
  interfaces := #[]
  cf := none
  fields := #[]
  methods := #[]
  instanceTypes := #[]
  staticTypes := #[]
  resolved := #[]
  callSites := []
  init := .initialized
  statics := none
  mirror := none

def pool0 : Array CpInfo := pool [(5, u "<init>"), (0, u "()V"), (1, .class_ 10), (1, u "java/lang/Object")] 113

def k0m0 : Method := { name := "<init>", desc := "()V", sig := { parameters := [], returnType := none }, accessFlags := 1, code := none }
/-- java/lang/Object -/
def k0 : Class := { plain "java/lang/Object" none with
  accessFlags := 33
  interfaces := #[]
  cf := some (fileOf pool0 8 #[] #[{ accessFlags := 1, nameIndex := 5, descriptorIndex := 6, attributes := #[] }] 33 0 #[] #[])
  fields := #[]
  methods := #[k0m0]
  instanceTypes := #[]
  staticTypes := #[]
  resolved := Array.replicate 124 none
  statics := none }

def pool1 : Array CpInfo := pool [(2, .class_ 4), (1, u "java/lang/Object"), (0, u "<init>"), (0, u "()V"), (0, .integer 65535), (0, .methodref 9 10), (0, .class_ 11), (0, .nameAndType 12 13), (0, u "com/example/resolvent/resolvent/SqlLexer"), (0, u "isNameStart"), (0, u "(C)Z"), (0, .class_ 15), (0, u "com/example/resolvent/resolvent/SqlLexerIsNameStartPinLaw"), (2, u "law"), (0, u "(I)Z")] 3

def k1m0 : Method := { name := "<init>", desc := "()V", sig := { parameters := [], returnType := none }, accessFlags := 1, code := none }
def k1c1 : Code := { maxStack := 2, maxLocals := 4, code := code, exceptionTable := #[], attributes := #[] }
def k1m1 : Method := { name := "law", desc := "(I)Z", sig := { parameters := [.int], returnType := some .boolean }, accessFlags := 9, code := some k1c1 }
/-- com/example/resolvent/resolvent/SqlLexerIsNameStartPinLaw -/
def k1 : Class := { plain "com/example/resolvent/resolvent/SqlLexerIsNameStartPinLaw" (some 0) with
  accessFlags := 49
  interfaces := #[]
  cf := some (fileOf pool1 14 #[] #[{ accessFlags := 1, nameIndex := 5, descriptorIndex := 6, attributes := #[] }, { accessFlags := 9, nameIndex := 18, descriptorIndex := 19, attributes := #[] }] 49 2 #[] #[])
  fields := #[]
  methods := #[k1m0, k1m1]
  instanceTypes := #[]
  staticTypes := #[]
  resolved := Array.replicate 23 none
  statics := none }

def pool2 : Array CpInfo := pool [(2, .class_ 4), (1, u "java/lang/Object"), (2, .class_ 8), (0, u "com/example/resolvent/resolvent/SqlLexer"), (0, .class_ 10), (0, u "com/example/resolvent/resolvent/SqlLexer$Kind"), (2, u "kinds"), (0, u "[Lcom/example/resolvent/resolvent/SqlLexer$Kind;"), (2, u "starts"), (0, u "[I"), (2, u "ends"), (2, u "text"), (0, u "Ljava/lang/String;"), (2, u "check"), (0, u "Ljava/lang/Runnable;"), (13, u "Lcom/example/resolvent/resolvent/SqlLexer$Kind;"), (17, u "previousEnd"), (0, u "I"), (2, u "previousKind"), (2, u "first"), (2, u "held"), (14, u "position"), (14, u "(C)Z"), (3, .class_ 107), (1, u "com/example/resolvent/resolvent/SqlLexer$Delimited"), (32, u "isNameStart"), (67, u "LOOKAHEAD")] 24

def k2c0 : Code := { maxStack := 2, maxLocals := 1, code := prog_150_method_26_code, exceptionTable := #[], attributes := #[] }
def k2m0 : Method := { name := "isNameStart", desc := "(C)Z", sig := { parameters := [.char], returnType := some .boolean }, accessFlags := 8, code := some k2c0 }
/-- com/example/resolvent/resolvent/SqlLexer -/
def k2 : Class := { plain "com/example/resolvent/resolvent/SqlLexer" (some 0) with
  accessFlags := 48
  interfaces := #[]
  cf := some (fileOf pool2 7 #[.nestMembers #[105, 9]] #[{ accessFlags := 8, nameIndex := 140, descriptorIndex := 101, attributes := #[] }] 48 2 #[] #[{ accessFlags := 26, nameIndex := 208, descriptorIndex := 62, attributes := #[] }, { accessFlags := 18, nameIndex := 24, descriptorIndex := 25, attributes := #[] }, { accessFlags := 18, nameIndex := 28, descriptorIndex := 29, attributes := #[] }, { accessFlags := 2, nameIndex := 86, descriptorIndex := 62, attributes := #[] }, { accessFlags := 18, nameIndex := 13, descriptorIndex := 14, attributes := #[] }, { accessFlags := 18, nameIndex := 17, descriptorIndex := 18, attributes := #[] }, { accessFlags := 18, nameIndex := 21, descriptorIndex := 18, attributes := #[] }, { accessFlags := 2, nameIndex := 68, descriptorIndex := 62, attributes := #[] }, { accessFlags := 2, nameIndex := 71, descriptorIndex := 62, attributes := #[] }, { accessFlags := 2, nameIndex := 61, descriptorIndex := 62, attributes := #[] }, { accessFlags := 2, nameIndex := 65, descriptorIndex := 43, attributes := #[] }])
  fields := #[{ name := "LOOKAHEAD", type := .int, accessFlags := 26, slot := 0, constantValue := 0 }, { name := "text", type := (.object "java/lang/String"), accessFlags := 18, slot := 0, constantValue := 0 }, { name := "check", type := (.object "java/lang/Runnable"), accessFlags := 18, slot := 1, constantValue := 0 }, { name := "position", type := .int, accessFlags := 2, slot := 2, constantValue := 0 }, { name := "kinds", type := (.array (.object "com/example/resolvent/resolvent/SqlLexer$Kind")), accessFlags := 18, slot := 3, constantValue := 0 }, { name := "starts", type := (.array .int), accessFlags := 18, slot := 4, constantValue := 0 }, { name := "ends", type := (.array .int), accessFlags := 18, slot := 5, constantValue := 0 }, { name := "first", type := .int, accessFlags := 2, slot := 6, constantValue := 0 }, { name := "held", type := .int, accessFlags := 2, slot := 7, constantValue := 0 }, { name := "previousEnd", type := .int, accessFlags := 2, slot := 8, constantValue := 0 }, { name := "previousKind", type := (.object "com/example/resolvent/resolvent/SqlLexer$Kind"), accessFlags := 2, slot := 9, constantValue := 0 }]
  methods := #[k2m0]
  instanceTypes := #[(.object "java/lang/String"), (.object "java/lang/Runnable"), .int, (.array (.object "com/example/resolvent/resolvent/SqlLexer$Kind")), (.array .int), (.array .int), .int, .int, .int, (.object "com/example/resolvent/resolvent/SqlLexer$Kind")]
  staticTypes := #[.int]
  resolved := Array.replicate 233 none
  statics := none }

def pool3 : Array CpInfo := pool [(1, u "java/lang/Cloneable"), (0, .class_ 1), (0, u "java/lang/Object"), (0, .class_ 3)] 3

/-- java/lang/Cloneable -/
def k3 : Class := { plain "java/lang/Cloneable" (some 0) with
  accessFlags := 1537
  interfaces := #[]
  cf := some (fileOf pool3 2 #[] #[] 1537 4 #[] #[])
  fields := #[]
  methods := #[]
  instanceTypes := #[]
  staticTypes := #[]
  resolved := Array.replicate 8 none
  statics := none }

def pool4 : Array CpInfo := pool [(1, u "java/io/Serializable"), (0, .class_ 1), (0, u "java/lang/Object"), (0, .class_ 3)] 3

/-- java/io/Serializable -/
def k4 : Class := { plain "java/io/Serializable" (some 0) with
  accessFlags := 1537
  interfaces := #[]
  cf := some (fileOf pool4 2 #[] #[] 1537 4 #[] #[])
  fields := #[]
  methods := #[]
  instanceTypes := #[]
  staticTypes := #[]
  resolved := Array.replicate 8 none
  statics := none }

/-- the primitive byte -/
def k5 : Class := { plain "byte" none with kind := .primitive 'B', accessFlags := 0x411 }
/-- [B -/
def k6 : Class := { plain "[B" (some 0) with kind := .array 5 .byte, interfaces := #[3, 4], accessFlags := 1041 }

/-- the primitive int -/
def k7 : Class := { plain "int" none with kind := .primitive 'I', accessFlags := 0x411 }
/-- [I -/
def k8 : Class := { plain "[I" (some 0) with kind := .array 7 .int, interfaces := #[3, 4], accessFlags := 1041 }

def heap : Heap := #[]
def classes : Array Class := #[k0, k1, k2, k3, k4, k5, k6, k7, k8]
def interned : List (Array UInt16 × Addr) := []
def slotsUsed : Nat := 0
def theMethod : MethodId := ⟨1, 1⟩
def args0 : Array Value := #[.int 5]
def aboutOver (below : List Frame) : State where
  vm := { classes := classes, interned := interned.toArray }
  heap := heap
  slotsUsed := slotsUsed
  threads := #[{ frames := .invoking theMethod args0 :: below }]
def below0 : List Frame := [.native { method := ⟨0, 0⟩, args := #[] }]
def about1 : State := aboutOver below0
def p0 : Program := .bare "" "" ""
def e0 : Env := launch0.env 0 0 0
theorem w_frames : about1.frames = Frame.invoking theMethod args0 :: below0 := rfl
set_option maxRecDepth 65536 in
theorem w_args : argsFit about1.vm theMethod args0 = true := by decide +kernel
set_option maxRecDepth 65536 in
theorem w_heap : heapFits about1 = true := by decide +kernel
set_option maxRecDepth 65536 in
theorem w_runnable : about1.curStatus? = some .runnable := by decide +kernel
set_option maxRecDepth 65536 in
theorem w_alone : about1.alone = true := by decide +kernel
set_option maxRecDepth 65536 in
theorem w_named : about1.methodNamed? x = some theMethod := by decide +kernel
set_option maxRecDepth 65536 in
theorem w_hears : about1.hears theMethod below0 = true := by decide +kernel
set_option maxRecDepth 65536 in
theorem w_ripe : about1.ripe theMethod args0 below0 = true := by decide +kernel
theorem w_running : about1.status = .running := rfl
set_option maxRecDepth 65536 in
theorem w_room : about1.hasRoom e0.platform room_1 = true :=
  launch0.hasRoom_least _ room_1 (by decide +kernel) (by decide +kernel) (by decide +kernel) (by decide +kernel) (by decide +kernel) (by decide +kernel)
theorem allAtoms_all (ts : List Jvm.Cond) (a : Array Jvm.Value) (st : Jvm.State) : (allAtoms ts).before a st = ts.all (fun c => c.before a st) := by
  induction ts with
  | nil => rfl
  | cons c t ih =>
    show (Jvm.Cond.and c (allAtoms t)).before a st = _
    rw [Jvm.Cond.before_and, ih, List.all_cons]
def words1 : List Jvm.Cond := Jvm.Cond.code x code maxLocals ret :: tables_1
/-- a 'code' word, met by the world's own term for the bytes: nothing is compared byte by byte -/
theorem code_word {y : MethodName} {bytes : ByteArray} {mx : Nat} {rt : Option FieldType} {a : Array Value} {s : State} {m : MethodId} {meth : Method} {c : Code} (h1 : s.methodNamed? y = some m) (h2 : s.vm.method? m = some meth) (h3 : meth.code = some c) (h4 : c.code = bytes)
    (h5 : (c.maxLocals == mx && c.exceptionTable.isEmpty && decide (c.maxStack ≤ mostOperands) && decide (meth.sig.returnType = rt) && !meth.locks && decide (parseMethodDescriptor y.desc = some meth.sig)) = true) : (Jvm.Cond.code y bytes mx rt).before a s = true := by
  simp only [Bool.and_eq_true, beq_iff_eq, Bool.not_eq_true', decide_eq_true_eq] at h5
  obtain ⟨⟨⟨⟨⟨g1, g2⟩, g3⟩, g4⟩, g5⟩, g6⟩ := h5
  simp [Cond.before, Cond.holds, Cond.value, h1, h2, h3, h4, g1, g2, g3, g4, g5, g6]
def isCode : Jvm.Cond → Bool
  | .code _ _ _ _ => true
  | _ => false
theorem all_split {L : List Jvm.Cond} {P : Jvm.Cond → Bool} (h1 : L.all (fun c => isCode c || P c) = true) (h2 : ∀ c ∈ L.filter isCode, P c = true) : L.all P = true := by
  refine List.all_eq_true.mpr fun c hc => ?_
  have h := List.all_eq_true.mp h1 c hc
  rcases Bool.eq_false_or_eq_true (isCode c) with hi | hi
  · exact h2 c (List.mem_filter.mpr ⟨hc, hi⟩)
  · simpa [hi] using h
set_option maxRecDepth 65536 in
theorem w_c0 : (Jvm.Cond.code x code maxLocals ret).before args0 about1 = true := code_word (m := ⟨1, 1⟩) (meth := k1m1) (c := k1c1) (by decide +kernel) rfl rfl rfl (by decide +kernel)
set_option maxRecDepth 65536 in
theorem w_c1 : (Jvm.Cond.code ({ cls := "com/example/resolvent/resolvent/SqlLexer", name := "isNameStart", desc := "(C)Z" } : Jvm.MethodName) prog_150_method_26_code (1 : Nat) (Option.some Jvm.ClassFile.FieldType.boolean)).before args0 about1 = true := code_word (m := ⟨2, 0⟩) (meth := k2m0) (c := k2c0) (by decide +kernel) rfl rfl rfl (by decide +kernel)
def codes1 : List Jvm.Cond := [Jvm.Cond.code x code maxLocals ret, Jvm.Cond.code ({ cls := "com/example/resolvent/resolvent/SqlLexer", name := "isNameStart", desc := "(C)Z" } : Jvm.MethodName) prog_150_method_26_code (1 : Nat) (Option.some Jvm.ClassFile.FieldType.boolean)]
set_option maxRecDepth 65536 in
theorem codes_eq : words1.filter isCode = codes1 := rfl
theorem w_codes : ∀ c ∈ words1.filter isCode, c.before args0 about1 = true := by
  rw [codes_eq]
  intro c hc
  simp only [codes1, List.mem_cons, List.not_mem_nil, or_false] at hc
  rcases hc with rfl | rfl
  · exact w_c0
  · exact w_c1
set_option maxRecDepth 65536 in
theorem w_t1 : words1.all (fun c => isCode c || c.before args0 about1) = true := by decide +kernel
theorem w_tables : (allAtoms (Jvm.Cond.code x code maxLocals ret :: tables_1)).before args0 about1 = true := by
  rw [allAtoms_all]
  show words1.all (fun c => c.before args0 about1) = true
  refine all_split ?_ w_codes
  rw [w_t1]
set_option maxRecDepth 65536 in
theorem w_case : (Jvm.Cond.and given_1 narrow_1).before args0 about1 = true := by decide +kernel
theorem w_applies : (headSpec (Jvm.Cond.code x code maxLocals ret :: tables_1) room_1).applies x e0.platform about1 = true :=
  (Spec.applies_iff w_frames).mpr ⟨w_running, w_runnable, w_alone, w_named, w_hears, w_ripe, w_room, w_tables⟩
theorem atStart : AtStart classFile x code maxLocals ret World_1 tables_1 room_1 Calls_1 rest_1 Pre_1 launch0 p0 e0 about1 theMethod args0 below0 :=
  ⟨lists_1, trivial, launch0.admits_env _ _ _, launch0.least_env, fairChoices_fair.cas, fairChoices_fair.clock, w_frames, w_args, w_heap, w_applies, trivial, trivial, w_case⟩
end start1
theorem witness_1 : WitnessClaimed_1 := ⟨start1.p0, start1.e0, start1.about1, start1.theMethod, start1.args0, start1.below0, start1.atStart⟩
end Jvm.Pilot.@@N@@
