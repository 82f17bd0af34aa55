import JvmDerived
import JvmDerived.Pilot.@@N@@Statement
import JvmDerived.Pilot.@@N@@Code
set_option linter.unusedVariables false
set_option linter.unusedSimpArgs false
namespace Jvm.Pilot.@@N@@
open Jvm Jvm.ClassFile Sem Op Lib Jvm.Free Jvm.Stand Jvm.LawKit Jvm.RoadKit Bundle Jvm.Pilot.@@N@@.Jvm.D
/-! the goal of a walk, read forwards: from the state S the run comes to an end that P likes -/
def own_G (p : Program) (e : Env) (below : List Frame) (S : State) (P : State → Outcome → Prop) : Prop := ∃ s₂ o, Steps p.tables e below S s₂ ∧ s₂.status = .running ∧ Ended s₂ below o ∧ P s₂ o
theorem own_go {p : Program} {e : Env} {below : List Frame} {A B : State} {P : State → Outcome → Prop} (h : ∀ t, Steps p.tables e below A t → Steps p.tables e below B t) (g : own_G p e below A P) : own_G p e below B P := by
  obtain ⟨s₂, o, h1, h2⟩ := g
  exact ⟨s₂, o, h _ h1, h2⟩
theorem own_ret {p : Program} {l : Launch} {e : Env} {R : Room} {s : State} {m : MethodId} {args : Array Value} {below : List Frame} {meth : Method} {c : Code} {T : State} {locs : List Loc} {cells slots : Nat} (X : Stand p l e R s m args below meth c T locs cells slots) (hlocks : meth.locks = false) {v : Option Value} (hv : meth.sig.returnType = none → v = none) {g : JFrame} (Q : Option Value → Heap → List Loc → Prop) {C S : Nat}
    (st : ∀ fs : List Frame, (∀ (f : JFrame) (acts : List Action), f.method = m → f.locked = none → f.entered = [] → (doReturn e (T.setTop f) acts v).1 = T.setFrames fs) → Steps p.tables e below (T.setTop g) (T.setFrames fs))
    (hc : cells ≤ C) (hs : slots ≤ S) (hQ : Q v T.heap locs) : own_G p e below (T.setTop g) (fun s₂ o => ∃ v L, o = .returned v ∧ Q v s₂.heap L ∧ FrameEnd s o s₂ L C S) := by
  obtain ⟨fs, hr, hrun, hended, hW, hsame⟩ := X.leave (v := v) hv hlocks
  exact ⟨_, _, st fs hr, hrun, hended, _, _, rfl, hQ, ⟨_, rfl⟩, hW, hsame.mono hc hs⟩
theorem own_retI {p : Program} {l : Launch} {e : Env} {R : Room} {s : State} {m : MethodId} {args : Array Value} {below : List Frame} {meth : Method} {c : Code} {T : State} {locs : List Loc} {cells slots : Nat} (X : Stand p l e R s m args below meth c T locs cells slots) (hx : p.tables.exec = Jvm.exec) {pc : Nat} {Ls : Array Slot} {w : Value} {t : FieldType} {i : Instr} {rest : List Value} (hret : meth.sig.returnType = some t) (hn : narrow t w = w)
    (hi : (i = .ireturn ∧ (t = .int ∨ t = .boolean ∨ t = .byte ∨ t = .char ∨ t = .short) ∧ ∃ z, w = .int z) ∨ (i = .lreturn ∧ t = .long ∧ ∃ z, w = .long z) ∨ (i = .dreturn ∧ t = .double ∧ ∃ z, w = .double z) ∨ (i = .freturn ∧ t = .float ∧ ∃ z, w = .float z) ∨ (i = .areturn ∧ t.isReference = true ∧ w.isRef = true))
    (hd : decode c.code pc = .ok (i, 1)) (fs : List Frame) (hl : ∀ (f : JFrame) (acts : List Action), f.method = m → f.locked = none → f.entered = [] → (doReturn e (T.setTop f) acts (some w)).1 = T.setFrames fs) :
    Steps p.tables e below (T.setTop (mkF m pc Ls (w :: rest))) (T.setFrames fs) := retOut X hx hret hn hi hd hl
theorem own_retV {p : Program} {l : Launch} {e : Env} {R : Room} {s : State} {m : MethodId} {args : Array Value} {below : List Frame} {meth : Method} {c : Code} {T : State} {locs : List Loc} {cells slots : Nat} (X : Stand p l e R s m args below meth c T locs cells slots) (hx : p.tables.exec = Jvm.exec) {pc : Nat} {Ls : Array Slot} (hret : meth.sig.returnType = none)
    (hd : decode c.code pc = .ok (.return_, 1)) (fs : List Frame) (hl : ∀ (f : JFrame) (acts : List Action), f.method = m → f.locked = none → f.entered = [] → (doReturn e (T.setTop f) acts none).1 = T.setFrames fs) :
    Steps p.tables e below (T.setTop (mkF m pc Ls [])) (T.setFrames fs) := X.returnOut hx hret hd hl
def own_sp (c : Int32) : Int32 := if c = 32 ∨ c = 9 ∨ c = 10 ∨ c = 13 ∨ c = 12 ∨ c = 11 then 1 else 0
theorem own_sp_val (c : Int32) : own_sp c = if (¬ c < 9 ∧ ¬ 13 < c) ∨ c = 32 then 1 else 0 := by
  unfold own_sp
  have h : (c = 32 ∨ c = 9 ∨ c = 10 ∨ c = 13 ∨ c = 12 ∨ c = 11) ↔ ((¬ c < 9 ∧ ¬ 13 < c) ∨ c = 32) := by
    simp only [Int32.lt_iff_toInt_lt, ← Int32.toInt_inj]
    have e1 : (32 : Int32).toInt = 32 := rfl
    have e2 : (9 : Int32).toInt = 9 := rfl
    have e3 : (10 : Int32).toInt = 10 := rfl
    have e4 : (13 : Int32).toInt = 13 := rfl
    have e5 : (12 : Int32).toInt = 12 := rfl
    have e6 : (11 : Int32).toInt = 11 := rfl
    rw [e1, e2, e3, e4, e5, e6]
    omega
  simp only [h]
theorem d1_0 : decode prog_150_method_23_code 0 = .ok (.iload_n 0, 1) := by decide +kernel
theorem d1_1 : decode prog_150_method_23_code 1 = .ok (.bipush 32, 2) := by decide +kernel
theorem d1_3 : decode prog_150_method_23_code 3 = .ok (.if_icmp .eq 33, 3) := by decide +kernel
theorem d1_6 : decode prog_150_method_23_code 6 = .ok (.iload_n 0, 1) := by decide +kernel
theorem d1_7 : decode prog_150_method_23_code 7 = .ok (.bipush 9, 2) := by decide +kernel
theorem d1_9 : decode prog_150_method_23_code 9 = .ok (.if_icmp .eq 27, 3) := by decide +kernel
theorem d1_12 : decode prog_150_method_23_code 12 = .ok (.iload_n 0, 1) := by decide +kernel
theorem d1_13 : decode prog_150_method_23_code 13 = .ok (.bipush 10, 2) := by decide +kernel
theorem d1_15 : decode prog_150_method_23_code 15 = .ok (.if_icmp .eq 21, 3) := by decide +kernel
theorem d1_18 : decode prog_150_method_23_code 18 = .ok (.iload_n 0, 1) := by decide +kernel
theorem d1_19 : decode prog_150_method_23_code 19 = .ok (.bipush 13, 2) := by decide +kernel
theorem d1_21 : decode prog_150_method_23_code 21 = .ok (.if_icmp .eq 15, 3) := by decide +kernel
theorem d1_24 : decode prog_150_method_23_code 24 = .ok (.iload_n 0, 1) := by decide +kernel
theorem d1_25 : decode prog_150_method_23_code 25 = .ok (.bipush 12, 2) := by decide +kernel
theorem d1_27 : decode prog_150_method_23_code 27 = .ok (.if_icmp .eq 9, 3) := by decide +kernel
theorem d1_30 : decode prog_150_method_23_code 30 = .ok (.iload_n 0, 1) := by decide +kernel
theorem d1_31 : decode prog_150_method_23_code 31 = .ok (.bipush 11, 2) := by decide +kernel
theorem d1_33 : decode prog_150_method_23_code 33 = .ok (.if_icmp .ne 7, 3) := by decide +kernel
theorem d1_36 : decode prog_150_method_23_code 36 = .ok (.iconst 1, 1) := by decide +kernel
theorem d1_37 : decode prog_150_method_23_code 37 = .ok (.goto 4, 3) := by decide +kernel
theorem d1_40 : decode prog_150_method_23_code 40 = .ok (.iconst 0, 1) := by decide +kernel
theorem d1_41 : decode prog_150_method_23_code 41 = .ok (.ireturn, 1) := by decide +kernel
theorem pn_0 : plainName "com/example/resolvent/resolvent/SqlLexerIsSpacePinLaw" = true := by first | (simp [plainName, overriddenIn]; done) | decide +kernel
theorem pn_1 : plainName "com/example/resolvent/resolvent/SqlLexer" = true := by first | (simp [plainName, overriddenIn]; done) | decide +kernel
theorem pd_0 : parseMethodDescriptor "(C)Z" = some ⟨[.char], some .boolean⟩ := by decide +kernel
theorem ef_1 (m : MethodId) (p1 : Int32) : entryFrame m #[(.int p1)] 1 = mkF m 0 #[.val (.int p1)] [] := by first | (simp [entryFrame, mkF, argsToLocals, Value.category]; done) | rfl
def Q1 (Z : State) (p1 : Int32) (h0 : Heap) (n0 : Nat) (v : Option Value) (h : Heap) (L : List Loc) : Prop := v = some (.int (own_sp p1)) ∧ Fr n0 L ∧ h = h0
set_option maxRecDepth 65536 in
set_option maxHeartbeats 40000000 in
theorem rm1 (l : Launch) (Z : State) (a0 : Array Value) (hw : ∀ d ∈ tables_1, d.before a0 Z = true) (ws : List Jvm.Cond) (p1 : Int32) (h0 : Heap) (n0 : Nat) (Z0 : n0 ≤ h0.size)  :
    MetFree l (⟨"com/example/resolvent/resolvent/SqlLexer", "isSpace", "(C)Z"⟩ : MethodName) (head1 (Jvm.Cond.code (⟨"com/example/resolvent/resolvent/SqlLexer", "isSpace", "(C)Z"⟩ : MethodName) prog_150_method_23_code 1 (some .boolean) :: ws) ({ frames := 0, cells := 0, slots := 0, locals := 0 } : Room)) (fun a U => a = #[(.int p1)] ∧ Z.Warmed39 U.vm ∧ U.heap = h0) (fun _ _ _ _ _ => True) (fun _ U o U' => ∃ v L, o = .returned v ∧ Q1 Z p1 h0 n0 v U'.heap L ∧ FrameEnd U o U' L ({ frames := 0, cells := 0, slots := 0, locals := 0 } : Room).cells ({ frames := 0, cells := 0, slots := 0, locals := 0 } : Room).slots) := by
  refine MetFree.of_bodySF (plainFor_of_name pn_1) hisR ?_
  intro p e s m args below meth c s₁ Bd hml0 hP hK
  obtain ⟨rfl, hZ, hh⟩ := hP
  have hx := Bd.exec
  have hby := Bd.bytes
  have hml : c.maxLocals = 1 := hml0
  have hown : s.vm.findClass "com/example/resolvent/resolvent/SqlLexer" = some m.cls := findClass_of_methodNamed Bd.named
  have hnm := (name_of_methodNamed Bd.named Bd.method).1
  have hlk := Bd.notSynchronized
  have hret := Bd.returns
  have X0 : Stand p l e ({ frames := 0, cells := 0, slots := 0, locals := 0 } : Room) s m #[(.int p1)] below meth c s₁ [] 0 0 := Stand.of_body Bd
  have e0 : s₁.heap = h0 := by rw [← hh, Bd.state]; rfl
  have N0 := Fr.nil n0
  show own_G p e below (s₁.setTop (entryFrame m #[(.int p1)] 1)) (fun s₂ o => ∃ v L, o = .returned v ∧ Q1 Z p1 h0 n0 v s₂.heap L ∧ FrameEnd s o s₂ L ({ frames := 0, cells := 0, slots := 0, locals := 0 } : Room).cells ({ frames := 0, cells := 0, slots := 0, locals := 0 } : Room).slots)
  refine own_go (fun t k => castTop (ef_1 m p1) k) ?_
  show own_G p e below (s₁.setTop (mkF m 0 #[.val (.int p1)] [])) _
  refine own_go (fun _ k => XS.iloadN X0.here hx rfl (hb hby d1_0) rfl k) ?_
  show own_G p e below (s₁.setTop (mkF m 1 #[.val (.int p1)] [(.int p1)])) _
  refine own_go (fun _ k => XS.bipush X0.here hx rfl (hb hby d1_1) k) ?_
  show own_G p e below (s₁.setTop (mkF m 3 #[.val (.int p1)] [(.int (32 : Int32)), (.int p1)])) _
  by_cases hc3_1 : p1 = (32 : Int32)
  · refine own_go (fun _ k => XS.icmpYes X0.here hx rfl (pc0 := 3) (pc' := 36) rfl (hb hby d1_3) rfl (teq hc3_1).1 (by decide) (by decide) k) ?_
    show own_G p e below (s₁.setTop (mkF m 36 #[.val (.int p1)] [])) _
    refine own_go (fun _ k => XS.iconst X0.here hx rfl (hb hby d1_36) k) ?_
    show own_G p e below (s₁.setTop (mkF m 37 #[.val (.int p1)] [(.int (1 : Int32))])) _
    refine own_go (fun _ k => XS.goto X0.here hx rfl (pc0 := 37) (pc' := 41) rfl (hb hby d1_37) (by decide) (by decide) k) ?_
    show own_G p e below (s₁.setTop (mkF m 41 #[.val (.int p1)] [(.int (1 : Int32))])) _
    refine own_ret X0 hlk (v := some (.int (1 : Int32))) (fun h => by rw [hret] at h; cases h) (Q1 Z p1 h0 n0) (own_retI X0 hx (t := .boolean) hret rfl (Or.inl ⟨rfl, by simp, _, rfl⟩) (hb hby d1_41)) (by decide) (by decide) ?_
    show Q1 Z p1 h0 n0 _ s₁.heap _
    rw [e0]
    exact ⟨by simp [own_sp, hc3_1], N0, rfl⟩
  · refine own_go (fun _ k => XS.icmpNo X0.here hx rfl (hb hby d1_3) rfl (feq hc3_1).1 k) ?_
    show own_G p e below (s₁.setTop (mkF m 6 #[.val (.int p1)] [])) _
    refine own_go (fun _ k => XS.iloadN X0.here hx rfl (hb hby d1_6) rfl k) ?_
    show own_G p e below (s₁.setTop (mkF m 7 #[.val (.int p1)] [(.int p1)])) _
    refine own_go (fun _ k => XS.bipush X0.here hx rfl (hb hby d1_7) k) ?_
    show own_G p e below (s₁.setTop (mkF m 9 #[.val (.int p1)] [(.int (9 : Int32)), (.int p1)])) _
    by_cases hc9_2 : p1 = (9 : Int32)
    · refine own_go (fun _ k => XS.icmpYes X0.here hx rfl (pc0 := 9) (pc' := 36) rfl (hb hby d1_9) rfl (teq hc9_2).1 (by decide) (by decide) k) ?_
      show own_G p e below (s₁.setTop (mkF m 36 #[.val (.int p1)] [])) _
      refine own_go (fun _ k => XS.iconst X0.here hx rfl (hb hby d1_36) k) ?_
      show own_G p e below (s₁.setTop (mkF m 37 #[.val (.int p1)] [(.int (1 : Int32))])) _
      refine own_go (fun _ k => XS.goto X0.here hx rfl (pc0 := 37) (pc' := 41) rfl (hb hby d1_37) (by decide) (by decide) k) ?_
      show own_G p e below (s₁.setTop (mkF m 41 #[.val (.int p1)] [(.int (1 : Int32))])) _
      refine own_ret X0 hlk (v := some (.int (1 : Int32))) (fun h => by rw [hret] at h; cases h) (Q1 Z p1 h0 n0) (own_retI X0 hx (t := .boolean) hret rfl (Or.inl ⟨rfl, by simp, _, rfl⟩) (hb hby d1_41)) (by decide) (by decide) ?_
      show Q1 Z p1 h0 n0 _ s₁.heap _
      rw [e0]
      exact ⟨by simp [own_sp, hc3_1, hc9_2], N0, rfl⟩
    · refine own_go (fun _ k => XS.icmpNo X0.here hx rfl (hb hby d1_9) rfl (feq hc9_2).1 k) ?_
      show own_G p e below (s₁.setTop (mkF m 12 #[.val (.int p1)] [])) _
      refine own_go (fun _ k => XS.iloadN X0.here hx rfl (hb hby d1_12) rfl k) ?_
      show own_G p e below (s₁.setTop (mkF m 13 #[.val (.int p1)] [(.int p1)])) _
      refine own_go (fun _ k => XS.bipush X0.here hx rfl (hb hby d1_13) k) ?_
      show own_G p e below (s₁.setTop (mkF m 15 #[.val (.int p1)] [(.int (10 : Int32)), (.int p1)])) _
      by_cases hc15_3 : p1 = (10 : Int32)
      · refine own_go (fun _ k => XS.icmpYes X0.here hx rfl (pc0 := 15) (pc' := 36) rfl (hb hby d1_15) rfl (teq hc15_3).1 (by decide) (by decide) k) ?_
        show own_G p e below (s₁.setTop (mkF m 36 #[.val (.int p1)] [])) _
        refine own_go (fun _ k => XS.iconst X0.here hx rfl (hb hby d1_36) k) ?_
        show own_G p e below (s₁.setTop (mkF m 37 #[.val (.int p1)] [(.int (1 : Int32))])) _
        refine own_go (fun _ k => XS.goto X0.here hx rfl (pc0 := 37) (pc' := 41) rfl (hb hby d1_37) (by decide) (by decide) k) ?_
        show own_G p e below (s₁.setTop (mkF m 41 #[.val (.int p1)] [(.int (1 : Int32))])) _
        refine own_ret X0 hlk (v := some (.int (1 : Int32))) (fun h => by rw [hret] at h; cases h) (Q1 Z p1 h0 n0) (own_retI X0 hx (t := .boolean) hret rfl (Or.inl ⟨rfl, by simp, _, rfl⟩) (hb hby d1_41)) (by decide) (by decide) ?_
        show Q1 Z p1 h0 n0 _ s₁.heap _
        rw [e0]
        exact ⟨by simp [own_sp, hc3_1, hc9_2, hc15_3], N0, rfl⟩
      · refine own_go (fun _ k => XS.icmpNo X0.here hx rfl (hb hby d1_15) rfl (feq hc15_3).1 k) ?_
        show own_G p e below (s₁.setTop (mkF m 18 #[.val (.int p1)] [])) _
        refine own_go (fun _ k => XS.iloadN X0.here hx rfl (hb hby d1_18) rfl k) ?_
        show own_G p e below (s₁.setTop (mkF m 19 #[.val (.int p1)] [(.int p1)])) _
        refine own_go (fun _ k => XS.bipush X0.here hx rfl (hb hby d1_19) k) ?_
        show own_G p e below (s₁.setTop (mkF m 21 #[.val (.int p1)] [(.int (13 : Int32)), (.int p1)])) _
        by_cases hc21_4 : p1 = (13 : Int32)
        · refine own_go (fun _ k => XS.icmpYes X0.here hx rfl (pc0 := 21) (pc' := 36) rfl (hb hby d1_21) rfl (teq hc21_4).1 (by decide) (by decide) k) ?_
          show own_G p e below (s₁.setTop (mkF m 36 #[.val (.int p1)] [])) _
          refine own_go (fun _ k => XS.iconst X0.here hx rfl (hb hby d1_36) k) ?_
          show own_G p e below (s₁.setTop (mkF m 37 #[.val (.int p1)] [(.int (1 : Int32))])) _
          refine own_go (fun _ k => XS.goto X0.here hx rfl (pc0 := 37) (pc' := 41) rfl (hb hby d1_37) (by decide) (by decide) k) ?_
          show own_G p e below (s₁.setTop (mkF m 41 #[.val (.int p1)] [(.int (1 : Int32))])) _
          refine own_ret X0 hlk (v := some (.int (1 : Int32))) (fun h => by rw [hret] at h; cases h) (Q1 Z p1 h0 n0) (own_retI X0 hx (t := .boolean) hret rfl (Or.inl ⟨rfl, by simp, _, rfl⟩) (hb hby d1_41)) (by decide) (by decide) ?_
          show Q1 Z p1 h0 n0 _ s₁.heap _
          rw [e0]
          exact ⟨by simp [own_sp, hc3_1, hc9_2, hc15_3, hc21_4], N0, rfl⟩
        · refine own_go (fun _ k => XS.icmpNo X0.here hx rfl (hb hby d1_21) rfl (feq hc21_4).1 k) ?_
          show own_G p e below (s₁.setTop (mkF m 24 #[.val (.int p1)] [])) _
          refine own_go (fun _ k => XS.iloadN X0.here hx rfl (hb hby d1_24) rfl k) ?_
          show own_G p e below (s₁.setTop (mkF m 25 #[.val (.int p1)] [(.int p1)])) _
          refine own_go (fun _ k => XS.bipush X0.here hx rfl (hb hby d1_25) k) ?_
          show own_G p e below (s₁.setTop (mkF m 27 #[.val (.int p1)] [(.int (12 : Int32)), (.int p1)])) _
          by_cases hc27_5 : p1 = (12 : Int32)
          · refine own_go (fun _ k => XS.icmpYes X0.here hx rfl (pc0 := 27) (pc' := 36) rfl (hb hby d1_27) rfl (teq hc27_5).1 (by decide) (by decide) k) ?_
            show own_G p e below (s₁.setTop (mkF m 36 #[.val (.int p1)] [])) _
            refine own_go (fun _ k => XS.iconst X0.here hx rfl (hb hby d1_36) k) ?_
            show own_G p e below (s₁.setTop (mkF m 37 #[.val (.int p1)] [(.int (1 : Int32))])) _
            refine own_go (fun _ k => XS.goto X0.here hx rfl (pc0 := 37) (pc' := 41) rfl (hb hby d1_37) (by decide) (by decide) k) ?_
            show own_G p e below (s₁.setTop (mkF m 41 #[.val (.int p1)] [(.int (1 : Int32))])) _
            refine own_ret X0 hlk (v := some (.int (1 : Int32))) (fun h => by rw [hret] at h; cases h) (Q1 Z p1 h0 n0) (own_retI X0 hx (t := .boolean) hret rfl (Or.inl ⟨rfl, by simp, _, rfl⟩) (hb hby d1_41)) (by decide) (by decide) ?_
            show Q1 Z p1 h0 n0 _ s₁.heap _
            rw [e0]
            exact ⟨by simp [own_sp, hc3_1, hc9_2, hc15_3, hc21_4, hc27_5], N0, rfl⟩
          · refine own_go (fun _ k => XS.icmpNo X0.here hx rfl (hb hby d1_27) rfl (feq hc27_5).1 k) ?_
            show own_G p e below (s₁.setTop (mkF m 30 #[.val (.int p1)] [])) _
            refine own_go (fun _ k => XS.iloadN X0.here hx rfl (hb hby d1_30) rfl k) ?_
            show own_G p e below (s₁.setTop (mkF m 31 #[.val (.int p1)] [(.int p1)])) _
            refine own_go (fun _ k => XS.bipush X0.here hx rfl (hb hby d1_31) k) ?_
            show own_G p e below (s₁.setTop (mkF m 33 #[.val (.int p1)] [(.int (11 : Int32)), (.int p1)])) _
            by_cases hc33_6 : p1 = (11 : Int32)
            · refine own_go (fun _ k => XS.icmpNo X0.here hx rfl (hb hby d1_33) rfl (teq hc33_6).2 k) ?_
              show own_G p e below (s₁.setTop (mkF m 36 #[.val (.int p1)] [])) _
              refine own_go (fun _ k => XS.iconst X0.here hx rfl (hb hby d1_36) k) ?_
              show own_G p e below (s₁.setTop (mkF m 37 #[.val (.int p1)] [(.int (1 : Int32))])) _
              refine own_go (fun _ k => XS.goto X0.here hx rfl (pc0 := 37) (pc' := 41) rfl (hb hby d1_37) (by decide) (by decide) k) ?_
              show own_G p e below (s₁.setTop (mkF m 41 #[.val (.int p1)] [(.int (1 : Int32))])) _
              refine own_ret X0 hlk (v := some (.int (1 : Int32))) (fun h => by rw [hret] at h; cases h) (Q1 Z p1 h0 n0) (own_retI X0 hx (t := .boolean) hret rfl (Or.inl ⟨rfl, by simp, _, rfl⟩) (hb hby d1_41)) (by decide) (by decide) ?_
              show Q1 Z p1 h0 n0 _ s₁.heap _
              rw [e0]
              exact ⟨by simp [own_sp, hc3_1, hc9_2, hc15_3, hc21_4, hc27_5, hc33_6], N0, rfl⟩
            · refine own_go (fun _ k => XS.icmpYes X0.here hx rfl (pc0 := 33) (pc' := 40) rfl (hb hby d1_33) rfl (feq hc33_6).2 (by decide) (by decide) k) ?_
              show own_G p e below (s₁.setTop (mkF m 40 #[.val (.int p1)] [])) _
              refine own_go (fun _ k => XS.iconst X0.here hx rfl (hb hby d1_40) k) ?_
              show own_G p e below (s₁.setTop (mkF m 41 #[.val (.int p1)] [(.int (0 : Int32))])) _
              refine own_ret X0 hlk (v := some (.int (0 : Int32))) (fun h => by rw [hret] at h; cases h) (Q1 Z p1 h0 n0) (own_retI X0 hx (t := .boolean) hret rfl (Or.inl ⟨rfl, by simp, _, rfl⟩) (hb hby d1_41)) (by decide) (by decide) ?_
              show Q1 Z p1 h0 n0 _ s₁.heap _
              rw [e0]
              exact ⟨by simp [own_sp, hc3_1, hc9_2, hc15_3, hc21_4, hc27_5, hc33_6], N0, rfl⟩
theorem ef_0 (m : MethodId) (p1 : Int32) (p2 : Int32) : entryFrame m #[(.int p1), (.int p2)] maxLocals = mkF m 0 #[.val (.int p1), .val (.int p2), .unset, .unset] [] := by first | (simp [entryFrame, mkF, argsToLocals, Value.category, maxLocals]; done) | rfl
def Q0 (Z : State) (p1 : Int32) (p2 : Int32) (h0 : Heap) (n0 : Nat) (v : Option Value) (h : Heap) (L : List Loc) : Prop := v = some (.int (1 : Int32)) ∧ Fr n0 L
set_option maxRecDepth 65536 in
set_option maxHeartbeats 40000000 in
theorem rm0 (l : Launch) (Z : State) (a0 : Array Value) (hw : ∀ d ∈ tables_1, d.before a0 Z = true) (ws : List Jvm.Cond) (p1 : Int32) (p2 : Int32) (h0 : Heap) (n0 : Nat) (Z0 : n0 ≤ h0.size)  :
    MetFree l x (head1 (Jvm.Cond.code x code maxLocals ret :: ws) room_1) (fun a U => a = #[(.int p1), (.int p2)] ∧ Z.Warmed39 U.vm ∧ U.heap = h0) (fun _ _ _ _ _ => True) (fun _ U o U' => ∃ v L, o = .returned v ∧ Q0 Z p1 p2 h0 n0 v U'.heap L ∧ FrameEnd U o U' L room_1.cells room_1.slots) := by
  refine MetFree.of_bodySF (plainFor_of_name pn_0) hisR ?_
  intro p e s m args below meth c s₁ Bd hml0 hP hK
  obtain ⟨rfl, hZ, hh⟩ := hP
  have hx := Bd.exec
  have hby := Bd.bytes
  have hml : c.maxLocals = 4 := hml0
  have hown : s.vm.findClass "com/example/resolvent/resolvent/SqlLexerIsSpacePinLaw" = some m.cls := findClass_of_methodNamed Bd.named
  have hnm := (name_of_methodNamed Bd.named Bd.method).1
  have hlk := Bd.notSynchronized
  have hret := Bd.returns
  have X0 : Stand p l e room_1 s m #[(.int p1), (.int p2)] below meth c s₁ [] 0 0 := Stand.of_body Bd
  have e0 : s₁.heap = h0 := by rw [← hh, Bd.state]; rfl
  have N0 := Fr.nil n0
  show own_G p e below (s₁.setTop (entryFrame m #[(.int p1), (.int p2)] maxLocals)) (fun s₂ o => ∃ v L, o = .returned v ∧ Q0 Z p1 p2 h0 n0 v s₂.heap L ∧ FrameEnd s o s₂ L room_1.cells room_1.slots)
  refine own_go (fun t k => castTop (ef_0 m p1 p2) k) ?_
  show own_G p e below (s₁.setTop (mkF m 0 #[.val (.int p1), .val (.int p2), .unset, .unset] [])) _
  refine own_go (fun _ k => XS.iloadN X0.here hx rfl (hb hby at_0) rfl k) ?_
  show own_G p e below (s₁.setTop (mkF m 1 #[.val (.int p1), .val (.int p2), .unset, .unset] [(.int p2)])) _
  refine own_go (fun _ k => XS.iconst X0.here hx rfl (hb hby at_1) k) ?_
  show own_G p e below (s₁.setTop (mkF m 2 #[.val (.int p1), .val (.int p2), .unset, .unset] [(.int (1 : Int32)), (.int p2)])) _
  refine own_go (fun _ k => XS.iand X0.here hx rfl (hb hby at_2) rfl k) ?_
  show own_G p e below (s₁.setTop (mkF m 3 #[.val (.int p1), .val (.int p2), .unset, .unset] [(.int (p2 &&& (1 : Int32)))])) _
  by_cases hc3_7 : (p2 &&& (1 : Int32)) = (0 : Int32)
  · refine own_go (fun _ k => XS.ifYes X0.here hx rfl (pc0 := 3) (pc' := 14) rfl (hb hby at_3) rfl ((if0 _ _).trans (teq hc3_7).1) (by decide) (by decide) k) ?_
    show own_G p e below (s₁.setTop (mkF m 14 #[.val (.int p1), .val (.int p2), .unset, .unset] [])) _
    refine own_go (fun _ k => XS.iloadN X0.here hx rfl (hb hby at_14) rfl k) ?_
    show own_G p e below (s₁.setTop (mkF m 15 #[.val (.int p1), .val (.int p2), .unset, .unset] [(.int p1)])) _
    refine own_go (fun _ k => XS.i2c X0.here hx rfl (hb hby at_15) rfl k) ?_
    show own_G p e below (s₁.setTop (mkF m 16 #[.val (.int p1), .val (.int p2), .unset, .unset] [(.int (p1.toUInt32.toUInt16.toUInt32.toInt32))])) _
    generalize hcc8 : (p1.toUInt32.toUInt16.toUInt32.toInt32) = ch
    show own_G p e below (s₁.setTop (mkF m 16 #[.val (.int p1), .val (.int p2), .unset, .unset] [(.int ch)])) _
    refine own_go (fun _ k => XS.istoreN X0.here hx rfl (hb hby at_16) rfl (l' := #[.val (.int p1), .val (.int p2), .val (.int ch), .unset]) rfl k) ?_
    show own_G p e below (s₁.setTop (mkF m 17 #[.val (.int p1), .val (.int p2), .val (.int ch), .unset] [])) _
    refine own_go (fun _ k => XS.iloadN X0.here hx rfl (hb hby at_17) rfl k) ?_
    show own_G p e below (s₁.setTop (mkF m 18 #[.val (.int p1), .val (.int p2), .val (.int ch), .unset] [(.int ch)])) _
    refine own_go (fun _ k => XS.bipush X0.here hx rfl (hb hby at_18) k) ?_
    show own_G p e below (s₁.setTop (mkF m 20 #[.val (.int p1), .val (.int p2), .val (.int ch), .unset] [(.int (9 : Int32)), (.int ch)])) _
    by_cases hc20_9 : ch < (9 : Int32)
    · refine own_go (fun _ k => XS.icmpYes X0.here hx rfl (pc0 := 20) (pc' := 29) rfl (hb hby at_20) rfl (tlt hc20_9).1 (by decide) (by decide) k) ?_
      show own_G p e below (s₁.setTop (mkF m 29 #[.val (.int p1), .val (.int p2), .val (.int ch), .unset] [])) _
      refine own_go (fun _ k => XS.iloadN X0.here hx rfl (hb hby at_29) rfl k) ?_
      show own_G p e below (s₁.setTop (mkF m 30 #[.val (.int p1), .val (.int p2), .val (.int ch), .unset] [(.int ch)])) _
      refine own_go (fun _ k => XS.bipush X0.here hx rfl (hb hby at_30) k) ?_
      show own_G p e below (s₁.setTop (mkF m 32 #[.val (.int p1), .val (.int p2), .val (.int ch), .unset] [(.int (32 : Int32)), (.int ch)])) _
      by_cases hc32_10 : ch = (32 : Int32)
      · refine own_go (fun _ k => XS.icmpNo X0.here hx rfl (hb hby at_32) rfl (teq hc32_10).2 k) ?_
        show own_G p e below (s₁.setTop (mkF m 35 #[.val (.int p1), .val (.int p2), .val (.int ch), .unset] [])) _
        refine own_go (fun _ k => XS.iconst X0.here hx rfl (hb hby at_35) k) ?_
        show own_G p e below (s₁.setTop (mkF m 36 #[.val (.int p1), .val (.int p2), .val (.int ch), .unset] [(.int (1 : Int32))])) _
        refine own_go (fun _ k => XS.goto X0.here hx rfl (pc0 := 36) (pc' := 40) rfl (hb hby at_36) (by decide) (by decide) k) ?_
        show own_G p e below (s₁.setTop (mkF m 40 #[.val (.int p1), .val (.int p2), .val (.int ch), .unset] [(.int (1 : Int32))])) _
        refine own_go (fun _ k => XS.istoreN X0.here hx rfl (hb hby at_40) rfl (l' := #[.val (.int p1), .val (.int p2), .val (.int ch), .val (.int (1 : Int32))]) rfl k) ?_
        show own_G p e below (s₁.setTop (mkF m 41 #[.val (.int p1), .val (.int p2), .val (.int ch), .val (.int (1 : Int32))] [])) _
        refine own_go (fun _ k => XS.iloadN X0.here hx rfl (hb hby at_41) rfl k) ?_
        show own_G p e below (s₁.setTop (mkF m 42 #[.val (.int p1), .val (.int p2), .val (.int ch), .val (.int (1 : Int32))] [(.int ch)])) _
        obtain ⟨_, _, ⟨T11, L11, k11, n11⟩, -, X11, ⟨Lc11, hQ11, l11, y11, z11⟩, st11⟩ := Jvm.LawKit.callS X0 hx (y := (⟨"com/example/resolvent/resolvent/SqlLexer", "isSpace", "(C)Z"⟩ : MethodName)) hown (mvT hZ (hw _ (List.mem_of_getElem? (i := 0) rfl))) (mvT hZ (hw _ (List.mem_of_getElem? (i := 1) rfl))) (mvT hZ (hw _ (List.mem_of_getElem? (i := 2) rfl))) (mvT hZ (hw _ (List.mem_of_getElem? (i := 3) rfl))) (by decide) (backOf (W := 0) (rm1 l Z a0 hw [] ch h0 n0 Z0 ) hZ (hw _ (List.mem_of_getElem? (i := 3) rfl)) (hw _ (List.mem_of_getElem? (i := 2) rfl)) (by decide) (by decide)) (g := (mkF m 42 #[.val (.int p1), .val (.int p2), .val (.int ch), .val (.int (1 : Int32))] [(.int ch)])) rfl (by rw [hml]; rfl) (argsL := [(.int ch)]) (rest := []) (lenOf pd_0 rfl) rfl (by show 2 * 0 + _ ≤ _; exact Nat.le_of_eq rfl) (hb hby at_42) (fun _ _ => ⟨rfl, e0, (by decide : 0 + 0 ≤ _), (by decide : 0 + 0 ≤ _)⟩)
        dsimp only [Pt.U, Pt.locs, Pt.cells, Pt.slots] at X11 l11 y11 z11 st11 hQ11
        subst l11 y11 z11
        obtain ⟨rfl, Nq11, hh11⟩ := hQ11
        have N11 := Fr.app N0 Nq11
        refine own_go st11 ?_
        have e11 : T11.heap = h0 := hh11
        show own_G p e below (T11.setTop (mkF m 45 #[.val (.int p1), .val (.int p2), .val (.int ch), .val (.int (1 : Int32))] [(.int (own_sp ch))])) _
        refine own_go (fun _ k => XS.iloadN X11.here hx rfl (hb hby at_45) rfl k) ?_
        show own_G p e below (T11.setTop (mkF m 46 #[.val (.int p1), .val (.int p2), .val (.int ch), .val (.int (1 : Int32))] [(.int (1 : Int32)), (.int (own_sp ch))])) _
        refine own_go (fun _ k => XS.icmpNo X11.here hx rfl (hb hby at_46) rfl (teq (by rw [own_sp_val]; simp [hc3_7, hc20_9, hc32_10] : (own_sp ch) = (1 : Int32))).2 k) ?_
        show own_G p e below (T11.setTop (mkF m 49 #[.val (.int p1), .val (.int p2), .val (.int ch), .val (.int (1 : Int32))] [])) _
        refine own_go (fun _ k => XS.iconst X11.here hx rfl (hb hby at_49) k) ?_
        show own_G p e below (T11.setTop (mkF m 50 #[.val (.int p1), .val (.int p2), .val (.int ch), .val (.int (1 : Int32))] [(.int (1 : Int32))])) _
        refine own_go (fun _ k => XS.goto X11.here hx rfl (pc0 := 50) (pc' := 54) rfl (hb hby at_50) (by decide) (by decide) k) ?_
        show own_G p e below (T11.setTop (mkF m 54 #[.val (.int p1), .val (.int p2), .val (.int ch), .val (.int (1 : Int32))] [(.int (1 : Int32))])) _
        refine own_ret X11 hlk (v := some (.int (1 : Int32))) (fun h => by rw [hret] at h; cases h) (Q0 Z p1 p2 h0 n0) (own_retI X11 hx (t := .boolean) hret rfl (Or.inl ⟨rfl, by simp, _, rfl⟩) (hb hby at_54)) (by decide) (by decide) ?_
        show Q0 Z p1 p2 h0 n0 _ T11.heap _
        rw [e11]
        exact ⟨rfl, N11⟩
      · refine own_go (fun _ k => XS.icmpYes X0.here hx rfl (pc0 := 32) (pc' := 39) rfl (hb hby at_32) rfl (feq hc32_10).2 (by decide) (by decide) k) ?_
        show own_G p e below (s₁.setTop (mkF m 39 #[.val (.int p1), .val (.int p2), .val (.int ch), .unset] [])) _
        refine own_go (fun _ k => XS.iconst X0.here hx rfl (hb hby at_39) k) ?_
        show own_G p e below (s₁.setTop (mkF m 40 #[.val (.int p1), .val (.int p2), .val (.int ch), .unset] [(.int (0 : Int32))])) _
        refine own_go (fun _ k => XS.istoreN X0.here hx rfl (hb hby at_40) rfl (l' := #[.val (.int p1), .val (.int p2), .val (.int ch), .val (.int (0 : Int32))]) rfl k) ?_
        show own_G p e below (s₁.setTop (mkF m 41 #[.val (.int p1), .val (.int p2), .val (.int ch), .val (.int (0 : Int32))] [])) _
        refine own_go (fun _ k => XS.iloadN X0.here hx rfl (hb hby at_41) rfl k) ?_
        show own_G p e below (s₁.setTop (mkF m 42 #[.val (.int p1), .val (.int p2), .val (.int ch), .val (.int (0 : Int32))] [(.int ch)])) _
        obtain ⟨_, _, ⟨T12, L12, k12, n12⟩, -, X12, ⟨Lc12, hQ12, l12, y12, z12⟩, st12⟩ := Jvm.LawKit.callS X0 hx (y := (⟨"com/example/resolvent/resolvent/SqlLexer", "isSpace", "(C)Z"⟩ : MethodName)) hown (mvT hZ (hw _ (List.mem_of_getElem? (i := 0) rfl))) (mvT hZ (hw _ (List.mem_of_getElem? (i := 1) rfl))) (mvT hZ (hw _ (List.mem_of_getElem? (i := 2) rfl))) (mvT hZ (hw _ (List.mem_of_getElem? (i := 3) rfl))) (by decide) (backOf (W := 0) (rm1 l Z a0 hw [] ch h0 n0 Z0 ) hZ (hw _ (List.mem_of_getElem? (i := 3) rfl)) (hw _ (List.mem_of_getElem? (i := 2) rfl)) (by decide) (by decide)) (g := (mkF m 42 #[.val (.int p1), .val (.int p2), .val (.int ch), .val (.int (0 : Int32))] [(.int ch)])) rfl (by rw [hml]; rfl) (argsL := [(.int ch)]) (rest := []) (lenOf pd_0 rfl) rfl (by show 2 * 0 + _ ≤ _; exact Nat.le_of_eq rfl) (hb hby at_42) (fun _ _ => ⟨rfl, e0, (by decide : 0 + 0 ≤ _), (by decide : 0 + 0 ≤ _)⟩)
        dsimp only [Pt.U, Pt.locs, Pt.cells, Pt.slots] at X12 l12 y12 z12 st12 hQ12
        subst l12 y12 z12
        obtain ⟨rfl, Nq12, hh12⟩ := hQ12
        have N12 := Fr.app N0 Nq12
        refine own_go st12 ?_
        have e12 : T12.heap = h0 := hh12
        show own_G p e below (T12.setTop (mkF m 45 #[.val (.int p1), .val (.int p2), .val (.int ch), .val (.int (0 : Int32))] [(.int (own_sp ch))])) _
        refine own_go (fun _ k => XS.iloadN X12.here hx rfl (hb hby at_45) rfl k) ?_
        show own_G p e below (T12.setTop (mkF m 46 #[.val (.int p1), .val (.int p2), .val (.int ch), .val (.int (0 : Int32))] [(.int (0 : Int32)), (.int (own_sp ch))])) _
        refine own_go (fun _ k => XS.icmpNo X12.here hx rfl (hb hby at_46) rfl (teq (by rw [own_sp_val]; simp [hc3_7, hc20_9, hc32_10] : (own_sp ch) = (0 : Int32))).2 k) ?_
        show own_G p e below (T12.setTop (mkF m 49 #[.val (.int p1), .val (.int p2), .val (.int ch), .val (.int (0 : Int32))] [])) _
        refine own_go (fun _ k => XS.iconst X12.here hx rfl (hb hby at_49) k) ?_
        show own_G p e below (T12.setTop (mkF m 50 #[.val (.int p1), .val (.int p2), .val (.int ch), .val (.int (0 : Int32))] [(.int (1 : Int32))])) _
        refine own_go (fun _ k => XS.goto X12.here hx rfl (pc0 := 50) (pc' := 54) rfl (hb hby at_50) (by decide) (by decide) k) ?_
        show own_G p e below (T12.setTop (mkF m 54 #[.val (.int p1), .val (.int p2), .val (.int ch), .val (.int (0 : Int32))] [(.int (1 : Int32))])) _
        refine own_ret X12 hlk (v := some (.int (1 : Int32))) (fun h => by rw [hret] at h; cases h) (Q0 Z p1 p2 h0 n0) (own_retI X12 hx (t := .boolean) hret rfl (Or.inl ⟨rfl, by simp, _, rfl⟩) (hb hby at_54)) (by decide) (by decide) ?_
        show Q0 Z p1 p2 h0 n0 _ T12.heap _
        rw [e12]
        exact ⟨rfl, N12⟩
    · refine own_go (fun _ k => XS.icmpNo X0.here hx rfl (hb hby at_20) rfl (flt hc20_9).1 k) ?_
      show own_G p e below (s₁.setTop (mkF m 23 #[.val (.int p1), .val (.int p2), .val (.int ch), .unset] [])) _
      refine own_go (fun _ k => XS.iloadN X0.here hx rfl (hb hby at_23) rfl k) ?_
      show own_G p e below (s₁.setTop (mkF m 24 #[.val (.int p1), .val (.int p2), .val (.int ch), .unset] [(.int ch)])) _
      refine own_go (fun _ k => XS.bipush X0.here hx rfl (hb hby at_24) k) ?_
      show own_G p e below (s₁.setTop (mkF m 26 #[.val (.int p1), .val (.int p2), .val (.int ch), .unset] [(.int (13 : Int32)), (.int ch)])) _
      by_cases hc26_13 : (13 : Int32) < ch
      · refine own_go (fun _ k => XS.icmpNo X0.here hx rfl (hb hby at_26) rfl (tlt hc26_13).2.2.2 k) ?_
        show own_G p e below (s₁.setTop (mkF m 29 #[.val (.int p1), .val (.int p2), .val (.int ch), .unset] [])) _
        refine own_go (fun _ k => XS.iloadN X0.here hx rfl (hb hby at_29) rfl k) ?_
        show own_G p e below (s₁.setTop (mkF m 30 #[.val (.int p1), .val (.int p2), .val (.int ch), .unset] [(.int ch)])) _
        refine own_go (fun _ k => XS.bipush X0.here hx rfl (hb hby at_30) k) ?_
        show own_G p e below (s₁.setTop (mkF m 32 #[.val (.int p1), .val (.int p2), .val (.int ch), .unset] [(.int (32 : Int32)), (.int ch)])) _
        by_cases hc32_14 : ch = (32 : Int32)
        · refine own_go (fun _ k => XS.icmpNo X0.here hx rfl (hb hby at_32) rfl (teq hc32_14).2 k) ?_
          show own_G p e below (s₁.setTop (mkF m 35 #[.val (.int p1), .val (.int p2), .val (.int ch), .unset] [])) _
          refine own_go (fun _ k => XS.iconst X0.here hx rfl (hb hby at_35) k) ?_
          show own_G p e below (s₁.setTop (mkF m 36 #[.val (.int p1), .val (.int p2), .val (.int ch), .unset] [(.int (1 : Int32))])) _
          refine own_go (fun _ k => XS.goto X0.here hx rfl (pc0 := 36) (pc' := 40) rfl (hb hby at_36) (by decide) (by decide) k) ?_
          show own_G p e below (s₁.setTop (mkF m 40 #[.val (.int p1), .val (.int p2), .val (.int ch), .unset] [(.int (1 : Int32))])) _
          refine own_go (fun _ k => XS.istoreN X0.here hx rfl (hb hby at_40) rfl (l' := #[.val (.int p1), .val (.int p2), .val (.int ch), .val (.int (1 : Int32))]) rfl k) ?_
          show own_G p e below (s₁.setTop (mkF m 41 #[.val (.int p1), .val (.int p2), .val (.int ch), .val (.int (1 : Int32))] [])) _
          refine own_go (fun _ k => XS.iloadN X0.here hx rfl (hb hby at_41) rfl k) ?_
          show own_G p e below (s₁.setTop (mkF m 42 #[.val (.int p1), .val (.int p2), .val (.int ch), .val (.int (1 : Int32))] [(.int ch)])) _
          obtain ⟨_, _, ⟨T15, L15, k15, n15⟩, -, X15, ⟨Lc15, hQ15, l15, y15, z15⟩, st15⟩ := Jvm.LawKit.callS X0 hx (y := (⟨"com/example/resolvent/resolvent/SqlLexer", "isSpace", "(C)Z"⟩ : MethodName)) hown (mvT hZ (hw _ (List.mem_of_getElem? (i := 0) rfl))) (mvT hZ (hw _ (List.mem_of_getElem? (i := 1) rfl))) (mvT hZ (hw _ (List.mem_of_getElem? (i := 2) rfl))) (mvT hZ (hw _ (List.mem_of_getElem? (i := 3) rfl))) (by decide) (backOf (W := 0) (rm1 l Z a0 hw [] ch h0 n0 Z0 ) hZ (hw _ (List.mem_of_getElem? (i := 3) rfl)) (hw _ (List.mem_of_getElem? (i := 2) rfl)) (by decide) (by decide)) (g := (mkF m 42 #[.val (.int p1), .val (.int p2), .val (.int ch), .val (.int (1 : Int32))] [(.int ch)])) rfl (by rw [hml]; rfl) (argsL := [(.int ch)]) (rest := []) (lenOf pd_0 rfl) rfl (by show 2 * 0 + _ ≤ _; exact Nat.le_of_eq rfl) (hb hby at_42) (fun _ _ => ⟨rfl, e0, (by decide : 0 + 0 ≤ _), (by decide : 0 + 0 ≤ _)⟩)
          dsimp only [Pt.U, Pt.locs, Pt.cells, Pt.slots] at X15 l15 y15 z15 st15 hQ15
          subst l15 y15 z15
          obtain ⟨rfl, Nq15, hh15⟩ := hQ15
          have N15 := Fr.app N0 Nq15
          refine own_go st15 ?_
          have e15 : T15.heap = h0 := hh15
          show own_G p e below (T15.setTop (mkF m 45 #[.val (.int p1), .val (.int p2), .val (.int ch), .val (.int (1 : Int32))] [(.int (own_sp ch))])) _
          refine own_go (fun _ k => XS.iloadN X15.here hx rfl (hb hby at_45) rfl k) ?_
          show own_G p e below (T15.setTop (mkF m 46 #[.val (.int p1), .val (.int p2), .val (.int ch), .val (.int (1 : Int32))] [(.int (1 : Int32)), (.int (own_sp ch))])) _
          refine own_go (fun _ k => XS.icmpNo X15.here hx rfl (hb hby at_46) rfl (teq (by rw [own_sp_val]; simp [hc3_7, hc20_9, hc26_13, hc32_14] : (own_sp ch) = (1 : Int32))).2 k) ?_
          show own_G p e below (T15.setTop (mkF m 49 #[.val (.int p1), .val (.int p2), .val (.int ch), .val (.int (1 : Int32))] [])) _
          refine own_go (fun _ k => XS.iconst X15.here hx rfl (hb hby at_49) k) ?_
          show own_G p e below (T15.setTop (mkF m 50 #[.val (.int p1), .val (.int p2), .val (.int ch), .val (.int (1 : Int32))] [(.int (1 : Int32))])) _
          refine own_go (fun _ k => XS.goto X15.here hx rfl (pc0 := 50) (pc' := 54) rfl (hb hby at_50) (by decide) (by decide) k) ?_
          show own_G p e below (T15.setTop (mkF m 54 #[.val (.int p1), .val (.int p2), .val (.int ch), .val (.int (1 : Int32))] [(.int (1 : Int32))])) _
          refine own_ret X15 hlk (v := some (.int (1 : Int32))) (fun h => by rw [hret] at h; cases h) (Q0 Z p1 p2 h0 n0) (own_retI X15 hx (t := .boolean) hret rfl (Or.inl ⟨rfl, by simp, _, rfl⟩) (hb hby at_54)) (by decide) (by decide) ?_
          show Q0 Z p1 p2 h0 n0 _ T15.heap _
          rw [e15]
          exact ⟨rfl, N15⟩
        · refine own_go (fun _ k => XS.icmpYes X0.here hx rfl (pc0 := 32) (pc' := 39) rfl (hb hby at_32) rfl (feq hc32_14).2 (by decide) (by decide) k) ?_
          show own_G p e below (s₁.setTop (mkF m 39 #[.val (.int p1), .val (.int p2), .val (.int ch), .unset] [])) _
          refine own_go (fun _ k => XS.iconst X0.here hx rfl (hb hby at_39) k) ?_
          show own_G p e below (s₁.setTop (mkF m 40 #[.val (.int p1), .val (.int p2), .val (.int ch), .unset] [(.int (0 : Int32))])) _
          refine own_go (fun _ k => XS.istoreN X0.here hx rfl (hb hby at_40) rfl (l' := #[.val (.int p1), .val (.int p2), .val (.int ch), .val (.int (0 : Int32))]) rfl k) ?_
          show own_G p e below (s₁.setTop (mkF m 41 #[.val (.int p1), .val (.int p2), .val (.int ch), .val (.int (0 : Int32))] [])) _
          refine own_go (fun _ k => XS.iloadN X0.here hx rfl (hb hby at_41) rfl k) ?_
          show own_G p e below (s₁.setTop (mkF m 42 #[.val (.int p1), .val (.int p2), .val (.int ch), .val (.int (0 : Int32))] [(.int ch)])) _
          obtain ⟨_, _, ⟨T16, L16, k16, n16⟩, -, X16, ⟨Lc16, hQ16, l16, y16, z16⟩, st16⟩ := Jvm.LawKit.callS X0 hx (y := (⟨"com/example/resolvent/resolvent/SqlLexer", "isSpace", "(C)Z"⟩ : MethodName)) hown (mvT hZ (hw _ (List.mem_of_getElem? (i := 0) rfl))) (mvT hZ (hw _ (List.mem_of_getElem? (i := 1) rfl))) (mvT hZ (hw _ (List.mem_of_getElem? (i := 2) rfl))) (mvT hZ (hw _ (List.mem_of_getElem? (i := 3) rfl))) (by decide) (backOf (W := 0) (rm1 l Z a0 hw [] ch h0 n0 Z0 ) hZ (hw _ (List.mem_of_getElem? (i := 3) rfl)) (hw _ (List.mem_of_getElem? (i := 2) rfl)) (by decide) (by decide)) (g := (mkF m 42 #[.val (.int p1), .val (.int p2), .val (.int ch), .val (.int (0 : Int32))] [(.int ch)])) rfl (by rw [hml]; rfl) (argsL := [(.int ch)]) (rest := []) (lenOf pd_0 rfl) rfl (by show 2 * 0 + _ ≤ _; exact Nat.le_of_eq rfl) (hb hby at_42) (fun _ _ => ⟨rfl, e0, (by decide : 0 + 0 ≤ _), (by decide : 0 + 0 ≤ _)⟩)
          dsimp only [Pt.U, Pt.locs, Pt.cells, Pt.slots] at X16 l16 y16 z16 st16 hQ16
          subst l16 y16 z16
          obtain ⟨rfl, Nq16, hh16⟩ := hQ16
          have N16 := Fr.app N0 Nq16
          refine own_go st16 ?_
          have e16 : T16.heap = h0 := hh16
          show own_G p e below (T16.setTop (mkF m 45 #[.val (.int p1), .val (.int p2), .val (.int ch), .val (.int (0 : Int32))] [(.int (own_sp ch))])) _
          refine own_go (fun _ k => XS.iloadN X16.here hx rfl (hb hby at_45) rfl k) ?_
          show own_G p e below (T16.setTop (mkF m 46 #[.val (.int p1), .val (.int p2), .val (.int ch), .val (.int (0 : Int32))] [(.int (0 : Int32)), (.int (own_sp ch))])) _
          refine own_go (fun _ k => XS.icmpNo X16.here hx rfl (hb hby at_46) rfl (teq (by rw [own_sp_val]; simp [hc3_7, hc20_9, hc26_13, hc32_14] : (own_sp ch) = (0 : Int32))).2 k) ?_
          show own_G p e below (T16.setTop (mkF m 49 #[.val (.int p1), .val (.int p2), .val (.int ch), .val (.int (0 : Int32))] [])) _
          refine own_go (fun _ k => XS.iconst X16.here hx rfl (hb hby at_49) k) ?_
          show own_G p e below (T16.setTop (mkF m 50 #[.val (.int p1), .val (.int p2), .val (.int ch), .val (.int (0 : Int32))] [(.int (1 : Int32))])) _
          refine own_go (fun _ k => XS.goto X16.here hx rfl (pc0 := 50) (pc' := 54) rfl (hb hby at_50) (by decide) (by decide) k) ?_
          show own_G p e below (T16.setTop (mkF m 54 #[.val (.int p1), .val (.int p2), .val (.int ch), .val (.int (0 : Int32))] [(.int (1 : Int32))])) _
          refine own_ret X16 hlk (v := some (.int (1 : Int32))) (fun h => by rw [hret] at h; cases h) (Q0 Z p1 p2 h0 n0) (own_retI X16 hx (t := .boolean) hret rfl (Or.inl ⟨rfl, by simp, _, rfl⟩) (hb hby at_54)) (by decide) (by decide) ?_
          show Q0 Z p1 p2 h0 n0 _ T16.heap _
          rw [e16]
          exact ⟨rfl, N16⟩
      · refine own_go (fun _ k => XS.icmpYes X0.here hx rfl (pc0 := 26) (pc' := 35) rfl (hb hby at_26) rfl (flt hc26_13).2.2.2 (by decide) (by decide) k) ?_
        show own_G p e below (s₁.setTop (mkF m 35 #[.val (.int p1), .val (.int p2), .val (.int ch), .unset] [])) _
        refine own_go (fun _ k => XS.iconst X0.here hx rfl (hb hby at_35) k) ?_
        show own_G p e below (s₁.setTop (mkF m 36 #[.val (.int p1), .val (.int p2), .val (.int ch), .unset] [(.int (1 : Int32))])) _
        refine own_go (fun _ k => XS.goto X0.here hx rfl (pc0 := 36) (pc' := 40) rfl (hb hby at_36) (by decide) (by decide) k) ?_
        show own_G p e below (s₁.setTop (mkF m 40 #[.val (.int p1), .val (.int p2), .val (.int ch), .unset] [(.int (1 : Int32))])) _
        refine own_go (fun _ k => XS.istoreN X0.here hx rfl (hb hby at_40) rfl (l' := #[.val (.int p1), .val (.int p2), .val (.int ch), .val (.int (1 : Int32))]) rfl k) ?_
        show own_G p e below (s₁.setTop (mkF m 41 #[.val (.int p1), .val (.int p2), .val (.int ch), .val (.int (1 : Int32))] [])) _
        refine own_go (fun _ k => XS.iloadN X0.here hx rfl (hb hby at_41) rfl k) ?_
        show own_G p e below (s₁.setTop (mkF m 42 #[.val (.int p1), .val (.int p2), .val (.int ch), .val (.int (1 : Int32))] [(.int ch)])) _
        obtain ⟨_, _, ⟨T17, L17, k17, n17⟩, -, X17, ⟨Lc17, hQ17, l17, y17, z17⟩, st17⟩ := Jvm.LawKit.callS X0 hx (y := (⟨"com/example/resolvent/resolvent/SqlLexer", "isSpace", "(C)Z"⟩ : MethodName)) hown (mvT hZ (hw _ (List.mem_of_getElem? (i := 0) rfl))) (mvT hZ (hw _ (List.mem_of_getElem? (i := 1) rfl))) (mvT hZ (hw _ (List.mem_of_getElem? (i := 2) rfl))) (mvT hZ (hw _ (List.mem_of_getElem? (i := 3) rfl))) (by decide) (backOf (W := 0) (rm1 l Z a0 hw [] ch h0 n0 Z0 ) hZ (hw _ (List.mem_of_getElem? (i := 3) rfl)) (hw _ (List.mem_of_getElem? (i := 2) rfl)) (by decide) (by decide)) (g := (mkF m 42 #[.val (.int p1), .val (.int p2), .val (.int ch), .val (.int (1 : Int32))] [(.int ch)])) rfl (by rw [hml]; rfl) (argsL := [(.int ch)]) (rest := []) (lenOf pd_0 rfl) rfl (by show 2 * 0 + _ ≤ _; exact Nat.le_of_eq rfl) (hb hby at_42) (fun _ _ => ⟨rfl, e0, (by decide : 0 + 0 ≤ _), (by decide : 0 + 0 ≤ _)⟩)
        dsimp only [Pt.U, Pt.locs, Pt.cells, Pt.slots] at X17 l17 y17 z17 st17 hQ17
        subst l17 y17 z17
        obtain ⟨rfl, Nq17, hh17⟩ := hQ17
        have N17 := Fr.app N0 Nq17
        refine own_go st17 ?_
        have e17 : T17.heap = h0 := hh17
        show own_G p e below (T17.setTop (mkF m 45 #[.val (.int p1), .val (.int p2), .val (.int ch), .val (.int (1 : Int32))] [(.int (own_sp ch))])) _
        refine own_go (fun _ k => XS.iloadN X17.here hx rfl (hb hby at_45) rfl k) ?_
        show own_G p e below (T17.setTop (mkF m 46 #[.val (.int p1), .val (.int p2), .val (.int ch), .val (.int (1 : Int32))] [(.int (1 : Int32)), (.int (own_sp ch))])) _
        refine own_go (fun _ k => XS.icmpNo X17.here hx rfl (hb hby at_46) rfl (teq (by rw [own_sp_val]; simp [hc3_7, hc20_9, hc26_13] : (own_sp ch) = (1 : Int32))).2 k) ?_
        show own_G p e below (T17.setTop (mkF m 49 #[.val (.int p1), .val (.int p2), .val (.int ch), .val (.int (1 : Int32))] [])) _
        refine own_go (fun _ k => XS.iconst X17.here hx rfl (hb hby at_49) k) ?_
        show own_G p e below (T17.setTop (mkF m 50 #[.val (.int p1), .val (.int p2), .val (.int ch), .val (.int (1 : Int32))] [(.int (1 : Int32))])) _
        refine own_go (fun _ k => XS.goto X17.here hx rfl (pc0 := 50) (pc' := 54) rfl (hb hby at_50) (by decide) (by decide) k) ?_
        show own_G p e below (T17.setTop (mkF m 54 #[.val (.int p1), .val (.int p2), .val (.int ch), .val (.int (1 : Int32))] [(.int (1 : Int32))])) _
        refine own_ret X17 hlk (v := some (.int (1 : Int32))) (fun h => by rw [hret] at h; cases h) (Q0 Z p1 p2 h0 n0) (own_retI X17 hx (t := .boolean) hret rfl (Or.inl ⟨rfl, by simp, _, rfl⟩) (hb hby at_54)) (by decide) (by decide) ?_
        show Q0 Z p1 p2 h0 n0 _ T17.heap _
        rw [e17]
        exact ⟨rfl, N17⟩
  · refine own_go (fun _ k => XS.ifNo X0.here hx rfl (hb hby at_3) rfl ((if0 _ _).trans (feq hc3_7).1) k) ?_
    show own_G p e below (s₁.setTop (mkF m 6 #[.val (.int p1), .val (.int p2), .unset, .unset] [])) _
    refine own_go (fun _ k => XS.iloadN X0.here hx rfl (hb hby at_6) rfl k) ?_
    show own_G p e below (s₁.setTop (mkF m 7 #[.val (.int p1), .val (.int p2), .unset, .unset] [(.int p1)])) _
    refine own_go (fun _ k => XS.bipush X0.here hx rfl (hb hby at_7) k) ?_
    show own_G p e below (s₁.setTop (mkF m 9 #[.val (.int p1), .val (.int p2), .unset, .unset] [(.int (63 : Int32)), (.int p1)])) _
    refine own_go (fun _ k => XS.iand X0.here hx rfl (hb hby at_9) rfl k) ?_
    show own_G p e below (s₁.setTop (mkF m 10 #[.val (.int p1), .val (.int p2), .unset, .unset] [(.int (p1 &&& (63 : Int32)))])) _
    refine own_go (fun _ k => XS.i2c X0.here hx rfl (hb hby at_10) rfl k) ?_
    show own_G p e below (s₁.setTop (mkF m 11 #[.val (.int p1), .val (.int p2), .unset, .unset] [(.int ((p1 &&& (63 : Int32)).toUInt32.toUInt16.toUInt32.toInt32))])) _
    refine own_go (fun _ k => XS.goto X0.here hx rfl (pc0 := 11) (pc' := 16) rfl (hb hby at_11) (by decide) (by decide) k) ?_
    show own_G p e below (s₁.setTop (mkF m 16 #[.val (.int p1), .val (.int p2), .unset, .unset] [(.int ((p1 &&& (63 : Int32)).toUInt32.toUInt16.toUInt32.toInt32))])) _
    generalize hcc18 : ((p1 &&& (63 : Int32)).toUInt32.toUInt16.toUInt32.toInt32) = ch
    show own_G p e below (s₁.setTop (mkF m 16 #[.val (.int p1), .val (.int p2), .unset, .unset] [(.int ch)])) _
    refine own_go (fun _ k => XS.istoreN X0.here hx rfl (hb hby at_16) rfl (l' := #[.val (.int p1), .val (.int p2), .val (.int ch), .unset]) rfl k) ?_
    show own_G p e below (s₁.setTop (mkF m 17 #[.val (.int p1), .val (.int p2), .val (.int ch), .unset] [])) _
    refine own_go (fun _ k => XS.iloadN X0.here hx rfl (hb hby at_17) rfl k) ?_
    show own_G p e below (s₁.setTop (mkF m 18 #[.val (.int p1), .val (.int p2), .val (.int ch), .unset] [(.int ch)])) _
    refine own_go (fun _ k => XS.bipush X0.here hx rfl (hb hby at_18) k) ?_
    show own_G p e below (s₁.setTop (mkF m 20 #[.val (.int p1), .val (.int p2), .val (.int ch), .unset] [(.int (9 : Int32)), (.int ch)])) _
    by_cases hc20_19 : ch < (9 : Int32)
    · refine own_go (fun _ k => XS.icmpYes X0.here hx rfl (pc0 := 20) (pc' := 29) rfl (hb hby at_20) rfl (tlt hc20_19).1 (by decide) (by decide) k) ?_
      show own_G p e below (s₁.setTop (mkF m 29 #[.val (.int p1), .val (.int p2), .val (.int ch), .unset] [])) _
      refine own_go (fun _ k => XS.iloadN X0.here hx rfl (hb hby at_29) rfl k) ?_
      show own_G p e below (s₁.setTop (mkF m 30 #[.val (.int p1), .val (.int p2), .val (.int ch), .unset] [(.int ch)])) _
      refine own_go (fun _ k => XS.bipush X0.here hx rfl (hb hby at_30) k) ?_
      show own_G p e below (s₁.setTop (mkF m 32 #[.val (.int p1), .val (.int p2), .val (.int ch), .unset] [(.int (32 : Int32)), (.int ch)])) _
      by_cases hc32_20 : ch = (32 : Int32)
      · refine own_go (fun _ k => XS.icmpNo X0.here hx rfl (hb hby at_32) rfl (teq hc32_20).2 k) ?_
        show own_G p e below (s₁.setTop (mkF m 35 #[.val (.int p1), .val (.int p2), .val (.int ch), .unset] [])) _
        refine own_go (fun _ k => XS.iconst X0.here hx rfl (hb hby at_35) k) ?_
        show own_G p e below (s₁.setTop (mkF m 36 #[.val (.int p1), .val (.int p2), .val (.int ch), .unset] [(.int (1 : Int32))])) _
        refine own_go (fun _ k => XS.goto X0.here hx rfl (pc0 := 36) (pc' := 40) rfl (hb hby at_36) (by decide) (by decide) k) ?_
        show own_G p e below (s₁.setTop (mkF m 40 #[.val (.int p1), .val (.int p2), .val (.int ch), .unset] [(.int (1 : Int32))])) _
        refine own_go (fun _ k => XS.istoreN X0.here hx rfl (hb hby at_40) rfl (l' := #[.val (.int p1), .val (.int p2), .val (.int ch), .val (.int (1 : Int32))]) rfl k) ?_
        show own_G p e below (s₁.setTop (mkF m 41 #[.val (.int p1), .val (.int p2), .val (.int ch), .val (.int (1 : Int32))] [])) _
        refine own_go (fun _ k => XS.iloadN X0.here hx rfl (hb hby at_41) rfl k) ?_
        show own_G p e below (s₁.setTop (mkF m 42 #[.val (.int p1), .val (.int p2), .val (.int ch), .val (.int (1 : Int32))] [(.int ch)])) _
        obtain ⟨_, _, ⟨T21, L21, k21, n21⟩, -, X21, ⟨Lc21, hQ21, l21, y21, z21⟩, st21⟩ := Jvm.LawKit.callS X0 hx (y := (⟨"com/example/resolvent/resolvent/SqlLexer", "isSpace", "(C)Z"⟩ : MethodName)) hown (mvT hZ (hw _ (List.mem_of_getElem? (i := 0) rfl))) (mvT hZ (hw _ (List.mem_of_getElem? (i := 1) rfl))) (mvT hZ (hw _ (List.mem_of_getElem? (i := 2) rfl))) (mvT hZ (hw _ (List.mem_of_getElem? (i := 3) rfl))) (by decide) (backOf (W := 0) (rm1 l Z a0 hw [] ch h0 n0 Z0 ) hZ (hw _ (List.mem_of_getElem? (i := 3) rfl)) (hw _ (List.mem_of_getElem? (i := 2) rfl)) (by decide) (by decide)) (g := (mkF m 42 #[.val (.int p1), .val (.int p2), .val (.int ch), .val (.int (1 : Int32))] [(.int ch)])) rfl (by rw [hml]; rfl) (argsL := [(.int ch)]) (rest := []) (lenOf pd_0 rfl) rfl (by show 2 * 0 + _ ≤ _; exact Nat.le_of_eq rfl) (hb hby at_42) (fun _ _ => ⟨rfl, e0, (by decide : 0 + 0 ≤ _), (by decide : 0 + 0 ≤ _)⟩)
        dsimp only [Pt.U, Pt.locs, Pt.cells, Pt.slots] at X21 l21 y21 z21 st21 hQ21
        subst l21 y21 z21
        obtain ⟨rfl, Nq21, hh21⟩ := hQ21
        have N21 := Fr.app N0 Nq21
        refine own_go st21 ?_
        have e21 : T21.heap = h0 := hh21
        show own_G p e below (T21.setTop (mkF m 45 #[.val (.int p1), .val (.int p2), .val (.int ch), .val (.int (1 : Int32))] [(.int (own_sp ch))])) _
        refine own_go (fun _ k => XS.iloadN X21.here hx rfl (hb hby at_45) rfl k) ?_
        show own_G p e below (T21.setTop (mkF m 46 #[.val (.int p1), .val (.int p2), .val (.int ch), .val (.int (1 : Int32))] [(.int (1 : Int32)), (.int (own_sp ch))])) _
        refine own_go (fun _ k => XS.icmpNo X21.here hx rfl (hb hby at_46) rfl (teq (by rw [own_sp_val]; simp [hc3_7, hc20_19, hc32_20] : (own_sp ch) = (1 : Int32))).2 k) ?_
        show own_G p e below (T21.setTop (mkF m 49 #[.val (.int p1), .val (.int p2), .val (.int ch), .val (.int (1 : Int32))] [])) _
        refine own_go (fun _ k => XS.iconst X21.here hx rfl (hb hby at_49) k) ?_
        show own_G p e below (T21.setTop (mkF m 50 #[.val (.int p1), .val (.int p2), .val (.int ch), .val (.int (1 : Int32))] [(.int (1 : Int32))])) _
        refine own_go (fun _ k => XS.goto X21.here hx rfl (pc0 := 50) (pc' := 54) rfl (hb hby at_50) (by decide) (by decide) k) ?_
        show own_G p e below (T21.setTop (mkF m 54 #[.val (.int p1), .val (.int p2), .val (.int ch), .val (.int (1 : Int32))] [(.int (1 : Int32))])) _
        refine own_ret X21 hlk (v := some (.int (1 : Int32))) (fun h => by rw [hret] at h; cases h) (Q0 Z p1 p2 h0 n0) (own_retI X21 hx (t := .boolean) hret rfl (Or.inl ⟨rfl, by simp, _, rfl⟩) (hb hby at_54)) (by decide) (by decide) ?_
        show Q0 Z p1 p2 h0 n0 _ T21.heap _
        rw [e21]
        exact ⟨rfl, N21⟩
      · refine own_go (fun _ k => XS.icmpYes X0.here hx rfl (pc0 := 32) (pc' := 39) rfl (hb hby at_32) rfl (feq hc32_20).2 (by decide) (by decide) k) ?_
        show own_G p e below (s₁.setTop (mkF m 39 #[.val (.int p1), .val (.int p2), .val (.int ch), .unset] [])) _
        refine own_go (fun _ k => XS.iconst X0.here hx rfl (hb hby at_39) k) ?_
        show own_G p e below (s₁.setTop (mkF m 40 #[.val (.int p1), .val (.int p2), .val (.int ch), .unset] [(.int (0 : Int32))])) _
        refine own_go (fun _ k => XS.istoreN X0.here hx rfl (hb hby at_40) rfl (l' := #[.val (.int p1), .val (.int p2), .val (.int ch), .val (.int (0 : Int32))]) rfl k) ?_
        show own_G p e below (s₁.setTop (mkF m 41 #[.val (.int p1), .val (.int p2), .val (.int ch), .val (.int (0 : Int32))] [])) _
        refine own_go (fun _ k => XS.iloadN X0.here hx rfl (hb hby at_41) rfl k) ?_
        show own_G p e below (s₁.setTop (mkF m 42 #[.val (.int p1), .val (.int p2), .val (.int ch), .val (.int (0 : Int32))] [(.int ch)])) _
        obtain ⟨_, _, ⟨T22, L22, k22, n22⟩, -, X22, ⟨Lc22, hQ22, l22, y22, z22⟩, st22⟩ := Jvm.LawKit.callS X0 hx (y := (⟨"com/example/resolvent/resolvent/SqlLexer", "isSpace", "(C)Z"⟩ : MethodName)) hown (mvT hZ (hw _ (List.mem_of_getElem? (i := 0) rfl))) (mvT hZ (hw _ (List.mem_of_getElem? (i := 1) rfl))) (mvT hZ (hw _ (List.mem_of_getElem? (i := 2) rfl))) (mvT hZ (hw _ (List.mem_of_getElem? (i := 3) rfl))) (by decide) (backOf (W := 0) (rm1 l Z a0 hw [] ch h0 n0 Z0 ) hZ (hw _ (List.mem_of_getElem? (i := 3) rfl)) (hw _ (List.mem_of_getElem? (i := 2) rfl)) (by decide) (by decide)) (g := (mkF m 42 #[.val (.int p1), .val (.int p2), .val (.int ch), .val (.int (0 : Int32))] [(.int ch)])) rfl (by rw [hml]; rfl) (argsL := [(.int ch)]) (rest := []) (lenOf pd_0 rfl) rfl (by show 2 * 0 + _ ≤ _; exact Nat.le_of_eq rfl) (hb hby at_42) (fun _ _ => ⟨rfl, e0, (by decide : 0 + 0 ≤ _), (by decide : 0 + 0 ≤ _)⟩)
        dsimp only [Pt.U, Pt.locs, Pt.cells, Pt.slots] at X22 l22 y22 z22 st22 hQ22
        subst l22 y22 z22
        obtain ⟨rfl, Nq22, hh22⟩ := hQ22
        have N22 := Fr.app N0 Nq22
        refine own_go st22 ?_
        have e22 : T22.heap = h0 := hh22
        show own_G p e below (T22.setTop (mkF m 45 #[.val (.int p1), .val (.int p2), .val (.int ch), .val (.int (0 : Int32))] [(.int (own_sp ch))])) _
        refine own_go (fun _ k => XS.iloadN X22.here hx rfl (hb hby at_45) rfl k) ?_
        show own_G p e below (T22.setTop (mkF m 46 #[.val (.int p1), .val (.int p2), .val (.int ch), .val (.int (0 : Int32))] [(.int (0 : Int32)), (.int (own_sp ch))])) _
        refine own_go (fun _ k => XS.icmpNo X22.here hx rfl (hb hby at_46) rfl (teq (by rw [own_sp_val]; simp [hc3_7, hc20_19, hc32_20] : (own_sp ch) = (0 : Int32))).2 k) ?_
        show own_G p e below (T22.setTop (mkF m 49 #[.val (.int p1), .val (.int p2), .val (.int ch), .val (.int (0 : Int32))] [])) _
        refine own_go (fun _ k => XS.iconst X22.here hx rfl (hb hby at_49) k) ?_
        show own_G p e below (T22.setTop (mkF m 50 #[.val (.int p1), .val (.int p2), .val (.int ch), .val (.int (0 : Int32))] [(.int (1 : Int32))])) _
        refine own_go (fun _ k => XS.goto X22.here hx rfl (pc0 := 50) (pc' := 54) rfl (hb hby at_50) (by decide) (by decide) k) ?_
        show own_G p e below (T22.setTop (mkF m 54 #[.val (.int p1), .val (.int p2), .val (.int ch), .val (.int (0 : Int32))] [(.int (1 : Int32))])) _
        refine own_ret X22 hlk (v := some (.int (1 : Int32))) (fun h => by rw [hret] at h; cases h) (Q0 Z p1 p2 h0 n0) (own_retI X22 hx (t := .boolean) hret rfl (Or.inl ⟨rfl, by simp, _, rfl⟩) (hb hby at_54)) (by decide) (by decide) ?_
        show Q0 Z p1 p2 h0 n0 _ T22.heap _
        rw [e22]
        exact ⟨rfl, N22⟩
    · refine own_go (fun _ k => XS.icmpNo X0.here hx rfl (hb hby at_20) rfl (flt hc20_19).1 k) ?_
      show own_G p e below (s₁.setTop (mkF m 23 #[.val (.int p1), .val (.int p2), .val (.int ch), .unset] [])) _
      refine own_go (fun _ k => XS.iloadN X0.here hx rfl (hb hby at_23) rfl k) ?_
      show own_G p e below (s₁.setTop (mkF m 24 #[.val (.int p1), .val (.int p2), .val (.int ch), .unset] [(.int ch)])) _
      refine own_go (fun _ k => XS.bipush X0.here hx rfl (hb hby at_24) k) ?_
      show own_G p e below (s₁.setTop (mkF m 26 #[.val (.int p1), .val (.int p2), .val (.int ch), .unset] [(.int (13 : Int32)), (.int ch)])) _
      by_cases hc26_23 : (13 : Int32) < ch
      · refine own_go (fun _ k => XS.icmpNo X0.here hx rfl (hb hby at_26) rfl (tlt hc26_23).2.2.2 k) ?_
        show own_G p e below (s₁.setTop (mkF m 29 #[.val (.int p1), .val (.int p2), .val (.int ch), .unset] [])) _
        refine own_go (fun _ k => XS.iloadN X0.here hx rfl (hb hby at_29) rfl k) ?_
        show own_G p e below (s₁.setTop (mkF m 30 #[.val (.int p1), .val (.int p2), .val (.int ch), .unset] [(.int ch)])) _
        refine own_go (fun _ k => XS.bipush X0.here hx rfl (hb hby at_30) k) ?_
        show own_G p e below (s₁.setTop (mkF m 32 #[.val (.int p1), .val (.int p2), .val (.int ch), .unset] [(.int (32 : Int32)), (.int ch)])) _
        by_cases hc32_24 : ch = (32 : Int32)
        · refine own_go (fun _ k => XS.icmpNo X0.here hx rfl (hb hby at_32) rfl (teq hc32_24).2 k) ?_
          show own_G p e below (s₁.setTop (mkF m 35 #[.val (.int p1), .val (.int p2), .val (.int ch), .unset] [])) _
          refine own_go (fun _ k => XS.iconst X0.here hx rfl (hb hby at_35) k) ?_
          show own_G p e below (s₁.setTop (mkF m 36 #[.val (.int p1), .val (.int p2), .val (.int ch), .unset] [(.int (1 : Int32))])) _
          refine own_go (fun _ k => XS.goto X0.here hx rfl (pc0 := 36) (pc' := 40) rfl (hb hby at_36) (by decide) (by decide) k) ?_
          show own_G p e below (s₁.setTop (mkF m 40 #[.val (.int p1), .val (.int p2), .val (.int ch), .unset] [(.int (1 : Int32))])) _
          refine own_go (fun _ k => XS.istoreN X0.here hx rfl (hb hby at_40) rfl (l' := #[.val (.int p1), .val (.int p2), .val (.int ch), .val (.int (1 : Int32))]) rfl k) ?_
          show own_G p e below (s₁.setTop (mkF m 41 #[.val (.int p1), .val (.int p2), .val (.int ch), .val (.int (1 : Int32))] [])) _
          refine own_go (fun _ k => XS.iloadN X0.here hx rfl (hb hby at_41) rfl k) ?_
          show own_G p e below (s₁.setTop (mkF m 42 #[.val (.int p1), .val (.int p2), .val (.int ch), .val (.int (1 : Int32))] [(.int ch)])) _
          obtain ⟨_, _, ⟨T25, L25, k25, n25⟩, -, X25, ⟨Lc25, hQ25, l25, y25, z25⟩, st25⟩ := Jvm.LawKit.callS X0 hx (y := (⟨"com/example/resolvent/resolvent/SqlLexer", "isSpace", "(C)Z"⟩ : MethodName)) hown (mvT hZ (hw _ (List.mem_of_getElem? (i := 0) rfl))) (mvT hZ (hw _ (List.mem_of_getElem? (i := 1) rfl))) (mvT hZ (hw _ (List.mem_of_getElem? (i := 2) rfl))) (mvT hZ (hw _ (List.mem_of_getElem? (i := 3) rfl))) (by decide) (backOf (W := 0) (rm1 l Z a0 hw [] ch h0 n0 Z0 ) hZ (hw _ (List.mem_of_getElem? (i := 3) rfl)) (hw _ (List.mem_of_getElem? (i := 2) rfl)) (by decide) (by decide)) (g := (mkF m 42 #[.val (.int p1), .val (.int p2), .val (.int ch), .val (.int (1 : Int32))] [(.int ch)])) rfl (by rw [hml]; rfl) (argsL := [(.int ch)]) (rest := []) (lenOf pd_0 rfl) rfl (by show 2 * 0 + _ ≤ _; exact Nat.le_of_eq rfl) (hb hby at_42) (fun _ _ => ⟨rfl, e0, (by decide : 0 + 0 ≤ _), (by decide : 0 + 0 ≤ _)⟩)
          dsimp only [Pt.U, Pt.locs, Pt.cells, Pt.slots] at X25 l25 y25 z25 st25 hQ25
          subst l25 y25 z25
          obtain ⟨rfl, Nq25, hh25⟩ := hQ25
          have N25 := Fr.app N0 Nq25
          refine own_go st25 ?_
          have e25 : T25.heap = h0 := hh25
          show own_G p e below (T25.setTop (mkF m 45 #[.val (.int p1), .val (.int p2), .val (.int ch), .val (.int (1 : Int32))] [(.int (own_sp ch))])) _
          refine own_go (fun _ k => XS.iloadN X25.here hx rfl (hb hby at_45) rfl k) ?_
          show own_G p e below (T25.setTop (mkF m 46 #[.val (.int p1), .val (.int p2), .val (.int ch), .val (.int (1 : Int32))] [(.int (1 : Int32)), (.int (own_sp ch))])) _
          refine own_go (fun _ k => XS.icmpNo X25.here hx rfl (hb hby at_46) rfl (teq (by rw [own_sp_val]; simp [hc3_7, hc20_19, hc26_23, hc32_24] : (own_sp ch) = (1 : Int32))).2 k) ?_
          show own_G p e below (T25.setTop (mkF m 49 #[.val (.int p1), .val (.int p2), .val (.int ch), .val (.int (1 : Int32))] [])) _
          refine own_go (fun _ k => XS.iconst X25.here hx rfl (hb hby at_49) k) ?_
          show own_G p e below (T25.setTop (mkF m 50 #[.val (.int p1), .val (.int p2), .val (.int ch), .val (.int (1 : Int32))] [(.int (1 : Int32))])) _
          refine own_go (fun _ k => XS.goto X25.here hx rfl (pc0 := 50) (pc' := 54) rfl (hb hby at_50) (by decide) (by decide) k) ?_
          show own_G p e below (T25.setTop (mkF m 54 #[.val (.int p1), .val (.int p2), .val (.int ch), .val (.int (1 : Int32))] [(.int (1 : Int32))])) _
          refine own_ret X25 hlk (v := some (.int (1 : Int32))) (fun h => by rw [hret] at h; cases h) (Q0 Z p1 p2 h0 n0) (own_retI X25 hx (t := .boolean) hret rfl (Or.inl ⟨rfl, by simp, _, rfl⟩) (hb hby at_54)) (by decide) (by decide) ?_
          show Q0 Z p1 p2 h0 n0 _ T25.heap _
          rw [e25]
          exact ⟨rfl, N25⟩
        · refine own_go (fun _ k => XS.icmpYes X0.here hx rfl (pc0 := 32) (pc' := 39) rfl (hb hby at_32) rfl (feq hc32_24).2 (by decide) (by decide) k) ?_
          show own_G p e below (s₁.setTop (mkF m 39 #[.val (.int p1), .val (.int p2), .val (.int ch), .unset] [])) _
          refine own_go (fun _ k => XS.iconst X0.here hx rfl (hb hby at_39) k) ?_
          show own_G p e below (s₁.setTop (mkF m 40 #[.val (.int p1), .val (.int p2), .val (.int ch), .unset] [(.int (0 : Int32))])) _
          refine own_go (fun _ k => XS.istoreN X0.here hx rfl (hb hby at_40) rfl (l' := #[.val (.int p1), .val (.int p2), .val (.int ch), .val (.int (0 : Int32))]) rfl k) ?_
          show own_G p e below (s₁.setTop (mkF m 41 #[.val (.int p1), .val (.int p2), .val (.int ch), .val (.int (0 : Int32))] [])) _
          refine own_go (fun _ k => XS.iloadN X0.here hx rfl (hb hby at_41) rfl k) ?_
          show own_G p e below (s₁.setTop (mkF m 42 #[.val (.int p1), .val (.int p2), .val (.int ch), .val (.int (0 : Int32))] [(.int ch)])) _
          obtain ⟨_, _, ⟨T26, L26, k26, n26⟩, -, X26, ⟨Lc26, hQ26, l26, y26, z26⟩, st26⟩ := Jvm.LawKit.callS X0 hx (y := (⟨"com/example/resolvent/resolvent/SqlLexer", "isSpace", "(C)Z"⟩ : MethodName)) hown (mvT hZ (hw _ (List.mem_of_getElem? (i := 0) rfl))) (mvT hZ (hw _ (List.mem_of_getElem? (i := 1) rfl))) (mvT hZ (hw _ (List.mem_of_getElem? (i := 2) rfl))) (mvT hZ (hw _ (List.mem_of_getElem? (i := 3) rfl))) (by decide) (backOf (W := 0) (rm1 l Z a0 hw [] ch h0 n0 Z0 ) hZ (hw _ (List.mem_of_getElem? (i := 3) rfl)) (hw _ (List.mem_of_getElem? (i := 2) rfl)) (by decide) (by decide)) (g := (mkF m 42 #[.val (.int p1), .val (.int p2), .val (.int ch), .val (.int (0 : Int32))] [(.int ch)])) rfl (by rw [hml]; rfl) (argsL := [(.int ch)]) (rest := []) (lenOf pd_0 rfl) rfl (by show 2 * 0 + _ ≤ _; exact Nat.le_of_eq rfl) (hb hby at_42) (fun _ _ => ⟨rfl, e0, (by decide : 0 + 0 ≤ _), (by decide : 0 + 0 ≤ _)⟩)
          dsimp only [Pt.U, Pt.locs, Pt.cells, Pt.slots] at X26 l26 y26 z26 st26 hQ26
          subst l26 y26 z26
          obtain ⟨rfl, Nq26, hh26⟩ := hQ26
          have N26 := Fr.app N0 Nq26
          refine own_go st26 ?_
          have e26 : T26.heap = h0 := hh26
          show own_G p e below (T26.setTop (mkF m 45 #[.val (.int p1), .val (.int p2), .val (.int ch), .val (.int (0 : Int32))] [(.int (own_sp ch))])) _
          refine own_go (fun _ k => XS.iloadN X26.here hx rfl (hb hby at_45) rfl k) ?_
          show own_G p e below (T26.setTop (mkF m 46 #[.val (.int p1), .val (.int p2), .val (.int ch), .val (.int (0 : Int32))] [(.int (0 : Int32)), (.int (own_sp ch))])) _
          refine own_go (fun _ k => XS.icmpNo X26.here hx rfl (hb hby at_46) rfl (teq (by rw [own_sp_val]; simp [hc3_7, hc20_19, hc26_23, hc32_24] : (own_sp ch) = (0 : Int32))).2 k) ?_
          show own_G p e below (T26.setTop (mkF m 49 #[.val (.int p1), .val (.int p2), .val (.int ch), .val (.int (0 : Int32))] [])) _
          refine own_go (fun _ k => XS.iconst X26.here hx rfl (hb hby at_49) k) ?_
          show own_G p e below (T26.setTop (mkF m 50 #[.val (.int p1), .val (.int p2), .val (.int ch), .val (.int (0 : Int32))] [(.int (1 : Int32))])) _
          refine own_go (fun _ k => XS.goto X26.here hx rfl (pc0 := 50) (pc' := 54) rfl (hb hby at_50) (by decide) (by decide) k) ?_
          show own_G p e below (T26.setTop (mkF m 54 #[.val (.int p1), .val (.int p2), .val (.int ch), .val (.int (0 : Int32))] [(.int (1 : Int32))])) _
          refine own_ret X26 hlk (v := some (.int (1 : Int32))) (fun h => by rw [hret] at h; cases h) (Q0 Z p1 p2 h0 n0) (own_retI X26 hx (t := .boolean) hret rfl (Or.inl ⟨rfl, by simp, _, rfl⟩) (hb hby at_54)) (by decide) (by decide) ?_
          show Q0 Z p1 p2 h0 n0 _ T26.heap _
          rw [e26]
          exact ⟨rfl, N26⟩
      · refine own_go (fun _ k => XS.icmpYes X0.here hx rfl (pc0 := 26) (pc' := 35) rfl (hb hby at_26) rfl (flt hc26_23).2.2.2 (by decide) (by decide) k) ?_
        show own_G p e below (s₁.setTop (mkF m 35 #[.val (.int p1), .val (.int p2), .val (.int ch), .unset] [])) _
        refine own_go (fun _ k => XS.iconst X0.here hx rfl (hb hby at_35) k) ?_
        show own_G p e below (s₁.setTop (mkF m 36 #[.val (.int p1), .val (.int p2), .val (.int ch), .unset] [(.int (1 : Int32))])) _
        refine own_go (fun _ k => XS.goto X0.here hx rfl (pc0 := 36) (pc' := 40) rfl (hb hby at_36) (by decide) (by decide) k) ?_
        show own_G p e below (s₁.setTop (mkF m 40 #[.val (.int p1), .val (.int p2), .val (.int ch), .unset] [(.int (1 : Int32))])) _
        refine own_go (fun _ k => XS.istoreN X0.here hx rfl (hb hby at_40) rfl (l' := #[.val (.int p1), .val (.int p2), .val (.int ch), .val (.int (1 : Int32))]) rfl k) ?_
        show own_G p e below (s₁.setTop (mkF m 41 #[.val (.int p1), .val (.int p2), .val (.int ch), .val (.int (1 : Int32))] [])) _
        refine own_go (fun _ k => XS.iloadN X0.here hx rfl (hb hby at_41) rfl k) ?_
        show own_G p e below (s₁.setTop (mkF m 42 #[.val (.int p1), .val (.int p2), .val (.int ch), .val (.int (1 : Int32))] [(.int ch)])) _
        obtain ⟨_, _, ⟨T27, L27, k27, n27⟩, -, X27, ⟨Lc27, hQ27, l27, y27, z27⟩, st27⟩ := Jvm.LawKit.callS X0 hx (y := (⟨"com/example/resolvent/resolvent/SqlLexer", "isSpace", "(C)Z"⟩ : MethodName)) hown (mvT hZ (hw _ (List.mem_of_getElem? (i := 0) rfl))) (mvT hZ (hw _ (List.mem_of_getElem? (i := 1) rfl))) (mvT hZ (hw _ (List.mem_of_getElem? (i := 2) rfl))) (mvT hZ (hw _ (List.mem_of_getElem? (i := 3) rfl))) (by decide) (backOf (W := 0) (rm1 l Z a0 hw [] ch h0 n0 Z0 ) hZ (hw _ (List.mem_of_getElem? (i := 3) rfl)) (hw _ (List.mem_of_getElem? (i := 2) rfl)) (by decide) (by decide)) (g := (mkF m 42 #[.val (.int p1), .val (.int p2), .val (.int ch), .val (.int (1 : Int32))] [(.int ch)])) rfl (by rw [hml]; rfl) (argsL := [(.int ch)]) (rest := []) (lenOf pd_0 rfl) rfl (by show 2 * 0 + _ ≤ _; exact Nat.le_of_eq rfl) (hb hby at_42) (fun _ _ => ⟨rfl, e0, (by decide : 0 + 0 ≤ _), (by decide : 0 + 0 ≤ _)⟩)
        dsimp only [Pt.U, Pt.locs, Pt.cells, Pt.slots] at X27 l27 y27 z27 st27 hQ27
        subst l27 y27 z27
        obtain ⟨rfl, Nq27, hh27⟩ := hQ27
        have N27 := Fr.app N0 Nq27
        refine own_go st27 ?_
        have e27 : T27.heap = h0 := hh27
        show own_G p e below (T27.setTop (mkF m 45 #[.val (.int p1), .val (.int p2), .val (.int ch), .val (.int (1 : Int32))] [(.int (own_sp ch))])) _
        refine own_go (fun _ k => XS.iloadN X27.here hx rfl (hb hby at_45) rfl k) ?_
        show own_G p e below (T27.setTop (mkF m 46 #[.val (.int p1), .val (.int p2), .val (.int ch), .val (.int (1 : Int32))] [(.int (1 : Int32)), (.int (own_sp ch))])) _
        refine own_go (fun _ k => XS.icmpNo X27.here hx rfl (hb hby at_46) rfl (teq (by rw [own_sp_val]; simp [hc3_7, hc20_19, hc26_23] : (own_sp ch) = (1 : Int32))).2 k) ?_
        show own_G p e below (T27.setTop (mkF m 49 #[.val (.int p1), .val (.int p2), .val (.int ch), .val (.int (1 : Int32))] [])) _
        refine own_go (fun _ k => XS.iconst X27.here hx rfl (hb hby at_49) k) ?_
        show own_G p e below (T27.setTop (mkF m 50 #[.val (.int p1), .val (.int p2), .val (.int ch), .val (.int (1 : Int32))] [(.int (1 : Int32))])) _
        refine own_go (fun _ k => XS.goto X27.here hx rfl (pc0 := 50) (pc' := 54) rfl (hb hby at_50) (by decide) (by decide) k) ?_
        show own_G p e below (T27.setTop (mkF m 54 #[.val (.int p1), .val (.int p2), .val (.int ch), .val (.int (1 : Int32))] [(.int (1 : Int32))])) _
        refine own_ret X27 hlk (v := some (.int (1 : Int32))) (fun h => by rw [hret] at h; cases h) (Q0 Z p1 p2 h0 n0) (own_retI X27 hx (t := .boolean) hret rfl (Or.inl ⟨rfl, by simp, _, rfl⟩) (hb hby at_54)) (by decide) (by decide) ?_
        show Q0 Z p1 p2 h0 n0 _ T27.heap _
        rw [e27]
        exact ⟨rfl, N27⟩
set_option maxRecDepth 65536 in
set_option maxHeartbeats 40000000 in
theorem comes_1 {Post : Tables → Env → Array Value → State → Outcome → State → Prop} (hpost : ∀ tb e args s v u, (limb_1_1.after args s (.returned v) u = true ∧ limb_1_2.after args s (.returned v) u = true ∧ True) → FrameEnd s (.returned v) u (Jvm.fieldLocs frame_1_writes args s ++ Jvm.arrayLocs frame_1_arrays args s ++ Jvm.staticLocs frame_1_statics s) 0 0 → Post tb e args s (.returned v) u) :
    ArmFor flags0 classFile x code maxLocals ret World_1 tables_1 room_1 Calls_1 rest_1 Pre_1 Post := by
  intro l hfl _ _ p e ha hc hk s m args below hf hA hF happ hP
  obtain ⟨hcalls, hrest, hpre⟩ := hP
  obtain ⟨-, -, -, hnamed, -, -, -, hat⟩ := (Spec.applies_iff hf).mp happ
  obtain ⟨hg, hn⟩ := and_e (Cond.before_iff.mp (show (Jvm.Cond.and given_1 narrow_1).before args s = true from hpre))
  obtain ⟨g1, g2⟩ := and_e hg
  obtain ⟨g3, g4⟩ := and_e g2
  obtain ⟨w0, w1, rfl⟩ : ∃ w0 w1 : Value, args = #[w0, w1] := by
    have hs : args.size = 2 := by simpa [Cond.value, given_1] using g1
    obtain ⟨L⟩ := args
    match L, hs with
    | [w0, w1], _ => exact ⟨w0, w1, rfl⟩
  have hw := fun d (hd : d ∈ tables_1) => atoms_spec (ws := Jvm.Cond.code x code maxLocals ret :: tables_1) hat d (List.mem_cons_of_mem _ hd)
  obtain ⟨i0, ei0⟩ := is_v g3
  obtain rfl : w0 = (.int i0) := Option.some.inj ei0
  obtain ⟨i1, ei1⟩ := is_v g4
  obtain rfl : w1 = (.int i1) := Option.some.inj ei1
  obtain ⟨n, o, h1, h2, h3, _, L, rfl, ⟨rfl, N⟩, hq⟩ := rm0 l s _ hw tables_1 i0 i1 s.heap s.heap.size (Nat.le_refl _) p e ha hc hk s m _ below hf ((Spec.applies_iff_loose hf).mp happ).1 ⟨rfl, State.Warmed39.refl s, rfl⟩ trivial
  refine ⟨n, _, h1, h2, h3, hpost _ _ _ _ _ _ ⟨Cond.after_iff.mpr rfl, Cond.after_iff.mpr (eq_i res_at (Term.int_eval (1)) rfl), trivial⟩ ⟨hq.1, hq.2.1, (hq.2.2.sift fun y hy => Or.inr (N y hy)).mono (by decide) (by decide)⟩⟩
theorem main_1_1 : Claimed_1_1 := comes_1 fun _ _ _ _ _ _ h hF => ⟨h.1, hF⟩
theorem main_1_2 : Claimed_1_2 := comes_1 fun _ _ _ _ _ _ h hF => ⟨h.2.1, hF⟩
end Jvm.Pilot.@@N@@
namespace Jvm.Pilot.@@N@@
open Jvm Jvm.ClassFile Sem Op Lib Jvm.Free Jvm.Stand Jvm.Pilot.@@N@@.Jvm.D
/-! MADE BY PROGRAM (witnessworld.py) out of the Statement's table words and the real class files: 9 classes; the members and pool entries that the words name. The judged class is class 1, her method 1. -/
namespace start1
open Jvm.ClassFile
def u (s : String) : CpInfo := .utf8 (stringToUtf16 s)
/-- a pool by its gaps: so many unusable entries, then the entry; so many at the end -/
def gap : Nat → List CpInfo → List CpInfo
  | 0, r => r
  | n + 1, r => .unusable :: gap n r
def poolList (es : List (Nat × CpInfo)) (last : Nat) : List CpInfo := es.foldr (fun e r => gap e.1 (e.2 :: r)) (gap last [])
def pool (es : List (Nat × CpInfo)) (last : Nat) : Array CpInfo := ⟨poolList es last⟩
def fileOf (pool : Array CpInfo) (this : Nat) (attrs : Array Attribute := #[]) (ms : Array MethodInfo := #[]) (fl : Nat := 33) (sup : Nat := 0) (ifs : Array Nat := #[]) (fds : Array FieldInfo := #[]) : ClassFile where
  minorVersion := 0
  majorVersion := 65
  constantPool := pool
  accessFlags := fl
  thisClass := this
  superClass := sup
  interfaces := ifs
  fields := fds
  methods := ms
  attributes := attrs
def plain (name : String) (sup : Option ClassId) : Class where
  name := name
  kind := .ordinary
  loader := none
  accessFlags := 33
  super := sup
  interfaces := #[]
  cf := none
  fields := #[]
  methods := #[]
  instanceTypes := #[]
  staticTypes := #[]
  resolved := #[]
  callSites := []
  init := .initialized
  statics := none
  mirror := none

def pool0 : Array CpInfo := pool [(5, u "<init>"), (0, u "()V"), (1, .class_ 10), (1, u "java/lang/Object")] 113

def k0m0 : Method := { name := "<init>", desc := "()V", sig := { parameters := [], returnType := none }, accessFlags := 1, code := none }
/-- java/lang/Object -/
def k0 : Class := { plain "java/lang/Object" none with
  accessFlags := 33
  interfaces := #[]
  cf := some (fileOf pool0 8 #[] #[{ accessFlags := 1, nameIndex := 5, descriptorIndex := 6, attributes := #[] }] 33 0 #[] #[])
  fields := #[]
  methods := #[k0m0]
  instanceTypes := #[]
  staticTypes := #[]
  resolved := Array.replicate 124 none
  statics := none }

def pool1 : Array CpInfo := pool [(2, .class_ 4), (1, u "java/lang/Object"), (0, u "<init>"), (0, u "()V"), (0, .methodref 8 9), (0, .class_ 10), (0, .nameAndType 11 12), (0, u "com/example/resolvent/resolvent/SqlLexer"), (0, u "isSpace"), (0, u "(C)Z"), (0, .class_ 14), (0, u "com/example/resolvent/resolvent/SqlLexerIsSpacePinLaw"), (2, u "law"), (0, u "(II)Z")] 3

def k1m0 : Method := { name := "<init>", desc := "()V", sig := { parameters := [], returnType := none }, accessFlags := 1, code := none }
def k1c1 : Code := { maxStack := 2, maxLocals := 4, code := code, exceptionTable := #[], attributes := #[] }
def k1m1 : Method := { name := "law", desc := "(II)Z", sig := { parameters := [.int, .int], returnType := some .boolean }, accessFlags := 9, code := some k1c1 }
/-- com/example/resolvent/resolvent/SqlLexerIsSpacePinLaw -/
def k1 : Class := { plain "com/example/resolvent/resolvent/SqlLexerIsSpacePinLaw" (some 0) with
  accessFlags := 49
  interfaces := #[]
  cf := some (fileOf pool1 13 #[] #[{ accessFlags := 1, nameIndex := 5, descriptorIndex := 6, attributes := #[] }, { accessFlags := 9, nameIndex := 17, descriptorIndex := 18, attributes := #[] }] 49 2 #[] #[])
  fields := #[]
  methods := #[k1m0, k1m1]
  instanceTypes := #[]
  staticTypes := #[]
  resolved := Array.replicate 22 none
  statics := none }

def pool2 : Array CpInfo := pool [(2, .class_ 4), (1, u "java/lang/Object"), (2, .class_ 8), (0, u "com/example/resolvent/resolvent/SqlLexer"), (0, .class_ 10), (0, u "com/example/resolvent/resolvent/SqlLexer$Kind"), (2, u "kinds"), (0, u "[Lcom/example/resolvent/resolvent/SqlLexer$Kind;"), (2, u "starts"), (0, u "[I"), (2, u "ends"), (2, u "text"), (0, u "Ljava/lang/String;"), (2, u "check"), (0, u "Ljava/lang/Runnable;"), (13, u "Lcom/example/resolvent/resolvent/SqlLexer$Kind;"), (17, u "previousEnd"), (0, u "I"), (2, u "previousKind"), (2, u "first"), (2, u "held"), (14, u "position"), (13, u "isSpace"), (0, u "(C)Z"), (3, .class_ 107), (1, u "com/example/resolvent/resolvent/SqlLexer$Delimited"), (100, u "LOOKAHEAD")] 24

def k2c0 : Code := { maxStack := 2, maxLocals := 1, code := prog_150_method_23_code, exceptionTable := #[], attributes := #[] }
def k2m0 : Method := { name := "isSpace", desc := "(C)Z", sig := { parameters := [.char], returnType := some .boolean }, accessFlags := 8, code := some k2c0 }
/-- com/example/resolvent/resolvent/SqlLexer -/
def k2 : Class := { plain "com/example/resolvent/resolvent/SqlLexer" (some 0) with
  accessFlags := 48
  interfaces := #[]
  cf := some (fileOf pool2 7 #[.nestMembers #[105, 9]] #[{ accessFlags := 8, nameIndex := 100, descriptorIndex := 101, attributes := #[] }] 48 2 #[] #[{ accessFlags := 26, nameIndex := 208, descriptorIndex := 62, attributes := #[] }, { accessFlags := 18, nameIndex := 24, descriptorIndex := 25, attributes := #[] }, { accessFlags := 18, nameIndex := 28, descriptorIndex := 29, attributes := #[] }, { accessFlags := 2, nameIndex := 86, descriptorIndex := 62, attributes := #[] }, { accessFlags := 18, nameIndex := 13, descriptorIndex := 14, attributes := #[] }, { accessFlags := 18, nameIndex := 17, descriptorIndex := 18, attributes := #[] }, { accessFlags := 18, nameIndex := 21, descriptorIndex := 18, attributes := #[] }, { accessFlags := 2, nameIndex := 68, descriptorIndex := 62, attributes := #[] }, { accessFlags := 2, nameIndex := 71, descriptorIndex := 62, attributes := #[] }, { accessFlags := 2, nameIndex := 61, descriptorIndex := 62, attributes := #[] }, { accessFlags := 2, nameIndex := 65, descriptorIndex := 43, attributes := #[] }])
  fields := #[{ name := "LOOKAHEAD", type := .int, accessFlags := 26, slot := 0, constantValue := 0 }, { name := "text", type := (.object "java/lang/String"), accessFlags := 18, slot := 0, constantValue := 0 }, { name := "check", type := (.object "java/lang/Runnable"), accessFlags := 18, slot := 1, constantValue := 0 }, { name := "position", type := .int, accessFlags := 2, slot := 2, constantValue := 0 }, { name := "kinds", type := (.array (.object "com/example/resolvent/resolvent/SqlLexer$Kind")), accessFlags := 18, slot := 3, constantValue := 0 }, { name := "starts", type := (.array .int), accessFlags := 18, slot := 4, constantValue := 0 }, { name := "ends", type := (.array .int), accessFlags := 18, slot := 5, constantValue := 0 }, { name := "first", type := .int, accessFlags := 2, slot := 6, constantValue := 0 }, { name := "held", type := .int, accessFlags := 2, slot := 7, constantValue := 0 }, { name := "previousEnd", type := .int, accessFlags := 2, slot := 8, constantValue := 0 }, { name := "previousKind", type := (.object "com/example/resolvent/resolvent/SqlLexer$Kind"), accessFlags := 2, slot := 9, constantValue := 0 }]
  methods := #[k2m0]
  instanceTypes := #[(.object "java/lang/String"), (.object "java/lang/Runnable"), .int, (.array (.object "com/example/resolvent/resolvent/SqlLexer$Kind")), (.array .int), (.array .int), .int, .int, .int, (.object "com/example/resolvent/resolvent/SqlLexer$Kind")]
  staticTypes := #[.int]
  resolved := Array.replicate 233 none
  statics := none }

def pool3 : Array CpInfo := pool [(1, u "java/lang/Cloneable"), (0, .class_ 1), (0, u "java/lang/Object"), (0, .class_ 3)] 3

/-- java/lang/Cloneable -/
def k3 : Class := { plain "java/lang/Cloneable" (some 0) with
  accessFlags := 1537
  interfaces := #[]
  cf := some (fileOf pool3 2 #[] #[] 1537 4 #[] #[])
  fields := #[]
  methods := #[]
  instanceTypes := #[]
  staticTypes := #[]
  resolved := Array.replicate 8 none
  statics := none }

def pool4 : Array CpInfo := pool [(1, u "java/io/Serializable"), (0, .class_ 1), (0, u "java/lang/Object"), (0, .class_ 3)] 3

/-- java/io/Serializable -/
def k4 : Class := { plain "java/io/Serializable" (some 0) with
  accessFlags := 1537
  interfaces := #[]
  cf := some (fileOf pool4 2 #[] #[] 1537 4 #[] #[])
  fields := #[]
  methods := #[]
  instanceTypes := #[]
  staticTypes := #[]
  resolved := Array.replicate 8 none
  statics := none }

/-- the primitive byte -/
def k5 : Class := { plain "byte" none with kind := .primitive 'B', accessFlags := 0x411 }
/-- [B -/
def k6 : Class := { plain "[B" (some 0) with kind := .array 5 .byte, interfaces := #[3, 4], accessFlags := 1041 }

/-- the primitive int -/
def k7 : Class := { plain "int" none with kind := .primitive 'I', accessFlags := 0x411 }
/-- [I -/
def k8 : Class := { plain "[I" (some 0) with kind := .array 7 .int, interfaces := #[3, 4], accessFlags := 1041 }

def heap : Heap := #[]
def classes : Array Class := #[k0, k1, k2, k3, k4, k5, k6, k7, k8]
def interned : List (Array UInt16 × Addr) := []
def slotsUsed : Nat := 0
def theMethod : MethodId := ⟨1, 1⟩
def args0 : Array Value := #[.int 5, .int 5]
def aboutOver (below : List Frame) : State where
  vm := { classes := classes, interned := interned.toArray }
  heap := heap
  slotsUsed := slotsUsed
  threads := #[{ frames := .invoking theMethod args0 :: below }]
def below0 : List Frame := [.native { method := ⟨0, 0⟩, args := #[] }]
def about1 : State := aboutOver below0
def p0 : Program := .bare "" "" ""
def e0 : Env := launch0.env 0 0 0
theorem w_frames : about1.frames = Frame.invoking theMethod args0 :: below0 := rfl
set_option maxRecDepth 65536 in
theorem w_args : argsFit about1.vm theMethod args0 = true := by decide +kernel
set_option maxRecDepth 65536 in
theorem w_heap : heapFits about1 = true := by decide +kernel
set_option maxRecDepth 65536 in
theorem w_runnable : about1.curStatus? = some .runnable := by decide +kernel
set_option maxRecDepth 65536 in
theorem w_alone : about1.alone = true := by decide +kernel
set_option maxRecDepth 65536 in
theorem w_named : about1.methodNamed? x = some theMethod := by decide +kernel
set_option maxRecDepth 65536 in
theorem w_hears : about1.hears theMethod below0 = true := by decide +kernel
set_option maxRecDepth 65536 in
theorem w_ripe : about1.ripe theMethod args0 below0 = true := by decide +kernel
theorem w_running : about1.status = .running := rfl
set_option maxRecDepth 65536 in
theorem w_room : about1.hasRoom e0.platform room_1 = true :=
  launch0.hasRoom_least _ room_1 (by decide +kernel) (by decide +kernel) (by decide +kernel) (by decide +kernel) (by decide +kernel) (by decide +kernel)
theorem allAtoms_all (ts : List Jvm.Cond) (a : Array Jvm.Value) (st : Jvm.State) : (allAtoms ts).before a st = ts.all (fun c => c.before a st) := by
  induction ts with
  | nil => rfl
  | cons c t ih =>
    show (Jvm.Cond.and c (allAtoms t)).before a st = _
    rw [Jvm.Cond.before_and, ih, List.all_cons]
def words1 : List Jvm.Cond := Jvm.Cond.code x code maxLocals ret :: tables_1
/-- a 'code' word, met by the world's own term for the bytes: nothing is compared byte by byte -/
theorem code_word {y : MethodName} {bytes : ByteArray} {mx : Nat} {rt : Option FieldType} {a : Array Value} {s : State} {m : MethodId} {meth : Method} {c : Code} (h1 : s.methodNamed? y = some m) (h2 : s.vm.method? m = some meth) (h3 : meth.code = some c) (h4 : c.code = bytes)
    (h5 : (c.maxLocals == mx && c.exceptionTable.isEmpty && decide (c.maxStack ≤ mostOperands) && decide (meth.sig.returnType = rt) && !meth.locks && decide (parseMethodDescriptor y.desc = some meth.sig)) = true) : (Jvm.Cond.code y bytes mx rt).before a s = true := by
  simp only [Bool.and_eq_true, beq_iff_eq, Bool.not_eq_true', decide_eq_true_eq] at h5
  obtain ⟨⟨⟨⟨⟨g1, g2⟩, g3⟩, g4⟩, g5⟩, g6⟩ := h5
  simp [Cond.before, Cond.holds, Cond.value, h1, h2, h3, h4, g1, g2, g3, g4, g5, g6]
def isCode : Jvm.Cond → Bool
  | .code _ _ _ _ => true
  | _ => false
theorem all_split {L : List Jvm.Cond} {P : Jvm.Cond → Bool} (h1 : L.all (fun c => isCode c || P c) = true) (h2 : ∀ c ∈ L.filter isCode, P c = true) : L.all P = true := by
  refine List.all_eq_true.mpr fun c hc => ?_
  have h := List.all_eq_true.mp h1 c hc
  rcases Bool.eq_false_or_eq_true (isCode c) with hi | hi
  · exact h2 c (List.mem_filter.mpr ⟨hc, hi⟩)
  · simpa [hi] using h
set_option maxRecDepth 65536 in
theorem w_c0 : (Jvm.Cond.code x code maxLocals ret).before args0 about1 = true := code_word (m := ⟨1, 1⟩) (meth := k1m1) (c := k1c1) (by decide +kernel) rfl rfl rfl (by decide +kernel)
set_option maxRecDepth 65536 in
theorem w_c1 : (Jvm.Cond.code ({ cls := "com/example/resolvent/resolvent/SqlLexer", name := "isSpace", desc := "(C)Z" } : Jvm.MethodName) prog_150_method_23_code (1 : Nat) (Option.some Jvm.ClassFile.FieldType.boolean)).before args0 about1 = true := code_word (m := ⟨2, 0⟩) (meth := k2m0) (c := k2c0) (by decide +kernel) rfl rfl rfl (by decide +kernel)
def codes1 : List Jvm.Cond := [Jvm.Cond.code x code maxLocals ret, Jvm.Cond.code ({ cls := "com/example/resolvent/resolvent/SqlLexer", name := "isSpace", desc := "(C)Z" } : Jvm.MethodName) prog_150_method_23_code (1 : Nat) (Option.some Jvm.ClassFile.FieldType.boolean)]
set_option maxRecDepth 65536 in
theorem codes_eq : words1.filter isCode = codes1 := rfl
theorem w_codes : ∀ c ∈ words1.filter isCode, c.before args0 about1 = true := by
  rw [codes_eq]
  intro c hc
  simp only [codes1, List.mem_cons, List.not_mem_nil, or_false] at hc
  rcases hc with rfl | rfl
  · exact w_c0
  · exact w_c1
set_option maxRecDepth 65536 in
theorem w_t1 : words1.all (fun c => isCode c || c.before args0 about1) = true := by decide +kernel
theorem w_tables : (allAtoms (Jvm.Cond.code x code maxLocals ret :: tables_1)).before args0 about1 = true := by
  rw [allAtoms_all]
  show words1.all (fun c => c.before args0 about1) = true
  refine all_split ?_ w_codes
  rw [w_t1]
set_option maxRecDepth 65536 in
theorem w_case : (Jvm.Cond.and given_1 narrow_1).before args0 about1 = true := by decide +kernel
theorem w_applies : (headSpec (Jvm.Cond.code x code maxLocals ret :: tables_1) room_1).applies x e0.platform about1 = true :=
  (Spec.applies_iff w_frames).mpr ⟨w_running, w_runnable, w_alone, w_named, w_hears, w_ripe, w_room, w_tables⟩
theorem atStart : AtStart classFile x code maxLocals ret World_1 tables_1 room_1 Calls_1 rest_1 Pre_1 launch0 p0 e0 about1 theMethod args0 below0 :=
  ⟨lists_1, trivial, launch0.admits_env _ _ _, launch0.least_env, fairChoices_fair.cas, fairChoices_fair.clock, w_frames, w_args, w_heap, w_applies, trivial, trivial, w_case⟩
end start1
theorem witness_1 : WitnessClaimed_1 := ⟨start1.p0, start1.e0, start1.about1, start1.theMethod, start1.args0, start1.below0, start1.atStart⟩
end Jvm.Pilot.@@N@@
