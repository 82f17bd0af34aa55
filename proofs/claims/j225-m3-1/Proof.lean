import JvmDerived
import JvmDerived.Pilot.@@N@@Statement
import JvmDerived.Pilot.@@N@@Code
set_option linter.unusedVariables false
set_option linter.unusedSimpArgs false
namespace Jvm.Pilot.@@N@@
open Jvm Jvm.ClassFile Sem Op Lib Jvm.Free Jvm.Stand Jvm.LawKit Jvm.RoadKit Bundle Jvm.Pilot.@@N@@.Jvm.D
/-! the goal of a walk, read forwards: from the state S the run comes to an end that P likes -/
def own_G (p : Program) (e : Env) (below : List Frame) (S : State) (P : State → Outcome → Prop) : Prop := ∃ s₂ o, Steps p.tables e below S s₂ ∧ s₂.status = .running ∧ Ended s₂ below o ∧ P s₂ o
theorem own_go {p : Program} {e : Env} {below : List Frame} {A B : State} {P : State → Outcome → Prop} (h : ∀ t, Steps p.tables e below A t → Steps p.tables e below B t) (g : own_G p e below A P) : own_G p e below B P := by
  obtain ⟨s₂, o, h1, h2⟩ := g
  exact ⟨s₂, o, h _ h1, h2⟩
theorem own_ret {p : Program} {l : Launch} {e : Env} {R : Room} {s : State} {m : MethodId} {args : Array Value} {below : List Frame} {meth : Method} {c : Code} {T : State} {locs : List Loc} {cells slots : Nat} (X : Stand p l e R s m args below meth c T locs cells slots) (hlocks : meth.locks = false) {v : Option Value} (hv : meth.sig.returnType = none → v = none) {g : JFrame} (Q : Option Value → Heap → List Loc → Prop) {C S : Nat}
    (st : ∀ fs : List Frame, (∀ (f : JFrame) (acts : List Action), f.method = m → f.locked = none → f.entered = [] → (doReturn e (T.setTop f) acts v).1 = T.setFrames fs) → Steps p.tables e below (T.setTop g) (T.setFrames fs))
    (hc : cells ≤ C) (hs : slots ≤ S) (hQ : Q v T.heap locs) : own_G p e below (T.setTop g) (fun s₂ o => ∃ v L, o = .returned v ∧ Q v s₂.heap L ∧ FrameEnd s o s₂ L C S) := by
  obtain ⟨fs, hr, hrun, hended, hW, hsame⟩ := X.leave (v := v) hv hlocks
  exact ⟨_, _, st fs hr, hrun, hended, _, _, rfl, hQ, ⟨_, rfl⟩, hW, hsame.mono hc hs⟩
theorem own_retI {p : Program} {l : Launch} {e : Env} {R : Room} {s : State} {m : MethodId} {args : Array Value} {below : List Frame} {meth : Method} {c : Code} {T : State} {locs : List Loc} {cells slots : Nat} (X : Stand p l e R s m args below meth c T locs cells slots) (hx : p.tables.exec = Jvm.exec) {pc : Nat} {Ls : Array Slot} {w : Value} {t : FieldType} {i : Instr} {rest : List Value} (hret : meth.sig.returnType = some t) (hn : narrow t w = w)
    (hi : (i = .ireturn ∧ (t = .int ∨ t = .boolean ∨ t = .byte ∨ t = .char ∨ t = .short) ∧ ∃ z, w = .int z) ∨ (i = .lreturn ∧ t = .long ∧ ∃ z, w = .long z) ∨ (i = .dreturn ∧ t = .double ∧ ∃ z, w = .double z) ∨ (i = .freturn ∧ t = .float ∧ ∃ z, w = .float z) ∨ (i = .areturn ∧ t.isReference = true ∧ w.isRef = true))
    (hd : decode c.code pc = .ok (i, 1)) (fs : List Frame) (hl : ∀ (f : JFrame) (acts : List Action), f.method = m → f.locked = none → f.entered = [] → (doReturn e (T.setTop f) acts (some w)).1 = T.setFrames fs) :
    Steps p.tables e below (T.setTop (mkF m pc Ls (w :: rest))) (T.setFrames fs) := retOut X hx hret hn hi hd hl
theorem own_retV {p : Program} {l : Launch} {e : Env} {R : Room} {s : State} {m : MethodId} {args : Array Value} {below : List Frame} {meth : Method} {c : Code} {T : State} {locs : List Loc} {cells slots : Nat} (X : Stand p l e R s m args below meth c T locs cells slots) (hx : p.tables.exec = Jvm.exec) {pc : Nat} {Ls : Array Slot} (hret : meth.sig.returnType = none)
    (hd : decode c.code pc = .ok (.return_, 1)) (fs : List Frame) (hl : ∀ (f : JFrame) (acts : List Action), f.method = m → f.locked = none → f.entered = [] → (doReturn e (T.setTop f) acts none).1 = T.setFrames fs) :
    Steps p.tables e below (T.setTop (mkF m pc Ls [])) (T.setFrames fs) := X.returnOut hx hret hd hl
def own_bo (r : Int32) : Int32 := if r = 5 then 1 else if r = 6 then 2 else if r = 7 then 4 else -1
theorem own_f (n : Int32) (K : Int64) (k : Int) (hK : K.toInt = k) : n.toInt64 < K ↔ n.toInt < k := by
  rw [Int64.lt_iff_toInt_lt, Int32.toInt_toInt64, hK]
theorem own_f1 (n : Int32) (h : ¬ (255 : Int32) < n) : n.toInt64 < ((1 : Int64) <<< ((8 : Int32) &&& 0x3f).toInt64) := by
  rw [Int32.lt_iff_toInt_lt, show (255 : Int32).toInt = 255 from rfl] at h
  exact (own_f n _ 256 (by decide)).mpr (by omega)
theorem own_f2 (n : Int32) (h : ¬ (65535 : Int32) < n) : n.toInt64 < ((1 : Int64) <<< ((16 : Int32) &&& 0x3f).toInt64) := by
  rw [Int32.lt_iff_toInt_lt, show (65535 : Int32).toInt = 65535 from rfl] at h
  exact (own_f n _ 65536 (by decide)).mpr (by omega)
theorem own_f3 (n : Int32) : n.toInt64 < ((1 : Int64) <<< ((32 : Int32) &&& 0x3f).toInt64) := by
  have := n.toInt_lt
  exact (own_f n _ 4294967296 (by decide)).mpr (by omega)
theorem own_m1 (n : Int32) (h : (255 : Int32) < n) : ¬ n.toInt64 < ((1 : Int64) <<< ((8 : Int32) &&& 0x3f).toInt64) := by
  rw [Int32.lt_iff_toInt_lt, show (255 : Int32).toInt = 255 from rfl] at h
  rw [own_f n _ 256 (by decide)]
  omega
theorem own_m2 (n : Int32) (h : (65535 : Int32) < n) : ¬ n.toInt64 < ((1 : Int64) <<< ((16 : Int32) &&& 0x3f).toInt64) := by
  rw [Int32.lt_iff_toInt_lt, show (65535 : Int32).toInt = 65535 from rfl] at h
  rw [own_f n _ 65536 (by decide)]
  omega
theorem own_nn31 (x : Int32) : ¬ (x &&& (2147483647 : Int32)) < (0 : Int32) := by
  rw [Int32.lt_iff_toInt_lt, c_mask x (2147483647 : Int32) 31 (by decide) (by decide), show (0 : Int32).toInt = 0 from rfl]
  omega
theorem own_nn9 (x : Int32) : ¬ (x &&& (511 : Int32)) < (0 : Int32) := by
  rw [Int32.lt_iff_toInt_lt, c_mask x (511 : Int32) 9 (by decide) (by decide), show (0 : Int32).toInt = 0 from rfl]
  omega
theorem own_nn17 (x : Int32) : ¬ (x &&& (131071 : Int32)) < (0 : Int32) := by
  rw [Int32.lt_iff_toInt_lt, c_mask x (131071 : Int32) 17 (by decide) (by decide), show (0 : Int32).toInt = 0 from rfl]
  omega
theorem d1_0 : decode prog_20_method_7_code 0 = .ok (.iload_n 0, 1) := by decide +kernel
theorem d1_1 : decode prog_20_method_7_code 1 = .ok (.ifCond .ne 8, 3) := by decide +kernel
theorem d1_4 : decode prog_20_method_7_code 4 = .ok (.iconst 0, 1) := by decide +kernel
theorem d1_5 : decode prog_20_method_7_code 5 = .ok (.istore_n 1, 1) := by decide +kernel
theorem d1_6 : decode prog_20_method_7_code 6 = .ok (.goto 30, 3) := by decide +kernel
theorem d1_9 : decode prog_20_method_7_code 9 = .ok (.iload_n 0, 1) := by decide +kernel
theorem d1_10 : decode prog_20_method_7_code 10 = .ok (.sipush 255, 3) := by decide +kernel
theorem d1_13 : decode prog_20_method_7_code 13 = .ok (.if_icmp .gt 8, 3) := by decide +kernel
theorem d1_16 : decode prog_20_method_7_code 16 = .ok (.iconst 5, 1) := by decide +kernel
theorem d1_17 : decode prog_20_method_7_code 17 = .ok (.istore_n 1, 1) := by decide +kernel
theorem d1_18 : decode prog_20_method_7_code 18 = .ok (.goto 18, 3) := by decide +kernel
theorem d1_21 : decode prog_20_method_7_code 21 = .ok (.iload_n 0, 1) := by decide +kernel
theorem d1_22 : decode prog_20_method_7_code 22 = .ok (.ldc 19, 2) := by decide +kernel
theorem d1_24 : decode prog_20_method_7_code 24 = .ok (.if_icmp .gt 9, 3) := by decide +kernel
theorem d1_27 : decode prog_20_method_7_code 27 = .ok (.bipush 6, 2) := by decide +kernel
theorem d1_29 : decode prog_20_method_7_code 29 = .ok (.istore_n 1, 1) := by decide +kernel
theorem d1_30 : decode prog_20_method_7_code 30 = .ok (.goto 6, 3) := by decide +kernel
theorem d1_33 : decode prog_20_method_7_code 33 = .ok (.bipush 7, 2) := by decide +kernel
theorem d1_35 : decode prog_20_method_7_code 35 = .ok (.istore_n 1, 1) := by decide +kernel
theorem d1_36 : decode prog_20_method_7_code 36 = .ok (.iload_n 1, 1) := by decide +kernel
theorem d1_37 : decode prog_20_method_7_code 37 = .ok (.ireturn, 1) := by decide +kernel
theorem d2_0 : decode method_3_code 0 = .ok (.iload_n 0, 1) := by decide +kernel
theorem d2_1 : decode method_3_code 1 = .ok (.iconst 5, 1) := by decide +kernel
theorem d2_2 : decode method_3_code 2 = .ok (.if_icmp .ne 5, 3) := by decide +kernel
theorem d2_5 : decode method_3_code 5 = .ok (.iconst 1, 1) := by decide +kernel
theorem d2_6 : decode method_3_code 6 = .ok (.ireturn, 1) := by decide +kernel
theorem d2_7 : decode method_3_code 7 = .ok (.iload_n 0, 1) := by decide +kernel
theorem d2_8 : decode method_3_code 8 = .ok (.bipush 6, 2) := by decide +kernel
theorem d2_10 : decode method_3_code 10 = .ok (.if_icmp .ne 5, 3) := by decide +kernel
theorem d2_13 : decode method_3_code 13 = .ok (.iconst 2, 1) := by decide +kernel
theorem d2_14 : decode method_3_code 14 = .ok (.ireturn, 1) := by decide +kernel
theorem d2_15 : decode method_3_code 15 = .ok (.iload_n 0, 1) := by decide +kernel
theorem d2_16 : decode method_3_code 16 = .ok (.bipush 7, 2) := by decide +kernel
theorem d2_18 : decode method_3_code 18 = .ok (.if_icmp .ne 5, 3) := by decide +kernel
theorem d2_21 : decode method_3_code 21 = .ok (.iconst 4, 1) := by decide +kernel
theorem d2_22 : decode method_3_code 22 = .ok (.ireturn, 1) := by decide +kernel
theorem d2_23 : decode method_3_code 23 = .ok (.iconst (-1), 1) := by decide +kernel
theorem d2_24 : decode method_3_code 24 = .ok (.ireturn, 1) := by decide +kernel
theorem pn_0 : plainName "com/example/tagwire/tagwire/WireLengthTypePinLaw" = true := by first | (simp [plainName, overriddenIn]; done) | decide +kernel
theorem pn_1 : plainName "com/example/tagwire/tagwire/Wire" = true := by first | (simp [plainName, overriddenIn]; done) | decide +kernel
theorem pn_2 : plainName "com/example/tagwire/tagwire/WireLengthTypePinLaw" = true := by first | (simp [plainName, overriddenIn]; done) | decide +kernel
theorem pd_0 : parseMethodDescriptor "(I)I" = some ⟨[.int], some .int⟩ := by decide +kernel
theorem ef_1 (m : MethodId) (p1 : Int32) : entryFrame m #[(.int p1)] 2 = mkF m 0 #[.val (.int p1), .unset] [] := by first | (simp [entryFrame, mkF, argsToLocals, Value.category]; done) | rfl
def Q1 (Z : State) (p1 : Int32) (h0 : Heap) (n0 : Nat) (v : Option Value) (h : Heap) (L : List Loc) : Prop := ∃ r : Int32, v = some (.int r) ∧ Fr n0 L ∧ h = h0 ∧ ((r = 0 ∧ p1 = 0) ∨ (r = 5 ∧ ¬ p1 = 0 ∧ ¬ (255 : Int32) < p1) ∨ (r = 6 ∧ ¬ p1 = 0 ∧ (255 : Int32) < p1 ∧ ¬ (65535 : Int32) < p1) ∨ (r = 7 ∧ ¬ p1 = 0 ∧ (65535 : Int32) < p1))
set_option maxRecDepth 65536 in
set_option maxHeartbeats 40000000 in
theorem rm1 (l : Launch) (Z : State) (a0 : Array Value) (hw : ∀ d ∈ tables_1, d.before a0 Z = true) (ws : List Jvm.Cond) (p1 : Int32) (h0 : Heap) (n0 : Nat) (Z0 : n0 ≤ h0.size)  :
    MetFree l (⟨"com/example/tagwire/tagwire/Wire", "lengthType", "(I)I"⟩ : MethodName) (head1 (Jvm.Cond.code (⟨"com/example/tagwire/tagwire/Wire", "lengthType", "(I)I"⟩ : MethodName) prog_20_method_7_code 2 (some .int) :: ws) ({ frames := 0, cells := 0, slots := 0, locals := 0 } : Room)) (fun a U => a = #[(.int p1)] ∧ Z.Warmed39 U.vm ∧ U.heap = h0) (fun _ _ _ _ _ => True) (fun _ U o U' => ∃ v L, o = .returned v ∧ Q1 Z p1 h0 n0 v U'.heap L ∧ FrameEnd U o U' L ({ frames := 0, cells := 0, slots := 0, locals := 0 } : Room).cells ({ frames := 0, cells := 0, slots := 0, locals := 0 } : Room).slots) := by
  refine MetFree.of_bodySF (plainFor_of_name pn_1) hisR ?_
  intro p e s m args below meth c s₁ Bd hml0 hP hK
  obtain ⟨rfl, hZ, hh⟩ := hP
  have hx := Bd.exec
  have hby := Bd.bytes
  have hml : c.maxLocals = 2 := hml0
  have hown : s.vm.findClass "com/example/tagwire/tagwire/Wire" = some m.cls := findClass_of_methodNamed Bd.named
  have hnm := (name_of_methodNamed Bd.named Bd.method).1
  have hlk := Bd.notSynchronized
  have hret := Bd.returns
  have X0 : Stand p l e ({ frames := 0, cells := 0, slots := 0, locals := 0 } : Room) s m #[(.int p1)] below meth c s₁ [] 0 0 := Stand.of_body Bd
  have e0 : s₁.heap = h0 := by rw [← hh, Bd.state]; rfl
  have N0 := Fr.nil n0
  show own_G p e below (s₁.setTop (entryFrame m #[(.int p1)] 2)) (fun s₂ o => ∃ v L, o = .returned v ∧ Q1 Z p1 h0 n0 v s₂.heap L ∧ FrameEnd s o s₂ L ({ frames := 0, cells := 0, slots := 0, locals := 0 } : Room).cells ({ frames := 0, cells := 0, slots := 0, locals := 0 } : Room).slots)
  refine own_go (fun t k => castTop (ef_1 m p1) k) ?_
  show own_G p e below (s₁.setTop (mkF m 0 #[.val (.int p1), .unset] [])) _
  refine own_go (fun _ k => XS.iloadN X0.here hx rfl (hb hby d1_0) rfl k) ?_
  show own_G p e below (s₁.setTop (mkF m 1 #[.val (.int p1), .unset] [(.int p1)])) _
  by_cases hc1_1 : p1 = (0 : Int32)
  · refine own_go (fun _ k => XS.ifNo X0.here hx rfl (hb hby d1_1) rfl ((if0 _ _).trans (teq hc1_1).2) k) ?_
    show own_G p e below (s₁.setTop (mkF m 4 #[.val (.int p1), .unset] [])) _
    refine own_go (fun _ k => XS.iconst X0.here hx rfl (hb hby d1_4) k) ?_
    show own_G p e below (s₁.setTop (mkF m 5 #[.val (.int p1), .unset] [(.int (0 : Int32))])) _
    refine own_go (fun _ k => XS.istoreN X0.here hx rfl (hb hby d1_5) rfl (l' := #[.val (.int p1), .val (.int (0 : Int32))]) rfl k) ?_
    show own_G p e below (s₁.setTop (mkF m 6 #[.val (.int p1), .val (.int (0 : Int32))] [])) _
    refine own_go (fun _ k => XS.goto X0.here hx rfl (pc0 := 6) (pc' := 36) rfl (hb hby d1_6) (by decide) (by decide) k) ?_
    show own_G p e below (s₁.setTop (mkF m 36 #[.val (.int p1), .val (.int (0 : Int32))] [])) _
    refine own_go (fun _ k => XS.iloadN X0.here hx rfl (hb hby d1_36) rfl k) ?_
    show own_G p e below (s₁.setTop (mkF m 37 #[.val (.int p1), .val (.int (0 : Int32))] [(.int (0 : Int32))])) _
    refine own_ret X0 hlk (v := some (.int (0 : Int32))) (fun h => by rw [hret] at h; cases h) (Q1 Z p1 h0 n0) (own_retI X0 hx (t := .int) hret rfl (Or.inl ⟨rfl, by simp, _, rfl⟩) (hb hby d1_37)) (by decide) (by decide) ?_
    show Q1 Z p1 h0 n0 _ s₁.heap _
    rw [e0]
    exact ⟨_, rfl, N0, rfl, Or.inl (⟨rfl, hc1_1⟩)⟩
  · refine own_go (fun _ k => XS.ifYes X0.here hx rfl (pc0 := 1) (pc' := 9) rfl (hb hby d1_1) rfl ((if0 _ _).trans (feq hc1_1).2) (by decide) (by decide) k) ?_
    show own_G p e below (s₁.setTop (mkF m 9 #[.val (.int p1), .unset] [])) _
    refine own_go (fun _ k => XS.iloadN X0.here hx rfl (hb hby d1_9) rfl k) ?_
    show own_G p e below (s₁.setTop (mkF m 10 #[.val (.int p1), .unset] [(.int p1)])) _
    refine own_go (fun _ k => XS.sipush X0.here hx rfl (hb hby d1_10) k) ?_
    show own_G p e below (s₁.setTop (mkF m 13 #[.val (.int p1), .unset] [(.int (255 : Int32)), (.int p1)])) _
    by_cases hc13_2 : (255 : Int32) < p1
    · refine own_go (fun _ k => XS.icmpYes X0.here hx rfl (pc0 := 13) (pc' := 21) rfl (hb hby d1_13) rfl (tlt hc13_2).2.2.1 (by decide) (by decide) k) ?_
      show own_G p e below (s₁.setTop (mkF m 21 #[.val (.int p1), .unset] [])) _
      refine own_go (fun _ k => XS.iloadN X0.here hx rfl (hb hby d1_21) rfl k) ?_
      show own_G p e below (s₁.setTop (mkF m 22 #[.val (.int p1), .unset] [(.int p1)])) _
      refine own_go (X0.ldcInt hx hown (mvT hZ (hw _ (List.mem_of_getElem? (i := 9) rfl))) (g := (mkF m 22 #[.val (.int p1), .unset] [(.int p1)])) rfl (hb hby d1_22)) ?_
      show own_G p e below (s₁.setTop (mkF m 24 #[.val (.int p1), .unset] [(.int (65535 : Int32)), (.int p1)])) _
      by_cases hc24_3 : (65535 : Int32) < p1
      · refine own_go (fun _ k => XS.icmpYes X0.here hx rfl (pc0 := 24) (pc' := 33) rfl (hb hby d1_24) rfl (tlt hc24_3).2.2.1 (by decide) (by decide) k) ?_
        show own_G p e below (s₁.setTop (mkF m 33 #[.val (.int p1), .unset] [])) _
        refine own_go (fun _ k => XS.bipush X0.here hx rfl (hb hby d1_33) k) ?_
        show own_G p e below (s₁.setTop (mkF m 35 #[.val (.int p1), .unset] [(.int (7 : Int32))])) _
        refine own_go (fun _ k => XS.istoreN X0.here hx rfl (hb hby d1_35) rfl (l' := #[.val (.int p1), .val (.int (7 : Int32))]) rfl k) ?_
        show own_G p e below (s₁.setTop (mkF m 36 #[.val (.int p1), .val (.int (7 : Int32))] [])) _
        refine own_go (fun _ k => XS.iloadN X0.here hx rfl (hb hby d1_36) rfl k) ?_
        show own_G p e below (s₁.setTop (mkF m 37 #[.val (.int p1), .val (.int (7 : Int32))] [(.int (7 : Int32))])) _
        refine own_ret X0 hlk (v := some (.int (7 : Int32))) (fun h => by rw [hret] at h; cases h) (Q1 Z p1 h0 n0) (own_retI X0 hx (t := .int) hret rfl (Or.inl ⟨rfl, by simp, _, rfl⟩) (hb hby d1_37)) (by decide) (by decide) ?_
        show Q1 Z p1 h0 n0 _ s₁.heap _
        rw [e0]
        exact ⟨_, rfl, N0, rfl, Or.inr (Or.inr (Or.inr (⟨rfl, hc1_1, hc24_3⟩)))⟩
      · refine own_go (fun _ k => XS.icmpNo X0.here hx rfl (hb hby d1_24) rfl (flt hc24_3).2.2.1 k) ?_
        show own_G p e below (s₁.setTop (mkF m 27 #[.val (.int p1), .unset] [])) _
        refine own_go (fun _ k => XS.bipush X0.here hx rfl (hb hby d1_27) k) ?_
        show own_G p e below (s₁.setTop (mkF m 29 #[.val (.int p1), .unset] [(.int (6 : Int32))])) _
        refine own_go (fun _ k => XS.istoreN X0.here hx rfl (hb hby d1_29) rfl (l' := #[.val (.int p1), .val (.int (6 : Int32))]) rfl k) ?_
        show own_G p e below (s₁.setTop (mkF m 30 #[.val (.int p1), .val (.int (6 : Int32))] [])) _
        refine own_go (fun _ k => XS.goto X0.here hx rfl (pc0 := 30) (pc' := 36) rfl (hb hby d1_30) (by decide) (by decide) k) ?_
        show own_G p e below (s₁.setTop (mkF m 36 #[.val (.int p1), .val (.int (6 : Int32))] [])) _
        refine own_go (fun _ k => XS.iloadN X0.here hx rfl (hb hby d1_36) rfl k) ?_
        show own_G p e below (s₁.setTop (mkF m 37 #[.val (.int p1), .val (.int (6 : Int32))] [(.int (6 : Int32))])) _
        refine own_ret X0 hlk (v := some (.int (6 : Int32))) (fun h => by rw [hret] at h; cases h) (Q1 Z p1 h0 n0) (own_retI X0 hx (t := .int) hret rfl (Or.inl ⟨rfl, by simp, _, rfl⟩) (hb hby d1_37)) (by decide) (by decide) ?_
        show Q1 Z p1 h0 n0 _ s₁.heap _
        rw [e0]
        exact ⟨_, rfl, N0, rfl, Or.inr (Or.inr (Or.inl (⟨rfl, hc1_1, hc13_2, hc24_3⟩)))⟩
    · refine own_go (fun _ k => XS.icmpNo X0.here hx rfl (hb hby d1_13) rfl (flt hc13_2).2.2.1 k) ?_
      show own_G p e below (s₁.setTop (mkF m 16 #[.val (.int p1), .unset] [])) _
      refine own_go (fun _ k => XS.iconst X0.here hx rfl (hb hby d1_16) k) ?_
      show own_G p e below (s₁.setTop (mkF m 17 #[.val (.int p1), .unset] [(.int (5 : Int32))])) _
      refine own_go (fun _ k => XS.istoreN X0.here hx rfl (hb hby d1_17) rfl (l' := #[.val (.int p1), .val (.int (5 : Int32))]) rfl k) ?_
      show own_G p e below (s₁.setTop (mkF m 18 #[.val (.int p1), .val (.int (5 : Int32))] [])) _
      refine own_go (fun _ k => XS.goto X0.here hx rfl (pc0 := 18) (pc' := 36) rfl (hb hby d1_18) (by decide) (by decide) k) ?_
      show own_G p e below (s₁.setTop (mkF m 36 #[.val (.int p1), .val (.int (5 : Int32))] [])) _
      refine own_go (fun _ k => XS.iloadN X0.here hx rfl (hb hby d1_36) rfl k) ?_
      show own_G p e below (s₁.setTop (mkF m 37 #[.val (.int p1), .val (.int (5 : Int32))] [(.int (5 : Int32))])) _
      refine own_ret X0 hlk (v := some (.int (5 : Int32))) (fun h => by rw [hret] at h; cases h) (Q1 Z p1 h0 n0) (own_retI X0 hx (t := .int) hret rfl (Or.inl ⟨rfl, by simp, _, rfl⟩) (hb hby d1_37)) (by decide) (by decide) ?_
      show Q1 Z p1 h0 n0 _ s₁.heap _
      rw [e0]
      exact ⟨_, rfl, N0, rfl, Or.inr (Or.inl (⟨rfl, hc1_1, hc13_2⟩))⟩
theorem ef_2 (m : MethodId) (p1 : Int32) : entryFrame m #[(.int p1)] 1 = mkF m 0 #[.val (.int p1)] [] := by first | (simp [entryFrame, mkF, argsToLocals, Value.category]; done) | rfl
def Q2 (Z : State) (p1 : Int32) (h0 : Heap) (n0 : Nat) (v : Option Value) (h : Heap) (L : List Loc) : Prop := ∃ r : Int32, v = some (.int r) ∧ Fr n0 L ∧ h = h0 ∧ r = own_bo p1
set_option maxRecDepth 65536 in
set_option maxHeartbeats 40000000 in
theorem rm2 (l : Launch) (Z : State) (a0 : Array Value) (hw : ∀ d ∈ tables_1, d.before a0 Z = true) (ws : List Jvm.Cond) (p1 : Int32) (h0 : Heap) (n0 : Nat) (Z0 : n0 ≤ h0.size)  :
    MetFree l (⟨"com/example/tagwire/tagwire/WireLengthTypePinLaw", "bytesOf", "(I)I"⟩ : MethodName) (head1 (Jvm.Cond.code (⟨"com/example/tagwire/tagwire/WireLengthTypePinLaw", "bytesOf", "(I)I"⟩ : MethodName) method_3_code 1 (some .int) :: ws) ({ frames := 0, cells := 0, slots := 0, locals := 0 } : Room)) (fun a U => a = #[(.int p1)] ∧ Z.Warmed39 U.vm ∧ U.heap = h0) (fun _ _ _ _ _ => True) (fun _ U o U' => ∃ v L, o = .returned v ∧ Q2 Z p1 h0 n0 v U'.heap L ∧ FrameEnd U o U' L ({ frames := 0, cells := 0, slots := 0, locals := 0 } : Room).cells ({ frames := 0, cells := 0, slots := 0, locals := 0 } : Room).slots) := by
  refine MetFree.of_bodySF (plainFor_of_name pn_2) hisR ?_
  intro p e s m args below meth c s₁ Bd hml0 hP hK
  obtain ⟨rfl, hZ, hh⟩ := hP
  have hx := Bd.exec
  have hby := Bd.bytes
  have hml : c.maxLocals = 1 := hml0
  have hown : s.vm.findClass "com/example/tagwire/tagwire/WireLengthTypePinLaw" = some m.cls := findClass_of_methodNamed Bd.named
  have hnm := (name_of_methodNamed Bd.named Bd.method).1
  have hlk := Bd.notSynchronized
  have hret := Bd.returns
  have X0 : Stand p l e ({ frames := 0, cells := 0, slots := 0, locals := 0 } : Room) s m #[(.int p1)] below meth c s₁ [] 0 0 := Stand.of_body Bd
  have e0 : s₁.heap = h0 := by rw [← hh, Bd.state]; rfl
  have N0 := Fr.nil n0
  show own_G p e below (s₁.setTop (entryFrame m #[(.int p1)] 1)) (fun s₂ o => ∃ v L, o = .returned v ∧ Q2 Z p1 h0 n0 v s₂.heap L ∧ FrameEnd s o s₂ L ({ frames := 0, cells := 0, slots := 0, locals := 0 } : Room).cells ({ frames := 0, cells := 0, slots := 0, locals := 0 } : Room).slots)
  refine own_go (fun t k => castTop (ef_2 m p1) k) ?_
  show own_G p e below (s₁.setTop (mkF m 0 #[.val (.int p1)] [])) _
  refine own_go (fun _ k => XS.iloadN X0.here hx rfl (hb hby d2_0) rfl k) ?_
  show own_G p e below (s₁.setTop (mkF m 1 #[.val (.int p1)] [(.int p1)])) _
  refine own_go (fun _ k => XS.iconst X0.here hx rfl (hb hby d2_1) k) ?_
  show own_G p e below (s₁.setTop (mkF m 2 #[.val (.int p1)] [(.int (5 : Int32)), (.int p1)])) _
  by_cases hc2_4 : p1 = (5 : Int32)
  · refine own_go (fun _ k => XS.icmpNo X0.here hx rfl (hb hby d2_2) rfl (teq hc2_4).2 k) ?_
    show own_G p e below (s₁.setTop (mkF m 5 #[.val (.int p1)] [])) _
    refine own_go (fun _ k => XS.iconst X0.here hx rfl (hb hby d2_5) k) ?_
    show own_G p e below (s₁.setTop (mkF m 6 #[.val (.int p1)] [(.int (1 : Int32))])) _
    refine own_ret X0 hlk (v := some (.int (1 : Int32))) (fun h => by rw [hret] at h; cases h) (Q2 Z p1 h0 n0) (own_retI X0 hx (t := .int) hret rfl (Or.inl ⟨rfl, by simp, _, rfl⟩) (hb hby d2_6)) (by decide) (by decide) ?_
    show Q2 Z p1 h0 n0 _ s₁.heap _
    rw [e0]
    exact ⟨_, rfl, N0, rfl, by simp [own_bo, hc2_4]⟩
  · refine own_go (fun _ k => XS.icmpYes X0.here hx rfl (pc0 := 2) (pc' := 7) rfl (hb hby d2_2) rfl (feq hc2_4).2 (by decide) (by decide) k) ?_
    show own_G p e below (s₁.setTop (mkF m 7 #[.val (.int p1)] [])) _
    refine own_go (fun _ k => XS.iloadN X0.here hx rfl (hb hby d2_7) rfl k) ?_
    show own_G p e below (s₁.setTop (mkF m 8 #[.val (.int p1)] [(.int p1)])) _
    refine own_go (fun _ k => XS.bipush X0.here hx rfl (hb hby d2_8) k) ?_
    show own_G p e below (s₁.setTop (mkF m 10 #[.val (.int p1)] [(.int (6 : Int32)), (.int p1)])) _
    by_cases hc10_5 : p1 = (6 : Int32)
    · refine own_go (fun _ k => XS.icmpNo X0.here hx rfl (hb hby d2_10) rfl (teq hc10_5).2 k) ?_
      show own_G p e below (s₁.setTop (mkF m 13 #[.val (.int p1)] [])) _
      refine own_go (fun _ k => XS.iconst X0.here hx rfl (hb hby d2_13) k) ?_
      show own_G p e below (s₁.setTop (mkF m 14 #[.val (.int p1)] [(.int (2 : Int32))])) _
      refine own_ret X0 hlk (v := some (.int (2 : Int32))) (fun h => by rw [hret] at h; cases h) (Q2 Z p1 h0 n0) (own_retI X0 hx (t := .int) hret rfl (Or.inl ⟨rfl, by simp, _, rfl⟩) (hb hby d2_14)) (by decide) (by decide) ?_
      show Q2 Z p1 h0 n0 _ s₁.heap _
      rw [e0]
      exact ⟨_, rfl, N0, rfl, by simp [own_bo, hc2_4, hc10_5]⟩
    · refine own_go (fun _ k => XS.icmpYes X0.here hx rfl (pc0 := 10) (pc' := 15) rfl (hb hby d2_10) rfl (feq hc10_5).2 (by decide) (by decide) k) ?_
      show own_G p e below (s₁.setTop (mkF m 15 #[.val (.int p1)] [])) _
      refine own_go (fun _ k => XS.iloadN X0.here hx rfl (hb hby d2_15) rfl k) ?_
      show own_G p e below (s₁.setTop (mkF m 16 #[.val (.int p1)] [(.int p1)])) _
      refine own_go (fun _ k => XS.bipush X0.here hx rfl (hb hby d2_16) k) ?_
      show own_G p e below (s₁.setTop (mkF m 18 #[.val (.int p1)] [(.int (7 : Int32)), (.int p1)])) _
      by_cases hc18_6 : p1 = (7 : Int32)
      · refine own_go (fun _ k => XS.icmpNo X0.here hx rfl (hb hby d2_18) rfl (teq hc18_6).2 k) ?_
        show own_G p e below (s₁.setTop (mkF m 21 #[.val (.int p1)] [])) _
        refine own_go (fun _ k => XS.iconst X0.here hx rfl (hb hby d2_21) k) ?_
        show own_G p e below (s₁.setTop (mkF m 22 #[.val (.int p1)] [(.int (4 : Int32))])) _
        refine own_ret X0 hlk (v := some (.int (4 : Int32))) (fun h => by rw [hret] at h; cases h) (Q2 Z p1 h0 n0) (own_retI X0 hx (t := .int) hret rfl (Or.inl ⟨rfl, by simp, _, rfl⟩) (hb hby d2_22)) (by decide) (by decide) ?_
        show Q2 Z p1 h0 n0 _ s₁.heap _
        rw [e0]
        exact ⟨_, rfl, N0, rfl, by simp [own_bo, hc2_4, hc10_5, hc18_6]⟩
      · refine own_go (fun _ k => XS.icmpYes X0.here hx rfl (pc0 := 18) (pc' := 23) rfl (hb hby d2_18) rfl (feq hc18_6).2 (by decide) (by decide) k) ?_
        show own_G p e below (s₁.setTop (mkF m 23 #[.val (.int p1)] [])) _
        refine own_go (fun _ k => XS.iconst X0.here hx rfl (hb hby d2_23) k) ?_
        show own_G p e below (s₁.setTop (mkF m 24 #[.val (.int p1)] [(.int (-1 : Int32))])) _
        refine own_ret X0 hlk (v := some (.int (-1 : Int32))) (fun h => by rw [hret] at h; cases h) (Q2 Z p1 h0 n0) (own_retI X0 hx (t := .int) hret rfl (Or.inl ⟨rfl, by simp, _, rfl⟩) (hb hby d2_24)) (by decide) (by decide) ?_
        show Q2 Z p1 h0 n0 _ s₁.heap _
        rw [e0]
        exact ⟨_, rfl, N0, rfl, by simp [own_bo, hc2_4, hc10_5, hc18_6]⟩
theorem ef_0 (m : MethodId) (p1 : Int32) (p2 : Int32) : entryFrame m #[(.int p1), (.int p2)] maxLocals = mkF m 0 #[.val (.int p1), .val (.int p2), .unset, .unset, .unset, .unset, .unset, .unset, .unset, .unset] [] := by first | (simp [entryFrame, mkF, argsToLocals, Value.category, maxLocals]; done) | rfl
def Q0 (Z : State) (p1 : Int32) (p2 : Int32) (h0 : Heap) (n0 : Nat) (v : Option Value) (h : Heap) (L : List Loc) : Prop := v = some (.int (1 : Int32)) ∧ Fr n0 L
set_option maxRecDepth 65536 in
set_option maxHeartbeats 40000000 in
theorem rm0 (l : Launch) (Z : State) (a0 : Array Value) (hw : ∀ d ∈ tables_1, d.before a0 Z = true) (ws : List Jvm.Cond) (p1 : Int32) (p2 : Int32) (h0 : Heap) (n0 : Nat) (Z0 : n0 ≤ h0.size)  :
    MetFree l x (head1 (Jvm.Cond.code x code maxLocals ret :: ws) room_1) (fun a U => a = #[(.int p1), (.int p2)] ∧ Z.Warmed39 U.vm ∧ U.heap = h0) (fun _ _ _ _ _ => True) (fun _ U o U' => ∃ v L, o = .returned v ∧ Q0 Z p1 p2 h0 n0 v U'.heap L ∧ FrameEnd U o U' L room_1.cells room_1.slots) := by
  refine MetFree.of_bodySF (plainFor_of_name pn_0) hisR ?_
  intro p e s m args below meth c s₁ Bd hml0 hP hK
  obtain ⟨rfl, hZ, hh⟩ := hP
  have hx := Bd.exec
  have hby := Bd.bytes
  have hml : c.maxLocals = 10 := hml0
  have hown : s.vm.findClass "com/example/tagwire/tagwire/WireLengthTypePinLaw" = some m.cls := findClass_of_methodNamed Bd.named
  have hnm := (name_of_methodNamed Bd.named Bd.method).1
  have hlk := Bd.notSynchronized
  have hret := Bd.returns
  have X0 : Stand p l e room_1 s m #[(.int p1), (.int p2)] below meth c s₁ [] 0 0 := Stand.of_body Bd
  have e0 : s₁.heap = h0 := by rw [← hh, Bd.state]; rfl
  have N0 := Fr.nil n0
  show own_G p e below (s₁.setTop (entryFrame m #[(.int p1), (.int p2)] maxLocals)) (fun s₂ o => ∃ v L, o = .returned v ∧ Q0 Z p1 p2 h0 n0 v s₂.heap L ∧ FrameEnd s o s₂ L room_1.cells room_1.slots)
  refine own_go (fun t k => castTop (ef_0 m p1 p2) k) ?_
  show own_G p e below (s₁.setTop (mkF m 0 #[.val (.int p1), .val (.int p2), .unset, .unset, .unset, .unset, .unset, .unset, .unset, .unset] [])) _
  refine own_go (fun _ k => XS.iloadN X0.here hx rfl (hb hby at_0) rfl k) ?_
  show own_G p e below (s₁.setTop (mkF m 1 #[.val (.int p1), .val (.int p2), .unset, .unset, .unset, .unset, .unset, .unset, .unset, .unset] [(.int p2)])) _
  refine own_go (fun _ k => XS.iconst X0.here hx rfl (hb hby at_1) k) ?_
  show own_G p e below (s₁.setTop (mkF m 2 #[.val (.int p1), .val (.int p2), .unset, .unset, .unset, .unset, .unset, .unset, .unset, .unset] [(.int (3 : Int32)), (.int p2)])) _
  refine own_go (fun _ k => XS.iand X0.here hx rfl (hb hby at_2) rfl k) ?_
  show own_G p e below (s₁.setTop (mkF m 3 #[.val (.int p1), .val (.int p2), .unset, .unset, .unset, .unset, .unset, .unset, .unset, .unset] [(.int (p2 &&& (3 : Int32)))])) _
  refine own_go (fun _ k => XS.istoreN X0.here hx rfl (hb hby at_3) rfl (l' := #[.val (.int p1), .val (.int p2), .val (.int (p2 &&& (3 : Int32))), .unset, .unset, .unset, .unset, .unset, .unset, .unset]) rfl k) ?_
  show own_G p e below (s₁.setTop (mkF m 4 #[.val (.int p1), .val (.int p2), .val (.int (p2 &&& (3 : Int32))), .unset, .unset, .unset, .unset, .unset, .unset, .unset] [])) _
  have J45 : ∀ (n : Int32) (hn : ¬ n < (0 : Int32)), own_G p e below (s₁.setTop (mkF m 45 #[.val (.int p1), .val (.int p2), .val (.int (p2 &&& (3 : Int32))), .val (.int n), .unset, .unset, .unset, .unset, .unset, .unset] [])) (fun s₂ o => ∃ v L, o = .returned v ∧ Q0 Z p1 p2 h0 n0 v s₂.heap L ∧ FrameEnd s o s₂ L room_1.cells room_1.slots) := by
    intro n hn
    show own_G p e below (s₁.setTop (mkF m 45 #[.val (.int p1), .val (.int p2), .val (.int (p2 &&& (3 : Int32))), .val (.int n), .unset, .unset, .unset, .unset, .unset, .unset] [])) _
    refine own_go (fun _ k => XS.iloadN X0.here hx rfl (hb hby at_45) rfl k) ?_
    show own_G p e below (s₁.setTop (mkF m 46 #[.val (.int p1), .val (.int p2), .val (.int (p2 &&& (3 : Int32))), .val (.int n), .unset, .unset, .unset, .unset, .unset, .unset] [(.int n)])) _
    obtain ⟨_, _, ⟨T7, L7, k7, n7⟩, -, X7, ⟨Lc7, hQ7, l7, y7, z7⟩, st7⟩ := Jvm.LawKit.callS X0 hx (y := (⟨"com/example/tagwire/tagwire/Wire", "lengthType", "(I)I"⟩ : MethodName)) hown (mvT hZ (hw _ (List.mem_of_getElem? (i := 0) rfl))) (mvT hZ (hw _ (List.mem_of_getElem? (i := 1) rfl))) (mvT hZ (hw _ (List.mem_of_getElem? (i := 2) rfl))) (mvT hZ (hw _ (List.mem_of_getElem? (i := 3) rfl))) (by decide) (backOf (W := 0) (rm1 l Z a0 hw [] n h0 n0 Z0 ) hZ (hw _ (List.mem_of_getElem? (i := 3) rfl)) (hw _ (List.mem_of_getElem? (i := 2) rfl)) (by decide) (by decide)) (g := (mkF m 46 #[.val (.int p1), .val (.int p2), .val (.int (p2 &&& (3 : Int32))), .val (.int n), .unset, .unset, .unset, .unset, .unset, .unset] [(.int n)])) rfl (by rw [hml]; rfl) (argsL := [(.int n)]) (rest := []) (lenOf pd_0 rfl) rfl (by show 2 * 0 + _ ≤ _; exact Nat.le_of_eq rfl) (hb hby at_46) (fun _ _ => ⟨rfl, e0, (by decide : 0 + 0 ≤ _), (by decide : 0 + 0 ≤ _)⟩)
    dsimp only [Pt.U, Pt.locs, Pt.cells, Pt.slots] at X7 l7 y7 z7 st7 hQ7
    subst l7 y7 z7
    obtain ⟨r, rfl, Nq7, hh7, hr⟩ := hQ7
    have N7 := Fr.app N0 Nq7
    refine own_go st7 ?_
    have e7 : T7.heap = h0 := hh7
    show own_G p e below (T7.setTop (mkF m 49 #[.val (.int p1), .val (.int p2), .val (.int (p2 &&& (3 : Int32))), .val (.int n), .unset, .unset, .unset, .unset, .unset, .unset] [(.int r)])) _
    rcases hr with ⟨rfl, g0⟩ | ⟨rfl, g0, g1⟩ | ⟨rfl, g0, g1, g2⟩ | ⟨rfl, g0, g2⟩
    · show own_G p e below (T7.setTop (mkF m 49 #[.val (.int p1), .val (.int p2), .val (.int (p2 &&& (3 : Int32))), .val (.int n), .unset, .unset, .unset, .unset, .unset, .unset] [(.int (0 : Int32))])) _
      refine own_go (fun _ k => XS.istore X7.here hx rfl (hb hby at_49) rfl (l' := #[.val (.int p1), .val (.int p2), .val (.int (p2 &&& (3 : Int32))), .val (.int n), .val (.int (0 : Int32)), .unset, .unset, .unset, .unset, .unset]) rfl k) ?_
      show own_G p e below (T7.setTop (mkF m 51 #[.val (.int p1), .val (.int p2), .val (.int (p2 &&& (3 : Int32))), .val (.int n), .val (.int (0 : Int32)), .unset, .unset, .unset, .unset, .unset] [])) _
      refine own_go (fun _ k => XS.iloadN X7.here hx rfl (hb hby at_51) rfl k) ?_
      show own_G p e below (T7.setTop (mkF m 52 #[.val (.int p1), .val (.int p2), .val (.int (p2 &&& (3 : Int32))), .val (.int n), .val (.int (0 : Int32)), .unset, .unset, .unset, .unset, .unset] [(.int n)])) _
      refine own_go (fun _ k => XS.ifNo X7.here hx rfl (hb hby at_52) rfl ((if0 _ _).trans (teq g0).2) k) ?_
      show own_G p e below (T7.setTop (mkF m 55 #[.val (.int p1), .val (.int p2), .val (.int (p2 &&& (3 : Int32))), .val (.int n), .val (.int (0 : Int32)), .unset, .unset, .unset, .unset, .unset] [])) _
      refine own_go (fun _ k => XS.iload X7.here hx rfl (hb hby at_55) rfl k) ?_
      show own_G p e below (T7.setTop (mkF m 57 #[.val (.int p1), .val (.int p2), .val (.int (p2 &&& (3 : Int32))), .val (.int n), .val (.int (0 : Int32)), .unset, .unset, .unset, .unset, .unset] [(.int (0 : Int32))])) _
      refine own_go (fun _ k => XS.ifNo X7.here hx rfl (hb hby at_57) rfl ((if0 _ _).trans (teq (by decide : (0 : Int32) = (0 : Int32))).2) k) ?_
      show own_G p e below (T7.setTop (mkF m 60 #[.val (.int p1), .val (.int p2), .val (.int (p2 &&& (3 : Int32))), .val (.int n), .val (.int (0 : Int32)), .unset, .unset, .unset, .unset, .unset] [])) _
      refine own_go (fun _ k => XS.iconst X7.here hx rfl (hb hby at_60) k) ?_
      show own_G p e below (T7.setTop (mkF m 61 #[.val (.int p1), .val (.int p2), .val (.int (p2 &&& (3 : Int32))), .val (.int n), .val (.int (0 : Int32)), .unset, .unset, .unset, .unset, .unset] [(.int (1 : Int32))])) _
      refine own_go (fun _ k => XS.goto X7.here hx rfl (pc0 := 61) (pc' := 65) rfl (hb hby at_61) (by decide) (by decide) k) ?_
      show own_G p e below (T7.setTop (mkF m 65 #[.val (.int p1), .val (.int p2), .val (.int (p2 &&& (3 : Int32))), .val (.int n), .val (.int (0 : Int32)), .unset, .unset, .unset, .unset, .unset] [(.int (1 : Int32))])) _
      refine own_ret X7 hlk (v := some (.int (1 : Int32))) (fun h => by rw [hret] at h; cases h) (Q0 Z p1 p2 h0 n0) (own_retI X7 hx (t := .boolean) hret rfl (Or.inl ⟨rfl, by simp, _, rfl⟩) (hb hby at_65)) (by decide) (by decide) ?_
      show Q0 Z p1 p2 h0 n0 _ T7.heap _
      rw [e7]
      exact ⟨rfl, N7⟩
    · show own_G p e below (T7.setTop (mkF m 49 #[.val (.int p1), .val (.int p2), .val (.int (p2 &&& (3 : Int32))), .val (.int n), .unset, .unset, .unset, .unset, .unset, .unset] [(.int (5 : Int32))])) _
      refine own_go (fun _ k => XS.istore X7.here hx rfl (hb hby at_49) rfl (l' := #[.val (.int p1), .val (.int p2), .val (.int (p2 &&& (3 : Int32))), .val (.int n), .val (.int (5 : Int32)), .unset, .unset, .unset, .unset, .unset]) rfl k) ?_
      show own_G p e below (T7.setTop (mkF m 51 #[.val (.int p1), .val (.int p2), .val (.int (p2 &&& (3 : Int32))), .val (.int n), .val (.int (5 : Int32)), .unset, .unset, .unset, .unset, .unset] [])) _
      refine own_go (fun _ k => XS.iloadN X7.here hx rfl (hb hby at_51) rfl k) ?_
      show own_G p e below (T7.setTop (mkF m 52 #[.val (.int p1), .val (.int p2), .val (.int (p2 &&& (3 : Int32))), .val (.int n), .val (.int (5 : Int32)), .unset, .unset, .unset, .unset, .unset] [(.int n)])) _
      refine own_go (fun _ k => XS.ifYes X7.here hx rfl (pc0 := 52) (pc' := 66) rfl (hb hby at_52) rfl ((if0 _ _).trans (feq g0).2) (by decide) (by decide) k) ?_
      show own_G p e below (T7.setTop (mkF m 66 #[.val (.int p1), .val (.int p2), .val (.int (p2 &&& (3 : Int32))), .val (.int n), .val (.int (5 : Int32)), .unset, .unset, .unset, .unset, .unset] [])) _
      refine own_go (fun _ k => XS.iload X7.here hx rfl (hb hby at_66) rfl k) ?_
      show own_G p e below (T7.setTop (mkF m 68 #[.val (.int p1), .val (.int p2), .val (.int (p2 &&& (3 : Int32))), .val (.int n), .val (.int (5 : Int32)), .unset, .unset, .unset, .unset, .unset] [(.int (5 : Int32))])) _
      obtain ⟨_, _, ⟨T8, L8, k8, n8⟩, -, X8, ⟨Lc8, hQ8, l8, y8, z8⟩, st8⟩ := Jvm.LawKit.callS X7 hx (y := (⟨"com/example/tagwire/tagwire/WireLengthTypePinLaw", "bytesOf", "(I)I"⟩ : MethodName)) hown (mvT hZ (hw _ (List.mem_of_getElem? (i := 4) rfl))) (mvT hZ (hw _ (List.mem_of_getElem? (i := 5) rfl))) (mvT hZ (hw _ (List.mem_of_getElem? (i := 6) rfl))) (mvT hZ (hw _ (List.mem_of_getElem? (i := 7) rfl))) (by decide) (backOf (W := 0) (rm2 l Z a0 hw [] (5 : Int32) h0 n0 Z0 ) hZ (hw _ (List.mem_of_getElem? (i := 7) rfl)) (hw _ (List.mem_of_getElem? (i := 6) rfl)) (by decide) (by decide)) (g := (mkF m 68 #[.val (.int p1), .val (.int p2), .val (.int (p2 &&& (3 : Int32))), .val (.int n), .val (.int (5 : Int32)), .unset, .unset, .unset, .unset, .unset] [(.int (5 : Int32))])) rfl (by rw [hml]; rfl) (argsL := [(.int (5 : Int32))]) (rest := []) (lenOf pd_0 rfl) rfl (by show 2 * 0 + _ ≤ _; exact Nat.le_of_eq rfl) (hb hby at_68) (fun _ _ => ⟨rfl, e7, (by decide : 0 + 0 + 0 ≤ _), (by decide : 0 + 0 + 0 ≤ _)⟩)
      dsimp only [Pt.U, Pt.locs, Pt.cells, Pt.slots] at X8 l8 y8 z8 st8 hQ8
      subst l8 y8 z8
      obtain ⟨zz8, rfl, Nq8, hh8, hz8⟩ := hQ8
      have N8 := Fr.app N7 Nq8
      refine own_go st8 ?_
      have e8 : T8.heap = h0 := hh8
      obtain rfl : zz8 = (1 : Int32) := hz8.trans (by decide)
      show own_G p e below (T8.setTop (mkF m 71 #[.val (.int p1), .val (.int p2), .val (.int (p2 &&& (3 : Int32))), .val (.int n), .val (.int (5 : Int32)), .unset, .unset, .unset, .unset, .unset] [(.int (1 : Int32))])) _
      refine own_go (fun _ k => XS.istore X8.here hx rfl (hb hby at_71) rfl (l' := #[.val (.int p1), .val (.int p2), .val (.int (p2 &&& (3 : Int32))), .val (.int n), .val (.int (5 : Int32)), .val (.int (1 : Int32)), .unset, .unset, .unset, .unset]) rfl k) ?_
      show own_G p e below (T8.setTop (mkF m 73 #[.val (.int p1), .val (.int p2), .val (.int (p2 &&& (3 : Int32))), .val (.int n), .val (.int (5 : Int32)), .val (.int (1 : Int32)), .unset, .unset, .unset, .unset] [])) _
      refine own_go (fun _ k => XS.iload X8.here hx rfl (hb hby at_73) rfl k) ?_
      show own_G p e below (T8.setTop (mkF m 75 #[.val (.int p1), .val (.int p2), .val (.int (p2 &&& (3 : Int32))), .val (.int n), .val (.int (5 : Int32)), .val (.int (1 : Int32)), .unset, .unset, .unset, .unset] [(.int (1 : Int32))])) _
      refine own_go (fun _ k => XS.ifYes X8.here hx rfl (pc0 := 75) (pc' := 80) rfl (hb hby at_75) rfl ((if0 _ _).trans (flt (by decide : ¬ ((1 : Int32) < (0 : Int32)))).2.1) (by decide) (by decide) k) ?_
      show own_G p e below (T8.setTop (mkF m 80 #[.val (.int p1), .val (.int p2), .val (.int (p2 &&& (3 : Int32))), .val (.int n), .val (.int (5 : Int32)), .val (.int (1 : Int32)), .unset, .unset, .unset, .unset] [])) _
      refine own_go (fun _ k => XS.iloadN X8.here hx rfl (hb hby at_80) rfl k) ?_
      show own_G p e below (T8.setTop (mkF m 81 #[.val (.int p1), .val (.int p2), .val (.int (p2 &&& (3 : Int32))), .val (.int n), .val (.int (5 : Int32)), .val (.int (1 : Int32)), .unset, .unset, .unset, .unset] [(.int n)])) _
      refine own_go (fun _ k => XS.i2l X8.here hx rfl (hb hby at_81) rfl k) ?_
      show own_G p e below (T8.setTop (mkF m 82 #[.val (.int p1), .val (.int p2), .val (.int (p2 &&& (3 : Int32))), .val (.int n), .val (.int (5 : Int32)), .val (.int (1 : Int32)), .unset, .unset, .unset, .unset] [(.long (n.toInt64))])) _
      refine own_go (fun _ k => XS.lstore X8.here hx rfl (hb hby at_82) rfl (l' := #[.val (.int p1), .val (.int p2), .val (.int (p2 &&& (3 : Int32))), .val (.int n), .val (.int (5 : Int32)), .val (.int (1 : Int32)), .val (.long (n.toInt64)), .second, .unset, .unset]) rfl k) ?_
      show own_G p e below (T8.setTop (mkF m 84 #[.val (.int p1), .val (.int p2), .val (.int (p2 &&& (3 : Int32))), .val (.int n), .val (.int (5 : Int32)), .val (.int (1 : Int32)), .val (.long (n.toInt64)), .second, .unset, .unset] [])) _
      refine own_go (fun _ k => XS.lload X8.here hx rfl (hb hby at_84) rfl k) ?_
      show own_G p e below (T8.setTop (mkF m 86 #[.val (.int p1), .val (.int p2), .val (.int (p2 &&& (3 : Int32))), .val (.int n), .val (.int (5 : Int32)), .val (.int (1 : Int32)), .val (.long (n.toInt64)), .second, .unset, .unset] [(.long (n.toInt64))])) _
      refine own_go (fun _ k => XS.lconst X8.here hx rfl (hb hby at_86) k) ?_
      show own_G p e below (T8.setTop (mkF m 87 #[.val (.int p1), .val (.int p2), .val (.int (p2 &&& (3 : Int32))), .val (.int n), .val (.int (5 : Int32)), .val (.int (1 : Int32)), .val (.long (n.toInt64)), .second, .unset, .unset] [(.long (1 : Int64)), (.long (n.toInt64))])) _
      refine own_go (fun _ k => XS.bipush X8.here hx rfl (hb hby at_87) k) ?_
      show own_G p e below (T8.setTop (mkF m 89 #[.val (.int p1), .val (.int p2), .val (.int (p2 &&& (3 : Int32))), .val (.int n), .val (.int (5 : Int32)), .val (.int (1 : Int32)), .val (.long (n.toInt64)), .second, .unset, .unset] [(.int (8 : Int32)), (.long (1 : Int64)), (.long (n.toInt64))])) _
      refine own_go (fun _ k => XS.iload X8.here hx rfl (hb hby at_89) rfl k) ?_
      show own_G p e below (T8.setTop (mkF m 91 #[.val (.int p1), .val (.int p2), .val (.int (p2 &&& (3 : Int32))), .val (.int n), .val (.int (5 : Int32)), .val (.int (1 : Int32)), .val (.long (n.toInt64)), .second, .unset, .unset] [(.int (1 : Int32)), (.int (8 : Int32)), (.long (1 : Int64)), (.long (n.toInt64))])) _
      refine own_go (fun _ k => XS.imul X8.here hx rfl (hb hby at_91) rfl k) ?_
      show own_G p e below (T8.setTop (mkF m 92 #[.val (.int p1), .val (.int p2), .val (.int (p2 &&& (3 : Int32))), .val (.int n), .val (.int (5 : Int32)), .val (.int (1 : Int32)), .val (.long (n.toInt64)), .second, .unset, .unset] [(.int (8 : Int32)), (.long (1 : Int64)), (.long (n.toInt64))])) _
      refine own_go (fun _ k => XS.lshl X8.here hx rfl (hb hby at_92) rfl k) ?_
      show own_G p e below (T8.setTop (mkF m 93 #[.val (.int p1), .val (.int p2), .val (.int (p2 &&& (3 : Int32))), .val (.int n), .val (.int (5 : Int32)), .val (.int (1 : Int32)), .val (.long (n.toInt64)), .second, .unset, .unset] [(.long ((1 : Int64) <<< ((8 : Int32) &&& 0x3f).toInt64)), (.long (n.toInt64))])) _
      refine own_go (fun _ k => XS.lcmp X8.here hx rfl (hb hby at_93) rfl k) ?_
      show own_G p e below (T8.setTop (mkF m 94 #[.val (.int p1), .val (.int p2), .val (.int (p2 &&& (3 : Int32))), .val (.int n), .val (.int (5 : Int32)), .val (.int (1 : Int32)), .val (.long (n.toInt64)), .second, .unset, .unset] [(.int (lcmpW (n.toInt64) ((1 : Int64) <<< ((8 : Int32) &&& 0x3f).toInt64)))])) _
      refine own_go (fun _ k => XS.ifNo X8.here hx rfl (hb hby at_94) rfl ((if0 _ _).trans (tlt ((lw_lt _ _).mpr (own_f1 n g1))).2.1) k) ?_
      show own_G p e below (T8.setTop (mkF m 97 #[.val (.int p1), .val (.int p2), .val (.int (p2 &&& (3 : Int32))), .val (.int n), .val (.int (5 : Int32)), .val (.int (1 : Int32)), .val (.long (n.toInt64)), .second, .unset, .unset] [])) _
      refine own_go (fun _ k => XS.iconst X8.here hx rfl (hb hby at_97) k) ?_
      show own_G p e below (T8.setTop (mkF m 98 #[.val (.int p1), .val (.int p2), .val (.int (p2 &&& (3 : Int32))), .val (.int n), .val (.int (5 : Int32)), .val (.int (1 : Int32)), .val (.long (n.toInt64)), .second, .unset, .unset] [(.int (1 : Int32))])) _
      refine own_go (fun _ k => XS.goto X8.here hx rfl (pc0 := 98) (pc' := 102) rfl (hb hby at_98) (by decide) (by decide) k) ?_
      show own_G p e below (T8.setTop (mkF m 102 #[.val (.int p1), .val (.int p2), .val (.int (p2 &&& (3 : Int32))), .val (.int n), .val (.int (5 : Int32)), .val (.int (1 : Int32)), .val (.long (n.toInt64)), .second, .unset, .unset] [(.int (1 : Int32))])) _
      refine own_go (fun _ k => XS.istore X8.here hx rfl (hb hby at_102) rfl (l' := #[.val (.int p1), .val (.int p2), .val (.int (p2 &&& (3 : Int32))), .val (.int n), .val (.int (5 : Int32)), .val (.int (1 : Int32)), .val (.long (n.toInt64)), .second, .val (.int (1 : Int32)), .unset]) rfl k) ?_
      show own_G p e below (T8.setTop (mkF m 104 #[.val (.int p1), .val (.int p2), .val (.int (p2 &&& (3 : Int32))), .val (.int n), .val (.int (5 : Int32)), .val (.int (1 : Int32)), .val (.long (n.toInt64)), .second, .val (.int (1 : Int32)), .unset] [])) _
      refine own_go (fun _ k => XS.iload X8.here hx rfl (hb hby at_104) rfl k) ?_
      show own_G p e below (T8.setTop (mkF m 106 #[.val (.int p1), .val (.int p2), .val (.int (p2 &&& (3 : Int32))), .val (.int n), .val (.int (5 : Int32)), .val (.int (1 : Int32)), .val (.long (n.toInt64)), .second, .val (.int (1 : Int32)), .unset] [(.int (5 : Int32))])) _
      refine own_go (fun _ k => XS.iconst X8.here hx rfl (hb hby at_106) k) ?_
      show own_G p e below (T8.setTop (mkF m 107 #[.val (.int p1), .val (.int p2), .val (.int (p2 &&& (3 : Int32))), .val (.int n), .val (.int (5 : Int32)), .val (.int (1 : Int32)), .val (.long (n.toInt64)), .second, .val (.int (1 : Int32)), .unset] [(.int (5 : Int32)), (.int (5 : Int32))])) _
      refine own_go (fun _ k => XS.icmpYes X8.here hx rfl (pc0 := 107) (pc' := 128) rfl (hb hby at_107) rfl (teq (by decide : (5 : Int32) = (5 : Int32))).1 (by decide) (by decide) k) ?_
      show own_G p e below (T8.setTop (mkF m 128 #[.val (.int p1), .val (.int p2), .val (.int (p2 &&& (3 : Int32))), .val (.int n), .val (.int (5 : Int32)), .val (.int (1 : Int32)), .val (.long (n.toInt64)), .second, .val (.int (1 : Int32)), .unset] [])) _
      refine own_go (fun _ k => XS.iconst X8.here hx rfl (hb hby at_128) k) ?_
      show own_G p e below (T8.setTop (mkF m 129 #[.val (.int p1), .val (.int p2), .val (.int (p2 &&& (3 : Int32))), .val (.int n), .val (.int (5 : Int32)), .val (.int (1 : Int32)), .val (.long (n.toInt64)), .second, .val (.int (1 : Int32)), .unset] [(.int (1 : Int32))])) _
      refine own_go (fun _ k => XS.goto X8.here hx rfl (pc0 := 129) (pc' := 133) rfl (hb hby at_129) (by decide) (by decide) k) ?_
      show own_G p e below (T8.setTop (mkF m 133 #[.val (.int p1), .val (.int p2), .val (.int (p2 &&& (3 : Int32))), .val (.int n), .val (.int (5 : Int32)), .val (.int (1 : Int32)), .val (.long (n.toInt64)), .second, .val (.int (1 : Int32)), .unset] [(.int (1 : Int32))])) _
      refine own_go (fun _ k => XS.istore X8.here hx rfl (hb hby at_133) rfl (l' := #[.val (.int p1), .val (.int p2), .val (.int (p2 &&& (3 : Int32))), .val (.int n), .val (.int (5 : Int32)), .val (.int (1 : Int32)), .val (.long (n.toInt64)), .second, .val (.int (1 : Int32)), .val (.int (1 : Int32))]) rfl k) ?_
      show own_G p e below (T8.setTop (mkF m 135 #[.val (.int p1), .val (.int p2), .val (.int (p2 &&& (3 : Int32))), .val (.int n), .val (.int (5 : Int32)), .val (.int (1 : Int32)), .val (.long (n.toInt64)), .second, .val (.int (1 : Int32)), .val (.int (1 : Int32))] [])) _
      refine own_go (fun _ k => XS.iload X8.here hx rfl (hb hby at_135) rfl k) ?_
      show own_G p e below (T8.setTop (mkF m 137 #[.val (.int p1), .val (.int p2), .val (.int (p2 &&& (3 : Int32))), .val (.int n), .val (.int (5 : Int32)), .val (.int (1 : Int32)), .val (.long (n.toInt64)), .second, .val (.int (1 : Int32)), .val (.int (1 : Int32))] [(.int (1 : Int32))])) _
      refine own_go (fun _ k => XS.ifNo X8.here hx rfl (hb hby at_137) rfl ((if0 _ _).trans (feq (by decide : ¬ ((1 : Int32) = (0 : Int32)))).1) k) ?_
      show own_G p e below (T8.setTop (mkF m 140 #[.val (.int p1), .val (.int p2), .val (.int (p2 &&& (3 : Int32))), .val (.int n), .val (.int (5 : Int32)), .val (.int (1 : Int32)), .val (.long (n.toInt64)), .second, .val (.int (1 : Int32)), .val (.int (1 : Int32))] [])) _
      refine own_go (fun _ k => XS.iload X8.here hx rfl (hb hby at_140) rfl k) ?_
      show own_G p e below (T8.setTop (mkF m 142 #[.val (.int p1), .val (.int p2), .val (.int (p2 &&& (3 : Int32))), .val (.int n), .val (.int (5 : Int32)), .val (.int (1 : Int32)), .val (.long (n.toInt64)), .second, .val (.int (1 : Int32)), .val (.int (1 : Int32))] [(.int (1 : Int32))])) _
      refine own_go (fun _ k => XS.ifNo X8.here hx rfl (hb hby at_142) rfl ((if0 _ _).trans (feq (by decide : ¬ ((1 : Int32) = (0 : Int32)))).1) k) ?_
      show own_G p e below (T8.setTop (mkF m 145 #[.val (.int p1), .val (.int p2), .val (.int (p2 &&& (3 : Int32))), .val (.int n), .val (.int (5 : Int32)), .val (.int (1 : Int32)), .val (.long (n.toInt64)), .second, .val (.int (1 : Int32)), .val (.int (1 : Int32))] [])) _
      refine own_go (fun _ k => XS.iconst X8.here hx rfl (hb hby at_145) k) ?_
      show own_G p e below (T8.setTop (mkF m 146 #[.val (.int p1), .val (.int p2), .val (.int (p2 &&& (3 : Int32))), .val (.int n), .val (.int (5 : Int32)), .val (.int (1 : Int32)), .val (.long (n.toInt64)), .second, .val (.int (1 : Int32)), .val (.int (1 : Int32))] [(.int (1 : Int32))])) _
      refine own_go (fun _ k => XS.goto X8.here hx rfl (pc0 := 146) (pc' := 150) rfl (hb hby at_146) (by decide) (by decide) k) ?_
      show own_G p e below (T8.setTop (mkF m 150 #[.val (.int p1), .val (.int p2), .val (.int (p2 &&& (3 : Int32))), .val (.int n), .val (.int (5 : Int32)), .val (.int (1 : Int32)), .val (.long (n.toInt64)), .second, .val (.int (1 : Int32)), .val (.int (1 : Int32))] [(.int (1 : Int32))])) _
      refine own_ret X8 hlk (v := some (.int (1 : Int32))) (fun h => by rw [hret] at h; cases h) (Q0 Z p1 p2 h0 n0) (own_retI X8 hx (t := .boolean) hret rfl (Or.inl ⟨rfl, by simp, _, rfl⟩) (hb hby at_150)) (by decide) (by decide) ?_
      show Q0 Z p1 p2 h0 n0 _ T8.heap _
      rw [e8]
      exact ⟨rfl, N8⟩
    · show own_G p e below (T7.setTop (mkF m 49 #[.val (.int p1), .val (.int p2), .val (.int (p2 &&& (3 : Int32))), .val (.int n), .unset, .unset, .unset, .unset, .unset, .unset] [(.int (6 : Int32))])) _
      refine own_go (fun _ k => XS.istore X7.here hx rfl (hb hby at_49) rfl (l' := #[.val (.int p1), .val (.int p2), .val (.int (p2 &&& (3 : Int32))), .val (.int n), .val (.int (6 : Int32)), .unset, .unset, .unset, .unset, .unset]) rfl k) ?_
      show own_G p e below (T7.setTop (mkF m 51 #[.val (.int p1), .val (.int p2), .val (.int (p2 &&& (3 : Int32))), .val (.int n), .val (.int (6 : Int32)), .unset, .unset, .unset, .unset, .unset] [])) _
      refine own_go (fun _ k => XS.iloadN X7.here hx rfl (hb hby at_51) rfl k) ?_
      show own_G p e below (T7.setTop (mkF m 52 #[.val (.int p1), .val (.int p2), .val (.int (p2 &&& (3 : Int32))), .val (.int n), .val (.int (6 : Int32)), .unset, .unset, .unset, .unset, .unset] [(.int n)])) _
      refine own_go (fun _ k => XS.ifYes X7.here hx rfl (pc0 := 52) (pc' := 66) rfl (hb hby at_52) rfl ((if0 _ _).trans (feq g0).2) (by decide) (by decide) k) ?_
      show own_G p e below (T7.setTop (mkF m 66 #[.val (.int p1), .val (.int p2), .val (.int (p2 &&& (3 : Int32))), .val (.int n), .val (.int (6 : Int32)), .unset, .unset, .unset, .unset, .unset] [])) _
      refine own_go (fun _ k => XS.iload X7.here hx rfl (hb hby at_66) rfl k) ?_
      show own_G p e below (T7.setTop (mkF m 68 #[.val (.int p1), .val (.int p2), .val (.int (p2 &&& (3 : Int32))), .val (.int n), .val (.int (6 : Int32)), .unset, .unset, .unset, .unset, .unset] [(.int (6 : Int32))])) _
      obtain ⟨_, _, ⟨T9, L9, k9, n9⟩, -, X9, ⟨Lc9, hQ9, l9, y9, z9⟩, st9⟩ := Jvm.LawKit.callS X7 hx (y := (⟨"com/example/tagwire/tagwire/WireLengthTypePinLaw", "bytesOf", "(I)I"⟩ : MethodName)) hown (mvT hZ (hw _ (List.mem_of_getElem? (i := 4) rfl))) (mvT hZ (hw _ (List.mem_of_getElem? (i := 5) rfl))) (mvT hZ (hw _ (List.mem_of_getElem? (i := 6) rfl))) (mvT hZ (hw _ (List.mem_of_getElem? (i := 7) rfl))) (by decide) (backOf (W := 0) (rm2 l Z a0 hw [] (6 : Int32) h0 n0 Z0 ) hZ (hw _ (List.mem_of_getElem? (i := 7) rfl)) (hw _ (List.mem_of_getElem? (i := 6) rfl)) (by decide) (by decide)) (g := (mkF m 68 #[.val (.int p1), .val (.int p2), .val (.int (p2 &&& (3 : Int32))), .val (.int n), .val (.int (6 : Int32)), .unset, .unset, .unset, .unset, .unset] [(.int (6 : Int32))])) rfl (by rw [hml]; rfl) (argsL := [(.int (6 : Int32))]) (rest := []) (lenOf pd_0 rfl) rfl (by show 2 * 0 + _ ≤ _; exact Nat.le_of_eq rfl) (hb hby at_68) (fun _ _ => ⟨rfl, e7, (by decide : 0 + 0 + 0 ≤ _), (by decide : 0 + 0 + 0 ≤ _)⟩)
      dsimp only [Pt.U, Pt.locs, Pt.cells, Pt.slots] at X9 l9 y9 z9 st9 hQ9
      subst l9 y9 z9
      obtain ⟨zz9, rfl, Nq9, hh9, hz9⟩ := hQ9
      have N9 := Fr.app N7 Nq9
      refine own_go st9 ?_
      have e9 : T9.heap = h0 := hh9
      obtain rfl : zz9 = (2 : Int32) := hz9.trans (by decide)
      show own_G p e below (T9.setTop (mkF m 71 #[.val (.int p1), .val (.int p2), .val (.int (p2 &&& (3 : Int32))), .val (.int n), .val (.int (6 : Int32)), .unset, .unset, .unset, .unset, .unset] [(.int (2 : Int32))])) _
      refine own_go (fun _ k => XS.istore X9.here hx rfl (hb hby at_71) rfl (l' := #[.val (.int p1), .val (.int p2), .val (.int (p2 &&& (3 : Int32))), .val (.int n), .val (.int (6 : Int32)), .val (.int (2 : Int32)), .unset, .unset, .unset, .unset]) rfl k) ?_
      show own_G p e below (T9.setTop (mkF m 73 #[.val (.int p1), .val (.int p2), .val (.int (p2 &&& (3 : Int32))), .val (.int n), .val (.int (6 : Int32)), .val (.int (2 : Int32)), .unset, .unset, .unset, .unset] [])) _
      refine own_go (fun _ k => XS.iload X9.here hx rfl (hb hby at_73) rfl k) ?_
      show own_G p e below (T9.setTop (mkF m 75 #[.val (.int p1), .val (.int p2), .val (.int (p2 &&& (3 : Int32))), .val (.int n), .val (.int (6 : Int32)), .val (.int (2 : Int32)), .unset, .unset, .unset, .unset] [(.int (2 : Int32))])) _
      refine own_go (fun _ k => XS.ifYes X9.here hx rfl (pc0 := 75) (pc' := 80) rfl (hb hby at_75) rfl ((if0 _ _).trans (flt (by decide : ¬ ((2 : Int32) < (0 : Int32)))).2.1) (by decide) (by decide) k) ?_
      show own_G p e below (T9.setTop (mkF m 80 #[.val (.int p1), .val (.int p2), .val (.int (p2 &&& (3 : Int32))), .val (.int n), .val (.int (6 : Int32)), .val (.int (2 : Int32)), .unset, .unset, .unset, .unset] [])) _
      refine own_go (fun _ k => XS.iloadN X9.here hx rfl (hb hby at_80) rfl k) ?_
      show own_G p e below (T9.setTop (mkF m 81 #[.val (.int p1), .val (.int p2), .val (.int (p2 &&& (3 : Int32))), .val (.int n), .val (.int (6 : Int32)), .val (.int (2 : Int32)), .unset, .unset, .unset, .unset] [(.int n)])) _
      refine own_go (fun _ k => XS.i2l X9.here hx rfl (hb hby at_81) rfl k) ?_
      show own_G p e below (T9.setTop (mkF m 82 #[.val (.int p1), .val (.int p2), .val (.int (p2 &&& (3 : Int32))), .val (.int n), .val (.int (6 : Int32)), .val (.int (2 : Int32)), .unset, .unset, .unset, .unset] [(.long (n.toInt64))])) _
      refine own_go (fun _ k => XS.lstore X9.here hx rfl (hb hby at_82) rfl (l' := #[.val (.int p1), .val (.int p2), .val (.int (p2 &&& (3 : Int32))), .val (.int n), .val (.int (6 : Int32)), .val (.int (2 : Int32)), .val (.long (n.toInt64)), .second, .unset, .unset]) rfl k) ?_
      show own_G p e below (T9.setTop (mkF m 84 #[.val (.int p1), .val (.int p2), .val (.int (p2 &&& (3 : Int32))), .val (.int n), .val (.int (6 : Int32)), .val (.int (2 : Int32)), .val (.long (n.toInt64)), .second, .unset, .unset] [])) _
      refine own_go (fun _ k => XS.lload X9.here hx rfl (hb hby at_84) rfl k) ?_
      show own_G p e below (T9.setTop (mkF m 86 #[.val (.int p1), .val (.int p2), .val (.int (p2 &&& (3 : Int32))), .val (.int n), .val (.int (6 : Int32)), .val (.int (2 : Int32)), .val (.long (n.toInt64)), .second, .unset, .unset] [(.long (n.toInt64))])) _
      refine own_go (fun _ k => XS.lconst X9.here hx rfl (hb hby at_86) k) ?_
      show own_G p e below (T9.setTop (mkF m 87 #[.val (.int p1), .val (.int p2), .val (.int (p2 &&& (3 : Int32))), .val (.int n), .val (.int (6 : Int32)), .val (.int (2 : Int32)), .val (.long (n.toInt64)), .second, .unset, .unset] [(.long (1 : Int64)), (.long (n.toInt64))])) _
      refine own_go (fun _ k => XS.bipush X9.here hx rfl (hb hby at_87) k) ?_
      show own_G p e below (T9.setTop (mkF m 89 #[.val (.int p1), .val (.int p2), .val (.int (p2 &&& (3 : Int32))), .val (.int n), .val (.int (6 : Int32)), .val (.int (2 : Int32)), .val (.long (n.toInt64)), .second, .unset, .unset] [(.int (8 : Int32)), (.long (1 : Int64)), (.long (n.toInt64))])) _
      refine own_go (fun _ k => XS.iload X9.here hx rfl (hb hby at_89) rfl k) ?_
      show own_G p e below (T9.setTop (mkF m 91 #[.val (.int p1), .val (.int p2), .val (.int (p2 &&& (3 : Int32))), .val (.int n), .val (.int (6 : Int32)), .val (.int (2 : Int32)), .val (.long (n.toInt64)), .second, .unset, .unset] [(.int (2 : Int32)), (.int (8 : Int32)), (.long (1 : Int64)), (.long (n.toInt64))])) _
      refine own_go (fun _ k => XS.imul X9.here hx rfl (hb hby at_91) rfl k) ?_
      show own_G p e below (T9.setTop (mkF m 92 #[.val (.int p1), .val (.int p2), .val (.int (p2 &&& (3 : Int32))), .val (.int n), .val (.int (6 : Int32)), .val (.int (2 : Int32)), .val (.long (n.toInt64)), .second, .unset, .unset] [(.int (16 : Int32)), (.long (1 : Int64)), (.long (n.toInt64))])) _
      refine own_go (fun _ k => XS.lshl X9.here hx rfl (hb hby at_92) rfl k) ?_
      show own_G p e below (T9.setTop (mkF m 93 #[.val (.int p1), .val (.int p2), .val (.int (p2 &&& (3 : Int32))), .val (.int n), .val (.int (6 : Int32)), .val (.int (2 : Int32)), .val (.long (n.toInt64)), .second, .unset, .unset] [(.long ((1 : Int64) <<< ((16 : Int32) &&& 0x3f).toInt64)), (.long (n.toInt64))])) _
      refine own_go (fun _ k => XS.lcmp X9.here hx rfl (hb hby at_93) rfl k) ?_
      show own_G p e below (T9.setTop (mkF m 94 #[.val (.int p1), .val (.int p2), .val (.int (p2 &&& (3 : Int32))), .val (.int n), .val (.int (6 : Int32)), .val (.int (2 : Int32)), .val (.long (n.toInt64)), .second, .unset, .unset] [(.int (lcmpW (n.toInt64) ((1 : Int64) <<< ((16 : Int32) &&& 0x3f).toInt64)))])) _
      refine own_go (fun _ k => XS.ifNo X9.here hx rfl (hb hby at_94) rfl ((if0 _ _).trans (tlt ((lw_lt _ _).mpr (own_f2 n g2))).2.1) k) ?_
      show own_G p e below (T9.setTop (mkF m 97 #[.val (.int p1), .val (.int p2), .val (.int (p2 &&& (3 : Int32))), .val (.int n), .val (.int (6 : Int32)), .val (.int (2 : Int32)), .val (.long (n.toInt64)), .second, .unset, .unset] [])) _
      refine own_go (fun _ k => XS.iconst X9.here hx rfl (hb hby at_97) k) ?_
      show own_G p e below (T9.setTop (mkF m 98 #[.val (.int p1), .val (.int p2), .val (.int (p2 &&& (3 : Int32))), .val (.int n), .val (.int (6 : Int32)), .val (.int (2 : Int32)), .val (.long (n.toInt64)), .second, .unset, .unset] [(.int (1 : Int32))])) _
      refine own_go (fun _ k => XS.goto X9.here hx rfl (pc0 := 98) (pc' := 102) rfl (hb hby at_98) (by decide) (by decide) k) ?_
      show own_G p e below (T9.setTop (mkF m 102 #[.val (.int p1), .val (.int p2), .val (.int (p2 &&& (3 : Int32))), .val (.int n), .val (.int (6 : Int32)), .val (.int (2 : Int32)), .val (.long (n.toInt64)), .second, .unset, .unset] [(.int (1 : Int32))])) _
      refine own_go (fun _ k => XS.istore X9.here hx rfl (hb hby at_102) rfl (l' := #[.val (.int p1), .val (.int p2), .val (.int (p2 &&& (3 : Int32))), .val (.int n), .val (.int (6 : Int32)), .val (.int (2 : Int32)), .val (.long (n.toInt64)), .second, .val (.int (1 : Int32)), .unset]) rfl k) ?_
      show own_G p e below (T9.setTop (mkF m 104 #[.val (.int p1), .val (.int p2), .val (.int (p2 &&& (3 : Int32))), .val (.int n), .val (.int (6 : Int32)), .val (.int (2 : Int32)), .val (.long (n.toInt64)), .second, .val (.int (1 : Int32)), .unset] [])) _
      refine own_go (fun _ k => XS.iload X9.here hx rfl (hb hby at_104) rfl k) ?_
      show own_G p e below (T9.setTop (mkF m 106 #[.val (.int p1), .val (.int p2), .val (.int (p2 &&& (3 : Int32))), .val (.int n), .val (.int (6 : Int32)), .val (.int (2 : Int32)), .val (.long (n.toInt64)), .second, .val (.int (1 : Int32)), .unset] [(.int (6 : Int32))])) _
      refine own_go (fun _ k => XS.iconst X9.here hx rfl (hb hby at_106) k) ?_
      show own_G p e below (T9.setTop (mkF m 107 #[.val (.int p1), .val (.int p2), .val (.int (p2 &&& (3 : Int32))), .val (.int n), .val (.int (6 : Int32)), .val (.int (2 : Int32)), .val (.long (n.toInt64)), .second, .val (.int (1 : Int32)), .unset] [(.int (5 : Int32)), (.int (6 : Int32))])) _
      refine own_go (fun _ k => XS.icmpNo X9.here hx rfl (hb hby at_107) rfl (feq (by decide : ¬ ((6 : Int32) = (5 : Int32)))).1 k) ?_
      show own_G p e below (T9.setTop (mkF m 110 #[.val (.int p1), .val (.int p2), .val (.int (p2 &&& (3 : Int32))), .val (.int n), .val (.int (6 : Int32)), .val (.int (2 : Int32)), .val (.long (n.toInt64)), .second, .val (.int (1 : Int32)), .unset] [])) _
      refine own_go (fun _ k => XS.lload X9.here hx rfl (hb hby at_110) rfl k) ?_
      show own_G p e below (T9.setTop (mkF m 112 #[.val (.int p1), .val (.int p2), .val (.int (p2 &&& (3 : Int32))), .val (.int n), .val (.int (6 : Int32)), .val (.int (2 : Int32)), .val (.long (n.toInt64)), .second, .val (.int (1 : Int32)), .unset] [(.long (n.toInt64))])) _
      refine own_go (fun _ k => XS.lconst X9.here hx rfl (hb hby at_112) k) ?_
      show own_G p e below (T9.setTop (mkF m 113 #[.val (.int p1), .val (.int p2), .val (.int (p2 &&& (3 : Int32))), .val (.int n), .val (.int (6 : Int32)), .val (.int (2 : Int32)), .val (.long (n.toInt64)), .second, .val (.int (1 : Int32)), .unset] [(.long (1 : Int64)), (.long (n.toInt64))])) _
      refine own_go (fun _ k => XS.bipush X9.here hx rfl (hb hby at_113) k) ?_
      show own_G p e below (T9.setTop (mkF m 115 #[.val (.int p1), .val (.int p2), .val (.int (p2 &&& (3 : Int32))), .val (.int n), .val (.int (6 : Int32)), .val (.int (2 : Int32)), .val (.long (n.toInt64)), .second, .val (.int (1 : Int32)), .unset] [(.int (8 : Int32)), (.long (1 : Int64)), (.long (n.toInt64))])) _
      refine own_go (fun _ k => XS.iload X9.here hx rfl (hb hby at_115) rfl k) ?_
      show own_G p e below (T9.setTop (mkF m 117 #[.val (.int p1), .val (.int p2), .val (.int (p2 &&& (3 : Int32))), .val (.int n), .val (.int (6 : Int32)), .val (.int (2 : Int32)), .val (.long (n.toInt64)), .second, .val (.int (1 : Int32)), .unset] [(.int (6 : Int32)), (.int (8 : Int32)), (.long (1 : Int64)), (.long (n.toInt64))])) _
      refine own_go (fun _ k => XS.iconst X9.here hx rfl (hb hby at_117) k) ?_
      show own_G p e below (T9.setTop (mkF m 118 #[.val (.int p1), .val (.int p2), .val (.int (p2 &&& (3 : Int32))), .val (.int n), .val (.int (6 : Int32)), .val (.int (2 : Int32)), .val (.long (n.toInt64)), .second, .val (.int (1 : Int32)), .unset] [(.int (1 : Int32)), (.int (6 : Int32)), (.int (8 : Int32)), (.long (1 : Int64)), (.long (n.toInt64))])) _
      refine own_go (fun _ k => XS.isub X9.here hx rfl (hb hby at_118) rfl k) ?_
      show own_G p e below (T9.setTop (mkF m 119 #[.val (.int p1), .val (.int p2), .val (.int (p2 &&& (3 : Int32))), .val (.int n), .val (.int (6 : Int32)), .val (.int (2 : Int32)), .val (.long (n.toInt64)), .second, .val (.int (1 : Int32)), .unset] [(.int (5 : Int32)), (.int (8 : Int32)), (.long (1 : Int64)), (.long (n.toInt64))])) _
      obtain ⟨_, _, ⟨T10, L10, k10, n10⟩, -, X10, ⟨Lc10, hQ10, l10, y10, z10⟩, st10⟩ := Jvm.LawKit.callS X9 hx (y := (⟨"com/example/tagwire/tagwire/WireLengthTypePinLaw", "bytesOf", "(I)I"⟩ : MethodName)) hown (mvT hZ (hw _ (List.mem_of_getElem? (i := 4) rfl))) (mvT hZ (hw _ (List.mem_of_getElem? (i := 5) rfl))) (mvT hZ (hw _ (List.mem_of_getElem? (i := 6) rfl))) (mvT hZ (hw _ (List.mem_of_getElem? (i := 7) rfl))) (by decide) (backOf (W := 5) (rm2 l Z a0 hw [] (5 : Int32) h0 n0 Z0 ) hZ (hw _ (List.mem_of_getElem? (i := 7) rfl)) (hw _ (List.mem_of_getElem? (i := 6) rfl)) (by decide) (by decide)) (g := (mkF m 119 #[.val (.int p1), .val (.int p2), .val (.int (p2 &&& (3 : Int32))), .val (.int n), .val (.int (6 : Int32)), .val (.int (2 : Int32)), .val (.long (n.toInt64)), .second, .val (.int (1 : Int32)), .unset] [(.int (5 : Int32)), (.int (8 : Int32)), (.long (1 : Int64)), (.long (n.toInt64))])) rfl (by rw [hml]; rfl) (argsL := [(.int (5 : Int32))]) (rest := [(.int (8 : Int32)), (.long (1 : Int64)), (.long (n.toInt64))]) (lenOf pd_0 rfl) rfl (by show 2 * 0 + _ ≤ _; exact Nat.le_of_eq rfl) (hb hby at_119) (fun _ _ => ⟨rfl, e9, (by decide : 0 + 0 + 0 + 0 ≤ _), (by decide : 0 + 0 + 0 + 0 ≤ _)⟩)
      dsimp only [Pt.U, Pt.locs, Pt.cells, Pt.slots] at X10 l10 y10 z10 st10 hQ10
      subst l10 y10 z10
      obtain ⟨zz10, rfl, Nq10, hh10, hz10⟩ := hQ10
      have N10 := Fr.app N9 Nq10
      refine own_go st10 ?_
      have e10 : T10.heap = h0 := hh10
      obtain rfl : zz10 = (1 : Int32) := hz10.trans (by decide)
      show own_G p e below (T10.setTop (mkF m 122 #[.val (.int p1), .val (.int p2), .val (.int (p2 &&& (3 : Int32))), .val (.int n), .val (.int (6 : Int32)), .val (.int (2 : Int32)), .val (.long (n.toInt64)), .second, .val (.int (1 : Int32)), .unset] [(.int (1 : Int32)), (.int (8 : Int32)), (.long (1 : Int64)), (.long (n.toInt64))])) _
      refine own_go (fun _ k => XS.imul X10.here hx rfl (hb hby at_122) rfl k) ?_
      show own_G p e below (T10.setTop (mkF m 123 #[.val (.int p1), .val (.int p2), .val (.int (p2 &&& (3 : Int32))), .val (.int n), .val (.int (6 : Int32)), .val (.int (2 : Int32)), .val (.long (n.toInt64)), .second, .val (.int (1 : Int32)), .unset] [(.int (8 : Int32)), (.long (1 : Int64)), (.long (n.toInt64))])) _
      refine own_go (fun _ k => XS.lshl X10.here hx rfl (hb hby at_123) rfl k) ?_
      show own_G p e below (T10.setTop (mkF m 124 #[.val (.int p1), .val (.int p2), .val (.int (p2 &&& (3 : Int32))), .val (.int n), .val (.int (6 : Int32)), .val (.int (2 : Int32)), .val (.long (n.toInt64)), .second, .val (.int (1 : Int32)), .unset] [(.long ((1 : Int64) <<< ((8 : Int32) &&& 0x3f).toInt64)), (.long (n.toInt64))])) _
      refine own_go (fun _ k => XS.lcmp X10.here hx rfl (hb hby at_124) rfl k) ?_
      show own_G p e below (T10.setTop (mkF m 125 #[.val (.int p1), .val (.int p2), .val (.int (p2 &&& (3 : Int32))), .val (.int n), .val (.int (6 : Int32)), .val (.int (2 : Int32)), .val (.long (n.toInt64)), .second, .val (.int (1 : Int32)), .unset] [(.int (lcmpW (n.toInt64) ((1 : Int64) <<< ((8 : Int32) &&& 0x3f).toInt64)))])) _
      refine own_go (fun _ k => XS.ifNo X10.here hx rfl (hb hby at_125) rfl ((if0 _ _).trans (flt (fun q => (own_m1 n g1) ((lw_lt _ _).mp q))).1) k) ?_
      show own_G p e below (T10.setTop (mkF m 128 #[.val (.int p1), .val (.int p2), .val (.int (p2 &&& (3 : Int32))), .val (.int n), .val (.int (6 : Int32)), .val (.int (2 : Int32)), .val (.long (n.toInt64)), .second, .val (.int (1 : Int32)), .unset] [])) _
      refine own_go (fun _ k => XS.iconst X10.here hx rfl (hb hby at_128) k) ?_
      show own_G p e below (T10.setTop (mkF m 129 #[.val (.int p1), .val (.int p2), .val (.int (p2 &&& (3 : Int32))), .val (.int n), .val (.int (6 : Int32)), .val (.int (2 : Int32)), .val (.long (n.toInt64)), .second, .val (.int (1 : Int32)), .unset] [(.int (1 : Int32))])) _
      refine own_go (fun _ k => XS.goto X10.here hx rfl (pc0 := 129) (pc' := 133) rfl (hb hby at_129) (by decide) (by decide) k) ?_
      show own_G p e below (T10.setTop (mkF m 133 #[.val (.int p1), .val (.int p2), .val (.int (p2 &&& (3 : Int32))), .val (.int n), .val (.int (6 : Int32)), .val (.int (2 : Int32)), .val (.long (n.toInt64)), .second, .val (.int (1 : Int32)), .unset] [(.int (1 : Int32))])) _
      refine own_go (fun _ k => XS.istore X10.here hx rfl (hb hby at_133) rfl (l' := #[.val (.int p1), .val (.int p2), .val (.int (p2 &&& (3 : Int32))), .val (.int n), .val (.int (6 : Int32)), .val (.int (2 : Int32)), .val (.long (n.toInt64)), .second, .val (.int (1 : Int32)), .val (.int (1 : Int32))]) rfl k) ?_
      show own_G p e below (T10.setTop (mkF m 135 #[.val (.int p1), .val (.int p2), .val (.int (p2 &&& (3 : Int32))), .val (.int n), .val (.int (6 : Int32)), .val (.int (2 : Int32)), .val (.long (n.toInt64)), .second, .val (.int (1 : Int32)), .val (.int (1 : Int32))] [])) _
      refine own_go (fun _ k => XS.iload X10.here hx rfl (hb hby at_135) rfl k) ?_
      show own_G p e below (T10.setTop (mkF m 137 #[.val (.int p1), .val (.int p2), .val (.int (p2 &&& (3 : Int32))), .val (.int n), .val (.int (6 : Int32)), .val (.int (2 : Int32)), .val (.long (n.toInt64)), .second, .val (.int (1 : Int32)), .val (.int (1 : Int32))] [(.int (1 : Int32))])) _
      refine own_go (fun _ k => XS.ifNo X10.here hx rfl (hb hby at_137) rfl ((if0 _ _).trans (feq (by decide : ¬ ((1 : Int32) = (0 : Int32)))).1) k) ?_
      show own_G p e below (T10.setTop (mkF m 140 #[.val (.int p1), .val (.int p2), .val (.int (p2 &&& (3 : Int32))), .val (.int n), .val (.int (6 : Int32)), .val (.int (2 : Int32)), .val (.long (n.toInt64)), .second, .val (.int (1 : Int32)), .val (.int (1 : Int32))] [])) _
      refine own_go (fun _ k => XS.iload X10.here hx rfl (hb hby at_140) rfl k) ?_
      show own_G p e below (T10.setTop (mkF m 142 #[.val (.int p1), .val (.int p2), .val (.int (p2 &&& (3 : Int32))), .val (.int n), .val (.int (6 : Int32)), .val (.int (2 : Int32)), .val (.long (n.toInt64)), .second, .val (.int (1 : Int32)), .val (.int (1 : Int32))] [(.int (1 : Int32))])) _
      refine own_go (fun _ k => XS.ifNo X10.here hx rfl (hb hby at_142) rfl ((if0 _ _).trans (feq (by decide : ¬ ((1 : Int32) = (0 : Int32)))).1) k) ?_
      show own_G p e below (T10.setTop (mkF m 145 #[.val (.int p1), .val (.int p2), .val (.int (p2 &&& (3 : Int32))), .val (.int n), .val (.int (6 : Int32)), .val (.int (2 : Int32)), .val (.long (n.toInt64)), .second, .val (.int (1 : Int32)), .val (.int (1 : Int32))] [])) _
      refine own_go (fun _ k => XS.iconst X10.here hx rfl (hb hby at_145) k) ?_
      show own_G p e below (T10.setTop (mkF m 146 #[.val (.int p1), .val (.int p2), .val (.int (p2 &&& (3 : Int32))), .val (.int n), .val (.int (6 : Int32)), .val (.int (2 : Int32)), .val (.long (n.toInt64)), .second, .val (.int (1 : Int32)), .val (.int (1 : Int32))] [(.int (1 : Int32))])) _
      refine own_go (fun _ k => XS.goto X10.here hx rfl (pc0 := 146) (pc' := 150) rfl (hb hby at_146) (by decide) (by decide) k) ?_
      show own_G p e below (T10.setTop (mkF m 150 #[.val (.int p1), .val (.int p2), .val (.int (p2 &&& (3 : Int32))), .val (.int n), .val (.int (6 : Int32)), .val (.int (2 : Int32)), .val (.long (n.toInt64)), .second, .val (.int (1 : Int32)), .val (.int (1 : Int32))] [(.int (1 : Int32))])) _
      refine own_ret X10 hlk (v := some (.int (1 : Int32))) (fun h => by rw [hret] at h; cases h) (Q0 Z p1 p2 h0 n0) (own_retI X10 hx (t := .boolean) hret rfl (Or.inl ⟨rfl, by simp, _, rfl⟩) (hb hby at_150)) (by decide) (by decide) ?_
      show Q0 Z p1 p2 h0 n0 _ T10.heap _
      rw [e10]
      exact ⟨rfl, N10⟩
    · show own_G p e below (T7.setTop (mkF m 49 #[.val (.int p1), .val (.int p2), .val (.int (p2 &&& (3 : Int32))), .val (.int n), .unset, .unset, .unset, .unset, .unset, .unset] [(.int (7 : Int32))])) _
      refine own_go (fun _ k => XS.istore X7.here hx rfl (hb hby at_49) rfl (l' := #[.val (.int p1), .val (.int p2), .val (.int (p2 &&& (3 : Int32))), .val (.int n), .val (.int (7 : Int32)), .unset, .unset, .unset, .unset, .unset]) rfl k) ?_
      show own_G p e below (T7.setTop (mkF m 51 #[.val (.int p1), .val (.int p2), .val (.int (p2 &&& (3 : Int32))), .val (.int n), .val (.int (7 : Int32)), .unset, .unset, .unset, .unset, .unset] [])) _
      refine own_go (fun _ k => XS.iloadN X7.here hx rfl (hb hby at_51) rfl k) ?_
      show own_G p e below (T7.setTop (mkF m 52 #[.val (.int p1), .val (.int p2), .val (.int (p2 &&& (3 : Int32))), .val (.int n), .val (.int (7 : Int32)), .unset, .unset, .unset, .unset, .unset] [(.int n)])) _
      refine own_go (fun _ k => XS.ifYes X7.here hx rfl (pc0 := 52) (pc' := 66) rfl (hb hby at_52) rfl ((if0 _ _).trans (feq g0).2) (by decide) (by decide) k) ?_
      show own_G p e below (T7.setTop (mkF m 66 #[.val (.int p1), .val (.int p2), .val (.int (p2 &&& (3 : Int32))), .val (.int n), .val (.int (7 : Int32)), .unset, .unset, .unset, .unset, .unset] [])) _
      refine own_go (fun _ k => XS.iload X7.here hx rfl (hb hby at_66) rfl k) ?_
      show own_G p e below (T7.setTop (mkF m 68 #[.val (.int p1), .val (.int p2), .val (.int (p2 &&& (3 : Int32))), .val (.int n), .val (.int (7 : Int32)), .unset, .unset, .unset, .unset, .unset] [(.int (7 : Int32))])) _
      obtain ⟨_, _, ⟨T11, L11, k11, n11⟩, -, X11, ⟨Lc11, hQ11, l11, y11, z11⟩, st11⟩ := Jvm.LawKit.callS X7 hx (y := (⟨"com/example/tagwire/tagwire/WireLengthTypePinLaw", "bytesOf", "(I)I"⟩ : MethodName)) hown (mvT hZ (hw _ (List.mem_of_getElem? (i := 4) rfl))) (mvT hZ (hw _ (List.mem_of_getElem? (i := 5) rfl))) (mvT hZ (hw _ (List.mem_of_getElem? (i := 6) rfl))) (mvT hZ (hw _ (List.mem_of_getElem? (i := 7) rfl))) (by decide) (backOf (W := 0) (rm2 l Z a0 hw [] (7 : Int32) h0 n0 Z0 ) hZ (hw _ (List.mem_of_getElem? (i := 7) rfl)) (hw _ (List.mem_of_getElem? (i := 6) rfl)) (by decide) (by decide)) (g := (mkF m 68 #[.val (.int p1), .val (.int p2), .val (.int (p2 &&& (3 : Int32))), .val (.int n), .val (.int (7 : Int32)), .unset, .unset, .unset, .unset, .unset] [(.int (7 : Int32))])) rfl (by rw [hml]; rfl) (argsL := [(.int (7 : Int32))]) (rest := []) (lenOf pd_0 rfl) rfl (by show 2 * 0 + _ ≤ _; exact Nat.le_of_eq rfl) (hb hby at_68) (fun _ _ => ⟨rfl, e7, (by decide : 0 + 0 + 0 ≤ _), (by decide : 0 + 0 + 0 ≤ _)⟩)
      dsimp only [Pt.U, Pt.locs, Pt.cells, Pt.slots] at X11 l11 y11 z11 st11 hQ11
      subst l11 y11 z11
      obtain ⟨zz11, rfl, Nq11, hh11, hz11⟩ := hQ11
      have N11 := Fr.app N7 Nq11
      refine own_go st11 ?_
      have e11 : T11.heap = h0 := hh11
      obtain rfl : zz11 = (4 : Int32) := hz11.trans (by decide)
      show own_G p e below (T11.setTop (mkF m 71 #[.val (.int p1), .val (.int p2), .val (.int (p2 &&& (3 : Int32))), .val (.int n), .val (.int (7 : Int32)), .unset, .unset, .unset, .unset, .unset] [(.int (4 : Int32))])) _
      refine own_go (fun _ k => XS.istore X11.here hx rfl (hb hby at_71) rfl (l' := #[.val (.int p1), .val (.int p2), .val (.int (p2 &&& (3 : Int32))), .val (.int n), .val (.int (7 : Int32)), .val (.int (4 : Int32)), .unset, .unset, .unset, .unset]) rfl k) ?_
      show own_G p e below (T11.setTop (mkF m 73 #[.val (.int p1), .val (.int p2), .val (.int (p2 &&& (3 : Int32))), .val (.int n), .val (.int (7 : Int32)), .val (.int (4 : Int32)), .unset, .unset, .unset, .unset] [])) _
      refine own_go (fun _ k => XS.iload X11.here hx rfl (hb hby at_73) rfl k) ?_
      show own_G p e below (T11.setTop (mkF m 75 #[.val (.int p1), .val (.int p2), .val (.int (p2 &&& (3 : Int32))), .val (.int n), .val (.int (7 : Int32)), .val (.int (4 : Int32)), .unset, .unset, .unset, .unset] [(.int (4 : Int32))])) _
      refine own_go (fun _ k => XS.ifYes X11.here hx rfl (pc0 := 75) (pc' := 80) rfl (hb hby at_75) rfl ((if0 _ _).trans (flt (by decide : ¬ ((4 : Int32) < (0 : Int32)))).2.1) (by decide) (by decide) k) ?_
      show own_G p e below (T11.setTop (mkF m 80 #[.val (.int p1), .val (.int p2), .val (.int (p2 &&& (3 : Int32))), .val (.int n), .val (.int (7 : Int32)), .val (.int (4 : Int32)), .unset, .unset, .unset, .unset] [])) _
      refine own_go (fun _ k => XS.iloadN X11.here hx rfl (hb hby at_80) rfl k) ?_
      show own_G p e below (T11.setTop (mkF m 81 #[.val (.int p1), .val (.int p2), .val (.int (p2 &&& (3 : Int32))), .val (.int n), .val (.int (7 : Int32)), .val (.int (4 : Int32)), .unset, .unset, .unset, .unset] [(.int n)])) _
      refine own_go (fun _ k => XS.i2l X11.here hx rfl (hb hby at_81) rfl k) ?_
      show own_G p e below (T11.setTop (mkF m 82 #[.val (.int p1), .val (.int p2), .val (.int (p2 &&& (3 : Int32))), .val (.int n), .val (.int (7 : Int32)), .val (.int (4 : Int32)), .unset, .unset, .unset, .unset] [(.long (n.toInt64))])) _
      refine own_go (fun _ k => XS.lstore X11.here hx rfl (hb hby at_82) rfl (l' := #[.val (.int p1), .val (.int p2), .val (.int (p2 &&& (3 : Int32))), .val (.int n), .val (.int (7 : Int32)), .val (.int (4 : Int32)), .val (.long (n.toInt64)), .second, .unset, .unset]) rfl k) ?_
      show own_G p e below (T11.setTop (mkF m 84 #[.val (.int p1), .val (.int p2), .val (.int (p2 &&& (3 : Int32))), .val (.int n), .val (.int (7 : Int32)), .val (.int (4 : Int32)), .val (.long (n.toInt64)), .second, .unset, .unset] [])) _
      refine own_go (fun _ k => XS.lload X11.here hx rfl (hb hby at_84) rfl k) ?_
      show own_G p e below (T11.setTop (mkF m 86 #[.val (.int p1), .val (.int p2), .val (.int (p2 &&& (3 : Int32))), .val (.int n), .val (.int (7 : Int32)), .val (.int (4 : Int32)), .val (.long (n.toInt64)), .second, .unset, .unset] [(.long (n.toInt64))])) _
      refine own_go (fun _ k => XS.lconst X11.here hx rfl (hb hby at_86) k) ?_
      show own_G p e below (T11.setTop (mkF m 87 #[.val (.int p1), .val (.int p2), .val (.int (p2 &&& (3 : Int32))), .val (.int n), .val (.int (7 : Int32)), .val (.int (4 : Int32)), .val (.long (n.toInt64)), .second, .unset, .unset] [(.long (1 : Int64)), (.long (n.toInt64))])) _
      refine own_go (fun _ k => XS.bipush X11.here hx rfl (hb hby at_87) k) ?_
      show own_G p e below (T11.setTop (mkF m 89 #[.val (.int p1), .val (.int p2), .val (.int (p2 &&& (3 : Int32))), .val (.int n), .val (.int (7 : Int32)), .val (.int (4 : Int32)), .val (.long (n.toInt64)), .second, .unset, .unset] [(.int (8 : Int32)), (.long (1 : Int64)), (.long (n.toInt64))])) _
      refine own_go (fun _ k => XS.iload X11.here hx rfl (hb hby at_89) rfl k) ?_
      show own_G p e below (T11.setTop (mkF m 91 #[.val (.int p1), .val (.int p2), .val (.int (p2 &&& (3 : Int32))), .val (.int n), .val (.int (7 : Int32)), .val (.int (4 : Int32)), .val (.long (n.toInt64)), .second, .unset, .unset] [(.int (4 : Int32)), (.int (8 : Int32)), (.long (1 : Int64)), (.long (n.toInt64))])) _
      refine own_go (fun _ k => XS.imul X11.here hx rfl (hb hby at_91) rfl k) ?_
      show own_G p e below (T11.setTop (mkF m 92 #[.val (.int p1), .val (.int p2), .val (.int (p2 &&& (3 : Int32))), .val (.int n), .val (.int (7 : Int32)), .val (.int (4 : Int32)), .val (.long (n.toInt64)), .second, .unset, .unset] [(.int (32 : Int32)), (.long (1 : Int64)), (.long (n.toInt64))])) _
      refine own_go (fun _ k => XS.lshl X11.here hx rfl (hb hby at_92) rfl k) ?_
      show own_G p e below (T11.setTop (mkF m 93 #[.val (.int p1), .val (.int p2), .val (.int (p2 &&& (3 : Int32))), .val (.int n), .val (.int (7 : Int32)), .val (.int (4 : Int32)), .val (.long (n.toInt64)), .second, .unset, .unset] [(.long ((1 : Int64) <<< ((32 : Int32) &&& 0x3f).toInt64)), (.long (n.toInt64))])) _
      refine own_go (fun _ k => XS.lcmp X11.here hx rfl (hb hby at_93) rfl k) ?_
      show own_G p e below (T11.setTop (mkF m 94 #[.val (.int p1), .val (.int p2), .val (.int (p2 &&& (3 : Int32))), .val (.int n), .val (.int (7 : Int32)), .val (.int (4 : Int32)), .val (.long (n.toInt64)), .second, .unset, .unset] [(.int (lcmpW (n.toInt64) ((1 : Int64) <<< ((32 : Int32) &&& 0x3f).toInt64)))])) _
      refine own_go (fun _ k => XS.ifNo X11.here hx rfl (hb hby at_94) rfl ((if0 _ _).trans (tlt ((lw_lt _ _).mpr (own_f3 n))).2.1) k) ?_
      show own_G p e below (T11.setTop (mkF m 97 #[.val (.int p1), .val (.int p2), .val (.int (p2 &&& (3 : Int32))), .val (.int n), .val (.int (7 : Int32)), .val (.int (4 : Int32)), .val (.long (n.toInt64)), .second, .unset, .unset] [])) _
      refine own_go (fun _ k => XS.iconst X11.here hx rfl (hb hby at_97) k) ?_
      show own_G p e below (T11.setTop (mkF m 98 #[.val (.int p1), .val (.int p2), .val (.int (p2 &&& (3 : Int32))), .val (.int n), .val (.int (7 : Int32)), .val (.int (4 : Int32)), .val (.long (n.toInt64)), .second, .unset, .unset] [(.int (1 : Int32))])) _
      refine own_go (fun _ k => XS.goto X11.here hx rfl (pc0 := 98) (pc' := 102) rfl (hb hby at_98) (by decide) (by decide) k) ?_
      show own_G p e below (T11.setTop (mkF m 102 #[.val (.int p1), .val (.int p2), .val (.int (p2 &&& (3 : Int32))), .val (.int n), .val (.int (7 : Int32)), .val (.int (4 : Int32)), .val (.long (n.toInt64)), .second, .unset, .unset] [(.int (1 : Int32))])) _
      refine own_go (fun _ k => XS.istore X11.here hx rfl (hb hby at_102) rfl (l' := #[.val (.int p1), .val (.int p2), .val (.int (p2 &&& (3 : Int32))), .val (.int n), .val (.int (7 : Int32)), .val (.int (4 : Int32)), .val (.long (n.toInt64)), .second, .val (.int (1 : Int32)), .unset]) rfl k) ?_
      show own_G p e below (T11.setTop (mkF m 104 #[.val (.int p1), .val (.int p2), .val (.int (p2 &&& (3 : Int32))), .val (.int n), .val (.int (7 : Int32)), .val (.int (4 : Int32)), .val (.long (n.toInt64)), .second, .val (.int (1 : Int32)), .unset] [])) _
      refine own_go (fun _ k => XS.iload X11.here hx rfl (hb hby at_104) rfl k) ?_
      show own_G p e below (T11.setTop (mkF m 106 #[.val (.int p1), .val (.int p2), .val (.int (p2 &&& (3 : Int32))), .val (.int n), .val (.int (7 : Int32)), .val (.int (4 : Int32)), .val (.long (n.toInt64)), .second, .val (.int (1 : Int32)), .unset] [(.int (7 : Int32))])) _
      refine own_go (fun _ k => XS.iconst X11.here hx rfl (hb hby at_106) k) ?_
      show own_G p e below (T11.setTop (mkF m 107 #[.val (.int p1), .val (.int p2), .val (.int (p2 &&& (3 : Int32))), .val (.int n), .val (.int (7 : Int32)), .val (.int (4 : Int32)), .val (.long (n.toInt64)), .second, .val (.int (1 : Int32)), .unset] [(.int (5 : Int32)), (.int (7 : Int32))])) _
      refine own_go (fun _ k => XS.icmpNo X11.here hx rfl (hb hby at_107) rfl (feq (by decide : ¬ ((7 : Int32) = (5 : Int32)))).1 k) ?_
      show own_G p e below (T11.setTop (mkF m 110 #[.val (.int p1), .val (.int p2), .val (.int (p2 &&& (3 : Int32))), .val (.int n), .val (.int (7 : Int32)), .val (.int (4 : Int32)), .val (.long (n.toInt64)), .second, .val (.int (1 : Int32)), .unset] [])) _
      refine own_go (fun _ k => XS.lload X11.here hx rfl (hb hby at_110) rfl k) ?_
      show own_G p e below (T11.setTop (mkF m 112 #[.val (.int p1), .val (.int p2), .val (.int (p2 &&& (3 : Int32))), .val (.int n), .val (.int (7 : Int32)), .val (.int (4 : Int32)), .val (.long (n.toInt64)), .second, .val (.int (1 : Int32)), .unset] [(.long (n.toInt64))])) _
      refine own_go (fun _ k => XS.lconst X11.here hx rfl (hb hby at_112) k) ?_
      show own_G p e below (T11.setTop (mkF m 113 #[.val (.int p1), .val (.int p2), .val (.int (p2 &&& (3 : Int32))), .val (.int n), .val (.int (7 : Int32)), .val (.int (4 : Int32)), .val (.long (n.toInt64)), .second, .val (.int (1 : Int32)), .unset] [(.long (1 : Int64)), (.long (n.toInt64))])) _
      refine own_go (fun _ k => XS.bipush X11.here hx rfl (hb hby at_113) k) ?_
      show own_G p e below (T11.setTop (mkF m 115 #[.val (.int p1), .val (.int p2), .val (.int (p2 &&& (3 : Int32))), .val (.int n), .val (.int (7 : Int32)), .val (.int (4 : Int32)), .val (.long (n.toInt64)), .second, .val (.int (1 : Int32)), .unset] [(.int (8 : Int32)), (.long (1 : Int64)), (.long (n.toInt64))])) _
      refine own_go (fun _ k => XS.iload X11.here hx rfl (hb hby at_115) rfl k) ?_
      show own_G p e below (T11.setTop (mkF m 117 #[.val (.int p1), .val (.int p2), .val (.int (p2 &&& (3 : Int32))), .val (.int n), .val (.int (7 : Int32)), .val (.int (4 : Int32)), .val (.long (n.toInt64)), .second, .val (.int (1 : Int32)), .unset] [(.int (7 : Int32)), (.int (8 : Int32)), (.long (1 : Int64)), (.long (n.toInt64))])) _
      refine own_go (fun _ k => XS.iconst X11.here hx rfl (hb hby at_117) k) ?_
      show own_G p e below (T11.setTop (mkF m 118 #[.val (.int p1), .val (.int p2), .val (.int (p2 &&& (3 : Int32))), .val (.int n), .val (.int (7 : Int32)), .val (.int (4 : Int32)), .val (.long (n.toInt64)), .second, .val (.int (1 : Int32)), .unset] [(.int (1 : Int32)), (.int (7 : Int32)), (.int (8 : Int32)), (.long (1 : Int64)), (.long (n.toInt64))])) _
      refine own_go (fun _ k => XS.isub X11.here hx rfl (hb hby at_118) rfl k) ?_
      show own_G p e below (T11.setTop (mkF m 119 #[.val (.int p1), .val (.int p2), .val (.int (p2 &&& (3 : Int32))), .val (.int n), .val (.int (7 : Int32)), .val (.int (4 : Int32)), .val (.long (n.toInt64)), .second, .val (.int (1 : Int32)), .unset] [(.int (6 : Int32)), (.int (8 : Int32)), (.long (1 : Int64)), (.long (n.toInt64))])) _
      obtain ⟨_, _, ⟨T12, L12, k12, n12⟩, -, X12, ⟨Lc12, hQ12, l12, y12, z12⟩, st12⟩ := Jvm.LawKit.callS X11 hx (y := (⟨"com/example/tagwire/tagwire/WireLengthTypePinLaw", "bytesOf", "(I)I"⟩ : MethodName)) hown (mvT hZ (hw _ (List.mem_of_getElem? (i := 4) rfl))) (mvT hZ (hw _ (List.mem_of_getElem? (i := 5) rfl))) (mvT hZ (hw _ (List.mem_of_getElem? (i := 6) rfl))) (mvT hZ (hw _ (List.mem_of_getElem? (i := 7) rfl))) (by decide) (backOf (W := 5) (rm2 l Z a0 hw [] (6 : Int32) h0 n0 Z0 ) hZ (hw _ (List.mem_of_getElem? (i := 7) rfl)) (hw _ (List.mem_of_getElem? (i := 6) rfl)) (by decide) (by decide)) (g := (mkF m 119 #[.val (.int p1), .val (.int p2), .val (.int (p2 &&& (3 : Int32))), .val (.int n), .val (.int (7 : Int32)), .val (.int (4 : Int32)), .val (.long (n.toInt64)), .second, .val (.int (1 : Int32)), .unset] [(.int (6 : Int32)), (.int (8 : Int32)), (.long (1 : Int64)), (.long (n.toInt64))])) rfl (by rw [hml]; rfl) (argsL := [(.int (6 : Int32))]) (rest := [(.int (8 : Int32)), (.long (1 : Int64)), (.long (n.toInt64))]) (lenOf pd_0 rfl) rfl (by show 2 * 0 + _ ≤ _; exact Nat.le_of_eq rfl) (hb hby at_119) (fun _ _ => ⟨rfl, e11, (by decide : 0 + 0 + 0 + 0 ≤ _), (by decide : 0 + 0 + 0 + 0 ≤ _)⟩)
      dsimp only [Pt.U, Pt.locs, Pt.cells, Pt.slots] at X12 l12 y12 z12 st12 hQ12
      subst l12 y12 z12
      obtain ⟨zz12, rfl, Nq12, hh12, hz12⟩ := hQ12
      have N12 := Fr.app N11 Nq12
      refine own_go st12 ?_
      have e12 : T12.heap = h0 := hh12
      obtain rfl : zz12 = (2 : Int32) := hz12.trans (by decide)
      show own_G p e below (T12.setTop (mkF m 122 #[.val (.int p1), .val (.int p2), .val (.int (p2 &&& (3 : Int32))), .val (.int n), .val (.int (7 : Int32)), .val (.int (4 : Int32)), .val (.long (n.toInt64)), .second, .val (.int (1 : Int32)), .unset] [(.int (2 : Int32)), (.int (8 : Int32)), (.long (1 : Int64)), (.long (n.toInt64))])) _
      refine own_go (fun _ k => XS.imul X12.here hx rfl (hb hby at_122) rfl k) ?_
      show own_G p e below (T12.setTop (mkF m 123 #[.val (.int p1), .val (.int p2), .val (.int (p2 &&& (3 : Int32))), .val (.int n), .val (.int (7 : Int32)), .val (.int (4 : Int32)), .val (.long (n.toInt64)), .second, .val (.int (1 : Int32)), .unset] [(.int (16 : Int32)), (.long (1 : Int64)), (.long (n.toInt64))])) _
      refine own_go (fun _ k => XS.lshl X12.here hx rfl (hb hby at_123) rfl k) ?_
      show own_G p e below (T12.setTop (mkF m 124 #[.val (.int p1), .val (.int p2), .val (.int (p2 &&& (3 : Int32))), .val (.int n), .val (.int (7 : Int32)), .val (.int (4 : Int32)), .val (.long (n.toInt64)), .second, .val (.int (1 : Int32)), .unset] [(.long ((1 : Int64) <<< ((16 : Int32) &&& 0x3f).toInt64)), (.long (n.toInt64))])) _
      refine own_go (fun _ k => XS.lcmp X12.here hx rfl (hb hby at_124) rfl k) ?_
      show own_G p e below (T12.setTop (mkF m 125 #[.val (.int p1), .val (.int p2), .val (.int (p2 &&& (3 : Int32))), .val (.int n), .val (.int (7 : Int32)), .val (.int (4 : Int32)), .val (.long (n.toInt64)), .second, .val (.int (1 : Int32)), .unset] [(.int (lcmpW (n.toInt64) ((1 : Int64) <<< ((16 : Int32) &&& 0x3f).toInt64)))])) _
      refine own_go (fun _ k => XS.ifNo X12.here hx rfl (hb hby at_125) rfl ((if0 _ _).trans (flt (fun q => (own_m2 n g2) ((lw_lt _ _).mp q))).1) k) ?_
      show own_G p e below (T12.setTop (mkF m 128 #[.val (.int p1), .val (.int p2), .val (.int (p2 &&& (3 : Int32))), .val (.int n), .val (.int (7 : Int32)), .val (.int (4 : Int32)), .val (.long (n.toInt64)), .second, .val (.int (1 : Int32)), .unset] [])) _
      refine own_go (fun _ k => XS.iconst X12.here hx rfl (hb hby at_128) k) ?_
      show own_G p e below (T12.setTop (mkF m 129 #[.val (.int p1), .val (.int p2), .val (.int (p2 &&& (3 : Int32))), .val (.int n), .val (.int (7 : Int32)), .val (.int (4 : Int32)), .val (.long (n.toInt64)), .second, .val (.int (1 : Int32)), .unset] [(.int (1 : Int32))])) _
      refine own_go (fun _ k => XS.goto X12.here hx rfl (pc0 := 129) (pc' := 133) rfl (hb hby at_129) (by decide) (by decide) k) ?_
      show own_G p e below (T12.setTop (mkF m 133 #[.val (.int p1), .val (.int p2), .val (.int (p2 &&& (3 : Int32))), .val (.int n), .val (.int (7 : Int32)), .val (.int (4 : Int32)), .val (.long (n.toInt64)), .second, .val (.int (1 : Int32)), .unset] [(.int (1 : Int32))])) _
      refine own_go (fun _ k => XS.istore X12.here hx rfl (hb hby at_133) rfl (l' := #[.val (.int p1), .val (.int p2), .val (.int (p2 &&& (3 : Int32))), .val (.int n), .val (.int (7 : Int32)), .val (.int (4 : Int32)), .val (.long (n.toInt64)), .second, .val (.int (1 : Int32)), .val (.int (1 : Int32))]) rfl k) ?_
      show own_G p e below (T12.setTop (mkF m 135 #[.val (.int p1), .val (.int p2), .val (.int (p2 &&& (3 : Int32))), .val (.int n), .val (.int (7 : Int32)), .val (.int (4 : Int32)), .val (.long (n.toInt64)), .second, .val (.int (1 : Int32)), .val (.int (1 : Int32))] [])) _
      refine own_go (fun _ k => XS.iload X12.here hx rfl (hb hby at_135) rfl k) ?_
      show own_G p e below (T12.setTop (mkF m 137 #[.val (.int p1), .val (.int p2), .val (.int (p2 &&& (3 : Int32))), .val (.int n), .val (.int (7 : Int32)), .val (.int (4 : Int32)), .val (.long (n.toInt64)), .second, .val (.int (1 : Int32)), .val (.int (1 : Int32))] [(.int (1 : Int32))])) _
      refine own_go (fun _ k => XS.ifNo X12.here hx rfl (hb hby at_137) rfl ((if0 _ _).trans (feq (by decide : ¬ ((1 : Int32) = (0 : Int32)))).1) k) ?_
      show own_G p e below (T12.setTop (mkF m 140 #[.val (.int p1), .val (.int p2), .val (.int (p2 &&& (3 : Int32))), .val (.int n), .val (.int (7 : Int32)), .val (.int (4 : Int32)), .val (.long (n.toInt64)), .second, .val (.int (1 : Int32)), .val (.int (1 : Int32))] [])) _
      refine own_go (fun _ k => XS.iload X12.here hx rfl (hb hby at_140) rfl k) ?_
      show own_G p e below (T12.setTop (mkF m 142 #[.val (.int p1), .val (.int p2), .val (.int (p2 &&& (3 : Int32))), .val (.int n), .val (.int (7 : Int32)), .val (.int (4 : Int32)), .val (.long (n.toInt64)), .second, .val (.int (1 : Int32)), .val (.int (1 : Int32))] [(.int (1 : Int32))])) _
      refine own_go (fun _ k => XS.ifNo X12.here hx rfl (hb hby at_142) rfl ((if0 _ _).trans (feq (by decide : ¬ ((1 : Int32) = (0 : Int32)))).1) k) ?_
      show own_G p e below (T12.setTop (mkF m 145 #[.val (.int p1), .val (.int p2), .val (.int (p2 &&& (3 : Int32))), .val (.int n), .val (.int (7 : Int32)), .val (.int (4 : Int32)), .val (.long (n.toInt64)), .second, .val (.int (1 : Int32)), .val (.int (1 : Int32))] [])) _
      refine own_go (fun _ k => XS.iconst X12.here hx rfl (hb hby at_145) k) ?_
      show own_G p e below (T12.setTop (mkF m 146 #[.val (.int p1), .val (.int p2), .val (.int (p2 &&& (3 : Int32))), .val (.int n), .val (.int (7 : Int32)), .val (.int (4 : Int32)), .val (.long (n.toInt64)), .second, .val (.int (1 : Int32)), .val (.int (1 : Int32))] [(.int (1 : Int32))])) _
      refine own_go (fun _ k => XS.goto X12.here hx rfl (pc0 := 146) (pc' := 150) rfl (hb hby at_146) (by decide) (by decide) k) ?_
      show own_G p e below (T12.setTop (mkF m 150 #[.val (.int p1), .val (.int p2), .val (.int (p2 &&& (3 : Int32))), .val (.int n), .val (.int (7 : Int32)), .val (.int (4 : Int32)), .val (.long (n.toInt64)), .second, .val (.int (1 : Int32)), .val (.int (1 : Int32))] [(.int (1 : Int32))])) _
      refine own_ret X12 hlk (v := some (.int (1 : Int32))) (fun h => by rw [hret] at h; cases h) (Q0 Z p1 p2 h0 n0) (own_retI X12 hx (t := .boolean) hret rfl (Or.inl ⟨rfl, by simp, _, rfl⟩) (hb hby at_150)) (by decide) (by decide) ?_
      show Q0 Z p1 p2 h0 n0 _ T12.heap _
      rw [e12]
      exact ⟨rfl, N12⟩
  show own_G p e below (s₁.setTop (mkF m 4 #[.val (.int p1), .val (.int p2), .val (.int (p2 &&& (3 : Int32))), .unset, .unset, .unset, .unset, .unset, .unset, .unset] [])) _
  refine own_go (fun _ k => XS.iloadN X0.here hx rfl (hb hby at_4) rfl k) ?_
  show own_G p e below (s₁.setTop (mkF m 5 #[.val (.int p1), .val (.int p2), .val (.int (p2 &&& (3 : Int32))), .unset, .unset, .unset, .unset, .unset, .unset, .unset] [(.int (p2 &&& (3 : Int32)))])) _
  by_cases hc5_13 : (p2 &&& (3 : Int32)) = (0 : Int32)
  · refine own_go (fun _ k => XS.ifNo X0.here hx rfl (hb hby at_5) rfl ((if0 _ _).trans (teq hc5_13).2) k) ?_
    show own_G p e below (s₁.setTop (mkF m 8 #[.val (.int p1), .val (.int p2), .val (.int (p2 &&& (3 : Int32))), .unset, .unset, .unset, .unset, .unset, .unset, .unset] [])) _
    refine own_go (fun _ k => XS.iloadN X0.here hx rfl (hb hby at_8) rfl k) ?_
    show own_G p e below (s₁.setTop (mkF m 9 #[.val (.int p1), .val (.int p2), .val (.int (p2 &&& (3 : Int32))), .unset, .unset, .unset, .unset, .unset, .unset, .unset] [(.int p1)])) _
    refine own_go (X0.ldcInt hx hown (mvT hZ (hw _ (List.mem_of_getElem? (i := 8) rfl))) (g := (mkF m 9 #[.val (.int p1), .val (.int p2), .val (.int (p2 &&& (3 : Int32))), .unset, .unset, .unset, .unset, .unset, .unset, .unset] [(.int p1)])) rfl (hb hby at_9)) ?_
    show own_G p e below (s₁.setTop (mkF m 11 #[.val (.int p1), .val (.int p2), .val (.int (p2 &&& (3 : Int32))), .unset, .unset, .unset, .unset, .unset, .unset, .unset] [(.int (2147483647 : Int32)), (.int p1)])) _
    refine own_go (fun _ k => XS.iand X0.here hx rfl (hb hby at_11) rfl k) ?_
    show own_G p e below (s₁.setTop (mkF m 12 #[.val (.int p1), .val (.int p2), .val (.int (p2 &&& (3 : Int32))), .unset, .unset, .unset, .unset, .unset, .unset, .unset] [(.int (p1 &&& (2147483647 : Int32)))])) _
    refine own_go (fun _ k => XS.istoreN X0.here hx rfl (hb hby at_12) rfl (l' := #[.val (.int p1), .val (.int p2), .val (.int (p2 &&& (3 : Int32))), .val (.int (p1 &&& (2147483647 : Int32))), .unset, .unset, .unset, .unset, .unset, .unset]) rfl k) ?_
    show own_G p e below (s₁.setTop (mkF m 13 #[.val (.int p1), .val (.int p2), .val (.int (p2 &&& (3 : Int32))), .val (.int (p1 &&& (2147483647 : Int32))), .unset, .unset, .unset, .unset, .unset, .unset] [])) _
    refine own_go (fun _ k => XS.goto X0.here hx rfl (pc0 := 13) (pc' := 45) rfl (hb hby at_13) (by decide) (by decide) k) ?_
    show own_G p e below (s₁.setTop (mkF m 45 #[.val (.int p1), .val (.int p2), .val (.int (p2 &&& (3 : Int32))), .val (.int (p1 &&& (2147483647 : Int32))), .unset, .unset, .unset, .unset, .unset, .unset] [])) _
    exact J45 _ (own_nn31 p1)
  · refine own_go (fun _ k => XS.ifYes X0.here hx rfl (pc0 := 5) (pc' := 16) rfl (hb hby at_5) rfl ((if0 _ _).trans (feq hc5_13).2) (by decide) (by decide) k) ?_
    show own_G p e below (s₁.setTop (mkF m 16 #[.val (.int p1), .val (.int p2), .val (.int (p2 &&& (3 : Int32))), .unset, .unset, .unset, .unset, .unset, .unset, .unset] [])) _
    refine own_go (fun _ k => XS.iloadN X0.here hx rfl (hb hby at_16) rfl k) ?_
    show own_G p e below (s₁.setTop (mkF m 17 #[.val (.int p1), .val (.int p2), .val (.int (p2 &&& (3 : Int32))), .unset, .unset, .unset, .unset, .unset, .unset, .unset] [(.int (p2 &&& (3 : Int32)))])) _
    refine own_go (fun _ k => XS.iconst X0.here hx rfl (hb hby at_17) k) ?_
    show own_G p e below (s₁.setTop (mkF m 18 #[.val (.int p1), .val (.int p2), .val (.int (p2 &&& (3 : Int32))), .unset, .unset, .unset, .unset, .unset, .unset, .unset] [(.int (1 : Int32)), (.int (p2 &&& (3 : Int32)))])) _
    by_cases hc18_14 : (p2 &&& (3 : Int32)) = (1 : Int32)
    · refine own_go (fun _ k => XS.icmpNo X0.here hx rfl (hb hby at_18) rfl (teq hc18_14).2 k) ?_
      show own_G p e below (s₁.setTop (mkF m 21 #[.val (.int p1), .val (.int p2), .val (.int (p2 &&& (3 : Int32))), .unset, .unset, .unset, .unset, .unset, .unset, .unset] [])) _
      refine own_go (fun _ k => XS.iloadN X0.here hx rfl (hb hby at_21) rfl k) ?_
      show own_G p e below (s₁.setTop (mkF m 22 #[.val (.int p1), .val (.int p2), .val (.int (p2 &&& (3 : Int32))), .unset, .unset, .unset, .unset, .unset, .unset, .unset] [(.int p1)])) _
      refine own_go (fun _ k => XS.sipush X0.here hx rfl (hb hby at_22) k) ?_
      show own_G p e below (s₁.setTop (mkF m 25 #[.val (.int p1), .val (.int p2), .val (.int (p2 &&& (3 : Int32))), .unset, .unset, .unset, .unset, .unset, .unset, .unset] [(.int (511 : Int32)), (.int p1)])) _
      refine own_go (fun _ k => XS.iand X0.here hx rfl (hb hby at_25) rfl k) ?_
      show own_G p e below (s₁.setTop (mkF m 26 #[.val (.int p1), .val (.int p2), .val (.int (p2 &&& (3 : Int32))), .unset, .unset, .unset, .unset, .unset, .unset, .unset] [(.int (p1 &&& (511 : Int32)))])) _
      refine own_go (fun _ k => XS.istoreN X0.here hx rfl (hb hby at_26) rfl (l' := #[.val (.int p1), .val (.int p2), .val (.int (p2 &&& (3 : Int32))), .val (.int (p1 &&& (511 : Int32))), .unset, .unset, .unset, .unset, .unset, .unset]) rfl k) ?_
      show own_G p e below (s₁.setTop (mkF m 27 #[.val (.int p1), .val (.int p2), .val (.int (p2 &&& (3 : Int32))), .val (.int (p1 &&& (511 : Int32))), .unset, .unset, .unset, .unset, .unset, .unset] [])) _
      refine own_go (fun _ k => XS.goto X0.here hx rfl (pc0 := 27) (pc' := 45) rfl (hb hby at_27) (by decide) (by decide) k) ?_
      show own_G p e below (s₁.setTop (mkF m 45 #[.val (.int p1), .val (.int p2), .val (.int (p2 &&& (3 : Int32))), .val (.int (p1 &&& (511 : Int32))), .unset, .unset, .unset, .unset, .unset, .unset] [])) _
      exact J45 _ (own_nn9 p1)
    · refine own_go (fun _ k => XS.icmpYes X0.here hx rfl (pc0 := 18) (pc' := 30) rfl (hb hby at_18) rfl (feq hc18_14).2 (by decide) (by decide) k) ?_
      show own_G p e below (s₁.setTop (mkF m 30 #[.val (.int p1), .val (.int p2), .val (.int (p2 &&& (3 : Int32))), .unset, .unset, .unset, .unset, .unset, .unset, .unset] [])) _
      refine own_go (fun _ k => XS.iloadN X0.here hx rfl (hb hby at_30) rfl k) ?_
      show own_G p e below (s₁.setTop (mkF m 31 #[.val (.int p1), .val (.int p2), .val (.int (p2 &&& (3 : Int32))), .unset, .unset, .unset, .unset, .unset, .unset, .unset] [(.int (p2 &&& (3 : Int32)))])) _
      refine own_go (fun _ k => XS.iconst X0.here hx rfl (hb hby at_31) k) ?_
      show own_G p e below (s₁.setTop (mkF m 32 #[.val (.int p1), .val (.int p2), .val (.int (p2 &&& (3 : Int32))), .unset, .unset, .unset, .unset, .unset, .unset, .unset] [(.int (2 : Int32)), (.int (p2 &&& (3 : Int32)))])) _
      by_cases hc32_15 : (p2 &&& (3 : Int32)) = (2 : Int32)
      · refine own_go (fun _ k => XS.icmpNo X0.here hx rfl (hb hby at_32) rfl (teq hc32_15).2 k) ?_
        show own_G p e below (s₁.setTop (mkF m 35 #[.val (.int p1), .val (.int p2), .val (.int (p2 &&& (3 : Int32))), .unset, .unset, .unset, .unset, .unset, .unset, .unset] [])) _
        refine own_go (fun _ k => XS.iloadN X0.here hx rfl (hb hby at_35) rfl k) ?_
        show own_G p e below (s₁.setTop (mkF m 36 #[.val (.int p1), .val (.int p2), .val (.int (p2 &&& (3 : Int32))), .unset, .unset, .unset, .unset, .unset, .unset, .unset] [(.int p1)])) _
        refine own_go (X0.ldcInt hx hown (mvT hZ (hw _ (List.mem_of_getElem? (i := 10) rfl))) (g := (mkF m 36 #[.val (.int p1), .val (.int p2), .val (.int (p2 &&& (3 : Int32))), .unset, .unset, .unset, .unset, .unset, .unset, .unset] [(.int p1)])) rfl (hb hby at_36)) ?_
        show own_G p e below (s₁.setTop (mkF m 38 #[.val (.int p1), .val (.int p2), .val (.int (p2 &&& (3 : Int32))), .unset, .unset, .unset, .unset, .unset, .unset, .unset] [(.int (131071 : Int32)), (.int p1)])) _
        refine own_go (fun _ k => XS.iand X0.here hx rfl (hb hby at_38) rfl k) ?_
        show own_G p e below (s₁.setTop (mkF m 39 #[.val (.int p1), .val (.int p2), .val (.int (p2 &&& (3 : Int32))), .unset, .unset, .unset, .unset, .unset, .unset, .unset] [(.int (p1 &&& (131071 : Int32)))])) _
        refine own_go (fun _ k => XS.istoreN X0.here hx rfl (hb hby at_39) rfl (l' := #[.val (.int p1), .val (.int p2), .val (.int (p2 &&& (3 : Int32))), .val (.int (p1 &&& (131071 : Int32))), .unset, .unset, .unset, .unset, .unset, .unset]) rfl k) ?_
        show own_G p e below (s₁.setTop (mkF m 40 #[.val (.int p1), .val (.int p2), .val (.int (p2 &&& (3 : Int32))), .val (.int (p1 &&& (131071 : Int32))), .unset, .unset, .unset, .unset, .unset, .unset] [])) _
        refine own_go (fun _ k => XS.goto X0.here hx rfl (pc0 := 40) (pc' := 45) rfl (hb hby at_40) (by decide) (by decide) k) ?_
        show own_G p e below (s₁.setTop (mkF m 45 #[.val (.int p1), .val (.int p2), .val (.int (p2 &&& (3 : Int32))), .val (.int (p1 &&& (131071 : Int32))), .unset, .unset, .unset, .unset, .unset, .unset] [])) _
        exact J45 _ (own_nn17 p1)
      · refine own_go (fun _ k => XS.icmpYes X0.here hx rfl (pc0 := 32) (pc' := 43) rfl (hb hby at_32) rfl (feq hc32_15).2 (by decide) (by decide) k) ?_
        show own_G p e below (s₁.setTop (mkF m 43 #[.val (.int p1), .val (.int p2), .val (.int (p2 &&& (3 : Int32))), .unset, .unset, .unset, .unset, .unset, .unset, .unset] [])) _
        refine own_go (fun _ k => XS.iconst X0.here hx rfl (hb hby at_43) k) ?_
        show own_G p e below (s₁.setTop (mkF m 44 #[.val (.int p1), .val (.int p2), .val (.int (p2 &&& (3 : Int32))), .unset, .unset, .unset, .unset, .unset, .unset, .unset] [(.int (0 : Int32))])) _
        refine own_go (fun _ k => XS.istoreN X0.here hx rfl (hb hby at_44) rfl (l' := #[.val (.int p1), .val (.int p2), .val (.int (p2 &&& (3 : Int32))), .val (.int (0 : Int32)), .unset, .unset, .unset, .unset, .unset, .unset]) rfl k) ?_
        show own_G p e below (s₁.setTop (mkF m 45 #[.val (.int p1), .val (.int p2), .val (.int (p2 &&& (3 : Int32))), .val (.int (0 : Int32)), .unset, .unset, .unset, .unset, .unset, .unset] [])) _
        exact J45 _ (by decide)
set_option maxRecDepth 65536 in
set_option maxHeartbeats 40000000 in
theorem comes_1 {Post : Tables → Env → Array Value → State → Outcome → State → Prop} (hpost : ∀ tb e args s v u, (limb_1_1.after args s (.returned v) u = true ∧ limb_1_2.after args s (.returned v) u = true ∧ True) → FrameEnd s (.returned v) u (Jvm.fieldLocs frame_1_writes args s ++ Jvm.arrayLocs frame_1_arrays args s ++ Jvm.staticLocs frame_1_statics s) 0 0 → Post tb e args s (.returned v) u) :
    ArmFor flags0 classFile x code maxLocals ret World_1 tables_1 room_1 Calls_1 rest_1 Pre_1 Post := by
  intro l hfl _ _ p e ha hc hk s m args below hf hA hF happ hP
  obtain ⟨hcalls, hrest, hpre⟩ := hP
  obtain ⟨-, -, -, hnamed, -, -, -, hat⟩ := (Spec.applies_iff hf).mp happ
  obtain ⟨hg, hn⟩ := and_e (Cond.before_iff.mp (show (Jvm.Cond.and given_1 narrow_1).before args s = true from hpre))
  obtain ⟨g1, g2⟩ := and_e hg
  obtain ⟨g3, g4⟩ := and_e g2
  obtain ⟨w0, w1, rfl⟩ : ∃ w0 w1 : Value, args = #[w0, w1] := by
    have hs : args.size = 2 := by simpa [Cond.value, given_1] using g1
    obtain ⟨L⟩ := args
    match L, hs with
    | [w0, w1], _ => exact ⟨w0, w1, rfl⟩
  have hw := fun d (hd : d ∈ tables_1) => atoms_spec (ws := Jvm.Cond.code x code maxLocals ret :: tables_1) hat d (List.mem_cons_of_mem _ hd)
  obtain ⟨i0, ei0⟩ := is_v g3
  obtain rfl : w0 = (.int i0) := Option.some.inj ei0
  obtain ⟨i1, ei1⟩ := is_v g4
  obtain rfl : w1 = (.int i1) := Option.some.inj ei1
  obtain ⟨n, o, h1, h2, h3, _, L, rfl, ⟨rfl, N⟩, hq⟩ := rm0 l s _ hw tables_1 i0 i1 s.heap s.heap.size (Nat.le_refl _) p e ha hc hk s m _ below hf ((Spec.applies_iff_loose hf).mp happ).1 ⟨rfl, State.Warmed39.refl s, rfl⟩ trivial
  refine ⟨n, _, h1, h2, h3, hpost _ _ _ _ _ _ ⟨Cond.after_iff.mpr rfl, Cond.after_iff.mpr (eq_i res_at (Term.int_eval (1)) rfl), trivial⟩ ⟨hq.1, hq.2.1, (hq.2.2.sift fun y hy => Or.inr (N y hy)).mono (by decide) (by decide)⟩⟩
theorem main_1_1 : Claimed_1_1 := comes_1 fun _ _ _ _ _ _ h hF => ⟨h.1, hF⟩
theorem main_1_2 : Claimed_1_2 := comes_1 fun _ _ _ _ _ _ h hF => ⟨h.2.1, hF⟩
end Jvm.Pilot.@@N@@
namespace Jvm.Pilot.@@N@@
open Jvm Jvm.ClassFile Sem Op Lib Jvm.Free Jvm.Stand Jvm.Pilot.@@N@@.Jvm.D
/-! MADE BY PROGRAM (witnessworld.py) out of the Statement's table words and the real class files: 9 classes; the members and pool entries that the words name. The judged class is class 1, her method 1. -/
namespace start1
open Jvm.ClassFile
def u (s : String) : CpInfo := .utf8 (stringToUtf16 s)
/-- a pool by its gaps: so many unusable entries, then the entry; so many at the end -/
def gap : Nat → List CpInfo → List CpInfo
  | 0, r => r
  | n + 1, r => .unusable :: gap n r
def poolList (es : List (Nat × CpInfo)) (last : Nat) : List CpInfo := es.foldr (fun e r => gap e.1 (e.2 :: r)) (gap last [])
def pool (es : List (Nat × CpInfo)) (last : Nat) : Array CpInfo := ⟨poolList es last⟩
def fileOf (pool : Array CpInfo) (this : Nat) (attrs : Array Attribute := #[]) (ms : Array MethodInfo := #[]) (fl : Nat := 33) (sup : Nat := 0) (ifs : Array Nat := #[]) (fds : Array FieldInfo := #[]) : ClassFile where
  minorVersion := 0
  majorVersion := 65
  constantPool := pool
  accessFlags := fl
  thisClass := this
  superClass := sup
  interfaces := ifs
  fields := fds
  methods := ms
  attributes := attrs
def plain (name : String) (sup : Option ClassId) : Class where
  name := name
  kind := .ordinary
  loader := none
  accessFlags := 33
  super := sup
  interfaces := #[]
  cf := none
  fields := #[]
  methods := #[]
  instanceTypes := #[]
  staticTypes := #[]
  resolved := #[]
  callSites := []
  init := .initialized
  statics := none
  mirror := none

def pool0 : Array CpInfo := pool [(5, u "<init>"), (0, u "()V"), (1, .class_ 10), (1, u "java/lang/Object")] 113

def k0m0 : Method := { name := "<init>", desc := "()V", sig := { parameters := [], returnType := none }, accessFlags := 1, code := none }
/-- java/lang/Object -/
def k0 : Class := { plain "java/lang/Object" none with
  accessFlags := 33
  interfaces := #[]
  cf := some (fileOf pool0 8 #[] #[{ accessFlags := 1, nameIndex := 5, descriptorIndex := 6, attributes := #[] }] 33 0 #[] #[])
  fields := #[]
  methods := #[k0m0]
  instanceTypes := #[]
  staticTypes := #[]
  resolved := Array.replicate 124 none
  statics := none }

def pool1 : Array CpInfo := pool [(2, .class_ 4), (1, u "java/lang/Object"), (0, u "<init>"), (0, u "()V"), (0, .integer 2147483647), (0, .integer 131071), (0, .methodref 10 11), (0, .class_ 12), (0, .nameAndType 13 14), (0, u "com/example/tagwire/tagwire/Wire"), (0, u "lengthType"), (0, u "(I)I"), (0, .methodref 16 17), (0, .class_ 18), (0, .nameAndType 19 14), (0, u "com/example/tagwire/tagwire/WireLengthTypePinLaw"), (0, u "bytesOf"), (2, u "law"), (0, u "(II)Z")] 3

def k1m0 : Method := { name := "<init>", desc := "()V", sig := { parameters := [], returnType := none }, accessFlags := 1, code := none }
def k1c1 : Code := { maxStack := 7, maxLocals := 10, code := code, exceptionTable := #[], attributes := #[] }
def k1m1 : Method := { name := "law", desc := "(II)Z", sig := { parameters := [.int, .int], returnType := some .boolean }, accessFlags := 9, code := some k1c1 }
def k1c2 : Code := { maxStack := 2, maxLocals := 1, code := method_3_code, exceptionTable := #[], attributes := #[] }
def k1m2 : Method := { name := "bytesOf", desc := "(I)I", sig := { parameters := [.int], returnType := some .int }, accessFlags := 10, code := some k1c2 }
/-- com/example/tagwire/tagwire/WireLengthTypePinLaw -/
def k1 : Class := { plain "com/example/tagwire/tagwire/WireLengthTypePinLaw" (some 0) with
  accessFlags := 49
  interfaces := #[]
  cf := some (fileOf pool1 16 #[] #[{ accessFlags := 1, nameIndex := 5, descriptorIndex := 6, attributes := #[] }, { accessFlags := 9, nameIndex := 22, descriptorIndex := 23, attributes := #[] }, { accessFlags := 10, nameIndex := 19, descriptorIndex := 14, attributes := #[] }] 49 2 #[] #[])
  fields := #[]
  methods := #[k1m0, k1m1, k1m2]
  instanceTypes := #[]
  staticTypes := #[]
  resolved := Array.replicate 27 none
  statics := none }

def pool2 : Array CpInfo := pool [(2, .class_ 4), (1, u "java/lang/Object"), (0, u "<init>"), (0, u "()V"), (1, .class_ 10), (1, u "com/example/tagwire/tagwire/Wire"), (0, u "WIDTH"), (0, u "[I"), (6, .integer 65535), (31, u "ZERO"), (0, u "I"), (2, u "N8"), (1, u "N16"), (1, u "N32"), (1, u "N64"), (1, u "L8"), (1, u "L16"), (1, u "L32"), (1, u "MAX_INDEX"), (1, u "ONE_BYTE_KEY_BITS"), (1, u "MAX_KEY_BYTES"), (0, u "TWO_BYTE_KEY_FLAG"), (1, u "MAX_VARINT32_BYTES"), (0, u "MAX_VARINT64_BYTES"), (1, u "MAX_DEPTH"), (1, u "MAX_DECIMAL"), (0, u "Ljava/lang/String;"), (3, u "(I)I"), (8, u "lengthType")] 28

def k2m0 : Method := { name := "<init>", desc := "()V", sig := { parameters := [], returnType := none }, accessFlags := 2, code := none }
def k2c1 : Code := { maxStack := 2, maxLocals := 2, code := prog_20_method_7_code, exceptionTable := #[], attributes := #[] }
def k2m1 : Method := { name := "lengthType", desc := "(I)I", sig := { parameters := [.int], returnType := some .int }, accessFlags := 8, code := some k2c1 }
/-- com/example/tagwire/tagwire/Wire -/
def k2 : Class := { plain "com/example/tagwire/tagwire/Wire" (some 0) with
  accessFlags := 48
  interfaces := #[]
  cf := some (fileOf pool2 8 #[] #[{ accessFlags := 2, nameIndex := 5, descriptorIndex := 6, attributes := #[] }, { accessFlags := 8, nameIndex := 95, descriptorIndex := 86, attributes := #[] }] 48 2 #[] #[{ accessFlags := 24, nameIndex := 51, descriptorIndex := 52, attributes := #[] }, { accessFlags := 24, nameIndex := 55, descriptorIndex := 52, attributes := #[] }, { accessFlags := 24, nameIndex := 57, descriptorIndex := 52, attributes := #[] }, { accessFlags := 24, nameIndex := 59, descriptorIndex := 52, attributes := #[] }, { accessFlags := 24, nameIndex := 61, descriptorIndex := 52, attributes := #[] }, { accessFlags := 24, nameIndex := 63, descriptorIndex := 52, attributes := #[] }, { accessFlags := 24, nameIndex := 65, descriptorIndex := 52, attributes := #[] }, { accessFlags := 24, nameIndex := 67, descriptorIndex := 52, attributes := #[] }, { accessFlags := 24, nameIndex := 69, descriptorIndex := 52, attributes := #[] }, { accessFlags := 24, nameIndex := 71, descriptorIndex := 52, attributes := #[] }, { accessFlags := 24, nameIndex := 73, descriptorIndex := 52, attributes := #[] }, { accessFlags := 24, nameIndex := 74, descriptorIndex := 52, attributes := #[] }, { accessFlags := 24, nameIndex := 76, descriptorIndex := 52, attributes := #[] }, { accessFlags := 24, nameIndex := 77, descriptorIndex := 52, attributes := #[] }, { accessFlags := 24, nameIndex := 79, descriptorIndex := 52, attributes := #[] }, { accessFlags := 26, nameIndex := 11, descriptorIndex := 12, attributes := #[] }, { accessFlags := 26, nameIndex := 81, descriptorIndex := 82, attributes := #[] }])
  fields := #[{ name := "ZERO", type := .int, accessFlags := 24, slot := 0, constantValue := 0 }, { name := "N8", type := .int, accessFlags := 24, slot := 1, constantValue := 0 }, { name := "N16", type := .int, accessFlags := 24, slot := 2, constantValue := 0 }, { name := "N32", type := .int, accessFlags := 24, slot := 3, constantValue := 0 }, { name := "N64", type := .int, accessFlags := 24, slot := 4, constantValue := 0 }, { name := "L8", type := .int, accessFlags := 24, slot := 5, constantValue := 0 }, { name := "L16", type := .int, accessFlags := 24, slot := 6, constantValue := 0 }, { name := "L32", type := .int, accessFlags := 24, slot := 7, constantValue := 0 }, { name := "MAX_INDEX", type := .int, accessFlags := 24, slot := 8, constantValue := 0 }, { name := "ONE_BYTE_KEY_BITS", type := .int, accessFlags := 24, slot := 9, constantValue := 0 }, { name := "MAX_KEY_BYTES", type := .int, accessFlags := 24, slot := 10, constantValue := 0 }, { name := "TWO_BYTE_KEY_FLAG", type := .int, accessFlags := 24, slot := 11, constantValue := 0 }, { name := "MAX_VARINT32_BYTES", type := .int, accessFlags := 24, slot := 12, constantValue := 0 }, { name := "MAX_VARINT64_BYTES", type := .int, accessFlags := 24, slot := 13, constantValue := 0 }, { name := "MAX_DEPTH", type := .int, accessFlags := 24, slot := 14, constantValue := 0 }, { name := "WIDTH", type := (.array .int), accessFlags := 26, slot := 15, constantValue := 0 }, { name := "MAX_DECIMAL", type := (.object "java/lang/String"), accessFlags := 26, slot := 16, constantValue := 0 }]
  methods := #[k2m0, k2m1]
  instanceTypes := #[]
  staticTypes := #[.int, .int, .int, .int, .int, .int, .int, .int, .int, .int, .int, .int, .int, .int, .int, (.array .int), (.object "java/lang/String")]
  resolved := Array.replicate 124 none
  statics := none }

def pool3 : Array CpInfo := pool [(1, u "java/lang/Cloneable"), (0, .class_ 1), (0, u "java/lang/Object"), (0, .class_ 3)] 3

/-- java/lang/Cloneable -/
def k3 : Class := { plain "java/lang/Cloneable" (some 0) with
  accessFlags := 1537
  interfaces := #[]
  cf := some (fileOf pool3 2 #[] #[] 1537 4 #[] #[])
  fields := #[]
  methods := #[]
  instanceTypes := #[]
  staticTypes := #[]
  resolved := Array.replicate 8 none
  statics := none }

def pool4 : Array CpInfo := pool [(1, u "java/io/Serializable"), (0, .class_ 1), (0, u "java/lang/Object"), (0, .class_ 3)] 3

/-- java/io/Serializable -/
def k4 : Class := { plain "java/io/Serializable" (some 0) with
  accessFlags := 1537
  interfaces := #[]
  cf := some (fileOf pool4 2 #[] #[] 1537 4 #[] #[])
  fields := #[]
  methods := #[]
  instanceTypes := #[]
  staticTypes := #[]
  resolved := Array.replicate 8 none
  statics := none }

/-- the primitive byte -/
def k5 : Class := { plain "byte" none with kind := .primitive 'B', accessFlags := 0x411 }
/-- [B -/
def k6 : Class := { plain "[B" (some 0) with kind := .array 5 .byte, interfaces := #[3, 4], accessFlags := 1041 }

/-- the primitive int -/
def k7 : Class := { plain "int" none with kind := .primitive 'I', accessFlags := 0x411 }
/-- [I -/
def k8 : Class := { plain "[I" (some 0) with kind := .array 7 .int, interfaces := #[3, 4], accessFlags := 1041 }

def heap : Heap := #[]
def classes : Array Class := #[k0, k1, k2, k3, k4, k5, k6, k7, k8]
def interned : List (Array UInt16 × Addr) := []
def slotsUsed : Nat := 0
def theMethod : MethodId := ⟨1, 1⟩
def args0 : Array Value := #[.int 5, .int 5]
def aboutOver (below : List Frame) : State where
  vm := { classes := classes, interned := interned.toArray }
  heap := heap
  slotsUsed := slotsUsed
  threads := #[{ frames := .invoking theMethod args0 :: below }]
def below0 : List Frame := [.native { method := ⟨0, 0⟩, args := #[] }]
def about1 : State := aboutOver below0
def p0 : Program := .bare "" "" ""
def e0 : Env := launch0.env 0 0 0
theorem w_frames : about1.frames = Frame.invoking theMethod args0 :: below0 := rfl
set_option maxRecDepth 65536 in
theorem w_args : argsFit about1.vm theMethod args0 = true := by decide +kernel
set_option maxRecDepth 65536 in
theorem w_heap : heapFits about1 = true := by decide +kernel
set_option maxRecDepth 65536 in
theorem w_runnable : about1.curStatus? = some .runnable := by decide +kernel
set_option maxRecDepth 65536 in
theorem w_alone : about1.alone = true := by decide +kernel
set_option maxRecDepth 65536 in
theorem w_named : about1.methodNamed? x = some theMethod := by decide +kernel
set_option maxRecDepth 65536 in
theorem w_hears : about1.hears theMethod below0 = true := by decide +kernel
set_option maxRecDepth 65536 in
theorem w_ripe : about1.ripe theMethod args0 below0 = true := by decide +kernel
theorem w_running : about1.status = .running := rfl
set_option maxRecDepth 65536 in
theorem w_room : about1.hasRoom e0.platform room_1 = true :=
  launch0.hasRoom_least _ room_1 (by decide +kernel) (by decide +kernel) (by decide +kernel) (by decide +kernel) (by decide +kernel) (by decide +kernel)
theorem allAtoms_all (ts : List Jvm.Cond) (a : Array Jvm.Value) (st : Jvm.State) : (allAtoms ts).before a st = ts.all (fun c => c.before a st) := by
  induction ts with
  | nil => rfl
  | cons c t ih =>
    show (Jvm.Cond.and c (allAtoms t)).before a st = _
    rw [Jvm.Cond.before_and, ih, List.all_cons]
def words1 : List Jvm.Cond := Jvm.Cond.code x code maxLocals ret :: tables_1
/-- a 'code' word, met by the world's own term for the bytes: nothing is compared byte by byte -/
theorem code_word {y : MethodName} {bytes : ByteArray} {mx : Nat} {rt : Option FieldType} {a : Array Value} {s : State} {m : MethodId} {meth : Method} {c : Code} (h1 : s.methodNamed? y = some m) (h2 : s.vm.method? m = some meth) (h3 : meth.code = some c) (h4 : c.code = bytes)
    (h5 : (c.maxLocals == mx && c.exceptionTable.isEmpty && decide (c.maxStack ≤ mostOperands) && decide (meth.sig.returnType = rt) && !meth.locks && decide (parseMethodDescriptor y.desc = some meth.sig)) = true) : (Jvm.Cond.code y bytes mx rt).before a s = true := by
  simp only [Bool.and_eq_true, beq_iff_eq, Bool.not_eq_true', decide_eq_true_eq] at h5
  obtain ⟨⟨⟨⟨⟨g1, g2⟩, g3⟩, g4⟩, g5⟩, g6⟩ := h5
  simp [Cond.before, Cond.holds, Cond.value, h1, h2, h3, h4, g1, g2, g3, g4, g5, g6]
def isCode : Jvm.Cond → Bool
  | .code _ _ _ _ => true
  | _ => false
theorem all_split {L : List Jvm.Cond} {P : Jvm.Cond → Bool} (h1 : L.all (fun c => isCode c || P c) = true) (h2 : ∀ c ∈ L.filter isCode, P c = true) : L.all P = true := by
  refine List.all_eq_true.mpr fun c hc => ?_
  have h := List.all_eq_true.mp h1 c hc
  rcases Bool.eq_false_or_eq_true (isCode c) with hi | hi
  · exact h2 c (List.mem_filter.mpr ⟨hc, hi⟩)
  · simpa [hi] using h
set_option maxRecDepth 65536 in
theorem w_c0 : (Jvm.Cond.code x code maxLocals ret).before args0 about1 = true := code_word (m := ⟨1, 1⟩) (meth := k1m1) (c := k1c1) (by decide +kernel) rfl rfl rfl (by decide +kernel)
set_option maxRecDepth 65536 in
theorem w_c1 : (Jvm.Cond.code ({ cls := "com/example/tagwire/tagwire/Wire", name := "lengthType", desc := "(I)I" } : Jvm.MethodName) prog_20_method_7_code (2 : Nat) (Option.some Jvm.ClassFile.FieldType.int)).before args0 about1 = true := code_word (m := ⟨2, 1⟩) (meth := k2m1) (c := k2c1) (by decide +kernel) rfl rfl rfl (by decide +kernel)
set_option maxRecDepth 65536 in
theorem w_c2 : (Jvm.Cond.code ({ cls := "com/example/tagwire/tagwire/WireLengthTypePinLaw", name := "bytesOf", desc := "(I)I" } : Jvm.MethodName) method_3_code (1 : Nat) (Option.some Jvm.ClassFile.FieldType.int)).before args0 about1 = true := code_word (m := ⟨1, 2⟩) (meth := k1m2) (c := k1c2) (by decide +kernel) rfl rfl rfl (by decide +kernel)
def codes1 : List Jvm.Cond := [Jvm.Cond.code x code maxLocals ret, Jvm.Cond.code ({ cls := "com/example/tagwire/tagwire/Wire", name := "lengthType", desc := "(I)I" } : Jvm.MethodName) prog_20_method_7_code (2 : Nat) (Option.some Jvm.ClassFile.FieldType.int), Jvm.Cond.code ({ cls := "com/example/tagwire/tagwire/WireLengthTypePinLaw", name := "bytesOf", desc := "(I)I" } : Jvm.MethodName) method_3_code (1 : Nat) (Option.some Jvm.ClassFile.FieldType.int)]
set_option maxRecDepth 65536 in
theorem codes_eq : words1.filter isCode = codes1 := rfl
theorem w_codes : ∀ c ∈ words1.filter isCode, c.before args0 about1 = true := by
  rw [codes_eq]
  intro c hc
  simp only [codes1, List.mem_cons, List.not_mem_nil, or_false] at hc
  rcases hc with rfl | rfl | rfl
  · exact w_c0
  · exact w_c1
  · exact w_c2
set_option maxRecDepth 65536 in
theorem w_t1 : words1.all (fun c => isCode c || c.before args0 about1) = true := by decide +kernel
theorem w_tables : (allAtoms (Jvm.Cond.code x code maxLocals ret :: tables_1)).before args0 about1 = true := by
  rw [allAtoms_all]
  show words1.all (fun c => c.before args0 about1) = true
  refine all_split ?_ w_codes
  rw [w_t1]
set_option maxRecDepth 65536 in
theorem w_case : (Jvm.Cond.and given_1 narrow_1).before args0 about1 = true := by decide +kernel
theorem w_applies : (headSpec (Jvm.Cond.code x code maxLocals ret :: tables_1) room_1).applies x e0.platform about1 = true :=
  (Spec.applies_iff w_frames).mpr ⟨w_running, w_runnable, w_alone, w_named, w_hears, w_ripe, w_room, w_tables⟩
theorem atStart : AtStart classFile x code maxLocals ret World_1 tables_1 room_1 Calls_1 rest_1 Pre_1 launch0 p0 e0 about1 theMethod args0 below0 :=
  ⟨lists_1, trivial, launch0.admits_env _ _ _, launch0.least_env, fairChoices_fair.cas, fairChoices_fair.clock, w_frames, w_args, w_heap, w_applies, trivial, trivial, w_case⟩
end start1
theorem witness_1 : WitnessClaimed_1 := ⟨start1.p0, start1.e0, start1.about1, start1.theMethod, start1.args0, start1.below0, start1.atStart⟩
end Jvm.Pilot.@@N@@
