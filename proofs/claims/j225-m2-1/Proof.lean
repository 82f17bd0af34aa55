import JvmDerived
import JvmDerived.Pilot.@@N@@Statement
import JvmDerived.Pilot.@@N@@Code
set_option linter.unusedVariables false
set_option linter.unusedSimpArgs false
namespace Jvm.Pilot.@@N@@
open Jvm Jvm.ClassFile Sem Op Lib Jvm.Free Jvm.Stand Jvm.LawKit Jvm.RoadKit Bundle Jvm.Pilot.@@N@@.Jvm.D
/-! the goal of a walk, read forwards: from the state S the run comes to an end that P likes -/
def own_G (p : Program) (e : Env) (below : List Frame) (S : State) (P : State → Outcome → Prop) : Prop := ∃ s₂ o, Steps p.tables e below S s₂ ∧ s₂.status = .running ∧ Ended s₂ below o ∧ P s₂ o
theorem own_go {p : Program} {e : Env} {below : List Frame} {A B : State} {P : State → Outcome → Prop} (h : ∀ t, Steps p.tables e below A t → Steps p.tables e below B t) (g : own_G p e below A P) : own_G p e below B P := by
  obtain ⟨s₂, o, h1, h2⟩ := g
  exact ⟨s₂, o, h _ h1, h2⟩
theorem own_ret {p : Program} {l : Launch} {e : Env} {R : Room} {s : State} {m : MethodId} {args : Array Value} {below : List Frame} {meth : Method} {c : Code} {T : State} {locs : List Loc} {cells slots : Nat} (X : Stand p l e R s m args below meth c T locs cells slots) (hlocks : meth.locks = false) {v : Option Value} (hv : meth.sig.returnType = none → v = none) {g : JFrame} (Q : Option Value → Heap → List Loc → Prop) {C S : Nat}
    (st : ∀ fs : List Frame, (∀ (f : JFrame) (acts : List Action), f.method = m → f.locked = none → f.entered = [] → (doReturn e (T.setTop f) acts v).1 = T.setFrames fs) → Steps p.tables e below (T.setTop g) (T.setFrames fs))
    (hc : cells ≤ C) (hs : slots ≤ S) (hQ : Q v T.heap locs) : own_G p e below (T.setTop g) (fun s₂ o => ∃ v L, o = .returned v ∧ Q v s₂.heap L ∧ FrameEnd s o s₂ L C S) := by
  obtain ⟨fs, hr, hrun, hended, hW, hsame⟩ := X.leave (v := v) hv hlocks
  exact ⟨_, _, st fs hr, hrun, hended, _, _, rfl, hQ, ⟨_, rfl⟩, hW, hsame.mono hc hs⟩
theorem own_retI {p : Program} {l : Launch} {e : Env} {R : Room} {s : State} {m : MethodId} {args : Array Value} {below : List Frame} {meth : Method} {c : Code} {T : State} {locs : List Loc} {cells slots : Nat} (X : Stand p l e R s m args below meth c T locs cells slots) (hx : p.tables.exec = Jvm.exec) {pc : Nat} {Ls : Array Slot} {w : Value} {t : FieldType} {i : Instr} {rest : List Value} (hret : meth.sig.returnType = some t) (hn : narrow t w = w)
    (hi : (i = .ireturn ∧ (t = .int ∨ t = .boolean ∨ t = .byte ∨ t = .char ∨ t = .short) ∧ ∃ z, w = .int z) ∨ (i = .lreturn ∧ t = .long ∧ ∃ z, w = .long z) ∨ (i = .dreturn ∧ t = .double ∧ ∃ z, w = .double z) ∨ (i = .freturn ∧ t = .float ∧ ∃ z, w = .float z) ∨ (i = .areturn ∧ t.isReference = true ∧ w.isRef = true))
    (hd : decode c.code pc = .ok (i, 1)) (fs : List Frame) (hl : ∀ (f : JFrame) (acts : List Action), f.method = m → f.locked = none → f.entered = [] → (doReturn e (T.setTop f) acts (some w)).1 = T.setFrames fs) :
    Steps p.tables e below (T.setTop (mkF m pc Ls (w :: rest))) (T.setFrames fs) := retOut X hx hret hn hi hd hl
theorem own_retV {p : Program} {l : Launch} {e : Env} {R : Room} {s : State} {m : MethodId} {args : Array Value} {below : List Frame} {meth : Method} {c : Code} {T : State} {locs : List Loc} {cells slots : Nat} (X : Stand p l e R s m args below meth c T locs cells slots) (hx : p.tables.exec = Jvm.exec) {pc : Nat} {Ls : Array Slot} (hret : meth.sig.returnType = none)
    (hd : decode c.code pc = .ok (.return_, 1)) (fs : List Frame) (hl : ∀ (f : JFrame) (acts : List Action), f.method = m → f.locked = none → f.entered = [] → (doReturn e (T.setTop f) acts none).1 = T.setFrames fs) :
    Steps p.tables e below (T.setTop (mkF m pc Ls [])) (T.setFrames fs) := X.returnOut hx hret hd hl
def own_wo (r : Int32) : Int32 := if r = 0 then 0 else if r = 1 then 1 else if r = 2 then 2 else if r = 3 then 4 else 8
theorem own_bits (B : BitVec 64) (k : Nat) : B >>> k = 0 ↔ (B &&& (BitVec.allOnes 64 <<< k)) = 0 := by
  constructor
  · intro h
    apply BitVec.eq_of_getLsbD_eq
    intro i hi
    simp only [BitVec.getLsbD_and, BitVec.getLsbD_shiftLeft, BitVec.getLsbD_allOnes, BitVec.getLsbD_zero]
    by_cases hk : i < k
    · simp [hk]
    · have := congrArg (fun z => z.getLsbD (i - k)) h
      simp only [BitVec.getLsbD_ushiftRight, BitVec.getLsbD_zero] at this
      rw [show k + (i - k) = i by omega] at this
      simp [this]
  · intro h
    apply BitVec.eq_of_getLsbD_eq
    intro i hi
    simp only [BitVec.getLsbD_ushiftRight, BitVec.getLsbD_zero]
    by_cases hk : k + i < 64
    · have := congrArg (fun z => z.getLsbD (k + i)) h
      simp only [BitVec.getLsbD_and, BitVec.getLsbD_shiftLeft, BitVec.getLsbD_allOnes, BitVec.getLsbD_zero] at this
      simpa [hk, show ¬ (k + i < k) by omega, show i < 64 by omega] using this
    · rw [BitVec.getLsbD_of_ge _ _ (by omega : 64 ≤ k + i)]; simp
theorem own_shb (b : Int64) (y : Int32) (k : Nat) (hy : (y.toInt64.toUInt64 &&& Int64.toUInt64 63).toBitVec.toNat % 64 = k) : (XT.ushrL b y).toBitVec = b.toBitVec >>> k := by
  show (b.toUInt64 >>> (y.toInt64.toUInt64 &&& Int64.toUInt64 63)).toBitVec = _
  rw [UInt64.toBitVec_shiftRight, BitVec.ushiftRight_eq', BitVec.toNat_umod, show (64 : BitVec 64).toNat = 64 from rfl, hy]
  rfl
theorem own_sh {b M : Int64} {y : Int32} (k : Nat) (hy : (y.toInt64.toUInt64 &&& Int64.toUInt64 63).toBitVec.toNat % 64 = k) (hM : M.toBitVec = BitVec.allOnes 64 <<< k) : XT.ushrL b y = 0 ↔ (b &&& M) = 0 := by
  rw [← Int64.toBitVec_inj, ← Int64.toBitVec_inj, own_shb b y k hy, Int64.toBitVec_and, hM]
  exact own_bits _ _
theorem own_sh8 (b : Int64) : XT.ushrL b (8 : Int32) = 0 ↔ (b &&& (-256 : Int64)) = 0 := own_sh 8 (by decide) (by decide)
theorem own_sh16 (b : Int64) : XT.ushrL b (16 : Int32) = 0 ↔ (b &&& (-65536 : Int64)) = 0 := own_sh 16 (by decide) (by decide)
theorem own_sh32 (b : Int64) : XT.ushrL b (32 : Int32) = 0 ↔ (b &&& (-4294967296 : Int64)) = 0 := own_sh 32 (by decide) (by decide)
theorem own_sh0 (b : Int64) : XT.ushrL b (0 : Int32) = 0 ↔ b = 0 := by
  rw [← Int64.toBitVec_inj, ← Int64.toBitVec_inj, own_shb b 0 0 (by decide)]
  simp
theorem d1_0 : decode prog_20_method_6_code 0 = .ok (.lload_n 0, 1) := by decide +kernel
theorem d1_1 : decode prog_20_method_6_code 1 = .ok (.lconst 0, 1) := by decide +kernel
theorem d1_2 : decode prog_20_method_6_code 2 = .ok (.lcmp, 1) := by decide +kernel
theorem d1_3 : decode prog_20_method_6_code 3 = .ok (.ifCond .ne 8, 3) := by decide +kernel
theorem d1_6 : decode prog_20_method_6_code 6 = .ok (.iconst 0, 1) := by decide +kernel
theorem d1_7 : decode prog_20_method_6_code 7 = .ok (.istore_n 2, 1) := by decide +kernel
theorem d1_8 : decode prog_20_method_6_code 8 = .ok (.goto 50, 3) := by decide +kernel
theorem d1_11 : decode prog_20_method_6_code 11 = .ok (.lload_n 0, 1) := by decide +kernel
theorem d1_12 : decode prog_20_method_6_code 12 = .ok (.ldc2_w 13, 3) := by decide +kernel
theorem d1_15 : decode prog_20_method_6_code 15 = .ok (.land, 1) := by decide +kernel
theorem d1_16 : decode prog_20_method_6_code 16 = .ok (.lconst 0, 1) := by decide +kernel
theorem d1_17 : decode prog_20_method_6_code 17 = .ok (.lcmp, 1) := by decide +kernel
theorem d1_18 : decode prog_20_method_6_code 18 = .ok (.ifCond .ne 8, 3) := by decide +kernel
theorem d1_21 : decode prog_20_method_6_code 21 = .ok (.iconst 1, 1) := by decide +kernel
theorem d1_22 : decode prog_20_method_6_code 22 = .ok (.istore_n 2, 1) := by decide +kernel
theorem d1_23 : decode prog_20_method_6_code 23 = .ok (.goto 35, 3) := by decide +kernel
theorem d1_26 : decode prog_20_method_6_code 26 = .ok (.lload_n 0, 1) := by decide +kernel
theorem d1_27 : decode prog_20_method_6_code 27 = .ok (.ldc2_w 15, 3) := by decide +kernel
theorem d1_30 : decode prog_20_method_6_code 30 = .ok (.land, 1) := by decide +kernel
theorem d1_31 : decode prog_20_method_6_code 31 = .ok (.lconst 0, 1) := by decide +kernel
theorem d1_32 : decode prog_20_method_6_code 32 = .ok (.lcmp, 1) := by decide +kernel
theorem d1_33 : decode prog_20_method_6_code 33 = .ok (.ifCond .ne 8, 3) := by decide +kernel
theorem d1_36 : decode prog_20_method_6_code 36 = .ok (.iconst 2, 1) := by decide +kernel
theorem d1_37 : decode prog_20_method_6_code 37 = .ok (.istore_n 2, 1) := by decide +kernel
theorem d1_38 : decode prog_20_method_6_code 38 = .ok (.goto 20, 3) := by decide +kernel
theorem d1_41 : decode prog_20_method_6_code 41 = .ok (.lload_n 0, 1) := by decide +kernel
theorem d1_42 : decode prog_20_method_6_code 42 = .ok (.ldc2_w 17, 3) := by decide +kernel
theorem d1_45 : decode prog_20_method_6_code 45 = .ok (.land, 1) := by decide +kernel
theorem d1_46 : decode prog_20_method_6_code 46 = .ok (.lconst 0, 1) := by decide +kernel
theorem d1_47 : decode prog_20_method_6_code 47 = .ok (.lcmp, 1) := by decide +kernel
theorem d1_48 : decode prog_20_method_6_code 48 = .ok (.ifCond .ne 8, 3) := by decide +kernel
theorem d1_51 : decode prog_20_method_6_code 51 = .ok (.iconst 3, 1) := by decide +kernel
theorem d1_52 : decode prog_20_method_6_code 52 = .ok (.istore_n 2, 1) := by decide +kernel
theorem d1_53 : decode prog_20_method_6_code 53 = .ok (.goto 5, 3) := by decide +kernel
theorem d1_56 : decode prog_20_method_6_code 56 = .ok (.iconst 4, 1) := by decide +kernel
theorem d1_57 : decode prog_20_method_6_code 57 = .ok (.istore_n 2, 1) := by decide +kernel
theorem d1_58 : decode prog_20_method_6_code 58 = .ok (.iload_n 2, 1) := by decide +kernel
theorem d1_59 : decode prog_20_method_6_code 59 = .ok (.ireturn, 1) := by decide +kernel
theorem d2_0 : decode method_2_code 0 = .ok (.iload_n 0, 1) := by decide +kernel
theorem d2_1 : decode method_2_code 1 = .ok (.ifCond .ne 5, 3) := by decide +kernel
theorem d2_4 : decode method_2_code 4 = .ok (.iconst 0, 1) := by decide +kernel
theorem d2_5 : decode method_2_code 5 = .ok (.ireturn, 1) := by decide +kernel
theorem d2_6 : decode method_2_code 6 = .ok (.iload_n 0, 1) := by decide +kernel
theorem d2_7 : decode method_2_code 7 = .ok (.iconst 1, 1) := by decide +kernel
theorem d2_8 : decode method_2_code 8 = .ok (.if_icmp .ne 5, 3) := by decide +kernel
theorem d2_11 : decode method_2_code 11 = .ok (.iconst 1, 1) := by decide +kernel
theorem d2_12 : decode method_2_code 12 = .ok (.ireturn, 1) := by decide +kernel
theorem d2_13 : decode method_2_code 13 = .ok (.iload_n 0, 1) := by decide +kernel
theorem d2_14 : decode method_2_code 14 = .ok (.iconst 2, 1) := by decide +kernel
theorem d2_15 : decode method_2_code 15 = .ok (.if_icmp .ne 5, 3) := by decide +kernel
theorem d2_18 : decode method_2_code 18 = .ok (.iconst 2, 1) := by decide +kernel
theorem d2_19 : decode method_2_code 19 = .ok (.ireturn, 1) := by decide +kernel
theorem d2_20 : decode method_2_code 20 = .ok (.iload_n 0, 1) := by decide +kernel
theorem d2_21 : decode method_2_code 21 = .ok (.iconst 3, 1) := by decide +kernel
theorem d2_22 : decode method_2_code 22 = .ok (.if_icmp .ne 5, 3) := by decide +kernel
theorem d2_25 : decode method_2_code 25 = .ok (.iconst 4, 1) := by decide +kernel
theorem d2_26 : decode method_2_code 26 = .ok (.ireturn, 1) := by decide +kernel
theorem d2_27 : decode method_2_code 27 = .ok (.bipush 8, 2) := by decide +kernel
theorem d2_29 : decode method_2_code 29 = .ok (.ireturn, 1) := by decide +kernel
theorem pn_0 : plainName "com/example/tagwire/tagwire/WireNumberTypePinLaw" = true := by first | (simp [plainName, overriddenIn]; done) | decide +kernel
theorem pn_1 : plainName "com/example/tagwire/tagwire/Wire" = true := by first | (simp [plainName, overriddenIn]; done) | decide +kernel
theorem pn_2 : plainName "com/example/tagwire/tagwire/WireNumberTypePinLaw" = true := by first | (simp [plainName, overriddenIn]; done) | decide +kernel
theorem pd_0 : parseMethodDescriptor "(J)I" = some ⟨[.long], some .int⟩ := by decide +kernel
theorem pd_1 : parseMethodDescriptor "(I)I" = some ⟨[.int], some .int⟩ := by decide +kernel
theorem ef_1 (m : MethodId) (q1 : Int64) : entryFrame m #[(.long q1)] 3 = mkF m 0 #[.val (.long q1), .second, .unset] [] := by first | (simp [entryFrame, mkF, argsToLocals, Value.category]; done) | rfl
def Q1 (Z : State) (q1 : Int64) (h0 : Heap) (n0 : Nat) (v : Option Value) (h : Heap) (L : List Loc) : Prop := ∃ r : Int32, v = some (.int r) ∧ Fr n0 L ∧ h = h0 ∧ ((r = 0 ∧ q1 = 0) ∨ (r = 1 ∧ ¬ q1 = 0 ∧ (q1 &&& (-256 : Int64)) = 0) ∨ (r = 2 ∧ ¬ (q1 &&& (-256 : Int64)) = 0 ∧ (q1 &&& (-65536 : Int64)) = 0) ∨ (r = 3 ∧ ¬ (q1 &&& (-65536 : Int64)) = 0 ∧ (q1 &&& (-4294967296 : Int64)) = 0) ∨ (r = 4 ∧ ¬ (q1 &&& (-4294967296 : Int64)) = 0))
set_option maxRecDepth 65536 in
set_option maxHeartbeats 40000000 in
theorem rm1 (l : Launch) (Z : State) (a0 : Array Value) (hw : ∀ d ∈ tables_1, d.before a0 Z = true) (ws : List Jvm.Cond) (q1 : Int64) (h0 : Heap) (n0 : Nat) (Z0 : n0 ≤ h0.size)  :
    MetFree l (⟨"com/example/tagwire/tagwire/Wire", "numberType", "(J)I"⟩ : MethodName) (head1 (Jvm.Cond.code (⟨"com/example/tagwire/tagwire/Wire", "numberType", "(J)I"⟩ : MethodName) prog_20_method_6_code 3 (some .int) :: ws) ({ frames := 0, cells := 0, slots := 0, locals := 0 } : Room)) (fun a U => a = #[(.long q1)] ∧ Z.Warmed39 U.vm ∧ U.heap = h0) (fun _ _ _ _ _ => True) (fun _ U o U' => ∃ v L, o = .returned v ∧ Q1 Z q1 h0 n0 v U'.heap L ∧ FrameEnd U o U' L ({ frames := 0, cells := 0, slots := 0, locals := 0 } : Room).cells ({ frames := 0, cells := 0, slots := 0, locals := 0 } : Room).slots) := by
  refine MetFree.of_bodySF (plainFor_of_name pn_1) hisR ?_
  intro p e s m args below meth c s₁ Bd hml0 hP hK
  obtain ⟨rfl, hZ, hh⟩ := hP
  have hx := Bd.exec
  have hby := Bd.bytes
  have hml : c.maxLocals = 3 := hml0
  have hown : s.vm.findClass "com/example/tagwire/tagwire/Wire" = some m.cls := findClass_of_methodNamed Bd.named
  have hnm := (name_of_methodNamed Bd.named Bd.method).1
  have hlk := Bd.notSynchronized
  have hret := Bd.returns
  have X0 : Stand p l e ({ frames := 0, cells := 0, slots := 0, locals := 0 } : Room) s m #[(.long q1)] below meth c s₁ [] 0 0 := Stand.of_body Bd
  have e0 : s₁.heap = h0 := by rw [← hh, Bd.state]; rfl
  have N0 := Fr.nil n0
  show own_G p e below (s₁.setTop (entryFrame m #[(.long q1)] 3)) (fun s₂ o => ∃ v L, o = .returned v ∧ Q1 Z q1 h0 n0 v s₂.heap L ∧ FrameEnd s o s₂ L ({ frames := 0, cells := 0, slots := 0, locals := 0 } : Room).cells ({ frames := 0, cells := 0, slots := 0, locals := 0 } : Room).slots)
  refine own_go (fun t k => castTop (ef_1 m q1) k) ?_
  show own_G p e below (s₁.setTop (mkF m 0 #[.val (.long q1), .second, .unset] [])) _
  refine own_go (fun _ k => XS.lloadN X0.here hx rfl (hb hby d1_0) rfl k) ?_
  show own_G p e below (s₁.setTop (mkF m 1 #[.val (.long q1), .second, .unset] [(.long q1)])) _
  refine own_go (fun _ k => XS.lconst X0.here hx rfl (hb hby d1_1) k) ?_
  show own_G p e below (s₁.setTop (mkF m 2 #[.val (.long q1), .second, .unset] [(.long (0 : Int64)), (.long q1)])) _
  refine own_go (fun _ k => XS.lcmp X0.here hx rfl (hb hby d1_2) rfl k) ?_
  show own_G p e below (s₁.setTop (mkF m 3 #[.val (.long q1), .second, .unset] [(.int (lcmpW q1 (0 : Int64)))])) _
  by_cases hc3_1 : q1 = (0 : Int64)
  · refine own_go (fun _ k => XS.ifNo X0.here hx rfl (hb hby d1_3) rfl ((if0 _ _).trans (teq ((lw_eq _ _).mpr hc3_1)).2) k) ?_
    show own_G p e below (s₁.setTop (mkF m 6 #[.val (.long q1), .second, .unset] [])) _
    refine own_go (fun _ k => XS.iconst X0.here hx rfl (hb hby d1_6) k) ?_
    show own_G p e below (s₁.setTop (mkF m 7 #[.val (.long q1), .second, .unset] [(.int (0 : Int32))])) _
    refine own_go (fun _ k => XS.istoreN X0.here hx rfl (hb hby d1_7) rfl (l' := #[.val (.long q1), .second, .val (.int (0 : Int32))]) rfl k) ?_
    show own_G p e below (s₁.setTop (mkF m 8 #[.val (.long q1), .second, .val (.int (0 : Int32))] [])) _
    refine own_go (fun _ k => XS.goto X0.here hx rfl (pc0 := 8) (pc' := 58) rfl (hb hby d1_8) (by decide) (by decide) k) ?_
    show own_G p e below (s₁.setTop (mkF m 58 #[.val (.long q1), .second, .val (.int (0 : Int32))] [])) _
    refine own_go (fun _ k => XS.iloadN X0.here hx rfl (hb hby d1_58) rfl k) ?_
    show own_G p e below (s₁.setTop (mkF m 59 #[.val (.long q1), .second, .val (.int (0 : Int32))] [(.int (0 : Int32))])) _
    refine own_ret X0 hlk (v := some (.int (0 : Int32))) (fun h => by rw [hret] at h; cases h) (Q1 Z q1 h0 n0) (own_retI X0 hx (t := .int) hret rfl (Or.inl ⟨rfl, by simp, _, rfl⟩) (hb hby d1_59)) (by decide) (by decide) ?_
    show Q1 Z q1 h0 n0 _ s₁.heap _
    rw [e0]
    exact ⟨_, rfl, N0, rfl, Or.inl (⟨rfl, hc3_1⟩)⟩
  · refine own_go (fun _ k => XS.ifYes X0.here hx rfl (pc0 := 3) (pc' := 11) rfl (hb hby d1_3) rfl ((if0 _ _).trans (feq (fun q => hc3_1 ((lw_eq _ _).mp q))).2) (by decide) (by decide) k) ?_
    show own_G p e below (s₁.setTop (mkF m 11 #[.val (.long q1), .second, .unset] [])) _
    refine own_go (fun _ k => XS.lloadN X0.here hx rfl (hb hby d1_11) rfl k) ?_
    show own_G p e below (s₁.setTop (mkF m 12 #[.val (.long q1), .second, .unset] [(.long q1)])) _
    refine own_go (X0.ldc2Long hx hown (mvT hZ (hw _ (List.mem_of_getElem? (i := 8) rfl))) (g := (mkF m 12 #[.val (.long q1), .second, .unset] [(.long q1)])) rfl (hb hby d1_12)) ?_
    show own_G p e below (s₁.setTop (mkF m 15 #[.val (.long q1), .second, .unset] [(.long (-256 : Int64)), (.long q1)])) _
    refine own_go (fun _ k => XS.land X0.here hx rfl (hb hby d1_15) rfl k) ?_
    show own_G p e below (s₁.setTop (mkF m 16 #[.val (.long q1), .second, .unset] [(.long (q1 &&& (-256 : Int64)))])) _
    refine own_go (fun _ k => XS.lconst X0.here hx rfl (hb hby d1_16) k) ?_
    show own_G p e below (s₁.setTop (mkF m 17 #[.val (.long q1), .second, .unset] [(.long (0 : Int64)), (.long (q1 &&& (-256 : Int64)))])) _
    refine own_go (fun _ k => XS.lcmp X0.here hx rfl (hb hby d1_17) rfl k) ?_
    show own_G p e below (s₁.setTop (mkF m 18 #[.val (.long q1), .second, .unset] [(.int (lcmpW (q1 &&& (-256 : Int64)) (0 : Int64)))])) _
    by_cases hc18_2 : (q1 &&& (-256 : Int64)) = (0 : Int64)
    · refine own_go (fun _ k => XS.ifNo X0.here hx rfl (hb hby d1_18) rfl ((if0 _ _).trans (teq ((lw_eq _ _).mpr hc18_2)).2) k) ?_
      show own_G p e below (s₁.setTop (mkF m 21 #[.val (.long q1), .second, .unset] [])) _
      refine own_go (fun _ k => XS.iconst X0.here hx rfl (hb hby d1_21) k) ?_
      show own_G p e below (s₁.setTop (mkF m 22 #[.val (.long q1), .second, .unset] [(.int (1 : Int32))])) _
      refine own_go (fun _ k => XS.istoreN X0.here hx rfl (hb hby d1_22) rfl (l' := #[.val (.long q1), .second, .val (.int (1 : Int32))]) rfl k) ?_
      show own_G p e below (s₁.setTop (mkF m 23 #[.val (.long q1), .second, .val (.int (1 : Int32))] [])) _
      refine own_go (fun _ k => XS.goto X0.here hx rfl (pc0 := 23) (pc' := 58) rfl (hb hby d1_23) (by decide) (by decide) k) ?_
      show own_G p e below (s₁.setTop (mkF m 58 #[.val (.long q1), .second, .val (.int (1 : Int32))] [])) _
      refine own_go (fun _ k => XS.iloadN X0.here hx rfl (hb hby d1_58) rfl k) ?_
      show own_G p e below (s₁.setTop (mkF m 59 #[.val (.long q1), .second, .val (.int (1 : Int32))] [(.int (1 : Int32))])) _
      refine own_ret X0 hlk (v := some (.int (1 : Int32))) (fun h => by rw [hret] at h; cases h) (Q1 Z q1 h0 n0) (own_retI X0 hx (t := .int) hret rfl (Or.inl ⟨rfl, by simp, _, rfl⟩) (hb hby d1_59)) (by decide) (by decide) ?_
      show Q1 Z q1 h0 n0 _ s₁.heap _
      rw [e0]
      exact ⟨_, rfl, N0, rfl, Or.inr (Or.inl (⟨rfl, hc3_1, hc18_2⟩))⟩
    · refine own_go (fun _ k => XS.ifYes X0.here hx rfl (pc0 := 18) (pc' := 26) rfl (hb hby d1_18) rfl ((if0 _ _).trans (feq (fun q => hc18_2 ((lw_eq _ _).mp q))).2) (by decide) (by decide) k) ?_
      show own_G p e below (s₁.setTop (mkF m 26 #[.val (.long q1), .second, .unset] [])) _
      refine own_go (fun _ k => XS.lloadN X0.here hx rfl (hb hby d1_26) rfl k) ?_
      show own_G p e below (s₁.setTop (mkF m 27 #[.val (.long q1), .second, .unset] [(.long q1)])) _
      refine own_go (X0.ldc2Long hx hown (mvT hZ (hw _ (List.mem_of_getElem? (i := 9) rfl))) (g := (mkF m 27 #[.val (.long q1), .second, .unset] [(.long q1)])) rfl (hb hby d1_27)) ?_
      show own_G p e below (s₁.setTop (mkF m 30 #[.val (.long q1), .second, .unset] [(.long (-65536 : Int64)), (.long q1)])) _
      refine own_go (fun _ k => XS.land X0.here hx rfl (hb hby d1_30) rfl k) ?_
      show own_G p e below (s₁.setTop (mkF m 31 #[.val (.long q1), .second, .unset] [(.long (q1 &&& (-65536 : Int64)))])) _
      refine own_go (fun _ k => XS.lconst X0.here hx rfl (hb hby d1_31) k) ?_
      show own_G p e below (s₁.setTop (mkF m 32 #[.val (.long q1), .second, .unset] [(.long (0 : Int64)), (.long (q1 &&& (-65536 : Int64)))])) _
      refine own_go (fun _ k => XS.lcmp X0.here hx rfl (hb hby d1_32) rfl k) ?_
      show own_G p e below (s₁.setTop (mkF m 33 #[.val (.long q1), .second, .unset] [(.int (lcmpW (q1 &&& (-65536 : Int64)) (0 : Int64)))])) _
      by_cases hc33_3 : (q1 &&& (-65536 : Int64)) = (0 : Int64)
      · refine own_go (fun _ k => XS.ifNo X0.here hx rfl (hb hby d1_33) rfl ((if0 _ _).trans (teq ((lw_eq _ _).mpr hc33_3)).2) k) ?_
        show own_G p e below (s₁.setTop (mkF m 36 #[.val (.long q1), .second, .unset] [])) _
        refine own_go (fun _ k => XS.iconst X0.here hx rfl (hb hby d1_36) k) ?_
        show own_G p e below (s₁.setTop (mkF m 37 #[.val (.long q1), .second, .unset] [(.int (2 : Int32))])) _
        refine own_go (fun _ k => XS.istoreN X0.here hx rfl (hb hby d1_37) rfl (l' := #[.val (.long q1), .second, .val (.int (2 : Int32))]) rfl k) ?_
        show own_G p e below (s₁.setTop (mkF m 38 #[.val (.long q1), .second, .val (.int (2 : Int32))] [])) _
        refine own_go (fun _ k => XS.goto X0.here hx rfl (pc0 := 38) (pc' := 58) rfl (hb hby d1_38) (by decide) (by decide) k) ?_
        show own_G p e below (s₁.setTop (mkF m 58 #[.val (.long q1), .second, .val (.int (2 : Int32))] [])) _
        refine own_go (fun _ k => XS.iloadN X0.here hx rfl (hb hby d1_58) rfl k) ?_
        show own_G p e below (s₁.setTop (mkF m 59 #[.val (.long q1), .second, .val (.int (2 : Int32))] [(.int (2 : Int32))])) _
        refine own_ret X0 hlk (v := some (.int (2 : Int32))) (fun h => by rw [hret] at h; cases h) (Q1 Z q1 h0 n0) (own_retI X0 hx (t := .int) hret rfl (Or.inl ⟨rfl, by simp, _, rfl⟩) (hb hby d1_59)) (by decide) (by decide) ?_
        show Q1 Z q1 h0 n0 _ s₁.heap _
        rw [e0]
        exact ⟨_, rfl, N0, rfl, Or.inr (Or.inr (Or.inl (⟨rfl, hc18_2, hc33_3⟩)))⟩
      · refine own_go (fun _ k => XS.ifYes X0.here hx rfl (pc0 := 33) (pc' := 41) rfl (hb hby d1_33) rfl ((if0 _ _).trans (feq (fun q => hc33_3 ((lw_eq _ _).mp q))).2) (by decide) (by decide) k) ?_
        show own_G p e below (s₁.setTop (mkF m 41 #[.val (.long q1), .second, .unset] [])) _
        refine own_go (fun _ k => XS.lloadN X0.here hx rfl (hb hby d1_41) rfl k) ?_
        show own_G p e below (s₁.setTop (mkF m 42 #[.val (.long q1), .second, .unset] [(.long q1)])) _
        refine own_go (X0.ldc2Long hx hown (mvT hZ (hw _ (List.mem_of_getElem? (i := 10) rfl))) (g := (mkF m 42 #[.val (.long q1), .second, .unset] [(.long q1)])) rfl (hb hby d1_42)) ?_
        show own_G p e below (s₁.setTop (mkF m 45 #[.val (.long q1), .second, .unset] [(.long (-4294967296 : Int64)), (.long q1)])) _
        refine own_go (fun _ k => XS.land X0.here hx rfl (hb hby d1_45) rfl k) ?_
        show own_G p e below (s₁.setTop (mkF m 46 #[.val (.long q1), .second, .unset] [(.long (q1 &&& (-4294967296 : Int64)))])) _
        refine own_go (fun _ k => XS.lconst X0.here hx rfl (hb hby d1_46) k) ?_
        show own_G p e below (s₁.setTop (mkF m 47 #[.val (.long q1), .second, .unset] [(.long (0 : Int64)), (.long (q1 &&& (-4294967296 : Int64)))])) _
        refine own_go (fun _ k => XS.lcmp X0.here hx rfl (hb hby d1_47) rfl k) ?_
        show own_G p e below (s₁.setTop (mkF m 48 #[.val (.long q1), .second, .unset] [(.int (lcmpW (q1 &&& (-4294967296 : Int64)) (0 : Int64)))])) _
        by_cases hc48_4 : (q1 &&& (-4294967296 : Int64)) = (0 : Int64)
        · refine own_go (fun _ k => XS.ifNo X0.here hx rfl (hb hby d1_48) rfl ((if0 _ _).trans (teq ((lw_eq _ _).mpr hc48_4)).2) k) ?_
          show own_G p e below (s₁.setTop (mkF m 51 #[.val (.long q1), .second, .unset] [])) _
          refine own_go (fun _ k => XS.iconst X0.here hx rfl (hb hby d1_51) k) ?_
          show own_G p e below (s₁.setTop (mkF m 52 #[.val (.long q1), .second, .unset] [(.int (3 : Int32))])) _
          refine own_go (fun _ k => XS.istoreN X0.here hx rfl (hb hby d1_52) rfl (l' := #[.val (.long q1), .second, .val (.int (3 : Int32))]) rfl k) ?_
          show own_G p e below (s₁.setTop (mkF m 53 #[.val (.long q1), .second, .val (.int (3 : Int32))] [])) _
          refine own_go (fun _ k => XS.goto X0.here hx rfl (pc0 := 53) (pc' := 58) rfl (hb hby d1_53) (by decide) (by decide) k) ?_
          show own_G p e below (s₁.setTop (mkF m 58 #[.val (.long q1), .second, .val (.int (3 : Int32))] [])) _
          refine own_go (fun _ k => XS.iloadN X0.here hx rfl (hb hby d1_58) rfl k) ?_
          show own_G p e below (s₁.setTop (mkF m 59 #[.val (.long q1), .second, .val (.int (3 : Int32))] [(.int (3 : Int32))])) _
          refine own_ret X0 hlk (v := some (.int (3 : Int32))) (fun h => by rw [hret] at h; cases h) (Q1 Z q1 h0 n0) (own_retI X0 hx (t := .int) hret rfl (Or.inl ⟨rfl, by simp, _, rfl⟩) (hb hby d1_59)) (by decide) (by decide) ?_
          show Q1 Z q1 h0 n0 _ s₁.heap _
          rw [e0]
          exact ⟨_, rfl, N0, rfl, Or.inr (Or.inr (Or.inr (Or.inl (⟨rfl, hc33_3, hc48_4⟩))))⟩
        · refine own_go (fun _ k => XS.ifYes X0.here hx rfl (pc0 := 48) (pc' := 56) rfl (hb hby d1_48) rfl ((if0 _ _).trans (feq (fun q => hc48_4 ((lw_eq _ _).mp q))).2) (by decide) (by decide) k) ?_
          show own_G p e below (s₁.setTop (mkF m 56 #[.val (.long q1), .second, .unset] [])) _
          refine own_go (fun _ k => XS.iconst X0.here hx rfl (hb hby d1_56) k) ?_
          show own_G p e below (s₁.setTop (mkF m 57 #[.val (.long q1), .second, .unset] [(.int (4 : Int32))])) _
          refine own_go (fun _ k => XS.istoreN X0.here hx rfl (hb hby d1_57) rfl (l' := #[.val (.long q1), .second, .val (.int (4 : Int32))]) rfl k) ?_
          show own_G p e below (s₁.setTop (mkF m 58 #[.val (.long q1), .second, .val (.int (4 : Int32))] [])) _
          refine own_go (fun _ k => XS.iloadN X0.here hx rfl (hb hby d1_58) rfl k) ?_
          show own_G p e below (s₁.setTop (mkF m 59 #[.val (.long q1), .second, .val (.int (4 : Int32))] [(.int (4 : Int32))])) _
          refine own_ret X0 hlk (v := some (.int (4 : Int32))) (fun h => by rw [hret] at h; cases h) (Q1 Z q1 h0 n0) (own_retI X0 hx (t := .int) hret rfl (Or.inl ⟨rfl, by simp, _, rfl⟩) (hb hby d1_59)) (by decide) (by decide) ?_
          show Q1 Z q1 h0 n0 _ s₁.heap _
          rw [e0]
          exact ⟨_, rfl, N0, rfl, Or.inr (Or.inr (Or.inr (Or.inr (⟨rfl, hc48_4⟩))))⟩
theorem ef_2 (m : MethodId) (p1 : Int32) : entryFrame m #[(.int p1)] 1 = mkF m 0 #[.val (.int p1)] [] := by first | (simp [entryFrame, mkF, argsToLocals, Value.category]; done) | rfl
def Q2 (Z : State) (p1 : Int32) (h0 : Heap) (n0 : Nat) (v : Option Value) (h : Heap) (L : List Loc) : Prop := ∃ r : Int32, v = some (.int r) ∧ Fr n0 L ∧ h = h0 ∧ r = own_wo p1
set_option maxRecDepth 65536 in
set_option maxHeartbeats 40000000 in
theorem rm2 (l : Launch) (Z : State) (a0 : Array Value) (hw : ∀ d ∈ tables_1, d.before a0 Z = true) (ws : List Jvm.Cond) (p1 : Int32) (h0 : Heap) (n0 : Nat) (Z0 : n0 ≤ h0.size)  :
    MetFree l (⟨"com/example/tagwire/tagwire/WireNumberTypePinLaw", "widthOf", "(I)I"⟩ : MethodName) (head1 (Jvm.Cond.code (⟨"com/example/tagwire/tagwire/WireNumberTypePinLaw", "widthOf", "(I)I"⟩ : MethodName) method_2_code 1 (some .int) :: ws) ({ frames := 0, cells := 0, slots := 0, locals := 0 } : Room)) (fun a U => a = #[(.int p1)] ∧ Z.Warmed39 U.vm ∧ U.heap = h0) (fun _ _ _ _ _ => True) (fun _ U o U' => ∃ v L, o = .returned v ∧ Q2 Z p1 h0 n0 v U'.heap L ∧ FrameEnd U o U' L ({ frames := 0, cells := 0, slots := 0, locals := 0 } : Room).cells ({ frames := 0, cells := 0, slots := 0, locals := 0 } : Room).slots) := by
  refine MetFree.of_bodySF (plainFor_of_name pn_2) hisR ?_
  intro p e s m args below meth c s₁ Bd hml0 hP hK
  obtain ⟨rfl, hZ, hh⟩ := hP
  have hx := Bd.exec
  have hby := Bd.bytes
  have hml : c.maxLocals = 1 := hml0
  have hown : s.vm.findClass "com/example/tagwire/tagwire/WireNumberTypePinLaw" = some m.cls := findClass_of_methodNamed Bd.named
  have hnm := (name_of_methodNamed Bd.named Bd.method).1
  have hlk := Bd.notSynchronized
  have hret := Bd.returns
  have X0 : Stand p l e ({ frames := 0, cells := 0, slots := 0, locals := 0 } : Room) s m #[(.int p1)] below meth c s₁ [] 0 0 := Stand.of_body Bd
  have e0 : s₁.heap = h0 := by rw [← hh, Bd.state]; rfl
  have N0 := Fr.nil n0
  show own_G p e below (s₁.setTop (entryFrame m #[(.int p1)] 1)) (fun s₂ o => ∃ v L, o = .returned v ∧ Q2 Z p1 h0 n0 v s₂.heap L ∧ FrameEnd s o s₂ L ({ frames := 0, cells := 0, slots := 0, locals := 0 } : Room).cells ({ frames := 0, cells := 0, slots := 0, locals := 0 } : Room).slots)
  refine own_go (fun t k => castTop (ef_2 m p1) k) ?_
  show own_G p e below (s₁.setTop (mkF m 0 #[.val (.int p1)] [])) _
  refine own_go (fun _ k => XS.iloadN X0.here hx rfl (hb hby d2_0) rfl k) ?_
  show own_G p e below (s₁.setTop (mkF m 1 #[.val (.int p1)] [(.int p1)])) _
  by_cases hc1_5 : p1 = (0 : Int32)
  · refine own_go (fun _ k => XS.ifNo X0.here hx rfl (hb hby d2_1) rfl ((if0 _ _).trans (teq hc1_5).2) k) ?_
    show own_G p e below (s₁.setTop (mkF m 4 #[.val (.int p1)] [])) _
    refine own_go (fun _ k => XS.iconst X0.here hx rfl (hb hby d2_4) k) ?_
    show own_G p e below (s₁.setTop (mkF m 5 #[.val (.int p1)] [(.int (0 : Int32))])) _
    refine own_ret X0 hlk (v := some (.int (0 : Int32))) (fun h => by rw [hret] at h; cases h) (Q2 Z p1 h0 n0) (own_retI X0 hx (t := .int) hret rfl (Or.inl ⟨rfl, by simp, _, rfl⟩) (hb hby d2_5)) (by decide) (by decide) ?_
    show Q2 Z p1 h0 n0 _ s₁.heap _
    rw [e0]
    exact ⟨_, rfl, N0, rfl, by simp [own_wo, hc1_5]⟩
  · refine own_go (fun _ k => XS.ifYes X0.here hx rfl (pc0 := 1) (pc' := 6) rfl (hb hby d2_1) rfl ((if0 _ _).trans (feq hc1_5).2) (by decide) (by decide) k) ?_
    show own_G p e below (s₁.setTop (mkF m 6 #[.val (.int p1)] [])) _
    refine own_go (fun _ k => XS.iloadN X0.here hx rfl (hb hby d2_6) rfl k) ?_
    show own_G p e below (s₁.setTop (mkF m 7 #[.val (.int p1)] [(.int p1)])) _
    refine own_go (fun _ k => XS.iconst X0.here hx rfl (hb hby d2_7) k) ?_
    show own_G p e below (s₁.setTop (mkF m 8 #[.val (.int p1)] [(.int (1 : Int32)), (.int p1)])) _
    by_cases hc8_6 : p1 = (1 : Int32)
    · refine own_go (fun _ k => XS.icmpNo X0.here hx rfl (hb hby d2_8) rfl (teq hc8_6).2 k) ?_
      show own_G p e below (s₁.setTop (mkF m 11 #[.val (.int p1)] [])) _
      refine own_go (fun _ k => XS.iconst X0.here hx rfl (hb hby d2_11) k) ?_
      show own_G p e below (s₁.setTop (mkF m 12 #[.val (.int p1)] [(.int (1 : Int32))])) _
      refine own_ret X0 hlk (v := some (.int (1 : Int32))) (fun h => by rw [hret] at h; cases h) (Q2 Z p1 h0 n0) (own_retI X0 hx (t := .int) hret rfl (Or.inl ⟨rfl, by simp, _, rfl⟩) (hb hby d2_12)) (by decide) (by decide) ?_
      show Q2 Z p1 h0 n0 _ s₁.heap _
      rw [e0]
      exact ⟨_, rfl, N0, rfl, by simp [own_wo, hc1_5, hc8_6]⟩
    · refine own_go (fun _ k => XS.icmpYes X0.here hx rfl (pc0 := 8) (pc' := 13) rfl (hb hby d2_8) rfl (feq hc8_6).2 (by decide) (by decide) k) ?_
      show own_G p e below (s₁.setTop (mkF m 13 #[.val (.int p1)] [])) _
      refine own_go (fun _ k => XS.iloadN X0.here hx rfl (hb hby d2_13) rfl k) ?_
      show own_G p e below (s₁.setTop (mkF m 14 #[.val (.int p1)] [(.int p1)])) _
      refine own_go (fun _ k => XS.iconst X0.here hx rfl (hb hby d2_14) k) ?_
      show own_G p e below (s₁.setTop (mkF m 15 #[.val (.int p1)] [(.int (2 : Int32)), (.int p1)])) _
      by_cases hc15_7 : p1 = (2 : Int32)
      · refine own_go (fun _ k => XS.icmpNo X0.here hx rfl (hb hby d2_15) rfl (teq hc15_7).2 k) ?_
        show own_G p e below (s₁.setTop (mkF m 18 #[.val (.int p1)] [])) _
        refine own_go (fun _ k => XS.iconst X0.here hx rfl (hb hby d2_18) k) ?_
        show own_G p e below (s₁.setTop (mkF m 19 #[.val (.int p1)] [(.int (2 : Int32))])) _
        refine own_ret X0 hlk (v := some (.int (2 : Int32))) (fun h => by rw [hret] at h; cases h) (Q2 Z p1 h0 n0) (own_retI X0 hx (t := .int) hret rfl (Or.inl ⟨rfl, by simp, _, rfl⟩) (hb hby d2_19)) (by decide) (by decide) ?_
        show Q2 Z p1 h0 n0 _ s₁.heap _
        rw [e0]
        exact ⟨_, rfl, N0, rfl, by simp [own_wo, hc1_5, hc8_6, hc15_7]⟩
      · refine own_go (fun _ k => XS.icmpYes X0.here hx rfl (pc0 := 15) (pc' := 20) rfl (hb hby d2_15) rfl (feq hc15_7).2 (by decide) (by decide) k) ?_
        show own_G p e below (s₁.setTop (mkF m 20 #[.val (.int p1)] [])) _
        refine own_go (fun _ k => XS.iloadN X0.here hx rfl (hb hby d2_20) rfl k) ?_
        show own_G p e below (s₁.setTop (mkF m 21 #[.val (.int p1)] [(.int p1)])) _
        refine own_go (fun _ k => XS.iconst X0.here hx rfl (hb hby d2_21) k) ?_
        show own_G p e below (s₁.setTop (mkF m 22 #[.val (.int p1)] [(.int (3 : Int32)), (.int p1)])) _
        by_cases hc22_8 : p1 = (3 : Int32)
        · refine own_go (fun _ k => XS.icmpNo X0.here hx rfl (hb hby d2_22) rfl (teq hc22_8).2 k) ?_
          show own_G p e below (s₁.setTop (mkF m 25 #[.val (.int p1)] [])) _
          refine own_go (fun _ k => XS.iconst X0.here hx rfl (hb hby d2_25) k) ?_
          show own_G p e below (s₁.setTop (mkF m 26 #[.val (.int p1)] [(.int (4 : Int32))])) _
          refine own_ret X0 hlk (v := some (.int (4 : Int32))) (fun h => by rw [hret] at h; cases h) (Q2 Z p1 h0 n0) (own_retI X0 hx (t := .int) hret rfl (Or.inl ⟨rfl, by simp, _, rfl⟩) (hb hby d2_26)) (by decide) (by decide) ?_
          show Q2 Z p1 h0 n0 _ s₁.heap _
          rw [e0]
          exact ⟨_, rfl, N0, rfl, by simp [own_wo, hc1_5, hc8_6, hc15_7, hc22_8]⟩
        · refine own_go (fun _ k => XS.icmpYes X0.here hx rfl (pc0 := 22) (pc' := 27) rfl (hb hby d2_22) rfl (feq hc22_8).2 (by decide) (by decide) k) ?_
          show own_G p e below (s₁.setTop (mkF m 27 #[.val (.int p1)] [])) _
          refine own_go (fun _ k => XS.bipush X0.here hx rfl (hb hby d2_27) k) ?_
          show own_G p e below (s₁.setTop (mkF m 29 #[.val (.int p1)] [(.int (8 : Int32))])) _
          refine own_ret X0 hlk (v := some (.int (8 : Int32))) (fun h => by rw [hret] at h; cases h) (Q2 Z p1 h0 n0) (own_retI X0 hx (t := .int) hret rfl (Or.inl ⟨rfl, by simp, _, rfl⟩) (hb hby d2_29)) (by decide) (by decide) ?_
          show Q2 Z p1 h0 n0 _ s₁.heap _
          rw [e0]
          exact ⟨_, rfl, N0, rfl, by simp [own_wo, hc1_5, hc8_6, hc15_7, hc22_8]⟩
theorem ef_0 (m : MethodId) (q1 : Int64) (p2 : Int32) : entryFrame m #[(.long q1), (.int p2)] maxLocals = mkF m 0 #[.val (.long q1), .second, .val (.int p2), .unset, .unset, .unset, .unset, .unset, .unset, .unset] [] := by first | (simp [entryFrame, mkF, argsToLocals, Value.category, maxLocals]; done) | rfl
def Q0 (Z : State) (q1 : Int64) (p2 : Int32) (h0 : Heap) (n0 : Nat) (v : Option Value) (h : Heap) (L : List Loc) : Prop := v = some (.int (1 : Int32)) ∧ Fr n0 L
set_option maxRecDepth 65536 in
set_option maxHeartbeats 40000000 in
theorem rm0 (l : Launch) (Z : State) (a0 : Array Value) (hw : ∀ d ∈ tables_1, d.before a0 Z = true) (ws : List Jvm.Cond) (q1 : Int64) (p2 : Int32) (h0 : Heap) (n0 : Nat) (Z0 : n0 ≤ h0.size)  :
    MetFree l x (head1 (Jvm.Cond.code x code maxLocals ret :: ws) room_1) (fun a U => a = #[(.long q1), (.int p2)] ∧ Z.Warmed39 U.vm ∧ U.heap = h0) (fun _ _ _ _ _ => True) (fun _ U o U' => ∃ v L, o = .returned v ∧ Q0 Z q1 p2 h0 n0 v U'.heap L ∧ FrameEnd U o U' L room_1.cells room_1.slots) := by
  refine MetFree.of_bodySF (plainFor_of_name pn_0) hisR ?_
  intro p e s m args below meth c s₁ Bd hml0 hP hK
  obtain ⟨rfl, hZ, hh⟩ := hP
  have hx := Bd.exec
  have hby := Bd.bytes
  have hml : c.maxLocals = 10 := hml0
  have hown : s.vm.findClass "com/example/tagwire/tagwire/WireNumberTypePinLaw" = some m.cls := findClass_of_methodNamed Bd.named
  have hnm := (name_of_methodNamed Bd.named Bd.method).1
  have hlk := Bd.notSynchronized
  have hret := Bd.returns
  have X0 : Stand p l e room_1 s m #[(.long q1), (.int p2)] below meth c s₁ [] 0 0 := Stand.of_body Bd
  have e0 : s₁.heap = h0 := by rw [← hh, Bd.state]; rfl
  have N0 := Fr.nil n0
  show own_G p e below (s₁.setTop (entryFrame m #[(.long q1), (.int p2)] maxLocals)) (fun s₂ o => ∃ v L, o = .returned v ∧ Q0 Z q1 p2 h0 n0 v s₂.heap L ∧ FrameEnd s o s₂ L room_1.cells room_1.slots)
  refine own_go (fun t k => castTop (ef_0 m q1 p2) k) ?_
  show own_G p e below (s₁.setTop (mkF m 0 #[.val (.long q1), .second, .val (.int p2), .unset, .unset, .unset, .unset, .unset, .unset, .unset] [])) _
  refine own_go (fun _ k => XS.lloadN X0.here hx rfl (hb hby at_0) rfl k) ?_
  show own_G p e below (s₁.setTop (mkF m 1 #[.val (.long q1), .second, .val (.int p2), .unset, .unset, .unset, .unset, .unset, .unset, .unset] [(.long q1)])) _
  refine own_go (fun _ k => XS.iloadN X0.here hx rfl (hb hby at_1) rfl k) ?_
  show own_G p e below (s₁.setTop (mkF m 2 #[.val (.long q1), .second, .val (.int p2), .unset, .unset, .unset, .unset, .unset, .unset, .unset] [(.int p2), (.long q1)])) _
  refine own_go (fun _ k => XS.bipush X0.here hx rfl (hb hby at_2) k) ?_
  show own_G p e below (s₁.setTop (mkF m 4 #[.val (.long q1), .second, .val (.int p2), .unset, .unset, .unset, .unset, .unset, .unset, .unset] [(.int (63 : Int32)), (.int p2), (.long q1)])) _
  refine own_go (fun _ k => XS.iand X0.here hx rfl (hb hby at_4) rfl k) ?_
  show own_G p e below (s₁.setTop (mkF m 5 #[.val (.long q1), .second, .val (.int p2), .unset, .unset, .unset, .unset, .unset, .unset, .unset] [(.int (p2 &&& (63 : Int32))), (.long q1)])) _
  refine own_go (fun _ k => XT.lushr X0.here hx rfl (hb hby at_5) rfl k) ?_
  show own_G p e below (s₁.setTop (mkF m 6 #[.val (.long q1), .second, .val (.int p2), .unset, .unset, .unset, .unset, .unset, .unset, .unset] [(.long (XT.ushrL q1 (p2 &&& (63 : Int32))))])) _
  generalize hbb : (XT.ushrL q1 (p2 &&& (63 : Int32))) = bb
  show own_G p e below (s₁.setTop (mkF m 6 #[.val (.long q1), .second, .val (.int p2), .unset, .unset, .unset, .unset, .unset, .unset, .unset] [(.long bb)])) _
  refine own_go (fun _ k => XS.lstoreN X0.here hx rfl (hb hby at_6) rfl (l' := #[.val (.long q1), .second, .val (.int p2), .val (.long bb), .second, .unset, .unset, .unset, .unset, .unset]) rfl k) ?_
  show own_G p e below (s₁.setTop (mkF m 7 #[.val (.long q1), .second, .val (.int p2), .val (.long bb), .second, .unset, .unset, .unset, .unset, .unset] [])) _
  refine own_go (fun _ k => XS.lloadN X0.here hx rfl (hb hby at_7) rfl k) ?_
  show own_G p e below (s₁.setTop (mkF m 8 #[.val (.long q1), .second, .val (.int p2), .val (.long bb), .second, .unset, .unset, .unset, .unset, .unset] [(.long bb)])) _
  obtain ⟨_, _, ⟨T9, L9, k9, n9⟩, -, X9, ⟨Lc9, hQ9, l9, y9, z9⟩, st9⟩ := Jvm.LawKit.callS X0 hx (y := (⟨"com/example/tagwire/tagwire/Wire", "numberType", "(J)I"⟩ : MethodName)) hown (mvT hZ (hw _ (List.mem_of_getElem? (i := 0) rfl))) (mvT hZ (hw _ (List.mem_of_getElem? (i := 1) rfl))) (mvT hZ (hw _ (List.mem_of_getElem? (i := 2) rfl))) (mvT hZ (hw _ (List.mem_of_getElem? (i := 3) rfl))) (by decide) (backOf (W := 0) (rm1 l Z a0 hw [] bb h0 n0 Z0 ) hZ (hw _ (List.mem_of_getElem? (i := 3) rfl)) (hw _ (List.mem_of_getElem? (i := 2) rfl)) (by decide) (by decide)) (g := (mkF m 8 #[.val (.long q1), .second, .val (.int p2), .val (.long bb), .second, .unset, .unset, .unset, .unset, .unset] [(.long bb)])) rfl (by rw [hml]; rfl) (argsL := [(.long bb)]) (rest := []) (lenOf pd_0 rfl) rfl (by show 2 * 0 + _ ≤ _; exact Nat.le_of_eq rfl) (hb hby at_8) (fun _ _ => ⟨rfl, e0, (by decide : 0 + 0 ≤ _), (by decide : 0 + 0 ≤ _)⟩)
  dsimp only [Pt.U, Pt.locs, Pt.cells, Pt.slots] at X9 l9 y9 z9 st9 hQ9
  subst l9 y9 z9
  obtain ⟨r, rfl, Nq9, hh9, hr⟩ := hQ9
  have N9 := Fr.app N0 Nq9
  refine own_go st9 ?_
  have e9 : T9.heap = h0 := hh9
  show own_G p e below (T9.setTop (mkF m 11 #[.val (.long q1), .second, .val (.int p2), .val (.long bb), .second, .unset, .unset, .unset, .unset, .unset] [(.int r)])) _
  rcases hr with ⟨rfl, g0⟩ | ⟨rfl, g0, g1⟩ | ⟨rfl, g0, g1⟩ | ⟨rfl, g0, g1⟩ | ⟨rfl, g0⟩
  · show own_G p e below (T9.setTop (mkF m 11 #[.val (.long q1), .second, .val (.int p2), .val (.long bb), .second, .unset, .unset, .unset, .unset, .unset] [(.int (0 : Int32))])) _
    refine own_go (fun _ k => XS.istore X9.here hx rfl (hb hby at_11) rfl (l' := #[.val (.long q1), .second, .val (.int p2), .val (.long bb), .second, .val (.int (0 : Int32)), .unset, .unset, .unset, .unset]) rfl k) ?_
    show own_G p e below (T9.setTop (mkF m 13 #[.val (.long q1), .second, .val (.int p2), .val (.long bb), .second, .val (.int (0 : Int32)), .unset, .unset, .unset, .unset] [])) _
    refine own_go (fun _ k => XS.iload X9.here hx rfl (hb hby at_13) rfl k) ?_
    show own_G p e below (T9.setTop (mkF m 15 #[.val (.long q1), .second, .val (.int p2), .val (.long bb), .second, .val (.int (0 : Int32)), .unset, .unset, .unset, .unset] [(.int (0 : Int32))])) _
    refine own_go (fun _ k => XS.ifNo X9.here hx rfl (hb hby at_15) rfl ((if0 _ _).trans (flt (by decide : ¬ ((0 : Int32) < (0 : Int32)))).1) k) ?_
    show own_G p e below (T9.setTop (mkF m 18 #[.val (.long q1), .second, .val (.int p2), .val (.long bb), .second, .val (.int (0 : Int32)), .unset, .unset, .unset, .unset] [])) _
    refine own_go (fun _ k => XS.iload X9.here hx rfl (hb hby at_18) rfl k) ?_
    show own_G p e below (T9.setTop (mkF m 20 #[.val (.long q1), .second, .val (.int p2), .val (.long bb), .second, .val (.int (0 : Int32)), .unset, .unset, .unset, .unset] [(.int (0 : Int32))])) _
    refine own_go (fun _ k => XS.iconst X9.here hx rfl (hb hby at_20) k) ?_
    show own_G p e below (T9.setTop (mkF m 21 #[.val (.long q1), .second, .val (.int p2), .val (.long bb), .second, .val (.int (0 : Int32)), .unset, .unset, .unset, .unset] [(.int (4 : Int32)), (.int (0 : Int32))])) _
    refine own_go (fun _ k => XS.icmpYes X9.here hx rfl (pc0 := 21) (pc' := 26) rfl (hb hby at_21) rfl (flt (by decide : ¬ ((4 : Int32) < (0 : Int32)))).2.2.2 (by decide) (by decide) k) ?_
    show own_G p e below (T9.setTop (mkF m 26 #[.val (.long q1), .second, .val (.int p2), .val (.long bb), .second, .val (.int (0 : Int32)), .unset, .unset, .unset, .unset] [])) _
    refine own_go (fun _ k => XS.iload X9.here hx rfl (hb hby at_26) rfl k) ?_
    show own_G p e below (T9.setTop (mkF m 28 #[.val (.long q1), .second, .val (.int p2), .val (.long bb), .second, .val (.int (0 : Int32)), .unset, .unset, .unset, .unset] [(.int (0 : Int32))])) _
    obtain ⟨_, _, ⟨T10, L10, k10, n10⟩, -, X10, ⟨Lc10, hQ10, l10, y10, z10⟩, st10⟩ := Jvm.LawKit.callS X9 hx (y := (⟨"com/example/tagwire/tagwire/WireNumberTypePinLaw", "widthOf", "(I)I"⟩ : MethodName)) hown (mvT hZ (hw _ (List.mem_of_getElem? (i := 4) rfl))) (mvT hZ (hw _ (List.mem_of_getElem? (i := 5) rfl))) (mvT hZ (hw _ (List.mem_of_getElem? (i := 6) rfl))) (mvT hZ (hw _ (List.mem_of_getElem? (i := 7) rfl))) (by decide) (backOf (W := 0) (rm2 l Z a0 hw [] (0 : Int32) h0 n0 Z0 ) hZ (hw _ (List.mem_of_getElem? (i := 7) rfl)) (hw _ (List.mem_of_getElem? (i := 6) rfl)) (by decide) (by decide)) (g := (mkF m 28 #[.val (.long q1), .second, .val (.int p2), .val (.long bb), .second, .val (.int (0 : Int32)), .unset, .unset, .unset, .unset] [(.int (0 : Int32))])) rfl (by rw [hml]; rfl) (argsL := [(.int (0 : Int32))]) (rest := []) (lenOf pd_1 rfl) rfl (by show 2 * 0 + _ ≤ _; exact Nat.le_of_eq rfl) (hb hby at_28) (fun _ _ => ⟨rfl, e9, (by decide : 0 + 0 + 0 ≤ _), (by decide : 0 + 0 + 0 ≤ _)⟩)
    dsimp only [Pt.U, Pt.locs, Pt.cells, Pt.slots] at X10 l10 y10 z10 st10 hQ10
    subst l10 y10 z10
    obtain ⟨zz10, rfl, Nq10, hh10, hz10⟩ := hQ10
    have N10 := Fr.app N9 Nq10
    refine own_go st10 ?_
    have e10 : T10.heap = h0 := hh10
    obtain rfl : zz10 = (0 : Int32) := hz10.trans (by decide)
    show own_G p e below (T10.setTop (mkF m 31 #[.val (.long q1), .second, .val (.int p2), .val (.long bb), .second, .val (.int (0 : Int32)), .unset, .unset, .unset, .unset] [(.int (0 : Int32))])) _
    refine own_go (fun _ k => XS.istore X10.here hx rfl (hb hby at_31) rfl (l' := #[.val (.long q1), .second, .val (.int p2), .val (.long bb), .second, .val (.int (0 : Int32)), .val (.int (0 : Int32)), .unset, .unset, .unset]) rfl k) ?_
    show own_G p e below (T10.setTop (mkF m 33 #[.val (.long q1), .second, .val (.int p2), .val (.long bb), .second, .val (.int (0 : Int32)), .val (.int (0 : Int32)), .unset, .unset, .unset] [])) _
    refine own_go (fun _ k => XS.iload X10.here hx rfl (hb hby at_33) rfl k) ?_
    show own_G p e below (T10.setTop (mkF m 35 #[.val (.long q1), .second, .val (.int p2), .val (.long bb), .second, .val (.int (0 : Int32)), .val (.int (0 : Int32)), .unset, .unset, .unset] [(.int (0 : Int32))])) _
    refine own_go (fun _ k => XS.iconst X10.here hx rfl (hb hby at_35) k) ?_
    show own_G p e below (T10.setTop (mkF m 36 #[.val (.long q1), .second, .val (.int p2), .val (.long bb), .second, .val (.int (0 : Int32)), .val (.int (0 : Int32)), .unset, .unset, .unset] [(.int (1 : Int32)), (.int (0 : Int32))])) _
    refine own_go (fun _ k => XS.icmpNo X10.here hx rfl (hb hby at_36) rfl (flt (by decide : ¬ ((1 : Int32) < (0 : Int32)))).2.2.1 k) ?_
    show own_G p e below (T10.setTop (mkF m 39 #[.val (.long q1), .second, .val (.int p2), .val (.long bb), .second, .val (.int (0 : Int32)), .val (.int (0 : Int32)), .unset, .unset, .unset] [])) _
    refine own_go (fun _ k => XS.iconst X10.here hx rfl (hb hby at_39) k) ?_
    show own_G p e below (T10.setTop (mkF m 40 #[.val (.long q1), .second, .val (.int p2), .val (.long bb), .second, .val (.int (0 : Int32)), .val (.int (0 : Int32)), .unset, .unset, .unset] [(.int (0 : Int32))])) _
    refine own_go (fun _ k => XS.goto X10.here hx rfl (pc0 := 40) (pc' := 50) rfl (hb hby at_40) (by decide) (by decide) k) ?_
    show own_G p e below (T10.setTop (mkF m 50 #[.val (.long q1), .second, .val (.int p2), .val (.long bb), .second, .val (.int (0 : Int32)), .val (.int (0 : Int32)), .unset, .unset, .unset] [(.int (0 : Int32))])) _
    refine own_go (fun _ k => XS.istore X10.here hx rfl (hb hby at_50) rfl (l' := #[.val (.long q1), .second, .val (.int p2), .val (.long bb), .second, .val (.int (0 : Int32)), .val (.int (0 : Int32)), .val (.int (0 : Int32)), .unset, .unset]) rfl k) ?_
    show own_G p e below (T10.setTop (mkF m 52 #[.val (.long q1), .second, .val (.int p2), .val (.long bb), .second, .val (.int (0 : Int32)), .val (.int (0 : Int32)), .val (.int (0 : Int32)), .unset, .unset] [])) _
    refine own_go (fun _ k => XS.iload X10.here hx rfl (hb hby at_52) rfl k) ?_
    show own_G p e below (T10.setTop (mkF m 54 #[.val (.long q1), .second, .val (.int p2), .val (.long bb), .second, .val (.int (0 : Int32)), .val (.int (0 : Int32)), .val (.int (0 : Int32)), .unset, .unset] [(.int (0 : Int32))])) _
    refine own_go (fun _ k => XS.bipush X10.here hx rfl (hb hby at_54) k) ?_
    show own_G p e below (T10.setTop (mkF m 56 #[.val (.long q1), .second, .val (.int p2), .val (.long bb), .second, .val (.int (0 : Int32)), .val (.int (0 : Int32)), .val (.int (0 : Int32)), .unset, .unset] [(.int (8 : Int32)), (.int (0 : Int32))])) _
    refine own_go (fun _ k => XS.icmpNo X10.here hx rfl (hb hby at_56) rfl (feq (by decide : ¬ ((0 : Int32) = (8 : Int32)))).1 k) ?_
    show own_G p e below (T10.setTop (mkF m 59 #[.val (.long q1), .second, .val (.int p2), .val (.long bb), .second, .val (.int (0 : Int32)), .val (.int (0 : Int32)), .val (.int (0 : Int32)), .unset, .unset] [])) _
    refine own_go (fun _ k => XS.lloadN X10.here hx rfl (hb hby at_59) rfl k) ?_
    show own_G p e below (T10.setTop (mkF m 60 #[.val (.long q1), .second, .val (.int p2), .val (.long bb), .second, .val (.int (0 : Int32)), .val (.int (0 : Int32)), .val (.int (0 : Int32)), .unset, .unset] [(.long bb)])) _
    refine own_go (fun _ k => XS.bipush X10.here hx rfl (hb hby at_60) k) ?_
    show own_G p e below (T10.setTop (mkF m 62 #[.val (.long q1), .second, .val (.int p2), .val (.long bb), .second, .val (.int (0 : Int32)), .val (.int (0 : Int32)), .val (.int (0 : Int32)), .unset, .unset] [(.int (8 : Int32)), (.long bb)])) _
    refine own_go (fun _ k => XS.iload X10.here hx rfl (hb hby at_62) rfl k) ?_
    show own_G p e below (T10.setTop (mkF m 64 #[.val (.long q1), .second, .val (.int p2), .val (.long bb), .second, .val (.int (0 : Int32)), .val (.int (0 : Int32)), .val (.int (0 : Int32)), .unset, .unset] [(.int (0 : Int32)), (.int (8 : Int32)), (.long bb)])) _
    refine own_go (fun _ k => XS.imul X10.here hx rfl (hb hby at_64) rfl k) ?_
    show own_G p e below (T10.setTop (mkF m 65 #[.val (.long q1), .second, .val (.int p2), .val (.long bb), .second, .val (.int (0 : Int32)), .val (.int (0 : Int32)), .val (.int (0 : Int32)), .unset, .unset] [(.int (0 : Int32)), (.long bb)])) _
    refine own_go (fun _ k => XT.lushr X10.here hx rfl (hb hby at_65) rfl k) ?_
    show own_G p e below (T10.setTop (mkF m 66 #[.val (.long q1), .second, .val (.int p2), .val (.long bb), .second, .val (.int (0 : Int32)), .val (.int (0 : Int32)), .val (.int (0 : Int32)), .unset, .unset] [(.long (XT.ushrL bb (0 : Int32)))])) _
    refine own_go (fun _ k => XS.lconst X10.here hx rfl (hb hby at_66) k) ?_
    show own_G p e below (T10.setTop (mkF m 67 #[.val (.long q1), .second, .val (.int p2), .val (.long bb), .second, .val (.int (0 : Int32)), .val (.int (0 : Int32)), .val (.int (0 : Int32)), .unset, .unset] [(.long (0 : Int64)), (.long (XT.ushrL bb (0 : Int32)))])) _
    refine own_go (fun _ k => XS.lcmp X10.here hx rfl (hb hby at_67) rfl k) ?_
    show own_G p e below (T10.setTop (mkF m 68 #[.val (.long q1), .second, .val (.int p2), .val (.long bb), .second, .val (.int (0 : Int32)), .val (.int (0 : Int32)), .val (.int (0 : Int32)), .unset, .unset] [(.int (lcmpW (XT.ushrL bb (0 : Int32)) (0 : Int64)))])) _
    refine own_go (fun _ k => XS.ifNo X10.here hx rfl (hb hby at_68) rfl ((if0 _ _).trans (teq ((lw_eq _ _).mpr ((own_sh0 bb).mpr g0))).2) k) ?_
    show own_G p e below (T10.setTop (mkF m 71 #[.val (.long q1), .second, .val (.int p2), .val (.long bb), .second, .val (.int (0 : Int32)), .val (.int (0 : Int32)), .val (.int (0 : Int32)), .unset, .unset] [])) _
    refine own_go (fun _ k => XS.iconst X10.here hx rfl (hb hby at_71) k) ?_
    show own_G p e below (T10.setTop (mkF m 72 #[.val (.long q1), .second, .val (.int p2), .val (.long bb), .second, .val (.int (0 : Int32)), .val (.int (0 : Int32)), .val (.int (0 : Int32)), .unset, .unset] [(.int (1 : Int32))])) _
    refine own_go (fun _ k => XS.goto X10.here hx rfl (pc0 := 72) (pc' := 76) rfl (hb hby at_72) (by decide) (by decide) k) ?_
    show own_G p e below (T10.setTop (mkF m 76 #[.val (.long q1), .second, .val (.int p2), .val (.long bb), .second, .val (.int (0 : Int32)), .val (.int (0 : Int32)), .val (.int (0 : Int32)), .unset, .unset] [(.int (1 : Int32))])) _
    refine own_go (fun _ k => XS.istore X10.here hx rfl (hb hby at_76) rfl (l' := #[.val (.long q1), .second, .val (.int p2), .val (.long bb), .second, .val (.int (0 : Int32)), .val (.int (0 : Int32)), .val (.int (0 : Int32)), .val (.int (1 : Int32)), .unset]) rfl k) ?_
    show own_G p e below (T10.setTop (mkF m 78 #[.val (.long q1), .second, .val (.int p2), .val (.long bb), .second, .val (.int (0 : Int32)), .val (.int (0 : Int32)), .val (.int (0 : Int32)), .val (.int (1 : Int32)), .unset] [])) _
    refine own_go (fun _ k => XS.iload X10.here hx rfl (hb hby at_78) rfl k) ?_
    show own_G p e below (T10.setTop (mkF m 80 #[.val (.long q1), .second, .val (.int p2), .val (.long bb), .second, .val (.int (0 : Int32)), .val (.int (0 : Int32)), .val (.int (0 : Int32)), .val (.int (1 : Int32)), .unset] [(.int (0 : Int32))])) _
    refine own_go (fun _ k => XS.ifYes X10.here hx rfl (pc0 := 80) (pc' := 95) rfl (hb hby at_80) rfl ((if0 _ _).trans (teq (by decide : (0 : Int32) = (0 : Int32))).1) (by decide) (by decide) k) ?_
    show own_G p e below (T10.setTop (mkF m 95 #[.val (.long q1), .second, .val (.int p2), .val (.long bb), .second, .val (.int (0 : Int32)), .val (.int (0 : Int32)), .val (.int (0 : Int32)), .val (.int (1 : Int32)), .unset] [])) _
    refine own_go (fun _ k => XS.iconst X10.here hx rfl (hb hby at_95) k) ?_
    show own_G p e below (T10.setTop (mkF m 96 #[.val (.long q1), .second, .val (.int p2), .val (.long bb), .second, .val (.int (0 : Int32)), .val (.int (0 : Int32)), .val (.int (0 : Int32)), .val (.int (1 : Int32)), .unset] [(.int (1 : Int32))])) _
    refine own_go (fun _ k => XS.goto X10.here hx rfl (pc0 := 96) (pc' := 100) rfl (hb hby at_96) (by decide) (by decide) k) ?_
    show own_G p e below (T10.setTop (mkF m 100 #[.val (.long q1), .second, .val (.int p2), .val (.long bb), .second, .val (.int (0 : Int32)), .val (.int (0 : Int32)), .val (.int (0 : Int32)), .val (.int (1 : Int32)), .unset] [(.int (1 : Int32))])) _
    refine own_go (fun _ k => XS.istore X10.here hx rfl (hb hby at_100) rfl (l' := #[.val (.long q1), .second, .val (.int p2), .val (.long bb), .second, .val (.int (0 : Int32)), .val (.int (0 : Int32)), .val (.int (0 : Int32)), .val (.int (1 : Int32)), .val (.int (1 : Int32))]) rfl k) ?_
    show own_G p e below (T10.setTop (mkF m 102 #[.val (.long q1), .second, .val (.int p2), .val (.long bb), .second, .val (.int (0 : Int32)), .val (.int (0 : Int32)), .val (.int (0 : Int32)), .val (.int (1 : Int32)), .val (.int (1 : Int32))] [])) _
    refine own_go (fun _ k => XS.iload X10.here hx rfl (hb hby at_102) rfl k) ?_
    show own_G p e below (T10.setTop (mkF m 104 #[.val (.long q1), .second, .val (.int p2), .val (.long bb), .second, .val (.int (0 : Int32)), .val (.int (0 : Int32)), .val (.int (0 : Int32)), .val (.int (1 : Int32)), .val (.int (1 : Int32))] [(.int (1 : Int32))])) _
    refine own_go (fun _ k => XS.ifNo X10.here hx rfl (hb hby at_104) rfl ((if0 _ _).trans (feq (by decide : ¬ ((1 : Int32) = (0 : Int32)))).1) k) ?_
    show own_G p e below (T10.setTop (mkF m 107 #[.val (.long q1), .second, .val (.int p2), .val (.long bb), .second, .val (.int (0 : Int32)), .val (.int (0 : Int32)), .val (.int (0 : Int32)), .val (.int (1 : Int32)), .val (.int (1 : Int32))] [])) _
    refine own_go (fun _ k => XS.iload X10.here hx rfl (hb hby at_107) rfl k) ?_
    show own_G p e below (T10.setTop (mkF m 109 #[.val (.long q1), .second, .val (.int p2), .val (.long bb), .second, .val (.int (0 : Int32)), .val (.int (0 : Int32)), .val (.int (0 : Int32)), .val (.int (1 : Int32)), .val (.int (1 : Int32))] [(.int (1 : Int32))])) _
    refine own_go (fun _ k => XS.ifNo X10.here hx rfl (hb hby at_109) rfl ((if0 _ _).trans (feq (by decide : ¬ ((1 : Int32) = (0 : Int32)))).1) k) ?_
    show own_G p e below (T10.setTop (mkF m 112 #[.val (.long q1), .second, .val (.int p2), .val (.long bb), .second, .val (.int (0 : Int32)), .val (.int (0 : Int32)), .val (.int (0 : Int32)), .val (.int (1 : Int32)), .val (.int (1 : Int32))] [])) _
    refine own_go (fun _ k => XS.iconst X10.here hx rfl (hb hby at_112) k) ?_
    show own_G p e below (T10.setTop (mkF m 113 #[.val (.long q1), .second, .val (.int p2), .val (.long bb), .second, .val (.int (0 : Int32)), .val (.int (0 : Int32)), .val (.int (0 : Int32)), .val (.int (1 : Int32)), .val (.int (1 : Int32))] [(.int (1 : Int32))])) _
    refine own_go (fun _ k => XS.goto X10.here hx rfl (pc0 := 113) (pc' := 117) rfl (hb hby at_113) (by decide) (by decide) k) ?_
    show own_G p e below (T10.setTop (mkF m 117 #[.val (.long q1), .second, .val (.int p2), .val (.long bb), .second, .val (.int (0 : Int32)), .val (.int (0 : Int32)), .val (.int (0 : Int32)), .val (.int (1 : Int32)), .val (.int (1 : Int32))] [(.int (1 : Int32))])) _
    refine own_ret X10 hlk (v := some (.int (1 : Int32))) (fun h => by rw [hret] at h; cases h) (Q0 Z q1 p2 h0 n0) (own_retI X10 hx (t := .boolean) hret rfl (Or.inl ⟨rfl, by simp, _, rfl⟩) (hb hby at_117)) (by decide) (by decide) ?_
    show Q0 Z q1 p2 h0 n0 _ T10.heap _
    rw [e10]
    exact ⟨rfl, N10⟩
  · show own_G p e below (T9.setTop (mkF m 11 #[.val (.long q1), .second, .val (.int p2), .val (.long bb), .second, .unset, .unset, .unset, .unset, .unset] [(.int (1 : Int32))])) _
    refine own_go (fun _ k => XS.istore X9.here hx rfl (hb hby at_11) rfl (l' := #[.val (.long q1), .second, .val (.int p2), .val (.long bb), .second, .val (.int (1 : Int32)), .unset, .unset, .unset, .unset]) rfl k) ?_
    show own_G p e below (T9.setTop (mkF m 13 #[.val (.long q1), .second, .val (.int p2), .val (.long bb), .second, .val (.int (1 : Int32)), .unset, .unset, .unset, .unset] [])) _
    refine own_go (fun _ k => XS.iload X9.here hx rfl (hb hby at_13) rfl k) ?_
    show own_G p e below (T9.setTop (mkF m 15 #[.val (.long q1), .second, .val (.int p2), .val (.long bb), .second, .val (.int (1 : Int32)), .unset, .unset, .unset, .unset] [(.int (1 : Int32))])) _
    refine own_go (fun _ k => XS.ifNo X9.here hx rfl (hb hby at_15) rfl ((if0 _ _).trans (flt (by decide : ¬ ((1 : Int32) < (0 : Int32)))).1) k) ?_
    show own_G p e below (T9.setTop (mkF m 18 #[.val (.long q1), .second, .val (.int p2), .val (.long bb), .second, .val (.int (1 : Int32)), .unset, .unset, .unset, .unset] [])) _
    refine own_go (fun _ k => XS.iload X9.here hx rfl (hb hby at_18) rfl k) ?_
    show own_G p e below (T9.setTop (mkF m 20 #[.val (.long q1), .second, .val (.int p2), .val (.long bb), .second, .val (.int (1 : Int32)), .unset, .unset, .unset, .unset] [(.int (1 : Int32))])) _
    refine own_go (fun _ k => XS.iconst X9.here hx rfl (hb hby at_20) k) ?_
    show own_G p e below (T9.setTop (mkF m 21 #[.val (.long q1), .second, .val (.int p2), .val (.long bb), .second, .val (.int (1 : Int32)), .unset, .unset, .unset, .unset] [(.int (4 : Int32)), (.int (1 : Int32))])) _
    refine own_go (fun _ k => XS.icmpYes X9.here hx rfl (pc0 := 21) (pc' := 26) rfl (hb hby at_21) rfl (flt (by decide : ¬ ((4 : Int32) < (1 : Int32)))).2.2.2 (by decide) (by decide) k) ?_
    show own_G p e below (T9.setTop (mkF m 26 #[.val (.long q1), .second, .val (.int p2), .val (.long bb), .second, .val (.int (1 : Int32)), .unset, .unset, .unset, .unset] [])) _
    refine own_go (fun _ k => XS.iload X9.here hx rfl (hb hby at_26) rfl k) ?_
    show own_G p e below (T9.setTop (mkF m 28 #[.val (.long q1), .second, .val (.int p2), .val (.long bb), .second, .val (.int (1 : Int32)), .unset, .unset, .unset, .unset] [(.int (1 : Int32))])) _
    obtain ⟨_, _, ⟨T11, L11, k11, n11⟩, -, X11, ⟨Lc11, hQ11, l11, y11, z11⟩, st11⟩ := Jvm.LawKit.callS X9 hx (y := (⟨"com/example/tagwire/tagwire/WireNumberTypePinLaw", "widthOf", "(I)I"⟩ : MethodName)) hown (mvT hZ (hw _ (List.mem_of_getElem? (i := 4) rfl))) (mvT hZ (hw _ (List.mem_of_getElem? (i := 5) rfl))) (mvT hZ (hw _ (List.mem_of_getElem? (i := 6) rfl))) (mvT hZ (hw _ (List.mem_of_getElem? (i := 7) rfl))) (by decide) (backOf (W := 0) (rm2 l Z a0 hw [] (1 : Int32) h0 n0 Z0 ) hZ (hw _ (List.mem_of_getElem? (i := 7) rfl)) (hw _ (List.mem_of_getElem? (i := 6) rfl)) (by decide) (by decide)) (g := (mkF m 28 #[.val (.long q1), .second, .val (.int p2), .val (.long bb), .second, .val (.int (1 : Int32)), .unset, .unset, .unset, .unset] [(.int (1 : Int32))])) rfl (by rw [hml]; rfl) (argsL := [(.int (1 : Int32))]) (rest := []) (lenOf pd_1 rfl) rfl (by show 2 * 0 + _ ≤ _; exact Nat.le_of_eq rfl) (hb hby at_28) (fun _ _ => ⟨rfl, e9, (by decide : 0 + 0 + 0 ≤ _), (by decide : 0 + 0 + 0 ≤ _)⟩)
    dsimp only [Pt.U, Pt.locs, Pt.cells, Pt.slots] at X11 l11 y11 z11 st11 hQ11
    subst l11 y11 z11
    obtain ⟨zz11, rfl, Nq11, hh11, hz11⟩ := hQ11
    have N11 := Fr.app N9 Nq11
    refine own_go st11 ?_
    have e11 : T11.heap = h0 := hh11
    obtain rfl : zz11 = (1 : Int32) := hz11.trans (by decide)
    show own_G p e below (T11.setTop (mkF m 31 #[.val (.long q1), .second, .val (.int p2), .val (.long bb), .second, .val (.int (1 : Int32)), .unset, .unset, .unset, .unset] [(.int (1 : Int32))])) _
    refine own_go (fun _ k => XS.istore X11.here hx rfl (hb hby at_31) rfl (l' := #[.val (.long q1), .second, .val (.int p2), .val (.long bb), .second, .val (.int (1 : Int32)), .val (.int (1 : Int32)), .unset, .unset, .unset]) rfl k) ?_
    show own_G p e below (T11.setTop (mkF m 33 #[.val (.long q1), .second, .val (.int p2), .val (.long bb), .second, .val (.int (1 : Int32)), .val (.int (1 : Int32)), .unset, .unset, .unset] [])) _
    refine own_go (fun _ k => XS.iload X11.here hx rfl (hb hby at_33) rfl k) ?_
    show own_G p e below (T11.setTop (mkF m 35 #[.val (.long q1), .second, .val (.int p2), .val (.long bb), .second, .val (.int (1 : Int32)), .val (.int (1 : Int32)), .unset, .unset, .unset] [(.int (1 : Int32))])) _
    refine own_go (fun _ k => XS.iconst X11.here hx rfl (hb hby at_35) k) ?_
    show own_G p e below (T11.setTop (mkF m 36 #[.val (.long q1), .second, .val (.int p2), .val (.long bb), .second, .val (.int (1 : Int32)), .val (.int (1 : Int32)), .unset, .unset, .unset] [(.int (1 : Int32)), (.int (1 : Int32))])) _
    refine own_go (fun _ k => XS.icmpNo X11.here hx rfl (hb hby at_36) rfl (flt (by decide : ¬ ((1 : Int32) < (1 : Int32)))).2.2.1 k) ?_
    show own_G p e below (T11.setTop (mkF m 39 #[.val (.long q1), .second, .val (.int p2), .val (.long bb), .second, .val (.int (1 : Int32)), .val (.int (1 : Int32)), .unset, .unset, .unset] [])) _
    refine own_go (fun _ k => XS.iconst X11.here hx rfl (hb hby at_39) k) ?_
    show own_G p e below (T11.setTop (mkF m 40 #[.val (.long q1), .second, .val (.int p2), .val (.long bb), .second, .val (.int (1 : Int32)), .val (.int (1 : Int32)), .unset, .unset, .unset] [(.int (0 : Int32))])) _
    refine own_go (fun _ k => XS.goto X11.here hx rfl (pc0 := 40) (pc' := 50) rfl (hb hby at_40) (by decide) (by decide) k) ?_
    show own_G p e below (T11.setTop (mkF m 50 #[.val (.long q1), .second, .val (.int p2), .val (.long bb), .second, .val (.int (1 : Int32)), .val (.int (1 : Int32)), .unset, .unset, .unset] [(.int (0 : Int32))])) _
    refine own_go (fun _ k => XS.istore X11.here hx rfl (hb hby at_50) rfl (l' := #[.val (.long q1), .second, .val (.int p2), .val (.long bb), .second, .val (.int (1 : Int32)), .val (.int (1 : Int32)), .val (.int (0 : Int32)), .unset, .unset]) rfl k) ?_
    show own_G p e below (T11.setTop (mkF m 52 #[.val (.long q1), .second, .val (.int p2), .val (.long bb), .second, .val (.int (1 : Int32)), .val (.int (1 : Int32)), .val (.int (0 : Int32)), .unset, .unset] [])) _
    refine own_go (fun _ k => XS.iload X11.here hx rfl (hb hby at_52) rfl k) ?_
    show own_G p e below (T11.setTop (mkF m 54 #[.val (.long q1), .second, .val (.int p2), .val (.long bb), .second, .val (.int (1 : Int32)), .val (.int (1 : Int32)), .val (.int (0 : Int32)), .unset, .unset] [(.int (1 : Int32))])) _
    refine own_go (fun _ k => XS.bipush X11.here hx rfl (hb hby at_54) k) ?_
    show own_G p e below (T11.setTop (mkF m 56 #[.val (.long q1), .second, .val (.int p2), .val (.long bb), .second, .val (.int (1 : Int32)), .val (.int (1 : Int32)), .val (.int (0 : Int32)), .unset, .unset] [(.int (8 : Int32)), (.int (1 : Int32))])) _
    refine own_go (fun _ k => XS.icmpNo X11.here hx rfl (hb hby at_56) rfl (feq (by decide : ¬ ((1 : Int32) = (8 : Int32)))).1 k) ?_
    show own_G p e below (T11.setTop (mkF m 59 #[.val (.long q1), .second, .val (.int p2), .val (.long bb), .second, .val (.int (1 : Int32)), .val (.int (1 : Int32)), .val (.int (0 : Int32)), .unset, .unset] [])) _
    refine own_go (fun _ k => XS.lloadN X11.here hx rfl (hb hby at_59) rfl k) ?_
    show own_G p e below (T11.setTop (mkF m 60 #[.val (.long q1), .second, .val (.int p2), .val (.long bb), .second, .val (.int (1 : Int32)), .val (.int (1 : Int32)), .val (.int (0 : Int32)), .unset, .unset] [(.long bb)])) _
    refine own_go (fun _ k => XS.bipush X11.here hx rfl (hb hby at_60) k) ?_
    show own_G p e below (T11.setTop (mkF m 62 #[.val (.long q1), .second, .val (.int p2), .val (.long bb), .second, .val (.int (1 : Int32)), .val (.int (1 : Int32)), .val (.int (0 : Int32)), .unset, .unset] [(.int (8 : Int32)), (.long bb)])) _
    refine own_go (fun _ k => XS.iload X11.here hx rfl (hb hby at_62) rfl k) ?_
    show own_G p e below (T11.setTop (mkF m 64 #[.val (.long q1), .second, .val (.int p2), .val (.long bb), .second, .val (.int (1 : Int32)), .val (.int (1 : Int32)), .val (.int (0 : Int32)), .unset, .unset] [(.int (1 : Int32)), (.int (8 : Int32)), (.long bb)])) _
    refine own_go (fun _ k => XS.imul X11.here hx rfl (hb hby at_64) rfl k) ?_
    show own_G p e below (T11.setTop (mkF m 65 #[.val (.long q1), .second, .val (.int p2), .val (.long bb), .second, .val (.int (1 : Int32)), .val (.int (1 : Int32)), .val (.int (0 : Int32)), .unset, .unset] [(.int (8 : Int32)), (.long bb)])) _
    refine own_go (fun _ k => XT.lushr X11.here hx rfl (hb hby at_65) rfl k) ?_
    show own_G p e below (T11.setTop (mkF m 66 #[.val (.long q1), .second, .val (.int p2), .val (.long bb), .second, .val (.int (1 : Int32)), .val (.int (1 : Int32)), .val (.int (0 : Int32)), .unset, .unset] [(.long (XT.ushrL bb (8 : Int32)))])) _
    refine own_go (fun _ k => XS.lconst X11.here hx rfl (hb hby at_66) k) ?_
    show own_G p e below (T11.setTop (mkF m 67 #[.val (.long q1), .second, .val (.int p2), .val (.long bb), .second, .val (.int (1 : Int32)), .val (.int (1 : Int32)), .val (.int (0 : Int32)), .unset, .unset] [(.long (0 : Int64)), (.long (XT.ushrL bb (8 : Int32)))])) _
    refine own_go (fun _ k => XS.lcmp X11.here hx rfl (hb hby at_67) rfl k) ?_
    show own_G p e below (T11.setTop (mkF m 68 #[.val (.long q1), .second, .val (.int p2), .val (.long bb), .second, .val (.int (1 : Int32)), .val (.int (1 : Int32)), .val (.int (0 : Int32)), .unset, .unset] [(.int (lcmpW (XT.ushrL bb (8 : Int32)) (0 : Int64)))])) _
    refine own_go (fun _ k => XS.ifNo X11.here hx rfl (hb hby at_68) rfl ((if0 _ _).trans (teq ((lw_eq _ _).mpr ((own_sh8 bb).mpr g1))).2) k) ?_
    show own_G p e below (T11.setTop (mkF m 71 #[.val (.long q1), .second, .val (.int p2), .val (.long bb), .second, .val (.int (1 : Int32)), .val (.int (1 : Int32)), .val (.int (0 : Int32)), .unset, .unset] [])) _
    refine own_go (fun _ k => XS.iconst X11.here hx rfl (hb hby at_71) k) ?_
    show own_G p e below (T11.setTop (mkF m 72 #[.val (.long q1), .second, .val (.int p2), .val (.long bb), .second, .val (.int (1 : Int32)), .val (.int (1 : Int32)), .val (.int (0 : Int32)), .unset, .unset] [(.int (1 : Int32))])) _
    refine own_go (fun _ k => XS.goto X11.here hx rfl (pc0 := 72) (pc' := 76) rfl (hb hby at_72) (by decide) (by decide) k) ?_
    show own_G p e below (T11.setTop (mkF m 76 #[.val (.long q1), .second, .val (.int p2), .val (.long bb), .second, .val (.int (1 : Int32)), .val (.int (1 : Int32)), .val (.int (0 : Int32)), .unset, .unset] [(.int (1 : Int32))])) _
    refine own_go (fun _ k => XS.istore X11.here hx rfl (hb hby at_76) rfl (l' := #[.val (.long q1), .second, .val (.int p2), .val (.long bb), .second, .val (.int (1 : Int32)), .val (.int (1 : Int32)), .val (.int (0 : Int32)), .val (.int (1 : Int32)), .unset]) rfl k) ?_
    show own_G p e below (T11.setTop (mkF m 78 #[.val (.long q1), .second, .val (.int p2), .val (.long bb), .second, .val (.int (1 : Int32)), .val (.int (1 : Int32)), .val (.int (0 : Int32)), .val (.int (1 : Int32)), .unset] [])) _
    refine own_go (fun _ k => XS.iload X11.here hx rfl (hb hby at_78) rfl k) ?_
    show own_G p e below (T11.setTop (mkF m 80 #[.val (.long q1), .second, .val (.int p2), .val (.long bb), .second, .val (.int (1 : Int32)), .val (.int (1 : Int32)), .val (.int (0 : Int32)), .val (.int (1 : Int32)), .unset] [(.int (1 : Int32))])) _
    refine own_go (fun _ k => XS.ifNo X11.here hx rfl (hb hby at_80) rfl ((if0 _ _).trans (feq (by decide : ¬ ((1 : Int32) = (0 : Int32)))).1) k) ?_
    show own_G p e below (T11.setTop (mkF m 83 #[.val (.long q1), .second, .val (.int p2), .val (.long bb), .second, .val (.int (1 : Int32)), .val (.int (1 : Int32)), .val (.int (0 : Int32)), .val (.int (1 : Int32)), .unset] [])) _
    refine own_go (fun _ k => XS.lloadN X11.here hx rfl (hb hby at_83) rfl k) ?_
    show own_G p e below (T11.setTop (mkF m 84 #[.val (.long q1), .second, .val (.int p2), .val (.long bb), .second, .val (.int (1 : Int32)), .val (.int (1 : Int32)), .val (.int (0 : Int32)), .val (.int (1 : Int32)), .unset] [(.long bb)])) _
    refine own_go (fun _ k => XS.bipush X11.here hx rfl (hb hby at_84) k) ?_
    show own_G p e below (T11.setTop (mkF m 86 #[.val (.long q1), .second, .val (.int p2), .val (.long bb), .second, .val (.int (1 : Int32)), .val (.int (1 : Int32)), .val (.int (0 : Int32)), .val (.int (1 : Int32)), .unset] [(.int (8 : Int32)), (.long bb)])) _
    refine own_go (fun _ k => XS.iload X11.here hx rfl (hb hby at_86) rfl k) ?_
    show own_G p e below (T11.setTop (mkF m 88 #[.val (.long q1), .second, .val (.int p2), .val (.long bb), .second, .val (.int (1 : Int32)), .val (.int (1 : Int32)), .val (.int (0 : Int32)), .val (.int (1 : Int32)), .unset] [(.int (0 : Int32)), (.int (8 : Int32)), (.long bb)])) _
    refine own_go (fun _ k => XS.imul X11.here hx rfl (hb hby at_88) rfl k) ?_
    show own_G p e below (T11.setTop (mkF m 89 #[.val (.long q1), .second, .val (.int p2), .val (.long bb), .second, .val (.int (1 : Int32)), .val (.int (1 : Int32)), .val (.int (0 : Int32)), .val (.int (1 : Int32)), .unset] [(.int (0 : Int32)), (.long bb)])) _
    refine own_go (fun _ k => XT.lushr X11.here hx rfl (hb hby at_89) rfl k) ?_
    show own_G p e below (T11.setTop (mkF m 90 #[.val (.long q1), .second, .val (.int p2), .val (.long bb), .second, .val (.int (1 : Int32)), .val (.int (1 : Int32)), .val (.int (0 : Int32)), .val (.int (1 : Int32)), .unset] [(.long (XT.ushrL bb (0 : Int32)))])) _
    refine own_go (fun _ k => XS.lconst X11.here hx rfl (hb hby at_90) k) ?_
    show own_G p e below (T11.setTop (mkF m 91 #[.val (.long q1), .second, .val (.int p2), .val (.long bb), .second, .val (.int (1 : Int32)), .val (.int (1 : Int32)), .val (.int (0 : Int32)), .val (.int (1 : Int32)), .unset] [(.long (0 : Int64)), (.long (XT.ushrL bb (0 : Int32)))])) _
    refine own_go (fun _ k => XS.lcmp X11.here hx rfl (hb hby at_91) rfl k) ?_
    show own_G p e below (T11.setTop (mkF m 92 #[.val (.long q1), .second, .val (.int p2), .val (.long bb), .second, .val (.int (1 : Int32)), .val (.int (1 : Int32)), .val (.int (0 : Int32)), .val (.int (1 : Int32)), .unset] [(.int (lcmpW (XT.ushrL bb (0 : Int32)) (0 : Int64)))])) _
    refine own_go (fun _ k => XS.ifNo X11.here hx rfl (hb hby at_92) rfl ((if0 _ _).trans (feq (fun q => (fun q => g0 ((own_sh0 bb).mp q)) ((lw_eq _ _).mp q))).1) k) ?_
    show own_G p e below (T11.setTop (mkF m 95 #[.val (.long q1), .second, .val (.int p2), .val (.long bb), .second, .val (.int (1 : Int32)), .val (.int (1 : Int32)), .val (.int (0 : Int32)), .val (.int (1 : Int32)), .unset] [])) _
    refine own_go (fun _ k => XS.iconst X11.here hx rfl (hb hby at_95) k) ?_
    show own_G p e below (T11.setTop (mkF m 96 #[.val (.long q1), .second, .val (.int p2), .val (.long bb), .second, .val (.int (1 : Int32)), .val (.int (1 : Int32)), .val (.int (0 : Int32)), .val (.int (1 : Int32)), .unset] [(.int (1 : Int32))])) _
    refine own_go (fun _ k => XS.goto X11.here hx rfl (pc0 := 96) (pc' := 100) rfl (hb hby at_96) (by decide) (by decide) k) ?_
    show own_G p e below (T11.setTop (mkF m 100 #[.val (.long q1), .second, .val (.int p2), .val (.long bb), .second, .val (.int (1 : Int32)), .val (.int (1 : Int32)), .val (.int (0 : Int32)), .val (.int (1 : Int32)), .unset] [(.int (1 : Int32))])) _
    refine own_go (fun _ k => XS.istore X11.here hx rfl (hb hby at_100) rfl (l' := #[.val (.long q1), .second, .val (.int p2), .val (.long bb), .second, .val (.int (1 : Int32)), .val (.int (1 : Int32)), .val (.int (0 : Int32)), .val (.int (1 : Int32)), .val (.int (1 : Int32))]) rfl k) ?_
    show own_G p e below (T11.setTop (mkF m 102 #[.val (.long q1), .second, .val (.int p2), .val (.long bb), .second, .val (.int (1 : Int32)), .val (.int (1 : Int32)), .val (.int (0 : Int32)), .val (.int (1 : Int32)), .val (.int (1 : Int32))] [])) _
    refine own_go (fun _ k => XS.iload X11.here hx rfl (hb hby at_102) rfl k) ?_
    show own_G p e below (T11.setTop (mkF m 104 #[.val (.long q1), .second, .val (.int p2), .val (.long bb), .second, .val (.int (1 : Int32)), .val (.int (1 : Int32)), .val (.int (0 : Int32)), .val (.int (1 : Int32)), .val (.int (1 : Int32))] [(.int (1 : Int32))])) _
    refine own_go (fun _ k => XS.ifNo X11.here hx rfl (hb hby at_104) rfl ((if0 _ _).trans (feq (by decide : ¬ ((1 : Int32) = (0 : Int32)))).1) k) ?_
    show own_G p e below (T11.setTop (mkF m 107 #[.val (.long q1), .second, .val (.int p2), .val (.long bb), .second, .val (.int (1 : Int32)), .val (.int (1 : Int32)), .val (.int (0 : Int32)), .val (.int (1 : Int32)), .val (.int (1 : Int32))] [])) _
    refine own_go (fun _ k => XS.iload X11.here hx rfl (hb hby at_107) rfl k) ?_
    show own_G p e below (T11.setTop (mkF m 109 #[.val (.long q1), .second, .val (.int p2), .val (.long bb), .second, .val (.int (1 : Int32)), .val (.int (1 : Int32)), .val (.int (0 : Int32)), .val (.int (1 : Int32)), .val (.int (1 : Int32))] [(.int (1 : Int32))])) _
    refine own_go (fun _ k => XS.ifNo X11.here hx rfl (hb hby at_109) rfl ((if0 _ _).trans (feq (by decide : ¬ ((1 : Int32) = (0 : Int32)))).1) k) ?_
    show own_G p e below (T11.setTop (mkF m 112 #[.val (.long q1), .second, .val (.int p2), .val (.long bb), .second, .val (.int (1 : Int32)), .val (.int (1 : Int32)), .val (.int (0 : Int32)), .val (.int (1 : Int32)), .val (.int (1 : Int32))] [])) _
    refine own_go (fun _ k => XS.iconst X11.here hx rfl (hb hby at_112) k) ?_
    show own_G p e below (T11.setTop (mkF m 113 #[.val (.long q1), .second, .val (.int p2), .val (.long bb), .second, .val (.int (1 : Int32)), .val (.int (1 : Int32)), .val (.int (0 : Int32)), .val (.int (1 : Int32)), .val (.int (1 : Int32))] [(.int (1 : Int32))])) _
    refine own_go (fun _ k => XS.goto X11.here hx rfl (pc0 := 113) (pc' := 117) rfl (hb hby at_113) (by decide) (by decide) k) ?_
    show own_G p e below (T11.setTop (mkF m 117 #[.val (.long q1), .second, .val (.int p2), .val (.long bb), .second, .val (.int (1 : Int32)), .val (.int (1 : Int32)), .val (.int (0 : Int32)), .val (.int (1 : Int32)), .val (.int (1 : Int32))] [(.int (1 : Int32))])) _
    refine own_ret X11 hlk (v := some (.int (1 : Int32))) (fun h => by rw [hret] at h; cases h) (Q0 Z q1 p2 h0 n0) (own_retI X11 hx (t := .boolean) hret rfl (Or.inl ⟨rfl, by simp, _, rfl⟩) (hb hby at_117)) (by decide) (by decide) ?_
    show Q0 Z q1 p2 h0 n0 _ T11.heap _
    rw [e11]
    exact ⟨rfl, N11⟩
  · show own_G p e below (T9.setTop (mkF m 11 #[.val (.long q1), .second, .val (.int p2), .val (.long bb), .second, .unset, .unset, .unset, .unset, .unset] [(.int (2 : Int32))])) _
    refine own_go (fun _ k => XS.istore X9.here hx rfl (hb hby at_11) rfl (l' := #[.val (.long q1), .second, .val (.int p2), .val (.long bb), .second, .val (.int (2 : Int32)), .unset, .unset, .unset, .unset]) rfl k) ?_
    show own_G p e below (T9.setTop (mkF m 13 #[.val (.long q1), .second, .val (.int p2), .val (.long bb), .second, .val (.int (2 : Int32)), .unset, .unset, .unset, .unset] [])) _
    refine own_go (fun _ k => XS.iload X9.here hx rfl (hb hby at_13) rfl k) ?_
    show own_G p e below (T9.setTop (mkF m 15 #[.val (.long q1), .second, .val (.int p2), .val (.long bb), .second, .val (.int (2 : Int32)), .unset, .unset, .unset, .unset] [(.int (2 : Int32))])) _
    refine own_go (fun _ k => XS.ifNo X9.here hx rfl (hb hby at_15) rfl ((if0 _ _).trans (flt (by decide : ¬ ((2 : Int32) < (0 : Int32)))).1) k) ?_
    show own_G p e below (T9.setTop (mkF m 18 #[.val (.long q1), .second, .val (.int p2), .val (.long bb), .second, .val (.int (2 : Int32)), .unset, .unset, .unset, .unset] [])) _
    refine own_go (fun _ k => XS.iload X9.here hx rfl (hb hby at_18) rfl k) ?_
    show own_G p e below (T9.setTop (mkF m 20 #[.val (.long q1), .second, .val (.int p2), .val (.long bb), .second, .val (.int (2 : Int32)), .unset, .unset, .unset, .unset] [(.int (2 : Int32))])) _
    refine own_go (fun _ k => XS.iconst X9.here hx rfl (hb hby at_20) k) ?_
    show own_G p e below (T9.setTop (mkF m 21 #[.val (.long q1), .second, .val (.int p2), .val (.long bb), .second, .val (.int (2 : Int32)), .unset, .unset, .unset, .unset] [(.int (4 : Int32)), (.int (2 : Int32))])) _
    refine own_go (fun _ k => XS.icmpYes X9.here hx rfl (pc0 := 21) (pc' := 26) rfl (hb hby at_21) rfl (flt (by decide : ¬ ((4 : Int32) < (2 : Int32)))).2.2.2 (by decide) (by decide) k) ?_
    show own_G p e below (T9.setTop (mkF m 26 #[.val (.long q1), .second, .val (.int p2), .val (.long bb), .second, .val (.int (2 : Int32)), .unset, .unset, .unset, .unset] [])) _
    refine own_go (fun _ k => XS.iload X9.here hx rfl (hb hby at_26) rfl k) ?_
    show own_G p e below (T9.setTop (mkF m 28 #[.val (.long q1), .second, .val (.int p2), .val (.long bb), .second, .val (.int (2 : Int32)), .unset, .unset, .unset, .unset] [(.int (2 : Int32))])) _
    obtain ⟨_, _, ⟨T12, L12, k12, n12⟩, -, X12, ⟨Lc12, hQ12, l12, y12, z12⟩, st12⟩ := Jvm.LawKit.callS X9 hx (y := (⟨"com/example/tagwire/tagwire/WireNumberTypePinLaw", "widthOf", "(I)I"⟩ : MethodName)) hown (mvT hZ (hw _ (List.mem_of_getElem? (i := 4) rfl))) (mvT hZ (hw _ (List.mem_of_getElem? (i := 5) rfl))) (mvT hZ (hw _ (List.mem_of_getElem? (i := 6) rfl))) (mvT hZ (hw _ (List.mem_of_getElem? (i := 7) rfl))) (by decide) (backOf (W := 0) (rm2 l Z a0 hw [] (2 : Int32) h0 n0 Z0 ) hZ (hw _ (List.mem_of_getElem? (i := 7) rfl)) (hw _ (List.mem_of_getElem? (i := 6) rfl)) (by decide) (by decide)) (g := (mkF m 28 #[.val (.long q1), .second, .val (.int p2), .val (.long bb), .second, .val (.int (2 : Int32)), .unset, .unset, .unset, .unset] [(.int (2 : Int32))])) rfl (by rw [hml]; rfl) (argsL := [(.int (2 : Int32))]) (rest := []) (lenOf pd_1 rfl) rfl (by show 2 * 0 + _ ≤ _; exact Nat.le_of_eq rfl) (hb hby at_28) (fun _ _ => ⟨rfl, e9, (by decide : 0 + 0 + 0 ≤ _), (by decide : 0 + 0 + 0 ≤ _)⟩)
    dsimp only [Pt.U, Pt.locs, Pt.cells, Pt.slots] at X12 l12 y12 z12 st12 hQ12
    subst l12 y12 z12
    obtain ⟨zz12, rfl, Nq12, hh12, hz12⟩ := hQ12
    have N12 := Fr.app N9 Nq12
    refine own_go st12 ?_
    have e12 : T12.heap = h0 := hh12
    obtain rfl : zz12 = (2 : Int32) := hz12.trans (by decide)
    show own_G p e below (T12.setTop (mkF m 31 #[.val (.long q1), .second, .val (.int p2), .val (.long bb), .second, .val (.int (2 : Int32)), .unset, .unset, .unset, .unset] [(.int (2 : Int32))])) _
    refine own_go (fun _ k => XS.istore X12.here hx rfl (hb hby at_31) rfl (l' := #[.val (.long q1), .second, .val (.int p2), .val (.long bb), .second, .val (.int (2 : Int32)), .val (.int (2 : Int32)), .unset, .unset, .unset]) rfl k) ?_
    show own_G p e below (T12.setTop (mkF m 33 #[.val (.long q1), .second, .val (.int p2), .val (.long bb), .second, .val (.int (2 : Int32)), .val (.int (2 : Int32)), .unset, .unset, .unset] [])) _
    refine own_go (fun _ k => XS.iload X12.here hx rfl (hb hby at_33) rfl k) ?_
    show own_G p e below (T12.setTop (mkF m 35 #[.val (.long q1), .second, .val (.int p2), .val (.long bb), .second, .val (.int (2 : Int32)), .val (.int (2 : Int32)), .unset, .unset, .unset] [(.int (2 : Int32))])) _
    refine own_go (fun _ k => XS.iconst X12.here hx rfl (hb hby at_35) k) ?_
    show own_G p e below (T12.setTop (mkF m 36 #[.val (.long q1), .second, .val (.int p2), .val (.long bb), .second, .val (.int (2 : Int32)), .val (.int (2 : Int32)), .unset, .unset, .unset] [(.int (1 : Int32)), (.int (2 : Int32))])) _
    refine own_go (fun _ k => XS.icmpYes X12.here hx rfl (pc0 := 36) (pc' := 43) rfl (hb hby at_36) rfl (tlt (by decide : (1 : Int32) < (2 : Int32))).2.2.1 (by decide) (by decide) k) ?_
    show own_G p e below (T12.setTop (mkF m 43 #[.val (.long q1), .second, .val (.int p2), .val (.long bb), .second, .val (.int (2 : Int32)), .val (.int (2 : Int32)), .unset, .unset, .unset] [])) _
    refine own_go (fun _ k => XS.iload X12.here hx rfl (hb hby at_43) rfl k) ?_
    show own_G p e below (T12.setTop (mkF m 45 #[.val (.long q1), .second, .val (.int p2), .val (.long bb), .second, .val (.int (2 : Int32)), .val (.int (2 : Int32)), .unset, .unset, .unset] [(.int (2 : Int32))])) _
    refine own_go (fun _ k => XS.iconst X12.here hx rfl (hb hby at_45) k) ?_
    show own_G p e below (T12.setTop (mkF m 46 #[.val (.long q1), .second, .val (.int p2), .val (.long bb), .second, .val (.int (2 : Int32)), .val (.int (2 : Int32)), .unset, .unset, .unset] [(.int (1 : Int32)), (.int (2 : Int32))])) _
    refine own_go (fun _ k => XS.isub X12.here hx rfl (hb hby at_46) rfl k) ?_
    show own_G p e below (T12.setTop (mkF m 47 #[.val (.long q1), .second, .val (.int p2), .val (.long bb), .second, .val (.int (2 : Int32)), .val (.int (2 : Int32)), .unset, .unset, .unset] [(.int (1 : Int32))])) _
    obtain ⟨_, _, ⟨T13, L13, k13, n13⟩, -, X13, ⟨Lc13, hQ13, l13, y13, z13⟩, st13⟩ := Jvm.LawKit.callS X12 hx (y := (⟨"com/example/tagwire/tagwire/WireNumberTypePinLaw", "widthOf", "(I)I"⟩ : MethodName)) hown (mvT hZ (hw _ (List.mem_of_getElem? (i := 4) rfl))) (mvT hZ (hw _ (List.mem_of_getElem? (i := 5) rfl))) (mvT hZ (hw _ (List.mem_of_getElem? (i := 6) rfl))) (mvT hZ (hw _ (List.mem_of_getElem? (i := 7) rfl))) (by decide) (backOf (W := 0) (rm2 l Z a0 hw [] (1 : Int32) h0 n0 Z0 ) hZ (hw _ (List.mem_of_getElem? (i := 7) rfl)) (hw _ (List.mem_of_getElem? (i := 6) rfl)) (by decide) (by decide)) (g := (mkF m 47 #[.val (.long q1), .second, .val (.int p2), .val (.long bb), .second, .val (.int (2 : Int32)), .val (.int (2 : Int32)), .unset, .unset, .unset] [(.int (1 : Int32))])) rfl (by rw [hml]; rfl) (argsL := [(.int (1 : Int32))]) (rest := []) (lenOf pd_1 rfl) rfl (by show 2 * 0 + _ ≤ _; exact Nat.le_of_eq rfl) (hb hby at_47) (fun _ _ => ⟨rfl, e12, (by decide : 0 + 0 + 0 + 0 ≤ _), (by decide : 0 + 0 + 0 + 0 ≤ _)⟩)
    dsimp only [Pt.U, Pt.locs, Pt.cells, Pt.slots] at X13 l13 y13 z13 st13 hQ13
    subst l13 y13 z13
    obtain ⟨zz13, rfl, Nq13, hh13, hz13⟩ := hQ13
    have N13 := Fr.app N12 Nq13
    refine own_go st13 ?_
    have e13 : T13.heap = h0 := hh13
    obtain rfl : zz13 = (1 : Int32) := hz13.trans (by decide)
    show own_G p e below (T13.setTop (mkF m 50 #[.val (.long q1), .second, .val (.int p2), .val (.long bb), .second, .val (.int (2 : Int32)), .val (.int (2 : Int32)), .unset, .unset, .unset] [(.int (1 : Int32))])) _
    refine own_go (fun _ k => XS.istore X13.here hx rfl (hb hby at_50) rfl (l' := #[.val (.long q1), .second, .val (.int p2), .val (.long bb), .second, .val (.int (2 : Int32)), .val (.int (2 : Int32)), .val (.int (1 : Int32)), .unset, .unset]) rfl k) ?_
    show own_G p e below (T13.setTop (mkF m 52 #[.val (.long q1), .second, .val (.int p2), .val (.long bb), .second, .val (.int (2 : Int32)), .val (.int (2 : Int32)), .val (.int (1 : Int32)), .unset, .unset] [])) _
    refine own_go (fun _ k => XS.iload X13.here hx rfl (hb hby at_52) rfl k) ?_
    show own_G p e below (T13.setTop (mkF m 54 #[.val (.long q1), .second, .val (.int p2), .val (.long bb), .second, .val (.int (2 : Int32)), .val (.int (2 : Int32)), .val (.int (1 : Int32)), .unset, .unset] [(.int (2 : Int32))])) _
    refine own_go (fun _ k => XS.bipush X13.here hx rfl (hb hby at_54) k) ?_
    show own_G p e below (T13.setTop (mkF m 56 #[.val (.long q1), .second, .val (.int p2), .val (.long bb), .second, .val (.int (2 : Int32)), .val (.int (2 : Int32)), .val (.int (1 : Int32)), .unset, .unset] [(.int (8 : Int32)), (.int (2 : Int32))])) _
    refine own_go (fun _ k => XS.icmpNo X13.here hx rfl (hb hby at_56) rfl (feq (by decide : ¬ ((2 : Int32) = (8 : Int32)))).1 k) ?_
    show own_G p e below (T13.setTop (mkF m 59 #[.val (.long q1), .second, .val (.int p2), .val (.long bb), .second, .val (.int (2 : Int32)), .val (.int (2 : Int32)), .val (.int (1 : Int32)), .unset, .unset] [])) _
    refine own_go (fun _ k => XS.lloadN X13.here hx rfl (hb hby at_59) rfl k) ?_
    show own_G p e below (T13.setTop (mkF m 60 #[.val (.long q1), .second, .val (.int p2), .val (.long bb), .second, .val (.int (2 : Int32)), .val (.int (2 : Int32)), .val (.int (1 : Int32)), .unset, .unset] [(.long bb)])) _
    refine own_go (fun _ k => XS.bipush X13.here hx rfl (hb hby at_60) k) ?_
    show own_G p e below (T13.setTop (mkF m 62 #[.val (.long q1), .second, .val (.int p2), .val (.long bb), .second, .val (.int (2 : Int32)), .val (.int (2 : Int32)), .val (.int (1 : Int32)), .unset, .unset] [(.int (8 : Int32)), (.long bb)])) _
    refine own_go (fun _ k => XS.iload X13.here hx rfl (hb hby at_62) rfl k) ?_
    show own_G p e below (T13.setTop (mkF m 64 #[.val (.long q1), .second, .val (.int p2), .val (.long bb), .second, .val (.int (2 : Int32)), .val (.int (2 : Int32)), .val (.int (1 : Int32)), .unset, .unset] [(.int (2 : Int32)), (.int (8 : Int32)), (.long bb)])) _
    refine own_go (fun _ k => XS.imul X13.here hx rfl (hb hby at_64) rfl k) ?_
    show own_G p e below (T13.setTop (mkF m 65 #[.val (.long q1), .second, .val (.int p2), .val (.long bb), .second, .val (.int (2 : Int32)), .val (.int (2 : Int32)), .val (.int (1 : Int32)), .unset, .unset] [(.int (16 : Int32)), (.long bb)])) _
    refine own_go (fun _ k => XT.lushr X13.here hx rfl (hb hby at_65) rfl k) ?_
    show own_G p e below (T13.setTop (mkF m 66 #[.val (.long q1), .second, .val (.int p2), .val (.long bb), .second, .val (.int (2 : Int32)), .val (.int (2 : Int32)), .val (.int (1 : Int32)), .unset, .unset] [(.long (XT.ushrL bb (16 : Int32)))])) _
    refine own_go (fun _ k => XS.lconst X13.here hx rfl (hb hby at_66) k) ?_
    show own_G p e below (T13.setTop (mkF m 67 #[.val (.long q1), .second, .val (.int p2), .val (.long bb), .second, .val (.int (2 : Int32)), .val (.int (2 : Int32)), .val (.int (1 : Int32)), .unset, .unset] [(.long (0 : Int64)), (.long (XT.ushrL bb (16 : Int32)))])) _
    refine own_go (fun _ k => XS.lcmp X13.here hx rfl (hb hby at_67) rfl k) ?_
    show own_G p e below (T13.setTop (mkF m 68 #[.val (.long q1), .second, .val (.int p2), .val (.long bb), .second, .val (.int (2 : Int32)), .val (.int (2 : Int32)), .val (.int (1 : Int32)), .unset, .unset] [(.int (lcmpW (XT.ushrL bb (16 : Int32)) (0 : Int64)))])) _
    refine own_go (fun _ k => XS.ifNo X13.here hx rfl (hb hby at_68) rfl ((if0 _ _).trans (teq ((lw_eq _ _).mpr ((own_sh16 bb).mpr g1))).2) k) ?_
    show own_G p e below (T13.setTop (mkF m 71 #[.val (.long q1), .second, .val (.int p2), .val (.long bb), .second, .val (.int (2 : Int32)), .val (.int (2 : Int32)), .val (.int (1 : Int32)), .unset, .unset] [])) _
    refine own_go (fun _ k => XS.iconst X13.here hx rfl (hb hby at_71) k) ?_
    show own_G p e below (T13.setTop (mkF m 72 #[.val (.long q1), .second, .val (.int p2), .val (.long bb), .second, .val (.int (2 : Int32)), .val (.int (2 : Int32)), .val (.int (1 : Int32)), .unset, .unset] [(.int (1 : Int32))])) _
    refine own_go (fun _ k => XS.goto X13.here hx rfl (pc0 := 72) (pc' := 76) rfl (hb hby at_72) (by decide) (by decide) k) ?_
    show own_G p e below (T13.setTop (mkF m 76 #[.val (.long q1), .second, .val (.int p2), .val (.long bb), .second, .val (.int (2 : Int32)), .val (.int (2 : Int32)), .val (.int (1 : Int32)), .unset, .unset] [(.int (1 : Int32))])) _
    refine own_go (fun _ k => XS.istore X13.here hx rfl (hb hby at_76) rfl (l' := #[.val (.long q1), .second, .val (.int p2), .val (.long bb), .second, .val (.int (2 : Int32)), .val (.int (2 : Int32)), .val (.int (1 : Int32)), .val (.int (1 : Int32)), .unset]) rfl k) ?_
    show own_G p e below (T13.setTop (mkF m 78 #[.val (.long q1), .second, .val (.int p2), .val (.long bb), .second, .val (.int (2 : Int32)), .val (.int (2 : Int32)), .val (.int (1 : Int32)), .val (.int (1 : Int32)), .unset] [])) _
    refine own_go (fun _ k => XS.iload X13.here hx rfl (hb hby at_78) rfl k) ?_
    show own_G p e below (T13.setTop (mkF m 80 #[.val (.long q1), .second, .val (.int p2), .val (.long bb), .second, .val (.int (2 : Int32)), .val (.int (2 : Int32)), .val (.int (1 : Int32)), .val (.int (1 : Int32)), .unset] [(.int (2 : Int32))])) _
    refine own_go (fun _ k => XS.ifNo X13.here hx rfl (hb hby at_80) rfl ((if0 _ _).trans (feq (by decide : ¬ ((2 : Int32) = (0 : Int32)))).1) k) ?_
    show own_G p e below (T13.setTop (mkF m 83 #[.val (.long q1), .second, .val (.int p2), .val (.long bb), .second, .val (.int (2 : Int32)), .val (.int (2 : Int32)), .val (.int (1 : Int32)), .val (.int (1 : Int32)), .unset] [])) _
    refine own_go (fun _ k => XS.lloadN X13.here hx rfl (hb hby at_83) rfl k) ?_
    show own_G p e below (T13.setTop (mkF m 84 #[.val (.long q1), .second, .val (.int p2), .val (.long bb), .second, .val (.int (2 : Int32)), .val (.int (2 : Int32)), .val (.int (1 : Int32)), .val (.int (1 : Int32)), .unset] [(.long bb)])) _
    refine own_go (fun _ k => XS.bipush X13.here hx rfl (hb hby at_84) k) ?_
    show own_G p e below (T13.setTop (mkF m 86 #[.val (.long q1), .second, .val (.int p2), .val (.long bb), .second, .val (.int (2 : Int32)), .val (.int (2 : Int32)), .val (.int (1 : Int32)), .val (.int (1 : Int32)), .unset] [(.int (8 : Int32)), (.long bb)])) _
    refine own_go (fun _ k => XS.iload X13.here hx rfl (hb hby at_86) rfl k) ?_
    show own_G p e below (T13.setTop (mkF m 88 #[.val (.long q1), .second, .val (.int p2), .val (.long bb), .second, .val (.int (2 : Int32)), .val (.int (2 : Int32)), .val (.int (1 : Int32)), .val (.int (1 : Int32)), .unset] [(.int (1 : Int32)), (.int (8 : Int32)), (.long bb)])) _
    refine own_go (fun _ k => XS.imul X13.here hx rfl (hb hby at_88) rfl k) ?_
    show own_G p e below (T13.setTop (mkF m 89 #[.val (.long q1), .second, .val (.int p2), .val (.long bb), .second, .val (.int (2 : Int32)), .val (.int (2 : Int32)), .val (.int (1 : Int32)), .val (.int (1 : Int32)), .unset] [(.int (8 : Int32)), (.long bb)])) _
    refine own_go (fun _ k => XT.lushr X13.here hx rfl (hb hby at_89) rfl k) ?_
    show own_G p e below (T13.setTop (mkF m 90 #[.val (.long q1), .second, .val (.int p2), .val (.long bb), .second, .val (.int (2 : Int32)), .val (.int (2 : Int32)), .val (.int (1 : Int32)), .val (.int (1 : Int32)), .unset] [(.long (XT.ushrL bb (8 : Int32)))])) _
    refine own_go (fun _ k => XS.lconst X13.here hx rfl (hb hby at_90) k) ?_
    show own_G p e below (T13.setTop (mkF m 91 #[.val (.long q1), .second, .val (.int p2), .val (.long bb), .second, .val (.int (2 : Int32)), .val (.int (2 : Int32)), .val (.int (1 : Int32)), .val (.int (1 : Int32)), .unset] [(.long (0 : Int64)), (.long (XT.ushrL bb (8 : Int32)))])) _
    refine own_go (fun _ k => XS.lcmp X13.here hx rfl (hb hby at_91) rfl k) ?_
    show own_G p e below (T13.setTop (mkF m 92 #[.val (.long q1), .second, .val (.int p2), .val (.long bb), .second, .val (.int (2 : Int32)), .val (.int (2 : Int32)), .val (.int (1 : Int32)), .val (.int (1 : Int32)), .unset] [(.int (lcmpW (XT.ushrL bb (8 : Int32)) (0 : Int64)))])) _
    refine own_go (fun _ k => XS.ifNo X13.here hx rfl (hb hby at_92) rfl ((if0 _ _).trans (feq (fun q => (fun q => g0 ((own_sh8 bb).mp q)) ((lw_eq _ _).mp q))).1) k) ?_
    show own_G p e below (T13.setTop (mkF m 95 #[.val (.long q1), .second, .val (.int p2), .val (.long bb), .second, .val (.int (2 : Int32)), .val (.int (2 : Int32)), .val (.int (1 : Int32)), .val (.int (1 : Int32)), .unset] [])) _
    refine own_go (fun _ k => XS.iconst X13.here hx rfl (hb hby at_95) k) ?_
    show own_G p e below (T13.setTop (mkF m 96 #[.val (.long q1), .second, .val (.int p2), .val (.long bb), .second, .val (.int (2 : Int32)), .val (.int (2 : Int32)), .val (.int (1 : Int32)), .val (.int (1 : Int32)), .unset] [(.int (1 : Int32))])) _
    refine own_go (fun _ k => XS.goto X13.here hx rfl (pc0 := 96) (pc' := 100) rfl (hb hby at_96) (by decide) (by decide) k) ?_
    show own_G p e below (T13.setTop (mkF m 100 #[.val (.long q1), .second, .val (.int p2), .val (.long bb), .second, .val (.int (2 : Int32)), .val (.int (2 : Int32)), .val (.int (1 : Int32)), .val (.int (1 : Int32)), .unset] [(.int (1 : Int32))])) _
    refine own_go (fun _ k => XS.istore X13.here hx rfl (hb hby at_100) rfl (l' := #[.val (.long q1), .second, .val (.int p2), .val (.long bb), .second, .val (.int (2 : Int32)), .val (.int (2 : Int32)), .val (.int (1 : Int32)), .val (.int (1 : Int32)), .val (.int (1 : Int32))]) rfl k) ?_
    show own_G p e below (T13.setTop (mkF m 102 #[.val (.long q1), .second, .val (.int p2), .val (.long bb), .second, .val (.int (2 : Int32)), .val (.int (2 : Int32)), .val (.int (1 : Int32)), .val (.int (1 : Int32)), .val (.int (1 : Int32))] [])) _
    refine own_go (fun _ k => XS.iload X13.here hx rfl (hb hby at_102) rfl k) ?_
    show own_G p e below (T13.setTop (mkF m 104 #[.val (.long q1), .second, .val (.int p2), .val (.long bb), .second, .val (.int (2 : Int32)), .val (.int (2 : Int32)), .val (.int (1 : Int32)), .val (.int (1 : Int32)), .val (.int (1 : Int32))] [(.int (1 : Int32))])) _
    refine own_go (fun _ k => XS.ifNo X13.here hx rfl (hb hby at_104) rfl ((if0 _ _).trans (feq (by decide : ¬ ((1 : Int32) = (0 : Int32)))).1) k) ?_
    show own_G p e below (T13.setTop (mkF m 107 #[.val (.long q1), .second, .val (.int p2), .val (.long bb), .second, .val (.int (2 : Int32)), .val (.int (2 : Int32)), .val (.int (1 : Int32)), .val (.int (1 : Int32)), .val (.int (1 : Int32))] [])) _
    refine own_go (fun _ k => XS.iload X13.here hx rfl (hb hby at_107) rfl k) ?_
    show own_G p e below (T13.setTop (mkF m 109 #[.val (.long q1), .second, .val (.int p2), .val (.long bb), .second, .val (.int (2 : Int32)), .val (.int (2 : Int32)), .val (.int (1 : Int32)), .val (.int (1 : Int32)), .val (.int (1 : Int32))] [(.int (1 : Int32))])) _
    refine own_go (fun _ k => XS.ifNo X13.here hx rfl (hb hby at_109) rfl ((if0 _ _).trans (feq (by decide : ¬ ((1 : Int32) = (0 : Int32)))).1) k) ?_
    show own_G p e below (T13.setTop (mkF m 112 #[.val (.long q1), .second, .val (.int p2), .val (.long bb), .second, .val (.int (2 : Int32)), .val (.int (2 : Int32)), .val (.int (1 : Int32)), .val (.int (1 : Int32)), .val (.int (1 : Int32))] [])) _
    refine own_go (fun _ k => XS.iconst X13.here hx rfl (hb hby at_112) k) ?_
    show own_G p e below (T13.setTop (mkF m 113 #[.val (.long q1), .second, .val (.int p2), .val (.long bb), .second, .val (.int (2 : Int32)), .val (.int (2 : Int32)), .val (.int (1 : Int32)), .val (.int (1 : Int32)), .val (.int (1 : Int32))] [(.int (1 : Int32))])) _
    refine own_go (fun _ k => XS.goto X13.here hx rfl (pc0 := 113) (pc' := 117) rfl (hb hby at_113) (by decide) (by decide) k) ?_
    show own_G p e below (T13.setTop (mkF m 117 #[.val (.long q1), .second, .val (.int p2), .val (.long bb), .second, .val (.int (2 : Int32)), .val (.int (2 : Int32)), .val (.int (1 : Int32)), .val (.int (1 : Int32)), .val (.int (1 : Int32))] [(.int (1 : Int32))])) _
    refine own_ret X13 hlk (v := some (.int (1 : Int32))) (fun h => by rw [hret] at h; cases h) (Q0 Z q1 p2 h0 n0) (own_retI X13 hx (t := .boolean) hret rfl (Or.inl ⟨rfl, by simp, _, rfl⟩) (hb hby at_117)) (by decide) (by decide) ?_
    show Q0 Z q1 p2 h0 n0 _ T13.heap _
    rw [e13]
    exact ⟨rfl, N13⟩
  · show own_G p e below (T9.setTop (mkF m 11 #[.val (.long q1), .second, .val (.int p2), .val (.long bb), .second, .unset, .unset, .unset, .unset, .unset] [(.int (3 : Int32))])) _
    refine own_go (fun _ k => XS.istore X9.here hx rfl (hb hby at_11) rfl (l' := #[.val (.long q1), .second, .val (.int p2), .val (.long bb), .second, .val (.int (3 : Int32)), .unset, .unset, .unset, .unset]) rfl k) ?_
    show own_G p e below (T9.setTop (mkF m 13 #[.val (.long q1), .second, .val (.int p2), .val (.long bb), .second, .val (.int (3 : Int32)), .unset, .unset, .unset, .unset] [])) _
    refine own_go (fun _ k => XS.iload X9.here hx rfl (hb hby at_13) rfl k) ?_
    show own_G p e below (T9.setTop (mkF m 15 #[.val (.long q1), .second, .val (.int p2), .val (.long bb), .second, .val (.int (3 : Int32)), .unset, .unset, .unset, .unset] [(.int (3 : Int32))])) _
    refine own_go (fun _ k => XS.ifNo X9.here hx rfl (hb hby at_15) rfl ((if0 _ _).trans (flt (by decide : ¬ ((3 : Int32) < (0 : Int32)))).1) k) ?_
    show own_G p e below (T9.setTop (mkF m 18 #[.val (.long q1), .second, .val (.int p2), .val (.long bb), .second, .val (.int (3 : Int32)), .unset, .unset, .unset, .unset] [])) _
    refine own_go (fun _ k => XS.iload X9.here hx rfl (hb hby at_18) rfl k) ?_
    show own_G p e below (T9.setTop (mkF m 20 #[.val (.long q1), .second, .val (.int p2), .val (.long bb), .second, .val (.int (3 : Int32)), .unset, .unset, .unset, .unset] [(.int (3 : Int32))])) _
    refine own_go (fun _ k => XS.iconst X9.here hx rfl (hb hby at_20) k) ?_
    show own_G p e below (T9.setTop (mkF m 21 #[.val (.long q1), .second, .val (.int p2), .val (.long bb), .second, .val (.int (3 : Int32)), .unset, .unset, .unset, .unset] [(.int (4 : Int32)), (.int (3 : Int32))])) _
    refine own_go (fun _ k => XS.icmpYes X9.here hx rfl (pc0 := 21) (pc' := 26) rfl (hb hby at_21) rfl (flt (by decide : ¬ ((4 : Int32) < (3 : Int32)))).2.2.2 (by decide) (by decide) k) ?_
    show own_G p e below (T9.setTop (mkF m 26 #[.val (.long q1), .second, .val (.int p2), .val (.long bb), .second, .val (.int (3 : Int32)), .unset, .unset, .unset, .unset] [])) _
    refine own_go (fun _ k => XS.iload X9.here hx rfl (hb hby at_26) rfl k) ?_
    show own_G p e below (T9.setTop (mkF m 28 #[.val (.long q1), .second, .val (.int p2), .val (.long bb), .second, .val (.int (3 : Int32)), .unset, .unset, .unset, .unset] [(.int (3 : Int32))])) _
    obtain ⟨_, _, ⟨T14, L14, k14, n14⟩, -, X14, ⟨Lc14, hQ14, l14, y14, z14⟩, st14⟩ := Jvm.LawKit.callS X9 hx (y := (⟨"com/example/tagwire/tagwire/WireNumberTypePinLaw", "widthOf", "(I)I"⟩ : MethodName)) hown (mvT hZ (hw _ (List.mem_of_getElem? (i := 4) rfl))) (mvT hZ (hw _ (List.mem_of_getElem? (i := 5) rfl))) (mvT hZ (hw _ (List.mem_of_getElem? (i := 6) rfl))) (mvT hZ (hw _ (List.mem_of_getElem? (i := 7) rfl))) (by decide) (backOf (W := 0) (rm2 l Z a0 hw [] (3 : Int32) h0 n0 Z0 ) hZ (hw _ (List.mem_of_getElem? (i := 7) rfl)) (hw _ (List.mem_of_getElem? (i := 6) rfl)) (by decide) (by decide)) (g := (mkF m 28 #[.val (.long q1), .second, .val (.int p2), .val (.long bb), .second, .val (.int (3 : Int32)), .unset, .unset, .unset, .unset] [(.int (3 : Int32))])) rfl (by rw [hml]; rfl) (argsL := [(.int (3 : Int32))]) (rest := []) (lenOf pd_1 rfl) rfl (by show 2 * 0 + _ ≤ _; exact Nat.le_of_eq rfl) (hb hby at_28) (fun _ _ => ⟨rfl, e9, (by decide : 0 + 0 + 0 ≤ _), (by decide : 0 + 0 + 0 ≤ _)⟩)
    dsimp only [Pt.U, Pt.locs, Pt.cells, Pt.slots] at X14 l14 y14 z14 st14 hQ14
    subst l14 y14 z14
    obtain ⟨zz14, rfl, Nq14, hh14, hz14⟩ := hQ14
    have N14 := Fr.app N9 Nq14
    refine own_go st14 ?_
    have e14 : T14.heap = h0 := hh14
    obtain rfl : zz14 = (4 : Int32) := hz14.trans (by decide)
    show own_G p e below (T14.setTop (mkF m 31 #[.val (.long q1), .second, .val (.int p2), .val (.long bb), .second, .val (.int (3 : Int32)), .unset, .unset, .unset, .unset] [(.int (4 : Int32))])) _
    refine own_go (fun _ k => XS.istore X14.here hx rfl (hb hby at_31) rfl (l' := #[.val (.long q1), .second, .val (.int p2), .val (.long bb), .second, .val (.int (3 : Int32)), .val (.int (4 : Int32)), .unset, .unset, .unset]) rfl k) ?_
    show own_G p e below (T14.setTop (mkF m 33 #[.val (.long q1), .second, .val (.int p2), .val (.long bb), .second, .val (.int (3 : Int32)), .val (.int (4 : Int32)), .unset, .unset, .unset] [])) _
    refine own_go (fun _ k => XS.iload X14.here hx rfl (hb hby at_33) rfl k) ?_
    show own_G p e below (T14.setTop (mkF m 35 #[.val (.long q1), .second, .val (.int p2), .val (.long bb), .second, .val (.int (3 : Int32)), .val (.int (4 : Int32)), .unset, .unset, .unset] [(.int (3 : Int32))])) _
    refine own_go (fun _ k => XS.iconst X14.here hx rfl (hb hby at_35) k) ?_
    show own_G p e below (T14.setTop (mkF m 36 #[.val (.long q1), .second, .val (.int p2), .val (.long bb), .second, .val (.int (3 : Int32)), .val (.int (4 : Int32)), .unset, .unset, .unset] [(.int (1 : Int32)), (.int (3 : Int32))])) _
    refine own_go (fun _ k => XS.icmpYes X14.here hx rfl (pc0 := 36) (pc' := 43) rfl (hb hby at_36) rfl (tlt (by decide : (1 : Int32) < (3 : Int32))).2.2.1 (by decide) (by decide) k) ?_
    show own_G p e below (T14.setTop (mkF m 43 #[.val (.long q1), .second, .val (.int p2), .val (.long bb), .second, .val (.int (3 : Int32)), .val (.int (4 : Int32)), .unset, .unset, .unset] [])) _
    refine own_go (fun _ k => XS.iload X14.here hx rfl (hb hby at_43) rfl k) ?_
    show own_G p e below (T14.setTop (mkF m 45 #[.val (.long q1), .second, .val (.int p2), .val (.long bb), .second, .val (.int (3 : Int32)), .val (.int (4 : Int32)), .unset, .unset, .unset] [(.int (3 : Int32))])) _
    refine own_go (fun _ k => XS.iconst X14.here hx rfl (hb hby at_45) k) ?_
    show own_G p e below (T14.setTop (mkF m 46 #[.val (.long q1), .second, .val (.int p2), .val (.long bb), .second, .val (.int (3 : Int32)), .val (.int (4 : Int32)), .unset, .unset, .unset] [(.int (1 : Int32)), (.int (3 : Int32))])) _
    refine own_go (fun _ k => XS.isub X14.here hx rfl (hb hby at_46) rfl k) ?_
    show own_G p e below (T14.setTop (mkF m 47 #[.val (.long q1), .second, .val (.int p2), .val (.long bb), .second, .val (.int (3 : Int32)), .val (.int (4 : Int32)), .unset, .unset, .unset] [(.int (2 : Int32))])) _
    obtain ⟨_, _, ⟨T15, L15, k15, n15⟩, -, X15, ⟨Lc15, hQ15, l15, y15, z15⟩, st15⟩ := Jvm.LawKit.callS X14 hx (y := (⟨"com/example/tagwire/tagwire/WireNumberTypePinLaw", "widthOf", "(I)I"⟩ : MethodName)) hown (mvT hZ (hw _ (List.mem_of_getElem? (i := 4) rfl))) (mvT hZ (hw _ (List.mem_of_getElem? (i := 5) rfl))) (mvT hZ (hw _ (List.mem_of_getElem? (i := 6) rfl))) (mvT hZ (hw _ (List.mem_of_getElem? (i := 7) rfl))) (by decide) (backOf (W := 0) (rm2 l Z a0 hw [] (2 : Int32) h0 n0 Z0 ) hZ (hw _ (List.mem_of_getElem? (i := 7) rfl)) (hw _ (List.mem_of_getElem? (i := 6) rfl)) (by decide) (by decide)) (g := (mkF m 47 #[.val (.long q1), .second, .val (.int p2), .val (.long bb), .second, .val (.int (3 : Int32)), .val (.int (4 : Int32)), .unset, .unset, .unset] [(.int (2 : Int32))])) rfl (by rw [hml]; rfl) (argsL := [(.int (2 : Int32))]) (rest := []) (lenOf pd_1 rfl) rfl (by show 2 * 0 + _ ≤ _; exact Nat.le_of_eq rfl) (hb hby at_47) (fun _ _ => ⟨rfl, e14, (by decide : 0 + 0 + 0 + 0 ≤ _), (by decide : 0 + 0 + 0 + 0 ≤ _)⟩)
    dsimp only [Pt.U, Pt.locs, Pt.cells, Pt.slots] at X15 l15 y15 z15 st15 hQ15
    subst l15 y15 z15
    obtain ⟨zz15, rfl, Nq15, hh15, hz15⟩ := hQ15
    have N15 := Fr.app N14 Nq15
    refine own_go st15 ?_
    have e15 : T15.heap = h0 := hh15
    obtain rfl : zz15 = (2 : Int32) := hz15.trans (by decide)
    show own_G p e below (T15.setTop (mkF m 50 #[.val (.long q1), .second, .val (.int p2), .val (.long bb), .second, .val (.int (3 : Int32)), .val (.int (4 : Int32)), .unset, .unset, .unset] [(.int (2 : Int32))])) _
    refine own_go (fun _ k => XS.istore X15.here hx rfl (hb hby at_50) rfl (l' := #[.val (.long q1), .second, .val (.int p2), .val (.long bb), .second, .val (.int (3 : Int32)), .val (.int (4 : Int32)), .val (.int (2 : Int32)), .unset, .unset]) rfl k) ?_
    show own_G p e below (T15.setTop (mkF m 52 #[.val (.long q1), .second, .val (.int p2), .val (.long bb), .second, .val (.int (3 : Int32)), .val (.int (4 : Int32)), .val (.int (2 : Int32)), .unset, .unset] [])) _
    refine own_go (fun _ k => XS.iload X15.here hx rfl (hb hby at_52) rfl k) ?_
    show own_G p e below (T15.setTop (mkF m 54 #[.val (.long q1), .second, .val (.int p2), .val (.long bb), .second, .val (.int (3 : Int32)), .val (.int (4 : Int32)), .val (.int (2 : Int32)), .unset, .unset] [(.int (4 : Int32))])) _
    refine own_go (fun _ k => XS.bipush X15.here hx rfl (hb hby at_54) k) ?_
    show own_G p e below (T15.setTop (mkF m 56 #[.val (.long q1), .second, .val (.int p2), .val (.long bb), .second, .val (.int (3 : Int32)), .val (.int (4 : Int32)), .val (.int (2 : Int32)), .unset, .unset] [(.int (8 : Int32)), (.int (4 : Int32))])) _
    refine own_go (fun _ k => XS.icmpNo X15.here hx rfl (hb hby at_56) rfl (feq (by decide : ¬ ((4 : Int32) = (8 : Int32)))).1 k) ?_
    show own_G p e below (T15.setTop (mkF m 59 #[.val (.long q1), .second, .val (.int p2), .val (.long bb), .second, .val (.int (3 : Int32)), .val (.int (4 : Int32)), .val (.int (2 : Int32)), .unset, .unset] [])) _
    refine own_go (fun _ k => XS.lloadN X15.here hx rfl (hb hby at_59) rfl k) ?_
    show own_G p e below (T15.setTop (mkF m 60 #[.val (.long q1), .second, .val (.int p2), .val (.long bb), .second, .val (.int (3 : Int32)), .val (.int (4 : Int32)), .val (.int (2 : Int32)), .unset, .unset] [(.long bb)])) _
    refine own_go (fun _ k => XS.bipush X15.here hx rfl (hb hby at_60) k) ?_
    show own_G p e below (T15.setTop (mkF m 62 #[.val (.long q1), .second, .val (.int p2), .val (.long bb), .second, .val (.int (3 : Int32)), .val (.int (4 : Int32)), .val (.int (2 : Int32)), .unset, .unset] [(.int (8 : Int32)), (.long bb)])) _
    refine own_go (fun _ k => XS.iload X15.here hx rfl (hb hby at_62) rfl k) ?_
    show own_G p e below (T15.setTop (mkF m 64 #[.val (.long q1), .second, .val (.int p2), .val (.long bb), .second, .val (.int (3 : Int32)), .val (.int (4 : Int32)), .val (.int (2 : Int32)), .unset, .unset] [(.int (4 : Int32)), (.int (8 : Int32)), (.long bb)])) _
    refine own_go (fun _ k => XS.imul X15.here hx rfl (hb hby at_64) rfl k) ?_
    show own_G p e below (T15.setTop (mkF m 65 #[.val (.long q1), .second, .val (.int p2), .val (.long bb), .second, .val (.int (3 : Int32)), .val (.int (4 : Int32)), .val (.int (2 : Int32)), .unset, .unset] [(.int (32 : Int32)), (.long bb)])) _
    refine own_go (fun _ k => XT.lushr X15.here hx rfl (hb hby at_65) rfl k) ?_
    show own_G p e below (T15.setTop (mkF m 66 #[.val (.long q1), .second, .val (.int p2), .val (.long bb), .second, .val (.int (3 : Int32)), .val (.int (4 : Int32)), .val (.int (2 : Int32)), .unset, .unset] [(.long (XT.ushrL bb (32 : Int32)))])) _
    refine own_go (fun _ k => XS.lconst X15.here hx rfl (hb hby at_66) k) ?_
    show own_G p e below (T15.setTop (mkF m 67 #[.val (.long q1), .second, .val (.int p2), .val (.long bb), .second, .val (.int (3 : Int32)), .val (.int (4 : Int32)), .val (.int (2 : Int32)), .unset, .unset] [(.long (0 : Int64)), (.long (XT.ushrL bb (32 : Int32)))])) _
    refine own_go (fun _ k => XS.lcmp X15.here hx rfl (hb hby at_67) rfl k) ?_
    show own_G p e below (T15.setTop (mkF m 68 #[.val (.long q1), .second, .val (.int p2), .val (.long bb), .second, .val (.int (3 : Int32)), .val (.int (4 : Int32)), .val (.int (2 : Int32)), .unset, .unset] [(.int (lcmpW (XT.ushrL bb (32 : Int32)) (0 : Int64)))])) _
    refine own_go (fun _ k => XS.ifNo X15.here hx rfl (hb hby at_68) rfl ((if0 _ _).trans (teq ((lw_eq _ _).mpr ((own_sh32 bb).mpr g1))).2) k) ?_
    show own_G p e below (T15.setTop (mkF m 71 #[.val (.long q1), .second, .val (.int p2), .val (.long bb), .second, .val (.int (3 : Int32)), .val (.int (4 : Int32)), .val (.int (2 : Int32)), .unset, .unset] [])) _
    refine own_go (fun _ k => XS.iconst X15.here hx rfl (hb hby at_71) k) ?_
    show own_G p e below (T15.setTop (mkF m 72 #[.val (.long q1), .second, .val (.int p2), .val (.long bb), .second, .val (.int (3 : Int32)), .val (.int (4 : Int32)), .val (.int (2 : Int32)), .unset, .unset] [(.int (1 : Int32))])) _
    refine own_go (fun _ k => XS.goto X15.here hx rfl (pc0 := 72) (pc' := 76) rfl (hb hby at_72) (by decide) (by decide) k) ?_
    show own_G p e below (T15.setTop (mkF m 76 #[.val (.long q1), .second, .val (.int p2), .val (.long bb), .second, .val (.int (3 : Int32)), .val (.int (4 : Int32)), .val (.int (2 : Int32)), .unset, .unset] [(.int (1 : Int32))])) _
    refine own_go (fun _ k => XS.istore X15.here hx rfl (hb hby at_76) rfl (l' := #[.val (.long q1), .second, .val (.int p2), .val (.long bb), .second, .val (.int (3 : Int32)), .val (.int (4 : Int32)), .val (.int (2 : Int32)), .val (.int (1 : Int32)), .unset]) rfl k) ?_
    show own_G p e below (T15.setTop (mkF m 78 #[.val (.long q1), .second, .val (.int p2), .val (.long bb), .second, .val (.int (3 : Int32)), .val (.int (4 : Int32)), .val (.int (2 : Int32)), .val (.int (1 : Int32)), .unset] [])) _
    refine own_go (fun _ k => XS.iload X15.here hx rfl (hb hby at_78) rfl k) ?_
    show own_G p e below (T15.setTop (mkF m 80 #[.val (.long q1), .second, .val (.int p2), .val (.long bb), .second, .val (.int (3 : Int32)), .val (.int (4 : Int32)), .val (.int (2 : Int32)), .val (.int (1 : Int32)), .unset] [(.int (3 : Int32))])) _
    refine own_go (fun _ k => XS.ifNo X15.here hx rfl (hb hby at_80) rfl ((if0 _ _).trans (feq (by decide : ¬ ((3 : Int32) = (0 : Int32)))).1) k) ?_
    show own_G p e below (T15.setTop (mkF m 83 #[.val (.long q1), .second, .val (.int p2), .val (.long bb), .second, .val (.int (3 : Int32)), .val (.int (4 : Int32)), .val (.int (2 : Int32)), .val (.int (1 : Int32)), .unset] [])) _
    refine own_go (fun _ k => XS.lloadN X15.here hx rfl (hb hby at_83) rfl k) ?_
    show own_G p e below (T15.setTop (mkF m 84 #[.val (.long q1), .second, .val (.int p2), .val (.long bb), .second, .val (.int (3 : Int32)), .val (.int (4 : Int32)), .val (.int (2 : Int32)), .val (.int (1 : Int32)), .unset] [(.long bb)])) _
    refine own_go (fun _ k => XS.bipush X15.here hx rfl (hb hby at_84) k) ?_
    show own_G p e below (T15.setTop (mkF m 86 #[.val (.long q1), .second, .val (.int p2), .val (.long bb), .second, .val (.int (3 : Int32)), .val (.int (4 : Int32)), .val (.int (2 : Int32)), .val (.int (1 : Int32)), .unset] [(.int (8 : Int32)), (.long bb)])) _
    refine own_go (fun _ k => XS.iload X15.here hx rfl (hb hby at_86) rfl k) ?_
    show own_G p e below (T15.setTop (mkF m 88 #[.val (.long q1), .second, .val (.int p2), .val (.long bb), .second, .val (.int (3 : Int32)), .val (.int (4 : Int32)), .val (.int (2 : Int32)), .val (.int (1 : Int32)), .unset] [(.int (2 : Int32)), (.int (8 : Int32)), (.long bb)])) _
    refine own_go (fun _ k => XS.imul X15.here hx rfl (hb hby at_88) rfl k) ?_
    show own_G p e below (T15.setTop (mkF m 89 #[.val (.long q1), .second, .val (.int p2), .val (.long bb), .second, .val (.int (3 : Int32)), .val (.int (4 : Int32)), .val (.int (2 : Int32)), .val (.int (1 : Int32)), .unset] [(.int (16 : Int32)), (.long bb)])) _
    refine own_go (fun _ k => XT.lushr X15.here hx rfl (hb hby at_89) rfl k) ?_
    show own_G p e below (T15.setTop (mkF m 90 #[.val (.long q1), .second, .val (.int p2), .val (.long bb), .second, .val (.int (3 : Int32)), .val (.int (4 : Int32)), .val (.int (2 : Int32)), .val (.int (1 : Int32)), .unset] [(.long (XT.ushrL bb (16 : Int32)))])) _
    refine own_go (fun _ k => XS.lconst X15.here hx rfl (hb hby at_90) k) ?_
    show own_G p e below (T15.setTop (mkF m 91 #[.val (.long q1), .second, .val (.int p2), .val (.long bb), .second, .val (.int (3 : Int32)), .val (.int (4 : Int32)), .val (.int (2 : Int32)), .val (.int (1 : Int32)), .unset] [(.long (0 : Int64)), (.long (XT.ushrL bb (16 : Int32)))])) _
    refine own_go (fun _ k => XS.lcmp X15.here hx rfl (hb hby at_91) rfl k) ?_
    show own_G p e below (T15.setTop (mkF m 92 #[.val (.long q1), .second, .val (.int p2), .val (.long bb), .second, .val (.int (3 : Int32)), .val (.int (4 : Int32)), .val (.int (2 : Int32)), .val (.int (1 : Int32)), .unset] [(.int (lcmpW (XT.ushrL bb (16 : Int32)) (0 : Int64)))])) _
    refine own_go (fun _ k => XS.ifNo X15.here hx rfl (hb hby at_92) rfl ((if0 _ _).trans (feq (fun q => (fun q => g0 ((own_sh16 bb).mp q)) ((lw_eq _ _).mp q))).1) k) ?_
    show own_G p e below (T15.setTop (mkF m 95 #[.val (.long q1), .second, .val (.int p2), .val (.long bb), .second, .val (.int (3 : Int32)), .val (.int (4 : Int32)), .val (.int (2 : Int32)), .val (.int (1 : Int32)), .unset] [])) _
    refine own_go (fun _ k => XS.iconst X15.here hx rfl (hb hby at_95) k) ?_
    show own_G p e below (T15.setTop (mkF m 96 #[.val (.long q1), .second, .val (.int p2), .val (.long bb), .second, .val (.int (3 : Int32)), .val (.int (4 : Int32)), .val (.int (2 : Int32)), .val (.int (1 : Int32)), .unset] [(.int (1 : Int32))])) _
    refine own_go (fun _ k => XS.goto X15.here hx rfl (pc0 := 96) (pc' := 100) rfl (hb hby at_96) (by decide) (by decide) k) ?_
    show own_G p e below (T15.setTop (mkF m 100 #[.val (.long q1), .second, .val (.int p2), .val (.long bb), .second, .val (.int (3 : Int32)), .val (.int (4 : Int32)), .val (.int (2 : Int32)), .val (.int (1 : Int32)), .unset] [(.int (1 : Int32))])) _
    refine own_go (fun _ k => XS.istore X15.here hx rfl (hb hby at_100) rfl (l' := #[.val (.long q1), .second, .val (.int p2), .val (.long bb), .second, .val (.int (3 : Int32)), .val (.int (4 : Int32)), .val (.int (2 : Int32)), .val (.int (1 : Int32)), .val (.int (1 : Int32))]) rfl k) ?_
    show own_G p e below (T15.setTop (mkF m 102 #[.val (.long q1), .second, .val (.int p2), .val (.long bb), .second, .val (.int (3 : Int32)), .val (.int (4 : Int32)), .val (.int (2 : Int32)), .val (.int (1 : Int32)), .val (.int (1 : Int32))] [])) _
    refine own_go (fun _ k => XS.iload X15.here hx rfl (hb hby at_102) rfl k) ?_
    show own_G p e below (T15.setTop (mkF m 104 #[.val (.long q1), .second, .val (.int p2), .val (.long bb), .second, .val (.int (3 : Int32)), .val (.int (4 : Int32)), .val (.int (2 : Int32)), .val (.int (1 : Int32)), .val (.int (1 : Int32))] [(.int (1 : Int32))])) _
    refine own_go (fun _ k => XS.ifNo X15.here hx rfl (hb hby at_104) rfl ((if0 _ _).trans (feq (by decide : ¬ ((1 : Int32) = (0 : Int32)))).1) k) ?_
    show own_G p e below (T15.setTop (mkF m 107 #[.val (.long q1), .second, .val (.int p2), .val (.long bb), .second, .val (.int (3 : Int32)), .val (.int (4 : Int32)), .val (.int (2 : Int32)), .val (.int (1 : Int32)), .val (.int (1 : Int32))] [])) _
    refine own_go (fun _ k => XS.iload X15.here hx rfl (hb hby at_107) rfl k) ?_
    show own_G p e below (T15.setTop (mkF m 109 #[.val (.long q1), .second, .val (.int p2), .val (.long bb), .second, .val (.int (3 : Int32)), .val (.int (4 : Int32)), .val (.int (2 : Int32)), .val (.int (1 : Int32)), .val (.int (1 : Int32))] [(.int (1 : Int32))])) _
    refine own_go (fun _ k => XS.ifNo X15.here hx rfl (hb hby at_109) rfl ((if0 _ _).trans (feq (by decide : ¬ ((1 : Int32) = (0 : Int32)))).1) k) ?_
    show own_G p e below (T15.setTop (mkF m 112 #[.val (.long q1), .second, .val (.int p2), .val (.long bb), .second, .val (.int (3 : Int32)), .val (.int (4 : Int32)), .val (.int (2 : Int32)), .val (.int (1 : Int32)), .val (.int (1 : Int32))] [])) _
    refine own_go (fun _ k => XS.iconst X15.here hx rfl (hb hby at_112) k) ?_
    show own_G p e below (T15.setTop (mkF m 113 #[.val (.long q1), .second, .val (.int p2), .val (.long bb), .second, .val (.int (3 : Int32)), .val (.int (4 : Int32)), .val (.int (2 : Int32)), .val (.int (1 : Int32)), .val (.int (1 : Int32))] [(.int (1 : Int32))])) _
    refine own_go (fun _ k => XS.goto X15.here hx rfl (pc0 := 113) (pc' := 117) rfl (hb hby at_113) (by decide) (by decide) k) ?_
    show own_G p e below (T15.setTop (mkF m 117 #[.val (.long q1), .second, .val (.int p2), .val (.long bb), .second, .val (.int (3 : Int32)), .val (.int (4 : Int32)), .val (.int (2 : Int32)), .val (.int (1 : Int32)), .val (.int (1 : Int32))] [(.int (1 : Int32))])) _
    refine own_ret X15 hlk (v := some (.int (1 : Int32))) (fun h => by rw [hret] at h; cases h) (Q0 Z q1 p2 h0 n0) (own_retI X15 hx (t := .boolean) hret rfl (Or.inl ⟨rfl, by simp, _, rfl⟩) (hb hby at_117)) (by decide) (by decide) ?_
    show Q0 Z q1 p2 h0 n0 _ T15.heap _
    rw [e15]
    exact ⟨rfl, N15⟩
  · show own_G p e below (T9.setTop (mkF m 11 #[.val (.long q1), .second, .val (.int p2), .val (.long bb), .second, .unset, .unset, .unset, .unset, .unset] [(.int (4 : Int32))])) _
    refine own_go (fun _ k => XS.istore X9.here hx rfl (hb hby at_11) rfl (l' := #[.val (.long q1), .second, .val (.int p2), .val (.long bb), .second, .val (.int (4 : Int32)), .unset, .unset, .unset, .unset]) rfl k) ?_
    show own_G p e below (T9.setTop (mkF m 13 #[.val (.long q1), .second, .val (.int p2), .val (.long bb), .second, .val (.int (4 : Int32)), .unset, .unset, .unset, .unset] [])) _
    refine own_go (fun _ k => XS.iload X9.here hx rfl (hb hby at_13) rfl k) ?_
    show own_G p e below (T9.setTop (mkF m 15 #[.val (.long q1), .second, .val (.int p2), .val (.long bb), .second, .val (.int (4 : Int32)), .unset, .unset, .unset, .unset] [(.int (4 : Int32))])) _
    refine own_go (fun _ k => XS.ifNo X9.here hx rfl (hb hby at_15) rfl ((if0 _ _).trans (flt (by decide : ¬ ((4 : Int32) < (0 : Int32)))).1) k) ?_
    show own_G p e below (T9.setTop (mkF m 18 #[.val (.long q1), .second, .val (.int p2), .val (.long bb), .second, .val (.int (4 : Int32)), .unset, .unset, .unset, .unset] [])) _
    refine own_go (fun _ k => XS.iload X9.here hx rfl (hb hby at_18) rfl k) ?_
    show own_G p e below (T9.setTop (mkF m 20 #[.val (.long q1), .second, .val (.int p2), .val (.long bb), .second, .val (.int (4 : Int32)), .unset, .unset, .unset, .unset] [(.int (4 : Int32))])) _
    refine own_go (fun _ k => XS.iconst X9.here hx rfl (hb hby at_20) k) ?_
    show own_G p e below (T9.setTop (mkF m 21 #[.val (.long q1), .second, .val (.int p2), .val (.long bb), .second, .val (.int (4 : Int32)), .unset, .unset, .unset, .unset] [(.int (4 : Int32)), (.int (4 : Int32))])) _
    refine own_go (fun _ k => XS.icmpYes X9.here hx rfl (pc0 := 21) (pc' := 26) rfl (hb hby at_21) rfl (flt (by decide : ¬ ((4 : Int32) < (4 : Int32)))).2.2.2 (by decide) (by decide) k) ?_
    show own_G p e below (T9.setTop (mkF m 26 #[.val (.long q1), .second, .val (.int p2), .val (.long bb), .second, .val (.int (4 : Int32)), .unset, .unset, .unset, .unset] [])) _
    refine own_go (fun _ k => XS.iload X9.here hx rfl (hb hby at_26) rfl k) ?_
    show own_G p e below (T9.setTop (mkF m 28 #[.val (.long q1), .second, .val (.int p2), .val (.long bb), .second, .val (.int (4 : Int32)), .unset, .unset, .unset, .unset] [(.int (4 : Int32))])) _
    obtain ⟨_, _, ⟨T16, L16, k16, n16⟩, -, X16, ⟨Lc16, hQ16, l16, y16, z16⟩, st16⟩ := Jvm.LawKit.callS X9 hx (y := (⟨"com/example/tagwire/tagwire/WireNumberTypePinLaw", "widthOf", "(I)I"⟩ : MethodName)) hown (mvT hZ (hw _ (List.mem_of_getElem? (i := 4) rfl))) (mvT hZ (hw _ (List.mem_of_getElem? (i := 5) rfl))) (mvT hZ (hw _ (List.mem_of_getElem? (i := 6) rfl))) (mvT hZ (hw _ (List.mem_of_getElem? (i := 7) rfl))) (by decide) (backOf (W := 0) (rm2 l Z a0 hw [] (4 : Int32) h0 n0 Z0 ) hZ (hw _ (List.mem_of_getElem? (i := 7) rfl)) (hw _ (List.mem_of_getElem? (i := 6) rfl)) (by decide) (by decide)) (g := (mkF m 28 #[.val (.long q1), .second, .val (.int p2), .val (.long bb), .second, .val (.int (4 : Int32)), .unset, .unset, .unset, .unset] [(.int (4 : Int32))])) rfl (by rw [hml]; rfl) (argsL := [(.int (4 : Int32))]) (rest := []) (lenOf pd_1 rfl) rfl (by show 2 * 0 + _ ≤ _; exact Nat.le_of_eq rfl) (hb hby at_28) (fun _ _ => ⟨rfl, e9, (by decide : 0 + 0 + 0 ≤ _), (by decide : 0 + 0 + 0 ≤ _)⟩)
    dsimp only [Pt.U, Pt.locs, Pt.cells, Pt.slots] at X16 l16 y16 z16 st16 hQ16
    subst l16 y16 z16
    obtain ⟨zz16, rfl, Nq16, hh16, hz16⟩ := hQ16
    have N16 := Fr.app N9 Nq16
    refine own_go st16 ?_
    have e16 : T16.heap = h0 := hh16
    obtain rfl : zz16 = (8 : Int32) := hz16.trans (by decide)
    show own_G p e below (T16.setTop (mkF m 31 #[.val (.long q1), .second, .val (.int p2), .val (.long bb), .second, .val (.int (4 : Int32)), .unset, .unset, .unset, .unset] [(.int (8 : Int32))])) _
    refine own_go (fun _ k => XS.istore X16.here hx rfl (hb hby at_31) rfl (l' := #[.val (.long q1), .second, .val (.int p2), .val (.long bb), .second, .val (.int (4 : Int32)), .val (.int (8 : Int32)), .unset, .unset, .unset]) rfl k) ?_
    show own_G p e below (T16.setTop (mkF m 33 #[.val (.long q1), .second, .val (.int p2), .val (.long bb), .second, .val (.int (4 : Int32)), .val (.int (8 : Int32)), .unset, .unset, .unset] [])) _
    refine own_go (fun _ k => XS.iload X16.here hx rfl (hb hby at_33) rfl k) ?_
    show own_G p e below (T16.setTop (mkF m 35 #[.val (.long q1), .second, .val (.int p2), .val (.long bb), .second, .val (.int (4 : Int32)), .val (.int (8 : Int32)), .unset, .unset, .unset] [(.int (4 : Int32))])) _
    refine own_go (fun _ k => XS.iconst X16.here hx rfl (hb hby at_35) k) ?_
    show own_G p e below (T16.setTop (mkF m 36 #[.val (.long q1), .second, .val (.int p2), .val (.long bb), .second, .val (.int (4 : Int32)), .val (.int (8 : Int32)), .unset, .unset, .unset] [(.int (1 : Int32)), (.int (4 : Int32))])) _
    refine own_go (fun _ k => XS.icmpYes X16.here hx rfl (pc0 := 36) (pc' := 43) rfl (hb hby at_36) rfl (tlt (by decide : (1 : Int32) < (4 : Int32))).2.2.1 (by decide) (by decide) k) ?_
    show own_G p e below (T16.setTop (mkF m 43 #[.val (.long q1), .second, .val (.int p2), .val (.long bb), .second, .val (.int (4 : Int32)), .val (.int (8 : Int32)), .unset, .unset, .unset] [])) _
    refine own_go (fun _ k => XS.iload X16.here hx rfl (hb hby at_43) rfl k) ?_
    show own_G p e below (T16.setTop (mkF m 45 #[.val (.long q1), .second, .val (.int p2), .val (.long bb), .second, .val (.int (4 : Int32)), .val (.int (8 : Int32)), .unset, .unset, .unset] [(.int (4 : Int32))])) _
    refine own_go (fun _ k => XS.iconst X16.here hx rfl (hb hby at_45) k) ?_
    show own_G p e below (T16.setTop (mkF m 46 #[.val (.long q1), .second, .val (.int p2), .val (.long bb), .second, .val (.int (4 : Int32)), .val (.int (8 : Int32)), .unset, .unset, .unset] [(.int (1 : Int32)), (.int (4 : Int32))])) _
    refine own_go (fun _ k => XS.isub X16.here hx rfl (hb hby at_46) rfl k) ?_
    show own_G p e below (T16.setTop (mkF m 47 #[.val (.long q1), .second, .val (.int p2), .val (.long bb), .second, .val (.int (4 : Int32)), .val (.int (8 : Int32)), .unset, .unset, .unset] [(.int (3 : Int32))])) _
    obtain ⟨_, _, ⟨T17, L17, k17, n17⟩, -, X17, ⟨Lc17, hQ17, l17, y17, z17⟩, st17⟩ := Jvm.LawKit.callS X16 hx (y := (⟨"com/example/tagwire/tagwire/WireNumberTypePinLaw", "widthOf", "(I)I"⟩ : MethodName)) hown (mvT hZ (hw _ (List.mem_of_getElem? (i := 4) rfl))) (mvT hZ (hw _ (List.mem_of_getElem? (i := 5) rfl))) (mvT hZ (hw _ (List.mem_of_getElem? (i := 6) rfl))) (mvT hZ (hw _ (List.mem_of_getElem? (i := 7) rfl))) (by decide) (backOf (W := 0) (rm2 l Z a0 hw [] (3 : Int32) h0 n0 Z0 ) hZ (hw _ (List.mem_of_getElem? (i := 7) rfl)) (hw _ (List.mem_of_getElem? (i := 6) rfl)) (by decide) (by decide)) (g := (mkF m 47 #[.val (.long q1), .second, .val (.int p2), .val (.long bb), .second, .val (.int (4 : Int32)), .val (.int (8 : Int32)), .unset, .unset, .unset] [(.int (3 : Int32))])) rfl (by rw [hml]; rfl) (argsL := [(.int (3 : Int32))]) (rest := []) (lenOf pd_1 rfl) rfl (by show 2 * 0 + _ ≤ _; exact Nat.le_of_eq rfl) (hb hby at_47) (fun _ _ => ⟨rfl, e16, (by decide : 0 + 0 + 0 + 0 ≤ _), (by decide : 0 + 0 + 0 + 0 ≤ _)⟩)
    dsimp only [Pt.U, Pt.locs, Pt.cells, Pt.slots] at X17 l17 y17 z17 st17 hQ17
    subst l17 y17 z17
    obtain ⟨zz17, rfl, Nq17, hh17, hz17⟩ := hQ17
    have N17 := Fr.app N16 Nq17
    refine own_go st17 ?_
    have e17 : T17.heap = h0 := hh17
    obtain rfl : zz17 = (4 : Int32) := hz17.trans (by decide)
    show own_G p e below (T17.setTop (mkF m 50 #[.val (.long q1), .second, .val (.int p2), .val (.long bb), .second, .val (.int (4 : Int32)), .val (.int (8 : Int32)), .unset, .unset, .unset] [(.int (4 : Int32))])) _
    refine own_go (fun _ k => XS.istore X17.here hx rfl (hb hby at_50) rfl (l' := #[.val (.long q1), .second, .val (.int p2), .val (.long bb), .second, .val (.int (4 : Int32)), .val (.int (8 : Int32)), .val (.int (4 : Int32)), .unset, .unset]) rfl k) ?_
    show own_G p e below (T17.setTop (mkF m 52 #[.val (.long q1), .second, .val (.int p2), .val (.long bb), .second, .val (.int (4 : Int32)), .val (.int (8 : Int32)), .val (.int (4 : Int32)), .unset, .unset] [])) _
    refine own_go (fun _ k => XS.iload X17.here hx rfl (hb hby at_52) rfl k) ?_
    show own_G p e below (T17.setTop (mkF m 54 #[.val (.long q1), .second, .val (.int p2), .val (.long bb), .second, .val (.int (4 : Int32)), .val (.int (8 : Int32)), .val (.int (4 : Int32)), .unset, .unset] [(.int (8 : Int32))])) _
    refine own_go (fun _ k => XS.bipush X17.here hx rfl (hb hby at_54) k) ?_
    show own_G p e below (T17.setTop (mkF m 56 #[.val (.long q1), .second, .val (.int p2), .val (.long bb), .second, .val (.int (4 : Int32)), .val (.int (8 : Int32)), .val (.int (4 : Int32)), .unset, .unset] [(.int (8 : Int32)), (.int (8 : Int32))])) _
    refine own_go (fun _ k => XS.icmpYes X17.here hx rfl (pc0 := 56) (pc' := 71) rfl (hb hby at_56) rfl (teq (by decide : (8 : Int32) = (8 : Int32))).1 (by decide) (by decide) k) ?_
    show own_G p e below (T17.setTop (mkF m 71 #[.val (.long q1), .second, .val (.int p2), .val (.long bb), .second, .val (.int (4 : Int32)), .val (.int (8 : Int32)), .val (.int (4 : Int32)), .unset, .unset] [])) _
    refine own_go (fun _ k => XS.iconst X17.here hx rfl (hb hby at_71) k) ?_
    show own_G p e below (T17.setTop (mkF m 72 #[.val (.long q1), .second, .val (.int p2), .val (.long bb), .second, .val (.int (4 : Int32)), .val (.int (8 : Int32)), .val (.int (4 : Int32)), .unset, .unset] [(.int (1 : Int32))])) _
    refine own_go (fun _ k => XS.goto X17.here hx rfl (pc0 := 72) (pc' := 76) rfl (hb hby at_72) (by decide) (by decide) k) ?_
    show own_G p e below (T17.setTop (mkF m 76 #[.val (.long q1), .second, .val (.int p2), .val (.long bb), .second, .val (.int (4 : Int32)), .val (.int (8 : Int32)), .val (.int (4 : Int32)), .unset, .unset] [(.int (1 : Int32))])) _
    refine own_go (fun _ k => XS.istore X17.here hx rfl (hb hby at_76) rfl (l' := #[.val (.long q1), .second, .val (.int p2), .val (.long bb), .second, .val (.int (4 : Int32)), .val (.int (8 : Int32)), .val (.int (4 : Int32)), .val (.int (1 : Int32)), .unset]) rfl k) ?_
    show own_G p e below (T17.setTop (mkF m 78 #[.val (.long q1), .second, .val (.int p2), .val (.long bb), .second, .val (.int (4 : Int32)), .val (.int (8 : Int32)), .val (.int (4 : Int32)), .val (.int (1 : Int32)), .unset] [])) _
    refine own_go (fun _ k => XS.iload X17.here hx rfl (hb hby at_78) rfl k) ?_
    show own_G p e below (T17.setTop (mkF m 80 #[.val (.long q1), .second, .val (.int p2), .val (.long bb), .second, .val (.int (4 : Int32)), .val (.int (8 : Int32)), .val (.int (4 : Int32)), .val (.int (1 : Int32)), .unset] [(.int (4 : Int32))])) _
    refine own_go (fun _ k => XS.ifNo X17.here hx rfl (hb hby at_80) rfl ((if0 _ _).trans (feq (by decide : ¬ ((4 : Int32) = (0 : Int32)))).1) k) ?_
    show own_G p e below (T17.setTop (mkF m 83 #[.val (.long q1), .second, .val (.int p2), .val (.long bb), .second, .val (.int (4 : Int32)), .val (.int (8 : Int32)), .val (.int (4 : Int32)), .val (.int (1 : Int32)), .unset] [])) _
    refine own_go (fun _ k => XS.lloadN X17.here hx rfl (hb hby at_83) rfl k) ?_
    show own_G p e below (T17.setTop (mkF m 84 #[.val (.long q1), .second, .val (.int p2), .val (.long bb), .second, .val (.int (4 : Int32)), .val (.int (8 : Int32)), .val (.int (4 : Int32)), .val (.int (1 : Int32)), .unset] [(.long bb)])) _
    refine own_go (fun _ k => XS.bipush X17.here hx rfl (hb hby at_84) k) ?_
    show own_G p e below (T17.setTop (mkF m 86 #[.val (.long q1), .second, .val (.int p2), .val (.long bb), .second, .val (.int (4 : Int32)), .val (.int (8 : Int32)), .val (.int (4 : Int32)), .val (.int (1 : Int32)), .unset] [(.int (8 : Int32)), (.long bb)])) _
    refine own_go (fun _ k => XS.iload X17.here hx rfl (hb hby at_86) rfl k) ?_
    show own_G p e below (T17.setTop (mkF m 88 #[.val (.long q1), .second, .val (.int p2), .val (.long bb), .second, .val (.int (4 : Int32)), .val (.int (8 : Int32)), .val (.int (4 : Int32)), .val (.int (1 : Int32)), .unset] [(.int (4 : Int32)), (.int (8 : Int32)), (.long bb)])) _
    refine own_go (fun _ k => XS.imul X17.here hx rfl (hb hby at_88) rfl k) ?_
    show own_G p e below (T17.setTop (mkF m 89 #[.val (.long q1), .second, .val (.int p2), .val (.long bb), .second, .val (.int (4 : Int32)), .val (.int (8 : Int32)), .val (.int (4 : Int32)), .val (.int (1 : Int32)), .unset] [(.int (32 : Int32)), (.long bb)])) _
    refine own_go (fun _ k => XT.lushr X17.here hx rfl (hb hby at_89) rfl k) ?_
    show own_G p e below (T17.setTop (mkF m 90 #[.val (.long q1), .second, .val (.int p2), .val (.long bb), .second, .val (.int (4 : Int32)), .val (.int (8 : Int32)), .val (.int (4 : Int32)), .val (.int (1 : Int32)), .unset] [(.long (XT.ushrL bb (32 : Int32)))])) _
    refine own_go (fun _ k => XS.lconst X17.here hx rfl (hb hby at_90) k) ?_
    show own_G p e below (T17.setTop (mkF m 91 #[.val (.long q1), .second, .val (.int p2), .val (.long bb), .second, .val (.int (4 : Int32)), .val (.int (8 : Int32)), .val (.int (4 : Int32)), .val (.int (1 : Int32)), .unset] [(.long (0 : Int64)), (.long (XT.ushrL bb (32 : Int32)))])) _
    refine own_go (fun _ k => XS.lcmp X17.here hx rfl (hb hby at_91) rfl k) ?_
    show own_G p e below (T17.setTop (mkF m 92 #[.val (.long q1), .second, .val (.int p2), .val (.long bb), .second, .val (.int (4 : Int32)), .val (.int (8 : Int32)), .val (.int (4 : Int32)), .val (.int (1 : Int32)), .unset] [(.int (lcmpW (XT.ushrL bb (32 : Int32)) (0 : Int64)))])) _
    refine own_go (fun _ k => XS.ifNo X17.here hx rfl (hb hby at_92) rfl ((if0 _ _).trans (feq (fun q => (fun q => g0 ((own_sh32 bb).mp q)) ((lw_eq _ _).mp q))).1) k) ?_
    show own_G p e below (T17.setTop (mkF m 95 #[.val (.long q1), .second, .val (.int p2), .val (.long bb), .second, .val (.int (4 : Int32)), .val (.int (8 : Int32)), .val (.int (4 : Int32)), .val (.int (1 : Int32)), .unset] [])) _
    refine own_go (fun _ k => XS.iconst X17.here hx rfl (hb hby at_95) k) ?_
    show own_G p e below (T17.setTop (mkF m 96 #[.val (.long q1), .second, .val (.int p2), .val (.long bb), .second, .val (.int (4 : Int32)), .val (.int (8 : Int32)), .val (.int (4 : Int32)), .val (.int (1 : Int32)), .unset] [(.int (1 : Int32))])) _
    refine own_go (fun _ k => XS.goto X17.here hx rfl (pc0 := 96) (pc' := 100) rfl (hb hby at_96) (by decide) (by decide) k) ?_
    show own_G p e below (T17.setTop (mkF m 100 #[.val (.long q1), .second, .val (.int p2), .val (.long bb), .second, .val (.int (4 : Int32)), .val (.int (8 : Int32)), .val (.int (4 : Int32)), .val (.int (1 : Int32)), .unset] [(.int (1 : Int32))])) _
    refine own_go (fun _ k => XS.istore X17.here hx rfl (hb hby at_100) rfl (l' := #[.val (.long q1), .second, .val (.int p2), .val (.long bb), .second, .val (.int (4 : Int32)), .val (.int (8 : Int32)), .val (.int (4 : Int32)), .val (.int (1 : Int32)), .val (.int (1 : Int32))]) rfl k) ?_
    show own_G p e below (T17.setTop (mkF m 102 #[.val (.long q1), .second, .val (.int p2), .val (.long bb), .second, .val (.int (4 : Int32)), .val (.int (8 : Int32)), .val (.int (4 : Int32)), .val (.int (1 : Int32)), .val (.int (1 : Int32))] [])) _
    refine own_go (fun _ k => XS.iload X17.here hx rfl (hb hby at_102) rfl k) ?_
    show own_G p e below (T17.setTop (mkF m 104 #[.val (.long q1), .second, .val (.int p2), .val (.long bb), .second, .val (.int (4 : Int32)), .val (.int (8 : Int32)), .val (.int (4 : Int32)), .val (.int (1 : Int32)), .val (.int (1 : Int32))] [(.int (1 : Int32))])) _
    refine own_go (fun _ k => XS.ifNo X17.here hx rfl (hb hby at_104) rfl ((if0 _ _).trans (feq (by decide : ¬ ((1 : Int32) = (0 : Int32)))).1) k) ?_
    show own_G p e below (T17.setTop (mkF m 107 #[.val (.long q1), .second, .val (.int p2), .val (.long bb), .second, .val (.int (4 : Int32)), .val (.int (8 : Int32)), .val (.int (4 : Int32)), .val (.int (1 : Int32)), .val (.int (1 : Int32))] [])) _
    refine own_go (fun _ k => XS.iload X17.here hx rfl (hb hby at_107) rfl k) ?_
    show own_G p e below (T17.setTop (mkF m 109 #[.val (.long q1), .second, .val (.int p2), .val (.long bb), .second, .val (.int (4 : Int32)), .val (.int (8 : Int32)), .val (.int (4 : Int32)), .val (.int (1 : Int32)), .val (.int (1 : Int32))] [(.int (1 : Int32))])) _
    refine own_go (fun _ k => XS.ifNo X17.here hx rfl (hb hby at_109) rfl ((if0 _ _).trans (feq (by decide : ¬ ((1 : Int32) = (0 : Int32)))).1) k) ?_
    show own_G p e below (T17.setTop (mkF m 112 #[.val (.long q1), .second, .val (.int p2), .val (.long bb), .second, .val (.int (4 : Int32)), .val (.int (8 : Int32)), .val (.int (4 : Int32)), .val (.int (1 : Int32)), .val (.int (1 : Int32))] [])) _
    refine own_go (fun _ k => XS.iconst X17.here hx rfl (hb hby at_112) k) ?_
    show own_G p e below (T17.setTop (mkF m 113 #[.val (.long q1), .second, .val (.int p2), .val (.long bb), .second, .val (.int (4 : Int32)), .val (.int (8 : Int32)), .val (.int (4 : Int32)), .val (.int (1 : Int32)), .val (.int (1 : Int32))] [(.int (1 : Int32))])) _
    refine own_go (fun _ k => XS.goto X17.here hx rfl (pc0 := 113) (pc' := 117) rfl (hb hby at_113) (by decide) (by decide) k) ?_
    show own_G p e below (T17.setTop (mkF m 117 #[.val (.long q1), .second, .val (.int p2), .val (.long bb), .second, .val (.int (4 : Int32)), .val (.int (8 : Int32)), .val (.int (4 : Int32)), .val (.int (1 : Int32)), .val (.int (1 : Int32))] [(.int (1 : Int32))])) _
    refine own_ret X17 hlk (v := some (.int (1 : Int32))) (fun h => by rw [hret] at h; cases h) (Q0 Z q1 p2 h0 n0) (own_retI X17 hx (t := .boolean) hret rfl (Or.inl ⟨rfl, by simp, _, rfl⟩) (hb hby at_117)) (by decide) (by decide) ?_
    show Q0 Z q1 p2 h0 n0 _ T17.heap _
    rw [e17]
    exact ⟨rfl, N17⟩
set_option maxRecDepth 65536 in
set_option maxHeartbeats 40000000 in
theorem comes_1 {Post : Tables → Env → Array Value → State → Outcome → State → Prop} (hpost : ∀ tb e args s v u, (limb_1_1.after args s (.returned v) u = true ∧ limb_1_2.after args s (.returned v) u = true ∧ True) → FrameEnd s (.returned v) u (Jvm.fieldLocs frame_1_writes args s ++ Jvm.arrayLocs frame_1_arrays args s ++ Jvm.staticLocs frame_1_statics s) 0 0 → Post tb e args s (.returned v) u) :
    ArmFor flags0 classFile x code maxLocals ret World_1 tables_1 room_1 Calls_1 rest_1 Pre_1 Post := by
  intro l hfl _ _ p e ha hc hk s m args below hf hA hF happ hP
  obtain ⟨hcalls, hrest, hpre⟩ := hP
  obtain ⟨-, -, -, hnamed, -, -, -, hat⟩ := (Spec.applies_iff hf).mp happ
  obtain ⟨hg, hn⟩ := and_e (Cond.before_iff.mp (show (Jvm.Cond.and given_1 narrow_1).before args s = true from hpre))
  obtain ⟨g1, g2⟩ := and_e hg
  obtain ⟨g3, g4⟩ := and_e g2
  obtain ⟨w0, w1, rfl⟩ : ∃ w0 w1 : Value, args = #[w0, w1] := by
    have hs : args.size = 2 := by simpa [Cond.value, given_1] using g1
    obtain ⟨L⟩ := args
    match L, hs with
    | [w0, w1], _ => exact ⟨w0, w1, rfl⟩
  have hw := fun d (hd : d ∈ tables_1) => atoms_spec (ws := Jvm.Cond.code x code maxLocals ret :: tables_1) hat d (List.mem_cons_of_mem _ hd)
  obtain ⟨i0, ei0⟩ := isL_v g3
  obtain rfl : w0 = (.long i0) := Option.some.inj ei0
  obtain ⟨i1, ei1⟩ := is_v g4
  obtain rfl : w1 = (.int i1) := Option.some.inj ei1
  obtain ⟨n, o, h1, h2, h3, _, L, rfl, ⟨rfl, N⟩, hq⟩ := rm0 l s _ hw tables_1 i0 i1 s.heap s.heap.size (Nat.le_refl _) p e ha hc hk s m _ below hf ((Spec.applies_iff_loose hf).mp happ).1 ⟨rfl, State.Warmed39.refl s, rfl⟩ trivial
  refine ⟨n, _, h1, h2, h3, hpost _ _ _ _ _ _ ⟨Cond.after_iff.mpr rfl, Cond.after_iff.mpr (eq_i res_at (Term.int_eval (1)) rfl), trivial⟩ ⟨hq.1, hq.2.1, (hq.2.2.sift fun y hy => Or.inr (N y hy)).mono (by decide) (by decide)⟩⟩
theorem main_1_1 : Claimed_1_1 := comes_1 fun _ _ _ _ _ _ h hF => ⟨h.1, hF⟩
theorem main_1_2 : Claimed_1_2 := comes_1 fun _ _ _ _ _ _ h hF => ⟨h.2.1, hF⟩
end Jvm.Pilot.@@N@@
namespace Jvm.Pilot.@@N@@
open Jvm Jvm.ClassFile Sem Op Lib Jvm.Free Jvm.Stand Jvm.Pilot.@@N@@.Jvm.D
/-! MADE BY PROGRAM (witnessworld.py) out of the Statement's table words and the real class files: 9 classes; the members and pool entries that the words name. The judged class is class 1, her method 2. -/
namespace start1
open Jvm.ClassFile
def u (s : String) : CpInfo := .utf8 (stringToUtf16 s)
/-- a pool by its gaps: so many unusable entries, then the entry; so many at the end -/
def gap : Nat → List CpInfo → List CpInfo
  | 0, r => r
  | n + 1, r => .unusable :: gap n r
def poolList (es : List (Nat × CpInfo)) (last : Nat) : List CpInfo := es.foldr (fun e r => gap e.1 (e.2 :: r)) (gap last [])
def pool (es : List (Nat × CpInfo)) (last : Nat) : Array CpInfo := ⟨poolList es last⟩
def fileOf (pool : Array CpInfo) (this : Nat) (attrs : Array Attribute := #[]) (ms : Array MethodInfo := #[]) (fl : Nat := 33) (sup : Nat := 0) (ifs : Array Nat := #[]) (fds : Array FieldInfo := #[]) : ClassFile where
  minorVersion := 0
  majorVersion := 65
  constantPool := pool
  accessFlags := fl
  thisClass := this
  superClass := sup
  interfaces := ifs
  fields := fds
  methods := ms
  attributes := attrs
def plain (name : String) (sup : Option ClassId) : Class where
  name := name
  kind := .ordinary
  loader := none
  accessFlags := 33
  super := sup
  interfaces := #[]
  cf := none
  fields := #[]
  methods := #[]
  instanceTypes := #[]
  staticTypes := #[]
  resolved := #[]
  callSites := []
  init := .initialized
  statics := none
  mirror := none

def pool0 : Array CpInfo := pool [(5, u "<init>"), (0, u "()V"), (1, .class_ 10), (1, u "java/lang/Object")] 113

def k0m0 : Method := { name := "<init>", desc := "()V", sig := { parameters := [], returnType := none }, accessFlags := 1, code := none }
/-- java/lang/Object -/
def k0 : Class := { plain "java/lang/Object" none with
  accessFlags := 33
  interfaces := #[]
  cf := some (fileOf pool0 8 #[] #[{ accessFlags := 1, nameIndex := 5, descriptorIndex := 6, attributes := #[] }] 33 0 #[] #[])
  fields := #[]
  methods := #[k0m0]
  instanceTypes := #[]
  staticTypes := #[]
  resolved := Array.replicate 124 none
  statics := none }

def pool1 : Array CpInfo := pool [(2, .class_ 4), (1, u "java/lang/Object"), (0, u "<init>"), (0, u "()V"), (0, .methodref 8 9), (0, .class_ 10), (0, .nameAndType 11 12), (0, u "com/example/tagwire/tagwire/Wire"), (0, u "numberType"), (0, u "(J)I"), (0, .methodref 14 15), (0, .class_ 16), (0, .nameAndType 17 18), (0, u "com/example/tagwire/tagwire/WireNumberTypePinLaw"), (0, u "widthOf"), (0, u "(I)I"), (3, u "law"), (0, u "(JI)Z")] 2

def k1m0 : Method := { name := "<init>", desc := "()V", sig := { parameters := [], returnType := none }, accessFlags := 2, code := none }
def k1c1 : Code := { maxStack := 2, maxLocals := 1, code := method_2_code, exceptionTable := #[], attributes := #[] }
def k1m1 : Method := { name := "widthOf", desc := "(I)I", sig := { parameters := [.int], returnType := some .int }, accessFlags := 10, code := some k1c1 }
def k1c2 : Code := { maxStack := 4, maxLocals := 10, code := code, exceptionTable := #[], attributes := #[] }
def k1m2 : Method := { name := "law", desc := "(JI)Z", sig := { parameters := [.long, .int], returnType := some .boolean }, accessFlags := 9, code := some k1c2 }
/-- com/example/tagwire/tagwire/WireNumberTypePinLaw -/
def k1 : Class := { plain "com/example/tagwire/tagwire/WireNumberTypePinLaw" (some 0) with
  accessFlags := 49
  interfaces := #[]
  cf := some (fileOf pool1 14 #[] #[{ accessFlags := 2, nameIndex := 5, descriptorIndex := 6, attributes := #[] }, { accessFlags := 10, nameIndex := 17, descriptorIndex := 18, attributes := #[] }, { accessFlags := 9, nameIndex := 22, descriptorIndex := 23, attributes := #[] }] 49 2 #[] #[])
  fields := #[]
  methods := #[k1m0, k1m1, k1m2]
  instanceTypes := #[]
  staticTypes := #[]
  resolved := Array.replicate 26 none
  statics := none }

def pool2 : Array CpInfo := pool [(2, .class_ 4), (1, u "java/lang/Object"), (0, u "<init>"), (0, u "()V"), (1, .class_ 10), (1, u "com/example/tagwire/tagwire/Wire"), (0, u "WIDTH"), (0, u "[I"), (0, .long 18446744073709551360), (1, .long 18446744073709486080), (1, .long 18446744069414584320), (33, u "ZERO"), (0, u "I"), (2, u "N8"), (1, u "N16"), (1, u "N32"), (1, u "N64"), (1, u "L8"), (1, u "L16"), (1, u "L32"), (1, u "MAX_INDEX"), (1, u "ONE_BYTE_KEY_BITS"), (1, u "MAX_KEY_BYTES"), (0, u "TWO_BYTE_KEY_FLAG"), (1, u "MAX_VARINT32_BYTES"), (0, u "MAX_VARINT64_BYTES"), (1, u "MAX_DEPTH"), (1, u "MAX_DECIMAL"), (0, u "Ljava/lang/String;"), (10, u "numberType"), (0, u "(J)I")] 29

def k2m0 : Method := { name := "<init>", desc := "()V", sig := { parameters := [], returnType := none }, accessFlags := 2, code := none }
def k2c1 : Code := { maxStack := 4, maxLocals := 3, code := prog_20_method_6_code, exceptionTable := #[], attributes := #[] }
def k2m1 : Method := { name := "numberType", desc := "(J)I", sig := { parameters := [.long], returnType := some .int }, accessFlags := 8, code := some k2c1 }
/-- com/example/tagwire/tagwire/Wire -/
def k2 : Class := { plain "com/example/tagwire/tagwire/Wire" (some 0) with
  accessFlags := 48
  interfaces := #[]
  cf := some (fileOf pool2 8 #[] #[{ accessFlags := 2, nameIndex := 5, descriptorIndex := 6, attributes := #[] }, { accessFlags := 8, nameIndex := 93, descriptorIndex := 94, attributes := #[] }] 48 2 #[] #[{ accessFlags := 24, nameIndex := 51, descriptorIndex := 52, attributes := #[] }, { accessFlags := 24, nameIndex := 55, descriptorIndex := 52, attributes := #[] }, { accessFlags := 24, nameIndex := 57, descriptorIndex := 52, attributes := #[] }, { accessFlags := 24, nameIndex := 59, descriptorIndex := 52, attributes := #[] }, { accessFlags := 24, nameIndex := 61, descriptorIndex := 52, attributes := #[] }, { accessFlags := 24, nameIndex := 63, descriptorIndex := 52, attributes := #[] }, { accessFlags := 24, nameIndex := 65, descriptorIndex := 52, attributes := #[] }, { accessFlags := 24, nameIndex := 67, descriptorIndex := 52, attributes := #[] }, { accessFlags := 24, nameIndex := 69, descriptorIndex := 52, attributes := #[] }, { accessFlags := 24, nameIndex := 71, descriptorIndex := 52, attributes := #[] }, { accessFlags := 24, nameIndex := 73, descriptorIndex := 52, attributes := #[] }, { accessFlags := 24, nameIndex := 74, descriptorIndex := 52, attributes := #[] }, { accessFlags := 24, nameIndex := 76, descriptorIndex := 52, attributes := #[] }, { accessFlags := 24, nameIndex := 77, descriptorIndex := 52, attributes := #[] }, { accessFlags := 24, nameIndex := 79, descriptorIndex := 52, attributes := #[] }, { accessFlags := 26, nameIndex := 11, descriptorIndex := 12, attributes := #[] }, { accessFlags := 26, nameIndex := 81, descriptorIndex := 82, attributes := #[] }])
  fields := #[{ name := "ZERO", type := .int, accessFlags := 24, slot := 0, constantValue := 0 }, { name := "N8", type := .int, accessFlags := 24, slot := 1, constantValue := 0 }, { name := "N16", type := .int, accessFlags := 24, slot := 2, constantValue := 0 }, { name := "N32", type := .int, accessFlags := 24, slot := 3, constantValue := 0 }, { name := "N64", type := .int, accessFlags := 24, slot := 4, constantValue := 0 }, { name := "L8", type := .int, accessFlags := 24, slot := 5, constantValue := 0 }, { name := "L16", type := .int, accessFlags := 24, slot := 6, constantValue := 0 }, { name := "L32", type := .int, accessFlags := 24, slot := 7, constantValue := 0 }, { name := "MAX_INDEX", type := .int, accessFlags := 24, slot := 8, constantValue := 0 }, { name := "ONE_BYTE_KEY_BITS", type := .int, accessFlags := 24, slot := 9, constantValue := 0 }, { name := "MAX_KEY_BYTES", type := .int, accessFlags := 24, slot := 10, constantValue := 0 }, { name := "TWO_BYTE_KEY_FLAG", type := .int, accessFlags := 24, slot := 11, constantValue := 0 }, { name := "MAX_VARINT32_BYTES", type := .int, accessFlags := 24, slot := 12, constantValue := 0 }, { name := "MAX_VARINT64_BYTES", type := .int, accessFlags := 24, slot := 13, constantValue := 0 }, { name := "MAX_DEPTH", type := .int, accessFlags := 24, slot := 14, constantValue := 0 }, { name := "WIDTH", type := (.array .int), accessFlags := 26, slot := 15, constantValue := 0 }, { name := "MAX_DECIMAL", type := (.object "java/lang/String"), accessFlags := 26, slot := 16, constantValue := 0 }]
  methods := #[k2m0, k2m1]
  instanceTypes := #[]
  staticTypes := #[.int, .int, .int, .int, .int, .int, .int, .int, .int, .int, .int, .int, .int, .int, .int, (.array .int), (.object "java/lang/String")]
  resolved := Array.replicate 124 none
  statics := none }

def pool3 : Array CpInfo := pool [(1, u "java/lang/Cloneable"), (0, .class_ 1), (0, u "java/lang/Object"), (0, .class_ 3)] 3

/-- java/lang/Cloneable -/
def k3 : Class := { plain "java/lang/Cloneable" (some 0) with
  accessFlags := 1537
  interfaces := #[]
  cf := some (fileOf pool3 2 #[] #[] 1537 4 #[] #[])
  fields := #[]
  methods := #[]
  instanceTypes := #[]
  staticTypes := #[]
  resolved := Array.replicate 8 none
  statics := none }

def pool4 : Array CpInfo := pool [(1, u "java/io/Serializable"), (0, .class_ 1), (0, u "java/lang/Object"), (0, .class_ 3)] 3

/-- java/io/Serializable -/
def k4 : Class := { plain "java/io/Serializable" (some 0) with
  accessFlags := 1537
  interfaces := #[]
  cf := some (fileOf pool4 2 #[] #[] 1537 4 #[] #[])
  fields := #[]
  methods := #[]
  instanceTypes := #[]
  staticTypes := #[]
  resolved := Array.replicate 8 none
  statics := none }

/-- the primitive byte -/
def k5 : Class := { plain "byte" none with kind := .primitive 'B', accessFlags := 0x411 }
/-- [B -/
def k6 : Class := { plain "[B" (some 0) with kind := .array 5 .byte, interfaces := #[3, 4], accessFlags := 1041 }

/-- the primitive int -/
def k7 : Class := { plain "int" none with kind := .primitive 'I', accessFlags := 0x411 }
/-- [I -/
def k8 : Class := { plain "[I" (some 0) with kind := .array 7 .int, interfaces := #[3, 4], accessFlags := 1041 }

def heap : Heap := #[]
def classes : Array Class := #[k0, k1, k2, k3, k4, k5, k6, k7, k8]
def interned : List (Array UInt16 × Addr) := []
def slotsUsed : Nat := 0
def theMethod : MethodId := ⟨1, 2⟩
def args0 : Array Value := #[.long 5, .int 5]
def aboutOver (below : List Frame) : State where
  vm := { classes := classes, interned := interned.toArray }
  heap := heap
  slotsUsed := slotsUsed
  threads := #[{ frames := .invoking theMethod args0 :: below }]
def below0 : List Frame := [.native { method := ⟨0, 0⟩, args := #[] }]
def about1 : State := aboutOver below0
def p0 : Program := .bare "" "" ""
def e0 : Env := launch0.env 0 0 0
theorem w_frames : about1.frames = Frame.invoking theMethod args0 :: below0 := rfl
set_option maxRecDepth 65536 in
theorem w_args : argsFit about1.vm theMethod args0 = true := by decide +kernel
set_option maxRecDepth 65536 in
theorem w_heap : heapFits about1 = true := by decide +kernel
set_option maxRecDepth 65536 in
theorem w_runnable : about1.curStatus? = some .runnable := by decide +kernel
set_option maxRecDepth 65536 in
theorem w_alone : about1.alone = true := by decide +kernel
set_option maxRecDepth 65536 in
theorem w_named : about1.methodNamed? x = some theMethod := by decide +kernel
set_option maxRecDepth 65536 in
theorem w_hears : about1.hears theMethod below0 = true := by decide +kernel
set_option maxRecDepth 65536 in
theorem w_ripe : about1.ripe theMethod args0 below0 = true := by decide +kernel
theorem w_running : about1.status = .running := rfl
set_option maxRecDepth 65536 in
theorem w_room : about1.hasRoom e0.platform room_1 = true :=
  launch0.hasRoom_least _ room_1 (by decide +kernel) (by decide +kernel) (by decide +kernel) (by decide +kernel) (by decide +kernel) (by decide +kernel)
theorem allAtoms_all (ts : List Jvm.Cond) (a : Array Jvm.Value) (st : Jvm.State) : (allAtoms ts).before a st = ts.all (fun c => c.before a st) := by
  induction ts with
  | nil => rfl
  | cons c t ih =>
    show (Jvm.Cond.and c (allAtoms t)).before a st = _
    rw [Jvm.Cond.before_and, ih, List.all_cons]
def words1 : List Jvm.Cond := Jvm.Cond.code x code maxLocals ret :: tables_1
/-- a 'code' word, met by the world's own term for the bytes: nothing is compared byte by byte -/
theorem code_word {y : MethodName} {bytes : ByteArray} {mx : Nat} {rt : Option FieldType} {a : Array Value} {s : State} {m : MethodId} {meth : Method} {c : Code} (h1 : s.methodNamed? y = some m) (h2 : s.vm.method? m = some meth) (h3 : meth.code = some c) (h4 : c.code = bytes)
    (h5 : (c.maxLocals == mx && c.exceptionTable.isEmpty && decide (c.maxStack ≤ mostOperands) && decide (meth.sig.returnType = rt) && !meth.locks && decide (parseMethodDescriptor y.desc = some meth.sig)) = true) : (Jvm.Cond.code y bytes mx rt).before a s = true := by
  simp only [Bool.and_eq_true, beq_iff_eq, Bool.not_eq_true', decide_eq_true_eq] at h5
  obtain ⟨⟨⟨⟨⟨g1, g2⟩, g3⟩, g4⟩, g5⟩, g6⟩ := h5
  simp [Cond.before, Cond.holds, Cond.value, h1, h2, h3, h4, g1, g2, g3, g4, g5, g6]
def isCode : Jvm.Cond → Bool
  | .code _ _ _ _ => true
  | _ => false
theorem all_split {L : List Jvm.Cond} {P : Jvm.Cond → Bool} (h1 : L.all (fun c => isCode c || P c) = true) (h2 : ∀ c ∈ L.filter isCode, P c = true) : L.all P = true := by
  refine List.all_eq_true.mpr fun c hc => ?_
  have h := List.all_eq_true.mp h1 c hc
  rcases Bool.eq_false_or_eq_true (isCode c) with hi | hi
  · exact h2 c (List.mem_filter.mpr ⟨hc, hi⟩)
  · simpa [hi] using h
set_option maxRecDepth 65536 in
theorem w_c0 : (Jvm.Cond.code x code maxLocals ret).before args0 about1 = true := code_word (m := ⟨1, 2⟩) (meth := k1m2) (c := k1c2) (by decide +kernel) rfl rfl rfl (by decide +kernel)
set_option maxRecDepth 65536 in
theorem w_c1 : (Jvm.Cond.code ({ cls := "com/example/tagwire/tagwire/Wire", name := "numberType", desc := "(J)I" } : Jvm.MethodName) prog_20_method_6_code (3 : Nat) (Option.some Jvm.ClassFile.FieldType.int)).before args0 about1 = true := code_word (m := ⟨2, 1⟩) (meth := k2m1) (c := k2c1) (by decide +kernel) rfl rfl rfl (by decide +kernel)
set_option maxRecDepth 65536 in
theorem w_c2 : (Jvm.Cond.code ({ cls := "com/example/tagwire/tagwire/WireNumberTypePinLaw", name := "widthOf", desc := "(I)I" } : Jvm.MethodName) method_2_code (1 : Nat) (Option.some Jvm.ClassFile.FieldType.int)).before args0 about1 = true := code_word (m := ⟨1, 1⟩) (meth := k1m1) (c := k1c1) (by decide +kernel) rfl rfl rfl (by decide +kernel)
def codes1 : List Jvm.Cond := [Jvm.Cond.code x code maxLocals ret, Jvm.Cond.code ({ cls := "com/example/tagwire/tagwire/Wire", name := "numberType", desc := "(J)I" } : Jvm.MethodName) prog_20_method_6_code (3 : Nat) (Option.some Jvm.ClassFile.FieldType.int), Jvm.Cond.code ({ cls := "com/example/tagwire/tagwire/WireNumberTypePinLaw", name := "widthOf", desc := "(I)I" } : Jvm.MethodName) method_2_code (1 : Nat) (Option.some Jvm.ClassFile.FieldType.int)]
set_option maxRecDepth 65536 in
theorem codes_eq : words1.filter isCode = codes1 := rfl
theorem w_codes : ∀ c ∈ words1.filter isCode, c.before args0 about1 = true := by
  rw [codes_eq]
  intro c hc
  simp only [codes1, List.mem_cons, List.not_mem_nil, or_false] at hc
  rcases hc with rfl | rfl | rfl
  · exact w_c0
  · exact w_c1
  · exact w_c2
set_option maxRecDepth 65536 in
theorem w_t1 : words1.all (fun c => isCode c || c.before args0 about1) = true := by decide +kernel
theorem w_tables : (allAtoms (Jvm.Cond.code x code maxLocals ret :: tables_1)).before args0 about1 = true := by
  rw [allAtoms_all]
  show words1.all (fun c => c.before args0 about1) = true
  refine all_split ?_ w_codes
  rw [w_t1]
set_option maxRecDepth 65536 in
theorem w_case : (Jvm.Cond.and given_1 narrow_1).before args0 about1 = true := by decide +kernel
theorem w_applies : (headSpec (Jvm.Cond.code x code maxLocals ret :: tables_1) room_1).applies x e0.platform about1 = true :=
  (Spec.applies_iff w_frames).mpr ⟨w_running, w_runnable, w_alone, w_named, w_hears, w_ripe, w_room, w_tables⟩
theorem atStart : AtStart classFile x code maxLocals ret World_1 tables_1 room_1 Calls_1 rest_1 Pre_1 launch0 p0 e0 about1 theMethod args0 below0 :=
  ⟨lists_1, trivial, launch0.admits_env _ _ _, launch0.least_env, fairChoices_fair.cas, fairChoices_fair.clock, w_frames, w_args, w_heap, w_applies, trivial, trivial, w_case⟩
end start1
theorem witness_1 : WitnessClaimed_1 := ⟨start1.p0, start1.e0, start1.about1, start1.theMethod, start1.args0, start1.below0, start1.atStart⟩
end Jvm.Pilot.@@N@@
